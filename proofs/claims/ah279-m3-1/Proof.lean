import JvmDerived
import JvmDerived.Pilot.@@N@@Statement
import JvmDerived.Pilot.@@N@@Code
set_option linter.unusedVariables false
set_option linter.unusedSimpArgs false
namespace Jvm.RoadKit
theorem own_add32 {a b : Int32} (h1 : -2147483648 ≤ a.toInt + b.toInt) (h2 : a.toInt + b.toInt < 2147483648) : (a + b).toInt = a.toInt + b.toInt := by
  rw [Int32.toInt_add]; exact Int.bmod_eq_of_le (by omega) (by omega)
theorem own_sub32 {a b : Int32} (h1 : -2147483648 ≤ a.toInt - b.toInt) (h2 : a.toInt - b.toInt < 2147483648) : (a - b).toInt = a.toInt - b.toInt := by
  rw [Int32.toInt_sub]; exact Int.bmod_eq_of_le (by omega) (by omega)
theorem own_mul32 {a b : Int32} (h1 : -2147483648 ≤ a.toInt * b.toInt) (h2 : a.toInt * b.toInt < 2147483648) : (a * b).toInt = a.toInt * b.toInt := by
  rw [Int32.toInt_mul]; exact Int.bmod_eq_of_le (by omega) (by omega)
theorem own_add64 {a b : Int64} (h1 : -9223372036854775808 ≤ a.toInt + b.toInt) (h2 : a.toInt + b.toInt < 9223372036854775808) : (a + b).toInt = a.toInt + b.toInt := by
  rw [Int64.toInt_add]; exact Int.bmod_eq_of_le (by omega) (by omega)
theorem own_sub64 {a b : Int64} (h1 : -9223372036854775808 ≤ a.toInt - b.toInt) (h2 : a.toInt - b.toInt < 9223372036854775808) : (a - b).toInt = a.toInt - b.toInt := by
  rw [Int64.toInt_sub]; exact Int.bmod_eq_of_le (by omega) (by omega)
theorem own_mul64 {a b : Int64} (h1 : -9223372036854775808 ≤ a.toInt * b.toInt) (h2 : a.toInt * b.toInt < 9223372036854775808) : (a * b).toInt = a.toInt * b.toInt := by
  rw [Int64.toInt_mul]; exact Int.bmod_eq_of_le (by omega) (by omega)
/-- a mask that isn't negative -/
theorem own_mask32 (x k : Int32) (hk : 0 ≤ k.toInt) : 0 ≤ (x &&& k).toInt ∧ (x &&& k).toInt ≤ k.toInt := by
  have hk' : k.toBitVec.toNat < 2 ^ 31 := by
    have := k.toBitVec.isLt
    have e : k.toInt = k.toBitVec.toInt := rfl
    rw [e, BitVec.toInt_eq_toNat_cond] at hk
    split at hk <;> omega
  have h1 : (x &&& k).toInt = (x.toBitVec &&& k.toBitVec).toInt := rfl
  have h2 : (x.toBitVec &&& k.toBitVec).toNat ≤ k.toBitVec.toNat := by rw [BitVec.toNat_and]; exact Nat.and_le_right
  have e : k.toInt = k.toBitVec.toInt := rfl
  rw [h1, e, BitVec.toInt_eq_toNat_of_lt (by omega), BitVec.toInt_eq_toNat_of_lt (by omega)]; omega
theorem own_mask64 (x k : Int64) (hk : 0 ≤ k.toInt) : 0 ≤ (x &&& k).toInt ∧ (x &&& k).toInt ≤ k.toInt := by
  have hk' : k.toBitVec.toNat < 2 ^ 63 := by
    have := k.toBitVec.isLt
    have e : k.toInt = k.toBitVec.toInt := rfl
    rw [e, BitVec.toInt_eq_toNat_cond] at hk
    split at hk <;> omega
  have h1 : (x &&& k).toInt = (x.toBitVec &&& k.toBitVec).toInt := rfl
  have h2 : (x.toBitVec &&& k.toBitVec).toNat ≤ k.toBitVec.toNat := by rw [BitVec.toNat_and]; exact Nat.and_le_right
  have e : k.toInt = k.toBitVec.toInt := rfl
  rw [h1, e, BitVec.toInt_eq_toNat_of_lt (by omega), BitVec.toInt_eq_toNat_of_lt (by omega)]; omega
end Jvm.RoadKit
namespace Jvm.RoadKit
open Sem ClassFile Op Lib Jvm.Stand Jvm.Free Jvm.LawKit
section Own
variable {p : Program} {l : Launch} {e : Env} {R : Room} {s : State} {m : MethodId} {args : Array Value} {below : List Frame} {meth : Method} {c : Code} {T : State} {locs : List Loc} {cells slots : Nat} {Z : State} {h h' : Heap} {a b : Addr} {ty : FieldType} {n : Nat} {f f' : Nat → Value} {sl : Nat} {v : Value} {ws : List Addr}
/-- an array of n places, place i holds f i -/
def ArF (Z : State) (h : Heap) (a : Addr) (ty : FieldType) (n : Nat) (f : Nat → Value) : Prop := ∃ c : Cell, Arr Z h a c ty ∧ c.slots.size = n ∧ n < 2 ^ 31 ∧ ∀ i, i < n → c.slots[i]? = some (f i)
theorem ArF.lt (F : ArF Z h a ty n f) : a < h.size := by obtain ⟨c, A, -⟩ := F; exact A.lt
theorem ArF.ext (F : ArF Z h a ty n f) (E : Ext h h') : ArF Z h' a ty n f := by obtain ⟨c, A, r⟩ := F; exact ⟨c, A.ext E, r⟩
theorem ArF.other (F : ArF Z h a ty n f) (W : Wr h h' b sl v) (q : a ≠ b) : ArF Z h' a ty n f := by obtain ⟨c, A, r⟩ := F; exact ⟨c, A.other W q, r⟩
theorem ArF.keep (F : ArF Z h a ty n f) (K : Keep h h' ws) (q : a ∉ ws) : ArF Z h' a ty n f := by obtain ⟨c, A, r⟩ := F; exact ⟨c, ⟨K.2.1 a c A.1 q, A.2⟩, r⟩
theorem ArF.congr (F : ArF Z h a ty n f) (q : ∀ i, i < n → f i = f' i) : ArF Z h a ty n f' := by obtain ⟨c, A, r1, r2, r3⟩ := F; exact ⟨c, A, r1, r2, fun i hi => by rw [← q i hi]; exact r3 i hi⟩
theorem ArF.new {k : ClassId} {z : Int32} {dv : Value} (A : Arr Z h a (newA k ty z) ty) (q : ¬ z < 0) (hn : z.toNatClampNeg = n) (hdv : defaultValue ty = dv := by rfl) : ArF Z h a ty n (fun _ => dv) := by
  subst hn hdv
  refine ⟨_, A, sz_new _ _ _, (back32 q).2, fun i hi => ?_⟩
  simp [newA, hi]
theorem own_clamp {j : Int32} {i : Nat} (hj : j.toInt = (i : Int)) : j.toNatClampNeg = i := by
  show j.toInt.toNat = i
  rw [hj]; rfl
theorem own_inb {c : Cell} {j : Int32} {i : Nat} (S : c.slots.size = n) (hj : j.toInt = (i : Int)) (hi : i < n) : ¬ (j < 0 ∨ c.slots.size ≤ j.toNatClampNeg) := by
  rw [own_clamp hj, S]
  rintro (q | q)
  · rw [Int32.lt_iff_toInt_lt, hj] at q
    have : (0 : Int32).toInt = 0 := by decide
    omega
  · omega
theorem ArF.setW {i : Nat} {c : Cell} (A : Arr Z h a c ty) (S : c.slots.size = n) (q3 : n < 2 ^ 31) (H : ∀ k, k < n → c.slots[k]? = some (f k)) (W : Wr h h' a i v) : ArF Z h' a ty n (fun q => if q = i then v else f q) := by
  refine ⟨_, A.same W, by rw [sz_set, S], q3, fun k hk => ?_⟩
  by_cases e : k = i
  · subst e; simp [Cell.setSlot, S, hk]
  · simp only [if_neg e, Cell.setSlot]
    rw [Array.getElem?_setIfInBounds_ne (Ne.symm e)]; exact H k hk
theorem ArF.stI (X : Stand p l e R s m args below meth c T locs cells slots) (hx : p.tables.exec = Jvm.exec) (hZ : Z.Warmed39 s.vm) (eT : T.heap = h) (F : ArF Z h a .int n f) {j x : Int32} {i : Nat} (hj : j.toInt = (i : Int)) (hi : i < n) {g : JFrame} (hg : g.method = m) {rest : List Value} (hs : g.stack = .int x :: .int j :: .ref a :: rest) (hd : decode c.code g.pc = .ok (.iastore, 1)) :
    ∃ T' h', Stand p l e R s m args below meth c T' (locs ++ [⟨a, i⟩]) cells slots ∧ T'.heap = h' ∧ Wr h h' a i (.int x) ∧ ArF Z h' a .int n (fun q => if q = i then .int x else f q) ∧ ∀ target, Steps p.tables e below (T'.setTop { g with pc := g.pc + 1, stack := rest }) target → Steps p.tables e below (T.setTop g) target := by
  obtain ⟨c, A, S, q3, H⟩ := F
  obtain ⟨T', h', X', e', W, st⟩ := Jvm.RoadKit.stI X hx hZ eT A (own_inb S hj hi) hg hs hd
  rw [own_clamp hj] at X' W
  exact ⟨T', h', X', e', W, ArF.setW A S q3 H W, st⟩
theorem ArF.stJ (X : Stand p l e R s m args below meth c T locs cells slots) (hx : p.tables.exec = Jvm.exec) (hZ : Z.Warmed39 s.vm) (eT : T.heap = h) (F : ArF Z h a .long n f) {j : Int32} {x : Int64} {i : Nat} (hj : j.toInt = (i : Int)) (hi : i < n) {g : JFrame} (hg : g.method = m) {rest : List Value} (hs : g.stack = .long x :: .int j :: .ref a :: rest) (hd : decode c.code g.pc = .ok (.lastore, 1)) :
    ∃ T' h', Stand p l e R s m args below meth c T' (locs ++ [⟨a, i⟩]) cells slots ∧ T'.heap = h' ∧ Wr h h' a i (.long x) ∧ ArF Z h' a .long n (fun q => if q = i then .long x else f q) ∧ ∀ target, Steps p.tables e below (T'.setTop { g with pc := g.pc + 1, stack := rest }) target → Steps p.tables e below (T.setTop g) target := by
  obtain ⟨c, A, S, q3, H⟩ := F
  obtain ⟨T', h', X', e', W, st⟩ := Jvm.RoadKit.stJ X hx hZ eT A (own_inb S hj hi) hg hs hd
  rw [own_clamp hj] at X' W
  exact ⟨T', h', X', e', W, ArF.setW A S q3 H W, st⟩
theorem ArF.stB (X : Stand p l e R s m args below meth c T locs cells slots) (hx : p.tables.exec = Jvm.exec) (hZ : Z.Warmed39 s.vm) (eT : T.heap = h) (F : ArF Z h a .byte n f) {j x : Int32} {i : Nat} (hj : j.toInt = (i : Int)) (hi : i < n) {g : JFrame} (hg : g.method = m) {rest : List Value} (hs : g.stack = .int x :: .int j :: .ref a :: rest) (hd : decode c.code g.pc = .ok (.bastore, 1)) :
    ∃ T' h', Stand p l e R s m args below meth c T' (locs ++ [⟨a, i⟩]) cells slots ∧ T'.heap = h' ∧ Wr h h' a i (.int (nar .byte x)) ∧ ArF Z h' a .byte n (fun q => if q = i then .int (nar .byte x) else f q) ∧ ∀ target, Steps p.tables e below (T'.setTop { g with pc := g.pc + 1, stack := rest }) target → Steps p.tables e below (T.setTop g) target := by
  obtain ⟨c, A, S, q3, H⟩ := F
  obtain ⟨T', h', X', e', W, st⟩ := Jvm.RoadKit.stB X hx hZ eT A (own_inb S hj hi) hg hs hd
  rw [own_clamp hj] at X' W
  exact ⟨T', h', X', e', W, ArF.setW A S q3 H W, st⟩
theorem ArF.stC (X : Stand p l e R s m args below meth c T locs cells slots) (hx : p.tables.exec = Jvm.exec) (hZ : Z.Warmed39 s.vm) (eT : T.heap = h) (F : ArF Z h a .char n f) {j x : Int32} {i : Nat} (hj : j.toInt = (i : Int)) (hi : i < n) {g : JFrame} (hg : g.method = m) {rest : List Value} (hs : g.stack = .int x :: .int j :: .ref a :: rest) (hd : decode c.code g.pc = .ok (.castore, 1)) :
    ∃ T' h', Stand p l e R s m args below meth c T' (locs ++ [⟨a, i⟩]) cells slots ∧ T'.heap = h' ∧ Wr h h' a i (.int (nar .char x)) ∧ ArF Z h' a .char n (fun q => if q = i then .int (nar .char x) else f q) ∧ ∀ target, Steps p.tables e below (T'.setTop { g with pc := g.pc + 1, stack := rest }) target → Steps p.tables e below (T.setTop g) target := by
  obtain ⟨c, A, S, q3, H⟩ := F
  obtain ⟨T', h', X', e', W, st⟩ := Jvm.RoadKit.stC X hx hZ eT A (own_inb S hj hi) hg hs hd
  rw [own_clamp hj] at X' W
  exact ⟨T', h', X', e', W, ArF.setW A S q3 H W, st⟩
theorem ArF.stZ (X : Stand p l e R s m args below meth c T locs cells slots) (hx : p.tables.exec = Jvm.exec) (hZ : Z.Warmed39 s.vm) (eT : T.heap = h) (F : ArF Z h a .boolean n f) {j x : Int32} {i : Nat} (hj : j.toInt = (i : Int)) (hi : i < n) {g : JFrame} (hg : g.method = m) {rest : List Value} (hs : g.stack = .int x :: .int j :: .ref a :: rest) (hd : decode c.code g.pc = .ok (.bastore, 1)) :
    ∃ T' h', Stand p l e R s m args below meth c T' (locs ++ [⟨a, i⟩]) cells slots ∧ T'.heap = h' ∧ Wr h h' a i (.int (nar .boolean x)) ∧ ArF Z h' a .boolean n (fun q => if q = i then .int (nar .boolean x) else f q) ∧ ∀ target, Steps p.tables e below (T'.setTop { g with pc := g.pc + 1, stack := rest }) target → Steps p.tables e below (T.setTop g) target := by
  obtain ⟨c, A, S, q3, H⟩ := F
  obtain ⟨T', h', X', e', W, st⟩ := Jvm.RoadKit.stZ X hx hZ eT A (own_inb S hj hi) hg hs hd
  rw [own_clamp hj] at X' W
  exact ⟨T', h', X', e', W, ArF.setW A S q3 H W, st⟩
/-- an array of n references to arrays of ty, whatever it holds -/
def ArR (Z : State) (h : Heap) (a : Addr) (n : Nat) (ty : FieldType) : Prop := ∃ c : Cell, Arr Z h a c (.array ty) ∧ c.slots.size = n ∧ OvrA Z c.cls ty (FieldType.array ty).toString
theorem ArR.lt (F : ArR Z h a n ty) : a < h.size := by obtain ⟨c, A, -⟩ := F; exact A.lt
theorem ArR.ext (F : ArR Z h a n ty) (E : Ext h h') : ArR Z h' a n ty := by obtain ⟨c, A, r⟩ := F; exact ⟨c, A.ext E, r⟩
theorem ArR.other (F : ArR Z h a n ty) (W : Wr h h' b sl v) (q : a ≠ b) : ArR Z h' a n ty := by obtain ⟨c, A, r⟩ := F; exact ⟨c, A.other W q, r⟩
theorem ArR.keep (F : ArR Z h a n ty) (K : Keep h h' ws) (q : a ∉ ws) : ArR Z h' a n ty := by obtain ⟨c, A, r⟩ := F; exact ⟨c, ⟨K.2.1 a c A.1 q, A.2⟩, r⟩
theorem ArR.new {k : ClassId} {z : Int32} (A : Arr Z h a (newA k (.array ty) z) (.array ty)) (q : ¬ z < 0) (O : OvrA Z k ty (FieldType.array ty).toString) (hn : z.toNatClampNeg = n := by rfl) : ArR Z h a n ty := by
  subst hn
  exact ⟨_, A, sz_new _ _ _, O⟩
theorem ArR.st (X : Stand p l e R s m args below meth c T locs cells slots) (hx : p.tables.exec = Jvm.exec) (hZ : Z.Warmed39 s.vm) (eT : T.heap = h) (F : ArR Z h a n ty) {y : Addr} (E : Exa Z h y (FieldType.array ty).toString) {j : Int32} {i : Nat} (hj : j.toInt = (i : Int)) (hi : i < n) {g : JFrame} (hg : g.method = m) {rest : List Value} (hs : g.stack = .ref y :: .int j :: .ref a :: rest) (hd : decode c.code g.pc = .ok (.aastore, 1)) :
    ∃ T' h', Stand p l e R s m args below meth c T' (locs ++ [⟨a, i⟩]) cells slots ∧ T'.heap = h' ∧ Wr h h' a i (.ref y) ∧ ArR Z h' a n ty ∧ ∀ target, Steps p.tables e below (T'.setTop { g with pc := g.pc + 1, stack := rest }) target → Steps p.tables e below (T.setTop g) target := by
  obtain ⟨c, A, S, O⟩ := F
  obtain ⟨T', h', X', e', W, st⟩ := Jvm.RoadKit.stR X hx hZ eT A (own_inb S hj hi) rfl (Sto.ofVA A rfl O (Ins.self E)) hg hs hd
  rw [own_clamp hj] at X' W
  exact ⟨T', h', X', e', W, ⟨_, A.same W, by rw [sz_set, S], O⟩, st⟩
theorem ArF.ldI (X : Stand p l e R s m args below meth c T locs cells slots) (hx : p.tables.exec = Jvm.exec) (hZ : Z.Warmed39 s.vm) (eT : T.heap = h) (F : ArF Z h a .int n f) {j : Int32} {i : Nat} (hj : j.toInt = (i : Int)) (hi : i < n) {v : Int32} (hv : f i = .int v) {g : JFrame} (hg : g.method = m) {rest : List Value} (hs : g.stack = .int j :: .ref a :: rest) (hd : decode c.code g.pc = .ok (.iaload, 1)) :
    ∀ target, Steps p.tables e below (T.setTop { g with pc := g.pc + 1, stack := .int v :: rest }) target → Steps p.tables e below (T.setTop g) target := by
  obtain ⟨c, A, S, q3, H⟩ := F
  exact X.iaload hx (by rw [eT]; exact A.1) (State.isArrayOf_alike hZ.alike A.2.1) A.2.2 (own_inb S hj hi) (by rw [own_clamp hj, ← hv]; exact H i hi) hg hs hd
theorem ArF.ldJ (X : Stand p l e R s m args below meth c T locs cells slots) (hx : p.tables.exec = Jvm.exec) (hZ : Z.Warmed39 s.vm) (eT : T.heap = h) (F : ArF Z h a .long n f) {j : Int32} {i : Nat} (hj : j.toInt = (i : Int)) (hi : i < n) {v : Int64} (hv : f i = .long v) {g : JFrame} (hg : g.method = m) {rest : List Value} (hs : g.stack = .int j :: .ref a :: rest) (hd : decode c.code g.pc = .ok (.laload, 1)) :
    ∀ target, Steps p.tables e below (T.setTop { g with pc := g.pc + 1, stack := .long v :: rest }) target → Steps p.tables e below (T.setTop g) target := by
  obtain ⟨c, A, S, q3, H⟩ := F
  exact X.laload hx (by rw [eT]; exact A.1) (State.isArrayOf_alike hZ.alike A.2.1) A.2.2 (own_inb S hj hi) (by rw [own_clamp hj, ← hv]; exact H i hi) hg hs hd
theorem ArF.ldB (X : Stand p l e R s m args below meth c T locs cells slots) (hx : p.tables.exec = Jvm.exec) (hZ : Z.Warmed39 s.vm) (eT : T.heap = h) (F : ArF Z h a .byte n f) {j : Int32} {i : Nat} (hj : j.toInt = (i : Int)) (hi : i < n) {v : Int32} (hv : f i = .int v) {g : JFrame} (hg : g.method = m) {rest : List Value} (hs : g.stack = .int j :: .ref a :: rest) (hd : decode c.code g.pc = .ok (.baload, 1)) :
    ∀ target, Steps p.tables e below (T.setTop { g with pc := g.pc + 1, stack := .int v :: rest }) target → Steps p.tables e below (T.setTop g) target := by
  obtain ⟨c, A, S, q3, H⟩ := F
  exact X.baloadBytes hx (by rw [eT]; exact A.1) (State.isArrayOf_alike hZ.alike A.2.1) A.2.2 (own_inb S hj hi) (by rw [own_clamp hj, ← hv]; exact H i hi) hg hs hd
theorem ArF.ldC (X : Stand p l e R s m args below meth c T locs cells slots) (hx : p.tables.exec = Jvm.exec) (hZ : Z.Warmed39 s.vm) (eT : T.heap = h) (F : ArF Z h a .char n f) {j : Int32} {i : Nat} (hj : j.toInt = (i : Int)) (hi : i < n) {v : Int32} (hv : f i = .int v) {g : JFrame} (hg : g.method = m) {rest : List Value} (hs : g.stack = .int j :: .ref a :: rest) (hd : decode c.code g.pc = .ok (.caload, 1)) :
    ∀ target, Steps p.tables e below (T.setTop { g with pc := g.pc + 1, stack := .int v :: rest }) target → Steps p.tables e below (T.setTop g) target := by
  obtain ⟨c, A, S, q3, H⟩ := F
  exact X.caload hx (by rw [eT]; exact A.1) (State.isArrayOf_alike hZ.alike A.2.1) A.2.2 (own_inb S hj hi) (by rw [own_clamp hj, ← hv]; exact H i hi) hg hs hd
theorem ArF.ldA (X : Stand p l e R s m args below meth c T locs cells slots) (hx : p.tables.exec = Jvm.exec) (hZ : Z.Warmed39 s.vm) (eT : T.heap = h) (F : ArF Z h a ty n f) (hty : ty.isReference = true) {j : Int32} {i : Nat} (hj : j.toInt = (i : Int)) (hi : i < n) {v : Value} (hv : f i = v) {g : JFrame} (hg : g.method = m) {rest : List Value} (hs : g.stack = .int j :: .ref a :: rest) (hd : decode c.code g.pc = .ok (.aaload, 1)) :
    ∀ target, Steps p.tables e below (T.setTop { g with pc := g.pc + 1, stack := v :: rest }) target → Steps p.tables e below (T.setTop g) target := by
  obtain ⟨c, A, S, q3, H⟩ := F
  exact X.aaload hx (by rw [eT]; exact A.1) (State.isArrayOf_alike hZ.alike A.2.1) hty A.2.2 (own_inb S hj hi) (by rw [own_clamp hj, ← hv]; exact H i hi) hg hs hd
theorem ArF.len (X : Stand p l e R s m args below meth c T locs cells slots) (hx : p.tables.exec = Jvm.exec) (hZ : Z.Warmed39 s.vm) (eT : T.heap = h) (F : ArF Z h a ty n f) {g : JFrame} (hg : g.method = m) {rest : List Value} (hs : g.stack = .ref a :: rest) (hd : decode c.code g.pc = .ok (.arraylength, 1)) :
    ∀ target, Steps p.tables e below (T.setTop { g with pc := g.pc + 1, stack := .int (Int32.ofNat n) :: rest }) target → Steps p.tables e below (T.setTop g) target := by
  obtain ⟨c, A, S, q3, H⟩ := F
  have q := X.arraylength hx (by rw [eT]; exact A.1) (State.isArrayOf_alike hZ.alike A.2.1) hg hs hd
  rw [S] at q
  exact q
theorem own_more (X : Stand p l e R s m args below meth c T locs cells slots) {k n : Nat} (h1 : cells ≤ k) (h2 : slots ≤ n) : Stand p l e R s m args below meth c T locs k n :=
  { X with same := X.same.mono h1 h2 }
theorem own_selP {Z s : State} {a0 args : Array Value} {y : MethodName} {k : Nat} (hZ : Z.Warmed39 s.vm) (wi : (Cond.instantiable y.cls k).before a0 Z = true) (wp : (Cond.privateMethod y).before a0 Z = true) (wm : (Cond.instanceMethod y).before a0 Z = true) (hy : y.cls ≠ "java/lang/invoke/MethodHandle" ∧ y.cls ≠ "java/lang/invoke/VarHandle") : (Cond.selects y.cls y y).before args s = true := by
  have wi' : (Cond.instantiable y.cls k).before args s = true := mvT hZ wi
  obtain ⟨c, q, h1, h2, -, h4, -⟩ := Cond.instantiable_spec wi'
  simp only [Bool.or_eq_false_iff] at h4
  exact Jvm.Stand.selects_self_of_private h1 h2 h4.1 (Cond.privateMethod_at (mvP hZ wp (args := args))) (mvT hZ wm) hy
end Own
end Jvm.RoadKit
namespace Jvm.Pilot.@@N@@
open Jvm Jvm.ClassFile Sem Op Lib Jvm.Free Jvm.Stand Jvm.LawKit Jvm.RoadKit Bundle Jvm.Pilot.@@N@@.Jvm.D
theorem d1_0 : decode prog_21_method_1_code 0 = .ok (.aload_n 0, 1) := by decide +kernel
theorem d1_1 : decode prog_21_method_1_code 1 = .ok (.invokespecial 1, 3) := by decide +kernel
theorem d1_4 : decode prog_21_method_1_code 4 = .ok (.aload_n 0, 1) := by decide +kernel
theorem d1_5 : decode prog_21_method_1_code 5 = .ok (.iconst 0, 1) := by decide +kernel
theorem d1_6 : decode prog_21_method_1_code 6 = .ok (.newarray .int, 2) := by decide +kernel
theorem d1_8 : decode prog_21_method_1_code 8 = .ok (.putfield 7, 3) := by decide +kernel
theorem d1_11 : decode prog_21_method_1_code 11 = .ok (.aload_n 0, 1) := by decide +kernel
theorem d1_12 : decode prog_21_method_1_code 12 = .ok (.new 13, 3) := by decide +kernel
theorem d1_15 : decode prog_21_method_1_code 15 = .ok (.dup, 1) := by decide +kernel
theorem d1_16 : decode prog_21_method_1_code 16 = .ok (.iconst 0, 1) := by decide +kernel
theorem d1_17 : decode prog_21_method_1_code 17 = .ok (.iconst 0, 1) := by decide +kernel
theorem d1_18 : decode prog_21_method_1_code 18 = .ok (.invokespecial 15, 3) := by decide +kernel
theorem d1_21 : decode prog_21_method_1_code 21 = .ok (.putfield 18, 3) := by decide +kernel
theorem d1_24 : decode prog_21_method_1_code 24 = .ok (.aload_n 0, 1) := by decide +kernel
theorem d1_25 : decode prog_21_method_1_code 25 = .ok (.new 13, 3) := by decide +kernel
theorem d1_28 : decode prog_21_method_1_code 28 = .ok (.dup, 1) := by decide +kernel
theorem d1_29 : decode prog_21_method_1_code 29 = .ok (.iconst 0, 1) := by decide +kernel
theorem d1_30 : decode prog_21_method_1_code 30 = .ok (.iconst 0, 1) := by decide +kernel
theorem d1_31 : decode prog_21_method_1_code 31 = .ok (.invokespecial 15, 3) := by decide +kernel
theorem d1_34 : decode prog_21_method_1_code 34 = .ok (.putfield 22, 3) := by decide +kernel
theorem d1_37 : decode prog_21_method_1_code 37 = .ok (.aload_n 0, 1) := by decide +kernel
theorem d1_38 : decode prog_21_method_1_code 38 = .ok (.iconst 0, 1) := by decide +kernel
theorem d1_39 : decode prog_21_method_1_code 39 = .ok (.newarray .int, 2) := by decide +kernel
theorem d1_41 : decode prog_21_method_1_code 41 = .ok (.putfield 25, 3) := by decide +kernel
theorem d1_44 : decode prog_21_method_1_code 44 = .ok (.aload_n 0, 1) := by decide +kernel
theorem d1_45 : decode prog_21_method_1_code 45 = .ok (.iconst 0, 1) := by decide +kernel
theorem d1_46 : decode prog_21_method_1_code 46 = .ok (.newarray .int, 2) := by decide +kernel
theorem d1_48 : decode prog_21_method_1_code 48 = .ok (.putfield 28, 3) := by decide +kernel
theorem d1_51 : decode prog_21_method_1_code 51 = .ok (.aload_n 0, 1) := by decide +kernel
theorem d1_52 : decode prog_21_method_1_code 52 = .ok (.new 13, 3) := by decide +kernel
theorem d1_55 : decode prog_21_method_1_code 55 = .ok (.dup, 1) := by decide +kernel
theorem d1_56 : decode prog_21_method_1_code 56 = .ok (.iconst 0, 1) := by decide +kernel
theorem d1_57 : decode prog_21_method_1_code 57 = .ok (.iconst 0, 1) := by decide +kernel
theorem d1_58 : decode prog_21_method_1_code 58 = .ok (.invokespecial 15, 3) := by decide +kernel
theorem d1_61 : decode prog_21_method_1_code 61 = .ok (.putfield 31, 3) := by decide +kernel
theorem d1_64 : decode prog_21_method_1_code 64 = .ok (.aload_n 0, 1) := by decide +kernel
theorem d1_65 : decode prog_21_method_1_code 65 = .ok (.new 13, 3) := by decide +kernel
theorem d1_68 : decode prog_21_method_1_code 68 = .ok (.dup, 1) := by decide +kernel
theorem d1_69 : decode prog_21_method_1_code 69 = .ok (.iconst 0, 1) := by decide +kernel
theorem d1_70 : decode prog_21_method_1_code 70 = .ok (.iconst 0, 1) := by decide +kernel
theorem d1_71 : decode prog_21_method_1_code 71 = .ok (.invokespecial 15, 3) := by decide +kernel
theorem d1_74 : decode prog_21_method_1_code 74 = .ok (.putfield 34, 3) := by decide +kernel
theorem d1_77 : decode prog_21_method_1_code 77 = .ok (.aload_n 0, 1) := by decide +kernel
theorem d1_78 : decode prog_21_method_1_code 78 = .ok (.iconst 0, 1) := by decide +kernel
theorem d1_79 : decode prog_21_method_1_code 79 = .ok (.newarray .int, 2) := by decide +kernel
theorem d1_81 : decode prog_21_method_1_code 81 = .ok (.putfield 37, 3) := by decide +kernel
theorem d1_84 : decode prog_21_method_1_code 84 = .ok (.aload_n 0, 1) := by decide +kernel
theorem d1_85 : decode prog_21_method_1_code 85 = .ok (.iconst 0, 1) := by decide +kernel
theorem d1_86 : decode prog_21_method_1_code 86 = .ok (.newarray .int, 2) := by decide +kernel
theorem d1_88 : decode prog_21_method_1_code 88 = .ok (.putfield 40, 3) := by decide +kernel
theorem d1_91 : decode prog_21_method_1_code 91 = .ok (.aload_n 0, 1) := by decide +kernel
theorem d1_92 : decode prog_21_method_1_code 92 = .ok (.iconst 0, 1) := by decide +kernel
theorem d1_93 : decode prog_21_method_1_code 93 = .ok (.newarray .long, 2) := by decide +kernel
theorem d1_95 : decode prog_21_method_1_code 95 = .ok (.putfield 43, 3) := by decide +kernel
theorem d1_98 : decode prog_21_method_1_code 98 = .ok (.aload_n 0, 1) := by decide +kernel
theorem d1_99 : decode prog_21_method_1_code 99 = .ok (.iconst 0, 1) := by decide +kernel
theorem d1_100 : decode prog_21_method_1_code 100 = .ok (.newarray .int, 2) := by decide +kernel
theorem d1_102 : decode prog_21_method_1_code 102 = .ok (.putfield 47, 3) := by decide +kernel
theorem d1_105 : decode prog_21_method_1_code 105 = .ok (.aload_n 0, 1) := by decide +kernel
theorem d1_106 : decode prog_21_method_1_code 106 = .ok (.iload_n 1, 1) := by decide +kernel
theorem d1_107 : decode prog_21_method_1_code 107 = .ok (.putfield 50, 3) := by decide +kernel
theorem d1_110 : decode prog_21_method_1_code 110 = .ok (.aload_n 0, 1) := by decide +kernel
theorem d1_111 : decode prog_21_method_1_code 111 = .ok (.lload_n 2, 1) := by decide +kernel
theorem d1_112 : decode prog_21_method_1_code 112 = .ok (.invokestatic 54, 3) := by decide +kernel
theorem d1_115 : decode prog_21_method_1_code 115 = .ok (.putfield 58, 3) := by decide +kernel
theorem d1_118 : decode prog_21_method_1_code 118 = .ok (.aload_n 0, 1) := by decide +kernel
theorem d1_119 : decode prog_21_method_1_code 119 = .ok (.iload_n 1, 1) := by decide +kernel
theorem d1_120 : decode prog_21_method_1_code 120 = .ok (.newarray .int, 2) := by decide +kernel
theorem d1_122 : decode prog_21_method_1_code 122 = .ok (.putfield 61, 3) := by decide +kernel
theorem d1_125 : decode prog_21_method_1_code 125 = .ok (.aload_n 0, 1) := by decide +kernel
theorem d1_126 : decode prog_21_method_1_code 126 = .ok (.iload_n 1, 1) := by decide +kernel
theorem d1_127 : decode prog_21_method_1_code 127 = .ok (.newarray .boolean, 2) := by decide +kernel
theorem d1_129 : decode prog_21_method_1_code 129 = .ok (.putfield 64, 3) := by decide +kernel
theorem d1_132 : decode prog_21_method_1_code 132 = .ok (.aload_n 0, 1) := by decide +kernel
theorem d1_133 : decode prog_21_method_1_code 133 = .ok (.iload_n 1, 1) := by decide +kernel
theorem d1_134 : decode prog_21_method_1_code 134 = .ok (.newarray .boolean, 2) := by decide +kernel
theorem d1_136 : decode prog_21_method_1_code 136 = .ok (.putfield 68, 3) := by decide +kernel
theorem d1_139 : decode prog_21_method_1_code 139 = .ok (.aload_n 0, 1) := by decide +kernel
theorem d1_140 : decode prog_21_method_1_code 140 = .ok (.iload_n 1, 1) := by decide +kernel
theorem d1_141 : decode prog_21_method_1_code 141 = .ok (.newarray .int, 2) := by decide +kernel
theorem d1_143 : decode prog_21_method_1_code 143 = .ok (.putfield 71, 3) := by decide +kernel
theorem d1_146 : decode prog_21_method_1_code 146 = .ok (.aload_n 0, 1) := by decide +kernel
theorem d1_147 : decode prog_21_method_1_code 147 = .ok (.iload_n 1, 1) := by decide +kernel
theorem d1_148 : decode prog_21_method_1_code 148 = .ok (.iconst 1, 1) := by decide +kernel
theorem d1_149 : decode prog_21_method_1_code 149 = .ok (.iadd, 1) := by decide +kernel
theorem d1_150 : decode prog_21_method_1_code 150 = .ok (.newarray .long, 2) := by decide +kernel
theorem d1_152 : decode prog_21_method_1_code 152 = .ok (.putfield 74, 3) := by decide +kernel
theorem d1_155 : decode prog_21_method_1_code 155 = .ok (.aload_n 0, 1) := by decide +kernel
theorem d1_156 : decode prog_21_method_1_code 156 = .ok (.getfield 74, 3) := by decide +kernel
theorem d1_159 : decode prog_21_method_1_code 159 = .ok (.iload_n 1, 1) := by decide +kernel
theorem d1_160 : decode prog_21_method_1_code 160 = .ok (.lconst 1, 1) := by decide +kernel
theorem d1_161 : decode prog_21_method_1_code 161 = .ok (.lastore, 1) := by decide +kernel
theorem d1_162 : decode prog_21_method_1_code 162 = .ok (.aload_n 0, 1) := by decide +kernel
theorem d1_163 : decode prog_21_method_1_code 163 = .ok (.iload_n 1, 1) := by decide +kernel
theorem d1_164 : decode prog_21_method_1_code 164 = .ok (.putfield 77, 3) := by decide +kernel
theorem d1_167 : decode prog_21_method_1_code 167 = .ok (.aload_n 0, 1) := by decide +kernel
theorem d1_168 : decode prog_21_method_1_code 168 = .ok (.iload_n 1, 1) := by decide +kernel
theorem d1_169 : decode prog_21_method_1_code 169 = .ok (.anewarray 80, 3) := by decide +kernel
theorem d1_172 : decode prog_21_method_1_code 172 = .ok (.putfield 81, 3) := by decide +kernel
theorem d1_175 : decode prog_21_method_1_code 175 = .ok (.aload_n 0, 1) := by decide +kernel
theorem d1_176 : decode prog_21_method_1_code 176 = .ok (.iload_n 1, 1) := by decide +kernel
theorem d1_177 : decode prog_21_method_1_code 177 = .ok (.anewarray 80, 3) := by decide +kernel
theorem d1_180 : decode prog_21_method_1_code 180 = .ok (.putfield 85, 3) := by decide +kernel
theorem d1_183 : decode prog_21_method_1_code 183 = .ok (.return_, 1) := by decide +kernel
theorem d3_0 : decode prog_23_method_1_code 0 = .ok (.aload_n 0, 1) := by decide +kernel
theorem d3_1 : decode prog_23_method_1_code 1 = .ok (.invokespecial 1, 3) := by decide +kernel
theorem d3_4 : decode prog_23_method_1_code 4 = .ok (.aload_n 0, 1) := by decide +kernel
theorem d3_5 : decode prog_23_method_1_code 5 = .ok (.iload_n 1, 1) := by decide +kernel
theorem d3_6 : decode prog_23_method_1_code 6 = .ok (.i2l, 1) := by decide +kernel
theorem d3_7 : decode prog_23_method_1_code 7 = .ok (.iload_n 2, 1) := by decide +kernel
theorem d3_8 : decode prog_23_method_1_code 8 = .ok (.i2l, 1) := by decide +kernel
theorem d3_9 : decode prog_23_method_1_code 9 = .ok (.lmul, 1) := by decide +kernel
theorem d3_10 : decode prog_23_method_1_code 10 = .ok (.invokestatic 7, 3) := by decide +kernel
theorem d3_13 : decode prog_23_method_1_code 13 = .ok (.newarray .int, 2) := by decide +kernel
theorem d3_15 : decode prog_23_method_1_code 15 = .ok (.putfield 13, 3) := by decide +kernel
theorem d3_18 : decode prog_23_method_1_code 18 = .ok (.aload_n 0, 1) := by decide +kernel
theorem d3_19 : decode prog_23_method_1_code 19 = .ok (.iload_n 1, 1) := by decide +kernel
theorem d3_20 : decode prog_23_method_1_code 20 = .ok (.newarray .long, 2) := by decide +kernel
theorem d3_22 : decode prog_23_method_1_code 22 = .ok (.putfield 19, 3) := by decide +kernel
theorem d3_25 : decode prog_23_method_1_code 25 = .ok (.return_, 1) := by decide +kernel
theorem d4_0 : decode jdk_29_method_43_code 0 = .ok (.lload_n 0, 1) := by decide +kernel
theorem d4_1 : decode jdk_29_method_43_code 1 = .ok (.l2i, 1) := by decide +kernel
theorem d4_2 : decode jdk_29_method_43_code 2 = .ok (.i2l, 1) := by decide +kernel
theorem d4_3 : decode jdk_29_method_43_code 3 = .ok (.lload_n 0, 1) := by decide +kernel
theorem d4_4 : decode jdk_29_method_43_code 4 = .ok (.lcmp, 1) := by decide +kernel
theorem d4_5 : decode jdk_29_method_43_code 5 = .ok (.ifCond .eq 13, 3) := by decide +kernel
theorem d4_18 : decode jdk_29_method_43_code 18 = .ok (.lload_n 0, 1) := by decide +kernel
theorem d4_19 : decode jdk_29_method_43_code 19 = .ok (.l2i, 1) := by decide +kernel
theorem d4_20 : decode jdk_29_method_43_code 20 = .ok (.ireturn, 1) := by decide +kernel
theorem d5_0 : decode prog_21_method_7_code 0 = .ok (.ldc2_w 114, 3) := by decide +kernel
theorem d5_3 : decode prog_21_method_7_code 3 = .ok (.lload_n 0, 1) := by decide +kernel
theorem d5_4 : decode prog_21_method_7_code 4 = .ok (.lmul, 1) := by decide +kernel
theorem d5_5 : decode prog_21_method_7_code 5 = .ok (.ldc2_w 118, 3) := by decide +kernel
theorem d5_8 : decode prog_21_method_7_code 8 = .ok (.invokestatic 120, 3) := by decide +kernel
theorem d5_11 : decode prog_21_method_7_code 11 = .ok (.lreturn, 1) := by decide +kernel
theorem d6_0 : decode jdk_29_method_70_code 0 = .ok (.lload_n 0, 1) := by decide +kernel
theorem d6_1 : decode jdk_29_method_70_code 1 = .ok (.lload_n 2, 1) := by decide +kernel
theorem d6_2 : decode jdk_29_method_70_code 2 = .ok (.lcmp, 1) := by decide +kernel
theorem d6_3 : decode jdk_29_method_70_code 3 = .ok (.ifCond .gt 7, 3) := by decide +kernel
theorem d6_6 : decode jdk_29_method_70_code 6 = .ok (.lload_n 0, 1) := by decide +kernel
theorem d6_7 : decode jdk_29_method_70_code 7 = .ok (.goto 4, 3) := by decide +kernel
theorem d6_10 : decode jdk_29_method_70_code 10 = .ok (.lload_n 2, 1) := by decide +kernel
theorem d6_11 : decode jdk_29_method_70_code 11 = .ok (.lreturn, 1) := by decide +kernel
theorem d7_0 : decode method_2_code 0 = .ok (.iload_n 2, 1) := by decide +kernel
theorem d7_1 : decode method_2_code 1 = .ok (.iconst 2, 1) := by decide +kernel
theorem d7_2 : decode method_2_code 2 = .ok (.iand, 1) := by decide +kernel
theorem d7_3 : decode method_2_code 3 = .ok (.ifCond .eq 13, 3) := by decide +kernel
theorem d7_6 : decode method_2_code 6 = .ok (.aload_n 0, 1) := by decide +kernel
theorem d7_7 : decode method_2_code 7 = .ok (.iload_n 1, 1) := by decide +kernel
theorem d7_8 : decode method_2_code 8 = .ok (.aload_n 3, 1) := by decide +kernel
theorem d7_9 : decode method_2_code 9 = .ok (.aload_n 3, 1) := by decide +kernel
theorem d7_10 : decode method_2_code 10 = .ok (.invokevirtual 7, 3) := by decide +kernel
theorem d7_13 : decode method_2_code 13 = .ok (.goto 21, 3) := by decide +kernel
theorem d7_16 : decode method_2_code 16 = .ok (.aload_n 0, 1) := by decide +kernel
theorem d7_17 : decode method_2_code 17 = .ok (.iload_n 1, 1) := by decide +kernel
theorem d7_18 : decode method_2_code 18 = .ok (.iload_n 2, 1) := by decide +kernel
theorem d7_19 : decode method_2_code 19 = .ok (.iconst 1, 1) := by decide +kernel
theorem d7_20 : decode method_2_code 20 = .ok (.iand, 1) := by decide +kernel
theorem d7_21 : decode method_2_code 21 = .ok (.ifCond .eq 7, 3) := by decide +kernel
theorem d7_24 : decode method_2_code 24 = .ok (.iconst 1, 1) := by decide +kernel
theorem d7_25 : decode method_2_code 25 = .ok (.goto 4, 3) := by decide +kernel
theorem d7_28 : decode method_2_code 28 = .ok (.iconst 0, 1) := by decide +kernel
theorem d7_29 : decode method_2_code 29 = .ok (.aload_n 3, 1) := by decide +kernel
theorem d7_30 : decode method_2_code 30 = .ok (.aload_n 3, 1) := by decide +kernel
theorem d7_31 : decode method_2_code 31 = .ok (.invokevirtual 13, 3) := by decide +kernel
theorem d7_34 : decode method_2_code 34 = .ok (.return_, 1) := by decide +kernel
theorem d8_0 : decode prog_21_method_10_code 0 = .ok (.iload_n 2, 1) := by decide +kernel
theorem d8_1 : decode prog_21_method_10_code 1 = .ok (.ifCond .ne 12, 3) := by decide +kernel
theorem d8_4 : decode prog_21_method_10_code 4 = .ok (.aload_n 3, 1) := by decide +kernel
theorem d8_5 : decode prog_21_method_10_code 5 = .ok (.invokestatic 124, 3) := by decide +kernel
theorem d8_8 : decode prog_21_method_10_code 8 = .ok (.aload 4, 2) := by decide +kernel
theorem d8_10 : decode prog_21_method_10_code 10 = .ok (.invokestatic 124, 3) := by decide +kernel
theorem d8_13 : decode prog_21_method_10_code 13 = .ok (.aload_n 0, 1) := by decide +kernel
theorem d8_14 : decode prog_21_method_10_code 14 = .ok (.dup, 1) := by decide +kernel
theorem d8_15 : decode prog_21_method_10_code 15 = .ok (.getfield 77, 3) := by decide +kernel
theorem d8_18 : decode prog_21_method_10_code 18 = .ok (.iconst 1, 1) := by decide +kernel
theorem d8_19 : decode prog_21_method_10_code 19 = .ok (.isub, 1) := by decide +kernel
theorem d8_20 : decode prog_21_method_10_code 20 = .ok (.dup_x1, 1) := by decide +kernel
theorem d8_21 : decode prog_21_method_10_code 21 = .ok (.putfield 77, 3) := by decide +kernel
theorem d8_24 : decode prog_21_method_10_code 24 = .ok (.istore 5, 2) := by decide +kernel
theorem d8_26 : decode prog_21_method_10_code 26 = .ok (.aload_n 0, 1) := by decide +kernel
theorem d8_27 : decode prog_21_method_10_code 27 = .ok (.getfield 61, 3) := by decide +kernel
theorem d8_30 : decode prog_21_method_10_code 30 = .ok (.iload 5, 2) := by decide +kernel
theorem d8_32 : decode prog_21_method_10_code 32 = .ok (.iload_n 1, 1) := by decide +kernel
theorem d8_33 : decode prog_21_method_10_code 33 = .ok (.iload_n 2, 1) := by decide +kernel
theorem d8_34 : decode prog_21_method_10_code 34 = .ok (.ifCond .eq 7, 3) := by decide +kernel
theorem d8_37 : decode prog_21_method_10_code 37 = .ok (.iconst 1, 1) := by decide +kernel
theorem d8_38 : decode prog_21_method_10_code 38 = .ok (.goto 4, 3) := by decide +kernel
theorem d8_41 : decode prog_21_method_10_code 41 = .ok (.iconst 0, 1) := by decide +kernel
theorem d8_42 : decode prog_21_method_10_code 42 = .ok (.iadd, 1) := by decide +kernel
theorem d8_43 : decode prog_21_method_10_code 43 = .ok (.iastore, 1) := by decide +kernel
theorem d8_44 : decode prog_21_method_10_code 44 = .ok (.aload_n 0, 1) := by decide +kernel
theorem d8_45 : decode prog_21_method_10_code 45 = .ok (.getfield 64, 3) := by decide +kernel
theorem d8_48 : decode prog_21_method_10_code 48 = .ok (.iload 5, 2) := by decide +kernel
theorem d8_50 : decode prog_21_method_10_code 50 = .ok (.iload_n 2, 1) := by decide +kernel
theorem d8_51 : decode prog_21_method_10_code 51 = .ok (.bastore, 1) := by decide +kernel
theorem d8_52 : decode prog_21_method_10_code 52 = .ok (.aload_n 0, 1) := by decide +kernel
theorem d8_53 : decode prog_21_method_10_code 53 = .ok (.getfield 81, 3) := by decide +kernel
theorem d8_56 : decode prog_21_method_10_code 56 = .ok (.iload 5, 2) := by decide +kernel
theorem d8_58 : decode prog_21_method_10_code 58 = .ok (.aload_n 3, 1) := by decide +kernel
theorem d8_59 : decode prog_21_method_10_code 59 = .ok (.aastore, 1) := by decide +kernel
theorem d8_60 : decode prog_21_method_10_code 60 = .ok (.aload_n 0, 1) := by decide +kernel
theorem d8_61 : decode prog_21_method_10_code 61 = .ok (.getfield 85, 3) := by decide +kernel
theorem d8_64 : decode prog_21_method_10_code 64 = .ok (.iload 5, 2) := by decide +kernel
theorem d8_66 : decode prog_21_method_10_code 66 = .ok (.aload 4, 2) := by decide +kernel
theorem d8_68 : decode prog_21_method_10_code 68 = .ok (.aastore, 1) := by decide +kernel
theorem d8_69 : decode prog_21_method_10_code 69 = .ok (.aload_n 0, 1) := by decide +kernel
theorem d8_70 : decode prog_21_method_10_code 70 = .ok (.getfield 74, 3) := by decide +kernel
theorem d8_73 : decode prog_21_method_10_code 73 = .ok (.iload 5, 2) := by decide +kernel
theorem d8_75 : decode prog_21_method_10_code 75 = .ok (.aload_n 0, 1) := by decide +kernel
theorem d8_76 : decode prog_21_method_10_code 76 = .ok (.getfield 61, 3) := by decide +kernel
theorem d8_79 : decode prog_21_method_10_code 79 = .ok (.iload 5, 2) := by decide +kernel
theorem d8_81 : decode prog_21_method_10_code 81 = .ok (.iaload, 1) := by decide +kernel
theorem d8_82 : decode prog_21_method_10_code 82 = .ok (.i2l, 1) := by decide +kernel
theorem d8_83 : decode prog_21_method_10_code 83 = .ok (.aload_n 0, 1) := by decide +kernel
theorem d8_84 : decode prog_21_method_10_code 84 = .ok (.getfield 74, 3) := by decide +kernel
theorem d8_87 : decode prog_21_method_10_code 87 = .ok (.iload 5, 2) := by decide +kernel
theorem d8_89 : decode prog_21_method_10_code 89 = .ok (.iconst 1, 1) := by decide +kernel
theorem d8_90 : decode prog_21_method_10_code 90 = .ok (.iadd, 1) := by decide +kernel
theorem d8_91 : decode prog_21_method_10_code 91 = .ok (.laload, 1) := by decide +kernel
theorem d8_92 : decode prog_21_method_10_code 92 = .ok (.lmul, 1) := by decide +kernel
theorem d8_93 : decode prog_21_method_10_code 93 = .ok (.lastore, 1) := by decide +kernel
theorem d8_94 : decode prog_21_method_10_code 94 = .ok (.return_, 1) := by decide +kernel
theorem d9_0 : decode prog_21_method_29_code 0 = .ok (.iconst 0, 1) := by decide +kernel
theorem d9_1 : decode prog_21_method_29_code 1 = .ok (.istore_n 1, 1) := by decide +kernel
theorem d9_2 : decode prog_21_method_29_code 2 = .ok (.iload_n 1, 1) := by decide +kernel
theorem d9_3 : decode prog_21_method_29_code 3 = .ok (.aload_n 0, 1) := by decide +kernel
theorem d9_4 : decode prog_21_method_29_code 4 = .ok (.arraylength, 1) := by decide +kernel
theorem d9_5 : decode prog_21_method_29_code 5 = .ok (.if_icmp .ge 16, 3) := by decide +kernel
theorem d9_21 : decode prog_21_method_29_code 21 = .ok (.return_, 1) := by decide +kernel
theorem d10_0 : decode method_3_code 0 = .ok (.iload_n 1, 1) := by decide +kernel
theorem d10_1 : decode method_3_code 1 = .ok (.iconst 2, 1) := by decide +kernel
theorem d10_2 : decode method_3_code 2 = .ok (.iand, 1) := by decide +kernel
theorem d10_3 : decode method_3_code 3 = .ok (.ifCond .eq 7, 3) := by decide +kernel
theorem d10_6 : decode method_3_code 6 = .ok (.ldc2_w 17, 3) := by decide +kernel
theorem d10_9 : decode method_3_code 9 = .ok (.lreturn, 1) := by decide +kernel
theorem d10_10 : decode method_3_code 10 = .ok (.iload_n 0, 1) := by decide +kernel
theorem d10_11 : decode method_3_code 11 = .ok (.i2l, 1) := by decide +kernel
theorem d10_12 : decode method_3_code 12 = .ok (.iload_n 1, 1) := by decide +kernel
theorem d10_13 : decode method_3_code 13 = .ok (.iconst 1, 1) := by decide +kernel
theorem d10_14 : decode method_3_code 14 = .ok (.iand, 1) := by decide +kernel
theorem d10_15 : decode method_3_code 15 = .ok (.ifCond .eq 7, 3) := by decide +kernel
theorem d10_18 : decode method_3_code 18 = .ok (.lconst 1, 1) := by decide +kernel
theorem d10_19 : decode method_3_code 19 = .ok (.goto 4, 3) := by decide +kernel
theorem d10_22 : decode method_3_code 22 = .ok (.lconst 0, 1) := by decide +kernel
theorem d10_23 : decode method_3_code 23 = .ok (.ladd, 1) := by decide +kernel
theorem d10_24 : decode method_3_code 24 = .ok (.lreturn, 1) := by decide +kernel
theorem d11_0 : decode prog_21_method_12_code 0 = .ok (.iload_n 2, 1) := by decide +kernel
theorem d11_1 : decode prog_21_method_12_code 1 = .ok (.aload_n 0, 1) := by decide +kernel
theorem d11_2 : decode prog_21_method_12_code 2 = .ok (.getfield 77, 3) := by decide +kernel
theorem d11_5 : decode prog_21_method_12_code 5 = .ok (.if_icmp .lt 23, 3) := by decide +kernel
theorem d11_8 : decode prog_21_method_12_code 8 = .ok (.aload_n 0, 1) := by decide +kernel
theorem d11_9 : decode prog_21_method_12_code 9 = .ok (.getfield 74, 3) := by decide +kernel
theorem d11_12 : decode prog_21_method_12_code 12 = .ok (.iload_n 2, 1) := by decide +kernel
theorem d11_13 : decode prog_21_method_12_code 13 = .ok (.laload, 1) := by decide +kernel
theorem d11_14 : decode prog_21_method_12_code 14 = .ok (.ldc2_w 114, 3) := by decide +kernel
theorem d11_17 : decode prog_21_method_12_code 17 = .ok (.iload_n 1, 1) := by decide +kernel
theorem d11_18 : decode prog_21_method_12_code 18 = .ok (.i2l, 1) := by decide +kernel
theorem d11_19 : decode prog_21_method_12_code 19 = .ok (.lmul, 1) := by decide +kernel
theorem d11_20 : decode prog_21_method_12_code 20 = .ok (.lcmp, 1) := by decide +kernel
theorem d11_21 : decode prog_21_method_12_code 21 = .ok (.ifCond .gt 7, 3) := by decide +kernel
theorem d11_24 : decode prog_21_method_12_code 24 = .ok (.iconst 1, 1) := by decide +kernel
theorem d11_25 : decode prog_21_method_12_code 25 = .ok (.goto 4, 3) := by decide +kernel
theorem d11_28 : decode prog_21_method_12_code 28 = .ok (.iconst 0, 1) := by decide +kernel
theorem d11_29 : decode prog_21_method_12_code 29 = .ok (.ireturn, 1) := by decide +kernel
theorem d12_0 : decode prog_21_method_11_code 0 = .ok (.aload_n 0, 1) := by decide +kernel
theorem d12_1 : decode prog_21_method_11_code 1 = .ok (.getfield 50, 3) := by decide +kernel
theorem d12_4 : decode prog_21_method_11_code 4 = .ok (.bipush 64, 2) := by decide +kernel
theorem d12_6 : decode prog_21_method_11_code 6 = .ok (.if_icmp .le 13, 3) := by decide +kernel
theorem d12_19 : decode prog_21_method_11_code 19 = .ok (.aload_n 0, 1) := by decide +kernel
theorem d12_20 : decode prog_21_method_11_code 20 = .ok (.dup, 1) := by decide +kernel
theorem d12_21 : decode prog_21_method_11_code 21 = .ok (.getfield 77, 3) := by decide +kernel
theorem d12_24 : decode prog_21_method_11_code 24 = .ok (.iconst 1, 1) := by decide +kernel
theorem d12_25 : decode prog_21_method_11_code 25 = .ok (.isub, 1) := by decide +kernel
theorem d12_26 : decode prog_21_method_11_code 26 = .ok (.dup_x1, 1) := by decide +kernel
theorem d12_27 : decode prog_21_method_11_code 27 = .ok (.putfield 77, 3) := by decide +kernel
theorem d12_30 : decode prog_21_method_11_code 30 = .ok (.istore 4, 2) := by decide +kernel
theorem d12_32 : decode prog_21_method_11_code 32 = .ok (.aload_n 0, 1) := by decide +kernel
theorem d12_33 : decode prog_21_method_11_code 33 = .ok (.getfield 61, 3) := by decide +kernel
theorem d12_36 : decode prog_21_method_11_code 36 = .ok (.iload 4, 2) := by decide +kernel
theorem d12_38 : decode prog_21_method_11_code 38 = .ok (.iconst 2, 1) := by decide +kernel
theorem d12_39 : decode prog_21_method_11_code 39 = .ok (.iastore, 1) := by decide +kernel
theorem d12_40 : decode prog_21_method_11_code 40 = .ok (.aload_n 0, 1) := by decide +kernel
theorem d12_41 : decode prog_21_method_11_code 41 = .ok (.getfield 64, 3) := by decide +kernel
theorem d12_44 : decode prog_21_method_11_code 44 = .ok (.iload 4, 2) := by decide +kernel
theorem d12_46 : decode prog_21_method_11_code 46 = .ok (.iconst 1, 1) := by decide +kernel
theorem d12_47 : decode prog_21_method_11_code 47 = .ok (.bastore, 1) := by decide +kernel
theorem d12_48 : decode prog_21_method_11_code 48 = .ok (.aload_n 0, 1) := by decide +kernel
theorem d12_49 : decode prog_21_method_11_code 49 = .ok (.getfield 68, 3) := by decide +kernel
theorem d12_52 : decode prog_21_method_11_code 52 = .ok (.iload 4, 2) := by decide +kernel
theorem d12_54 : decode prog_21_method_11_code 54 = .ok (.iconst 1, 1) := by decide +kernel
theorem d12_55 : decode prog_21_method_11_code 55 = .ok (.bastore, 1) := by decide +kernel
theorem d12_56 : decode prog_21_method_11_code 56 = .ok (.aload_n 0, 1) := by decide +kernel
theorem d12_57 : decode prog_21_method_11_code 57 = .ok (.getfield 71, 3) := by decide +kernel
theorem d12_60 : decode prog_21_method_11_code 60 = .ok (.iload 4, 2) := by decide +kernel
theorem d12_62 : decode prog_21_method_11_code 62 = .ok (.iload_n 1, 1) := by decide +kernel
theorem d12_63 : decode prog_21_method_11_code 63 = .ok (.iastore, 1) := by decide +kernel
theorem d12_64 : decode prog_21_method_11_code 64 = .ok (.aload_n 0, 1) := by decide +kernel
theorem d12_65 : decode prog_21_method_11_code 65 = .ok (.getfield 81, 3) := by decide +kernel
theorem d12_68 : decode prog_21_method_11_code 68 = .ok (.iload 4, 2) := by decide +kernel
theorem d12_70 : decode prog_21_method_11_code 70 = .ok (.aload_n 2, 1) := by decide +kernel
theorem d12_71 : decode prog_21_method_11_code 71 = .ok (.aastore, 1) := by decide +kernel
theorem d12_72 : decode prog_21_method_11_code 72 = .ok (.aload_n 0, 1) := by decide +kernel
theorem d12_73 : decode prog_21_method_11_code 73 = .ok (.getfield 85, 3) := by decide +kernel
theorem d12_76 : decode prog_21_method_11_code 76 = .ok (.iload 4, 2) := by decide +kernel
theorem d12_78 : decode prog_21_method_11_code 78 = .ok (.aload_n 3, 1) := by decide +kernel
theorem d12_79 : decode prog_21_method_11_code 79 = .ok (.aastore, 1) := by decide +kernel
theorem d12_80 : decode prog_21_method_11_code 80 = .ok (.aload_n 0, 1) := by decide +kernel
theorem d12_81 : decode prog_21_method_11_code 81 = .ok (.getfield 74, 3) := by decide +kernel
theorem d12_84 : decode prog_21_method_11_code 84 = .ok (.iload 4, 2) := by decide +kernel
theorem d12_86 : decode prog_21_method_11_code 86 = .ok (.ldc2_w 137, 3) := by decide +kernel
theorem d12_89 : decode prog_21_method_11_code 89 = .ok (.aload_n 0, 1) := by decide +kernel
theorem d12_90 : decode prog_21_method_11_code 90 = .ok (.getfield 74, 3) := by decide +kernel
theorem d12_93 : decode prog_21_method_11_code 93 = .ok (.iload 4, 2) := by decide +kernel
theorem d12_95 : decode prog_21_method_11_code 95 = .ok (.iconst 1, 1) := by decide +kernel
theorem d12_96 : decode prog_21_method_11_code 96 = .ok (.iadd, 1) := by decide +kernel
theorem d12_97 : decode prog_21_method_11_code 97 = .ok (.laload, 1) := by decide +kernel
theorem d12_98 : decode prog_21_method_11_code 98 = .ok (.lmul, 1) := by decide +kernel
theorem d12_99 : decode prog_21_method_11_code 99 = .ok (.lastore, 1) := by decide +kernel
theorem d12_100 : decode prog_21_method_11_code 100 = .ok (.return_, 1) := by decide +kernel
theorem pn_0 : plainName "com/example/joinery/joinery/KeyGrid" = true := by first | (simp [plainName, overriddenIn]; done) | decide +kernel
theorem pn_1 : plainName "com/example/joinery/joinery/KeyGrid$Laid" = true := by first | (simp [plainName, overriddenIn]; done) | decide +kernel
theorem pn_2 : plainName "com/example/joinery/joinery/KeyGridFitsPinLaw" = true := by first | (simp [plainName, overriddenIn]; done) | decide +kernel
theorem pd_0 : parseMethodDescriptor "(JJ)J" = some ⟨[.long, .long], some .long⟩ := by decide +kernel
theorem pd_1 : parseMethodDescriptor "(J)I" = some ⟨[.long], some .int⟩ := by decide +kernel
theorem pd_2 : parseMethodDescriptor "(II)V" = some ⟨[.int, .int], none⟩ := by decide +kernel
theorem pd_3 : parseMethodDescriptor "(J)J" = some ⟨[.long], some .long⟩ := by decide +kernel
theorem pd_4 : parseMethodDescriptor "([I)V" = some ⟨[(.array .int)], none⟩ := by decide +kernel
theorem pd_5 : parseMethodDescriptor "(IZ[I[I)V" = some ⟨[.int, .boolean, (.array .int), (.array .int)], none⟩ := by decide +kernel
theorem pd_6 : parseMethodDescriptor "(I[I[I)V" = some ⟨[.int, (.array .int), (.array .int)], none⟩ := by decide +kernel
theorem pd_7 : parseMethodDescriptor "(IJ)V" = some ⟨[.int, .long], none⟩ := by decide +kernel
theorem pd_8 : parseMethodDescriptor "(II)J" = some ⟨[.int, .int], some .long⟩ := by decide +kernel
theorem pd_9 : parseMethodDescriptor "(II)Z" = some ⟨[.int, .int], some .boolean⟩ := by decide +kernel
theorem pd_10 : parseMethodDescriptor "(Lcom/example/joinery/joinery/KeyGrid;II[I)V" = some ⟨[(.object "com/example/joinery/joinery/KeyGrid"), .int, .int, (.array .int)], none⟩ := by decide +kernel

/-- the grid at a, with names from k on given; the array y of no ints; what the gives write lies in arrays of its own, in this order -/
def own_sep (n0 : Nat) (a r lk ap ak cf ld rd y : Addr) : Prop := n0 ≤ a ∧ a < r ∧ r < lk ∧ lk < ap ∧ ap < ak ∧ ak < cf ∧ cf < ld ∧ ld < rd ∧ rd < y
def own_KG (Z : State) (h : Heap) (n0 : Nat) (a y : Addr) (k : Nat) (cv : Nat → Int64) : Prop := ∃ (r lk ap ak cf ld rd : Addr) (f1 f2 f3 f4 : Nat → Value), own_sep n0 a r lk ap ak cf ld rd y ∧ Exa Z h a "com/example/joinery/joinery/KeyGrid" ∧ Fld Z h a "com/example/joinery/joinery/KeyGrid" "names" "I" (.int (3 : Int32)) ∧ Fld Z h a "com/example/joinery/joinery/KeyGrid" "first" "I" (.int (Int32.ofNat k)) ∧ Fld Z h a "com/example/joinery/joinery/KeyGrid" "radix" "[I" (.ref r) ∧ Fld Z h a "com/example/joinery/joinery/KeyGrid" "lacked" "[Z" (.ref lk) ∧ Fld Z h a "com/example/joinery/joinery/KeyGrid" "apart" "[Z" (.ref ap) ∧ Fld Z h a "com/example/joinery/joinery/KeyGrid" "apartKeys" "[I" (.ref ak) ∧ Fld Z h a "com/example/joinery/joinery/KeyGrid" "cellsFrom" "[J" (.ref cf) ∧ Fld Z h a "com/example/joinery/joinery/KeyGrid" "leftDigits" "[[I" (.ref ld) ∧ Fld Z h a "com/example/joinery/joinery/KeyGrid" "rightDigits" "[[I" (.ref rd) ∧
  ArF Z h r .int 3 f1 ∧ ArF Z h lk .boolean 3 f2 ∧ ArF Z h ap .boolean 3 f3 ∧ ArF Z h ak .int 3 f4 ∧ ArF Z h cf .long 4 (fun q => (.long (cv q))) ∧ ArR Z h ld 3 .int ∧ ArR Z h rd 3 .int ∧ Exa Z h y "[I" ∧ ArF Z h y .int 0 (fun _ => (.int (0 : Int32)))
def own_put (cv : Nat → Int64) (k : Nat) (v : Int64) : Nat → Int64 := fun q => if q = k then v else cv q
def own_cv0 : Nat → Int64 := fun q => if q = 3 then 1 else 0
def own_min (p q : Int64) : Int64 := if q < p then q else p
def own_rad (keys bits : Int32) : Int64 := if (bits &&& (2 : Int32)) = (0 : Int32) then keys.toInt64 + (if (bits &&& (1 : Int32)) = (0 : Int32) then (0 : Int64) else (1 : Int64)) else (2 : Int64)
def own_fits (cv : Nat → Int64) (k : Nat) (rows name : Int32) : Int32 := if name < Int32.ofNat k then 0 else if (16 : Int64) * rows.toInt64 < cv name.toInt.toNat then 0 else 1
theorem own_one (z : Int32) : (1 : Int32).toInt = 1 ∧ (0 : Int32).toInt = 0 ∧ (65535 : Int32).toInt = 65535 ∧ (1 : Int64).toInt = 1 ∧ (0 : Int64).toInt = 0 := by decide
theorem own_on {k : Nat} (h : k < 100) : (Int32.ofNat k).toInt = k := Int32.toInt_ofNat_of_lt (by omega)
theorem own_pred {k : Nat} (h : k < 3) : Int32.ofNat (k + 1) - (1 : Int32) = Int32.ofNat k := by
  apply Int32.toInt_inj.mp
  rw [own_sub32] <;> rw [own_on (by omega), (own_one 0).1] <;> (try rw [own_on (by omega)]) <;> omega
theorem own_succ {k : Nat} (h : k < 3) : (Int32.ofNat k + (1 : Int32)).toInt = ((k + 1 : Nat) : Int) := by
  rw [own_add32] <;> rw [own_on (by omega), (own_one 0).1] <;> omega
/-- give's radix: an int sum of at most 65536 -/
theorem own_radI {keys w : Int32} (hk : 0 ≤ keys.toInt ∧ keys.toInt ≤ 65535) (hw : w = 0 ∨ w = 1) : (keys + w).toInt64 = keys.toInt64 + w.toInt64 := by
  apply Int64.toInt_inj.mp
  have hw' : 0 ≤ w.toInt ∧ w.toInt ≤ 1 := by rcases hw with rfl | rfl <;> decide
  rw [own_add64] <;> simp only [Int32.toInt_toInt64]
  · rw [own_add32] <;> omega
  · omega
  · omega
theorem ef_rm4 (m : MethodId) (x0 : Int64) : entryFrame m #[(.long x0)] 2 = mkF m 0 #[.val (.long x0), .second] [] := by first | (simp [entryFrame, mkF, argsToLocals, Value.category]; done) | rfl
def Q_rm4 (Z : State) (q1 : Int64) (h0 : Heap) (n0 : Nat) (v : Option Value) (h : Heap) (L : List Loc) : Prop := v = some (.int q1.toInt32) ∧ Fr n0 L ∧ h = h0
set_option maxRecDepth 65536 in
set_option maxHeartbeats 40000000 in
theorem rm4 (l : Launch) (Z : State) (a0 : Array Value) (hw : ∀ d ∈ tables_1, d.before a0 Z = true) (ws : List Jvm.Cond) (q1 : Int64) (h0 : Heap) (n0 : Nat) (Z0 : n0 ≤ h0.size) (hq : q1.toInt32.toInt64 = q1) :
    MetFree l (⟨"java/lang/Math", "toIntExact", "(J)I"⟩ : MethodName) (head1 (Jvm.Cond.code (⟨"java/lang/Math", "toIntExact", "(J)I"⟩ : MethodName) jdk_29_method_43_code 2 (some .int) :: ws) ({ frames := 0, cells := 0, slots := 0, locals := 0 } : Room)) (fun a U => a = #[(.long q1)] ∧ Z.Warmed39 U.vm ∧ U.heap = h0) (fun _ _ _ _ _ => True) (fun _ U o U' => ∃ v L, o = .returned v ∧ Q_rm4 Z q1 h0 n0 v U'.heap L ∧ FrameEnd U o U' L ({ frames := 0, cells := 0, slots := 0, locals := 0 } : Room).cells ({ frames := 0, cells := 0, slots := 0, locals := 0 } : Room).slots) := by
  refine MetFree.of_bodySF (Jvm.Free.JP.mathPlain rfl (by decide +kernel)) hisR ?_
  intro p e s m args below meth c s₁ Bd hml0 hP hK
  obtain ⟨rfl, hZ, hh⟩ := hP
  have hx := Bd.exec
  have hby := Bd.bytes
  have hml : c.maxLocals = 2 := hml0
  have hown : s.vm.findClass "java/lang/Math" = some m.cls := findClass_of_methodNamed Bd.named
  have hnm := (name_of_methodNamed Bd.named Bd.method).1
  have X0 : Stand p l e ({ frames := 0, cells := 0, slots := 0, locals := 0 } : Room) s m #[(.long q1)] below meth c s₁ [] 0 0 := Stand.of_body Bd
  have e0 : s₁.heap = h0 := by rw [← hh, Bd.state]; rfl
  have N0 := Fr.nil n0
  have pre0 : ∀ t, Steps p.tables e below (s₁.setTop (mkF m 0 #[.val (.long q1), .second] [])) t → Steps p.tables e below (s₁.setTop (entryFrame m #[(.long q1)] 2)) t := fun t k => castTop (ef_rm4 m q1) k
  have S1 : ∀ t, Steps p.tables e below (s₁.setTop (mkF m 20 #[.val (.long q1), .second] [(.int (q1.toInt32))])) t → Steps p.tables e below (s₁.setTop (mkF m 0 #[.val (.long q1), .second] [])) t := by
    intro t kt
    show Steps p.tables e below (s₁.setTop (mkF m 0 #[.val (.long q1), .second] [])) _
    refine XS.lloadN X0.here hx rfl (hb hby d4_0) rfl ?_
    show Steps p.tables e below (s₁.setTop (mkF m 1 #[.val (.long q1), .second] [(.long q1)])) _
    refine XS.l2i X0.here hx rfl (hb hby d4_1) rfl ?_
    show Steps p.tables e below (s₁.setTop (mkF m 2 #[.val (.long q1), .second] [(.int (q1.toInt32))])) _
    refine XS.i2l X0.here hx rfl (hb hby d4_2) rfl ?_
    show Steps p.tables e below (s₁.setTop (mkF m 3 #[.val (.long q1), .second] [(.long ((q1.toInt32).toInt64))])) _
    refine XS.lloadN X0.here hx rfl (hb hby d4_3) rfl ?_
    show Steps p.tables e below (s₁.setTop (mkF m 4 #[.val (.long q1), .second] [(.long q1), (.long ((q1.toInt32).toInt64))])) _
    refine XS.lcmp X0.here hx rfl (hb hby d4_4) rfl ?_
    show Steps p.tables e below (s₁.setTop (mkF m 5 #[.val (.long q1), .second] [(.int (lcmpW ((q1.toInt32).toInt64) q1))])) _
    refine XS.ifYes X0.here hx rfl (pc0 := 5) (pc' := 18) rfl (hb hby d4_5) rfl ((if0 _ _).trans (teq ((lw_eq ((q1.toInt32).toInt64) q1).mpr hq)).1) (by decide) (by decide) ?_
    show Steps p.tables e below (s₁.setTop (mkF m 18 #[.val (.long q1), .second] [])) _
    refine XS.lloadN X0.here hx rfl (hb hby d4_18) rfl ?_
    show Steps p.tables e below (s₁.setTop (mkF m 19 #[.val (.long q1), .second] [(.long q1)])) _
    refine XS.l2i X0.here hx rfl (hb hby d4_19) rfl ?_
    exact kt
  have C2 : ∀ t, Steps p.tables e below (s₁.setTop (mkF m 20 #[.val (.long q1), .second] [(.int (q1.toInt32))])) t → Steps p.tables e below (s₁.setTop (mkF m 0 #[.val (.long q1), .second] [])) t := (fun t k => (S1 t k))
  obtain ⟨fs, hr, hrun, hended, hW, hsame⟩ := X0.leave (v := some (.int (q1.toInt32))) (fun h => by rw [Bd.returns] at h; cases h)
  refine ⟨_, _, pre0 _ (C2 _ ?_), hrun, hended, _, _, rfl, ?_, ⟨_, rfl⟩, hW, hsame.mono (by decide) (by decide)⟩
  · exact retOut X0 hx (t := .int) Bd.returns rfl (Or.inl ⟨rfl, Or.inl rfl, _, rfl⟩) (hb hby d4_20) hr
  · show Q_rm4 Z q1 h0 n0 _ s₁.heap _
    rw [e0]
    exact ⟨rfl, N0, rfl⟩
theorem ef_rm6 (m : MethodId) (x0 : Int64) (x1 : Int64) : entryFrame m #[(.long x0), (.long x1)] 4 = mkF m 0 #[.val (.long x0), .second, .val (.long x1), .second] [] := by first | (simp [entryFrame, mkF, argsToLocals, Value.category]; done) | rfl
def Q_rm6 (Z : State) (q1 : Int64) (q2 : Int64) (h0 : Heap) (n0 : Nat) (v : Option Value) (h : Heap) (L : List Loc) : Prop := v = some (.long (own_min q1 q2)) ∧ Fr n0 L ∧ h = h0
set_option maxRecDepth 65536 in
set_option maxHeartbeats 40000000 in
theorem rm6 (l : Launch) (Z : State) (a0 : Array Value) (hw : ∀ d ∈ tables_1, d.before a0 Z = true) (ws : List Jvm.Cond) (q1 : Int64) (q2 : Int64) (h0 : Heap) (n0 : Nat) (Z0 : n0 ≤ h0.size)  :
    MetFree l (⟨"java/lang/Math", "min", "(JJ)J"⟩ : MethodName) (head1 (Jvm.Cond.code (⟨"java/lang/Math", "min", "(JJ)J"⟩ : MethodName) jdk_29_method_70_code 4 (some .long) :: ws) ({ frames := 0, cells := 0, slots := 0, locals := 0 } : Room)) (fun a U => a = #[(.long q1), (.long q2)] ∧ Z.Warmed39 U.vm ∧ U.heap = h0) (fun _ _ _ _ _ => True) (fun _ U o U' => ∃ v L, o = .returned v ∧ Q_rm6 Z q1 q2 h0 n0 v U'.heap L ∧ FrameEnd U o U' L ({ frames := 0, cells := 0, slots := 0, locals := 0 } : Room).cells ({ frames := 0, cells := 0, slots := 0, locals := 0 } : Room).slots) := by
  refine MetFree.of_bodySF (Jvm.Free.JP.mathPlain rfl (by decide +kernel)) hisR ?_
  intro p e s m args below meth c s₁ Bd hml0 hP hK
  obtain ⟨rfl, hZ, hh⟩ := hP
  have hx := Bd.exec
  have hby := Bd.bytes
  have hml : c.maxLocals = 4 := hml0
  have hown : s.vm.findClass "java/lang/Math" = some m.cls := findClass_of_methodNamed Bd.named
  have hnm := (name_of_methodNamed Bd.named Bd.method).1
  have X0 : Stand p l e ({ frames := 0, cells := 0, slots := 0, locals := 0 } : Room) s m #[(.long q1), (.long q2)] below meth c s₁ [] 0 0 := Stand.of_body Bd
  have e0 : s₁.heap = h0 := by rw [← hh, Bd.state]; rfl
  have N0 := Fr.nil n0
  have pre0 : ∀ t, Steps p.tables e below (s₁.setTop (mkF m 0 #[.val (.long q1), .second, .val (.long q2), .second] [])) t → Steps p.tables e below (s₁.setTop (entryFrame m #[(.long q1), (.long q2)] 4)) t := fun t k => castTop (ef_rm6 m q1 q2) k
  have S3 : ∀ t, Steps p.tables e below (s₁.setTop (mkF m 3 #[.val (.long q1), .second, .val (.long q2), .second] [(.int (lcmpW q1 q2))])) t → Steps p.tables e below (s₁.setTop (mkF m 0 #[.val (.long q1), .second, .val (.long q2), .second] [])) t := by
    intro t kt
    show Steps p.tables e below (s₁.setTop (mkF m 0 #[.val (.long q1), .second, .val (.long q2), .second] [])) _
    refine XS.lloadN X0.here hx rfl (hb hby d6_0) rfl ?_
    show Steps p.tables e below (s₁.setTop (mkF m 1 #[.val (.long q1), .second, .val (.long q2), .second] [(.long q1)])) _
    refine XS.lloadN X0.here hx rfl (hb hby d6_1) rfl ?_
    show Steps p.tables e below (s₁.setTop (mkF m 2 #[.val (.long q1), .second, .val (.long q2), .second] [(.long q2), (.long q1)])) _
    refine XS.lcmp X0.here hx rfl (hb hby d6_2) rfl ?_
    exact kt
  by_cases hc4 : q2 < q1
  · have S5 : ∀ t, Steps p.tables e below (s₁.setTop (mkF m 11 #[.val (.long q1), .second, .val (.long q2), .second] [(.long q2)])) t → Steps p.tables e below (s₁.setTop (mkF m 3 #[.val (.long q1), .second, .val (.long q2), .second] [(.int (lcmpW q1 q2))])) t := by
      intro t kt
      show Steps p.tables e below (s₁.setTop (mkF m 3 #[.val (.long q1), .second, .val (.long q2), .second] [(.int (lcmpW q1 q2))])) _
      refine XS.ifYes X0.here hx rfl (pc0 := 3) (pc' := 10) rfl (hb hby d6_3) rfl ((if0 _ _).trans (tlt ((lw_gt q1 q2).mpr hc4)).2.2.1) (by decide) (by decide) ?_
      show Steps p.tables e below (s₁.setTop (mkF m 10 #[.val (.long q1), .second, .val (.long q2), .second] [])) _
      refine XS.lloadN X0.here hx rfl (hb hby d6_10) rfl ?_
      exact kt
    have C6 : ∀ t, Steps p.tables e below (s₁.setTop (mkF m 11 #[.val (.long q1), .second, .val (.long q2), .second] [(.long q2)])) t → Steps p.tables e below (s₁.setTop (mkF m 0 #[.val (.long q1), .second, .val (.long q2), .second] [])) t := (fun t k => (S3 t (S5 t k)))
    obtain ⟨fs, hr, hrun, hended, hW, hsame⟩ := X0.leave (v := some (.long q2)) (fun h => by rw [Bd.returns] at h; cases h)
    refine ⟨_, _, pre0 _ (C6 _ ?_), hrun, hended, _, _, rfl, ?_, ⟨_, rfl⟩, hW, hsame.mono (by decide) (by decide)⟩
    · exact retOut X0 hx (t := .long) Bd.returns rfl (Or.inr (Or.inl ⟨rfl, rfl, _, rfl⟩)) (hb hby d6_11) hr
    · show Q_rm6 Z q1 q2 h0 n0 _ s₁.heap _
      rw [e0]
      exact ⟨by simp only [own_min, if_pos hc4], N0, rfl⟩
  · have S7 : ∀ t, Steps p.tables e below (s₁.setTop (mkF m 11 #[.val (.long q1), .second, .val (.long q2), .second] [(.long q1)])) t → Steps p.tables e below (s₁.setTop (mkF m 3 #[.val (.long q1), .second, .val (.long q2), .second] [(.int (lcmpW q1 q2))])) t := by
      intro t kt
      show Steps p.tables e below (s₁.setTop (mkF m 3 #[.val (.long q1), .second, .val (.long q2), .second] [(.int (lcmpW q1 q2))])) _
      refine XS.ifNo X0.here hx rfl (hb hby d6_3) rfl ((if0 _ _).trans (flt (fun q => hc4 ((lw_gt q1 q2).mp q))).2.2.1) ?_
      show Steps p.tables e below (s₁.setTop (mkF m 6 #[.val (.long q1), .second, .val (.long q2), .second] [])) _
      refine XS.lloadN X0.here hx rfl (hb hby d6_6) rfl ?_
      show Steps p.tables e below (s₁.setTop (mkF m 7 #[.val (.long q1), .second, .val (.long q2), .second] [(.long q1)])) _
      refine XS.goto X0.here hx rfl (pc0 := 7) (pc' := 11) rfl (hb hby d6_7) (by decide) (by decide) ?_
      exact kt
    have C8 : ∀ t, Steps p.tables e below (s₁.setTop (mkF m 11 #[.val (.long q1), .second, .val (.long q2), .second] [(.long q1)])) t → Steps p.tables e below (s₁.setTop (mkF m 0 #[.val (.long q1), .second, .val (.long q2), .second] [])) t := (fun t k => (S3 t (S7 t k)))
    obtain ⟨fs, hr, hrun, hended, hW, hsame⟩ := X0.leave (v := some (.long q1)) (fun h => by rw [Bd.returns] at h; cases h)
    refine ⟨_, _, pre0 _ (C8 _ ?_), hrun, hended, _, _, rfl, ?_, ⟨_, rfl⟩, hW, hsame.mono (by decide) (by decide)⟩
    · exact retOut X0 hx (t := .long) Bd.returns rfl (Or.inr (Or.inl ⟨rfl, rfl, _, rfl⟩)) (hb hby d6_11) hr
    · show Q_rm6 Z q1 q2 h0 n0 _ s₁.heap _
      rw [e0]
      exact ⟨by simp only [own_min, if_neg hc4], N0, rfl⟩
theorem ef_rm5 (m : MethodId) (x0 : Int64) : entryFrame m #[(.long x0)] 2 = mkF m 0 #[.val (.long x0), .second] [] := by first | (simp [entryFrame, mkF, argsToLocals, Value.category]; done) | rfl
def Q_rm5 (Z : State) (q1 : Int64) (h0 : Heap) (n0 : Nat) (v : Option Value) (h : Heap) (L : List Loc) : Prop := v = some (.long (own_min ((16 : Int64) * q1) (2147483639 : Int64))) ∧ Fr n0 L ∧ h = h0
set_option maxRecDepth 65536 in
set_option maxHeartbeats 40000000 in
theorem rm5 (l : Launch) (Z : State) (a0 : Array Value) (hw : ∀ d ∈ tables_1, d.before a0 Z = true) (ws : List Jvm.Cond) (q1 : Int64) (h0 : Heap) (n0 : Nat) (Z0 : n0 ≤ h0.size)  :
    MetFree l (⟨"com/example/joinery/joinery/KeyGrid", "mostCells", "(J)J"⟩ : MethodName) (head1 (Jvm.Cond.code (⟨"com/example/joinery/joinery/KeyGrid", "mostCells", "(J)J"⟩ : MethodName) prog_21_method_7_code 2 (some .long) :: ws) ({ frames := 1, cells := 0, slots := 0, locals := 15 } : Room)) (fun a U => a = #[(.long q1)] ∧ Z.Warmed39 U.vm ∧ U.heap = h0) (fun _ _ _ _ _ => True) (fun _ U o U' => ∃ v L, o = .returned v ∧ Q_rm5 Z q1 h0 n0 v U'.heap L ∧ FrameEnd U o U' L ({ frames := 1, cells := 0, slots := 0, locals := 15 } : Room).cells ({ frames := 1, cells := 0, slots := 0, locals := 15 } : Room).slots) := by
  refine MetFree.of_bodySF (plainFor_of_name pn_0) hisR ?_
  intro p e s m args below meth c s₁ Bd hml0 hP hK
  obtain ⟨rfl, hZ, hh⟩ := hP
  have hx := Bd.exec
  have hby := Bd.bytes
  have hml : c.maxLocals = 2 := hml0
  have hown : s.vm.findClass "com/example/joinery/joinery/KeyGrid" = some m.cls := findClass_of_methodNamed Bd.named
  have hnm := (name_of_methodNamed Bd.named Bd.method).1
  have X0 : Stand p l e ({ frames := 1, cells := 0, slots := 0, locals := 15 } : Room) s m #[(.long q1)] below meth c s₁ [] 0 0 := Stand.of_body Bd
  have e0 : s₁.heap = h0 := by rw [← hh, Bd.state]; rfl
  have N0 := Fr.nil n0
  have pre0 : ∀ t, Steps p.tables e below (s₁.setTop (mkF m 0 #[.val (.long q1), .second] [])) t → Steps p.tables e below (s₁.setTop (entryFrame m #[(.long q1)] 2)) t := fun t k => castTop (ef_rm5 m q1) k
  have S9 : ∀ t, Steps p.tables e below (s₁.setTop (mkF m 8 #[.val (.long q1), .second] [(.long (2147483639 : Int64)), (.long ((16 : Int64) * q1))])) t → Steps p.tables e below (s₁.setTop (mkF m 0 #[.val (.long q1), .second] [])) t := by
    intro t kt
    show Steps p.tables e below (s₁.setTop (mkF m 0 #[.val (.long q1), .second] [])) _
    refine X0.ldc2Long hx hown (mvT hZ (hw _ (List.mem_of_getElem? (i := 55) rfl))) (g := (mkF m 0 #[.val (.long q1), .second] [])) rfl (hb hby d5_0) _ ?_
    show Steps p.tables e below (s₁.setTop (mkF m 3 #[.val (.long q1), .second] [(.long (16 : Int64))])) _
    refine XS.lloadN X0.here hx rfl (hb hby d5_3) rfl ?_
    show Steps p.tables e below (s₁.setTop (mkF m 4 #[.val (.long q1), .second] [(.long q1), (.long (16 : Int64))])) _
    refine XS.lmul X0.here hx rfl (hb hby d5_4) rfl ?_
    show Steps p.tables e below (s₁.setTop (mkF m 5 #[.val (.long q1), .second] [(.long ((16 : Int64) * q1))])) _
    refine X0.ldc2Long hx hown (mvT hZ (hw _ (List.mem_of_getElem? (i := 56) rfl))) (g := (mkF m 5 #[.val (.long q1), .second] [(.long ((16 : Int64) * q1))])) rfl (hb hby d5_5) _ ?_
    exact kt
  obtain ⟨_, _, ⟨T10, L10, k10, n10⟩, -, X10, ⟨Lc10, hQ10, l10, y10, z10⟩, st10⟩ := Jvm.LawKit.callS X0 hx (y := (⟨"java/lang/Math", "min", "(JJ)J"⟩ : MethodName)) hown (mvT hZ (hw _ (List.mem_of_getElem? (i := 57) rfl))) (mvT hZ (hw _ (List.mem_of_getElem? (i := 58) rfl))) (mvT hZ (hw _ (List.mem_of_getElem? (i := 23) rfl))) (mvT hZ (hw _ (List.mem_of_getElem? (i := 59) rfl))) (by decide) (backOf (W := 0) (rm6 l Z a0 hw [] ((16 : Int64) * q1) (2147483639 : Int64) h0 n0 Z0 ) hZ (hw _ (List.mem_of_getElem? (i := 59) rfl)) (hw _ (List.mem_of_getElem? (i := 23) rfl)) (by decide) (by decide)) (g := (mkF m 8 #[.val (.long q1), .second] [(.long (2147483639 : Int64)), (.long ((16 : Int64) * q1))])) rfl (by rw [hml]; rfl) (argsL := [(.long ((16 : Int64) * q1)), (.long (2147483639 : Int64))]) (rest := []) (lenOf pd_0 rfl) rfl (by show 2 * 0 + _ ≤ _; exact Nat.le_of_eq rfl) (hb hby d5_8) (fun _ _ => ⟨rfl, e0, (by decide : 0 + 0 ≤ _), (by decide : 0 + 0 ≤ _)⟩)
  dsimp only [Pt.U, Pt.locs, Pt.cells, Pt.slots] at X10 l10 y10 z10 st10 hQ10
  subst l10 y10 z10
  obtain ⟨rfl, N10q, e10⟩ := hQ10
  have N10 := Fr.app N0 N10q
  have C11 : ∀ t, Steps p.tables e below (T10.setTop (mkF m 11 #[.val (.long q1), .second] [(.long (own_min ((16 : Int64) * q1) (2147483639 : Int64)))])) t → Steps p.tables e below (s₁.setTop (mkF m 0 #[.val (.long q1), .second] [])) t := (fun t k => (S9 t (st10 t k)))
  obtain ⟨fs, hr, hrun, hended, hW, hsame⟩ := X10.leave (v := some (.long (own_min ((16 : Int64) * q1) (2147483639 : Int64)))) (fun h => by rw [Bd.returns] at h; cases h)
  refine ⟨_, _, pre0 _ (C11 _ ?_), hrun, hended, _, _, rfl, ?_, ⟨_, rfl⟩, hW, hsame.mono (by decide) (by decide)⟩
  · exact retOut X10 hx (t := .long) Bd.returns rfl (Or.inr (Or.inl ⟨rfl, rfl, _, rfl⟩)) (hb hby d5_11) hr
  · show Q_rm5 Z q1 h0 n0 _ T10.heap _
    rw [e10]
    exact ⟨rfl, N10, rfl⟩
theorem ef_rm3 (m : MethodId) (x0 : Addr) (x1 : Int32) (x2 : Int32) : entryFrame m #[(.ref x0), (.int x1), (.int x2)] 3 = mkF m 0 #[.val (.ref x0), .val (.int x1), .val (.int x2)] [] := by first | (simp [entryFrame, mkF, argsToLocals, Value.category]; done) | rfl
def Q_rm3 (Z : State) (a1 : Addr) (h0 : Heap) (n0 : Nat) (v : Option Value) (h : Heap) (L : List Loc) : Prop := v = none ∧ Fr n0 L ∧ Keep h0 h [a1]
set_option maxRecDepth 65536 in
set_option maxHeartbeats 40000000 in
theorem rm3 (l : Launch) (Z : State) (a0 : Array Value) (hw : ∀ d ∈ tables_1, d.before a0 Z = true) (ws : List Jvm.Cond) (a1 : Addr) (h0 : Heap) (n0 : Nat) (Z0 : n0 ≤ h0.size) (F12 : Exa Z h0 a1 "com/example/joinery/joinery/KeyGrid$Laid") (F13 : Fld Z h0 a1 "com/example/joinery/joinery/KeyGrid$Laid" "rows" "[I" .null) (F14 : Fld Z h0 a1 "com/example/joinery/joinery/KeyGrid$Laid" "compared" "[J" .null) (g_a1 : n0 ≤ a1) :
    MetFree l (⟨"com/example/joinery/joinery/KeyGrid$Laid", "<init>", "(II)V"⟩ : MethodName) (head1 (Jvm.Cond.code (⟨"com/example/joinery/joinery/KeyGrid$Laid", "<init>", "(II)V"⟩ : MethodName) prog_23_method_1_code 3 none :: ws) ({ frames := 1, cells := 2, slots := 0, locals := 14 } : Room)) (fun a U => a = #[(.ref a1), (.int (0 : Int32)), (.int (0 : Int32))] ∧ Z.Warmed39 U.vm ∧ U.heap = h0) (fun _ _ _ _ _ => True) (fun _ U o U' => ∃ v L, o = .returned v ∧ Q_rm3 Z a1 h0 n0 v U'.heap L ∧ FrameEnd U o U' L ({ frames := 1, cells := 2, slots := 0, locals := 14 } : Room).cells ({ frames := 1, cells := 2, slots := 0, locals := 14 } : Room).slots) := by
  refine MetFree.of_bodySF (plainFor_of_name pn_1) hisR ?_
  intro p e s m args below meth c s₁ Bd hml0 hP hK
  obtain ⟨rfl, hZ, hh⟩ := hP
  have hx := Bd.exec
  have hby := Bd.bytes
  have hml : c.maxLocals = 3 := hml0
  have hown : s.vm.findClass "com/example/joinery/joinery/KeyGrid$Laid" = some m.cls := findClass_of_methodNamed Bd.named
  have hnm := (name_of_methodNamed Bd.named Bd.method).1
  have X0 : Stand p l e ({ frames := 1, cells := 2, slots := 0, locals := 14 } : Room) s m #[(.ref a1), (.int (0 : Int32)), (.int (0 : Int32))] below meth c s₁ [] 0 0 := Stand.of_body Bd
  have e0 : s₁.heap = h0 := by rw [← hh, Bd.state]; rfl
  have N0 := Fr.nil n0
  have pre0 : ∀ t, Steps p.tables e below (s₁.setTop (mkF m 0 #[.val (.ref a1), .val (.int (0 : Int32)), .val (.int (0 : Int32))] [])) t → Steps p.tables e below (s₁.setTop (entryFrame m #[(.ref a1), (.int (0 : Int32)), (.int (0 : Int32))] 3)) t := fun t k => castTop (ef_rm3 m a1 (0 : Int32) (0 : Int32)) k
  have S15 : ∀ t, Steps p.tables e below (s₁.setTop (mkF m 1 #[.val (.ref a1), .val (.int (0 : Int32)), .val (.int (0 : Int32))] [(.ref a1)])) t → Steps p.tables e below (s₁.setTop (mkF m 0 #[.val (.ref a1), .val (.int (0 : Int32)), .val (.int (0 : Int32))] [])) t := by
    intro t kt
    show Steps p.tables e below (s₁.setTop (mkF m 0 #[.val (.ref a1), .val (.int (0 : Int32)), .val (.int (0 : Int32))] [])) _
    refine XS.aloadN X0.here hx rfl (hb hby d3_0) rfl rfl ?_
    exact kt
  obtain ⟨T16, X16, e16, st16⟩ := initO X0 hx hZ hown (hw _ (List.mem_of_getElem? (i := 20) rfl)) (hw _ (List.mem_of_getElem? (i := 9) rfl)) (hw _ (List.mem_of_getElem? (i := 10) rfl)) e0 (g := (mkF m 1 #[.val (.ref a1), .val (.int (0 : Int32)), .val (.int (0 : Int32))] [(.ref a1)])) rfl (by rw [hml]; rfl) rfl (hb hby d3_1) (by decide) (W := 0) (by show 2 * 0 + _ ≤ _; exact Nat.le_of_eq rfl) (by decide)
  have S17 : ∀ t, Steps p.tables e below (T16.setTop (mkF m 10 #[.val (.ref a1), .val (.int (0 : Int32)), .val (.int (0 : Int32))] [(.long (((0 : Int32).toInt64) * ((0 : Int32).toInt64))), (.ref a1)])) t → Steps p.tables e below (T16.setTop (mkF m 4 #[.val (.ref a1), .val (.int (0 : Int32)), .val (.int (0 : Int32))] [])) t := by
    intro t kt
    show Steps p.tables e below (T16.setTop (mkF m 4 #[.val (.ref a1), .val (.int (0 : Int32)), .val (.int (0 : Int32))] [])) _
    refine XS.aloadN X16.here hx rfl (hb hby d3_4) rfl rfl ?_
    show Steps p.tables e below (T16.setTop (mkF m 5 #[.val (.ref a1), .val (.int (0 : Int32)), .val (.int (0 : Int32))] [(.ref a1)])) _
    refine XS.iloadN X16.here hx rfl (hb hby d3_5) rfl ?_
    show Steps p.tables e below (T16.setTop (mkF m 6 #[.val (.ref a1), .val (.int (0 : Int32)), .val (.int (0 : Int32))] [(.int (0 : Int32)), (.ref a1)])) _
    refine XS.i2l X16.here hx rfl (hb hby d3_6) rfl ?_
    show Steps p.tables e below (T16.setTop (mkF m 7 #[.val (.ref a1), .val (.int (0 : Int32)), .val (.int (0 : Int32))] [(.long ((0 : Int32).toInt64)), (.ref a1)])) _
    refine XS.iloadN X16.here hx rfl (hb hby d3_7) rfl ?_
    show Steps p.tables e below (T16.setTop (mkF m 8 #[.val (.ref a1), .val (.int (0 : Int32)), .val (.int (0 : Int32))] [(.int (0 : Int32)), (.long ((0 : Int32).toInt64)), (.ref a1)])) _
    refine XS.i2l X16.here hx rfl (hb hby d3_8) rfl ?_
    show Steps p.tables e below (T16.setTop (mkF m 9 #[.val (.ref a1), .val (.int (0 : Int32)), .val (.int (0 : Int32))] [(.long ((0 : Int32).toInt64)), (.long ((0 : Int32).toInt64)), (.ref a1)])) _
    refine XS.lmul X16.here hx rfl (hb hby d3_9) rfl ?_
    exact kt
  obtain ⟨_, _, ⟨T18, L18, k18, n18⟩, -, X18, ⟨Lc18, hQ18, l18, y18, z18⟩, st18⟩ := Jvm.LawKit.callS X16 hx (y := (⟨"java/lang/Math", "toIntExact", "(J)I"⟩ : MethodName)) hown (mvT hZ (hw _ (List.mem_of_getElem? (i := 21) rfl))) (mvT hZ (hw _ (List.mem_of_getElem? (i := 22) rfl))) (mvT hZ (hw _ (List.mem_of_getElem? (i := 23) rfl))) (mvT hZ (hw _ (List.mem_of_getElem? (i := 24) rfl))) (by decide) (backOf (W := 1) (rm4 l Z a0 hw [] (((0 : Int32).toInt64) * ((0 : Int32).toInt64)) h0 n0 Z0 (by decide)) hZ (hw _ (List.mem_of_getElem? (i := 24) rfl)) (hw _ (List.mem_of_getElem? (i := 23) rfl)) (by decide) (by decide)) (g := (mkF m 10 #[.val (.ref a1), .val (.int (0 : Int32)), .val (.int (0 : Int32))] [(.long (((0 : Int32).toInt64) * ((0 : Int32).toInt64))), (.ref a1)])) rfl (by rw [hml]; rfl) (argsL := [(.long (((0 : Int32).toInt64) * ((0 : Int32).toInt64)))]) (rest := [(.ref a1)]) (lenOf pd_1 rfl) rfl (by show 2 * 0 + _ ≤ _; exact Nat.le_of_eq rfl) (hb hby d3_10) (fun _ _ => ⟨rfl, e16, (by decide : 0 + 0 ≤ _), (by decide : 0 + 0 ≤ _)⟩)
  dsimp only [Pt.U, Pt.locs, Pt.cells, Pt.slots] at X18 l18 y18 z18 st18 hQ18
  subst l18 y18 z18
  obtain ⟨rfl, N18q, e18⟩ := hQ18
  have N18 := Fr.app N0 N18q
  have S19 : ∀ t, Steps p.tables e below (T18.setTop (mkF m 13 #[.val (.ref a1), .val (.int (0 : Int32)), .val (.int (0 : Int32))] [(.int (0 : Int32)), (.ref a1)])) t → Steps p.tables e below (T18.setTop (mkF m 13 #[.val (.ref a1), .val (.int (0 : Int32)), .val (.int (0 : Int32))] [(.int ((((0 : Int32).toInt64) * ((0 : Int32).toInt64)).toInt32)), (.ref a1)])) t := fun t k => by rw [(show ((((0 : Int32).toInt64) * ((0 : Int32).toInt64)).toInt32) = (0 : Int32) from by decide)]; exact k
  obtain ⟨T20, h20, k20, X20, e20, E20, A20, st20⟩ := newP X18 hx hZ (hw _ (List.mem_of_getElem? (i := 11) rfl)) e18 (g := (mkF m 13 #[.val (.ref a1), .val (.int (0 : Int32)), .val (.int (0 : Int32))] [(.int (0 : Int32)), (.ref a1)])) rfl (hb hby d3_13) rfl (by decide) (cap := 0) (by decide) (by decide) (by decide) (by decide)
  obtain ⟨b20, g20⟩ : ∃ z, z = h0.size := ⟨_, rfl⟩
  rw [← g20] at A20 st20
  have g_b20 : n0 ≤ b20 := Nat.le_trans Z0 (Nat.le_of_eq g20.symm)
  have K21 := (Keep.refl h0 [a1])
  have sz_b20 : h0.size ≤ b20 := Nat.le_trans K21.1 (Nat.le_of_eq g20.symm)
  have ne_a1_b20 : a1 ≠ b20 := Nat.ne_of_lt (Nat.lt_of_lt_of_le F12.lt (Nat.le_of_eq g20.symm))
  have z22 : n0 ≤ h20.size := Nat.le_trans Z0 E20.1
  have V20 : ArF Z h20 b20 .int 0 (fun _ => (.int (0 : Int32))) := ArF.new A20 (by decide) rfl
  have f23 := (F13.ext E20)
  have f24 := (F12.ext E20)
  obtain ⟨T25, h25, X25, e25, W25, st25⟩ := putF X20 hx hZ hown (host := "") (Or.inl (hw _ (List.mem_of_getElem? (i := 25) rfl))) Via.refl e20 f23 f24 (Or.inr ⟨(hw _ (List.mem_of_getElem? (i := 26) rfl)), rfl, hnm⟩) (hw _ (List.mem_of_getElem? (i := 15) rfl)) (ty := (.array .int)) (by decide) rfl rfl (g := (mkF m 15 #[.val (.ref a1), .val (.int (0 : Int32)), .val (.int (0 : Int32))] [(.ref b20), (.ref a1)])) rfl rfl (hb hby d3_15)
  have z26 : n0 ≤ h25.size := Nat.le_trans z22 (Keep.of_wr W25).1
  have N27 := Fr.snoc X25 N18 g_a1
  have Fw25 := f23.same W25
  have S28 : ∀ t, Steps p.tables e below (T25.setTop (mkF m 20 #[.val (.ref a1), .val (.int (0 : Int32)), .val (.int (0 : Int32))] [(.int (0 : Int32)), (.ref a1)])) t → Steps p.tables e below (T25.setTop (mkF m 18 #[.val (.ref a1), .val (.int (0 : Int32)), .val (.int (0 : Int32))] [])) t := by
    intro t kt
    show Steps p.tables e below (T25.setTop (mkF m 18 #[.val (.ref a1), .val (.int (0 : Int32)), .val (.int (0 : Int32))] [])) _
    refine XS.aloadN X25.here hx rfl (hb hby d3_18) rfl rfl ?_
    show Steps p.tables e below (T25.setTop (mkF m 19 #[.val (.ref a1), .val (.int (0 : Int32)), .val (.int (0 : Int32))] [(.ref a1)])) _
    refine XS.iloadN X25.here hx rfl (hb hby d3_19) rfl ?_
    exact kt
  obtain ⟨T29, h29, k29, X29, e29, E29, A29, st29⟩ := newP X25 hx hZ (hw _ (List.mem_of_getElem? (i := 27) rfl)) e25 (g := (mkF m 20 #[.val (.ref a1), .val (.int (0 : Int32)), .val (.int (0 : Int32))] [(.int (0 : Int32)), (.ref a1)])) rfl (hb hby d3_20) rfl (by decide) (cap := 0) (by decide) (by decide) (by decide) (by decide)
  obtain ⟨b29, g29⟩ : ∃ z, z = h25.size := ⟨_, rfl⟩
  rw [← g29] at A29 st29
  have g_b29 : n0 ≤ b29 := Nat.le_trans z26 (Nat.le_of_eq g29.symm)
  have K30 := ((K21.ext E20).wr W25 (Or.inl (List.mem_of_getElem? (i := 0) rfl)))
  have sz_b29 : h0.size ≤ b29 := Nat.le_trans K30.1 (Nat.le_of_eq g29.symm)
  have f31 := (f24.wr W25)
  have ne_a1_b29 : a1 ≠ b29 := Nat.ne_of_lt (Nat.lt_of_lt_of_le f31.lt (Nat.le_of_eq g29.symm))
  have f32 := (V20.other W25 (Ne.symm ne_a1_b20))
  have ne_b20_b29 : b20 ≠ b29 := Nat.ne_of_lt (Nat.lt_of_lt_of_le f32.lt (Nat.le_of_eq g29.symm))
  have z33 : n0 ≤ h29.size := Nat.le_trans z26 E29.1
  have V29 : ArF Z h29 b29 .long 0 (fun _ => (.long (0 : Int64))) := ArF.new A29 (by decide) rfl
  have f34 := (((F14.ext E20).other W25 (Or.inr (slot_ne (Or.inr (hw _ (List.mem_of_getElem? (i := 29) rfl))) (Or.inr (hw _ (List.mem_of_getElem? (i := 26) rfl))) (by decide) (t := (.array .long)) (t' := (.array .int)) (by decide) (by decide)))).ext E29)
  have f35 := (f31.ext E29)
  obtain ⟨T36, h36, X36, e36, W36, st36⟩ := putF X29 hx hZ hown (host := "") (Or.inl (hw _ (List.mem_of_getElem? (i := 28) rfl))) Via.refl e29 f34 f35 (Or.inr ⟨(hw _ (List.mem_of_getElem? (i := 29) rfl)), rfl, hnm⟩) (hw _ (List.mem_of_getElem? (i := 15) rfl)) (ty := (.array .long)) (by decide) rfl rfl (g := (mkF m 22 #[.val (.ref a1), .val (.int (0 : Int32)), .val (.int (0 : Int32))] [(.ref b29), (.ref a1)])) rfl rfl (hb hby d3_22)
  have z37 : n0 ≤ h36.size := Nat.le_trans z33 (Keep.of_wr W36).1
  have N38 := Fr.snoc X36 N27 g_a1
  have Fw36 := f34.same W36
  have C39 : ∀ t, Steps p.tables e below (T36.setTop (mkF m 25 #[.val (.ref a1), .val (.int (0 : Int32)), .val (.int (0 : Int32))] [])) t → Steps p.tables e below (s₁.setTop (mkF m 0 #[.val (.ref a1), .val (.int (0 : Int32)), .val (.int (0 : Int32))] [])) t := (fun t k => (S15 t (st16 t (S17 t (st18 t (S19 t (st20 t (st25 t (S28 t (st29 t (st36 t k)))))))))))
  obtain ⟨fs, hr, hrun, hended, hW, hsame⟩ := X36.leave (v := none) (fun _ => rfl)
  refine ⟨_, _, pre0 _ (C39 _ ?_), hrun, hended, _, _, rfl, ?_, ⟨_, rfl⟩, hW, hsame.mono (by decide) (by decide)⟩
  · exact X36.returnOut hx Bd.returns (hb hby d3_25) hr
  · show Q_rm3 Z a1 h0 n0 _ T36.heap _
    rw [e36]
    exact ⟨rfl, N38, ((K30.ext E29).wr W36 (Or.inl (List.mem_of_getElem? (i := 0) rfl)))⟩
theorem ef_rm1 (m : MethodId) (x0 : Addr) (x1 : Int32) (x2 : Int64) : entryFrame m #[(.ref x0), (.int x1), (.long x2)] 4 = mkF m 0 #[.val (.ref x0), .val (.int x1), .val (.long x2), .second] [] := by first | (simp [entryFrame, mkF, argsToLocals, Value.category]; done) | rfl
def Q_rm1 (Z : State) (a1 : Addr) (q1 : Int64) (h0 : Heap) (n0 : Nat) (v : Option Value) (h : Heap) (L : List Loc) : Prop := ∃ (r lk ap ak cf ld rd : Addr) (f1 f2 f3 f4 : Nat → Value), v = none ∧ Fr n0 L ∧ Keep h0 h [a1] ∧ n0 ≤ a1 ∧ a1 < r ∧ r < lk ∧ lk < ap ∧ ap < ak ∧ ak < cf ∧ cf < ld ∧ ld < rd ∧ Exa Z h a1 "com/example/joinery/joinery/KeyGrid" ∧ Fld Z h a1 "com/example/joinery/joinery/KeyGrid" "names" "I" (.int (3 : Int32)) ∧ Fld Z h a1 "com/example/joinery/joinery/KeyGrid" "first" "I" (.int (3 : Int32)) ∧ Fld Z h a1 "com/example/joinery/joinery/KeyGrid" "radix" "[I" (.ref r) ∧ Fld Z h a1 "com/example/joinery/joinery/KeyGrid" "lacked" "[Z" (.ref lk) ∧ Fld Z h a1 "com/example/joinery/joinery/KeyGrid" "apart" "[Z" (.ref ap) ∧ Fld Z h a1 "com/example/joinery/joinery/KeyGrid" "apartKeys" "[I" (.ref ak) ∧ Fld Z h a1 "com/example/joinery/joinery/KeyGrid" "cellsFrom" "[J" (.ref cf) ∧ Fld Z h a1 "com/example/joinery/joinery/KeyGrid" "leftDigits" "[[I" (.ref ld) ∧ Fld Z h a1 "com/example/joinery/joinery/KeyGrid" "rightDigits" "[[I" (.ref rd) ∧ ArF Z h r .int 3 f1 ∧ ArF Z h lk .boolean 3 f2 ∧ ArF Z h ap .boolean 3 f3 ∧ ArF Z h ak .int 3 f4 ∧ ArF Z h cf .long 4 (fun q => (.long (own_cv0 q))) ∧ ArR Z h ld 3 .int ∧ ArR Z h rd 3 .int
set_option maxRecDepth 65536 in
set_option maxHeartbeats 40000000 in
theorem rm1 (l : Launch) (Z : State) (a0 : Array Value) (hw : ∀ d ∈ tables_1, d.before a0 Z = true) (ws : List Jvm.Cond) (a1 : Addr) (q1 : Int64) (h0 : Heap) (n0 : Nat) (Z0 : n0 ≤ h0.size) (F40 : Exa Z h0 a1 "com/example/joinery/joinery/KeyGrid") (F41 : Fld Z h0 a1 "com/example/joinery/joinery/KeyGrid" "cells" "[I" .null) (F42 : Fld Z h0 a1 "com/example/joinery/joinery/KeyGrid" "leftLaid" "Lcom/example/joinery/joinery/KeyGrid$Laid;" .null) (F43 : Fld Z h0 a1 "com/example/joinery/joinery/KeyGrid" "rightLaid" "Lcom/example/joinery/joinery/KeyGrid$Laid;" .null) (F44 : Fld Z h0 a1 "com/example/joinery/joinery/KeyGrid" "leftOrder" "[I" .null) (F45 : Fld Z h0 a1 "com/example/joinery/joinery/KeyGrid" "rightOrder" "[I" .null) (F46 : Fld Z h0 a1 "com/example/joinery/joinery/KeyGrid" "leftHolders" "Lcom/example/joinery/joinery/KeyGrid$Laid;" .null) (F47 : Fld Z h0 a1 "com/example/joinery/joinery/KeyGrid" "rightHolders" "Lcom/example/joinery/joinery/KeyGrid$Laid;" .null) (F48 : Fld Z h0 a1 "com/example/joinery/joinery/KeyGrid" "keyStarts" "[I" .null) (F49 : Fld Z h0 a1 "com/example/joinery/joinery/KeyGrid" "leftKeys" "[I" .null) (F50 : Fld Z h0 a1 "com/example/joinery/joinery/KeyGrid" "keyedRows" "[J" .null) (F51 : Fld Z h0 a1 "com/example/joinery/joinery/KeyGrid" "sortedRows" "[I" .null) (F52 : Fld Z h0 a1 "com/example/joinery/joinery/KeyGrid" "names" "I" (.int (0 : Int32))) (F53 : Fld Z h0 a1 "com/example/joinery/joinery/KeyGrid" "mostCells" "J" (.long (0 : Int64))) (F54 : Fld Z h0 a1 "com/example/joinery/joinery/KeyGrid" "radix" "[I" .null) (F55 : Fld Z h0 a1 "com/example/joinery/joinery/KeyGrid" "lacked" "[Z" .null) (F56 : Fld Z h0 a1 "com/example/joinery/joinery/KeyGrid" "apart" "[Z" .null) (F57 : Fld Z h0 a1 "com/example/joinery/joinery/KeyGrid" "apartKeys" "[I" .null) (F58 : Fld Z h0 a1 "com/example/joinery/joinery/KeyGrid" "cellsFrom" "[J" .null) (F59 : Fld Z h0 a1 "com/example/joinery/joinery/KeyGrid" "first" "I" (.int (0 : Int32))) (F60 : Fld Z h0 a1 "com/example/joinery/joinery/KeyGrid" "leftDigits" "[[I" .null) (F61 : Fld Z h0 a1 "com/example/joinery/joinery/KeyGrid" "rightDigits" "[[I" .null) (g_a1 : n0 ≤ a1) :
    MetFree l (⟨"com/example/joinery/joinery/KeyGrid", "<init>", "(IJ)V"⟩ : MethodName) (head1 (Jvm.Cond.code (⟨"com/example/joinery/joinery/KeyGrid", "<init>", "(IJ)V"⟩ : MethodName) prog_21_method_1_code 4 none :: ws) ({ frames := 2, cells := 26, slots := 30, locals := 30 } : Room)) (fun a U => a = #[(.ref a1), (.int (3 : Int32)), (.long q1)] ∧ Z.Warmed39 U.vm ∧ U.heap = h0) (fun _ _ _ _ _ => True) (fun _ U o U' => ∃ v L, o = .returned v ∧ Q_rm1 Z a1 q1 h0 n0 v U'.heap L ∧ FrameEnd U o U' L ({ frames := 2, cells := 26, slots := 30, locals := 30 } : Room).cells ({ frames := 2, cells := 26, slots := 30, locals := 30 } : Room).slots) := by
  refine MetFree.of_bodySF (plainFor_of_name pn_0) hisR ?_
  intro p e s m args below meth c s₁ Bd hml0 hP hK
  obtain ⟨rfl, hZ, hh⟩ := hP
  have hx := Bd.exec
  have hby := Bd.bytes
  have hml : c.maxLocals = 4 := hml0
  have hown : s.vm.findClass "com/example/joinery/joinery/KeyGrid" = some m.cls := findClass_of_methodNamed Bd.named
  have hnm := (name_of_methodNamed Bd.named Bd.method).1
  have X0 : Stand p l e ({ frames := 2, cells := 26, slots := 30, locals := 30 } : Room) s m #[(.ref a1), (.int (3 : Int32)), (.long q1)] below meth c s₁ [] 0 0 := Stand.of_body Bd
  have e0 : s₁.heap = h0 := by rw [← hh, Bd.state]; rfl
  have N0 := Fr.nil n0
  have pre0 : ∀ t, Steps p.tables e below (s₁.setTop (mkF m 0 #[.val (.ref a1), .val (.int (3 : Int32)), .val (.long q1), .second] [])) t → Steps p.tables e below (s₁.setTop (entryFrame m #[(.ref a1), (.int (3 : Int32)), (.long q1)] 4)) t := fun t k => castTop (ef_rm1 m a1 (3 : Int32) q1) k
  have S62 : ∀ t, Steps p.tables e below (s₁.setTop (mkF m 1 #[.val (.ref a1), .val (.int (3 : Int32)), .val (.long q1), .second] [(.ref a1)])) t → Steps p.tables e below (s₁.setTop (mkF m 0 #[.val (.ref a1), .val (.int (3 : Int32)), .val (.long q1), .second] [])) t := by
    intro t kt
    show Steps p.tables e below (s₁.setTop (mkF m 0 #[.val (.ref a1), .val (.int (3 : Int32)), .val (.long q1), .second] [])) _
    refine XS.aloadN X0.here hx rfl (hb hby d1_0) rfl rfl ?_
    exact kt
  obtain ⟨T63, X63, e63, st63⟩ := initO X0 hx hZ hown (hw _ (List.mem_of_getElem? (i := 8) rfl)) (hw _ (List.mem_of_getElem? (i := 9) rfl)) (hw _ (List.mem_of_getElem? (i := 10) rfl)) e0 (g := (mkF m 1 #[.val (.ref a1), .val (.int (3 : Int32)), .val (.long q1), .second] [(.ref a1)])) rfl (by rw [hml]; rfl) rfl (hb hby d1_1) (by decide) (W := 0) (by show 2 * 0 + _ ≤ _; exact Nat.le_of_eq rfl) (by decide)
  have S64 : ∀ t, Steps p.tables e below (T63.setTop (mkF m 6 #[.val (.ref a1), .val (.int (3 : Int32)), .val (.long q1), .second] [(.int (0 : Int32)), (.ref a1)])) t → Steps p.tables e below (T63.setTop (mkF m 4 #[.val (.ref a1), .val (.int (3 : Int32)), .val (.long q1), .second] [])) t := by
    intro t kt
    show Steps p.tables e below (T63.setTop (mkF m 4 #[.val (.ref a1), .val (.int (3 : Int32)), .val (.long q1), .second] [])) _
    refine XS.aloadN X63.here hx rfl (hb hby d1_4) rfl rfl ?_
    show Steps p.tables e below (T63.setTop (mkF m 5 #[.val (.ref a1), .val (.int (3 : Int32)), .val (.long q1), .second] [(.ref a1)])) _
    refine XS.iconst X63.here hx rfl (hb hby d1_5) ?_
    exact kt
  obtain ⟨T65, h65, k65, X65, e65, E65, A65, st65⟩ := newP X63 hx hZ (hw _ (List.mem_of_getElem? (i := 11) rfl)) e63 (g := (mkF m 6 #[.val (.ref a1), .val (.int (3 : Int32)), .val (.long q1), .second] [(.int (0 : Int32)), (.ref a1)])) rfl (hb hby d1_6) rfl (by decide) (cap := 0) (by decide) (by decide) (by decide) (by decide)
  obtain ⟨b65, g65⟩ : ∃ z, z = h0.size := ⟨_, rfl⟩
  rw [← g65] at A65 st65
  have g_b65 : n0 ≤ b65 := Nat.le_trans Z0 (Nat.le_of_eq g65.symm)
  have K66 := (Keep.refl h0 [a1])
  have sz_b65 : h0.size ≤ b65 := Nat.le_trans K66.1 (Nat.le_of_eq g65.symm)
  have lt_a1_b65 : a1 < b65 := Nat.lt_of_lt_of_le F40.lt (Nat.le_of_eq g65.symm)
  have ne_a1_b65 : a1 ≠ b65 := Nat.ne_of_lt (Nat.lt_of_lt_of_le F40.lt (Nat.le_of_eq g65.symm))
  have z67 : n0 ≤ h65.size := Nat.le_trans Z0 E65.1
  have V65 : ArF Z h65 b65 .int 0 (fun _ => (.int (0 : Int32))) := ArF.new A65 (by decide) rfl
  have f68 := (F41.ext E65)
  have f69 := (F40.ext E65)
  obtain ⟨T70, h70, X70, e70, W70, st70⟩ := putF X65 hx hZ hown (host := "") (Or.inl (hw _ (List.mem_of_getElem? (i := 12) rfl))) Via.refl e65 f68 f69 (Or.inl (hw _ (List.mem_of_getElem? (i := 13) rfl))) (hw _ (List.mem_of_getElem? (i := 3) rfl)) (ty := (.array .int)) (by decide) rfl rfl (g := (mkF m 8 #[.val (.ref a1), .val (.int (3 : Int32)), .val (.long q1), .second] [(.ref b65), (.ref a1)])) rfl rfl (hb hby d1_8)
  have z71 : n0 ≤ h70.size := Nat.le_trans z67 (Keep.of_wr W70).1
  have N72 := Fr.snoc X70 N0 g_a1
  have Fw70 := f68.same W70
  have S73 : ∀ t, Steps p.tables e below (T70.setTop (mkF m 12 #[.val (.ref a1), .val (.int (3 : Int32)), .val (.long q1), .second] [(.ref a1)])) t → Steps p.tables e below (T70.setTop (mkF m 11 #[.val (.ref a1), .val (.int (3 : Int32)), .val (.long q1), .second] [])) t := by
    intro t kt
    show Steps p.tables e below (T70.setTop (mkF m 11 #[.val (.ref a1), .val (.int (3 : Int32)), .val (.long q1), .second] [])) _
    refine XS.aloadN X70.here hx rfl (hb hby d1_11) rfl rfl ?_
    exact kt
  obtain ⟨T74, h74, X74, e74, E74, A74, D74, -, st74⟩ := newO X70 hx hZ hown (hw _ (List.mem_of_getElem? (i := 14) rfl)) (hw _ (List.mem_of_getElem? (i := 15) rfl)) (hw _ (List.mem_of_getElem? (i := 16) rfl)) e70 (g := (mkF m 12 #[.val (.ref a1), .val (.int (3 : Int32)), .val (.long q1), .second] [(.ref a1)])) rfl (hb hby d1_12) (by decide) (by decide)
  obtain ⟨b74, g74⟩ : ∃ z, z = h70.size := ⟨_, rfl⟩
  rw [← g74] at A74 D74 st74
  have g_b74 : n0 ≤ b74 := Nat.le_trans z71 (Nat.le_of_eq g74.symm)
  have K75 := ((K66.ext E65).wr W70 (Or.inl (List.mem_of_getElem? (i := 0) rfl)))
  have sz_b74 : h0.size ≤ b74 := Nat.le_trans K75.1 (Nat.le_of_eq g74.symm)
  have f76 := (f69.wr W70)
  have lt_a1_b74 : a1 < b74 := Nat.lt_of_lt_of_le f76.lt (Nat.le_of_eq g74.symm)
  have ne_a1_b74 : a1 ≠ b74 := Nat.ne_of_lt (Nat.lt_of_lt_of_le f76.lt (Nat.le_of_eq g74.symm))
  have z77 : n0 ≤ h74.size := Nat.le_trans z71 E74.1
  have F78 : Fld Z h74 b74 "com/example/joinery/joinery/KeyGrid$Laid" "rows" "[I" .null := D74 (Or.inr (hw _ (List.mem_of_getElem? (i := 26) rfl))) (ty := (.array .int)) (by decide)
  have F79 : Fld Z h74 b74 "com/example/joinery/joinery/KeyGrid$Laid" "compared" "[J" .null := D74 (Or.inr (hw _ (List.mem_of_getElem? (i := 29) rfl))) (ty := (.array .long)) (by decide)
  have S80 : ∀ t, Steps p.tables e below (T74.setTop (mkF m 18 #[.val (.ref a1), .val (.int (3 : Int32)), .val (.long q1), .second] [(.int (0 : Int32)), (.int (0 : Int32)), (.ref b74), (.ref b74), (.ref a1)])) t → Steps p.tables e below (T74.setTop (mkF m 15 #[.val (.ref a1), .val (.int (3 : Int32)), .val (.long q1), .second] [(.ref b74), (.ref a1)])) t := by
    intro t kt
    show Steps p.tables e below (T74.setTop (mkF m 15 #[.val (.ref a1), .val (.int (3 : Int32)), .val (.long q1), .second] [(.ref b74), (.ref a1)])) _
    refine XS.dup X74.here hx rfl (hb hby d1_15) rfl rfl ?_
    show Steps p.tables e below (T74.setTop (mkF m 16 #[.val (.ref a1), .val (.int (3 : Int32)), .val (.long q1), .second] [(.ref b74), (.ref b74), (.ref a1)])) _
    refine XS.iconst X74.here hx rfl (hb hby d1_16) ?_
    show Steps p.tables e below (T74.setTop (mkF m 17 #[.val (.ref a1), .val (.int (3 : Int32)), .val (.long q1), .second] [(.int (0 : Int32)), (.ref b74), (.ref b74), (.ref a1)])) _
    refine XS.iconst X74.here hx rfl (hb hby d1_17) ?_
    exact kt
  obtain ⟨_, _, ⟨T81, L81, k81, n81⟩, -, X81, ⟨Lc81, hQ81, l81, y81, z81⟩, st81⟩ := X74.specialBack hx (y := (⟨"com/example/joinery/joinery/KeyGrid$Laid", "<init>", "(II)V"⟩ : MethodName)) rfl hown (mvT hZ (hw _ (List.mem_of_getElem? (i := 17) rfl))) (mvT hZ (hw _ (List.mem_of_getElem? (i := 18) rfl))) (mvT hZ (hw _ (List.mem_of_getElem? (i := 19) rfl))) (by decide) (backOf (W := 2) (rm3 l Z a0 hw [] b74 h74 n0 z77 A74 F78 F79 g_b74) hZ (hw _ (List.mem_of_getElem? (i := 19) rfl)) (hw _ (List.mem_of_getElem? (i := 16) rfl)) (by decide) (by decide)) (g := (mkF m 18 #[.val (.ref a1), .val (.int (3 : Int32)), .val (.long q1), .second] [(.int (0 : Int32)), (.int (0 : Int32)), (.ref b74), (.ref b74), (.ref a1)])) rfl (by rw [hml]; rfl) (Steps.refl _) (a := b74) (argsL := [(.int (0 : Int32)), (.int (0 : Int32))]) (rest := [(.ref b74), (.ref a1)]) (lenOf pd_2 rfl) rfl (by show 2 * 0 + _ ≤ _; exact Nat.le_of_eq rfl) (hb hby d1_18) (fun _ _ => ⟨rfl, e74, (by decide : 2 + 2 ≤ _), (by decide : 2 + 0 ≤ _)⟩)
  dsimp only [Pt.U, Pt.locs, Pt.cells, Pt.slots] at X81 l81 y81 z81 st81 hQ81
  subst l81 y81 z81
  obtain ⟨h81, e81⟩ : ∃ z, T81.heap = z := ⟨_, rfl⟩
  rw [e81] at hQ81
  obtain ⟨rfl, N81q, K81q⟩ := hQ81
  have z82 : n0 ≤ h81.size := Nat.le_trans z77 K81q.1
  have N81 := Fr.app N72 N81q
  have f83 := ((((F42.ext E65).other W70 (Or.inr (slot_ne (Or.inl (hw _ (List.mem_of_getElem? (i := 31) rfl))) (Or.inl (hw _ (List.mem_of_getElem? (i := 13) rfl))) (by decide) (t := (.object "com/example/joinery/joinery/KeyGrid$Laid")) (t' := (.array .int)) (by decide) (by decide)))).ext E74).keep K81q (ninS ne_a1_b74 nin0))
  have f84 := ((f76.ext E74).keep K81q)
  obtain ⟨T85, h85, X85, e85, W85, st85⟩ := putF X81 hx hZ hown (host := "") (Or.inl (hw _ (List.mem_of_getElem? (i := 30) rfl))) Via.refl e81 f83 f84 (Or.inl (hw _ (List.mem_of_getElem? (i := 31) rfl))) (hw _ (List.mem_of_getElem? (i := 3) rfl)) (ty := (.object "com/example/joinery/joinery/KeyGrid$Laid")) (by decide) rfl rfl (g := (mkF m 21 #[.val (.ref a1), .val (.int (3 : Int32)), .val (.long q1), .second] [(.ref b74), (.ref a1)])) rfl rfl (hb hby d1_21)
  have z86 : n0 ≤ h85.size := Nat.le_trans z82 (Keep.of_wr W85).1
  have N87 := Fr.snoc X85 N81 g_a1
  have Fw85 := f83.same W85
  have S88 : ∀ t, Steps p.tables e below (T85.setTop (mkF m 25 #[.val (.ref a1), .val (.int (3 : Int32)), .val (.long q1), .second] [(.ref a1)])) t → Steps p.tables e below (T85.setTop (mkF m 24 #[.val (.ref a1), .val (.int (3 : Int32)), .val (.long q1), .second] [])) t := by
    intro t kt
    show Steps p.tables e below (T85.setTop (mkF m 24 #[.val (.ref a1), .val (.int (3 : Int32)), .val (.long q1), .second] [])) _
    refine XS.aloadN X85.here hx rfl (hb hby d1_24) rfl rfl ?_
    exact kt
  obtain ⟨T89, h89, X89, e89, E89, A89, D89, -, st89⟩ := newO X85 hx hZ hown (hw _ (List.mem_of_getElem? (i := 14) rfl)) (hw _ (List.mem_of_getElem? (i := 15) rfl)) (hw _ (List.mem_of_getElem? (i := 16) rfl)) e85 (g := (mkF m 25 #[.val (.ref a1), .val (.int (3 : Int32)), .val (.long q1), .second] [(.ref a1)])) rfl (hb hby d1_25) (by decide) (by decide)
  obtain ⟨b89, g89⟩ : ∃ z, z = h85.size := ⟨_, rfl⟩
  rw [← g89] at A89 D89 st89
  have g_b89 : n0 ≤ b89 := Nat.le_trans z86 (Nat.le_of_eq g89.symm)
  have K90 := (((K75.ext E74).trans K81q (allS (Or.inr sz_b74) all0)).wr W85 (Or.inl (List.mem_of_getElem? (i := 0) rfl)))
  have sz_b89 : h0.size ≤ b89 := Nat.le_trans K90.1 (Nat.le_of_eq g89.symm)
  have f91 := (f84.wr W85)
  have lt_a1_b89 : a1 < b89 := Nat.lt_of_lt_of_le f91.lt (Nat.le_of_eq g89.symm)
  have ne_a1_b89 : a1 ≠ b89 := Nat.ne_of_lt (Nat.lt_of_lt_of_le f91.lt (Nat.le_of_eq g89.symm))
  have z92 : n0 ≤ h89.size := Nat.le_trans z86 E89.1
  have F93 : Fld Z h89 b89 "com/example/joinery/joinery/KeyGrid$Laid" "rows" "[I" .null := D89 (Or.inr (hw _ (List.mem_of_getElem? (i := 26) rfl))) (ty := (.array .int)) (by decide)
  have F94 : Fld Z h89 b89 "com/example/joinery/joinery/KeyGrid$Laid" "compared" "[J" .null := D89 (Or.inr (hw _ (List.mem_of_getElem? (i := 29) rfl))) (ty := (.array .long)) (by decide)
  have S95 : ∀ t, Steps p.tables e below (T89.setTop (mkF m 31 #[.val (.ref a1), .val (.int (3 : Int32)), .val (.long q1), .second] [(.int (0 : Int32)), (.int (0 : Int32)), (.ref b89), (.ref b89), (.ref a1)])) t → Steps p.tables e below (T89.setTop (mkF m 28 #[.val (.ref a1), .val (.int (3 : Int32)), .val (.long q1), .second] [(.ref b89), (.ref a1)])) t := by
    intro t kt
    show Steps p.tables e below (T89.setTop (mkF m 28 #[.val (.ref a1), .val (.int (3 : Int32)), .val (.long q1), .second] [(.ref b89), (.ref a1)])) _
    refine XS.dup X89.here hx rfl (hb hby d1_28) rfl rfl ?_
    show Steps p.tables e below (T89.setTop (mkF m 29 #[.val (.ref a1), .val (.int (3 : Int32)), .val (.long q1), .second] [(.ref b89), (.ref b89), (.ref a1)])) _
    refine XS.iconst X89.here hx rfl (hb hby d1_29) ?_
    show Steps p.tables e below (T89.setTop (mkF m 30 #[.val (.ref a1), .val (.int (3 : Int32)), .val (.long q1), .second] [(.int (0 : Int32)), (.ref b89), (.ref b89), (.ref a1)])) _
    refine XS.iconst X89.here hx rfl (hb hby d1_30) ?_
    exact kt
  obtain ⟨_, _, ⟨T96, L96, k96, n96⟩, -, X96, ⟨Lc96, hQ96, l96, y96, z96⟩, st96⟩ := X89.specialBack hx (y := (⟨"com/example/joinery/joinery/KeyGrid$Laid", "<init>", "(II)V"⟩ : MethodName)) rfl hown (mvT hZ (hw _ (List.mem_of_getElem? (i := 17) rfl))) (mvT hZ (hw _ (List.mem_of_getElem? (i := 18) rfl))) (mvT hZ (hw _ (List.mem_of_getElem? (i := 19) rfl))) (by decide) (backOf (W := 2) (rm3 l Z a0 hw [] b89 h89 n0 z92 A89 F93 F94 g_b89) hZ (hw _ (List.mem_of_getElem? (i := 19) rfl)) (hw _ (List.mem_of_getElem? (i := 16) rfl)) (by decide) (by decide)) (g := (mkF m 31 #[.val (.ref a1), .val (.int (3 : Int32)), .val (.long q1), .second] [(.int (0 : Int32)), (.int (0 : Int32)), (.ref b89), (.ref b89), (.ref a1)])) rfl (by rw [hml]; rfl) (Steps.refl _) (a := b89) (argsL := [(.int (0 : Int32)), (.int (0 : Int32))]) (rest := [(.ref b89), (.ref a1)]) (lenOf pd_2 rfl) rfl (by show 2 * 0 + _ ≤ _; exact Nat.le_of_eq rfl) (hb hby d1_31) (fun _ _ => ⟨rfl, e89, (by decide : 5 + 2 ≤ _), (by decide : 4 + 0 ≤ _)⟩)
  dsimp only [Pt.U, Pt.locs, Pt.cells, Pt.slots] at X96 l96 y96 z96 st96 hQ96
  subst l96 y96 z96
  obtain ⟨h96, e96⟩ : ∃ z, T96.heap = z := ⟨_, rfl⟩
  rw [e96] at hQ96
  obtain ⟨rfl, N96q, K96q⟩ := hQ96
  have z97 : n0 ≤ h96.size := Nat.le_trans z92 K96q.1
  have N96 := Fr.app N87 N96q
  have f98 := (((((((F43.ext E65).other W70 (Or.inr (slot_ne (Or.inl (hw _ (List.mem_of_getElem? (i := 33) rfl))) (Or.inl (hw _ (List.mem_of_getElem? (i := 13) rfl))) (by decide) (t := (.object "com/example/joinery/joinery/KeyGrid$Laid")) (t' := (.array .int)) (by decide) (by decide)))).ext E74).keep K81q (ninS ne_a1_b74 nin0)).other W85 (Or.inr (slot_ne (Or.inl (hw _ (List.mem_of_getElem? (i := 33) rfl))) (Or.inl (hw _ (List.mem_of_getElem? (i := 31) rfl))) (by decide) (t := (.object "com/example/joinery/joinery/KeyGrid$Laid")) (t' := (.object "com/example/joinery/joinery/KeyGrid$Laid")) (by decide) (by decide)))).ext E89).keep K96q (ninS ne_a1_b89 nin0))
  have f99 := ((f91.ext E89).keep K96q)
  obtain ⟨T100, h100, X100, e100, W100, st100⟩ := putF X96 hx hZ hown (host := "") (Or.inl (hw _ (List.mem_of_getElem? (i := 32) rfl))) Via.refl e96 f98 f99 (Or.inl (hw _ (List.mem_of_getElem? (i := 33) rfl))) (hw _ (List.mem_of_getElem? (i := 3) rfl)) (ty := (.object "com/example/joinery/joinery/KeyGrid$Laid")) (by decide) rfl rfl (g := (mkF m 34 #[.val (.ref a1), .val (.int (3 : Int32)), .val (.long q1), .second] [(.ref b89), (.ref a1)])) rfl rfl (hb hby d1_34)
  have z101 : n0 ≤ h100.size := Nat.le_trans z97 (Keep.of_wr W100).1
  have N102 := Fr.snoc X100 N96 g_a1
  have Fw100 := f98.same W100
  have S103 : ∀ t, Steps p.tables e below (T100.setTop (mkF m 39 #[.val (.ref a1), .val (.int (3 : Int32)), .val (.long q1), .second] [(.int (0 : Int32)), (.ref a1)])) t → Steps p.tables e below (T100.setTop (mkF m 37 #[.val (.ref a1), .val (.int (3 : Int32)), .val (.long q1), .second] [])) t := by
    intro t kt
    show Steps p.tables e below (T100.setTop (mkF m 37 #[.val (.ref a1), .val (.int (3 : Int32)), .val (.long q1), .second] [])) _
    refine XS.aloadN X100.here hx rfl (hb hby d1_37) rfl rfl ?_
    show Steps p.tables e below (T100.setTop (mkF m 38 #[.val (.ref a1), .val (.int (3 : Int32)), .val (.long q1), .second] [(.ref a1)])) _
    refine XS.iconst X100.here hx rfl (hb hby d1_38) ?_
    exact kt
  obtain ⟨T104, h104, k104, X104, e104, E104, A104, st104⟩ := newP X100 hx hZ (hw _ (List.mem_of_getElem? (i := 11) rfl)) e100 (g := (mkF m 39 #[.val (.ref a1), .val (.int (3 : Int32)), .val (.long q1), .second] [(.int (0 : Int32)), (.ref a1)])) rfl (hb hby d1_39) rfl (by decide) (cap := 0) (by decide) (by decide) (by decide) (by decide)
  obtain ⟨b104, g104⟩ : ∃ z, z = h100.size := ⟨_, rfl⟩
  rw [← g104] at A104 st104
  have g_b104 : n0 ≤ b104 := Nat.le_trans z101 (Nat.le_of_eq g104.symm)
  have K105 := (((K90.ext E89).trans K96q (allS (Or.inr sz_b89) all0)).wr W100 (Or.inl (List.mem_of_getElem? (i := 0) rfl)))
  have sz_b104 : h0.size ≤ b104 := Nat.le_trans K105.1 (Nat.le_of_eq g104.symm)
  have f106 := (f99.wr W100)
  have lt_a1_b104 : a1 < b104 := Nat.lt_of_lt_of_le f106.lt (Nat.le_of_eq g104.symm)
  have ne_a1_b104 : a1 ≠ b104 := Nat.ne_of_lt (Nat.lt_of_lt_of_le f106.lt (Nat.le_of_eq g104.symm))
  have z107 : n0 ≤ h104.size := Nat.le_trans z101 E104.1
  have V104 : ArF Z h104 b104 .int 0 (fun _ => (.int (0 : Int32))) := ArF.new A104 (by decide) rfl
  have f108 := (((((((((F44.ext E65).other W70 (Or.inr (slot_ne (Or.inl (hw _ (List.mem_of_getElem? (i := 35) rfl))) (Or.inl (hw _ (List.mem_of_getElem? (i := 13) rfl))) (by decide) (t := (.array .int)) (t' := (.array .int)) (by decide) (by decide)))).ext E74).keep K81q (ninS ne_a1_b74 nin0)).other W85 (Or.inr (slot_ne (Or.inl (hw _ (List.mem_of_getElem? (i := 35) rfl))) (Or.inl (hw _ (List.mem_of_getElem? (i := 31) rfl))) (by decide) (t := (.array .int)) (t' := (.object "com/example/joinery/joinery/KeyGrid$Laid")) (by decide) (by decide)))).ext E89).keep K96q (ninS ne_a1_b89 nin0)).other W100 (Or.inr (slot_ne (Or.inl (hw _ (List.mem_of_getElem? (i := 35) rfl))) (Or.inl (hw _ (List.mem_of_getElem? (i := 33) rfl))) (by decide) (t := (.array .int)) (t' := (.object "com/example/joinery/joinery/KeyGrid$Laid")) (by decide) (by decide)))).ext E104)
  have f109 := (f106.ext E104)
  obtain ⟨T110, h110, X110, e110, W110, st110⟩ := putF X104 hx hZ hown (host := "") (Or.inl (hw _ (List.mem_of_getElem? (i := 34) rfl))) Via.refl e104 f108 f109 (Or.inl (hw _ (List.mem_of_getElem? (i := 35) rfl))) (hw _ (List.mem_of_getElem? (i := 3) rfl)) (ty := (.array .int)) (by decide) rfl rfl (g := (mkF m 41 #[.val (.ref a1), .val (.int (3 : Int32)), .val (.long q1), .second] [(.ref b104), (.ref a1)])) rfl rfl (hb hby d1_41)
  have z111 : n0 ≤ h110.size := Nat.le_trans z107 (Keep.of_wr W110).1
  have N112 := Fr.snoc X110 N102 g_a1
  have Fw110 := f108.same W110
  have S113 : ∀ t, Steps p.tables e below (T110.setTop (mkF m 46 #[.val (.ref a1), .val (.int (3 : Int32)), .val (.long q1), .second] [(.int (0 : Int32)), (.ref a1)])) t → Steps p.tables e below (T110.setTop (mkF m 44 #[.val (.ref a1), .val (.int (3 : Int32)), .val (.long q1), .second] [])) t := by
    intro t kt
    show Steps p.tables e below (T110.setTop (mkF m 44 #[.val (.ref a1), .val (.int (3 : Int32)), .val (.long q1), .second] [])) _
    refine XS.aloadN X110.here hx rfl (hb hby d1_44) rfl rfl ?_
    show Steps p.tables e below (T110.setTop (mkF m 45 #[.val (.ref a1), .val (.int (3 : Int32)), .val (.long q1), .second] [(.ref a1)])) _
    refine XS.iconst X110.here hx rfl (hb hby d1_45) ?_
    exact kt
  obtain ⟨T114, h114, k114, X114, e114, E114, A114, st114⟩ := newP X110 hx hZ (hw _ (List.mem_of_getElem? (i := 11) rfl)) e110 (g := (mkF m 46 #[.val (.ref a1), .val (.int (3 : Int32)), .val (.long q1), .second] [(.int (0 : Int32)), (.ref a1)])) rfl (hb hby d1_46) rfl (by decide) (cap := 0) (by decide) (by decide) (by decide) (by decide)
  obtain ⟨b114, g114⟩ : ∃ z, z = h110.size := ⟨_, rfl⟩
  rw [← g114] at A114 st114
  have g_b114 : n0 ≤ b114 := Nat.le_trans z111 (Nat.le_of_eq g114.symm)
  have K115 := ((K105.ext E104).wr W110 (Or.inl (List.mem_of_getElem? (i := 0) rfl)))
  have sz_b114 : h0.size ≤ b114 := Nat.le_trans K115.1 (Nat.le_of_eq g114.symm)
  have f116 := (f109.wr W110)
  have lt_a1_b114 : a1 < b114 := Nat.lt_of_lt_of_le f116.lt (Nat.le_of_eq g114.symm)
  have ne_a1_b114 : a1 ≠ b114 := Nat.ne_of_lt (Nat.lt_of_lt_of_le f116.lt (Nat.le_of_eq g114.symm))
  have z117 : n0 ≤ h114.size := Nat.le_trans z111 E114.1
  have V114 : ArF Z h114 b114 .int 0 (fun _ => (.int (0 : Int32))) := ArF.new A114 (by decide) rfl
  have f118 := (((((((((((F45.ext E65).other W70 (Or.inr (slot_ne (Or.inl (hw _ (List.mem_of_getElem? (i := 37) rfl))) (Or.inl (hw _ (List.mem_of_getElem? (i := 13) rfl))) (by decide) (t := (.array .int)) (t' := (.array .int)) (by decide) (by decide)))).ext E74).keep K81q (ninS ne_a1_b74 nin0)).other W85 (Or.inr (slot_ne (Or.inl (hw _ (List.mem_of_getElem? (i := 37) rfl))) (Or.inl (hw _ (List.mem_of_getElem? (i := 31) rfl))) (by decide) (t := (.array .int)) (t' := (.object "com/example/joinery/joinery/KeyGrid$Laid")) (by decide) (by decide)))).ext E89).keep K96q (ninS ne_a1_b89 nin0)).other W100 (Or.inr (slot_ne (Or.inl (hw _ (List.mem_of_getElem? (i := 37) rfl))) (Or.inl (hw _ (List.mem_of_getElem? (i := 33) rfl))) (by decide) (t := (.array .int)) (t' := (.object "com/example/joinery/joinery/KeyGrid$Laid")) (by decide) (by decide)))).ext E104).other W110 (Or.inr (slot_ne (Or.inl (hw _ (List.mem_of_getElem? (i := 37) rfl))) (Or.inl (hw _ (List.mem_of_getElem? (i := 35) rfl))) (by decide) (t := (.array .int)) (t' := (.array .int)) (by decide) (by decide)))).ext E114)
  have f119 := (f116.ext E114)
  obtain ⟨T120, h120, X120, e120, W120, st120⟩ := putF X114 hx hZ hown (host := "") (Or.inl (hw _ (List.mem_of_getElem? (i := 36) rfl))) Via.refl e114 f118 f119 (Or.inl (hw _ (List.mem_of_getElem? (i := 37) rfl))) (hw _ (List.mem_of_getElem? (i := 3) rfl)) (ty := (.array .int)) (by decide) rfl rfl (g := (mkF m 48 #[.val (.ref a1), .val (.int (3 : Int32)), .val (.long q1), .second] [(.ref b114), (.ref a1)])) rfl rfl (hb hby d1_48)
  have z121 : n0 ≤ h120.size := Nat.le_trans z117 (Keep.of_wr W120).1
  have N122 := Fr.snoc X120 N112 g_a1
  have Fw120 := f118.same W120
  have S123 : ∀ t, Steps p.tables e below (T120.setTop (mkF m 52 #[.val (.ref a1), .val (.int (3 : Int32)), .val (.long q1), .second] [(.ref a1)])) t → Steps p.tables e below (T120.setTop (mkF m 51 #[.val (.ref a1), .val (.int (3 : Int32)), .val (.long q1), .second] [])) t := by
    intro t kt
    show Steps p.tables e below (T120.setTop (mkF m 51 #[.val (.ref a1), .val (.int (3 : Int32)), .val (.long q1), .second] [])) _
    refine XS.aloadN X120.here hx rfl (hb hby d1_51) rfl rfl ?_
    exact kt
  obtain ⟨T124, h124, X124, e124, E124, A124, D124, -, st124⟩ := newO X120 hx hZ hown (hw _ (List.mem_of_getElem? (i := 14) rfl)) (hw _ (List.mem_of_getElem? (i := 15) rfl)) (hw _ (List.mem_of_getElem? (i := 16) rfl)) e120 (g := (mkF m 52 #[.val (.ref a1), .val (.int (3 : Int32)), .val (.long q1), .second] [(.ref a1)])) rfl (hb hby d1_52) (by decide) (by decide)
  obtain ⟨b124, g124⟩ : ∃ z, z = h120.size := ⟨_, rfl⟩
  rw [← g124] at A124 D124 st124
  have g_b124 : n0 ≤ b124 := Nat.le_trans z121 (Nat.le_of_eq g124.symm)
  have K125 := ((K115.ext E114).wr W120 (Or.inl (List.mem_of_getElem? (i := 0) rfl)))
  have sz_b124 : h0.size ≤ b124 := Nat.le_trans K125.1 (Nat.le_of_eq g124.symm)
  have f126 := (f119.wr W120)
  have lt_a1_b124 : a1 < b124 := Nat.lt_of_lt_of_le f126.lt (Nat.le_of_eq g124.symm)
  have ne_a1_b124 : a1 ≠ b124 := Nat.ne_of_lt (Nat.lt_of_lt_of_le f126.lt (Nat.le_of_eq g124.symm))
  have z127 : n0 ≤ h124.size := Nat.le_trans z121 E124.1
  have F128 : Fld Z h124 b124 "com/example/joinery/joinery/KeyGrid$Laid" "rows" "[I" .null := D124 (Or.inr (hw _ (List.mem_of_getElem? (i := 26) rfl))) (ty := (.array .int)) (by decide)
  have F129 : Fld Z h124 b124 "com/example/joinery/joinery/KeyGrid$Laid" "compared" "[J" .null := D124 (Or.inr (hw _ (List.mem_of_getElem? (i := 29) rfl))) (ty := (.array .long)) (by decide)
  have S130 : ∀ t, Steps p.tables e below (T124.setTop (mkF m 58 #[.val (.ref a1), .val (.int (3 : Int32)), .val (.long q1), .second] [(.int (0 : Int32)), (.int (0 : Int32)), (.ref b124), (.ref b124), (.ref a1)])) t → Steps p.tables e below (T124.setTop (mkF m 55 #[.val (.ref a1), .val (.int (3 : Int32)), .val (.long q1), .second] [(.ref b124), (.ref a1)])) t := by
    intro t kt
    show Steps p.tables e below (T124.setTop (mkF m 55 #[.val (.ref a1), .val (.int (3 : Int32)), .val (.long q1), .second] [(.ref b124), (.ref a1)])) _
    refine XS.dup X124.here hx rfl (hb hby d1_55) rfl rfl ?_
    show Steps p.tables e below (T124.setTop (mkF m 56 #[.val (.ref a1), .val (.int (3 : Int32)), .val (.long q1), .second] [(.ref b124), (.ref b124), (.ref a1)])) _
    refine XS.iconst X124.here hx rfl (hb hby d1_56) ?_
    show Steps p.tables e below (T124.setTop (mkF m 57 #[.val (.ref a1), .val (.int (3 : Int32)), .val (.long q1), .second] [(.int (0 : Int32)), (.ref b124), (.ref b124), (.ref a1)])) _
    refine XS.iconst X124.here hx rfl (hb hby d1_57) ?_
    exact kt
  obtain ⟨_, _, ⟨T131, L131, k131, n131⟩, -, X131, ⟨Lc131, hQ131, l131, y131, z131⟩, st131⟩ := X124.specialBack hx (y := (⟨"com/example/joinery/joinery/KeyGrid$Laid", "<init>", "(II)V"⟩ : MethodName)) rfl hown (mvT hZ (hw _ (List.mem_of_getElem? (i := 17) rfl))) (mvT hZ (hw _ (List.mem_of_getElem? (i := 18) rfl))) (mvT hZ (hw _ (List.mem_of_getElem? (i := 19) rfl))) (by decide) (backOf (W := 2) (rm3 l Z a0 hw [] b124 h124 n0 z127 A124 F128 F129 g_b124) hZ (hw _ (List.mem_of_getElem? (i := 19) rfl)) (hw _ (List.mem_of_getElem? (i := 16) rfl)) (by decide) (by decide)) (g := (mkF m 58 #[.val (.ref a1), .val (.int (3 : Int32)), .val (.long q1), .second] [(.int (0 : Int32)), (.int (0 : Int32)), (.ref b124), (.ref b124), (.ref a1)])) rfl (by rw [hml]; rfl) (Steps.refl _) (a := b124) (argsL := [(.int (0 : Int32)), (.int (0 : Int32))]) (rest := [(.ref b124), (.ref a1)]) (lenOf pd_2 rfl) rfl (by show 2 * 0 + _ ≤ _; exact Nat.le_of_eq rfl) (hb hby d1_58) (fun _ _ => ⟨rfl, e124, (by decide : 10 + 2 ≤ _), (by decide : 6 + 0 ≤ _)⟩)
  dsimp only [Pt.U, Pt.locs, Pt.cells, Pt.slots] at X131 l131 y131 z131 st131 hQ131
  subst l131 y131 z131
  obtain ⟨h131, e131⟩ : ∃ z, T131.heap = z := ⟨_, rfl⟩
  rw [e131] at hQ131
  obtain ⟨rfl, N131q, K131q⟩ := hQ131
  have z132 : n0 ≤ h131.size := Nat.le_trans z127 K131q.1
  have N131 := Fr.app N122 N131q
  have f133 := ((((((((((((((F46.ext E65).other W70 (Or.inr (slot_ne (Or.inl (hw _ (List.mem_of_getElem? (i := 39) rfl))) (Or.inl (hw _ (List.mem_of_getElem? (i := 13) rfl))) (by decide) (t := (.object "com/example/joinery/joinery/KeyGrid$Laid")) (t' := (.array .int)) (by decide) (by decide)))).ext E74).keep K81q (ninS ne_a1_b74 nin0)).other W85 (Or.inr (slot_ne (Or.inl (hw _ (List.mem_of_getElem? (i := 39) rfl))) (Or.inl (hw _ (List.mem_of_getElem? (i := 31) rfl))) (by decide) (t := (.object "com/example/joinery/joinery/KeyGrid$Laid")) (t' := (.object "com/example/joinery/joinery/KeyGrid$Laid")) (by decide) (by decide)))).ext E89).keep K96q (ninS ne_a1_b89 nin0)).other W100 (Or.inr (slot_ne (Or.inl (hw _ (List.mem_of_getElem? (i := 39) rfl))) (Or.inl (hw _ (List.mem_of_getElem? (i := 33) rfl))) (by decide) (t := (.object "com/example/joinery/joinery/KeyGrid$Laid")) (t' := (.object "com/example/joinery/joinery/KeyGrid$Laid")) (by decide) (by decide)))).ext E104).other W110 (Or.inr (slot_ne (Or.inl (hw _ (List.mem_of_getElem? (i := 39) rfl))) (Or.inl (hw _ (List.mem_of_getElem? (i := 35) rfl))) (by decide) (t := (.object "com/example/joinery/joinery/KeyGrid$Laid")) (t' := (.array .int)) (by decide) (by decide)))).ext E114).other W120 (Or.inr (slot_ne (Or.inl (hw _ (List.mem_of_getElem? (i := 39) rfl))) (Or.inl (hw _ (List.mem_of_getElem? (i := 37) rfl))) (by decide) (t := (.object "com/example/joinery/joinery/KeyGrid$Laid")) (t' := (.array .int)) (by decide) (by decide)))).ext E124).keep K131q (ninS ne_a1_b124 nin0))
  have f134 := ((f126.ext E124).keep K131q)
  obtain ⟨T135, h135, X135, e135, W135, st135⟩ := putF X131 hx hZ hown (host := "") (Or.inl (hw _ (List.mem_of_getElem? (i := 38) rfl))) Via.refl e131 f133 f134 (Or.inl (hw _ (List.mem_of_getElem? (i := 39) rfl))) (hw _ (List.mem_of_getElem? (i := 3) rfl)) (ty := (.object "com/example/joinery/joinery/KeyGrid$Laid")) (by decide) rfl rfl (g := (mkF m 61 #[.val (.ref a1), .val (.int (3 : Int32)), .val (.long q1), .second] [(.ref b124), (.ref a1)])) rfl rfl (hb hby d1_61)
  have z136 : n0 ≤ h135.size := Nat.le_trans z132 (Keep.of_wr W135).1
  have N137 := Fr.snoc X135 N131 g_a1
  have Fw135 := f133.same W135
  have S138 : ∀ t, Steps p.tables e below (T135.setTop (mkF m 65 #[.val (.ref a1), .val (.int (3 : Int32)), .val (.long q1), .second] [(.ref a1)])) t → Steps p.tables e below (T135.setTop (mkF m 64 #[.val (.ref a1), .val (.int (3 : Int32)), .val (.long q1), .second] [])) t := by
    intro t kt
    show Steps p.tables e below (T135.setTop (mkF m 64 #[.val (.ref a1), .val (.int (3 : Int32)), .val (.long q1), .second] [])) _
    refine XS.aloadN X135.here hx rfl (hb hby d1_64) rfl rfl ?_
    exact kt
  obtain ⟨T139, h139, X139, e139, E139, A139, D139, -, st139⟩ := newO X135 hx hZ hown (hw _ (List.mem_of_getElem? (i := 14) rfl)) (hw _ (List.mem_of_getElem? (i := 15) rfl)) (hw _ (List.mem_of_getElem? (i := 16) rfl)) e135 (g := (mkF m 65 #[.val (.ref a1), .val (.int (3 : Int32)), .val (.long q1), .second] [(.ref a1)])) rfl (hb hby d1_65) (by decide) (by decide)
  obtain ⟨b139, g139⟩ : ∃ z, z = h135.size := ⟨_, rfl⟩
  rw [← g139] at A139 D139 st139
  have g_b139 : n0 ≤ b139 := Nat.le_trans z136 (Nat.le_of_eq g139.symm)
  have K140 := (((K125.ext E124).trans K131q (allS (Or.inr sz_b124) all0)).wr W135 (Or.inl (List.mem_of_getElem? (i := 0) rfl)))
  have sz_b139 : h0.size ≤ b139 := Nat.le_trans K140.1 (Nat.le_of_eq g139.symm)
  have f141 := (f134.wr W135)
  have lt_a1_b139 : a1 < b139 := Nat.lt_of_lt_of_le f141.lt (Nat.le_of_eq g139.symm)
  have ne_a1_b139 : a1 ≠ b139 := Nat.ne_of_lt (Nat.lt_of_lt_of_le f141.lt (Nat.le_of_eq g139.symm))
  have z142 : n0 ≤ h139.size := Nat.le_trans z136 E139.1
  have F143 : Fld Z h139 b139 "com/example/joinery/joinery/KeyGrid$Laid" "rows" "[I" .null := D139 (Or.inr (hw _ (List.mem_of_getElem? (i := 26) rfl))) (ty := (.array .int)) (by decide)
  have F144 : Fld Z h139 b139 "com/example/joinery/joinery/KeyGrid$Laid" "compared" "[J" .null := D139 (Or.inr (hw _ (List.mem_of_getElem? (i := 29) rfl))) (ty := (.array .long)) (by decide)
  have S145 : ∀ t, Steps p.tables e below (T139.setTop (mkF m 71 #[.val (.ref a1), .val (.int (3 : Int32)), .val (.long q1), .second] [(.int (0 : Int32)), (.int (0 : Int32)), (.ref b139), (.ref b139), (.ref a1)])) t → Steps p.tables e below (T139.setTop (mkF m 68 #[.val (.ref a1), .val (.int (3 : Int32)), .val (.long q1), .second] [(.ref b139), (.ref a1)])) t := by
    intro t kt
    show Steps p.tables e below (T139.setTop (mkF m 68 #[.val (.ref a1), .val (.int (3 : Int32)), .val (.long q1), .second] [(.ref b139), (.ref a1)])) _
    refine XS.dup X139.here hx rfl (hb hby d1_68) rfl rfl ?_
    show Steps p.tables e below (T139.setTop (mkF m 69 #[.val (.ref a1), .val (.int (3 : Int32)), .val (.long q1), .second] [(.ref b139), (.ref b139), (.ref a1)])) _
    refine XS.iconst X139.here hx rfl (hb hby d1_69) ?_
    show Steps p.tables e below (T139.setTop (mkF m 70 #[.val (.ref a1), .val (.int (3 : Int32)), .val (.long q1), .second] [(.int (0 : Int32)), (.ref b139), (.ref b139), (.ref a1)])) _
    refine XS.iconst X139.here hx rfl (hb hby d1_70) ?_
    exact kt
  obtain ⟨_, _, ⟨T146, L146, k146, n146⟩, -, X146, ⟨Lc146, hQ146, l146, y146, z146⟩, st146⟩ := X139.specialBack hx (y := (⟨"com/example/joinery/joinery/KeyGrid$Laid", "<init>", "(II)V"⟩ : MethodName)) rfl hown (mvT hZ (hw _ (List.mem_of_getElem? (i := 17) rfl))) (mvT hZ (hw _ (List.mem_of_getElem? (i := 18) rfl))) (mvT hZ (hw _ (List.mem_of_getElem? (i := 19) rfl))) (by decide) (backOf (W := 2) (rm3 l Z a0 hw [] b139 h139 n0 z142 A139 F143 F144 g_b139) hZ (hw _ (List.mem_of_getElem? (i := 19) rfl)) (hw _ (List.mem_of_getElem? (i := 16) rfl)) (by decide) (by decide)) (g := (mkF m 71 #[.val (.ref a1), .val (.int (3 : Int32)), .val (.long q1), .second] [(.int (0 : Int32)), (.int (0 : Int32)), (.ref b139), (.ref b139), (.ref a1)])) rfl (by rw [hml]; rfl) (Steps.refl _) (a := b139) (argsL := [(.int (0 : Int32)), (.int (0 : Int32))]) (rest := [(.ref b139), (.ref a1)]) (lenOf pd_2 rfl) rfl (by show 2 * 0 + _ ≤ _; exact Nat.le_of_eq rfl) (hb hby d1_71) (fun _ _ => ⟨rfl, e139, (by decide : 13 + 2 ≤ _), (by decide : 8 + 0 ≤ _)⟩)
  dsimp only [Pt.U, Pt.locs, Pt.cells, Pt.slots] at X146 l146 y146 z146 st146 hQ146
  subst l146 y146 z146
  obtain ⟨h146, e146⟩ : ∃ z, T146.heap = z := ⟨_, rfl⟩
  rw [e146] at hQ146
  obtain ⟨rfl, N146q, K146q⟩ := hQ146
  have z147 : n0 ≤ h146.size := Nat.le_trans z142 K146q.1
  have N146 := Fr.app N137 N146q
  have f148 := (((((((((((((((((F47.ext E65).other W70 (Or.inr (slot_ne (Or.inl (hw _ (List.mem_of_getElem? (i := 41) rfl))) (Or.inl (hw _ (List.mem_of_getElem? (i := 13) rfl))) (by decide) (t := (.object "com/example/joinery/joinery/KeyGrid$Laid")) (t' := (.array .int)) (by decide) (by decide)))).ext E74).keep K81q (ninS ne_a1_b74 nin0)).other W85 (Or.inr (slot_ne (Or.inl (hw _ (List.mem_of_getElem? (i := 41) rfl))) (Or.inl (hw _ (List.mem_of_getElem? (i := 31) rfl))) (by decide) (t := (.object "com/example/joinery/joinery/KeyGrid$Laid")) (t' := (.object "com/example/joinery/joinery/KeyGrid$Laid")) (by decide) (by decide)))).ext E89).keep K96q (ninS ne_a1_b89 nin0)).other W100 (Or.inr (slot_ne (Or.inl (hw _ (List.mem_of_getElem? (i := 41) rfl))) (Or.inl (hw _ (List.mem_of_getElem? (i := 33) rfl))) (by decide) (t := (.object "com/example/joinery/joinery/KeyGrid$Laid")) (t' := (.object "com/example/joinery/joinery/KeyGrid$Laid")) (by decide) (by decide)))).ext E104).other W110 (Or.inr (slot_ne (Or.inl (hw _ (List.mem_of_getElem? (i := 41) rfl))) (Or.inl (hw _ (List.mem_of_getElem? (i := 35) rfl))) (by decide) (t := (.object "com/example/joinery/joinery/KeyGrid$Laid")) (t' := (.array .int)) (by decide) (by decide)))).ext E114).other W120 (Or.inr (slot_ne (Or.inl (hw _ (List.mem_of_getElem? (i := 41) rfl))) (Or.inl (hw _ (List.mem_of_getElem? (i := 37) rfl))) (by decide) (t := (.object "com/example/joinery/joinery/KeyGrid$Laid")) (t' := (.array .int)) (by decide) (by decide)))).ext E124).keep K131q (ninS ne_a1_b124 nin0)).other W135 (Or.inr (slot_ne (Or.inl (hw _ (List.mem_of_getElem? (i := 41) rfl))) (Or.inl (hw _ (List.mem_of_getElem? (i := 39) rfl))) (by decide) (t := (.object "com/example/joinery/joinery/KeyGrid$Laid")) (t' := (.object "com/example/joinery/joinery/KeyGrid$Laid")) (by decide) (by decide)))).ext E139).keep K146q (ninS ne_a1_b139 nin0))
  have f149 := ((f141.ext E139).keep K146q)
  obtain ⟨T150, h150, X150, e150, W150, st150⟩ := putF X146 hx hZ hown (host := "") (Or.inl (hw _ (List.mem_of_getElem? (i := 40) rfl))) Via.refl e146 f148 f149 (Or.inl (hw _ (List.mem_of_getElem? (i := 41) rfl))) (hw _ (List.mem_of_getElem? (i := 3) rfl)) (ty := (.object "com/example/joinery/joinery/KeyGrid$Laid")) (by decide) rfl rfl (g := (mkF m 74 #[.val (.ref a1), .val (.int (3 : Int32)), .val (.long q1), .second] [(.ref b139), (.ref a1)])) rfl rfl (hb hby d1_74)
  have z151 : n0 ≤ h150.size := Nat.le_trans z147 (Keep.of_wr W150).1
  have N152 := Fr.snoc X150 N146 g_a1
  have Fw150 := f148.same W150
  have S153 : ∀ t, Steps p.tables e below (T150.setTop (mkF m 79 #[.val (.ref a1), .val (.int (3 : Int32)), .val (.long q1), .second] [(.int (0 : Int32)), (.ref a1)])) t → Steps p.tables e below (T150.setTop (mkF m 77 #[.val (.ref a1), .val (.int (3 : Int32)), .val (.long q1), .second] [])) t := by
    intro t kt
    show Steps p.tables e below (T150.setTop (mkF m 77 #[.val (.ref a1), .val (.int (3 : Int32)), .val (.long q1), .second] [])) _
    refine XS.aloadN X150.here hx rfl (hb hby d1_77) rfl rfl ?_
    show Steps p.tables e below (T150.setTop (mkF m 78 #[.val (.ref a1), .val (.int (3 : Int32)), .val (.long q1), .second] [(.ref a1)])) _
    refine XS.iconst X150.here hx rfl (hb hby d1_78) ?_
    exact kt
  obtain ⟨T154, h154, k154, X154, e154, E154, A154, st154⟩ := newP X150 hx hZ (hw _ (List.mem_of_getElem? (i := 11) rfl)) e150 (g := (mkF m 79 #[.val (.ref a1), .val (.int (3 : Int32)), .val (.long q1), .second] [(.int (0 : Int32)), (.ref a1)])) rfl (hb hby d1_79) rfl (by decide) (cap := 0) (by decide) (by decide) (by decide) (by decide)
  obtain ⟨b154, g154⟩ : ∃ z, z = h150.size := ⟨_, rfl⟩
  rw [← g154] at A154 st154
  have g_b154 : n0 ≤ b154 := Nat.le_trans z151 (Nat.le_of_eq g154.symm)
  have K155 := (((K140.ext E139).trans K146q (allS (Or.inr sz_b139) all0)).wr W150 (Or.inl (List.mem_of_getElem? (i := 0) rfl)))
  have sz_b154 : h0.size ≤ b154 := Nat.le_trans K155.1 (Nat.le_of_eq g154.symm)
  have f156 := (f149.wr W150)
  have lt_a1_b154 : a1 < b154 := Nat.lt_of_lt_of_le f156.lt (Nat.le_of_eq g154.symm)
  have ne_a1_b154 : a1 ≠ b154 := Nat.ne_of_lt (Nat.lt_of_lt_of_le f156.lt (Nat.le_of_eq g154.symm))
  have z157 : n0 ≤ h154.size := Nat.le_trans z151 E154.1
  have V154 : ArF Z h154 b154 .int 0 (fun _ => (.int (0 : Int32))) := ArF.new A154 (by decide) rfl
  have f158 := (((((((((((((((((((F48.ext E65).other W70 (Or.inr (slot_ne (Or.inl (hw _ (List.mem_of_getElem? (i := 43) rfl))) (Or.inl (hw _ (List.mem_of_getElem? (i := 13) rfl))) (by decide) (t := (.array .int)) (t' := (.array .int)) (by decide) (by decide)))).ext E74).keep K81q (ninS ne_a1_b74 nin0)).other W85 (Or.inr (slot_ne (Or.inl (hw _ (List.mem_of_getElem? (i := 43) rfl))) (Or.inl (hw _ (List.mem_of_getElem? (i := 31) rfl))) (by decide) (t := (.array .int)) (t' := (.object "com/example/joinery/joinery/KeyGrid$Laid")) (by decide) (by decide)))).ext E89).keep K96q (ninS ne_a1_b89 nin0)).other W100 (Or.inr (slot_ne (Or.inl (hw _ (List.mem_of_getElem? (i := 43) rfl))) (Or.inl (hw _ (List.mem_of_getElem? (i := 33) rfl))) (by decide) (t := (.array .int)) (t' := (.object "com/example/joinery/joinery/KeyGrid$Laid")) (by decide) (by decide)))).ext E104).other W110 (Or.inr (slot_ne (Or.inl (hw _ (List.mem_of_getElem? (i := 43) rfl))) (Or.inl (hw _ (List.mem_of_getElem? (i := 35) rfl))) (by decide) (t := (.array .int)) (t' := (.array .int)) (by decide) (by decide)))).ext E114).other W120 (Or.inr (slot_ne (Or.inl (hw _ (List.mem_of_getElem? (i := 43) rfl))) (Or.inl (hw _ (List.mem_of_getElem? (i := 37) rfl))) (by decide) (t := (.array .int)) (t' := (.array .int)) (by decide) (by decide)))).ext E124).keep K131q (ninS ne_a1_b124 nin0)).other W135 (Or.inr (slot_ne (Or.inl (hw _ (List.mem_of_getElem? (i := 43) rfl))) (Or.inl (hw _ (List.mem_of_getElem? (i := 39) rfl))) (by decide) (t := (.array .int)) (t' := (.object "com/example/joinery/joinery/KeyGrid$Laid")) (by decide) (by decide)))).ext E139).keep K146q (ninS ne_a1_b139 nin0)).other W150 (Or.inr (slot_ne (Or.inl (hw _ (List.mem_of_getElem? (i := 43) rfl))) (Or.inl (hw _ (List.mem_of_getElem? (i := 41) rfl))) (by decide) (t := (.array .int)) (t' := (.object "com/example/joinery/joinery/KeyGrid$Laid")) (by decide) (by decide)))).ext E154)
  have f159 := (f156.ext E154)
  obtain ⟨T160, h160, X160, e160, W160, st160⟩ := putF X154 hx hZ hown (host := "") (Or.inl (hw _ (List.mem_of_getElem? (i := 42) rfl))) Via.refl e154 f158 f159 (Or.inl (hw _ (List.mem_of_getElem? (i := 43) rfl))) (hw _ (List.mem_of_getElem? (i := 3) rfl)) (ty := (.array .int)) (by decide) rfl rfl (g := (mkF m 81 #[.val (.ref a1), .val (.int (3 : Int32)), .val (.long q1), .second] [(.ref b154), (.ref a1)])) rfl rfl (hb hby d1_81)
  have z161 : n0 ≤ h160.size := Nat.le_trans z157 (Keep.of_wr W160).1
  have N162 := Fr.snoc X160 N152 g_a1
  have Fw160 := f158.same W160
  have S163 : ∀ t, Steps p.tables e below (T160.setTop (mkF m 86 #[.val (.ref a1), .val (.int (3 : Int32)), .val (.long q1), .second] [(.int (0 : Int32)), (.ref a1)])) t → Steps p.tables e below (T160.setTop (mkF m 84 #[.val (.ref a1), .val (.int (3 : Int32)), .val (.long q1), .second] [])) t := by
    intro t kt
    show Steps p.tables e below (T160.setTop (mkF m 84 #[.val (.ref a1), .val (.int (3 : Int32)), .val (.long q1), .second] [])) _
    refine XS.aloadN X160.here hx rfl (hb hby d1_84) rfl rfl ?_
    show Steps p.tables e below (T160.setTop (mkF m 85 #[.val (.ref a1), .val (.int (3 : Int32)), .val (.long q1), .second] [(.ref a1)])) _
    refine XS.iconst X160.here hx rfl (hb hby d1_85) ?_
    exact kt
  obtain ⟨T164, h164, k164, X164, e164, E164, A164, st164⟩ := newP X160 hx hZ (hw _ (List.mem_of_getElem? (i := 11) rfl)) e160 (g := (mkF m 86 #[.val (.ref a1), .val (.int (3 : Int32)), .val (.long q1), .second] [(.int (0 : Int32)), (.ref a1)])) rfl (hb hby d1_86) rfl (by decide) (cap := 0) (by decide) (by decide) (by decide) (by decide)
  obtain ⟨b164, g164⟩ : ∃ z, z = h160.size := ⟨_, rfl⟩
  rw [← g164] at A164 st164
  have g_b164 : n0 ≤ b164 := Nat.le_trans z161 (Nat.le_of_eq g164.symm)
  have K165 := ((K155.ext E154).wr W160 (Or.inl (List.mem_of_getElem? (i := 0) rfl)))
  have sz_b164 : h0.size ≤ b164 := Nat.le_trans K165.1 (Nat.le_of_eq g164.symm)
  have f166 := (f159.wr W160)
  have lt_a1_b164 : a1 < b164 := Nat.lt_of_lt_of_le f166.lt (Nat.le_of_eq g164.symm)
  have ne_a1_b164 : a1 ≠ b164 := Nat.ne_of_lt (Nat.lt_of_lt_of_le f166.lt (Nat.le_of_eq g164.symm))
  have z167 : n0 ≤ h164.size := Nat.le_trans z161 E164.1
  have V164 : ArF Z h164 b164 .int 0 (fun _ => (.int (0 : Int32))) := ArF.new A164 (by decide) rfl
  have f168 := (((((((((((((((((((((F49.ext E65).other W70 (Or.inr (slot_ne (Or.inl (hw _ (List.mem_of_getElem? (i := 45) rfl))) (Or.inl (hw _ (List.mem_of_getElem? (i := 13) rfl))) (by decide) (t := (.array .int)) (t' := (.array .int)) (by decide) (by decide)))).ext E74).keep K81q (ninS ne_a1_b74 nin0)).other W85 (Or.inr (slot_ne (Or.inl (hw _ (List.mem_of_getElem? (i := 45) rfl))) (Or.inl (hw _ (List.mem_of_getElem? (i := 31) rfl))) (by decide) (t := (.array .int)) (t' := (.object "com/example/joinery/joinery/KeyGrid$Laid")) (by decide) (by decide)))).ext E89).keep K96q (ninS ne_a1_b89 nin0)).other W100 (Or.inr (slot_ne (Or.inl (hw _ (List.mem_of_getElem? (i := 45) rfl))) (Or.inl (hw _ (List.mem_of_getElem? (i := 33) rfl))) (by decide) (t := (.array .int)) (t' := (.object "com/example/joinery/joinery/KeyGrid$Laid")) (by decide) (by decide)))).ext E104).other W110 (Or.inr (slot_ne (Or.inl (hw _ (List.mem_of_getElem? (i := 45) rfl))) (Or.inl (hw _ (List.mem_of_getElem? (i := 35) rfl))) (by decide) (t := (.array .int)) (t' := (.array .int)) (by decide) (by decide)))).ext E114).other W120 (Or.inr (slot_ne (Or.inl (hw _ (List.mem_of_getElem? (i := 45) rfl))) (Or.inl (hw _ (List.mem_of_getElem? (i := 37) rfl))) (by decide) (t := (.array .int)) (t' := (.array .int)) (by decide) (by decide)))).ext E124).keep K131q (ninS ne_a1_b124 nin0)).other W135 (Or.inr (slot_ne (Or.inl (hw _ (List.mem_of_getElem? (i := 45) rfl))) (Or.inl (hw _ (List.mem_of_getElem? (i := 39) rfl))) (by decide) (t := (.array .int)) (t' := (.object "com/example/joinery/joinery/KeyGrid$Laid")) (by decide) (by decide)))).ext E139).keep K146q (ninS ne_a1_b139 nin0)).other W150 (Or.inr (slot_ne (Or.inl (hw _ (List.mem_of_getElem? (i := 45) rfl))) (Or.inl (hw _ (List.mem_of_getElem? (i := 41) rfl))) (by decide) (t := (.array .int)) (t' := (.object "com/example/joinery/joinery/KeyGrid$Laid")) (by decide) (by decide)))).ext E154).other W160 (Or.inr (slot_ne (Or.inl (hw _ (List.mem_of_getElem? (i := 45) rfl))) (Or.inl (hw _ (List.mem_of_getElem? (i := 43) rfl))) (by decide) (t := (.array .int)) (t' := (.array .int)) (by decide) (by decide)))).ext E164)
  have f169 := (f166.ext E164)
  obtain ⟨T170, h170, X170, e170, W170, st170⟩ := putF X164 hx hZ hown (host := "") (Or.inl (hw _ (List.mem_of_getElem? (i := 44) rfl))) Via.refl e164 f168 f169 (Or.inl (hw _ (List.mem_of_getElem? (i := 45) rfl))) (hw _ (List.mem_of_getElem? (i := 3) rfl)) (ty := (.array .int)) (by decide) rfl rfl (g := (mkF m 88 #[.val (.ref a1), .val (.int (3 : Int32)), .val (.long q1), .second] [(.ref b164), (.ref a1)])) rfl rfl (hb hby d1_88)
  have z171 : n0 ≤ h170.size := Nat.le_trans z167 (Keep.of_wr W170).1
  have N172 := Fr.snoc X170 N162 g_a1
  have Fw170 := f168.same W170
  have S173 : ∀ t, Steps p.tables e below (T170.setTop (mkF m 93 #[.val (.ref a1), .val (.int (3 : Int32)), .val (.long q1), .second] [(.int (0 : Int32)), (.ref a1)])) t → Steps p.tables e below (T170.setTop (mkF m 91 #[.val (.ref a1), .val (.int (3 : Int32)), .val (.long q1), .second] [])) t := by
    intro t kt
    show Steps p.tables e below (T170.setTop (mkF m 91 #[.val (.ref a1), .val (.int (3 : Int32)), .val (.long q1), .second] [])) _
    refine XS.aloadN X170.here hx rfl (hb hby d1_91) rfl rfl ?_
    show Steps p.tables e below (T170.setTop (mkF m 92 #[.val (.ref a1), .val (.int (3 : Int32)), .val (.long q1), .second] [(.ref a1)])) _
    refine XS.iconst X170.here hx rfl (hb hby d1_92) ?_
    exact kt
  obtain ⟨T174, h174, k174, X174, e174, E174, A174, st174⟩ := newP X170 hx hZ (hw _ (List.mem_of_getElem? (i := 27) rfl)) e170 (g := (mkF m 93 #[.val (.ref a1), .val (.int (3 : Int32)), .val (.long q1), .second] [(.int (0 : Int32)), (.ref a1)])) rfl (hb hby d1_93) rfl (by decide) (cap := 0) (by decide) (by decide) (by decide) (by decide)
  obtain ⟨b174, g174⟩ : ∃ z, z = h170.size := ⟨_, rfl⟩
  rw [← g174] at A174 st174
  have g_b174 : n0 ≤ b174 := Nat.le_trans z171 (Nat.le_of_eq g174.symm)
  have K175 := ((K165.ext E164).wr W170 (Or.inl (List.mem_of_getElem? (i := 0) rfl)))
  have sz_b174 : h0.size ≤ b174 := Nat.le_trans K175.1 (Nat.le_of_eq g174.symm)
  have f176 := (f169.wr W170)
  have lt_a1_b174 : a1 < b174 := Nat.lt_of_lt_of_le f176.lt (Nat.le_of_eq g174.symm)
  have ne_a1_b174 : a1 ≠ b174 := Nat.ne_of_lt (Nat.lt_of_lt_of_le f176.lt (Nat.le_of_eq g174.symm))
  have z177 : n0 ≤ h174.size := Nat.le_trans z171 E174.1
  have V174 : ArF Z h174 b174 .long 0 (fun _ => (.long (0 : Int64))) := ArF.new A174 (by decide) rfl
  have f178 := (((((((((((((((((((((((F50.ext E65).other W70 (Or.inr (slot_ne (Or.inl (hw _ (List.mem_of_getElem? (i := 47) rfl))) (Or.inl (hw _ (List.mem_of_getElem? (i := 13) rfl))) (by decide) (t := (.array .long)) (t' := (.array .int)) (by decide) (by decide)))).ext E74).keep K81q (ninS ne_a1_b74 nin0)).other W85 (Or.inr (slot_ne (Or.inl (hw _ (List.mem_of_getElem? (i := 47) rfl))) (Or.inl (hw _ (List.mem_of_getElem? (i := 31) rfl))) (by decide) (t := (.array .long)) (t' := (.object "com/example/joinery/joinery/KeyGrid$Laid")) (by decide) (by decide)))).ext E89).keep K96q (ninS ne_a1_b89 nin0)).other W100 (Or.inr (slot_ne (Or.inl (hw _ (List.mem_of_getElem? (i := 47) rfl))) (Or.inl (hw _ (List.mem_of_getElem? (i := 33) rfl))) (by decide) (t := (.array .long)) (t' := (.object "com/example/joinery/joinery/KeyGrid$Laid")) (by decide) (by decide)))).ext E104).other W110 (Or.inr (slot_ne (Or.inl (hw _ (List.mem_of_getElem? (i := 47) rfl))) (Or.inl (hw _ (List.mem_of_getElem? (i := 35) rfl))) (by decide) (t := (.array .long)) (t' := (.array .int)) (by decide) (by decide)))).ext E114).other W120 (Or.inr (slot_ne (Or.inl (hw _ (List.mem_of_getElem? (i := 47) rfl))) (Or.inl (hw _ (List.mem_of_getElem? (i := 37) rfl))) (by decide) (t := (.array .long)) (t' := (.array .int)) (by decide) (by decide)))).ext E124).keep K131q (ninS ne_a1_b124 nin0)).other W135 (Or.inr (slot_ne (Or.inl (hw _ (List.mem_of_getElem? (i := 47) rfl))) (Or.inl (hw _ (List.mem_of_getElem? (i := 39) rfl))) (by decide) (t := (.array .long)) (t' := (.object "com/example/joinery/joinery/KeyGrid$Laid")) (by decide) (by decide)))).ext E139).keep K146q (ninS ne_a1_b139 nin0)).other W150 (Or.inr (slot_ne (Or.inl (hw _ (List.mem_of_getElem? (i := 47) rfl))) (Or.inl (hw _ (List.mem_of_getElem? (i := 41) rfl))) (by decide) (t := (.array .long)) (t' := (.object "com/example/joinery/joinery/KeyGrid$Laid")) (by decide) (by decide)))).ext E154).other W160 (Or.inr (slot_ne (Or.inl (hw _ (List.mem_of_getElem? (i := 47) rfl))) (Or.inl (hw _ (List.mem_of_getElem? (i := 43) rfl))) (by decide) (t := (.array .long)) (t' := (.array .int)) (by decide) (by decide)))).ext E164).other W170 (Or.inr (slot_ne (Or.inl (hw _ (List.mem_of_getElem? (i := 47) rfl))) (Or.inl (hw _ (List.mem_of_getElem? (i := 45) rfl))) (by decide) (t := (.array .long)) (t' := (.array .int)) (by decide) (by decide)))).ext E174)
  have f179 := (f176.ext E174)
  obtain ⟨T180, h180, X180, e180, W180, st180⟩ := putF X174 hx hZ hown (host := "") (Or.inl (hw _ (List.mem_of_getElem? (i := 46) rfl))) Via.refl e174 f178 f179 (Or.inl (hw _ (List.mem_of_getElem? (i := 47) rfl))) (hw _ (List.mem_of_getElem? (i := 3) rfl)) (ty := (.array .long)) (by decide) rfl rfl (g := (mkF m 95 #[.val (.ref a1), .val (.int (3 : Int32)), .val (.long q1), .second] [(.ref b174), (.ref a1)])) rfl rfl (hb hby d1_95)
  have z181 : n0 ≤ h180.size := Nat.le_trans z177 (Keep.of_wr W180).1
  have N182 := Fr.snoc X180 N172 g_a1
  have Fw180 := f178.same W180
  have S183 : ∀ t, Steps p.tables e below (T180.setTop (mkF m 100 #[.val (.ref a1), .val (.int (3 : Int32)), .val (.long q1), .second] [(.int (0 : Int32)), (.ref a1)])) t → Steps p.tables e below (T180.setTop (mkF m 98 #[.val (.ref a1), .val (.int (3 : Int32)), .val (.long q1), .second] [])) t := by
    intro t kt
    show Steps p.tables e below (T180.setTop (mkF m 98 #[.val (.ref a1), .val (.int (3 : Int32)), .val (.long q1), .second] [])) _
    refine XS.aloadN X180.here hx rfl (hb hby d1_98) rfl rfl ?_
    show Steps p.tables e below (T180.setTop (mkF m 99 #[.val (.ref a1), .val (.int (3 : Int32)), .val (.long q1), .second] [(.ref a1)])) _
    refine XS.iconst X180.here hx rfl (hb hby d1_99) ?_
    exact kt
  obtain ⟨T184, h184, k184, X184, e184, E184, A184, st184⟩ := newP X180 hx hZ (hw _ (List.mem_of_getElem? (i := 11) rfl)) e180 (g := (mkF m 100 #[.val (.ref a1), .val (.int (3 : Int32)), .val (.long q1), .second] [(.int (0 : Int32)), (.ref a1)])) rfl (hb hby d1_100) rfl (by decide) (cap := 0) (by decide) (by decide) (by decide) (by decide)
  obtain ⟨b184, g184⟩ : ∃ z, z = h180.size := ⟨_, rfl⟩
  rw [← g184] at A184 st184
  have g_b184 : n0 ≤ b184 := Nat.le_trans z181 (Nat.le_of_eq g184.symm)
  have K185 := ((K175.ext E174).wr W180 (Or.inl (List.mem_of_getElem? (i := 0) rfl)))
  have sz_b184 : h0.size ≤ b184 := Nat.le_trans K185.1 (Nat.le_of_eq g184.symm)
  have f186 := (f179.wr W180)
  have lt_a1_b184 : a1 < b184 := Nat.lt_of_lt_of_le f186.lt (Nat.le_of_eq g184.symm)
  have ne_a1_b184 : a1 ≠ b184 := Nat.ne_of_lt (Nat.lt_of_lt_of_le f186.lt (Nat.le_of_eq g184.symm))
  have z187 : n0 ≤ h184.size := Nat.le_trans z181 E184.1
  have V184 : ArF Z h184 b184 .int 0 (fun _ => (.int (0 : Int32))) := ArF.new A184 (by decide) rfl
  have f188 := (((((((((((((((((((((((((F51.ext E65).other W70 (Or.inr (slot_ne (Or.inl (hw _ (List.mem_of_getElem? (i := 49) rfl))) (Or.inl (hw _ (List.mem_of_getElem? (i := 13) rfl))) (by decide) (t := (.array .int)) (t' := (.array .int)) (by decide) (by decide)))).ext E74).keep K81q (ninS ne_a1_b74 nin0)).other W85 (Or.inr (slot_ne (Or.inl (hw _ (List.mem_of_getElem? (i := 49) rfl))) (Or.inl (hw _ (List.mem_of_getElem? (i := 31) rfl))) (by decide) (t := (.array .int)) (t' := (.object "com/example/joinery/joinery/KeyGrid$Laid")) (by decide) (by decide)))).ext E89).keep K96q (ninS ne_a1_b89 nin0)).other W100 (Or.inr (slot_ne (Or.inl (hw _ (List.mem_of_getElem? (i := 49) rfl))) (Or.inl (hw _ (List.mem_of_getElem? (i := 33) rfl))) (by decide) (t := (.array .int)) (t' := (.object "com/example/joinery/joinery/KeyGrid$Laid")) (by decide) (by decide)))).ext E104).other W110 (Or.inr (slot_ne (Or.inl (hw _ (List.mem_of_getElem? (i := 49) rfl))) (Or.inl (hw _ (List.mem_of_getElem? (i := 35) rfl))) (by decide) (t := (.array .int)) (t' := (.array .int)) (by decide) (by decide)))).ext E114).other W120 (Or.inr (slot_ne (Or.inl (hw _ (List.mem_of_getElem? (i := 49) rfl))) (Or.inl (hw _ (List.mem_of_getElem? (i := 37) rfl))) (by decide) (t := (.array .int)) (t' := (.array .int)) (by decide) (by decide)))).ext E124).keep K131q (ninS ne_a1_b124 nin0)).other W135 (Or.inr (slot_ne (Or.inl (hw _ (List.mem_of_getElem? (i := 49) rfl))) (Or.inl (hw _ (List.mem_of_getElem? (i := 39) rfl))) (by decide) (t := (.array .int)) (t' := (.object "com/example/joinery/joinery/KeyGrid$Laid")) (by decide) (by decide)))).ext E139).keep K146q (ninS ne_a1_b139 nin0)).other W150 (Or.inr (slot_ne (Or.inl (hw _ (List.mem_of_getElem? (i := 49) rfl))) (Or.inl (hw _ (List.mem_of_getElem? (i := 41) rfl))) (by decide) (t := (.array .int)) (t' := (.object "com/example/joinery/joinery/KeyGrid$Laid")) (by decide) (by decide)))).ext E154).other W160 (Or.inr (slot_ne (Or.inl (hw _ (List.mem_of_getElem? (i := 49) rfl))) (Or.inl (hw _ (List.mem_of_getElem? (i := 43) rfl))) (by decide) (t := (.array .int)) (t' := (.array .int)) (by decide) (by decide)))).ext E164).other W170 (Or.inr (slot_ne (Or.inl (hw _ (List.mem_of_getElem? (i := 49) rfl))) (Or.inl (hw _ (List.mem_of_getElem? (i := 45) rfl))) (by decide) (t := (.array .int)) (t' := (.array .int)) (by decide) (by decide)))).ext E174).other W180 (Or.inr (slot_ne (Or.inl (hw _ (List.mem_of_getElem? (i := 49) rfl))) (Or.inl (hw _ (List.mem_of_getElem? (i := 47) rfl))) (by decide) (t := (.array .int)) (t' := (.array .long)) (by decide) (by decide)))).ext E184)
  have f189 := (f186.ext E184)
  obtain ⟨T190, h190, X190, e190, W190, st190⟩ := putF X184 hx hZ hown (host := "") (Or.inl (hw _ (List.mem_of_getElem? (i := 48) rfl))) Via.refl e184 f188 f189 (Or.inl (hw _ (List.mem_of_getElem? (i := 49) rfl))) (hw _ (List.mem_of_getElem? (i := 3) rfl)) (ty := (.array .int)) (by decide) rfl rfl (g := (mkF m 102 #[.val (.ref a1), .val (.int (3 : Int32)), .val (.long q1), .second] [(.ref b184), (.ref a1)])) rfl rfl (hb hby d1_102)
  have z191 : n0 ≤ h190.size := Nat.le_trans z187 (Keep.of_wr W190).1
  have N192 := Fr.snoc X190 N182 g_a1
  have Fw190 := f188.same W190
  have S193 : ∀ t, Steps p.tables e below (T190.setTop (mkF m 107 #[.val (.ref a1), .val (.int (3 : Int32)), .val (.long q1), .second] [(.int (3 : Int32)), (.ref a1)])) t → Steps p.tables e below (T190.setTop (mkF m 105 #[.val (.ref a1), .val (.int (3 : Int32)), .val (.long q1), .second] [])) t := by
    intro t kt
    show Steps p.tables e below (T190.setTop (mkF m 105 #[.val (.ref a1), .val (.int (3 : Int32)), .val (.long q1), .second] [])) _
    refine XS.aloadN X190.here hx rfl (hb hby d1_105) rfl rfl ?_
    show Steps p.tables e below (T190.setTop (mkF m 106 #[.val (.ref a1), .val (.int (3 : Int32)), .val (.long q1), .second] [(.ref a1)])) _
    refine XS.iloadN X190.here hx rfl (hb hby d1_106) rfl ?_
    exact kt
  have f194 := ((((((((((((((((((((((((((F52.ext E65).other W70 (Or.inr (slot_ne (Or.inr (hw _ (List.mem_of_getElem? (i := 51) rfl))) (Or.inl (hw _ (List.mem_of_getElem? (i := 13) rfl))) (by decide) (t := .int) (t' := (.array .int)) (by decide) (by decide)))).ext E74).keep K81q (ninS ne_a1_b74 nin0)).other W85 (Or.inr (slot_ne (Or.inr (hw _ (List.mem_of_getElem? (i := 51) rfl))) (Or.inl (hw _ (List.mem_of_getElem? (i := 31) rfl))) (by decide) (t := .int) (t' := (.object "com/example/joinery/joinery/KeyGrid$Laid")) (by decide) (by decide)))).ext E89).keep K96q (ninS ne_a1_b89 nin0)).other W100 (Or.inr (slot_ne (Or.inr (hw _ (List.mem_of_getElem? (i := 51) rfl))) (Or.inl (hw _ (List.mem_of_getElem? (i := 33) rfl))) (by decide) (t := .int) (t' := (.object "com/example/joinery/joinery/KeyGrid$Laid")) (by decide) (by decide)))).ext E104).other W110 (Or.inr (slot_ne (Or.inr (hw _ (List.mem_of_getElem? (i := 51) rfl))) (Or.inl (hw _ (List.mem_of_getElem? (i := 35) rfl))) (by decide) (t := .int) (t' := (.array .int)) (by decide) (by decide)))).ext E114).other W120 (Or.inr (slot_ne (Or.inr (hw _ (List.mem_of_getElem? (i := 51) rfl))) (Or.inl (hw _ (List.mem_of_getElem? (i := 37) rfl))) (by decide) (t := .int) (t' := (.array .int)) (by decide) (by decide)))).ext E124).keep K131q (ninS ne_a1_b124 nin0)).other W135 (Or.inr (slot_ne (Or.inr (hw _ (List.mem_of_getElem? (i := 51) rfl))) (Or.inl (hw _ (List.mem_of_getElem? (i := 39) rfl))) (by decide) (t := .int) (t' := (.object "com/example/joinery/joinery/KeyGrid$Laid")) (by decide) (by decide)))).ext E139).keep K146q (ninS ne_a1_b139 nin0)).other W150 (Or.inr (slot_ne (Or.inr (hw _ (List.mem_of_getElem? (i := 51) rfl))) (Or.inl (hw _ (List.mem_of_getElem? (i := 41) rfl))) (by decide) (t := .int) (t' := (.object "com/example/joinery/joinery/KeyGrid$Laid")) (by decide) (by decide)))).ext E154).other W160 (Or.inr (slot_ne (Or.inr (hw _ (List.mem_of_getElem? (i := 51) rfl))) (Or.inl (hw _ (List.mem_of_getElem? (i := 43) rfl))) (by decide) (t := .int) (t' := (.array .int)) (by decide) (by decide)))).ext E164).other W170 (Or.inr (slot_ne (Or.inr (hw _ (List.mem_of_getElem? (i := 51) rfl))) (Or.inl (hw _ (List.mem_of_getElem? (i := 45) rfl))) (by decide) (t := .int) (t' := (.array .int)) (by decide) (by decide)))).ext E174).other W180 (Or.inr (slot_ne (Or.inr (hw _ (List.mem_of_getElem? (i := 51) rfl))) (Or.inl (hw _ (List.mem_of_getElem? (i := 47) rfl))) (by decide) (t := .int) (t' := (.array .long)) (by decide) (by decide)))).ext E184).other W190 (Or.inr (slot_ne (Or.inr (hw _ (List.mem_of_getElem? (i := 51) rfl))) (Or.inl (hw _ (List.mem_of_getElem? (i := 49) rfl))) (by decide) (t := .int) (t' := (.array .int)) (by decide) (by decide))))
  have f195 := (f189.wr W190)
  obtain ⟨T196, h196, X196, e196, W196, st196⟩ := putF X190 hx hZ hown (host := "") (Or.inl (hw _ (List.mem_of_getElem? (i := 50) rfl))) Via.refl e190 f194 f195 (Or.inr ⟨(hw _ (List.mem_of_getElem? (i := 51) rfl)), rfl, hnm⟩) (hw _ (List.mem_of_getElem? (i := 3) rfl)) (ty := .int) (by decide) rfl rfl (g := (mkF m 107 #[.val (.ref a1), .val (.int (3 : Int32)), .val (.long q1), .second] [(.int (3 : Int32)), (.ref a1)])) rfl rfl (hb hby d1_107)
  have z197 : n0 ≤ h196.size := Nat.le_trans z191 (Keep.of_wr W196).1
  have N198 := Fr.snoc X196 N192 g_a1
  have Fw196 := f194.same W196
  have S199 : ∀ t, Steps p.tables e below (T196.setTop (mkF m 112 #[.val (.ref a1), .val (.int (3 : Int32)), .val (.long q1), .second] [(.long q1), (.ref a1)])) t → Steps p.tables e below (T196.setTop (mkF m 110 #[.val (.ref a1), .val (.int (3 : Int32)), .val (.long q1), .second] [])) t := by
    intro t kt
    show Steps p.tables e below (T196.setTop (mkF m 110 #[.val (.ref a1), .val (.int (3 : Int32)), .val (.long q1), .second] [])) _
    refine XS.aloadN X196.here hx rfl (hb hby d1_110) rfl rfl ?_
    show Steps p.tables e below (T196.setTop (mkF m 111 #[.val (.ref a1), .val (.int (3 : Int32)), .val (.long q1), .second] [(.ref a1)])) _
    refine XS.lloadN X196.here hx rfl (hb hby d1_111) rfl ?_
    exact kt
  obtain ⟨_, _, ⟨T200, L200, k200, n200⟩, -, X200, ⟨Lc200, hQ200, l200, y200, z200⟩, st200⟩ := Jvm.LawKit.callS X196 hx (y := (⟨"com/example/joinery/joinery/KeyGrid", "mostCells", "(J)J"⟩ : MethodName)) hown (mvT hZ (hw _ (List.mem_of_getElem? (i := 52) rfl))) (mvT hZ (hw _ (List.mem_of_getElem? (i := 53) rfl))) (mvT hZ (hw _ (List.mem_of_getElem? (i := 4) rfl))) (mvT hZ (hw _ (List.mem_of_getElem? (i := 54) rfl))) (by decide) (backOf (W := 1) (rm5 l Z a0 hw [] q1 h196 n0 z197 ) hZ (hw _ (List.mem_of_getElem? (i := 54) rfl)) (hw _ (List.mem_of_getElem? (i := 4) rfl)) (by decide) (by decide)) (g := (mkF m 112 #[.val (.ref a1), .val (.int (3 : Int32)), .val (.long q1), .second] [(.long q1), (.ref a1)])) rfl (by rw [hml]; rfl) (argsL := [(.long q1)]) (rest := [(.ref a1)]) (lenOf pd_3 rfl) rfl (by show 2 * 0 + _ ≤ _; exact Nat.le_of_eq rfl) (hb hby d1_112) (fun _ _ => ⟨rfl, e196, (by decide : 19 + 0 ≤ _), (by decide : 8 + 0 ≤ _)⟩)
  dsimp only [Pt.U, Pt.locs, Pt.cells, Pt.slots] at X200 l200 y200 z200 st200 hQ200
  subst l200 y200 z200
  obtain ⟨rfl, N200q, e200⟩ := hQ200
  have N200 := Fr.app N198 N200q
  have f201 := (((((((((((((((((((((((((((F53.ext E65).other W70 (Or.inr (slot_ne (Or.inr (hw _ (List.mem_of_getElem? (i := 61) rfl))) (Or.inl (hw _ (List.mem_of_getElem? (i := 13) rfl))) (by decide) (t := .long) (t' := (.array .int)) (by decide) (by decide)))).ext E74).keep K81q (ninS ne_a1_b74 nin0)).other W85 (Or.inr (slot_ne (Or.inr (hw _ (List.mem_of_getElem? (i := 61) rfl))) (Or.inl (hw _ (List.mem_of_getElem? (i := 31) rfl))) (by decide) (t := .long) (t' := (.object "com/example/joinery/joinery/KeyGrid$Laid")) (by decide) (by decide)))).ext E89).keep K96q (ninS ne_a1_b89 nin0)).other W100 (Or.inr (slot_ne (Or.inr (hw _ (List.mem_of_getElem? (i := 61) rfl))) (Or.inl (hw _ (List.mem_of_getElem? (i := 33) rfl))) (by decide) (t := .long) (t' := (.object "com/example/joinery/joinery/KeyGrid$Laid")) (by decide) (by decide)))).ext E104).other W110 (Or.inr (slot_ne (Or.inr (hw _ (List.mem_of_getElem? (i := 61) rfl))) (Or.inl (hw _ (List.mem_of_getElem? (i := 35) rfl))) (by decide) (t := .long) (t' := (.array .int)) (by decide) (by decide)))).ext E114).other W120 (Or.inr (slot_ne (Or.inr (hw _ (List.mem_of_getElem? (i := 61) rfl))) (Or.inl (hw _ (List.mem_of_getElem? (i := 37) rfl))) (by decide) (t := .long) (t' := (.array .int)) (by decide) (by decide)))).ext E124).keep K131q (ninS ne_a1_b124 nin0)).other W135 (Or.inr (slot_ne (Or.inr (hw _ (List.mem_of_getElem? (i := 61) rfl))) (Or.inl (hw _ (List.mem_of_getElem? (i := 39) rfl))) (by decide) (t := .long) (t' := (.object "com/example/joinery/joinery/KeyGrid$Laid")) (by decide) (by decide)))).ext E139).keep K146q (ninS ne_a1_b139 nin0)).other W150 (Or.inr (slot_ne (Or.inr (hw _ (List.mem_of_getElem? (i := 61) rfl))) (Or.inl (hw _ (List.mem_of_getElem? (i := 41) rfl))) (by decide) (t := .long) (t' := (.object "com/example/joinery/joinery/KeyGrid$Laid")) (by decide) (by decide)))).ext E154).other W160 (Or.inr (slot_ne (Or.inr (hw _ (List.mem_of_getElem? (i := 61) rfl))) (Or.inl (hw _ (List.mem_of_getElem? (i := 43) rfl))) (by decide) (t := .long) (t' := (.array .int)) (by decide) (by decide)))).ext E164).other W170 (Or.inr (slot_ne (Or.inr (hw _ (List.mem_of_getElem? (i := 61) rfl))) (Or.inl (hw _ (List.mem_of_getElem? (i := 45) rfl))) (by decide) (t := .long) (t' := (.array .int)) (by decide) (by decide)))).ext E174).other W180 (Or.inr (slot_ne (Or.inr (hw _ (List.mem_of_getElem? (i := 61) rfl))) (Or.inl (hw _ (List.mem_of_getElem? (i := 47) rfl))) (by decide) (t := .long) (t' := (.array .long)) (by decide) (by decide)))).ext E184).other W190 (Or.inr (slot_ne (Or.inr (hw _ (List.mem_of_getElem? (i := 61) rfl))) (Or.inl (hw _ (List.mem_of_getElem? (i := 49) rfl))) (by decide) (t := .long) (t' := (.array .int)) (by decide) (by decide)))).other W196 (Or.inr (slot_ne (Or.inr (hw _ (List.mem_of_getElem? (i := 61) rfl))) (Or.inr (hw _ (List.mem_of_getElem? (i := 51) rfl))) (by decide) (t := .long) (t' := .int) (by decide) (by decide))))
  have f202 := (f195.wr W196)
  obtain ⟨T203, h203, X203, e203, W203, st203⟩ := putF X200 hx hZ hown (host := "") (Or.inl (hw _ (List.mem_of_getElem? (i := 60) rfl))) Via.refl e200 f201 f202 (Or.inr ⟨(hw _ (List.mem_of_getElem? (i := 61) rfl)), rfl, hnm⟩) (hw _ (List.mem_of_getElem? (i := 3) rfl)) (ty := .long) (by decide) rfl rfl (g := (mkF m 115 #[.val (.ref a1), .val (.int (3 : Int32)), .val (.long q1), .second] [(.long (own_min ((16 : Int64) * q1) (2147483639 : Int64))), (.ref a1)])) rfl rfl (hb hby d1_115)
  have z204 : n0 ≤ h203.size := Nat.le_trans z197 (Keep.of_wr W203).1
  have N205 := Fr.snoc X203 N200 g_a1
  have Fw203 := f201.same W203
  have S206 : ∀ t, Steps p.tables e below (T203.setTop (mkF m 120 #[.val (.ref a1), .val (.int (3 : Int32)), .val (.long q1), .second] [(.int (3 : Int32)), (.ref a1)])) t → Steps p.tables e below (T203.setTop (mkF m 118 #[.val (.ref a1), .val (.int (3 : Int32)), .val (.long q1), .second] [])) t := by
    intro t kt
    show Steps p.tables e below (T203.setTop (mkF m 118 #[.val (.ref a1), .val (.int (3 : Int32)), .val (.long q1), .second] [])) _
    refine XS.aloadN X203.here hx rfl (hb hby d1_118) rfl rfl ?_
    show Steps p.tables e below (T203.setTop (mkF m 119 #[.val (.ref a1), .val (.int (3 : Int32)), .val (.long q1), .second] [(.ref a1)])) _
    refine XS.iloadN X203.here hx rfl (hb hby d1_119) rfl ?_
    exact kt
  obtain ⟨T207, h207, k207, X207, e207, E207, A207, st207⟩ := newP X203 hx hZ (hw _ (List.mem_of_getElem? (i := 11) rfl)) e203 (g := (mkF m 120 #[.val (.ref a1), .val (.int (3 : Int32)), .val (.long q1), .second] [(.int (3 : Int32)), (.ref a1)])) rfl (hb hby d1_120) rfl (by decide) (cap := 3) (by decide) (by decide) (by decide) (by decide)
  obtain ⟨b207, g207⟩ : ∃ z, z = h203.size := ⟨_, rfl⟩
  rw [← g207] at A207 st207
  have g_b207 : n0 ≤ b207 := Nat.le_trans z204 (Nat.le_of_eq g207.symm)
  have K208 := ((((K185.ext E184).wr W190 (Or.inl (List.mem_of_getElem? (i := 0) rfl))).wr W196 (Or.inl (List.mem_of_getElem? (i := 0) rfl))).wr W203 (Or.inl (List.mem_of_getElem? (i := 0) rfl)))
  have sz_b207 : h0.size ≤ b207 := Nat.le_trans K208.1 (Nat.le_of_eq g207.symm)
  have f209 := (f202.wr W203)
  have lt_a1_b207 : a1 < b207 := Nat.lt_of_lt_of_le f209.lt (Nat.le_of_eq g207.symm)
  have ne_a1_b207 : a1 ≠ b207 := Nat.ne_of_lt (Nat.lt_of_lt_of_le f209.lt (Nat.le_of_eq g207.symm))
  have z210 : n0 ≤ h207.size := Nat.le_trans z204 E207.1
  have V207 : ArF Z h207 b207 .int 3 (fun _ => (.int (0 : Int32))) := ArF.new A207 (by decide) rfl
  have f211 := (((((((((((((((((((((((((((((F54.ext E65).other W70 (Or.inr (slot_ne (Or.inr (hw _ (List.mem_of_getElem? (i := 63) rfl))) (Or.inl (hw _ (List.mem_of_getElem? (i := 13) rfl))) (by decide) (t := (.array .int)) (t' := (.array .int)) (by decide) (by decide)))).ext E74).keep K81q (ninS ne_a1_b74 nin0)).other W85 (Or.inr (slot_ne (Or.inr (hw _ (List.mem_of_getElem? (i := 63) rfl))) (Or.inl (hw _ (List.mem_of_getElem? (i := 31) rfl))) (by decide) (t := (.array .int)) (t' := (.object "com/example/joinery/joinery/KeyGrid$Laid")) (by decide) (by decide)))).ext E89).keep K96q (ninS ne_a1_b89 nin0)).other W100 (Or.inr (slot_ne (Or.inr (hw _ (List.mem_of_getElem? (i := 63) rfl))) (Or.inl (hw _ (List.mem_of_getElem? (i := 33) rfl))) (by decide) (t := (.array .int)) (t' := (.object "com/example/joinery/joinery/KeyGrid$Laid")) (by decide) (by decide)))).ext E104).other W110 (Or.inr (slot_ne (Or.inr (hw _ (List.mem_of_getElem? (i := 63) rfl))) (Or.inl (hw _ (List.mem_of_getElem? (i := 35) rfl))) (by decide) (t := (.array .int)) (t' := (.array .int)) (by decide) (by decide)))).ext E114).other W120 (Or.inr (slot_ne (Or.inr (hw _ (List.mem_of_getElem? (i := 63) rfl))) (Or.inl (hw _ (List.mem_of_getElem? (i := 37) rfl))) (by decide) (t := (.array .int)) (t' := (.array .int)) (by decide) (by decide)))).ext E124).keep K131q (ninS ne_a1_b124 nin0)).other W135 (Or.inr (slot_ne (Or.inr (hw _ (List.mem_of_getElem? (i := 63) rfl))) (Or.inl (hw _ (List.mem_of_getElem? (i := 39) rfl))) (by decide) (t := (.array .int)) (t' := (.object "com/example/joinery/joinery/KeyGrid$Laid")) (by decide) (by decide)))).ext E139).keep K146q (ninS ne_a1_b139 nin0)).other W150 (Or.inr (slot_ne (Or.inr (hw _ (List.mem_of_getElem? (i := 63) rfl))) (Or.inl (hw _ (List.mem_of_getElem? (i := 41) rfl))) (by decide) (t := (.array .int)) (t' := (.object "com/example/joinery/joinery/KeyGrid$Laid")) (by decide) (by decide)))).ext E154).other W160 (Or.inr (slot_ne (Or.inr (hw _ (List.mem_of_getElem? (i := 63) rfl))) (Or.inl (hw _ (List.mem_of_getElem? (i := 43) rfl))) (by decide) (t := (.array .int)) (t' := (.array .int)) (by decide) (by decide)))).ext E164).other W170 (Or.inr (slot_ne (Or.inr (hw _ (List.mem_of_getElem? (i := 63) rfl))) (Or.inl (hw _ (List.mem_of_getElem? (i := 45) rfl))) (by decide) (t := (.array .int)) (t' := (.array .int)) (by decide) (by decide)))).ext E174).other W180 (Or.inr (slot_ne (Or.inr (hw _ (List.mem_of_getElem? (i := 63) rfl))) (Or.inl (hw _ (List.mem_of_getElem? (i := 47) rfl))) (by decide) (t := (.array .int)) (t' := (.array .long)) (by decide) (by decide)))).ext E184).other W190 (Or.inr (slot_ne (Or.inr (hw _ (List.mem_of_getElem? (i := 63) rfl))) (Or.inl (hw _ (List.mem_of_getElem? (i := 49) rfl))) (by decide) (t := (.array .int)) (t' := (.array .int)) (by decide) (by decide)))).other W196 (Or.inr (slot_ne (Or.inr (hw _ (List.mem_of_getElem? (i := 63) rfl))) (Or.inr (hw _ (List.mem_of_getElem? (i := 51) rfl))) (by decide) (t := (.array .int)) (t' := .int) (by decide) (by decide)))).other W203 (Or.inr (slot_ne (Or.inr (hw _ (List.mem_of_getElem? (i := 63) rfl))) (Or.inr (hw _ (List.mem_of_getElem? (i := 61) rfl))) (by decide) (t := (.array .int)) (t' := .long) (by decide) (by decide)))).ext E207)
  have f212 := (f209.ext E207)
  obtain ⟨T213, h213, X213, e213, W213, st213⟩ := putF X207 hx hZ hown (host := "") (Or.inl (hw _ (List.mem_of_getElem? (i := 62) rfl))) Via.refl e207 f211 f212 (Or.inr ⟨(hw _ (List.mem_of_getElem? (i := 63) rfl)), rfl, hnm⟩) (hw _ (List.mem_of_getElem? (i := 3) rfl)) (ty := (.array .int)) (by decide) rfl rfl (g := (mkF m 122 #[.val (.ref a1), .val (.int (3 : Int32)), .val (.long q1), .second] [(.ref b207), (.ref a1)])) rfl rfl (hb hby d1_122)
  have z214 : n0 ≤ h213.size := Nat.le_trans z210 (Keep.of_wr W213).1
  have N215 := Fr.snoc X213 N205 g_a1
  have Fw213 := f211.same W213
  have S216 : ∀ t, Steps p.tables e below (T213.setTop (mkF m 127 #[.val (.ref a1), .val (.int (3 : Int32)), .val (.long q1), .second] [(.int (3 : Int32)), (.ref a1)])) t → Steps p.tables e below (T213.setTop (mkF m 125 #[.val (.ref a1), .val (.int (3 : Int32)), .val (.long q1), .second] [])) t := by
    intro t kt
    show Steps p.tables e below (T213.setTop (mkF m 125 #[.val (.ref a1), .val (.int (3 : Int32)), .val (.long q1), .second] [])) _
    refine XS.aloadN X213.here hx rfl (hb hby d1_125) rfl rfl ?_
    show Steps p.tables e below (T213.setTop (mkF m 126 #[.val (.ref a1), .val (.int (3 : Int32)), .val (.long q1), .second] [(.ref a1)])) _
    refine XS.iloadN X213.here hx rfl (hb hby d1_126) rfl ?_
    exact kt
  obtain ⟨T217, h217, k217, X217, e217, E217, A217, st217⟩ := newP X213 hx hZ (hw _ (List.mem_of_getElem? (i := 64) rfl)) e213 (g := (mkF m 127 #[.val (.ref a1), .val (.int (3 : Int32)), .val (.long q1), .second] [(.int (3 : Int32)), (.ref a1)])) rfl (hb hby d1_127) rfl (by decide) (cap := 3) (by decide) (by decide) (by decide) (by decide)
  obtain ⟨b217, g217⟩ : ∃ z, z = h213.size := ⟨_, rfl⟩
  rw [← g217] at A217 st217
  have g_b217 : n0 ≤ b217 := Nat.le_trans z214 (Nat.le_of_eq g217.symm)
  have K218 := ((K208.ext E207).wr W213 (Or.inl (List.mem_of_getElem? (i := 0) rfl)))
  have sz_b217 : h0.size ≤ b217 := Nat.le_trans K218.1 (Nat.le_of_eq g217.symm)
  have f219 := (f212.wr W213)
  have lt_a1_b217 : a1 < b217 := Nat.lt_of_lt_of_le f219.lt (Nat.le_of_eq g217.symm)
  have ne_a1_b217 : a1 ≠ b217 := Nat.ne_of_lt (Nat.lt_of_lt_of_le f219.lt (Nat.le_of_eq g217.symm))
  have f220 := (V207.other W213 (Ne.symm ne_a1_b207))
  have lt_b207_b217 : b207 < b217 := Nat.lt_of_lt_of_le f220.lt (Nat.le_of_eq g217.symm)
  have ne_b207_b217 : b207 ≠ b217 := Nat.ne_of_lt (Nat.lt_of_lt_of_le f220.lt (Nat.le_of_eq g217.symm))
  have z221 : n0 ≤ h217.size := Nat.le_trans z214 E217.1
  have V217 : ArF Z h217 b217 .boolean 3 (fun _ => (.int (0 : Int32))) := ArF.new A217 (by decide) rfl
  have f222 := (((((((((((((((((((((((((((((((F55.ext E65).other W70 (Or.inr (slot_ne (Or.inr (hw _ (List.mem_of_getElem? (i := 66) rfl))) (Or.inl (hw _ (List.mem_of_getElem? (i := 13) rfl))) (by decide) (t := (.array .boolean)) (t' := (.array .int)) (by decide) (by decide)))).ext E74).keep K81q (ninS ne_a1_b74 nin0)).other W85 (Or.inr (slot_ne (Or.inr (hw _ (List.mem_of_getElem? (i := 66) rfl))) (Or.inl (hw _ (List.mem_of_getElem? (i := 31) rfl))) (by decide) (t := (.array .boolean)) (t' := (.object "com/example/joinery/joinery/KeyGrid$Laid")) (by decide) (by decide)))).ext E89).keep K96q (ninS ne_a1_b89 nin0)).other W100 (Or.inr (slot_ne (Or.inr (hw _ (List.mem_of_getElem? (i := 66) rfl))) (Or.inl (hw _ (List.mem_of_getElem? (i := 33) rfl))) (by decide) (t := (.array .boolean)) (t' := (.object "com/example/joinery/joinery/KeyGrid$Laid")) (by decide) (by decide)))).ext E104).other W110 (Or.inr (slot_ne (Or.inr (hw _ (List.mem_of_getElem? (i := 66) rfl))) (Or.inl (hw _ (List.mem_of_getElem? (i := 35) rfl))) (by decide) (t := (.array .boolean)) (t' := (.array .int)) (by decide) (by decide)))).ext E114).other W120 (Or.inr (slot_ne (Or.inr (hw _ (List.mem_of_getElem? (i := 66) rfl))) (Or.inl (hw _ (List.mem_of_getElem? (i := 37) rfl))) (by decide) (t := (.array .boolean)) (t' := (.array .int)) (by decide) (by decide)))).ext E124).keep K131q (ninS ne_a1_b124 nin0)).other W135 (Or.inr (slot_ne (Or.inr (hw _ (List.mem_of_getElem? (i := 66) rfl))) (Or.inl (hw _ (List.mem_of_getElem? (i := 39) rfl))) (by decide) (t := (.array .boolean)) (t' := (.object "com/example/joinery/joinery/KeyGrid$Laid")) (by decide) (by decide)))).ext E139).keep K146q (ninS ne_a1_b139 nin0)).other W150 (Or.inr (slot_ne (Or.inr (hw _ (List.mem_of_getElem? (i := 66) rfl))) (Or.inl (hw _ (List.mem_of_getElem? (i := 41) rfl))) (by decide) (t := (.array .boolean)) (t' := (.object "com/example/joinery/joinery/KeyGrid$Laid")) (by decide) (by decide)))).ext E154).other W160 (Or.inr (slot_ne (Or.inr (hw _ (List.mem_of_getElem? (i := 66) rfl))) (Or.inl (hw _ (List.mem_of_getElem? (i := 43) rfl))) (by decide) (t := (.array .boolean)) (t' := (.array .int)) (by decide) (by decide)))).ext E164).other W170 (Or.inr (slot_ne (Or.inr (hw _ (List.mem_of_getElem? (i := 66) rfl))) (Or.inl (hw _ (List.mem_of_getElem? (i := 45) rfl))) (by decide) (t := (.array .boolean)) (t' := (.array .int)) (by decide) (by decide)))).ext E174).other W180 (Or.inr (slot_ne (Or.inr (hw _ (List.mem_of_getElem? (i := 66) rfl))) (Or.inl (hw _ (List.mem_of_getElem? (i := 47) rfl))) (by decide) (t := (.array .boolean)) (t' := (.array .long)) (by decide) (by decide)))).ext E184).other W190 (Or.inr (slot_ne (Or.inr (hw _ (List.mem_of_getElem? (i := 66) rfl))) (Or.inl (hw _ (List.mem_of_getElem? (i := 49) rfl))) (by decide) (t := (.array .boolean)) (t' := (.array .int)) (by decide) (by decide)))).other W196 (Or.inr (slot_ne (Or.inr (hw _ (List.mem_of_getElem? (i := 66) rfl))) (Or.inr (hw _ (List.mem_of_getElem? (i := 51) rfl))) (by decide) (t := (.array .boolean)) (t' := .int) (by decide) (by decide)))).other W203 (Or.inr (slot_ne (Or.inr (hw _ (List.mem_of_getElem? (i := 66) rfl))) (Or.inr (hw _ (List.mem_of_getElem? (i := 61) rfl))) (by decide) (t := (.array .boolean)) (t' := .long) (by decide) (by decide)))).ext E207).other W213 (Or.inr (slot_ne (Or.inr (hw _ (List.mem_of_getElem? (i := 66) rfl))) (Or.inr (hw _ (List.mem_of_getElem? (i := 63) rfl))) (by decide) (t := (.array .boolean)) (t' := (.array .int)) (by decide) (by decide)))).ext E217)
  have f223 := (f219.ext E217)
  obtain ⟨T224, h224, X224, e224, W224, st224⟩ := putF X217 hx hZ hown (host := "") (Or.inl (hw _ (List.mem_of_getElem? (i := 65) rfl))) Via.refl e217 f222 f223 (Or.inr ⟨(hw _ (List.mem_of_getElem? (i := 66) rfl)), rfl, hnm⟩) (hw _ (List.mem_of_getElem? (i := 3) rfl)) (ty := (.array .boolean)) (by decide) rfl rfl (g := (mkF m 129 #[.val (.ref a1), .val (.int (3 : Int32)), .val (.long q1), .second] [(.ref b217), (.ref a1)])) rfl rfl (hb hby d1_129)
  have z225 : n0 ≤ h224.size := Nat.le_trans z221 (Keep.of_wr W224).1
  have N226 := Fr.snoc X224 N215 g_a1
  have Fw224 := f222.same W224
  have S227 : ∀ t, Steps p.tables e below (T224.setTop (mkF m 134 #[.val (.ref a1), .val (.int (3 : Int32)), .val (.long q1), .second] [(.int (3 : Int32)), (.ref a1)])) t → Steps p.tables e below (T224.setTop (mkF m 132 #[.val (.ref a1), .val (.int (3 : Int32)), .val (.long q1), .second] [])) t := by
    intro t kt
    show Steps p.tables e below (T224.setTop (mkF m 132 #[.val (.ref a1), .val (.int (3 : Int32)), .val (.long q1), .second] [])) _
    refine XS.aloadN X224.here hx rfl (hb hby d1_132) rfl rfl ?_
    show Steps p.tables e below (T224.setTop (mkF m 133 #[.val (.ref a1), .val (.int (3 : Int32)), .val (.long q1), .second] [(.ref a1)])) _
    refine XS.iloadN X224.here hx rfl (hb hby d1_133) rfl ?_
    exact kt
  obtain ⟨T228, h228, k228, X228, e228, E228, A228, st228⟩ := newP X224 hx hZ (hw _ (List.mem_of_getElem? (i := 64) rfl)) e224 (g := (mkF m 134 #[.val (.ref a1), .val (.int (3 : Int32)), .val (.long q1), .second] [(.int (3 : Int32)), (.ref a1)])) rfl (hb hby d1_134) rfl (by decide) (cap := 3) (by decide) (by decide) (by decide) (by decide)
  obtain ⟨b228, g228⟩ : ∃ z, z = h224.size := ⟨_, rfl⟩
  rw [← g228] at A228 st228
  have g_b228 : n0 ≤ b228 := Nat.le_trans z225 (Nat.le_of_eq g228.symm)
  have K229 := ((K218.ext E217).wr W224 (Or.inl (List.mem_of_getElem? (i := 0) rfl)))
  have sz_b228 : h0.size ≤ b228 := Nat.le_trans K229.1 (Nat.le_of_eq g228.symm)
  have f230 := (f223.wr W224)
  have lt_a1_b228 : a1 < b228 := Nat.lt_of_lt_of_le f230.lt (Nat.le_of_eq g228.symm)
  have ne_a1_b228 : a1 ≠ b228 := Nat.ne_of_lt (Nat.lt_of_lt_of_le f230.lt (Nat.le_of_eq g228.symm))
  have f231 := ((f220.ext E217).other W224 (Ne.symm ne_a1_b207))
  have lt_b207_b228 : b207 < b228 := Nat.lt_of_lt_of_le f231.lt (Nat.le_of_eq g228.symm)
  have ne_b207_b228 : b207 ≠ b228 := Nat.ne_of_lt (Nat.lt_of_lt_of_le f231.lt (Nat.le_of_eq g228.symm))
  have f232 := (V217.other W224 (Ne.symm ne_a1_b217))
  have lt_b217_b228 : b217 < b228 := Nat.lt_of_lt_of_le f232.lt (Nat.le_of_eq g228.symm)
  have ne_b217_b228 : b217 ≠ b228 := Nat.ne_of_lt (Nat.lt_of_lt_of_le f232.lt (Nat.le_of_eq g228.symm))
  have z233 : n0 ≤ h228.size := Nat.le_trans z225 E228.1
  have V228 : ArF Z h228 b228 .boolean 3 (fun _ => (.int (0 : Int32))) := ArF.new A228 (by decide) rfl
  have f234 := (((((((((((((((((((((((((((((((((F56.ext E65).other W70 (Or.inr (slot_ne (Or.inr (hw _ (List.mem_of_getElem? (i := 68) rfl))) (Or.inl (hw _ (List.mem_of_getElem? (i := 13) rfl))) (by decide) (t := (.array .boolean)) (t' := (.array .int)) (by decide) (by decide)))).ext E74).keep K81q (ninS ne_a1_b74 nin0)).other W85 (Or.inr (slot_ne (Or.inr (hw _ (List.mem_of_getElem? (i := 68) rfl))) (Or.inl (hw _ (List.mem_of_getElem? (i := 31) rfl))) (by decide) (t := (.array .boolean)) (t' := (.object "com/example/joinery/joinery/KeyGrid$Laid")) (by decide) (by decide)))).ext E89).keep K96q (ninS ne_a1_b89 nin0)).other W100 (Or.inr (slot_ne (Or.inr (hw _ (List.mem_of_getElem? (i := 68) rfl))) (Or.inl (hw _ (List.mem_of_getElem? (i := 33) rfl))) (by decide) (t := (.array .boolean)) (t' := (.object "com/example/joinery/joinery/KeyGrid$Laid")) (by decide) (by decide)))).ext E104).other W110 (Or.inr (slot_ne (Or.inr (hw _ (List.mem_of_getElem? (i := 68) rfl))) (Or.inl (hw _ (List.mem_of_getElem? (i := 35) rfl))) (by decide) (t := (.array .boolean)) (t' := (.array .int)) (by decide) (by decide)))).ext E114).other W120 (Or.inr (slot_ne (Or.inr (hw _ (List.mem_of_getElem? (i := 68) rfl))) (Or.inl (hw _ (List.mem_of_getElem? (i := 37) rfl))) (by decide) (t := (.array .boolean)) (t' := (.array .int)) (by decide) (by decide)))).ext E124).keep K131q (ninS ne_a1_b124 nin0)).other W135 (Or.inr (slot_ne (Or.inr (hw _ (List.mem_of_getElem? (i := 68) rfl))) (Or.inl (hw _ (List.mem_of_getElem? (i := 39) rfl))) (by decide) (t := (.array .boolean)) (t' := (.object "com/example/joinery/joinery/KeyGrid$Laid")) (by decide) (by decide)))).ext E139).keep K146q (ninS ne_a1_b139 nin0)).other W150 (Or.inr (slot_ne (Or.inr (hw _ (List.mem_of_getElem? (i := 68) rfl))) (Or.inl (hw _ (List.mem_of_getElem? (i := 41) rfl))) (by decide) (t := (.array .boolean)) (t' := (.object "com/example/joinery/joinery/KeyGrid$Laid")) (by decide) (by decide)))).ext E154).other W160 (Or.inr (slot_ne (Or.inr (hw _ (List.mem_of_getElem? (i := 68) rfl))) (Or.inl (hw _ (List.mem_of_getElem? (i := 43) rfl))) (by decide) (t := (.array .boolean)) (t' := (.array .int)) (by decide) (by decide)))).ext E164).other W170 (Or.inr (slot_ne (Or.inr (hw _ (List.mem_of_getElem? (i := 68) rfl))) (Or.inl (hw _ (List.mem_of_getElem? (i := 45) rfl))) (by decide) (t := (.array .boolean)) (t' := (.array .int)) (by decide) (by decide)))).ext E174).other W180 (Or.inr (slot_ne (Or.inr (hw _ (List.mem_of_getElem? (i := 68) rfl))) (Or.inl (hw _ (List.mem_of_getElem? (i := 47) rfl))) (by decide) (t := (.array .boolean)) (t' := (.array .long)) (by decide) (by decide)))).ext E184).other W190 (Or.inr (slot_ne (Or.inr (hw _ (List.mem_of_getElem? (i := 68) rfl))) (Or.inl (hw _ (List.mem_of_getElem? (i := 49) rfl))) (by decide) (t := (.array .boolean)) (t' := (.array .int)) (by decide) (by decide)))).other W196 (Or.inr (slot_ne (Or.inr (hw _ (List.mem_of_getElem? (i := 68) rfl))) (Or.inr (hw _ (List.mem_of_getElem? (i := 51) rfl))) (by decide) (t := (.array .boolean)) (t' := .int) (by decide) (by decide)))).other W203 (Or.inr (slot_ne (Or.inr (hw _ (List.mem_of_getElem? (i := 68) rfl))) (Or.inr (hw _ (List.mem_of_getElem? (i := 61) rfl))) (by decide) (t := (.array .boolean)) (t' := .long) (by decide) (by decide)))).ext E207).other W213 (Or.inr (slot_ne (Or.inr (hw _ (List.mem_of_getElem? (i := 68) rfl))) (Or.inr (hw _ (List.mem_of_getElem? (i := 63) rfl))) (by decide) (t := (.array .boolean)) (t' := (.array .int)) (by decide) (by decide)))).ext E217).other W224 (Or.inr (slot_ne (Or.inr (hw _ (List.mem_of_getElem? (i := 68) rfl))) (Or.inr (hw _ (List.mem_of_getElem? (i := 66) rfl))) (by decide) (t := (.array .boolean)) (t' := (.array .boolean)) (by decide) (by decide)))).ext E228)
  have f235 := (f230.ext E228)
  obtain ⟨T236, h236, X236, e236, W236, st236⟩ := putF X228 hx hZ hown (host := "") (Or.inl (hw _ (List.mem_of_getElem? (i := 67) rfl))) Via.refl e228 f234 f235 (Or.inr ⟨(hw _ (List.mem_of_getElem? (i := 68) rfl)), rfl, hnm⟩) (hw _ (List.mem_of_getElem? (i := 3) rfl)) (ty := (.array .boolean)) (by decide) rfl rfl (g := (mkF m 136 #[.val (.ref a1), .val (.int (3 : Int32)), .val (.long q1), .second] [(.ref b228), (.ref a1)])) rfl rfl (hb hby d1_136)
  have z237 : n0 ≤ h236.size := Nat.le_trans z233 (Keep.of_wr W236).1
  have N238 := Fr.snoc X236 N226 g_a1
  have Fw236 := f234.same W236
  have S239 : ∀ t, Steps p.tables e below (T236.setTop (mkF m 141 #[.val (.ref a1), .val (.int (3 : Int32)), .val (.long q1), .second] [(.int (3 : Int32)), (.ref a1)])) t → Steps p.tables e below (T236.setTop (mkF m 139 #[.val (.ref a1), .val (.int (3 : Int32)), .val (.long q1), .second] [])) t := by
    intro t kt
    show Steps p.tables e below (T236.setTop (mkF m 139 #[.val (.ref a1), .val (.int (3 : Int32)), .val (.long q1), .second] [])) _
    refine XS.aloadN X236.here hx rfl (hb hby d1_139) rfl rfl ?_
    show Steps p.tables e below (T236.setTop (mkF m 140 #[.val (.ref a1), .val (.int (3 : Int32)), .val (.long q1), .second] [(.ref a1)])) _
    refine XS.iloadN X236.here hx rfl (hb hby d1_140) rfl ?_
    exact kt
  obtain ⟨T240, h240, k240, X240, e240, E240, A240, st240⟩ := newP X236 hx hZ (hw _ (List.mem_of_getElem? (i := 11) rfl)) e236 (g := (mkF m 141 #[.val (.ref a1), .val (.int (3 : Int32)), .val (.long q1), .second] [(.int (3 : Int32)), (.ref a1)])) rfl (hb hby d1_141) rfl (by decide) (cap := 3) (by decide) (by decide) (by decide) (by decide)
  obtain ⟨b240, g240⟩ : ∃ z, z = h236.size := ⟨_, rfl⟩
  rw [← g240] at A240 st240
  have g_b240 : n0 ≤ b240 := Nat.le_trans z237 (Nat.le_of_eq g240.symm)
  have K241 := ((K229.ext E228).wr W236 (Or.inl (List.mem_of_getElem? (i := 0) rfl)))
  have sz_b240 : h0.size ≤ b240 := Nat.le_trans K241.1 (Nat.le_of_eq g240.symm)
  have f242 := (f235.wr W236)
  have lt_a1_b240 : a1 < b240 := Nat.lt_of_lt_of_le f242.lt (Nat.le_of_eq g240.symm)
  have ne_a1_b240 : a1 ≠ b240 := Nat.ne_of_lt (Nat.lt_of_lt_of_le f242.lt (Nat.le_of_eq g240.symm))
  have f243 := ((f231.ext E228).other W236 (Ne.symm ne_a1_b207))
  have lt_b207_b240 : b207 < b240 := Nat.lt_of_lt_of_le f243.lt (Nat.le_of_eq g240.symm)
  have ne_b207_b240 : b207 ≠ b240 := Nat.ne_of_lt (Nat.lt_of_lt_of_le f243.lt (Nat.le_of_eq g240.symm))
  have f244 := ((f232.ext E228).other W236 (Ne.symm ne_a1_b217))
  have lt_b217_b240 : b217 < b240 := Nat.lt_of_lt_of_le f244.lt (Nat.le_of_eq g240.symm)
  have ne_b217_b240 : b217 ≠ b240 := Nat.ne_of_lt (Nat.lt_of_lt_of_le f244.lt (Nat.le_of_eq g240.symm))
  have f245 := (V228.other W236 (Ne.symm ne_a1_b228))
  have lt_b228_b240 : b228 < b240 := Nat.lt_of_lt_of_le f245.lt (Nat.le_of_eq g240.symm)
  have ne_b228_b240 : b228 ≠ b240 := Nat.ne_of_lt (Nat.lt_of_lt_of_le f245.lt (Nat.le_of_eq g240.symm))
  have z246 : n0 ≤ h240.size := Nat.le_trans z237 E240.1
  have V240 : ArF Z h240 b240 .int 3 (fun _ => (.int (0 : Int32))) := ArF.new A240 (by decide) rfl
  have f247 := (((((((((((((((((((((((((((((((((((F57.ext E65).other W70 (Or.inr (slot_ne (Or.inr (hw _ (List.mem_of_getElem? (i := 70) rfl))) (Or.inl (hw _ (List.mem_of_getElem? (i := 13) rfl))) (by decide) (t := (.array .int)) (t' := (.array .int)) (by decide) (by decide)))).ext E74).keep K81q (ninS ne_a1_b74 nin0)).other W85 (Or.inr (slot_ne (Or.inr (hw _ (List.mem_of_getElem? (i := 70) rfl))) (Or.inl (hw _ (List.mem_of_getElem? (i := 31) rfl))) (by decide) (t := (.array .int)) (t' := (.object "com/example/joinery/joinery/KeyGrid$Laid")) (by decide) (by decide)))).ext E89).keep K96q (ninS ne_a1_b89 nin0)).other W100 (Or.inr (slot_ne (Or.inr (hw _ (List.mem_of_getElem? (i := 70) rfl))) (Or.inl (hw _ (List.mem_of_getElem? (i := 33) rfl))) (by decide) (t := (.array .int)) (t' := (.object "com/example/joinery/joinery/KeyGrid$Laid")) (by decide) (by decide)))).ext E104).other W110 (Or.inr (slot_ne (Or.inr (hw _ (List.mem_of_getElem? (i := 70) rfl))) (Or.inl (hw _ (List.mem_of_getElem? (i := 35) rfl))) (by decide) (t := (.array .int)) (t' := (.array .int)) (by decide) (by decide)))).ext E114).other W120 (Or.inr (slot_ne (Or.inr (hw _ (List.mem_of_getElem? (i := 70) rfl))) (Or.inl (hw _ (List.mem_of_getElem? (i := 37) rfl))) (by decide) (t := (.array .int)) (t' := (.array .int)) (by decide) (by decide)))).ext E124).keep K131q (ninS ne_a1_b124 nin0)).other W135 (Or.inr (slot_ne (Or.inr (hw _ (List.mem_of_getElem? (i := 70) rfl))) (Or.inl (hw _ (List.mem_of_getElem? (i := 39) rfl))) (by decide) (t := (.array .int)) (t' := (.object "com/example/joinery/joinery/KeyGrid$Laid")) (by decide) (by decide)))).ext E139).keep K146q (ninS ne_a1_b139 nin0)).other W150 (Or.inr (slot_ne (Or.inr (hw _ (List.mem_of_getElem? (i := 70) rfl))) (Or.inl (hw _ (List.mem_of_getElem? (i := 41) rfl))) (by decide) (t := (.array .int)) (t' := (.object "com/example/joinery/joinery/KeyGrid$Laid")) (by decide) (by decide)))).ext E154).other W160 (Or.inr (slot_ne (Or.inr (hw _ (List.mem_of_getElem? (i := 70) rfl))) (Or.inl (hw _ (List.mem_of_getElem? (i := 43) rfl))) (by decide) (t := (.array .int)) (t' := (.array .int)) (by decide) (by decide)))).ext E164).other W170 (Or.inr (slot_ne (Or.inr (hw _ (List.mem_of_getElem? (i := 70) rfl))) (Or.inl (hw _ (List.mem_of_getElem? (i := 45) rfl))) (by decide) (t := (.array .int)) (t' := (.array .int)) (by decide) (by decide)))).ext E174).other W180 (Or.inr (slot_ne (Or.inr (hw _ (List.mem_of_getElem? (i := 70) rfl))) (Or.inl (hw _ (List.mem_of_getElem? (i := 47) rfl))) (by decide) (t := (.array .int)) (t' := (.array .long)) (by decide) (by decide)))).ext E184).other W190 (Or.inr (slot_ne (Or.inr (hw _ (List.mem_of_getElem? (i := 70) rfl))) (Or.inl (hw _ (List.mem_of_getElem? (i := 49) rfl))) (by decide) (t := (.array .int)) (t' := (.array .int)) (by decide) (by decide)))).other W196 (Or.inr (slot_ne (Or.inr (hw _ (List.mem_of_getElem? (i := 70) rfl))) (Or.inr (hw _ (List.mem_of_getElem? (i := 51) rfl))) (by decide) (t := (.array .int)) (t' := .int) (by decide) (by decide)))).other W203 (Or.inr (slot_ne (Or.inr (hw _ (List.mem_of_getElem? (i := 70) rfl))) (Or.inr (hw _ (List.mem_of_getElem? (i := 61) rfl))) (by decide) (t := (.array .int)) (t' := .long) (by decide) (by decide)))).ext E207).other W213 (Or.inr (slot_ne (Or.inr (hw _ (List.mem_of_getElem? (i := 70) rfl))) (Or.inr (hw _ (List.mem_of_getElem? (i := 63) rfl))) (by decide) (t := (.array .int)) (t' := (.array .int)) (by decide) (by decide)))).ext E217).other W224 (Or.inr (slot_ne (Or.inr (hw _ (List.mem_of_getElem? (i := 70) rfl))) (Or.inr (hw _ (List.mem_of_getElem? (i := 66) rfl))) (by decide) (t := (.array .int)) (t' := (.array .boolean)) (by decide) (by decide)))).ext E228).other W236 (Or.inr (slot_ne (Or.inr (hw _ (List.mem_of_getElem? (i := 70) rfl))) (Or.inr (hw _ (List.mem_of_getElem? (i := 68) rfl))) (by decide) (t := (.array .int)) (t' := (.array .boolean)) (by decide) (by decide)))).ext E240)
  have f248 := (f242.ext E240)
  obtain ⟨T249, h249, X249, e249, W249, st249⟩ := putF X240 hx hZ hown (host := "") (Or.inl (hw _ (List.mem_of_getElem? (i := 69) rfl))) Via.refl e240 f247 f248 (Or.inr ⟨(hw _ (List.mem_of_getElem? (i := 70) rfl)), rfl, hnm⟩) (hw _ (List.mem_of_getElem? (i := 3) rfl)) (ty := (.array .int)) (by decide) rfl rfl (g := (mkF m 143 #[.val (.ref a1), .val (.int (3 : Int32)), .val (.long q1), .second] [(.ref b240), (.ref a1)])) rfl rfl (hb hby d1_143)
  have z250 : n0 ≤ h249.size := Nat.le_trans z246 (Keep.of_wr W249).1
  have N251 := Fr.snoc X249 N238 g_a1
  have Fw249 := f247.same W249
  have S252 : ∀ t, Steps p.tables e below (T249.setTop (mkF m 150 #[.val (.ref a1), .val (.int (3 : Int32)), .val (.long q1), .second] [(.int ((3 : Int32) + (1 : Int32))), (.ref a1)])) t → Steps p.tables e below (T249.setTop (mkF m 146 #[.val (.ref a1), .val (.int (3 : Int32)), .val (.long q1), .second] [])) t := by
    intro t kt
    show Steps p.tables e below (T249.setTop (mkF m 146 #[.val (.ref a1), .val (.int (3 : Int32)), .val (.long q1), .second] [])) _
    refine XS.aloadN X249.here hx rfl (hb hby d1_146) rfl rfl ?_
    show Steps p.tables e below (T249.setTop (mkF m 147 #[.val (.ref a1), .val (.int (3 : Int32)), .val (.long q1), .second] [(.ref a1)])) _
    refine XS.iloadN X249.here hx rfl (hb hby d1_147) rfl ?_
    show Steps p.tables e below (T249.setTop (mkF m 148 #[.val (.ref a1), .val (.int (3 : Int32)), .val (.long q1), .second] [(.int (3 : Int32)), (.ref a1)])) _
    refine XS.iconst X249.here hx rfl (hb hby d1_148) ?_
    show Steps p.tables e below (T249.setTop (mkF m 149 #[.val (.ref a1), .val (.int (3 : Int32)), .val (.long q1), .second] [(.int (1 : Int32)), (.int (3 : Int32)), (.ref a1)])) _
    refine XS.iadd X249.here hx rfl (hb hby d1_149) rfl ?_
    exact kt
  have S253 : ∀ t, Steps p.tables e below (T249.setTop (mkF m 150 #[.val (.ref a1), .val (.int (3 : Int32)), .val (.long q1), .second] [(.int (4 : Int32)), (.ref a1)])) t → Steps p.tables e below (T249.setTop (mkF m 150 #[.val (.ref a1), .val (.int (3 : Int32)), .val (.long q1), .second] [(.int ((3 : Int32) + (1 : Int32))), (.ref a1)])) t := fun t k => by rw [(show ((3 : Int32) + (1 : Int32)) = (4 : Int32) from by decide)]; exact k
  obtain ⟨T254, h254, k254, X254, e254, E254, A254, st254⟩ := newP X249 hx hZ (hw _ (List.mem_of_getElem? (i := 27) rfl)) e249 (g := (mkF m 150 #[.val (.ref a1), .val (.int (3 : Int32)), .val (.long q1), .second] [(.int (4 : Int32)), (.ref a1)])) rfl (hb hby d1_150) rfl (by decide) (cap := 4) (by decide) (by decide) (by decide) (by decide)
  obtain ⟨b254, g254⟩ : ∃ z, z = h249.size := ⟨_, rfl⟩
  rw [← g254] at A254 st254
  have g_b254 : n0 ≤ b254 := Nat.le_trans z250 (Nat.le_of_eq g254.symm)
  have K255 := ((K241.ext E240).wr W249 (Or.inl (List.mem_of_getElem? (i := 0) rfl)))
  have sz_b254 : h0.size ≤ b254 := Nat.le_trans K255.1 (Nat.le_of_eq g254.symm)
  have f256 := (f248.wr W249)
  have lt_a1_b254 : a1 < b254 := Nat.lt_of_lt_of_le f256.lt (Nat.le_of_eq g254.symm)
  have ne_a1_b254 : a1 ≠ b254 := Nat.ne_of_lt (Nat.lt_of_lt_of_le f256.lt (Nat.le_of_eq g254.symm))
  have f257 := ((f243.ext E240).other W249 (Ne.symm ne_a1_b207))
  have lt_b207_b254 : b207 < b254 := Nat.lt_of_lt_of_le f257.lt (Nat.le_of_eq g254.symm)
  have ne_b207_b254 : b207 ≠ b254 := Nat.ne_of_lt (Nat.lt_of_lt_of_le f257.lt (Nat.le_of_eq g254.symm))
  have f258 := ((f244.ext E240).other W249 (Ne.symm ne_a1_b217))
  have lt_b217_b254 : b217 < b254 := Nat.lt_of_lt_of_le f258.lt (Nat.le_of_eq g254.symm)
  have ne_b217_b254 : b217 ≠ b254 := Nat.ne_of_lt (Nat.lt_of_lt_of_le f258.lt (Nat.le_of_eq g254.symm))
  have f259 := ((f245.ext E240).other W249 (Ne.symm ne_a1_b228))
  have lt_b228_b254 : b228 < b254 := Nat.lt_of_lt_of_le f259.lt (Nat.le_of_eq g254.symm)
  have ne_b228_b254 : b228 ≠ b254 := Nat.ne_of_lt (Nat.lt_of_lt_of_le f259.lt (Nat.le_of_eq g254.symm))
  have f260 := (V240.other W249 (Ne.symm ne_a1_b240))
  have lt_b240_b254 : b240 < b254 := Nat.lt_of_lt_of_le f260.lt (Nat.le_of_eq g254.symm)
  have ne_b240_b254 : b240 ≠ b254 := Nat.ne_of_lt (Nat.lt_of_lt_of_le f260.lt (Nat.le_of_eq g254.symm))
  have z261 : n0 ≤ h254.size := Nat.le_trans z250 E254.1
  have V254 : ArF Z h254 b254 .long 4 (fun _ => (.long (0 : Int64))) := ArF.new A254 (by decide) rfl
  have f262 := (((((((((((((((((((((((((((((((((((((F58.ext E65).other W70 (Or.inr (slot_ne (Or.inr (hw _ (List.mem_of_getElem? (i := 72) rfl))) (Or.inl (hw _ (List.mem_of_getElem? (i := 13) rfl))) (by decide) (t := (.array .long)) (t' := (.array .int)) (by decide) (by decide)))).ext E74).keep K81q (ninS ne_a1_b74 nin0)).other W85 (Or.inr (slot_ne (Or.inr (hw _ (List.mem_of_getElem? (i := 72) rfl))) (Or.inl (hw _ (List.mem_of_getElem? (i := 31) rfl))) (by decide) (t := (.array .long)) (t' := (.object "com/example/joinery/joinery/KeyGrid$Laid")) (by decide) (by decide)))).ext E89).keep K96q (ninS ne_a1_b89 nin0)).other W100 (Or.inr (slot_ne (Or.inr (hw _ (List.mem_of_getElem? (i := 72) rfl))) (Or.inl (hw _ (List.mem_of_getElem? (i := 33) rfl))) (by decide) (t := (.array .long)) (t' := (.object "com/example/joinery/joinery/KeyGrid$Laid")) (by decide) (by decide)))).ext E104).other W110 (Or.inr (slot_ne (Or.inr (hw _ (List.mem_of_getElem? (i := 72) rfl))) (Or.inl (hw _ (List.mem_of_getElem? (i := 35) rfl))) (by decide) (t := (.array .long)) (t' := (.array .int)) (by decide) (by decide)))).ext E114).other W120 (Or.inr (slot_ne (Or.inr (hw _ (List.mem_of_getElem? (i := 72) rfl))) (Or.inl (hw _ (List.mem_of_getElem? (i := 37) rfl))) (by decide) (t := (.array .long)) (t' := (.array .int)) (by decide) (by decide)))).ext E124).keep K131q (ninS ne_a1_b124 nin0)).other W135 (Or.inr (slot_ne (Or.inr (hw _ (List.mem_of_getElem? (i := 72) rfl))) (Or.inl (hw _ (List.mem_of_getElem? (i := 39) rfl))) (by decide) (t := (.array .long)) (t' := (.object "com/example/joinery/joinery/KeyGrid$Laid")) (by decide) (by decide)))).ext E139).keep K146q (ninS ne_a1_b139 nin0)).other W150 (Or.inr (slot_ne (Or.inr (hw _ (List.mem_of_getElem? (i := 72) rfl))) (Or.inl (hw _ (List.mem_of_getElem? (i := 41) rfl))) (by decide) (t := (.array .long)) (t' := (.object "com/example/joinery/joinery/KeyGrid$Laid")) (by decide) (by decide)))).ext E154).other W160 (Or.inr (slot_ne (Or.inr (hw _ (List.mem_of_getElem? (i := 72) rfl))) (Or.inl (hw _ (List.mem_of_getElem? (i := 43) rfl))) (by decide) (t := (.array .long)) (t' := (.array .int)) (by decide) (by decide)))).ext E164).other W170 (Or.inr (slot_ne (Or.inr (hw _ (List.mem_of_getElem? (i := 72) rfl))) (Or.inl (hw _ (List.mem_of_getElem? (i := 45) rfl))) (by decide) (t := (.array .long)) (t' := (.array .int)) (by decide) (by decide)))).ext E174).other W180 (Or.inr (slot_ne (Or.inr (hw _ (List.mem_of_getElem? (i := 72) rfl))) (Or.inl (hw _ (List.mem_of_getElem? (i := 47) rfl))) (by decide) (t := (.array .long)) (t' := (.array .long)) (by decide) (by decide)))).ext E184).other W190 (Or.inr (slot_ne (Or.inr (hw _ (List.mem_of_getElem? (i := 72) rfl))) (Or.inl (hw _ (List.mem_of_getElem? (i := 49) rfl))) (by decide) (t := (.array .long)) (t' := (.array .int)) (by decide) (by decide)))).other W196 (Or.inr (slot_ne (Or.inr (hw _ (List.mem_of_getElem? (i := 72) rfl))) (Or.inr (hw _ (List.mem_of_getElem? (i := 51) rfl))) (by decide) (t := (.array .long)) (t' := .int) (by decide) (by decide)))).other W203 (Or.inr (slot_ne (Or.inr (hw _ (List.mem_of_getElem? (i := 72) rfl))) (Or.inr (hw _ (List.mem_of_getElem? (i := 61) rfl))) (by decide) (t := (.array .long)) (t' := .long) (by decide) (by decide)))).ext E207).other W213 (Or.inr (slot_ne (Or.inr (hw _ (List.mem_of_getElem? (i := 72) rfl))) (Or.inr (hw _ (List.mem_of_getElem? (i := 63) rfl))) (by decide) (t := (.array .long)) (t' := (.array .int)) (by decide) (by decide)))).ext E217).other W224 (Or.inr (slot_ne (Or.inr (hw _ (List.mem_of_getElem? (i := 72) rfl))) (Or.inr (hw _ (List.mem_of_getElem? (i := 66) rfl))) (by decide) (t := (.array .long)) (t' := (.array .boolean)) (by decide) (by decide)))).ext E228).other W236 (Or.inr (slot_ne (Or.inr (hw _ (List.mem_of_getElem? (i := 72) rfl))) (Or.inr (hw _ (List.mem_of_getElem? (i := 68) rfl))) (by decide) (t := (.array .long)) (t' := (.array .boolean)) (by decide) (by decide)))).ext E240).other W249 (Or.inr (slot_ne (Or.inr (hw _ (List.mem_of_getElem? (i := 72) rfl))) (Or.inr (hw _ (List.mem_of_getElem? (i := 70) rfl))) (by decide) (t := (.array .long)) (t' := (.array .int)) (by decide) (by decide)))).ext E254)
  have f263 := (f256.ext E254)
  obtain ⟨T264, h264, X264, e264, W264, st264⟩ := putF X254 hx hZ hown (host := "") (Or.inl (hw _ (List.mem_of_getElem? (i := 71) rfl))) Via.refl e254 f262 f263 (Or.inr ⟨(hw _ (List.mem_of_getElem? (i := 72) rfl)), rfl, hnm⟩) (hw _ (List.mem_of_getElem? (i := 3) rfl)) (ty := (.array .long)) (by decide) rfl rfl (g := (mkF m 152 #[.val (.ref a1), .val (.int (3 : Int32)), .val (.long q1), .second] [(.ref b254), (.ref a1)])) rfl rfl (hb hby d1_152)
  have z265 : n0 ≤ h264.size := Nat.le_trans z261 (Keep.of_wr W264).1
  have N266 := Fr.snoc X264 N251 g_a1
  have Fw264 := f262.same W264
  have S267 : ∀ t, Steps p.tables e below (T264.setTop (mkF m 156 #[.val (.ref a1), .val (.int (3 : Int32)), .val (.long q1), .second] [(.ref a1)])) t → Steps p.tables e below (T264.setTop (mkF m 155 #[.val (.ref a1), .val (.int (3 : Int32)), .val (.long q1), .second] [])) t := by
    intro t kt
    show Steps p.tables e below (T264.setTop (mkF m 155 #[.val (.ref a1), .val (.int (3 : Int32)), .val (.long q1), .second] [])) _
    refine XS.aloadN X264.here hx rfl (hb hby d1_155) rfl rfl ?_
    exact kt
  obtain ⟨T268, X268, e268, st268⟩ := getF X264 hx hZ hown (host := "") (Or.inl (hw _ (List.mem_of_getElem? (i := 71) rfl))) Via.refl e264 Fw264 (g := (mkF m 156 #[.val (.ref a1), .val (.int (3 : Int32)), .val (.long q1), .second] [(.ref a1)])) rfl rfl (hb hby d1_156)
  have S269 : ∀ t, Steps p.tables e below (T268.setTop (mkF m 161 #[.val (.ref a1), .val (.int (3 : Int32)), .val (.long q1), .second] [(.long (1 : Int64)), (.int (3 : Int32)), (.ref b254)])) t → Steps p.tables e below (T268.setTop (mkF m 159 #[.val (.ref a1), .val (.int (3 : Int32)), .val (.long q1), .second] [(.ref b254)])) t := by
    intro t kt
    show Steps p.tables e below (T268.setTop (mkF m 159 #[.val (.ref a1), .val (.int (3 : Int32)), .val (.long q1), .second] [(.ref b254)])) _
    refine XS.iloadN X268.here hx rfl (hb hby d1_159) rfl ?_
    show Steps p.tables e below (T268.setTop (mkF m 160 #[.val (.ref a1), .val (.int (3 : Int32)), .val (.long q1), .second] [(.int (3 : Int32)), (.ref b254)])) _
    refine XS.lconst X268.here hx rfl (hb hby d1_160) ?_
    exact kt
  have f270 := (V254.other W264 (Ne.symm ne_a1_b254))
  obtain ⟨T271, h271, X271, e271, W271, V271, st271⟩ := ArF.stJ X268 hx hZ e268 f270 (i := 3) (by decide) (by decide) (g := (mkF m 161 #[.val (.ref a1), .val (.int (3 : Int32)), .val (.long q1), .second] [(.long (1 : Int64)), (.int (3 : Int32)), (.ref b254)])) rfl rfl (hb hby d1_161)
  have z272 : n0 ≤ h271.size := Nat.le_trans z265 (Keep.of_wr W271).1
  have N273 := Fr.snoc X271 N266 g_b254
  have V271' := V271.congr (f' := (fun q => (.long (own_cv0 q)))) (fun q hq => by simp only [own_cv0]; split <;> rfl)
  have S274 : ∀ t, Steps p.tables e below (T271.setTop (mkF m 164 #[.val (.ref a1), .val (.int (3 : Int32)), .val (.long q1), .second] [(.int (3 : Int32)), (.ref a1)])) t → Steps p.tables e below (T271.setTop (mkF m 162 #[.val (.ref a1), .val (.int (3 : Int32)), .val (.long q1), .second] [])) t := by
    intro t kt
    show Steps p.tables e below (T271.setTop (mkF m 162 #[.val (.ref a1), .val (.int (3 : Int32)), .val (.long q1), .second] [])) _
    refine XS.aloadN X271.here hx rfl (hb hby d1_162) rfl rfl ?_
    show Steps p.tables e below (T271.setTop (mkF m 163 #[.val (.ref a1), .val (.int (3 : Int32)), .val (.long q1), .second] [(.ref a1)])) _
    refine XS.iloadN X271.here hx rfl (hb hby d1_163) rfl ?_
    exact kt
  have f275 := (((((((((((((((((((((((((((((((((((((((F59.ext E65).other W70 (Or.inr (slot_ne (Or.inl (hw _ (List.mem_of_getElem? (i := 74) rfl))) (Or.inl (hw _ (List.mem_of_getElem? (i := 13) rfl))) (by decide) (t := .int) (t' := (.array .int)) (by decide) (by decide)))).ext E74).keep K81q (ninS ne_a1_b74 nin0)).other W85 (Or.inr (slot_ne (Or.inl (hw _ (List.mem_of_getElem? (i := 74) rfl))) (Or.inl (hw _ (List.mem_of_getElem? (i := 31) rfl))) (by decide) (t := .int) (t' := (.object "com/example/joinery/joinery/KeyGrid$Laid")) (by decide) (by decide)))).ext E89).keep K96q (ninS ne_a1_b89 nin0)).other W100 (Or.inr (slot_ne (Or.inl (hw _ (List.mem_of_getElem? (i := 74) rfl))) (Or.inl (hw _ (List.mem_of_getElem? (i := 33) rfl))) (by decide) (t := .int) (t' := (.object "com/example/joinery/joinery/KeyGrid$Laid")) (by decide) (by decide)))).ext E104).other W110 (Or.inr (slot_ne (Or.inl (hw _ (List.mem_of_getElem? (i := 74) rfl))) (Or.inl (hw _ (List.mem_of_getElem? (i := 35) rfl))) (by decide) (t := .int) (t' := (.array .int)) (by decide) (by decide)))).ext E114).other W120 (Or.inr (slot_ne (Or.inl (hw _ (List.mem_of_getElem? (i := 74) rfl))) (Or.inl (hw _ (List.mem_of_getElem? (i := 37) rfl))) (by decide) (t := .int) (t' := (.array .int)) (by decide) (by decide)))).ext E124).keep K131q (ninS ne_a1_b124 nin0)).other W135 (Or.inr (slot_ne (Or.inl (hw _ (List.mem_of_getElem? (i := 74) rfl))) (Or.inl (hw _ (List.mem_of_getElem? (i := 39) rfl))) (by decide) (t := .int) (t' := (.object "com/example/joinery/joinery/KeyGrid$Laid")) (by decide) (by decide)))).ext E139).keep K146q (ninS ne_a1_b139 nin0)).other W150 (Or.inr (slot_ne (Or.inl (hw _ (List.mem_of_getElem? (i := 74) rfl))) (Or.inl (hw _ (List.mem_of_getElem? (i := 41) rfl))) (by decide) (t := .int) (t' := (.object "com/example/joinery/joinery/KeyGrid$Laid")) (by decide) (by decide)))).ext E154).other W160 (Or.inr (slot_ne (Or.inl (hw _ (List.mem_of_getElem? (i := 74) rfl))) (Or.inl (hw _ (List.mem_of_getElem? (i := 43) rfl))) (by decide) (t := .int) (t' := (.array .int)) (by decide) (by decide)))).ext E164).other W170 (Or.inr (slot_ne (Or.inl (hw _ (List.mem_of_getElem? (i := 74) rfl))) (Or.inl (hw _ (List.mem_of_getElem? (i := 45) rfl))) (by decide) (t := .int) (t' := (.array .int)) (by decide) (by decide)))).ext E174).other W180 (Or.inr (slot_ne (Or.inl (hw _ (List.mem_of_getElem? (i := 74) rfl))) (Or.inl (hw _ (List.mem_of_getElem? (i := 47) rfl))) (by decide) (t := .int) (t' := (.array .long)) (by decide) (by decide)))).ext E184).other W190 (Or.inr (slot_ne (Or.inl (hw _ (List.mem_of_getElem? (i := 74) rfl))) (Or.inl (hw _ (List.mem_of_getElem? (i := 49) rfl))) (by decide) (t := .int) (t' := (.array .int)) (by decide) (by decide)))).other W196 (Or.inr (slot_ne (Or.inl (hw _ (List.mem_of_getElem? (i := 74) rfl))) (Or.inr (hw _ (List.mem_of_getElem? (i := 51) rfl))) (by decide) (t := .int) (t' := .int) (by decide) (by decide)))).other W203 (Or.inr (slot_ne (Or.inl (hw _ (List.mem_of_getElem? (i := 74) rfl))) (Or.inr (hw _ (List.mem_of_getElem? (i := 61) rfl))) (by decide) (t := .int) (t' := .long) (by decide) (by decide)))).ext E207).other W213 (Or.inr (slot_ne (Or.inl (hw _ (List.mem_of_getElem? (i := 74) rfl))) (Or.inr (hw _ (List.mem_of_getElem? (i := 63) rfl))) (by decide) (t := .int) (t' := (.array .int)) (by decide) (by decide)))).ext E217).other W224 (Or.inr (slot_ne (Or.inl (hw _ (List.mem_of_getElem? (i := 74) rfl))) (Or.inr (hw _ (List.mem_of_getElem? (i := 66) rfl))) (by decide) (t := .int) (t' := (.array .boolean)) (by decide) (by decide)))).ext E228).other W236 (Or.inr (slot_ne (Or.inl (hw _ (List.mem_of_getElem? (i := 74) rfl))) (Or.inr (hw _ (List.mem_of_getElem? (i := 68) rfl))) (by decide) (t := .int) (t' := (.array .boolean)) (by decide) (by decide)))).ext E240).other W249 (Or.inr (slot_ne (Or.inl (hw _ (List.mem_of_getElem? (i := 74) rfl))) (Or.inr (hw _ (List.mem_of_getElem? (i := 70) rfl))) (by decide) (t := .int) (t' := (.array .int)) (by decide) (by decide)))).ext E254).other W264 (Or.inr (slot_ne (Or.inl (hw _ (List.mem_of_getElem? (i := 74) rfl))) (Or.inr (hw _ (List.mem_of_getElem? (i := 72) rfl))) (by decide) (t := .int) (t' := (.array .long)) (by decide) (by decide)))).other W271 (Or.inl ne_a1_b254))
  have f276 := ((f263.wr W264).wr W271)
  obtain ⟨T277, h277, X277, e277, W277, st277⟩ := putF X271 hx hZ hown (host := "") (Or.inl (hw _ (List.mem_of_getElem? (i := 73) rfl))) Via.refl e271 f275 f276 (Or.inl (hw _ (List.mem_of_getElem? (i := 74) rfl))) (hw _ (List.mem_of_getElem? (i := 3) rfl)) (ty := .int) (by decide) rfl rfl (g := (mkF m 164 #[.val (.ref a1), .val (.int (3 : Int32)), .val (.long q1), .second] [(.int (3 : Int32)), (.ref a1)])) rfl rfl (hb hby d1_164)
  have z278 : n0 ≤ h277.size := Nat.le_trans z272 (Keep.of_wr W277).1
  have N279 := Fr.snoc X277 N273 g_a1
  have Fw277 := f275.same W277
  have S280 : ∀ t, Steps p.tables e below (T277.setTop (mkF m 169 #[.val (.ref a1), .val (.int (3 : Int32)), .val (.long q1), .second] [(.int (3 : Int32)), (.ref a1)])) t → Steps p.tables e below (T277.setTop (mkF m 167 #[.val (.ref a1), .val (.int (3 : Int32)), .val (.long q1), .second] [])) t := by
    intro t kt
    show Steps p.tables e below (T277.setTop (mkF m 167 #[.val (.ref a1), .val (.int (3 : Int32)), .val (.long q1), .second] [])) _
    refine XS.aloadN X277.here hx rfl (hb hby d1_167) rfl rfl ?_
    show Steps p.tables e below (T277.setTop (mkF m 168 #[.val (.ref a1), .val (.int (3 : Int32)), .val (.long q1), .second] [(.ref a1)])) _
    refine XS.iloadN X277.here hx rfl (hb hby d1_168) rfl ?_
    exact kt
  obtain ⟨T281, h281, k281, X281, e281, E281, A281, -, O281, st281⟩ := newRA X277 hx hZ hown (C := "[I") (ty := .int) rfl (hw _ (List.mem_of_getElem? (i := 75) rfl)) (hw _ (List.mem_of_getElem? (i := 76) rfl)) e277 (g := (mkF m 169 #[.val (.ref a1), .val (.int (3 : Int32)), .val (.long q1), .second] [(.int (3 : Int32)), (.ref a1)])) rfl (hb hby d1_169) rfl (by decide) (cap := 3) (by decide) (by decide) (by decide) (by decide) rfl
  obtain ⟨b281, g281⟩ : ∃ z, z = h277.size := ⟨_, rfl⟩
  rw [← g281] at A281 st281
  have g_b281 : n0 ≤ b281 := Nat.le_trans z278 (Nat.le_of_eq g281.symm)
  have K282 := ((((K255.ext E254).wr W264 (Or.inl (List.mem_of_getElem? (i := 0) rfl))).wr W271 (Or.inr sz_b254)).wr W277 (Or.inl (List.mem_of_getElem? (i := 0) rfl)))
  have sz_b281 : h0.size ≤ b281 := Nat.le_trans K282.1 (Nat.le_of_eq g281.symm)
  have f283 := (f276.wr W277)
  have lt_a1_b281 : a1 < b281 := Nat.lt_of_lt_of_le f283.lt (Nat.le_of_eq g281.symm)
  have ne_a1_b281 : a1 ≠ b281 := Nat.ne_of_lt (Nat.lt_of_lt_of_le f283.lt (Nat.le_of_eq g281.symm))
  have f284 := ((((f257.ext E254).other W264 (Ne.symm ne_a1_b207)).other W271 ne_b207_b254).other W277 (Ne.symm ne_a1_b207))
  have lt_b207_b281 : b207 < b281 := Nat.lt_of_lt_of_le f284.lt (Nat.le_of_eq g281.symm)
  have ne_b207_b281 : b207 ≠ b281 := Nat.ne_of_lt (Nat.lt_of_lt_of_le f284.lt (Nat.le_of_eq g281.symm))
  have f285 := ((((f258.ext E254).other W264 (Ne.symm ne_a1_b217)).other W271 ne_b217_b254).other W277 (Ne.symm ne_a1_b217))
  have lt_b217_b281 : b217 < b281 := Nat.lt_of_lt_of_le f285.lt (Nat.le_of_eq g281.symm)
  have ne_b217_b281 : b217 ≠ b281 := Nat.ne_of_lt (Nat.lt_of_lt_of_le f285.lt (Nat.le_of_eq g281.symm))
  have f286 := ((((f259.ext E254).other W264 (Ne.symm ne_a1_b228)).other W271 ne_b228_b254).other W277 (Ne.symm ne_a1_b228))
  have lt_b228_b281 : b228 < b281 := Nat.lt_of_lt_of_le f286.lt (Nat.le_of_eq g281.symm)
  have ne_b228_b281 : b228 ≠ b281 := Nat.ne_of_lt (Nat.lt_of_lt_of_le f286.lt (Nat.le_of_eq g281.symm))
  have f287 := ((((f260.ext E254).other W264 (Ne.symm ne_a1_b240)).other W271 ne_b240_b254).other W277 (Ne.symm ne_a1_b240))
  have lt_b240_b281 : b240 < b281 := Nat.lt_of_lt_of_le f287.lt (Nat.le_of_eq g281.symm)
  have ne_b240_b281 : b240 ≠ b281 := Nat.ne_of_lt (Nat.lt_of_lt_of_le f287.lt (Nat.le_of_eq g281.symm))
  have f288 := (V271'.other W277 (Ne.symm ne_a1_b254))
  have lt_b254_b281 : b254 < b281 := Nat.lt_of_lt_of_le f288.lt (Nat.le_of_eq g281.symm)
  have ne_b254_b281 : b254 ≠ b281 := Nat.ne_of_lt (Nat.lt_of_lt_of_le f288.lt (Nat.le_of_eq g281.symm))
  have z289 : n0 ≤ h281.size := Nat.le_trans z278 E281.1
  have V281 : ArR Z h281 b281 3 .int := ArR.new A281 (by decide) O281
  have f290 := (((((((((((((((((((((((((((((((((((((((((F60.ext E65).other W70 (Or.inr (slot_ne (Or.inr (hw _ (List.mem_of_getElem? (i := 78) rfl))) (Or.inl (hw _ (List.mem_of_getElem? (i := 13) rfl))) (by decide) (t := (.array (.array .int))) (t' := (.array .int)) (by decide) (by decide)))).ext E74).keep K81q (ninS ne_a1_b74 nin0)).other W85 (Or.inr (slot_ne (Or.inr (hw _ (List.mem_of_getElem? (i := 78) rfl))) (Or.inl (hw _ (List.mem_of_getElem? (i := 31) rfl))) (by decide) (t := (.array (.array .int))) (t' := (.object "com/example/joinery/joinery/KeyGrid$Laid")) (by decide) (by decide)))).ext E89).keep K96q (ninS ne_a1_b89 nin0)).other W100 (Or.inr (slot_ne (Or.inr (hw _ (List.mem_of_getElem? (i := 78) rfl))) (Or.inl (hw _ (List.mem_of_getElem? (i := 33) rfl))) (by decide) (t := (.array (.array .int))) (t' := (.object "com/example/joinery/joinery/KeyGrid$Laid")) (by decide) (by decide)))).ext E104).other W110 (Or.inr (slot_ne (Or.inr (hw _ (List.mem_of_getElem? (i := 78) rfl))) (Or.inl (hw _ (List.mem_of_getElem? (i := 35) rfl))) (by decide) (t := (.array (.array .int))) (t' := (.array .int)) (by decide) (by decide)))).ext E114).other W120 (Or.inr (slot_ne (Or.inr (hw _ (List.mem_of_getElem? (i := 78) rfl))) (Or.inl (hw _ (List.mem_of_getElem? (i := 37) rfl))) (by decide) (t := (.array (.array .int))) (t' := (.array .int)) (by decide) (by decide)))).ext E124).keep K131q (ninS ne_a1_b124 nin0)).other W135 (Or.inr (slot_ne (Or.inr (hw _ (List.mem_of_getElem? (i := 78) rfl))) (Or.inl (hw _ (List.mem_of_getElem? (i := 39) rfl))) (by decide) (t := (.array (.array .int))) (t' := (.object "com/example/joinery/joinery/KeyGrid$Laid")) (by decide) (by decide)))).ext E139).keep K146q (ninS ne_a1_b139 nin0)).other W150 (Or.inr (slot_ne (Or.inr (hw _ (List.mem_of_getElem? (i := 78) rfl))) (Or.inl (hw _ (List.mem_of_getElem? (i := 41) rfl))) (by decide) (t := (.array (.array .int))) (t' := (.object "com/example/joinery/joinery/KeyGrid$Laid")) (by decide) (by decide)))).ext E154).other W160 (Or.inr (slot_ne (Or.inr (hw _ (List.mem_of_getElem? (i := 78) rfl))) (Or.inl (hw _ (List.mem_of_getElem? (i := 43) rfl))) (by decide) (t := (.array (.array .int))) (t' := (.array .int)) (by decide) (by decide)))).ext E164).other W170 (Or.inr (slot_ne (Or.inr (hw _ (List.mem_of_getElem? (i := 78) rfl))) (Or.inl (hw _ (List.mem_of_getElem? (i := 45) rfl))) (by decide) (t := (.array (.array .int))) (t' := (.array .int)) (by decide) (by decide)))).ext E174).other W180 (Or.inr (slot_ne (Or.inr (hw _ (List.mem_of_getElem? (i := 78) rfl))) (Or.inl (hw _ (List.mem_of_getElem? (i := 47) rfl))) (by decide) (t := (.array (.array .int))) (t' := (.array .long)) (by decide) (by decide)))).ext E184).other W190 (Or.inr (slot_ne (Or.inr (hw _ (List.mem_of_getElem? (i := 78) rfl))) (Or.inl (hw _ (List.mem_of_getElem? (i := 49) rfl))) (by decide) (t := (.array (.array .int))) (t' := (.array .int)) (by decide) (by decide)))).other W196 (Or.inr (slot_ne (Or.inr (hw _ (List.mem_of_getElem? (i := 78) rfl))) (Or.inr (hw _ (List.mem_of_getElem? (i := 51) rfl))) (by decide) (t := (.array (.array .int))) (t' := .int) (by decide) (by decide)))).other W203 (Or.inr (slot_ne (Or.inr (hw _ (List.mem_of_getElem? (i := 78) rfl))) (Or.inr (hw _ (List.mem_of_getElem? (i := 61) rfl))) (by decide) (t := (.array (.array .int))) (t' := .long) (by decide) (by decide)))).ext E207).other W213 (Or.inr (slot_ne (Or.inr (hw _ (List.mem_of_getElem? (i := 78) rfl))) (Or.inr (hw _ (List.mem_of_getElem? (i := 63) rfl))) (by decide) (t := (.array (.array .int))) (t' := (.array .int)) (by decide) (by decide)))).ext E217).other W224 (Or.inr (slot_ne (Or.inr (hw _ (List.mem_of_getElem? (i := 78) rfl))) (Or.inr (hw _ (List.mem_of_getElem? (i := 66) rfl))) (by decide) (t := (.array (.array .int))) (t' := (.array .boolean)) (by decide) (by decide)))).ext E228).other W236 (Or.inr (slot_ne (Or.inr (hw _ (List.mem_of_getElem? (i := 78) rfl))) (Or.inr (hw _ (List.mem_of_getElem? (i := 68) rfl))) (by decide) (t := (.array (.array .int))) (t' := (.array .boolean)) (by decide) (by decide)))).ext E240).other W249 (Or.inr (slot_ne (Or.inr (hw _ (List.mem_of_getElem? (i := 78) rfl))) (Or.inr (hw _ (List.mem_of_getElem? (i := 70) rfl))) (by decide) (t := (.array (.array .int))) (t' := (.array .int)) (by decide) (by decide)))).ext E254).other W264 (Or.inr (slot_ne (Or.inr (hw _ (List.mem_of_getElem? (i := 78) rfl))) (Or.inr (hw _ (List.mem_of_getElem? (i := 72) rfl))) (by decide) (t := (.array (.array .int))) (t' := (.array .long)) (by decide) (by decide)))).other W271 (Or.inl ne_a1_b254)).other W277 (Or.inr (slot_ne (Or.inr (hw _ (List.mem_of_getElem? (i := 78) rfl))) (Or.inl (hw _ (List.mem_of_getElem? (i := 74) rfl))) (by decide) (t := (.array (.array .int))) (t' := .int) (by decide) (by decide)))).ext E281)
  have f291 := (f283.ext E281)
  obtain ⟨T292, h292, X292, e292, W292, st292⟩ := putF X281 hx hZ hown (host := "") (Or.inl (hw _ (List.mem_of_getElem? (i := 77) rfl))) Via.refl e281 f290 f291 (Or.inr ⟨(hw _ (List.mem_of_getElem? (i := 78) rfl)), rfl, hnm⟩) (hw _ (List.mem_of_getElem? (i := 3) rfl)) (ty := (.array (.array .int))) (by decide) rfl rfl (g := (mkF m 172 #[.val (.ref a1), .val (.int (3 : Int32)), .val (.long q1), .second] [(.ref b281), (.ref a1)])) rfl rfl (hb hby d1_172)
  have z293 : n0 ≤ h292.size := Nat.le_trans z289 (Keep.of_wr W292).1
  have N294 := Fr.snoc X292 N279 g_a1
  have Fw292 := f290.same W292
  have S295 : ∀ t, Steps p.tables e below (T292.setTop (mkF m 177 #[.val (.ref a1), .val (.int (3 : Int32)), .val (.long q1), .second] [(.int (3 : Int32)), (.ref a1)])) t → Steps p.tables e below (T292.setTop (mkF m 175 #[.val (.ref a1), .val (.int (3 : Int32)), .val (.long q1), .second] [])) t := by
    intro t kt
    show Steps p.tables e below (T292.setTop (mkF m 175 #[.val (.ref a1), .val (.int (3 : Int32)), .val (.long q1), .second] [])) _
    refine XS.aloadN X292.here hx rfl (hb hby d1_175) rfl rfl ?_
    show Steps p.tables e below (T292.setTop (mkF m 176 #[.val (.ref a1), .val (.int (3 : Int32)), .val (.long q1), .second] [(.ref a1)])) _
    refine XS.iloadN X292.here hx rfl (hb hby d1_176) rfl ?_
    exact kt
  obtain ⟨T296, h296, k296, X296, e296, E296, A296, -, O296, st296⟩ := newRA X292 hx hZ hown (C := "[I") (ty := .int) rfl (hw _ (List.mem_of_getElem? (i := 75) rfl)) (hw _ (List.mem_of_getElem? (i := 76) rfl)) e292 (g := (mkF m 177 #[.val (.ref a1), .val (.int (3 : Int32)), .val (.long q1), .second] [(.int (3 : Int32)), (.ref a1)])) rfl (hb hby d1_177) rfl (by decide) (cap := 3) (by decide) (by decide) (by decide) (by decide) rfl
  obtain ⟨b296, g296⟩ : ∃ z, z = h292.size := ⟨_, rfl⟩
  rw [← g296] at A296 st296
  have g_b296 : n0 ≤ b296 := Nat.le_trans z293 (Nat.le_of_eq g296.symm)
  have K297 := ((K282.ext E281).wr W292 (Or.inl (List.mem_of_getElem? (i := 0) rfl)))
  have sz_b296 : h0.size ≤ b296 := Nat.le_trans K297.1 (Nat.le_of_eq g296.symm)
  have f298 := (f291.wr W292)
  have lt_a1_b296 : a1 < b296 := Nat.lt_of_lt_of_le f298.lt (Nat.le_of_eq g296.symm)
  have ne_a1_b296 : a1 ≠ b296 := Nat.ne_of_lt (Nat.lt_of_lt_of_le f298.lt (Nat.le_of_eq g296.symm))
  have f299 := ((f284.ext E281).other W292 (Ne.symm ne_a1_b207))
  have lt_b207_b296 : b207 < b296 := Nat.lt_of_lt_of_le f299.lt (Nat.le_of_eq g296.symm)
  have ne_b207_b296 : b207 ≠ b296 := Nat.ne_of_lt (Nat.lt_of_lt_of_le f299.lt (Nat.le_of_eq g296.symm))
  have f300 := ((f285.ext E281).other W292 (Ne.symm ne_a1_b217))
  have lt_b217_b296 : b217 < b296 := Nat.lt_of_lt_of_le f300.lt (Nat.le_of_eq g296.symm)
  have ne_b217_b296 : b217 ≠ b296 := Nat.ne_of_lt (Nat.lt_of_lt_of_le f300.lt (Nat.le_of_eq g296.symm))
  have f301 := ((f286.ext E281).other W292 (Ne.symm ne_a1_b228))
  have lt_b228_b296 : b228 < b296 := Nat.lt_of_lt_of_le f301.lt (Nat.le_of_eq g296.symm)
  have ne_b228_b296 : b228 ≠ b296 := Nat.ne_of_lt (Nat.lt_of_lt_of_le f301.lt (Nat.le_of_eq g296.symm))
  have f302 := ((f287.ext E281).other W292 (Ne.symm ne_a1_b240))
  have lt_b240_b296 : b240 < b296 := Nat.lt_of_lt_of_le f302.lt (Nat.le_of_eq g296.symm)
  have ne_b240_b296 : b240 ≠ b296 := Nat.ne_of_lt (Nat.lt_of_lt_of_le f302.lt (Nat.le_of_eq g296.symm))
  have f303 := ((f288.ext E281).other W292 (Ne.symm ne_a1_b254))
  have lt_b254_b296 : b254 < b296 := Nat.lt_of_lt_of_le f303.lt (Nat.le_of_eq g296.symm)
  have ne_b254_b296 : b254 ≠ b296 := Nat.ne_of_lt (Nat.lt_of_lt_of_le f303.lt (Nat.le_of_eq g296.symm))
  have f304 := (V281.other W292 (Ne.symm ne_a1_b281))
  have lt_b281_b296 : b281 < b296 := Nat.lt_of_lt_of_le f304.lt (Nat.le_of_eq g296.symm)
  have ne_b281_b296 : b281 ≠ b296 := Nat.ne_of_lt (Nat.lt_of_lt_of_le f304.lt (Nat.le_of_eq g296.symm))
  have z305 : n0 ≤ h296.size := Nat.le_trans z293 E296.1
  have V296 : ArR Z h296 b296 3 .int := ArR.new A296 (by decide) O296
  have f306 := (((((((((((((((((((((((((((((((((((((((((((F61.ext E65).other W70 (Or.inr (slot_ne (Or.inr (hw _ (List.mem_of_getElem? (i := 80) rfl))) (Or.inl (hw _ (List.mem_of_getElem? (i := 13) rfl))) (by decide) (t := (.array (.array .int))) (t' := (.array .int)) (by decide) (by decide)))).ext E74).keep K81q (ninS ne_a1_b74 nin0)).other W85 (Or.inr (slot_ne (Or.inr (hw _ (List.mem_of_getElem? (i := 80) rfl))) (Or.inl (hw _ (List.mem_of_getElem? (i := 31) rfl))) (by decide) (t := (.array (.array .int))) (t' := (.object "com/example/joinery/joinery/KeyGrid$Laid")) (by decide) (by decide)))).ext E89).keep K96q (ninS ne_a1_b89 nin0)).other W100 (Or.inr (slot_ne (Or.inr (hw _ (List.mem_of_getElem? (i := 80) rfl))) (Or.inl (hw _ (List.mem_of_getElem? (i := 33) rfl))) (by decide) (t := (.array (.array .int))) (t' := (.object "com/example/joinery/joinery/KeyGrid$Laid")) (by decide) (by decide)))).ext E104).other W110 (Or.inr (slot_ne (Or.inr (hw _ (List.mem_of_getElem? (i := 80) rfl))) (Or.inl (hw _ (List.mem_of_getElem? (i := 35) rfl))) (by decide) (t := (.array (.array .int))) (t' := (.array .int)) (by decide) (by decide)))).ext E114).other W120 (Or.inr (slot_ne (Or.inr (hw _ (List.mem_of_getElem? (i := 80) rfl))) (Or.inl (hw _ (List.mem_of_getElem? (i := 37) rfl))) (by decide) (t := (.array (.array .int))) (t' := (.array .int)) (by decide) (by decide)))).ext E124).keep K131q (ninS ne_a1_b124 nin0)).other W135 (Or.inr (slot_ne (Or.inr (hw _ (List.mem_of_getElem? (i := 80) rfl))) (Or.inl (hw _ (List.mem_of_getElem? (i := 39) rfl))) (by decide) (t := (.array (.array .int))) (t' := (.object "com/example/joinery/joinery/KeyGrid$Laid")) (by decide) (by decide)))).ext E139).keep K146q (ninS ne_a1_b139 nin0)).other W150 (Or.inr (slot_ne (Or.inr (hw _ (List.mem_of_getElem? (i := 80) rfl))) (Or.inl (hw _ (List.mem_of_getElem? (i := 41) rfl))) (by decide) (t := (.array (.array .int))) (t' := (.object "com/example/joinery/joinery/KeyGrid$Laid")) (by decide) (by decide)))).ext E154).other W160 (Or.inr (slot_ne (Or.inr (hw _ (List.mem_of_getElem? (i := 80) rfl))) (Or.inl (hw _ (List.mem_of_getElem? (i := 43) rfl))) (by decide) (t := (.array (.array .int))) (t' := (.array .int)) (by decide) (by decide)))).ext E164).other W170 (Or.inr (slot_ne (Or.inr (hw _ (List.mem_of_getElem? (i := 80) rfl))) (Or.inl (hw _ (List.mem_of_getElem? (i := 45) rfl))) (by decide) (t := (.array (.array .int))) (t' := (.array .int)) (by decide) (by decide)))).ext E174).other W180 (Or.inr (slot_ne (Or.inr (hw _ (List.mem_of_getElem? (i := 80) rfl))) (Or.inl (hw _ (List.mem_of_getElem? (i := 47) rfl))) (by decide) (t := (.array (.array .int))) (t' := (.array .long)) (by decide) (by decide)))).ext E184).other W190 (Or.inr (slot_ne (Or.inr (hw _ (List.mem_of_getElem? (i := 80) rfl))) (Or.inl (hw _ (List.mem_of_getElem? (i := 49) rfl))) (by decide) (t := (.array (.array .int))) (t' := (.array .int)) (by decide) (by decide)))).other W196 (Or.inr (slot_ne (Or.inr (hw _ (List.mem_of_getElem? (i := 80) rfl))) (Or.inr (hw _ (List.mem_of_getElem? (i := 51) rfl))) (by decide) (t := (.array (.array .int))) (t' := .int) (by decide) (by decide)))).other W203 (Or.inr (slot_ne (Or.inr (hw _ (List.mem_of_getElem? (i := 80) rfl))) (Or.inr (hw _ (List.mem_of_getElem? (i := 61) rfl))) (by decide) (t := (.array (.array .int))) (t' := .long) (by decide) (by decide)))).ext E207).other W213 (Or.inr (slot_ne (Or.inr (hw _ (List.mem_of_getElem? (i := 80) rfl))) (Or.inr (hw _ (List.mem_of_getElem? (i := 63) rfl))) (by decide) (t := (.array (.array .int))) (t' := (.array .int)) (by decide) (by decide)))).ext E217).other W224 (Or.inr (slot_ne (Or.inr (hw _ (List.mem_of_getElem? (i := 80) rfl))) (Or.inr (hw _ (List.mem_of_getElem? (i := 66) rfl))) (by decide) (t := (.array (.array .int))) (t' := (.array .boolean)) (by decide) (by decide)))).ext E228).other W236 (Or.inr (slot_ne (Or.inr (hw _ (List.mem_of_getElem? (i := 80) rfl))) (Or.inr (hw _ (List.mem_of_getElem? (i := 68) rfl))) (by decide) (t := (.array (.array .int))) (t' := (.array .boolean)) (by decide) (by decide)))).ext E240).other W249 (Or.inr (slot_ne (Or.inr (hw _ (List.mem_of_getElem? (i := 80) rfl))) (Or.inr (hw _ (List.mem_of_getElem? (i := 70) rfl))) (by decide) (t := (.array (.array .int))) (t' := (.array .int)) (by decide) (by decide)))).ext E254).other W264 (Or.inr (slot_ne (Or.inr (hw _ (List.mem_of_getElem? (i := 80) rfl))) (Or.inr (hw _ (List.mem_of_getElem? (i := 72) rfl))) (by decide) (t := (.array (.array .int))) (t' := (.array .long)) (by decide) (by decide)))).other W271 (Or.inl ne_a1_b254)).other W277 (Or.inr (slot_ne (Or.inr (hw _ (List.mem_of_getElem? (i := 80) rfl))) (Or.inl (hw _ (List.mem_of_getElem? (i := 74) rfl))) (by decide) (t := (.array (.array .int))) (t' := .int) (by decide) (by decide)))).ext E281).other W292 (Or.inr (slot_ne (Or.inr (hw _ (List.mem_of_getElem? (i := 80) rfl))) (Or.inr (hw _ (List.mem_of_getElem? (i := 78) rfl))) (by decide) (t := (.array (.array .int))) (t' := (.array (.array .int))) (by decide) (by decide)))).ext E296)
  have f307 := (f298.ext E296)
  obtain ⟨T308, h308, X308, e308, W308, st308⟩ := putF X296 hx hZ hown (host := "") (Or.inl (hw _ (List.mem_of_getElem? (i := 79) rfl))) Via.refl e296 f306 f307 (Or.inr ⟨(hw _ (List.mem_of_getElem? (i := 80) rfl)), rfl, hnm⟩) (hw _ (List.mem_of_getElem? (i := 3) rfl)) (ty := (.array (.array .int))) (by decide) rfl rfl (g := (mkF m 180 #[.val (.ref a1), .val (.int (3 : Int32)), .val (.long q1), .second] [(.ref b296), (.ref a1)])) rfl rfl (hb hby d1_180)
  have z309 : n0 ≤ h308.size := Nat.le_trans z305 (Keep.of_wr W308).1
  have N310 := Fr.snoc X308 N294 g_a1
  have Fw308 := f306.same W308
  have C311 : ∀ t, Steps p.tables e below (T308.setTop (mkF m 183 #[.val (.ref a1), .val (.int (3 : Int32)), .val (.long q1), .second] [])) t → Steps p.tables e below (s₁.setTop (mkF m 0 #[.val (.ref a1), .val (.int (3 : Int32)), .val (.long q1), .second] [])) t := (fun t k => (S62 t (st63 t (S64 t (st65 t (st70 t (S73 t (st74 t (S80 t (st81.trans (st85 t (S88 t (st89 t (S95 t (st96.trans (st100 t (S103 t (st104 t (st110 t (S113 t (st114 t (st120 t (S123 t (st124 t (S130 t (st131.trans (st135 t (S138 t (st139 t (S145 t (st146.trans (st150 t (S153 t (st154 t (st160 t (S163 t (st164 t (st170 t (S173 t (st174 t (st180 t (S183 t (st184 t (st190 t (S193 t (st196 t (S199 t (st200 t (st203 t (S206 t (st207 t (st213 t (S216 t (st217 t (st224 t (S227 t (st228 t (st236 t (S239 t (st240 t (st249 t (S252 t (S253 t (st254 t (st264 t (S267 t (st268 t (S269 t (st271 t (S274 t (st277 t (S280 t (st281 t (st292 t (S295 t (st296 t (st308 t k)))))))))))))))))))))))))))))))))))))))))))))))))))))))))))))))))))))))))))))
  obtain ⟨fs, hr, hrun, hended, hW, hsame⟩ := X308.leave (v := none) (fun _ => rfl)
  refine ⟨_, _, pre0 _ (C311 _ ?_), hrun, hended, _, _, rfl, ?_, ⟨_, rfl⟩, hW, hsame.mono (by decide) (by decide)⟩
  · exact X308.returnOut hx Bd.returns (hb hby d1_183) hr
  · show Q_rm1 Z a1 q1 h0 n0 _ T308.heap _
    rw [e308]
    have f312 := (f307.wr W308)
    have f313 := (((((((((((((((((Fw196.other W203 (Or.inr (slot_ne (Or.inr (hw _ (List.mem_of_getElem? (i := 51) rfl))) (Or.inr (hw _ (List.mem_of_getElem? (i := 61) rfl))) (by decide) (t := .int) (t' := .long) (by decide) (by decide)))).ext E207).other W213 (Or.inr (slot_ne (Or.inr (hw _ (List.mem_of_getElem? (i := 51) rfl))) (Or.inr (hw _ (List.mem_of_getElem? (i := 63) rfl))) (by decide) (t := .int) (t' := (.array .int)) (by decide) (by decide)))).ext E217).other W224 (Or.inr (slot_ne (Or.inr (hw _ (List.mem_of_getElem? (i := 51) rfl))) (Or.inr (hw _ (List.mem_of_getElem? (i := 66) rfl))) (by decide) (t := .int) (t' := (.array .boolean)) (by decide) (by decide)))).ext E228).other W236 (Or.inr (slot_ne (Or.inr (hw _ (List.mem_of_getElem? (i := 51) rfl))) (Or.inr (hw _ (List.mem_of_getElem? (i := 68) rfl))) (by decide) (t := .int) (t' := (.array .boolean)) (by decide) (by decide)))).ext E240).other W249 (Or.inr (slot_ne (Or.inr (hw _ (List.mem_of_getElem? (i := 51) rfl))) (Or.inr (hw _ (List.mem_of_getElem? (i := 70) rfl))) (by decide) (t := .int) (t' := (.array .int)) (by decide) (by decide)))).ext E254).other W264 (Or.inr (slot_ne (Or.inr (hw _ (List.mem_of_getElem? (i := 51) rfl))) (Or.inr (hw _ (List.mem_of_getElem? (i := 72) rfl))) (by decide) (t := .int) (t' := (.array .long)) (by decide) (by decide)))).other W271 (Or.inl ne_a1_b254)).other W277 (Or.inr (slot_ne (Or.inr (hw _ (List.mem_of_getElem? (i := 51) rfl))) (Or.inl (hw _ (List.mem_of_getElem? (i := 74) rfl))) (by decide) (t := .int) (t' := .int) (by decide) (by decide)))).ext E281).other W292 (Or.inr (slot_ne (Or.inr (hw _ (List.mem_of_getElem? (i := 51) rfl))) (Or.inr (hw _ (List.mem_of_getElem? (i := 78) rfl))) (by decide) (t := .int) (t' := (.array (.array .int))) (by decide) (by decide)))).ext E296).other W308 (Or.inr (slot_ne (Or.inr (hw _ (List.mem_of_getElem? (i := 51) rfl))) (Or.inr (hw _ (List.mem_of_getElem? (i := 80) rfl))) (by decide) (t := .int) (t' := (.array (.array .int))) (by decide) (by decide))))
    have f314 := ((((Fw277.ext E281).other W292 (Or.inr (slot_ne (Or.inl (hw _ (List.mem_of_getElem? (i := 74) rfl))) (Or.inr (hw _ (List.mem_of_getElem? (i := 78) rfl))) (by decide) (t := .int) (t' := (.array (.array .int))) (by decide) (by decide)))).ext E296).other W308 (Or.inr (slot_ne (Or.inl (hw _ (List.mem_of_getElem? (i := 74) rfl))) (Or.inr (hw _ (List.mem_of_getElem? (i := 80) rfl))) (by decide) (t := .int) (t' := (.array (.array .int))) (by decide) (by decide))))
    have f315 := ((((((((((((((Fw213.ext E217).other W224 (Or.inr (slot_ne (Or.inr (hw _ (List.mem_of_getElem? (i := 63) rfl))) (Or.inr (hw _ (List.mem_of_getElem? (i := 66) rfl))) (by decide) (t := (.array .int)) (t' := (.array .boolean)) (by decide) (by decide)))).ext E228).other W236 (Or.inr (slot_ne (Or.inr (hw _ (List.mem_of_getElem? (i := 63) rfl))) (Or.inr (hw _ (List.mem_of_getElem? (i := 68) rfl))) (by decide) (t := (.array .int)) (t' := (.array .boolean)) (by decide) (by decide)))).ext E240).other W249 (Or.inr (slot_ne (Or.inr (hw _ (List.mem_of_getElem? (i := 63) rfl))) (Or.inr (hw _ (List.mem_of_getElem? (i := 70) rfl))) (by decide) (t := (.array .int)) (t' := (.array .int)) (by decide) (by decide)))).ext E254).other W264 (Or.inr (slot_ne (Or.inr (hw _ (List.mem_of_getElem? (i := 63) rfl))) (Or.inr (hw _ (List.mem_of_getElem? (i := 72) rfl))) (by decide) (t := (.array .int)) (t' := (.array .long)) (by decide) (by decide)))).other W271 (Or.inl ne_a1_b254)).other W277 (Or.inr (slot_ne (Or.inr (hw _ (List.mem_of_getElem? (i := 63) rfl))) (Or.inl (hw _ (List.mem_of_getElem? (i := 74) rfl))) (by decide) (t := (.array .int)) (t' := .int) (by decide) (by decide)))).ext E281).other W292 (Or.inr (slot_ne (Or.inr (hw _ (List.mem_of_getElem? (i := 63) rfl))) (Or.inr (hw _ (List.mem_of_getElem? (i := 78) rfl))) (by decide) (t := (.array .int)) (t' := (.array (.array .int))) (by decide) (by decide)))).ext E296).other W308 (Or.inr (slot_ne (Or.inr (hw _ (List.mem_of_getElem? (i := 63) rfl))) (Or.inr (hw _ (List.mem_of_getElem? (i := 80) rfl))) (by decide) (t := (.array .int)) (t' := (.array (.array .int))) (by decide) (by decide))))
    have f316 := ((((((((((((Fw224.ext E228).other W236 (Or.inr (slot_ne (Or.inr (hw _ (List.mem_of_getElem? (i := 66) rfl))) (Or.inr (hw _ (List.mem_of_getElem? (i := 68) rfl))) (by decide) (t := (.array .boolean)) (t' := (.array .boolean)) (by decide) (by decide)))).ext E240).other W249 (Or.inr (slot_ne (Or.inr (hw _ (List.mem_of_getElem? (i := 66) rfl))) (Or.inr (hw _ (List.mem_of_getElem? (i := 70) rfl))) (by decide) (t := (.array .boolean)) (t' := (.array .int)) (by decide) (by decide)))).ext E254).other W264 (Or.inr (slot_ne (Or.inr (hw _ (List.mem_of_getElem? (i := 66) rfl))) (Or.inr (hw _ (List.mem_of_getElem? (i := 72) rfl))) (by decide) (t := (.array .boolean)) (t' := (.array .long)) (by decide) (by decide)))).other W271 (Or.inl ne_a1_b254)).other W277 (Or.inr (slot_ne (Or.inr (hw _ (List.mem_of_getElem? (i := 66) rfl))) (Or.inl (hw _ (List.mem_of_getElem? (i := 74) rfl))) (by decide) (t := (.array .boolean)) (t' := .int) (by decide) (by decide)))).ext E281).other W292 (Or.inr (slot_ne (Or.inr (hw _ (List.mem_of_getElem? (i := 66) rfl))) (Or.inr (hw _ (List.mem_of_getElem? (i := 78) rfl))) (by decide) (t := (.array .boolean)) (t' := (.array (.array .int))) (by decide) (by decide)))).ext E296).other W308 (Or.inr (slot_ne (Or.inr (hw _ (List.mem_of_getElem? (i := 66) rfl))) (Or.inr (hw _ (List.mem_of_getElem? (i := 80) rfl))) (by decide) (t := (.array .boolean)) (t' := (.array (.array .int))) (by decide) (by decide))))
    have f317 := ((((((((((Fw236.ext E240).other W249 (Or.inr (slot_ne (Or.inr (hw _ (List.mem_of_getElem? (i := 68) rfl))) (Or.inr (hw _ (List.mem_of_getElem? (i := 70) rfl))) (by decide) (t := (.array .boolean)) (t' := (.array .int)) (by decide) (by decide)))).ext E254).other W264 (Or.inr (slot_ne (Or.inr (hw _ (List.mem_of_getElem? (i := 68) rfl))) (Or.inr (hw _ (List.mem_of_getElem? (i := 72) rfl))) (by decide) (t := (.array .boolean)) (t' := (.array .long)) (by decide) (by decide)))).other W271 (Or.inl ne_a1_b254)).other W277 (Or.inr (slot_ne (Or.inr (hw _ (List.mem_of_getElem? (i := 68) rfl))) (Or.inl (hw _ (List.mem_of_getElem? (i := 74) rfl))) (by decide) (t := (.array .boolean)) (t' := .int) (by decide) (by decide)))).ext E281).other W292 (Or.inr (slot_ne (Or.inr (hw _ (List.mem_of_getElem? (i := 68) rfl))) (Or.inr (hw _ (List.mem_of_getElem? (i := 78) rfl))) (by decide) (t := (.array .boolean)) (t' := (.array (.array .int))) (by decide) (by decide)))).ext E296).other W308 (Or.inr (slot_ne (Or.inr (hw _ (List.mem_of_getElem? (i := 68) rfl))) (Or.inr (hw _ (List.mem_of_getElem? (i := 80) rfl))) (by decide) (t := (.array .boolean)) (t' := (.array (.array .int))) (by decide) (by decide))))
    have f318 := ((((((((Fw249.ext E254).other W264 (Or.inr (slot_ne (Or.inr (hw _ (List.mem_of_getElem? (i := 70) rfl))) (Or.inr (hw _ (List.mem_of_getElem? (i := 72) rfl))) (by decide) (t := (.array .int)) (t' := (.array .long)) (by decide) (by decide)))).other W271 (Or.inl ne_a1_b254)).other W277 (Or.inr (slot_ne (Or.inr (hw _ (List.mem_of_getElem? (i := 70) rfl))) (Or.inl (hw _ (List.mem_of_getElem? (i := 74) rfl))) (by decide) (t := (.array .int)) (t' := .int) (by decide) (by decide)))).ext E281).other W292 (Or.inr (slot_ne (Or.inr (hw _ (List.mem_of_getElem? (i := 70) rfl))) (Or.inr (hw _ (List.mem_of_getElem? (i := 78) rfl))) (by decide) (t := (.array .int)) (t' := (.array (.array .int))) (by decide) (by decide)))).ext E296).other W308 (Or.inr (slot_ne (Or.inr (hw _ (List.mem_of_getElem? (i := 70) rfl))) (Or.inr (hw _ (List.mem_of_getElem? (i := 80) rfl))) (by decide) (t := (.array .int)) (t' := (.array (.array .int))) (by decide) (by decide))))
    have f319 := ((((((Fw264.other W271 (Or.inl ne_a1_b254)).other W277 (Or.inr (slot_ne (Or.inr (hw _ (List.mem_of_getElem? (i := 72) rfl))) (Or.inl (hw _ (List.mem_of_getElem? (i := 74) rfl))) (by decide) (t := (.array .long)) (t' := .int) (by decide) (by decide)))).ext E281).other W292 (Or.inr (slot_ne (Or.inr (hw _ (List.mem_of_getElem? (i := 72) rfl))) (Or.inr (hw _ (List.mem_of_getElem? (i := 78) rfl))) (by decide) (t := (.array .long)) (t' := (.array (.array .int))) (by decide) (by decide)))).ext E296).other W308 (Or.inr (slot_ne (Or.inr (hw _ (List.mem_of_getElem? (i := 72) rfl))) (Or.inr (hw _ (List.mem_of_getElem? (i := 80) rfl))) (by decide) (t := (.array .long)) (t' := (.array (.array .int))) (by decide) (by decide))))
    have f320 := ((Fw292.ext E296).other W308 (Or.inr (slot_ne (Or.inr (hw _ (List.mem_of_getElem? (i := 78) rfl))) (Or.inr (hw _ (List.mem_of_getElem? (i := 80) rfl))) (by decide) (t := (.array (.array .int))) (t' := (.array (.array .int))) (by decide) (by decide))))
    have f321 := ((f299.ext E296).other W308 (Ne.symm ne_a1_b207))
    have f322 := ((f300.ext E296).other W308 (Ne.symm ne_a1_b217))
    have f323 := ((f301.ext E296).other W308 (Ne.symm ne_a1_b228))
    have f324 := ((f302.ext E296).other W308 (Ne.symm ne_a1_b240))
    have f325 := ((f303.ext E296).other W308 (Ne.symm ne_a1_b254))
    have f326 := ((f304.ext E296).other W308 (Ne.symm ne_a1_b281))
    have f327 := (V296.other W308 (Ne.symm ne_a1_b296))
    exact ⟨b207, b217, b228, b240, b254, b281, b296, _, _, _, _, rfl, N310, ((K297.ext E296).wr W308 (Or.inl (List.mem_of_getElem? (i := 0) rfl))), g_a1, lt_a1_b207, lt_b207_b217, lt_b217_b228, lt_b228_b240, lt_b240_b254, lt_b254_b281, lt_b281_b296, f312, f313, f314, f315, f316, f317, f318, f319, f320, Fw308, f321, f322, f323, f324, f325, f326, f327⟩
theorem ef_rm9 (m : MethodId) (x0 : Addr) : entryFrame m #[(.ref x0)] 2 = mkF m 0 #[.val (.ref x0), .unset] [] := by first | (simp [entryFrame, mkF, argsToLocals, Value.category]; done) | rfl
def Q_rm9 (Z : State) (y1 : Addr) (h0 : Heap) (n0 : Nat) (v : Option Value) (h : Heap) (L : List Loc) : Prop := v = none ∧ Fr n0 L ∧ h = h0
set_option maxRecDepth 65536 in
set_option maxHeartbeats 40000000 in
theorem rm9 (l : Launch) (Z : State) (a0 : Array Value) (hw : ∀ d ∈ tables_1, d.before a0 Z = true) (ws : List Jvm.Cond) (y1 : Addr) (h0 : Heap) (n0 : Nat) (Z0 : n0 ≤ h0.size) (F328 : ArF Z h0 y1 .int 0 (fun _ => (.int (0 : Int32)))) :
    MetFree l (⟨"com/example/joinery/joinery/KeyGrid", "lower", "([I)V"⟩ : MethodName) (head1 (Jvm.Cond.code (⟨"com/example/joinery/joinery/KeyGrid", "lower", "([I)V"⟩ : MethodName) prog_21_method_29_code 2 none :: ws) ({ frames := 0, cells := 0, slots := 0, locals := 0 } : Room)) (fun a U => a = #[(.ref y1)] ∧ Z.Warmed39 U.vm ∧ U.heap = h0) (fun _ _ _ _ _ => True) (fun _ U o U' => ∃ v L, o = .returned v ∧ Q_rm9 Z y1 h0 n0 v U'.heap L ∧ FrameEnd U o U' L ({ frames := 0, cells := 0, slots := 0, locals := 0 } : Room).cells ({ frames := 0, cells := 0, slots := 0, locals := 0 } : Room).slots) := by
  refine MetFree.of_bodySF (plainFor_of_name pn_0) hisR ?_
  intro p e s m args below meth c s₁ Bd hml0 hP hK
  obtain ⟨rfl, hZ, hh⟩ := hP
  have hx := Bd.exec
  have hby := Bd.bytes
  have hml : c.maxLocals = 2 := hml0
  have hown : s.vm.findClass "com/example/joinery/joinery/KeyGrid" = some m.cls := findClass_of_methodNamed Bd.named
  have hnm := (name_of_methodNamed Bd.named Bd.method).1
  have X0 : Stand p l e ({ frames := 0, cells := 0, slots := 0, locals := 0 } : Room) s m #[(.ref y1)] below meth c s₁ [] 0 0 := Stand.of_body Bd
  have e0 : s₁.heap = h0 := by rw [← hh, Bd.state]; rfl
  have N0 := Fr.nil n0
  have pre0 : ∀ t, Steps p.tables e below (s₁.setTop (mkF m 0 #[.val (.ref y1), .unset] [])) t → Steps p.tables e below (s₁.setTop (entryFrame m #[(.ref y1)] 2)) t := fun t k => castTop (ef_rm9 m y1) k
  have S329 : ∀ t, Steps p.tables e below (s₁.setTop (mkF m 21 #[.val (.ref y1), .val (.int (0 : Int32))] [])) t → Steps p.tables e below (s₁.setTop (mkF m 0 #[.val (.ref y1), .unset] [])) t := by
    intro t kt
    show Steps p.tables e below (s₁.setTop (mkF m 0 #[.val (.ref y1), .unset] [])) _
    refine XS.iconst X0.here hx rfl (hb hby d9_0) ?_
    show Steps p.tables e below (s₁.setTop (mkF m 1 #[.val (.ref y1), .unset] [(.int (0 : Int32))])) _
    refine XS.istoreN X0.here hx rfl (hb hby d9_1) rfl (l' := #[.val (.ref y1), .val (.int (0 : Int32))]) rfl ?_
    show Steps p.tables e below (s₁.setTop (mkF m 2 #[.val (.ref y1), .val (.int (0 : Int32))] [])) _
    refine XS.iloadN X0.here hx rfl (hb hby d9_2) rfl ?_
    show Steps p.tables e below (s₁.setTop (mkF m 3 #[.val (.ref y1), .val (.int (0 : Int32))] [(.int (0 : Int32))])) _
    refine XS.aloadN X0.here hx rfl (hb hby d9_3) rfl rfl ?_
    show Steps p.tables e below (s₁.setTop (mkF m 4 #[.val (.ref y1), .val (.int (0 : Int32))] [(.ref y1), (.int (0 : Int32))])) _
    refine ArF.len X0 hx hZ e0 F328 (g := (mkF m 4 #[.val (.ref y1), .val (.int (0 : Int32))] [(.ref y1), (.int (0 : Int32))])) rfl rfl (hb hby d9_4) _ ?_
    show Steps p.tables e below (s₁.setTop (mkF m 5 #[.val (.ref y1), .val (.int (0 : Int32))] [(.int (0 : Int32)), (.int (0 : Int32))])) _
    refine XS.icmpYes X0.here hx rfl (pc0 := 5) (pc' := 21) rfl (hb hby d9_5) rfl (flt (by decide)).2.1 (by decide) (by decide) ?_
    exact kt
  have C330 : ∀ t, Steps p.tables e below (s₁.setTop (mkF m 21 #[.val (.ref y1), .val (.int (0 : Int32))] [])) t → Steps p.tables e below (s₁.setTop (mkF m 0 #[.val (.ref y1), .unset] [])) t := (fun t k => (S329 t k))
  obtain ⟨fs, hr, hrun, hended, hW, hsame⟩ := X0.leave (v := none) (fun _ => rfl)
  refine ⟨_, _, pre0 _ (C330 _ ?_), hrun, hended, _, _, rfl, ?_, ⟨_, rfl⟩, hW, hsame.mono (by decide) (by decide)⟩
  · exact X0.returnOut hx Bd.returns (hb hby d9_21) hr
  · show Q_rm9 Z y1 h0 n0 _ s₁.heap _
    rw [e0]
    exact ⟨rfl, N0, rfl⟩
theorem ef_rm10 (m : MethodId) (x0 : Int32) (x1 : Int32) : entryFrame m #[(.int x0), (.int x1)] 2 = mkF m 0 #[.val (.int x0), .val (.int x1)] [] := by first | (simp [entryFrame, mkF, argsToLocals, Value.category]; done) | rfl
def Q_rm10 (Z : State) (p1 : Int32) (p2 : Int32) (h0 : Heap) (n0 : Nat) (v : Option Value) (h : Heap) (L : List Loc) : Prop := v = some (.long (own_rad p1 p2)) ∧ Fr n0 L ∧ h = h0
set_option maxRecDepth 65536 in
set_option maxHeartbeats 40000000 in
theorem rm10 (l : Launch) (Z : State) (a0 : Array Value) (hw : ∀ d ∈ tables_1, d.before a0 Z = true) (ws : List Jvm.Cond) (p1 : Int32) (p2 : Int32) (h0 : Heap) (n0 : Nat) (Z0 : n0 ≤ h0.size)  :
    MetFree l (⟨"com/example/joinery/joinery/KeyGridFitsPinLaw", "radix", "(II)J"⟩ : MethodName) (head1 (Jvm.Cond.code (⟨"com/example/joinery/joinery/KeyGridFitsPinLaw", "radix", "(II)J"⟩ : MethodName) method_3_code 2 (some .long) :: ws) ({ frames := 0, cells := 0, slots := 0, locals := 0 } : Room)) (fun a U => a = #[(.int p1), (.int p2)] ∧ Z.Warmed39 U.vm ∧ U.heap = h0) (fun _ _ _ _ _ => True) (fun _ U o U' => ∃ v L, o = .returned v ∧ Q_rm10 Z p1 p2 h0 n0 v U'.heap L ∧ FrameEnd U o U' L ({ frames := 0, cells := 0, slots := 0, locals := 0 } : Room).cells ({ frames := 0, cells := 0, slots := 0, locals := 0 } : Room).slots) := by
  refine MetFree.of_bodySF (plainFor_of_name pn_2) hisR ?_
  intro p e s m args below meth c s₁ Bd hml0 hP hK
  obtain ⟨rfl, hZ, hh⟩ := hP
  have hx := Bd.exec
  have hby := Bd.bytes
  have hml : c.maxLocals = 2 := hml0
  have hown : s.vm.findClass "com/example/joinery/joinery/KeyGridFitsPinLaw" = some m.cls := findClass_of_methodNamed Bd.named
  have hnm := (name_of_methodNamed Bd.named Bd.method).1
  have X0 : Stand p l e ({ frames := 0, cells := 0, slots := 0, locals := 0 } : Room) s m #[(.int p1), (.int p2)] below meth c s₁ [] 0 0 := Stand.of_body Bd
  have e0 : s₁.heap = h0 := by rw [← hh, Bd.state]; rfl
  have N0 := Fr.nil n0
  have pre0 : ∀ t, Steps p.tables e below (s₁.setTop (mkF m 0 #[.val (.int p1), .val (.int p2)] [])) t → Steps p.tables e below (s₁.setTop (entryFrame m #[(.int p1), (.int p2)] 2)) t := fun t k => castTop (ef_rm10 m p1 p2) k
  have S331 : ∀ t, Steps p.tables e below (s₁.setTop (mkF m 3 #[.val (.int p1), .val (.int p2)] [(.int (p2 &&& (2 : Int32)))])) t → Steps p.tables e below (s₁.setTop (mkF m 0 #[.val (.int p1), .val (.int p2)] [])) t := by
    intro t kt
    show Steps p.tables e below (s₁.setTop (mkF m 0 #[.val (.int p1), .val (.int p2)] [])) _
    refine XS.iloadN X0.here hx rfl (hb hby d10_0) rfl ?_
    show Steps p.tables e below (s₁.setTop (mkF m 1 #[.val (.int p1), .val (.int p2)] [(.int p2)])) _
    refine XS.iconst X0.here hx rfl (hb hby d10_1) ?_
    show Steps p.tables e below (s₁.setTop (mkF m 2 #[.val (.int p1), .val (.int p2)] [(.int (2 : Int32)), (.int p2)])) _
    refine XS.iand X0.here hx rfl (hb hby d10_2) rfl ?_
    exact kt
  by_cases hc332 : (p2 &&& (2 : Int32)) = (0 : Int32)
  · have S333 : ∀ t, Steps p.tables e below (s₁.setTop (mkF m 15 #[.val (.int p1), .val (.int p2)] [(.int (p2 &&& (1 : Int32))), (.long (p1.toInt64))])) t → Steps p.tables e below (s₁.setTop (mkF m 3 #[.val (.int p1), .val (.int p2)] [(.int (p2 &&& (2 : Int32)))])) t := by
      intro t kt
      show Steps p.tables e below (s₁.setTop (mkF m 3 #[.val (.int p1), .val (.int p2)] [(.int (p2 &&& (2 : Int32)))])) _
      refine XS.ifYes X0.here hx rfl (pc0 := 3) (pc' := 10) rfl (hb hby d10_3) rfl ((if0 _ _).trans (teq hc332).1) (by decide) (by decide) ?_
      show Steps p.tables e below (s₁.setTop (mkF m 10 #[.val (.int p1), .val (.int p2)] [])) _
      refine XS.iloadN X0.here hx rfl (hb hby d10_10) rfl ?_
      show Steps p.tables e below (s₁.setTop (mkF m 11 #[.val (.int p1), .val (.int p2)] [(.int p1)])) _
      refine XS.i2l X0.here hx rfl (hb hby d10_11) rfl ?_
      show Steps p.tables e below (s₁.setTop (mkF m 12 #[.val (.int p1), .val (.int p2)] [(.long (p1.toInt64))])) _
      refine XS.iloadN X0.here hx rfl (hb hby d10_12) rfl ?_
      show Steps p.tables e below (s₁.setTop (mkF m 13 #[.val (.int p1), .val (.int p2)] [(.int p2), (.long (p1.toInt64))])) _
      refine XS.iconst X0.here hx rfl (hb hby d10_13) ?_
      show Steps p.tables e below (s₁.setTop (mkF m 14 #[.val (.int p1), .val (.int p2)] [(.int (1 : Int32)), (.int p2), (.long (p1.toInt64))])) _
      refine XS.iand X0.here hx rfl (hb hby d10_14) rfl ?_
      exact kt
    by_cases hc334 : (p2 &&& (1 : Int32)) = (0 : Int32)
    · have S335 : ∀ t, Steps p.tables e below (s₁.setTop (mkF m 24 #[.val (.int p1), .val (.int p2)] [(.long ((p1.toInt64) + (0 : Int64)))])) t → Steps p.tables e below (s₁.setTop (mkF m 15 #[.val (.int p1), .val (.int p2)] [(.int (p2 &&& (1 : Int32))), (.long (p1.toInt64))])) t := by
        intro t kt
        show Steps p.tables e below (s₁.setTop (mkF m 15 #[.val (.int p1), .val (.int p2)] [(.int (p2 &&& (1 : Int32))), (.long (p1.toInt64))])) _
        refine XS.ifYes X0.here hx rfl (pc0 := 15) (pc' := 22) rfl (hb hby d10_15) rfl ((if0 _ _).trans (teq hc334).1) (by decide) (by decide) ?_
        show Steps p.tables e below (s₁.setTop (mkF m 22 #[.val (.int p1), .val (.int p2)] [(.long (p1.toInt64))])) _
        refine XS.lconst X0.here hx rfl (hb hby d10_22) ?_
        show Steps p.tables e below (s₁.setTop (mkF m 23 #[.val (.int p1), .val (.int p2)] [(.long (0 : Int64)), (.long (p1.toInt64))])) _
        refine XS.ladd X0.here hx rfl (hb hby d10_23) rfl ?_
        exact kt
      have C336 : ∀ t, Steps p.tables e below (s₁.setTop (mkF m 24 #[.val (.int p1), .val (.int p2)] [(.long ((p1.toInt64) + (0 : Int64)))])) t → Steps p.tables e below (s₁.setTop (mkF m 0 #[.val (.int p1), .val (.int p2)] [])) t := (fun t k => (S331 t (S333 t (S335 t k))))
      obtain ⟨fs, hr, hrun, hended, hW, hsame⟩ := X0.leave (v := some (.long ((p1.toInt64) + (0 : Int64)))) (fun h => by rw [Bd.returns] at h; cases h)
      refine ⟨_, _, pre0 _ (C336 _ ?_), hrun, hended, _, _, rfl, ?_, ⟨_, rfl⟩, hW, hsame.mono (by decide) (by decide)⟩
      · exact retOut X0 hx (t := .long) Bd.returns rfl (Or.inr (Or.inl ⟨rfl, rfl, _, rfl⟩)) (hb hby d10_24) hr
      · show Q_rm10 Z p1 p2 h0 n0 _ s₁.heap _
        rw [e0]
        exact ⟨by simp only [own_rad, if_pos hc332, if_pos hc334], N0, rfl⟩
    · have S337 : ∀ t, Steps p.tables e below (s₁.setTop (mkF m 24 #[.val (.int p1), .val (.int p2)] [(.long ((p1.toInt64) + (1 : Int64)))])) t → Steps p.tables e below (s₁.setTop (mkF m 15 #[.val (.int p1), .val (.int p2)] [(.int (p2 &&& (1 : Int32))), (.long (p1.toInt64))])) t := by
        intro t kt
        show Steps p.tables e below (s₁.setTop (mkF m 15 #[.val (.int p1), .val (.int p2)] [(.int (p2 &&& (1 : Int32))), (.long (p1.toInt64))])) _
        refine XS.ifNo X0.here hx rfl (hb hby d10_15) rfl ((if0 _ _).trans (feq hc334).1) ?_
        show Steps p.tables e below (s₁.setTop (mkF m 18 #[.val (.int p1), .val (.int p2)] [(.long (p1.toInt64))])) _
        refine XS.lconst X0.here hx rfl (hb hby d10_18) ?_
        show Steps p.tables e below (s₁.setTop (mkF m 19 #[.val (.int p1), .val (.int p2)] [(.long (1 : Int64)), (.long (p1.toInt64))])) _
        refine XS.goto X0.here hx rfl (pc0 := 19) (pc' := 23) rfl (hb hby d10_19) (by decide) (by decide) ?_
        show Steps p.tables e below (s₁.setTop (mkF m 23 #[.val (.int p1), .val (.int p2)] [(.long (1 : Int64)), (.long (p1.toInt64))])) _
        refine XS.ladd X0.here hx rfl (hb hby d10_23) rfl ?_
        exact kt
      have C338 : ∀ t, Steps p.tables e below (s₁.setTop (mkF m 24 #[.val (.int p1), .val (.int p2)] [(.long ((p1.toInt64) + (1 : Int64)))])) t → Steps p.tables e below (s₁.setTop (mkF m 0 #[.val (.int p1), .val (.int p2)] [])) t := (fun t k => (S331 t (S333 t (S337 t k))))
      obtain ⟨fs, hr, hrun, hended, hW, hsame⟩ := X0.leave (v := some (.long ((p1.toInt64) + (1 : Int64)))) (fun h => by rw [Bd.returns] at h; cases h)
      refine ⟨_, _, pre0 _ (C338 _ ?_), hrun, hended, _, _, rfl, ?_, ⟨_, rfl⟩, hW, hsame.mono (by decide) (by decide)⟩
      · exact retOut X0 hx (t := .long) Bd.returns rfl (Or.inr (Or.inl ⟨rfl, rfl, _, rfl⟩)) (hb hby d10_24) hr
      · show Q_rm10 Z p1 p2 h0 n0 _ s₁.heap _
        rw [e0]
        exact ⟨by simp only [own_rad, if_pos hc332, if_neg hc334], N0, rfl⟩
  · have S339 : ∀ t, Steps p.tables e below (s₁.setTop (mkF m 9 #[.val (.int p1), .val (.int p2)] [(.long (2 : Int64))])) t → Steps p.tables e below (s₁.setTop (mkF m 3 #[.val (.int p1), .val (.int p2)] [(.int (p2 &&& (2 : Int32)))])) t := by
      intro t kt
      show Steps p.tables e below (s₁.setTop (mkF m 3 #[.val (.int p1), .val (.int p2)] [(.int (p2 &&& (2 : Int32)))])) _
      refine XS.ifNo X0.here hx rfl (hb hby d10_3) rfl ((if0 _ _).trans (feq hc332).1) ?_
      show Steps p.tables e below (s₁.setTop (mkF m 6 #[.val (.int p1), .val (.int p2)] [])) _
      refine X0.ldc2Long hx hown (mvT hZ (hw _ (List.mem_of_getElem? (i := 109) rfl))) (g := (mkF m 6 #[.val (.int p1), .val (.int p2)] [])) rfl (hb hby d10_6) _ ?_
      exact kt
    have C340 : ∀ t, Steps p.tables e below (s₁.setTop (mkF m 9 #[.val (.int p1), .val (.int p2)] [(.long (2 : Int64))])) t → Steps p.tables e below (s₁.setTop (mkF m 0 #[.val (.int p1), .val (.int p2)] [])) t := (fun t k => (S331 t (S339 t k)))
    obtain ⟨fs, hr, hrun, hended, hW, hsame⟩ := X0.leave (v := some (.long (2 : Int64))) (fun h => by rw [Bd.returns] at h; cases h)
    refine ⟨_, _, pre0 _ (C340 _ ?_), hrun, hended, _, _, rfl, ?_, ⟨_, rfl⟩, hW, hsame.mono (by decide) (by decide)⟩
    · exact retOut X0 hx (t := .long) Bd.returns rfl (Or.inr (Or.inl ⟨rfl, rfl, _, rfl⟩)) (hb hby d10_9) hr
    · show Q_rm10 Z p1 p2 h0 n0 _ s₁.heap _
      rw [e0]
      exact ⟨by simp only [own_rad, if_neg hc332], N0, rfl⟩

def own_giv (keys z : Int32) : Int64 := keys.toInt64 + (if z = (0 : Int32) then (0 : Int64) else (1 : Int64))
theorem own_givE {keys z w : Int32} (hk : 0 ≤ keys.toInt ∧ keys.toInt ≤ 65535) (hw : w = if z = (0 : Int32) then (0 : Int32) else (1 : Int32)) : (keys + w).toInt64 = own_giv keys z := by
  unfold own_giv
  rw [own_radI hk (by rw [hw]; split; exact Or.inl rfl; exact Or.inr rfl), hw]
  split <;> rfl
theorem ef_rm8 (m : MethodId) (x0 : Addr) (x1 : Int32) (x2 : Int32) (x3 : Addr) (x4 : Addr) : entryFrame m #[(.ref x0), (.int x1), (.int x2), (.ref x3), (.ref x4)] 6 = mkF m 0 #[.val (.ref x0), .val (.int x1), .val (.int x2), .val (.ref x3), .val (.ref x4), .unset] [] := by first | (simp [entryFrame, mkF, argsToLocals, Value.category]; done) | rfl
def Q_rm8 (Z : State) (a1 : Addr) (y1 : Addr) (p1 : Int32) (z1 : Int32) (k : Nat) (cv : Nat → Int64) (h0 : Heap) (n0 : Nat) (v : Option Value) (h : Heap) (L : List Loc) : Prop := v = none ∧ Fr n0 L ∧ n0 ≤ h.size ∧ own_KG Z h n0 a1 y1 k (own_put cv k (own_giv p1 z1 * cv (k + 1)))
set_option maxRecDepth 65536 in
set_option maxHeartbeats 40000000 in
theorem rm8 (l : Launch) (Z : State) (a0 : Array Value) (hw : ∀ d ∈ tables_1, d.before a0 Z = true) (ws : List Jvm.Cond) (a1 : Addr) (y1 : Addr) (p1 : Int32) (z1 : Int32) (k : Nat) (cv : Nat → Int64) (h0 : Heap) (n0 : Nat) (Z0 : n0 ≤ h0.size) (H : own_KG Z h0 n0 a1 y1 (k + 1) cv) (hk : k < 3) (hp : 0 ≤ p1.toInt ∧ p1.toInt ≤ 65535) :
    MetFree l (⟨"com/example/joinery/joinery/KeyGrid", "give", "(IZ[I[I)V"⟩ : MethodName) (head1 (Jvm.Cond.code (⟨"com/example/joinery/joinery/KeyGrid", "give", "(IZ[I[I)V"⟩ : MethodName) prog_21_method_10_code 6 none :: ws) ({ frames := 1, cells := 0, slots := 0, locals := 13 } : Room)) (fun a U => a = #[(.ref a1), (.int p1), (.int z1), (.ref y1), (.ref y1)] ∧ Z.Warmed39 U.vm ∧ U.heap = h0) (fun _ _ _ _ _ => True) (fun _ U o U' => ∃ v L, o = .returned v ∧ Q_rm8 Z a1 y1 p1 z1 k cv h0 n0 v U'.heap L ∧ FrameEnd U o U' L ({ frames := 1, cells := 0, slots := 0, locals := 13 } : Room).cells ({ frames := 1, cells := 0, slots := 0, locals := 13 } : Room).slots) := by
  refine MetFree.of_bodySF (plainFor_of_name pn_0) hisR ?_
  intro p e s m args below meth c s₁ Bd hml0 hP hK
  obtain ⟨rfl, hZ, hh⟩ := hP
  have hx := Bd.exec
  have hby := Bd.bytes
  have hml : c.maxLocals = 6 := hml0
  have hown : s.vm.findClass "com/example/joinery/joinery/KeyGrid" = some m.cls := findClass_of_methodNamed Bd.named
  have hnm := (name_of_methodNamed Bd.named Bd.method).1
  have X0 : Stand p l e ({ frames := 1, cells := 0, slots := 0, locals := 13 } : Room) s m #[(.ref a1), (.int p1), (.int z1), (.ref y1), (.ref y1)] below meth c s₁ [] 0 0 := Stand.of_body Bd
  have e0 : s₁.heap = h0 := by rw [← hh, Bd.state]; rfl
  have N0 := Fr.nil n0
  have pre0 : ∀ t, Steps p.tables e below (s₁.setTop (mkF m 0 #[.val (.ref a1), .val (.int p1), .val (.int z1), .val (.ref y1), .val (.ref y1), .unset] [])) t → Steps p.tables e below (s₁.setTop (entryFrame m #[(.ref a1), (.int p1), (.int z1), (.ref y1), (.ref y1)] 6)) t := fun t k => castTop (ef_rm8 m a1 p1 z1 y1 y1) k
  obtain ⟨r341, lk341, ap341, ak341, cf341, ld341, rd341, f0_341, f1_341, f2_341, f3_341, ⟨lt0_341, lt1_341, lt2_341, lt3_341, lt4_341, lt5_341, lt6_341, lt7_341, lt8_341⟩, F342, F343, F344, F345, F346, F347, F348, F349, F350, F351, F352, F353, F354, F355, F356, F357, F358, F359, F360⟩ := H
  have g_r341 : n0 ≤ r341 := Nat.le_trans lt0_341 (Nat.le_of_lt lt1_341)
  have g_lk341 : n0 ≤ lk341 := Nat.le_trans g_r341 (Nat.le_of_lt lt2_341)
  have g_ap341 : n0 ≤ ap341 := Nat.le_trans g_lk341 (Nat.le_of_lt lt3_341)
  have g_ak341 : n0 ≤ ak341 := Nat.le_trans g_ap341 (Nat.le_of_lt lt4_341)
  have g_cf341 : n0 ≤ cf341 := Nat.le_trans g_ak341 (Nat.le_of_lt lt5_341)
  have g_ld341 : n0 ≤ ld341 := Nat.le_trans g_cf341 (Nat.le_of_lt lt6_341)
  have g_rd341 : n0 ≤ rd341 := Nat.le_trans g_ld341 (Nat.le_of_lt lt7_341)
  have g_y1 : n0 ≤ y1 := Nat.le_trans g_rd341 (Nat.le_of_lt lt8_341)
  have S361 : ∀ t, Steps p.tables e below (s₁.setTop (mkF m 1 #[.val (.ref a1), .val (.int p1), .val (.int z1), .val (.ref y1), .val (.ref y1), .unset] [(.int z1)])) t → Steps p.tables e below (s₁.setTop (mkF m 0 #[.val (.ref a1), .val (.int p1), .val (.int z1), .val (.ref y1), .val (.ref y1), .unset] [])) t := by
    intro t kt
    show Steps p.tables e below (s₁.setTop (mkF m 0 #[.val (.ref a1), .val (.int p1), .val (.int z1), .val (.ref y1), .val (.ref y1), .unset] [])) _
    refine XS.iloadN X0.here hx rfl (hb hby d8_0) rfl ?_
    exact kt
  by_cases hc362 : z1 = (0 : Int32)
  · have S363 : ∀ t, Steps p.tables e below (s₁.setTop (mkF m 5 #[.val (.ref a1), .val (.int p1), .val (.int z1), .val (.ref y1), .val (.ref y1), .unset] [(.ref y1)])) t → Steps p.tables e below (s₁.setTop (mkF m 1 #[.val (.ref a1), .val (.int p1), .val (.int z1), .val (.ref y1), .val (.ref y1), .unset] [(.int z1)])) t := by
      intro t kt
      show Steps p.tables e below (s₁.setTop (mkF m 1 #[.val (.ref a1), .val (.int p1), .val (.int z1), .val (.ref y1), .val (.ref y1), .unset] [(.int z1)])) _
      refine XS.ifNo X0.here hx rfl (hb hby d8_1) rfl ((if0 _ _).trans (teq hc362).2) ?_
      show Steps p.tables e below (s₁.setTop (mkF m 4 #[.val (.ref a1), .val (.int p1), .val (.int z1), .val (.ref y1), .val (.ref y1), .unset] [])) _
      refine XS.aloadN X0.here hx rfl (hb hby d8_4) rfl rfl ?_
      exact kt
    obtain ⟨_, _, ⟨T364, L364, k364, n364⟩, -, X364, ⟨Lc364, hQ364, l364, y364, z364⟩, st364⟩ := Jvm.LawKit.callS X0 hx (y := (⟨"com/example/joinery/joinery/KeyGrid", "lower", "([I)V"⟩ : MethodName)) hown (mvT hZ (hw _ (List.mem_of_getElem? (i := 90) rfl))) (mvT hZ (hw _ (List.mem_of_getElem? (i := 91) rfl))) (mvT hZ (hw _ (List.mem_of_getElem? (i := 4) rfl))) (mvT hZ (hw _ (List.mem_of_getElem? (i := 92) rfl))) (by decide) (backOf (W := 0) (rm9 l Z a0 hw [] y1 h0 n0 Z0 F360) hZ (hw _ (List.mem_of_getElem? (i := 92) rfl)) (hw _ (List.mem_of_getElem? (i := 4) rfl)) (by decide) (by decide)) (g := (mkF m 5 #[.val (.ref a1), .val (.int p1), .val (.int z1), .val (.ref y1), .val (.ref y1), .unset] [(.ref y1)])) rfl (by rw [hml]; rfl) (argsL := [(.ref y1)]) (rest := []) (lenOf pd_4 rfl) rfl (by show 2 * 0 + _ ≤ _; exact Nat.le_of_eq rfl) (hb hby d8_5) (fun _ _ => ⟨rfl, e0, (by decide : 0 + 0 ≤ _), (by decide : 0 + 0 ≤ _)⟩)
    dsimp only [Pt.U, Pt.locs, Pt.cells, Pt.slots] at X364 l364 y364 z364 st364 hQ364
    subst l364 y364 z364
    obtain ⟨rfl, N364q, e364⟩ := hQ364
    have N364 := Fr.app N0 N364q
    have S365 : ∀ t, Steps p.tables e below (T364.setTop (mkF m 10 #[.val (.ref a1), .val (.int p1), .val (.int z1), .val (.ref y1), .val (.ref y1), .unset] [(.ref y1)])) t → Steps p.tables e below (T364.setTop (mkF m 8 #[.val (.ref a1), .val (.int p1), .val (.int z1), .val (.ref y1), .val (.ref y1), .unset] [])) t := by
      intro t kt
      show Steps p.tables e below (T364.setTop (mkF m 8 #[.val (.ref a1), .val (.int p1), .val (.int z1), .val (.ref y1), .val (.ref y1), .unset] [])) _
      refine XS.aload X364.here hx rfl (hb hby d8_8) rfl rfl ?_
      exact kt
    obtain ⟨_, _, ⟨T366, L366, k366, n366⟩, -, X366, ⟨Lc366, hQ366, l366, y366, z366⟩, st366⟩ := Jvm.LawKit.callS X364 hx (y := (⟨"com/example/joinery/joinery/KeyGrid", "lower", "([I)V"⟩ : MethodName)) hown (mvT hZ (hw _ (List.mem_of_getElem? (i := 90) rfl))) (mvT hZ (hw _ (List.mem_of_getElem? (i := 91) rfl))) (mvT hZ (hw _ (List.mem_of_getElem? (i := 4) rfl))) (mvT hZ (hw _ (List.mem_of_getElem? (i := 92) rfl))) (by decide) (backOf (W := 0) (rm9 l Z a0 hw [] y1 h0 n0 Z0 F360) hZ (hw _ (List.mem_of_getElem? (i := 92) rfl)) (hw _ (List.mem_of_getElem? (i := 4) rfl)) (by decide) (by decide)) (g := (mkF m 10 #[.val (.ref a1), .val (.int p1), .val (.int z1), .val (.ref y1), .val (.ref y1), .unset] [(.ref y1)])) rfl (by rw [hml]; rfl) (argsL := [(.ref y1)]) (rest := []) (lenOf pd_4 rfl) rfl (by show 2 * 0 + _ ≤ _; exact Nat.le_of_eq rfl) (hb hby d8_10) (fun _ _ => ⟨rfl, e364, (by decide : 0 + 0 ≤ _), (by decide : 0 + 0 ≤ _)⟩)
    dsimp only [Pt.U, Pt.locs, Pt.cells, Pt.slots] at X366 l366 y366 z366 st366 hQ366
    subst l366 y366 z366
    obtain ⟨rfl, N366q, e366⟩ := hQ366
    have N366 := Fr.app N364 N366q
    have S367 : ∀ t, Steps p.tables e below (T366.setTop (mkF m 15 #[.val (.ref a1), .val (.int p1), .val (.int z1), .val (.ref y1), .val (.ref y1), .unset] [(.ref a1), (.ref a1)])) t → Steps p.tables e below (T366.setTop (mkF m 13 #[.val (.ref a1), .val (.int p1), .val (.int z1), .val (.ref y1), .val (.ref y1), .unset] [])) t := by
      intro t kt
      show Steps p.tables e below (T366.setTop (mkF m 13 #[.val (.ref a1), .val (.int p1), .val (.int z1), .val (.ref y1), .val (.ref y1), .unset] [])) _
      refine XS.aloadN X366.here hx rfl (hb hby d8_13) rfl rfl ?_
      show Steps p.tables e below (T366.setTop (mkF m 14 #[.val (.ref a1), .val (.int p1), .val (.int z1), .val (.ref y1), .val (.ref y1), .unset] [(.ref a1)])) _
      refine XS.dup X366.here hx rfl (hb hby d8_14) rfl rfl ?_
      exact kt
    obtain ⟨T368, X368, e368, st368⟩ := getF X366 hx hZ hown (host := "") (Or.inl (hw _ (List.mem_of_getElem? (i := 73) rfl))) Via.refl e366 F344 (g := (mkF m 15 #[.val (.ref a1), .val (.int p1), .val (.int z1), .val (.ref y1), .val (.ref y1), .unset] [(.ref a1), (.ref a1)])) rfl rfl (hb hby d8_15)
    have S369 : ∀ t, Steps p.tables e below (T368.setTop (mkF m 20 #[.val (.ref a1), .val (.int p1), .val (.int z1), .val (.ref y1), .val (.ref y1), .unset] [(.int ((Int32.ofNat (k + 1)) - (1 : Int32))), (.ref a1)])) t → Steps p.tables e below (T368.setTop (mkF m 18 #[.val (.ref a1), .val (.int p1), .val (.int z1), .val (.ref y1), .val (.ref y1), .unset] [(.int (Int32.ofNat (k + 1))), (.ref a1)])) t := by
      intro t kt
      show Steps p.tables e below (T368.setTop (mkF m 18 #[.val (.ref a1), .val (.int p1), .val (.int z1), .val (.ref y1), .val (.ref y1), .unset] [(.int (Int32.ofNat (k + 1))), (.ref a1)])) _
      refine XS.iconst X368.here hx rfl (hb hby d8_18) ?_
      show Steps p.tables e below (T368.setTop (mkF m 19 #[.val (.ref a1), .val (.int p1), .val (.int z1), .val (.ref y1), .val (.ref y1), .unset] [(.int (1 : Int32)), (.int (Int32.ofNat (k + 1))), (.ref a1)])) _
      refine XS.isub X368.here hx rfl (hb hby d8_19) rfl ?_
      exact kt
    have S370 : ∀ t, Steps p.tables e below (T368.setTop (mkF m 20 #[.val (.ref a1), .val (.int p1), .val (.int z1), .val (.ref y1), .val (.ref y1), .unset] [(.int (Int32.ofNat k)), (.ref a1)])) t → Steps p.tables e below (T368.setTop (mkF m 20 #[.val (.ref a1), .val (.int p1), .val (.int z1), .val (.ref y1), .val (.ref y1), .unset] [(.int ((Int32.ofNat (k + 1)) - (1 : Int32))), (.ref a1)])) t := fun t k => by rw [(own_pred hk)]; exact k
    have S371 : ∀ t, Steps p.tables e below (T368.setTop (mkF m 21 #[.val (.ref a1), .val (.int p1), .val (.int z1), .val (.ref y1), .val (.ref y1), .unset] [(.int (Int32.ofNat k)), (.ref a1), (.int (Int32.ofNat k))])) t → Steps p.tables e below (T368.setTop (mkF m 20 #[.val (.ref a1), .val (.int p1), .val (.int z1), .val (.ref y1), .val (.ref y1), .unset] [(.int (Int32.ofNat k)), (.ref a1)])) t := by
      intro t kt
      show Steps p.tables e below (T368.setTop (mkF m 20 #[.val (.ref a1), .val (.int p1), .val (.int z1), .val (.ref y1), .val (.ref y1), .unset] [(.int (Int32.ofNat k)), (.ref a1)])) _
      refine XS.dupX1 X368.here hx rfl (hb hby d8_20) rfl rfl rfl ?_
      exact kt
    obtain ⟨T372, h372, X372, e372, W372, st372⟩ := putF X368 hx hZ hown (host := "") (Or.inl (hw _ (List.mem_of_getElem? (i := 73) rfl))) Via.refl e368 F344 F342 (Or.inl (hw _ (List.mem_of_getElem? (i := 74) rfl))) (hw _ (List.mem_of_getElem? (i := 3) rfl)) (ty := .int) (by decide) rfl rfl (g := (mkF m 21 #[.val (.ref a1), .val (.int p1), .val (.int z1), .val (.ref y1), .val (.ref y1), .unset] [(.int (Int32.ofNat k)), (.ref a1), (.int (Int32.ofNat k))])) rfl rfl (hb hby d8_21)
    have z373 : n0 ≤ h372.size := Nat.le_trans Z0 (Keep.of_wr W372).1
    have N374 := Fr.snoc X372 N366 lt0_341
    have Fw372 := F344.same W372
    have S375 : ∀ t, Steps p.tables e below (T372.setTop (mkF m 27 #[.val (.ref a1), .val (.int p1), .val (.int z1), .val (.ref y1), .val (.ref y1), .val (.int (Int32.ofNat k))] [(.ref a1)])) t → Steps p.tables e below (T372.setTop (mkF m 24 #[.val (.ref a1), .val (.int p1), .val (.int z1), .val (.ref y1), .val (.ref y1), .unset] [(.int (Int32.ofNat k))])) t := by
      intro t kt
      show Steps p.tables e below (T372.setTop (mkF m 24 #[.val (.ref a1), .val (.int p1), .val (.int z1), .val (.ref y1), .val (.ref y1), .unset] [(.int (Int32.ofNat k))])) _
      refine XS.istore X372.here hx rfl (hb hby d8_24) rfl (l' := #[.val (.ref a1), .val (.int p1), .val (.int z1), .val (.ref y1), .val (.ref y1), .val (.int (Int32.ofNat k))]) rfl ?_
      show Steps p.tables e below (T372.setTop (mkF m 26 #[.val (.ref a1), .val (.int p1), .val (.int z1), .val (.ref y1), .val (.ref y1), .val (.int (Int32.ofNat k))] [])) _
      refine XS.aloadN X372.here hx rfl (hb hby d8_26) rfl rfl ?_
      exact kt
    have f376 := (F345.other W372 (Or.inr (slot_ne (Or.inr (hw _ (List.mem_of_getElem? (i := 63) rfl))) (Or.inl (hw _ (List.mem_of_getElem? (i := 74) rfl))) (by decide) (t := (.array .int)) (t' := .int) (by decide) (by decide))))
    obtain ⟨T377, X377, e377, st377⟩ := getF X372 hx hZ hown (host := "") (Or.inl (hw _ (List.mem_of_getElem? (i := 62) rfl))) Via.refl e372 f376 (g := (mkF m 27 #[.val (.ref a1), .val (.int p1), .val (.int z1), .val (.ref y1), .val (.ref y1), .val (.int (Int32.ofNat k))] [(.ref a1)])) rfl rfl (hb hby d8_27)
    have S378 : ∀ t, Steps p.tables e below (T377.setTop (mkF m 34 #[.val (.ref a1), .val (.int p1), .val (.int z1), .val (.ref y1), .val (.ref y1), .val (.int (Int32.ofNat k))] [(.int z1), (.int p1), (.int (Int32.ofNat k)), (.ref r341)])) t → Steps p.tables e below (T377.setTop (mkF m 30 #[.val (.ref a1), .val (.int p1), .val (.int z1), .val (.ref y1), .val (.ref y1), .val (.int (Int32.ofNat k))] [(.ref r341)])) t := by
      intro t kt
      show Steps p.tables e below (T377.setTop (mkF m 30 #[.val (.ref a1), .val (.int p1), .val (.int z1), .val (.ref y1), .val (.ref y1), .val (.int (Int32.ofNat k))] [(.ref r341)])) _
      refine XS.iload X377.here hx rfl (hb hby d8_30) rfl ?_
      show Steps p.tables e below (T377.setTop (mkF m 32 #[.val (.ref a1), .val (.int p1), .val (.int z1), .val (.ref y1), .val (.ref y1), .val (.int (Int32.ofNat k))] [(.int (Int32.ofNat k)), (.ref r341)])) _
      refine XS.iloadN X377.here hx rfl (hb hby d8_32) rfl ?_
      show Steps p.tables e below (T377.setTop (mkF m 33 #[.val (.ref a1), .val (.int p1), .val (.int z1), .val (.ref y1), .val (.ref y1), .val (.int (Int32.ofNat k))] [(.int p1), (.int (Int32.ofNat k)), (.ref r341)])) _
      refine XS.iloadN X377.here hx rfl (hb hby d8_33) rfl ?_
      exact kt
    obtain ⟨v381, hv381⟩ : ∃ z : Int32, z = (if z1 = (0 : Int32) then (0 : Int32) else (1 : Int32)) := ⟨_, rfl⟩
    have S380 : ∀ t, Steps p.tables e below (T377.setTop (mkF m 42 #[.val (.ref a1), .val (.int p1), .val (.int z1), .val (.ref y1), .val (.ref y1), .val (.int (Int32.ofNat k))] [(.int v381), (.int p1), (.int (Int32.ofNat k)), (.ref r341)])) t → Steps p.tables e below (T377.setTop (mkF m 34 #[.val (.ref a1), .val (.int p1), .val (.int z1), .val (.ref y1), .val (.ref y1), .val (.int (Int32.ofNat k))] [(.int z1), (.int p1), (.int (Int32.ofNat k)), (.ref r341)])) t := by
      intro t kt
      subst hv381
      by_cases hc379 : z1 = (0 : Int32)
      · simp only [if_pos hc379] at kt
        show Steps p.tables e below (T377.setTop (mkF m 34 #[.val (.ref a1), .val (.int p1), .val (.int z1), .val (.ref y1), .val (.ref y1), .val (.int (Int32.ofNat k))] [(.int z1), (.int p1), (.int (Int32.ofNat k)), (.ref r341)])) _
        refine XS.ifYes X377.here hx rfl (pc0 := 34) (pc' := 41) rfl (hb hby d8_34) rfl ((if0 _ _).trans (teq hc379).1) (by decide) (by decide) ?_
        show Steps p.tables e below (T377.setTop (mkF m 41 #[.val (.ref a1), .val (.int p1), .val (.int z1), .val (.ref y1), .val (.ref y1), .val (.int (Int32.ofNat k))] [(.int p1), (.int (Int32.ofNat k)), (.ref r341)])) _
        refine XS.iconst X377.here hx rfl (hb hby d8_41) ?_
        exact kt
      · simp only [if_neg hc379] at kt
        show Steps p.tables e below (T377.setTop (mkF m 34 #[.val (.ref a1), .val (.int p1), .val (.int z1), .val (.ref y1), .val (.ref y1), .val (.int (Int32.ofNat k))] [(.int z1), (.int p1), (.int (Int32.ofNat k)), (.ref r341)])) _
        refine XS.ifNo X377.here hx rfl (hb hby d8_34) rfl ((if0 _ _).trans (feq hc379).1) ?_
        show Steps p.tables e below (T377.setTop (mkF m 37 #[.val (.ref a1), .val (.int p1), .val (.int z1), .val (.ref y1), .val (.ref y1), .val (.int (Int32.ofNat k))] [(.int p1), (.int (Int32.ofNat k)), (.ref r341)])) _
        refine XS.iconst X377.here hx rfl (hb hby d8_37) ?_
        show Steps p.tables e below (T377.setTop (mkF m 38 #[.val (.ref a1), .val (.int p1), .val (.int z1), .val (.ref y1), .val (.ref y1), .val (.int (Int32.ofNat k))] [(.int (1 : Int32)), (.int p1), (.int (Int32.ofNat k)), (.ref r341)])) _
        refine XS.goto X377.here hx rfl (pc0 := 38) (pc' := 42) rfl (hb hby d8_38) (by decide) (by decide) ?_
        exact kt
    have S382 : ∀ t, Steps p.tables e below (T377.setTop (mkF m 43 #[.val (.ref a1), .val (.int p1), .val (.int z1), .val (.ref y1), .val (.ref y1), .val (.int (Int32.ofNat k))] [(.int (p1 + v381)), (.int (Int32.ofNat k)), (.ref r341)])) t → Steps p.tables e below (T377.setTop (mkF m 42 #[.val (.ref a1), .val (.int p1), .val (.int z1), .val (.ref y1), .val (.ref y1), .val (.int (Int32.ofNat k))] [(.int v381), (.int p1), (.int (Int32.ofNat k)), (.ref r341)])) t := by
      intro t kt
      show Steps p.tables e below (T377.setTop (mkF m 42 #[.val (.ref a1), .val (.int p1), .val (.int z1), .val (.ref y1), .val (.ref y1), .val (.int (Int32.ofNat k))] [(.int v381), (.int p1), (.int (Int32.ofNat k)), (.ref r341)])) _
      refine XS.iadd X377.here hx rfl (hb hby d8_42) rfl ?_
      exact kt
    have f383 := (F352.other W372 (Ne.symm (Nat.ne_of_lt lt1_341)))
    obtain ⟨T384, h384, X384, e384, W384, V384, st384⟩ := ArF.stI X377 hx hZ e377 f383 (i := k) (own_on (by omega)) (by omega) (g := (mkF m 43 #[.val (.ref a1), .val (.int p1), .val (.int z1), .val (.ref y1), .val (.ref y1), .val (.int (Int32.ofNat k))] [(.int (p1 + v381)), (.int (Int32.ofNat k)), (.ref r341)])) rfl rfl (hb hby d8_43)
    have z385 : n0 ≤ h384.size := Nat.le_trans z373 (Keep.of_wr W384).1
    have N386 := Fr.snoc X384 N374 g_r341
    have S387 : ∀ t, Steps p.tables e below (T384.setTop (mkF m 45 #[.val (.ref a1), .val (.int p1), .val (.int z1), .val (.ref y1), .val (.ref y1), .val (.int (Int32.ofNat k))] [(.ref a1)])) t → Steps p.tables e below (T384.setTop (mkF m 44 #[.val (.ref a1), .val (.int p1), .val (.int z1), .val (.ref y1), .val (.ref y1), .val (.int (Int32.ofNat k))] [])) t := by
      intro t kt
      show Steps p.tables e below (T384.setTop (mkF m 44 #[.val (.ref a1), .val (.int p1), .val (.int z1), .val (.ref y1), .val (.ref y1), .val (.int (Int32.ofNat k))] [])) _
      refine XS.aloadN X384.here hx rfl (hb hby d8_44) rfl rfl ?_
      exact kt
    have f388 := ((F346.other W372 (Or.inr (slot_ne (Or.inr (hw _ (List.mem_of_getElem? (i := 66) rfl))) (Or.inl (hw _ (List.mem_of_getElem? (i := 74) rfl))) (by decide) (t := (.array .boolean)) (t' := .int) (by decide) (by decide)))).other W384 (Or.inl (Nat.ne_of_lt lt1_341)))
    obtain ⟨T389, X389, e389, st389⟩ := getF X384 hx hZ hown (host := "") (Or.inl (hw _ (List.mem_of_getElem? (i := 65) rfl))) Via.refl e384 f388 (g := (mkF m 45 #[.val (.ref a1), .val (.int p1), .val (.int z1), .val (.ref y1), .val (.ref y1), .val (.int (Int32.ofNat k))] [(.ref a1)])) rfl rfl (hb hby d8_45)
    have S390 : ∀ t, Steps p.tables e below (T389.setTop (mkF m 51 #[.val (.ref a1), .val (.int p1), .val (.int z1), .val (.ref y1), .val (.ref y1), .val (.int (Int32.ofNat k))] [(.int z1), (.int (Int32.ofNat k)), (.ref lk341)])) t → Steps p.tables e below (T389.setTop (mkF m 48 #[.val (.ref a1), .val (.int p1), .val (.int z1), .val (.ref y1), .val (.ref y1), .val (.int (Int32.ofNat k))] [(.ref lk341)])) t := by
      intro t kt
      show Steps p.tables e below (T389.setTop (mkF m 48 #[.val (.ref a1), .val (.int p1), .val (.int z1), .val (.ref y1), .val (.ref y1), .val (.int (Int32.ofNat k))] [(.ref lk341)])) _
      refine XS.iload X389.here hx rfl (hb hby d8_48) rfl ?_
      show Steps p.tables e below (T389.setTop (mkF m 50 #[.val (.ref a1), .val (.int p1), .val (.int z1), .val (.ref y1), .val (.ref y1), .val (.int (Int32.ofNat k))] [(.int (Int32.ofNat k)), (.ref lk341)])) _
      refine XS.iloadN X389.here hx rfl (hb hby d8_50) rfl ?_
      exact kt
    have f391 := ((F353.other W372 (Ne.symm (Nat.ne_of_lt (Nat.lt_trans lt1_341 lt2_341)))).other W384 (Ne.symm (Nat.ne_of_lt lt2_341)))
    obtain ⟨T392, h392, X392, e392, W392, V392, st392⟩ := ArF.stZ X389 hx hZ e389 f391 (i := k) (own_on (by omega)) (by omega) (g := (mkF m 51 #[.val (.ref a1), .val (.int p1), .val (.int z1), .val (.ref y1), .val (.ref y1), .val (.int (Int32.ofNat k))] [(.int z1), (.int (Int32.ofNat k)), (.ref lk341)])) rfl rfl (hb hby d8_51)
    have z393 : n0 ≤ h392.size := Nat.le_trans z385 (Keep.of_wr W392).1
    have N394 := Fr.snoc X392 N386 g_lk341
    have S395 : ∀ t, Steps p.tables e below (T392.setTop (mkF m 53 #[.val (.ref a1), .val (.int p1), .val (.int z1), .val (.ref y1), .val (.ref y1), .val (.int (Int32.ofNat k))] [(.ref a1)])) t → Steps p.tables e below (T392.setTop (mkF m 52 #[.val (.ref a1), .val (.int p1), .val (.int z1), .val (.ref y1), .val (.ref y1), .val (.int (Int32.ofNat k))] [])) t := by
      intro t kt
      show Steps p.tables e below (T392.setTop (mkF m 52 #[.val (.ref a1), .val (.int p1), .val (.int z1), .val (.ref y1), .val (.ref y1), .val (.int (Int32.ofNat k))] [])) _
      refine XS.aloadN X392.here hx rfl (hb hby d8_52) rfl rfl ?_
      exact kt
    have f396 := (((F350.other W372 (Or.inr (slot_ne (Or.inr (hw _ (List.mem_of_getElem? (i := 78) rfl))) (Or.inl (hw _ (List.mem_of_getElem? (i := 74) rfl))) (by decide) (t := (.array (.array .int))) (t' := .int) (by decide) (by decide)))).other W384 (Or.inl (Nat.ne_of_lt lt1_341))).other W392 (Or.inl (Nat.ne_of_lt (Nat.lt_trans lt1_341 lt2_341))))
    obtain ⟨T397, X397, e397, st397⟩ := getF X392 hx hZ hown (host := "") (Or.inl (hw _ (List.mem_of_getElem? (i := 77) rfl))) Via.refl e392 f396 (g := (mkF m 53 #[.val (.ref a1), .val (.int p1), .val (.int z1), .val (.ref y1), .val (.ref y1), .val (.int (Int32.ofNat k))] [(.ref a1)])) rfl rfl (hb hby d8_53)
    have S398 : ∀ t, Steps p.tables e below (T397.setTop (mkF m 59 #[.val (.ref a1), .val (.int p1), .val (.int z1), .val (.ref y1), .val (.ref y1), .val (.int (Int32.ofNat k))] [(.ref y1), (.int (Int32.ofNat k)), (.ref ld341)])) t → Steps p.tables e below (T397.setTop (mkF m 56 #[.val (.ref a1), .val (.int p1), .val (.int z1), .val (.ref y1), .val (.ref y1), .val (.int (Int32.ofNat k))] [(.ref ld341)])) t := by
      intro t kt
      show Steps p.tables e below (T397.setTop (mkF m 56 #[.val (.ref a1), .val (.int p1), .val (.int z1), .val (.ref y1), .val (.ref y1), .val (.int (Int32.ofNat k))] [(.ref ld341)])) _
      refine XS.iload X397.here hx rfl (hb hby d8_56) rfl ?_
      show Steps p.tables e below (T397.setTop (mkF m 58 #[.val (.ref a1), .val (.int p1), .val (.int z1), .val (.ref y1), .val (.ref y1), .val (.int (Int32.ofNat k))] [(.int (Int32.ofNat k)), (.ref ld341)])) _
      refine XS.aloadN X397.here hx rfl (hb hby d8_58) rfl rfl ?_
      exact kt
    have f399 := (((F357.other W372 (Ne.symm (Nat.ne_of_lt (Nat.lt_trans (Nat.lt_trans (Nat.lt_trans (Nat.lt_trans (Nat.lt_trans lt1_341 lt2_341) lt3_341) lt4_341) lt5_341) lt6_341)))).other W384 (Ne.symm (Nat.ne_of_lt (Nat.lt_trans (Nat.lt_trans (Nat.lt_trans (Nat.lt_trans lt2_341 lt3_341) lt4_341) lt5_341) lt6_341)))).other W392 (Ne.symm (Nat.ne_of_lt (Nat.lt_trans (Nat.lt_trans (Nat.lt_trans lt3_341 lt4_341) lt5_341) lt6_341))))
    have f401 := (((F359.wr W372).wr W384).wr W392)
    obtain ⟨T400, h400, X400, e400, W400, V400, st400⟩ := ArR.st X397 hx hZ e397 f399 f401 (i := k) (own_on (by omega)) (by omega) (g := (mkF m 59 #[.val (.ref a1), .val (.int p1), .val (.int z1), .val (.ref y1), .val (.ref y1), .val (.int (Int32.ofNat k))] [(.ref y1), (.int (Int32.ofNat k)), (.ref ld341)])) rfl rfl (hb hby d8_59)
    have z402 : n0 ≤ h400.size := Nat.le_trans z393 (Keep.of_wr W400).1
    have N403 := Fr.snoc X400 N394 g_ld341
    have S404 : ∀ t, Steps p.tables e below (T400.setTop (mkF m 61 #[.val (.ref a1), .val (.int p1), .val (.int z1), .val (.ref y1), .val (.ref y1), .val (.int (Int32.ofNat k))] [(.ref a1)])) t → Steps p.tables e below (T400.setTop (mkF m 60 #[.val (.ref a1), .val (.int p1), .val (.int z1), .val (.ref y1), .val (.ref y1), .val (.int (Int32.ofNat k))] [])) t := by
      intro t kt
      show Steps p.tables e below (T400.setTop (mkF m 60 #[.val (.ref a1), .val (.int p1), .val (.int z1), .val (.ref y1), .val (.ref y1), .val (.int (Int32.ofNat k))] [])) _
      refine XS.aloadN X400.here hx rfl (hb hby d8_60) rfl rfl ?_
      exact kt
    have f405 := ((((F351.other W372 (Or.inr (slot_ne (Or.inr (hw _ (List.mem_of_getElem? (i := 80) rfl))) (Or.inl (hw _ (List.mem_of_getElem? (i := 74) rfl))) (by decide) (t := (.array (.array .int))) (t' := .int) (by decide) (by decide)))).other W384 (Or.inl (Nat.ne_of_lt lt1_341))).other W392 (Or.inl (Nat.ne_of_lt (Nat.lt_trans lt1_341 lt2_341)))).other W400 (Or.inl (Nat.ne_of_lt (Nat.lt_trans (Nat.lt_trans (Nat.lt_trans (Nat.lt_trans (Nat.lt_trans lt1_341 lt2_341) lt3_341) lt4_341) lt5_341) lt6_341))))
    obtain ⟨T406, X406, e406, st406⟩ := getF X400 hx hZ hown (host := "") (Or.inl (hw _ (List.mem_of_getElem? (i := 79) rfl))) Via.refl e400 f405 (g := (mkF m 61 #[.val (.ref a1), .val (.int p1), .val (.int z1), .val (.ref y1), .val (.ref y1), .val (.int (Int32.ofNat k))] [(.ref a1)])) rfl rfl (hb hby d8_61)
    have S407 : ∀ t, Steps p.tables e below (T406.setTop (mkF m 68 #[.val (.ref a1), .val (.int p1), .val (.int z1), .val (.ref y1), .val (.ref y1), .val (.int (Int32.ofNat k))] [(.ref y1), (.int (Int32.ofNat k)), (.ref rd341)])) t → Steps p.tables e below (T406.setTop (mkF m 64 #[.val (.ref a1), .val (.int p1), .val (.int z1), .val (.ref y1), .val (.ref y1), .val (.int (Int32.ofNat k))] [(.ref rd341)])) t := by
      intro t kt
      show Steps p.tables e below (T406.setTop (mkF m 64 #[.val (.ref a1), .val (.int p1), .val (.int z1), .val (.ref y1), .val (.ref y1), .val (.int (Int32.ofNat k))] [(.ref rd341)])) _
      refine XS.iload X406.here hx rfl (hb hby d8_64) rfl ?_
      show Steps p.tables e below (T406.setTop (mkF m 66 #[.val (.ref a1), .val (.int p1), .val (.int z1), .val (.ref y1), .val (.ref y1), .val (.int (Int32.ofNat k))] [(.int (Int32.ofNat k)), (.ref rd341)])) _
      refine XS.aload X406.here hx rfl (hb hby d8_66) rfl rfl ?_
      exact kt
    have f408 := ((((F358.other W372 (Ne.symm (Nat.ne_of_lt (Nat.lt_trans (Nat.lt_trans (Nat.lt_trans (Nat.lt_trans (Nat.lt_trans (Nat.lt_trans lt1_341 lt2_341) lt3_341) lt4_341) lt5_341) lt6_341) lt7_341)))).other W384 (Ne.symm (Nat.ne_of_lt (Nat.lt_trans (Nat.lt_trans (Nat.lt_trans (Nat.lt_trans (Nat.lt_trans lt2_341 lt3_341) lt4_341) lt5_341) lt6_341) lt7_341)))).other W392 (Ne.symm (Nat.ne_of_lt (Nat.lt_trans (Nat.lt_trans (Nat.lt_trans (Nat.lt_trans lt3_341 lt4_341) lt5_341) lt6_341) lt7_341)))).other W400 (Ne.symm (Nat.ne_of_lt lt7_341)))
    have f410 := (f401.wr W400)
    obtain ⟨T409, h409, X409, e409, W409, V409, st409⟩ := ArR.st X406 hx hZ e406 f408 f410 (i := k) (own_on (by omega)) (by omega) (g := (mkF m 68 #[.val (.ref a1), .val (.int p1), .val (.int z1), .val (.ref y1), .val (.ref y1), .val (.int (Int32.ofNat k))] [(.ref y1), (.int (Int32.ofNat k)), (.ref rd341)])) rfl rfl (hb hby d8_68)
    have z411 : n0 ≤ h409.size := Nat.le_trans z402 (Keep.of_wr W409).1
    have N412 := Fr.snoc X409 N403 g_rd341
    have S413 : ∀ t, Steps p.tables e below (T409.setTop (mkF m 70 #[.val (.ref a1), .val (.int p1), .val (.int z1), .val (.ref y1), .val (.ref y1), .val (.int (Int32.ofNat k))] [(.ref a1)])) t → Steps p.tables e below (T409.setTop (mkF m 69 #[.val (.ref a1), .val (.int p1), .val (.int z1), .val (.ref y1), .val (.ref y1), .val (.int (Int32.ofNat k))] [])) t := by
      intro t kt
      show Steps p.tables e below (T409.setTop (mkF m 69 #[.val (.ref a1), .val (.int p1), .val (.int z1), .val (.ref y1), .val (.ref y1), .val (.int (Int32.ofNat k))] [])) _
      refine XS.aloadN X409.here hx rfl (hb hby d8_69) rfl rfl ?_
      exact kt
    have f414 := (((((F349.other W372 (Or.inr (slot_ne (Or.inr (hw _ (List.mem_of_getElem? (i := 72) rfl))) (Or.inl (hw _ (List.mem_of_getElem? (i := 74) rfl))) (by decide) (t := (.array .long)) (t' := .int) (by decide) (by decide)))).other W384 (Or.inl (Nat.ne_of_lt lt1_341))).other W392 (Or.inl (Nat.ne_of_lt (Nat.lt_trans lt1_341 lt2_341)))).other W400 (Or.inl (Nat.ne_of_lt (Nat.lt_trans (Nat.lt_trans (Nat.lt_trans (Nat.lt_trans (Nat.lt_trans lt1_341 lt2_341) lt3_341) lt4_341) lt5_341) lt6_341)))).other W409 (Or.inl (Nat.ne_of_lt (Nat.lt_trans (Nat.lt_trans (Nat.lt_trans (Nat.lt_trans (Nat.lt_trans (Nat.lt_trans lt1_341 lt2_341) lt3_341) lt4_341) lt5_341) lt6_341) lt7_341))))
    obtain ⟨T415, X415, e415, st415⟩ := getF X409 hx hZ hown (host := "") (Or.inl (hw _ (List.mem_of_getElem? (i := 71) rfl))) Via.refl e409 f414 (g := (mkF m 70 #[.val (.ref a1), .val (.int p1), .val (.int z1), .val (.ref y1), .val (.ref y1), .val (.int (Int32.ofNat k))] [(.ref a1)])) rfl rfl (hb hby d8_70)
    have S416 : ∀ t, Steps p.tables e below (T415.setTop (mkF m 76 #[.val (.ref a1), .val (.int p1), .val (.int z1), .val (.ref y1), .val (.ref y1), .val (.int (Int32.ofNat k))] [(.ref a1), (.int (Int32.ofNat k)), (.ref cf341)])) t → Steps p.tables e below (T415.setTop (mkF m 73 #[.val (.ref a1), .val (.int p1), .val (.int z1), .val (.ref y1), .val (.ref y1), .val (.int (Int32.ofNat k))] [(.ref cf341)])) t := by
      intro t kt
      show Steps p.tables e below (T415.setTop (mkF m 73 #[.val (.ref a1), .val (.int p1), .val (.int z1), .val (.ref y1), .val (.ref y1), .val (.int (Int32.ofNat k))] [(.ref cf341)])) _
      refine XS.iload X415.here hx rfl (hb hby d8_73) rfl ?_
      show Steps p.tables e below (T415.setTop (mkF m 75 #[.val (.ref a1), .val (.int p1), .val (.int z1), .val (.ref y1), .val (.ref y1), .val (.int (Int32.ofNat k))] [(.int (Int32.ofNat k)), (.ref cf341)])) _
      refine XS.aloadN X415.here hx rfl (hb hby d8_75) rfl rfl ?_
      exact kt
    have f417 := ((((f376.other W384 (Or.inl (Nat.ne_of_lt lt1_341))).other W392 (Or.inl (Nat.ne_of_lt (Nat.lt_trans lt1_341 lt2_341)))).other W400 (Or.inl (Nat.ne_of_lt (Nat.lt_trans (Nat.lt_trans (Nat.lt_trans (Nat.lt_trans (Nat.lt_trans lt1_341 lt2_341) lt3_341) lt4_341) lt5_341) lt6_341)))).other W409 (Or.inl (Nat.ne_of_lt (Nat.lt_trans (Nat.lt_trans (Nat.lt_trans (Nat.lt_trans (Nat.lt_trans (Nat.lt_trans lt1_341 lt2_341) lt3_341) lt4_341) lt5_341) lt6_341) lt7_341))))
    obtain ⟨T418, X418, e418, st418⟩ := getF X415 hx hZ hown (host := "") (Or.inl (hw _ (List.mem_of_getElem? (i := 62) rfl))) Via.refl e415 f417 (g := (mkF m 76 #[.val (.ref a1), .val (.int p1), .val (.int z1), .val (.ref y1), .val (.ref y1), .val (.int (Int32.ofNat k))] [(.ref a1), (.int (Int32.ofNat k)), (.ref cf341)])) rfl rfl (hb hby d8_76)
    have S419 : ∀ t, Steps p.tables e below (T418.setTop (mkF m 81 #[.val (.ref a1), .val (.int p1), .val (.int z1), .val (.ref y1), .val (.ref y1), .val (.int (Int32.ofNat k))] [(.int (Int32.ofNat k)), (.ref r341), (.int (Int32.ofNat k)), (.ref cf341)])) t → Steps p.tables e below (T418.setTop (mkF m 79 #[.val (.ref a1), .val (.int p1), .val (.int z1), .val (.ref y1), .val (.ref y1), .val (.int (Int32.ofNat k))] [(.ref r341), (.int (Int32.ofNat k)), (.ref cf341)])) t := by
      intro t kt
      show Steps p.tables e below (T418.setTop (mkF m 79 #[.val (.ref a1), .val (.int p1), .val (.int z1), .val (.ref y1), .val (.ref y1), .val (.int (Int32.ofNat k))] [(.ref r341), (.int (Int32.ofNat k)), (.ref cf341)])) _
      refine XS.iload X418.here hx rfl (hb hby d8_79) rfl ?_
      exact kt
    have f420 := (((V384.other W392 (Nat.ne_of_lt lt2_341)).other W400 (Nat.ne_of_lt (Nat.lt_trans (Nat.lt_trans (Nat.lt_trans (Nat.lt_trans lt2_341 lt3_341) lt4_341) lt5_341) lt6_341))).other W409 (Nat.ne_of_lt (Nat.lt_trans (Nat.lt_trans (Nat.lt_trans (Nat.lt_trans (Nat.lt_trans lt2_341 lt3_341) lt4_341) lt5_341) lt6_341) lt7_341)))
    have S421 : ∀ t, Steps p.tables e below (T418.setTop (mkF m 84 #[.val (.ref a1), .val (.int p1), .val (.int z1), .val (.ref y1), .val (.ref y1), .val (.int (Int32.ofNat k))] [(.ref a1), (.long ((p1 + v381).toInt64)), (.int (Int32.ofNat k)), (.ref cf341)])) t → Steps p.tables e below (T418.setTop (mkF m 81 #[.val (.ref a1), .val (.int p1), .val (.int z1), .val (.ref y1), .val (.ref y1), .val (.int (Int32.ofNat k))] [(.int (Int32.ofNat k)), (.ref r341), (.int (Int32.ofNat k)), (.ref cf341)])) t := by
      intro t kt
      show Steps p.tables e below (T418.setTop (mkF m 81 #[.val (.ref a1), .val (.int p1), .val (.int z1), .val (.ref y1), .val (.ref y1), .val (.int (Int32.ofNat k))] [(.int (Int32.ofNat k)), (.ref r341), (.int (Int32.ofNat k)), (.ref cf341)])) _
      refine ArF.ldI X418 hx hZ e418 f420 (i := k) (own_on (by omega)) (by omega) (v := (p1 + v381)) (by simp) (g := (mkF m 81 #[.val (.ref a1), .val (.int p1), .val (.int z1), .val (.ref y1), .val (.ref y1), .val (.int (Int32.ofNat k))] [(.int (Int32.ofNat k)), (.ref r341), (.int (Int32.ofNat k)), (.ref cf341)])) rfl rfl (hb hby d8_81) _ ?_
      show Steps p.tables e below (T418.setTop (mkF m 82 #[.val (.ref a1), .val (.int p1), .val (.int z1), .val (.ref y1), .val (.ref y1), .val (.int (Int32.ofNat k))] [(.int (p1 + v381)), (.int (Int32.ofNat k)), (.ref cf341)])) _
      refine XS.i2l X418.here hx rfl (hb hby d8_82) rfl ?_
      show Steps p.tables e below (T418.setTop (mkF m 83 #[.val (.ref a1), .val (.int p1), .val (.int z1), .val (.ref y1), .val (.ref y1), .val (.int (Int32.ofNat k))] [(.long ((p1 + v381).toInt64)), (.int (Int32.ofNat k)), (.ref cf341)])) _
      refine XS.aloadN X418.here hx rfl (hb hby d8_83) rfl rfl ?_
      exact kt
    obtain ⟨T422, X422, e422, st422⟩ := getF X418 hx hZ hown (host := "") (Or.inl (hw _ (List.mem_of_getElem? (i := 71) rfl))) Via.refl e418 f414 (g := (mkF m 84 #[.val (.ref a1), .val (.int p1), .val (.int z1), .val (.ref y1), .val (.ref y1), .val (.int (Int32.ofNat k))] [(.ref a1), (.long ((p1 + v381).toInt64)), (.int (Int32.ofNat k)), (.ref cf341)])) rfl rfl (hb hby d8_84)
    have S423 : ∀ t, Steps p.tables e below (T422.setTop (mkF m 91 #[.val (.ref a1), .val (.int p1), .val (.int z1), .val (.ref y1), .val (.ref y1), .val (.int (Int32.ofNat k))] [(.int ((Int32.ofNat k) + (1 : Int32))), (.ref cf341), (.long ((p1 + v381).toInt64)), (.int (Int32.ofNat k)), (.ref cf341)])) t → Steps p.tables e below (T422.setTop (mkF m 87 #[.val (.ref a1), .val (.int p1), .val (.int z1), .val (.ref y1), .val (.ref y1), .val (.int (Int32.ofNat k))] [(.ref cf341), (.long ((p1 + v381).toInt64)), (.int (Int32.ofNat k)), (.ref cf341)])) t := by
      intro t kt
      show Steps p.tables e below (T422.setTop (mkF m 87 #[.val (.ref a1), .val (.int p1), .val (.int z1), .val (.ref y1), .val (.ref y1), .val (.int (Int32.ofNat k))] [(.ref cf341), (.long ((p1 + v381).toInt64)), (.int (Int32.ofNat k)), (.ref cf341)])) _
      refine XS.iload X422.here hx rfl (hb hby d8_87) rfl ?_
      show Steps p.tables e below (T422.setTop (mkF m 89 #[.val (.ref a1), .val (.int p1), .val (.int z1), .val (.ref y1), .val (.ref y1), .val (.int (Int32.ofNat k))] [(.int (Int32.ofNat k)), (.ref cf341), (.long ((p1 + v381).toInt64)), (.int (Int32.ofNat k)), (.ref cf341)])) _
      refine XS.iconst X422.here hx rfl (hb hby d8_89) ?_
      show Steps p.tables e below (T422.setTop (mkF m 90 #[.val (.ref a1), .val (.int p1), .val (.int z1), .val (.ref y1), .val (.ref y1), .val (.int (Int32.ofNat k))] [(.int (1 : Int32)), (.int (Int32.ofNat k)), (.ref cf341), (.long ((p1 + v381).toInt64)), (.int (Int32.ofNat k)), (.ref cf341)])) _
      refine XS.iadd X422.here hx rfl (hb hby d8_90) rfl ?_
      exact kt
    have f424 := (((((F356.other W372 (Ne.symm (Nat.ne_of_lt (Nat.lt_trans (Nat.lt_trans (Nat.lt_trans (Nat.lt_trans lt1_341 lt2_341) lt3_341) lt4_341) lt5_341)))).other W384 (Ne.symm (Nat.ne_of_lt (Nat.lt_trans (Nat.lt_trans (Nat.lt_trans lt2_341 lt3_341) lt4_341) lt5_341)))).other W392 (Ne.symm (Nat.ne_of_lt (Nat.lt_trans (Nat.lt_trans lt3_341 lt4_341) lt5_341)))).other W400 (Nat.ne_of_lt lt6_341)).other W409 (Nat.ne_of_lt (Nat.lt_trans lt6_341 lt7_341)))
    have S425 : ∀ t, Steps p.tables e below (T422.setTop (mkF m 93 #[.val (.ref a1), .val (.int p1), .val (.int z1), .val (.ref y1), .val (.ref y1), .val (.int (Int32.ofNat k))] [(.long (((p1 + v381).toInt64) * (cv (k + 1)))), (.int (Int32.ofNat k)), (.ref cf341)])) t → Steps p.tables e below (T422.setTop (mkF m 91 #[.val (.ref a1), .val (.int p1), .val (.int z1), .val (.ref y1), .val (.ref y1), .val (.int (Int32.ofNat k))] [(.int ((Int32.ofNat k) + (1 : Int32))), (.ref cf341), (.long ((p1 + v381).toInt64)), (.int (Int32.ofNat k)), (.ref cf341)])) t := by
      intro t kt
      show Steps p.tables e below (T422.setTop (mkF m 91 #[.val (.ref a1), .val (.int p1), .val (.int z1), .val (.ref y1), .val (.ref y1), .val (.int (Int32.ofNat k))] [(.int ((Int32.ofNat k) + (1 : Int32))), (.ref cf341), (.long ((p1 + v381).toInt64)), (.int (Int32.ofNat k)), (.ref cf341)])) _
      refine ArF.ldJ X422 hx hZ e422 f424 (i := (k + 1)) (own_succ hk) (by omega) (v := (cv (k + 1))) rfl (g := (mkF m 91 #[.val (.ref a1), .val (.int p1), .val (.int z1), .val (.ref y1), .val (.ref y1), .val (.int (Int32.ofNat k))] [(.int ((Int32.ofNat k) + (1 : Int32))), (.ref cf341), (.long ((p1 + v381).toInt64)), (.int (Int32.ofNat k)), (.ref cf341)])) rfl rfl (hb hby d8_91) _ ?_
      show Steps p.tables e below (T422.setTop (mkF m 92 #[.val (.ref a1), .val (.int p1), .val (.int z1), .val (.ref y1), .val (.ref y1), .val (.int (Int32.ofNat k))] [(.long (cv (k + 1))), (.long ((p1 + v381).toInt64)), (.int (Int32.ofNat k)), (.ref cf341)])) _
      refine XS.lmul X422.here hx rfl (hb hby d8_92) rfl ?_
      exact kt
    obtain ⟨T426, h426, X426, e426, W426, V426, st426⟩ := ArF.stJ X422 hx hZ e422 f424 (i := k) (own_on (by omega)) (by omega) (g := (mkF m 93 #[.val (.ref a1), .val (.int p1), .val (.int z1), .val (.ref y1), .val (.ref y1), .val (.int (Int32.ofNat k))] [(.long (((p1 + v381).toInt64) * (cv (k + 1)))), (.int (Int32.ofNat k)), (.ref cf341)])) rfl rfl (hb hby d8_93)
    have z427 : n0 ≤ h426.size := Nat.le_trans z411 (Keep.of_wr W426).1
    have N428 := Fr.snoc X426 N412 g_cf341
    have V426' := V426.congr (f' := (fun q => (.long (own_put cv k (own_giv p1 z1 * cv (k + 1)) q)))) (fun q hq => by simp only [own_put]; split <;> first | rw [own_givE hp hv381] | rfl)
    have C429 : ∀ t, Steps p.tables e below (T426.setTop (mkF m 94 #[.val (.ref a1), .val (.int p1), .val (.int z1), .val (.ref y1), .val (.ref y1), .val (.int (Int32.ofNat k))] [])) t → Steps p.tables e below (s₁.setTop (mkF m 0 #[.val (.ref a1), .val (.int p1), .val (.int z1), .val (.ref y1), .val (.ref y1), .unset] [])) t := (fun t k => (S361 t (S363 t (st364 t (S365 t (st366 t (S367 t (st368 t (S369 t (S370 t (S371 t (st372 t (S375 t (st377 t (S378 t (S380 t (S382 t (st384 t (S387 t (st389 t (S390 t (st392 t (S395 t (st397 t (S398 t (st400 t (S404 t (st406 t (S407 t (st409 t (S413 t (st415 t (S416 t (st418 t (S419 t (S421 t (st422 t (S423 t (S425 t (st426 t k))))))))))))))))))))))))))))))))))))))))
    obtain ⟨fs, hr, hrun, hended, hW, hsame⟩ := X426.leave (v := none) (fun _ => rfl)
    refine ⟨_, _, pre0 _ (C429 _ ?_), hrun, hended, _, _, rfl, ?_, ⟨_, rfl⟩, hW, hsame.mono (by decide) (by decide)⟩
    · exact X426.returnOut hx Bd.returns (hb hby d8_94) hr
    · show Q_rm8 Z a1 y1 p1 z1 k cv h0 n0 _ T426.heap _
      rw [e426]
      have f430 := ((((((F342.wr W372).wr W384).wr W392).wr W400).wr W409).wr W426)
      have f431 := ((((((F343.other W372 (Or.inr (slot_ne (Or.inr (hw _ (List.mem_of_getElem? (i := 51) rfl))) (Or.inl (hw _ (List.mem_of_getElem? (i := 74) rfl))) (by decide) (t := .int) (t' := .int) (by decide) (by decide)))).other W384 (Or.inl (Nat.ne_of_lt lt1_341))).other W392 (Or.inl (Nat.ne_of_lt (Nat.lt_trans lt1_341 lt2_341)))).other W400 (Or.inl (Nat.ne_of_lt (Nat.lt_trans (Nat.lt_trans (Nat.lt_trans (Nat.lt_trans (Nat.lt_trans lt1_341 lt2_341) lt3_341) lt4_341) lt5_341) lt6_341)))).other W409 (Or.inl (Nat.ne_of_lt (Nat.lt_trans (Nat.lt_trans (Nat.lt_trans (Nat.lt_trans (Nat.lt_trans (Nat.lt_trans lt1_341 lt2_341) lt3_341) lt4_341) lt5_341) lt6_341) lt7_341)))).other W426 (Or.inl (Nat.ne_of_lt (Nat.lt_trans (Nat.lt_trans (Nat.lt_trans (Nat.lt_trans lt1_341 lt2_341) lt3_341) lt4_341) lt5_341))))
      have f432 := (((((Fw372.other W384 (Or.inl (Nat.ne_of_lt lt1_341))).other W392 (Or.inl (Nat.ne_of_lt (Nat.lt_trans lt1_341 lt2_341)))).other W400 (Or.inl (Nat.ne_of_lt (Nat.lt_trans (Nat.lt_trans (Nat.lt_trans (Nat.lt_trans (Nat.lt_trans lt1_341 lt2_341) lt3_341) lt4_341) lt5_341) lt6_341)))).other W409 (Or.inl (Nat.ne_of_lt (Nat.lt_trans (Nat.lt_trans (Nat.lt_trans (Nat.lt_trans (Nat.lt_trans (Nat.lt_trans lt1_341 lt2_341) lt3_341) lt4_341) lt5_341) lt6_341) lt7_341)))).other W426 (Or.inl (Nat.ne_of_lt (Nat.lt_trans (Nat.lt_trans (Nat.lt_trans (Nat.lt_trans lt1_341 lt2_341) lt3_341) lt4_341) lt5_341))))
      have f433 := (f417.other W426 (Or.inl (Nat.ne_of_lt (Nat.lt_trans (Nat.lt_trans (Nat.lt_trans (Nat.lt_trans lt1_341 lt2_341) lt3_341) lt4_341) lt5_341))))
      have f434 := ((((f388.other W392 (Or.inl (Nat.ne_of_lt (Nat.lt_trans lt1_341 lt2_341)))).other W400 (Or.inl (Nat.ne_of_lt (Nat.lt_trans (Nat.lt_trans (Nat.lt_trans (Nat.lt_trans (Nat.lt_trans lt1_341 lt2_341) lt3_341) lt4_341) lt5_341) lt6_341)))).other W409 (Or.inl (Nat.ne_of_lt (Nat.lt_trans (Nat.lt_trans (Nat.lt_trans (Nat.lt_trans (Nat.lt_trans (Nat.lt_trans lt1_341 lt2_341) lt3_341) lt4_341) lt5_341) lt6_341) lt7_341)))).other W426 (Or.inl (Nat.ne_of_lt (Nat.lt_trans (Nat.lt_trans (Nat.lt_trans (Nat.lt_trans lt1_341 lt2_341) lt3_341) lt4_341) lt5_341))))
      have f435 := ((((((F347.other W372 (Or.inr (slot_ne (Or.inr (hw _ (List.mem_of_getElem? (i := 68) rfl))) (Or.inl (hw _ (List.mem_of_getElem? (i := 74) rfl))) (by decide) (t := (.array .boolean)) (t' := .int) (by decide) (by decide)))).other W384 (Or.inl (Nat.ne_of_lt lt1_341))).other W392 (Or.inl (Nat.ne_of_lt (Nat.lt_trans lt1_341 lt2_341)))).other W400 (Or.inl (Nat.ne_of_lt (Nat.lt_trans (Nat.lt_trans (Nat.lt_trans (Nat.lt_trans (Nat.lt_trans lt1_341 lt2_341) lt3_341) lt4_341) lt5_341) lt6_341)))).other W409 (Or.inl (Nat.ne_of_lt (Nat.lt_trans (Nat.lt_trans (Nat.lt_trans (Nat.lt_trans (Nat.lt_trans (Nat.lt_trans lt1_341 lt2_341) lt3_341) lt4_341) lt5_341) lt6_341) lt7_341)))).other W426 (Or.inl (Nat.ne_of_lt (Nat.lt_trans (Nat.lt_trans (Nat.lt_trans (Nat.lt_trans lt1_341 lt2_341) lt3_341) lt4_341) lt5_341))))
      have f436 := ((((((F348.other W372 (Or.inr (slot_ne (Or.inr (hw _ (List.mem_of_getElem? (i := 70) rfl))) (Or.inl (hw _ (List.mem_of_getElem? (i := 74) rfl))) (by decide) (t := (.array .int)) (t' := .int) (by decide) (by decide)))).other W384 (Or.inl (Nat.ne_of_lt lt1_341))).other W392 (Or.inl (Nat.ne_of_lt (Nat.lt_trans lt1_341 lt2_341)))).other W400 (Or.inl (Nat.ne_of_lt (Nat.lt_trans (Nat.lt_trans (Nat.lt_trans (Nat.lt_trans (Nat.lt_trans lt1_341 lt2_341) lt3_341) lt4_341) lt5_341) lt6_341)))).other W409 (Or.inl (Nat.ne_of_lt (Nat.lt_trans (Nat.lt_trans (Nat.lt_trans (Nat.lt_trans (Nat.lt_trans (Nat.lt_trans lt1_341 lt2_341) lt3_341) lt4_341) lt5_341) lt6_341) lt7_341)))).other W426 (Or.inl (Nat.ne_of_lt (Nat.lt_trans (Nat.lt_trans (Nat.lt_trans (Nat.lt_trans lt1_341 lt2_341) lt3_341) lt4_341) lt5_341))))
      have f437 := (f414.other W426 (Or.inl (Nat.ne_of_lt (Nat.lt_trans (Nat.lt_trans (Nat.lt_trans (Nat.lt_trans lt1_341 lt2_341) lt3_341) lt4_341) lt5_341))))
      have f438 := (((f396.other W400 (Or.inl (Nat.ne_of_lt (Nat.lt_trans (Nat.lt_trans (Nat.lt_trans (Nat.lt_trans (Nat.lt_trans lt1_341 lt2_341) lt3_341) lt4_341) lt5_341) lt6_341)))).other W409 (Or.inl (Nat.ne_of_lt (Nat.lt_trans (Nat.lt_trans (Nat.lt_trans (Nat.lt_trans (Nat.lt_trans (Nat.lt_trans lt1_341 lt2_341) lt3_341) lt4_341) lt5_341) lt6_341) lt7_341)))).other W426 (Or.inl (Nat.ne_of_lt (Nat.lt_trans (Nat.lt_trans (Nat.lt_trans (Nat.lt_trans lt1_341 lt2_341) lt3_341) lt4_341) lt5_341))))
      have f439 := ((f405.other W409 (Or.inl (Nat.ne_of_lt (Nat.lt_trans (Nat.lt_trans (Nat.lt_trans (Nat.lt_trans (Nat.lt_trans (Nat.lt_trans lt1_341 lt2_341) lt3_341) lt4_341) lt5_341) lt6_341) lt7_341)))).other W426 (Or.inl (Nat.ne_of_lt (Nat.lt_trans (Nat.lt_trans (Nat.lt_trans (Nat.lt_trans lt1_341 lt2_341) lt3_341) lt4_341) lt5_341))))
      have f440 := (f420.other W426 (Nat.ne_of_lt (Nat.lt_trans (Nat.lt_trans (Nat.lt_trans lt2_341 lt3_341) lt4_341) lt5_341)))
      have f441 := (((V392.other W400 (Nat.ne_of_lt (Nat.lt_trans (Nat.lt_trans (Nat.lt_trans lt3_341 lt4_341) lt5_341) lt6_341))).other W409 (Nat.ne_of_lt (Nat.lt_trans (Nat.lt_trans (Nat.lt_trans (Nat.lt_trans lt3_341 lt4_341) lt5_341) lt6_341) lt7_341))).other W426 (Nat.ne_of_lt (Nat.lt_trans (Nat.lt_trans lt3_341 lt4_341) lt5_341)))
      have f442 := ((((((F354.other W372 (Ne.symm (Nat.ne_of_lt (Nat.lt_trans (Nat.lt_trans lt1_341 lt2_341) lt3_341)))).other W384 (Ne.symm (Nat.ne_of_lt (Nat.lt_trans lt2_341 lt3_341)))).other W392 (Ne.symm (Nat.ne_of_lt lt3_341))).other W400 (Nat.ne_of_lt (Nat.lt_trans (Nat.lt_trans lt4_341 lt5_341) lt6_341))).other W409 (Nat.ne_of_lt (Nat.lt_trans (Nat.lt_trans (Nat.lt_trans lt4_341 lt5_341) lt6_341) lt7_341))).other W426 (Nat.ne_of_lt (Nat.lt_trans lt4_341 lt5_341)))
      have f443 := ((((((F355.other W372 (Ne.symm (Nat.ne_of_lt (Nat.lt_trans (Nat.lt_trans (Nat.lt_trans lt1_341 lt2_341) lt3_341) lt4_341)))).other W384 (Ne.symm (Nat.ne_of_lt (Nat.lt_trans (Nat.lt_trans lt2_341 lt3_341) lt4_341)))).other W392 (Ne.symm (Nat.ne_of_lt (Nat.lt_trans lt3_341 lt4_341)))).other W400 (Nat.ne_of_lt (Nat.lt_trans lt5_341 lt6_341))).other W409 (Nat.ne_of_lt (Nat.lt_trans (Nat.lt_trans lt5_341 lt6_341) lt7_341))).other W426 (Nat.ne_of_lt lt5_341))
      have f444 := ((V400.other W409 (Nat.ne_of_lt lt7_341)).other W426 (Ne.symm (Nat.ne_of_lt lt6_341)))
      have f445 := (V409.other W426 (Ne.symm (Nat.ne_of_lt (Nat.lt_trans lt6_341 lt7_341))))
      have f446 := ((f410.wr W409).wr W426)
      have f447 := ((((((F360.other W372 (Ne.symm (Nat.ne_of_lt (Nat.lt_trans (Nat.lt_trans (Nat.lt_trans (Nat.lt_trans (Nat.lt_trans (Nat.lt_trans (Nat.lt_trans lt1_341 lt2_341) lt3_341) lt4_341) lt5_341) lt6_341) lt7_341) lt8_341)))).other W384 (Ne.symm (Nat.ne_of_lt (Nat.lt_trans (Nat.lt_trans (Nat.lt_trans (Nat.lt_trans (Nat.lt_trans (Nat.lt_trans lt2_341 lt3_341) lt4_341) lt5_341) lt6_341) lt7_341) lt8_341)))).other W392 (Ne.symm (Nat.ne_of_lt (Nat.lt_trans (Nat.lt_trans (Nat.lt_trans (Nat.lt_trans (Nat.lt_trans lt3_341 lt4_341) lt5_341) lt6_341) lt7_341) lt8_341)))).other W400 (Ne.symm (Nat.ne_of_lt (Nat.lt_trans lt7_341 lt8_341)))).other W409 (Ne.symm (Nat.ne_of_lt lt8_341))).other W426 (Ne.symm (Nat.ne_of_lt (Nat.lt_trans (Nat.lt_trans lt6_341 lt7_341) lt8_341))))
      exact ⟨rfl, N428, z427, ⟨r341, lk341, ap341, ak341, cf341, ld341, rd341, _, _, _, _, ⟨lt0_341, lt1_341, lt2_341, lt3_341, lt4_341, lt5_341, lt6_341, lt7_341, lt8_341⟩, f430, f431, f432, f433, f434, f435, f436, f437, f438, f439, f440, f441, f442, f443, V426', f444, f445, f446, f447⟩⟩
  · have S448 : ∀ t, Steps p.tables e below (s₁.setTop (mkF m 15 #[.val (.ref a1), .val (.int p1), .val (.int z1), .val (.ref y1), .val (.ref y1), .unset] [(.ref a1), (.ref a1)])) t → Steps p.tables e below (s₁.setTop (mkF m 1 #[.val (.ref a1), .val (.int p1), .val (.int z1), .val (.ref y1), .val (.ref y1), .unset] [(.int z1)])) t := by
      intro t kt
      show Steps p.tables e below (s₁.setTop (mkF m 1 #[.val (.ref a1), .val (.int p1), .val (.int z1), .val (.ref y1), .val (.ref y1), .unset] [(.int z1)])) _
      refine XS.ifYes X0.here hx rfl (pc0 := 1) (pc' := 13) rfl (hb hby d8_1) rfl ((if0 _ _).trans (feq hc362).2) (by decide) (by decide) ?_
      show Steps p.tables e below (s₁.setTop (mkF m 13 #[.val (.ref a1), .val (.int p1), .val (.int z1), .val (.ref y1), .val (.ref y1), .unset] [])) _
      refine XS.aloadN X0.here hx rfl (hb hby d8_13) rfl rfl ?_
      show Steps p.tables e below (s₁.setTop (mkF m 14 #[.val (.ref a1), .val (.int p1), .val (.int z1), .val (.ref y1), .val (.ref y1), .unset] [(.ref a1)])) _
      refine XS.dup X0.here hx rfl (hb hby d8_14) rfl rfl ?_
      exact kt
    obtain ⟨T449, X449, e449, st449⟩ := getF X0 hx hZ hown (host := "") (Or.inl (hw _ (List.mem_of_getElem? (i := 73) rfl))) Via.refl e0 F344 (g := (mkF m 15 #[.val (.ref a1), .val (.int p1), .val (.int z1), .val (.ref y1), .val (.ref y1), .unset] [(.ref a1), (.ref a1)])) rfl rfl (hb hby d8_15)
    have S450 : ∀ t, Steps p.tables e below (T449.setTop (mkF m 20 #[.val (.ref a1), .val (.int p1), .val (.int z1), .val (.ref y1), .val (.ref y1), .unset] [(.int ((Int32.ofNat (k + 1)) - (1 : Int32))), (.ref a1)])) t → Steps p.tables e below (T449.setTop (mkF m 18 #[.val (.ref a1), .val (.int p1), .val (.int z1), .val (.ref y1), .val (.ref y1), .unset] [(.int (Int32.ofNat (k + 1))), (.ref a1)])) t := by
      intro t kt
      show Steps p.tables e below (T449.setTop (mkF m 18 #[.val (.ref a1), .val (.int p1), .val (.int z1), .val (.ref y1), .val (.ref y1), .unset] [(.int (Int32.ofNat (k + 1))), (.ref a1)])) _
      refine XS.iconst X449.here hx rfl (hb hby d8_18) ?_
      show Steps p.tables e below (T449.setTop (mkF m 19 #[.val (.ref a1), .val (.int p1), .val (.int z1), .val (.ref y1), .val (.ref y1), .unset] [(.int (1 : Int32)), (.int (Int32.ofNat (k + 1))), (.ref a1)])) _
      refine XS.isub X449.here hx rfl (hb hby d8_19) rfl ?_
      exact kt
    have S451 : ∀ t, Steps p.tables e below (T449.setTop (mkF m 20 #[.val (.ref a1), .val (.int p1), .val (.int z1), .val (.ref y1), .val (.ref y1), .unset] [(.int (Int32.ofNat k)), (.ref a1)])) t → Steps p.tables e below (T449.setTop (mkF m 20 #[.val (.ref a1), .val (.int p1), .val (.int z1), .val (.ref y1), .val (.ref y1), .unset] [(.int ((Int32.ofNat (k + 1)) - (1 : Int32))), (.ref a1)])) t := fun t k => by rw [(own_pred hk)]; exact k
    have S452 : ∀ t, Steps p.tables e below (T449.setTop (mkF m 21 #[.val (.ref a1), .val (.int p1), .val (.int z1), .val (.ref y1), .val (.ref y1), .unset] [(.int (Int32.ofNat k)), (.ref a1), (.int (Int32.ofNat k))])) t → Steps p.tables e below (T449.setTop (mkF m 20 #[.val (.ref a1), .val (.int p1), .val (.int z1), .val (.ref y1), .val (.ref y1), .unset] [(.int (Int32.ofNat k)), (.ref a1)])) t := by
      intro t kt
      show Steps p.tables e below (T449.setTop (mkF m 20 #[.val (.ref a1), .val (.int p1), .val (.int z1), .val (.ref y1), .val (.ref y1), .unset] [(.int (Int32.ofNat k)), (.ref a1)])) _
      refine XS.dupX1 X449.here hx rfl (hb hby d8_20) rfl rfl rfl ?_
      exact kt
    obtain ⟨T453, h453, X453, e453, W453, st453⟩ := putF X449 hx hZ hown (host := "") (Or.inl (hw _ (List.mem_of_getElem? (i := 73) rfl))) Via.refl e449 F344 F342 (Or.inl (hw _ (List.mem_of_getElem? (i := 74) rfl))) (hw _ (List.mem_of_getElem? (i := 3) rfl)) (ty := .int) (by decide) rfl rfl (g := (mkF m 21 #[.val (.ref a1), .val (.int p1), .val (.int z1), .val (.ref y1), .val (.ref y1), .unset] [(.int (Int32.ofNat k)), (.ref a1), (.int (Int32.ofNat k))])) rfl rfl (hb hby d8_21)
    have z454 : n0 ≤ h453.size := Nat.le_trans Z0 (Keep.of_wr W453).1
    have N455 := Fr.snoc X453 N0 lt0_341
    have Fw453 := F344.same W453
    have S456 : ∀ t, Steps p.tables e below (T453.setTop (mkF m 27 #[.val (.ref a1), .val (.int p1), .val (.int z1), .val (.ref y1), .val (.ref y1), .val (.int (Int32.ofNat k))] [(.ref a1)])) t → Steps p.tables e below (T453.setTop (mkF m 24 #[.val (.ref a1), .val (.int p1), .val (.int z1), .val (.ref y1), .val (.ref y1), .unset] [(.int (Int32.ofNat k))])) t := by
      intro t kt
      show Steps p.tables e below (T453.setTop (mkF m 24 #[.val (.ref a1), .val (.int p1), .val (.int z1), .val (.ref y1), .val (.ref y1), .unset] [(.int (Int32.ofNat k))])) _
      refine XS.istore X453.here hx rfl (hb hby d8_24) rfl (l' := #[.val (.ref a1), .val (.int p1), .val (.int z1), .val (.ref y1), .val (.ref y1), .val (.int (Int32.ofNat k))]) rfl ?_
      show Steps p.tables e below (T453.setTop (mkF m 26 #[.val (.ref a1), .val (.int p1), .val (.int z1), .val (.ref y1), .val (.ref y1), .val (.int (Int32.ofNat k))] [])) _
      refine XS.aloadN X453.here hx rfl (hb hby d8_26) rfl rfl ?_
      exact kt
    have f457 := (F345.other W453 (Or.inr (slot_ne (Or.inr (hw _ (List.mem_of_getElem? (i := 63) rfl))) (Or.inl (hw _ (List.mem_of_getElem? (i := 74) rfl))) (by decide) (t := (.array .int)) (t' := .int) (by decide) (by decide))))
    obtain ⟨T458, X458, e458, st458⟩ := getF X453 hx hZ hown (host := "") (Or.inl (hw _ (List.mem_of_getElem? (i := 62) rfl))) Via.refl e453 f457 (g := (mkF m 27 #[.val (.ref a1), .val (.int p1), .val (.int z1), .val (.ref y1), .val (.ref y1), .val (.int (Int32.ofNat k))] [(.ref a1)])) rfl rfl (hb hby d8_27)
    have S459 : ∀ t, Steps p.tables e below (T458.setTop (mkF m 34 #[.val (.ref a1), .val (.int p1), .val (.int z1), .val (.ref y1), .val (.ref y1), .val (.int (Int32.ofNat k))] [(.int z1), (.int p1), (.int (Int32.ofNat k)), (.ref r341)])) t → Steps p.tables e below (T458.setTop (mkF m 30 #[.val (.ref a1), .val (.int p1), .val (.int z1), .val (.ref y1), .val (.ref y1), .val (.int (Int32.ofNat k))] [(.ref r341)])) t := by
      intro t kt
      show Steps p.tables e below (T458.setTop (mkF m 30 #[.val (.ref a1), .val (.int p1), .val (.int z1), .val (.ref y1), .val (.ref y1), .val (.int (Int32.ofNat k))] [(.ref r341)])) _
      refine XS.iload X458.here hx rfl (hb hby d8_30) rfl ?_
      show Steps p.tables e below (T458.setTop (mkF m 32 #[.val (.ref a1), .val (.int p1), .val (.int z1), .val (.ref y1), .val (.ref y1), .val (.int (Int32.ofNat k))] [(.int (Int32.ofNat k)), (.ref r341)])) _
      refine XS.iloadN X458.here hx rfl (hb hby d8_32) rfl ?_
      show Steps p.tables e below (T458.setTop (mkF m 33 #[.val (.ref a1), .val (.int p1), .val (.int z1), .val (.ref y1), .val (.ref y1), .val (.int (Int32.ofNat k))] [(.int p1), (.int (Int32.ofNat k)), (.ref r341)])) _
      refine XS.iloadN X458.here hx rfl (hb hby d8_33) rfl ?_
      exact kt
    obtain ⟨v462, hv462⟩ : ∃ z : Int32, z = (if z1 = (0 : Int32) then (0 : Int32) else (1 : Int32)) := ⟨_, rfl⟩
    have S461 : ∀ t, Steps p.tables e below (T458.setTop (mkF m 42 #[.val (.ref a1), .val (.int p1), .val (.int z1), .val (.ref y1), .val (.ref y1), .val (.int (Int32.ofNat k))] [(.int v462), (.int p1), (.int (Int32.ofNat k)), (.ref r341)])) t → Steps p.tables e below (T458.setTop (mkF m 34 #[.val (.ref a1), .val (.int p1), .val (.int z1), .val (.ref y1), .val (.ref y1), .val (.int (Int32.ofNat k))] [(.int z1), (.int p1), (.int (Int32.ofNat k)), (.ref r341)])) t := by
      intro t kt
      subst hv462
      by_cases hc460 : z1 = (0 : Int32)
      · simp only [if_pos hc460] at kt
        show Steps p.tables e below (T458.setTop (mkF m 34 #[.val (.ref a1), .val (.int p1), .val (.int z1), .val (.ref y1), .val (.ref y1), .val (.int (Int32.ofNat k))] [(.int z1), (.int p1), (.int (Int32.ofNat k)), (.ref r341)])) _
        refine XS.ifYes X458.here hx rfl (pc0 := 34) (pc' := 41) rfl (hb hby d8_34) rfl ((if0 _ _).trans (teq hc460).1) (by decide) (by decide) ?_
        show Steps p.tables e below (T458.setTop (mkF m 41 #[.val (.ref a1), .val (.int p1), .val (.int z1), .val (.ref y1), .val (.ref y1), .val (.int (Int32.ofNat k))] [(.int p1), (.int (Int32.ofNat k)), (.ref r341)])) _
        refine XS.iconst X458.here hx rfl (hb hby d8_41) ?_
        exact kt
      · simp only [if_neg hc460] at kt
        show Steps p.tables e below (T458.setTop (mkF m 34 #[.val (.ref a1), .val (.int p1), .val (.int z1), .val (.ref y1), .val (.ref y1), .val (.int (Int32.ofNat k))] [(.int z1), (.int p1), (.int (Int32.ofNat k)), (.ref r341)])) _
        refine XS.ifNo X458.here hx rfl (hb hby d8_34) rfl ((if0 _ _).trans (feq hc460).1) ?_
        show Steps p.tables e below (T458.setTop (mkF m 37 #[.val (.ref a1), .val (.int p1), .val (.int z1), .val (.ref y1), .val (.ref y1), .val (.int (Int32.ofNat k))] [(.int p1), (.int (Int32.ofNat k)), (.ref r341)])) _
        refine XS.iconst X458.here hx rfl (hb hby d8_37) ?_
        show Steps p.tables e below (T458.setTop (mkF m 38 #[.val (.ref a1), .val (.int p1), .val (.int z1), .val (.ref y1), .val (.ref y1), .val (.int (Int32.ofNat k))] [(.int (1 : Int32)), (.int p1), (.int (Int32.ofNat k)), (.ref r341)])) _
        refine XS.goto X458.here hx rfl (pc0 := 38) (pc' := 42) rfl (hb hby d8_38) (by decide) (by decide) ?_
        exact kt
    have S463 : ∀ t, Steps p.tables e below (T458.setTop (mkF m 43 #[.val (.ref a1), .val (.int p1), .val (.int z1), .val (.ref y1), .val (.ref y1), .val (.int (Int32.ofNat k))] [(.int (p1 + v462)), (.int (Int32.ofNat k)), (.ref r341)])) t → Steps p.tables e below (T458.setTop (mkF m 42 #[.val (.ref a1), .val (.int p1), .val (.int z1), .val (.ref y1), .val (.ref y1), .val (.int (Int32.ofNat k))] [(.int v462), (.int p1), (.int (Int32.ofNat k)), (.ref r341)])) t := by
      intro t kt
      show Steps p.tables e below (T458.setTop (mkF m 42 #[.val (.ref a1), .val (.int p1), .val (.int z1), .val (.ref y1), .val (.ref y1), .val (.int (Int32.ofNat k))] [(.int v462), (.int p1), (.int (Int32.ofNat k)), (.ref r341)])) _
      refine XS.iadd X458.here hx rfl (hb hby d8_42) rfl ?_
      exact kt
    have f464 := (F352.other W453 (Ne.symm (Nat.ne_of_lt lt1_341)))
    obtain ⟨T465, h465, X465, e465, W465, V465, st465⟩ := ArF.stI X458 hx hZ e458 f464 (i := k) (own_on (by omega)) (by omega) (g := (mkF m 43 #[.val (.ref a1), .val (.int p1), .val (.int z1), .val (.ref y1), .val (.ref y1), .val (.int (Int32.ofNat k))] [(.int (p1 + v462)), (.int (Int32.ofNat k)), (.ref r341)])) rfl rfl (hb hby d8_43)
    have z466 : n0 ≤ h465.size := Nat.le_trans z454 (Keep.of_wr W465).1
    have N467 := Fr.snoc X465 N455 g_r341
    have S468 : ∀ t, Steps p.tables e below (T465.setTop (mkF m 45 #[.val (.ref a1), .val (.int p1), .val (.int z1), .val (.ref y1), .val (.ref y1), .val (.int (Int32.ofNat k))] [(.ref a1)])) t → Steps p.tables e below (T465.setTop (mkF m 44 #[.val (.ref a1), .val (.int p1), .val (.int z1), .val (.ref y1), .val (.ref y1), .val (.int (Int32.ofNat k))] [])) t := by
      intro t kt
      show Steps p.tables e below (T465.setTop (mkF m 44 #[.val (.ref a1), .val (.int p1), .val (.int z1), .val (.ref y1), .val (.ref y1), .val (.int (Int32.ofNat k))] [])) _
      refine XS.aloadN X465.here hx rfl (hb hby d8_44) rfl rfl ?_
      exact kt
    have f469 := ((F346.other W453 (Or.inr (slot_ne (Or.inr (hw _ (List.mem_of_getElem? (i := 66) rfl))) (Or.inl (hw _ (List.mem_of_getElem? (i := 74) rfl))) (by decide) (t := (.array .boolean)) (t' := .int) (by decide) (by decide)))).other W465 (Or.inl (Nat.ne_of_lt lt1_341)))
    obtain ⟨T470, X470, e470, st470⟩ := getF X465 hx hZ hown (host := "") (Or.inl (hw _ (List.mem_of_getElem? (i := 65) rfl))) Via.refl e465 f469 (g := (mkF m 45 #[.val (.ref a1), .val (.int p1), .val (.int z1), .val (.ref y1), .val (.ref y1), .val (.int (Int32.ofNat k))] [(.ref a1)])) rfl rfl (hb hby d8_45)
    have S471 : ∀ t, Steps p.tables e below (T470.setTop (mkF m 51 #[.val (.ref a1), .val (.int p1), .val (.int z1), .val (.ref y1), .val (.ref y1), .val (.int (Int32.ofNat k))] [(.int z1), (.int (Int32.ofNat k)), (.ref lk341)])) t → Steps p.tables e below (T470.setTop (mkF m 48 #[.val (.ref a1), .val (.int p1), .val (.int z1), .val (.ref y1), .val (.ref y1), .val (.int (Int32.ofNat k))] [(.ref lk341)])) t := by
      intro t kt
      show Steps p.tables e below (T470.setTop (mkF m 48 #[.val (.ref a1), .val (.int p1), .val (.int z1), .val (.ref y1), .val (.ref y1), .val (.int (Int32.ofNat k))] [(.ref lk341)])) _
      refine XS.iload X470.here hx rfl (hb hby d8_48) rfl ?_
      show Steps p.tables e below (T470.setTop (mkF m 50 #[.val (.ref a1), .val (.int p1), .val (.int z1), .val (.ref y1), .val (.ref y1), .val (.int (Int32.ofNat k))] [(.int (Int32.ofNat k)), (.ref lk341)])) _
      refine XS.iloadN X470.here hx rfl (hb hby d8_50) rfl ?_
      exact kt
    have f472 := ((F353.other W453 (Ne.symm (Nat.ne_of_lt (Nat.lt_trans lt1_341 lt2_341)))).other W465 (Ne.symm (Nat.ne_of_lt lt2_341)))
    obtain ⟨T473, h473, X473, e473, W473, V473, st473⟩ := ArF.stZ X470 hx hZ e470 f472 (i := k) (own_on (by omega)) (by omega) (g := (mkF m 51 #[.val (.ref a1), .val (.int p1), .val (.int z1), .val (.ref y1), .val (.ref y1), .val (.int (Int32.ofNat k))] [(.int z1), (.int (Int32.ofNat k)), (.ref lk341)])) rfl rfl (hb hby d8_51)
    have z474 : n0 ≤ h473.size := Nat.le_trans z466 (Keep.of_wr W473).1
    have N475 := Fr.snoc X473 N467 g_lk341
    have S476 : ∀ t, Steps p.tables e below (T473.setTop (mkF m 53 #[.val (.ref a1), .val (.int p1), .val (.int z1), .val (.ref y1), .val (.ref y1), .val (.int (Int32.ofNat k))] [(.ref a1)])) t → Steps p.tables e below (T473.setTop (mkF m 52 #[.val (.ref a1), .val (.int p1), .val (.int z1), .val (.ref y1), .val (.ref y1), .val (.int (Int32.ofNat k))] [])) t := by
      intro t kt
      show Steps p.tables e below (T473.setTop (mkF m 52 #[.val (.ref a1), .val (.int p1), .val (.int z1), .val (.ref y1), .val (.ref y1), .val (.int (Int32.ofNat k))] [])) _
      refine XS.aloadN X473.here hx rfl (hb hby d8_52) rfl rfl ?_
      exact kt
    have f477 := (((F350.other W453 (Or.inr (slot_ne (Or.inr (hw _ (List.mem_of_getElem? (i := 78) rfl))) (Or.inl (hw _ (List.mem_of_getElem? (i := 74) rfl))) (by decide) (t := (.array (.array .int))) (t' := .int) (by decide) (by decide)))).other W465 (Or.inl (Nat.ne_of_lt lt1_341))).other W473 (Or.inl (Nat.ne_of_lt (Nat.lt_trans lt1_341 lt2_341))))
    obtain ⟨T478, X478, e478, st478⟩ := getF X473 hx hZ hown (host := "") (Or.inl (hw _ (List.mem_of_getElem? (i := 77) rfl))) Via.refl e473 f477 (g := (mkF m 53 #[.val (.ref a1), .val (.int p1), .val (.int z1), .val (.ref y1), .val (.ref y1), .val (.int (Int32.ofNat k))] [(.ref a1)])) rfl rfl (hb hby d8_53)
    have S479 : ∀ t, Steps p.tables e below (T478.setTop (mkF m 59 #[.val (.ref a1), .val (.int p1), .val (.int z1), .val (.ref y1), .val (.ref y1), .val (.int (Int32.ofNat k))] [(.ref y1), (.int (Int32.ofNat k)), (.ref ld341)])) t → Steps p.tables e below (T478.setTop (mkF m 56 #[.val (.ref a1), .val (.int p1), .val (.int z1), .val (.ref y1), .val (.ref y1), .val (.int (Int32.ofNat k))] [(.ref ld341)])) t := by
      intro t kt
      show Steps p.tables e below (T478.setTop (mkF m 56 #[.val (.ref a1), .val (.int p1), .val (.int z1), .val (.ref y1), .val (.ref y1), .val (.int (Int32.ofNat k))] [(.ref ld341)])) _
      refine XS.iload X478.here hx rfl (hb hby d8_56) rfl ?_
      show Steps p.tables e below (T478.setTop (mkF m 58 #[.val (.ref a1), .val (.int p1), .val (.int z1), .val (.ref y1), .val (.ref y1), .val (.int (Int32.ofNat k))] [(.int (Int32.ofNat k)), (.ref ld341)])) _
      refine XS.aloadN X478.here hx rfl (hb hby d8_58) rfl rfl ?_
      exact kt
    have f480 := (((F357.other W453 (Ne.symm (Nat.ne_of_lt (Nat.lt_trans (Nat.lt_trans (Nat.lt_trans (Nat.lt_trans (Nat.lt_trans lt1_341 lt2_341) lt3_341) lt4_341) lt5_341) lt6_341)))).other W465 (Ne.symm (Nat.ne_of_lt (Nat.lt_trans (Nat.lt_trans (Nat.lt_trans (Nat.lt_trans lt2_341 lt3_341) lt4_341) lt5_341) lt6_341)))).other W473 (Ne.symm (Nat.ne_of_lt (Nat.lt_trans (Nat.lt_trans (Nat.lt_trans lt3_341 lt4_341) lt5_341) lt6_341))))
    have f482 := (((F359.wr W453).wr W465).wr W473)
    obtain ⟨T481, h481, X481, e481, W481, V481, st481⟩ := ArR.st X478 hx hZ e478 f480 f482 (i := k) (own_on (by omega)) (by omega) (g := (mkF m 59 #[.val (.ref a1), .val (.int p1), .val (.int z1), .val (.ref y1), .val (.ref y1), .val (.int (Int32.ofNat k))] [(.ref y1), (.int (Int32.ofNat k)), (.ref ld341)])) rfl rfl (hb hby d8_59)
    have z483 : n0 ≤ h481.size := Nat.le_trans z474 (Keep.of_wr W481).1
    have N484 := Fr.snoc X481 N475 g_ld341
    have S485 : ∀ t, Steps p.tables e below (T481.setTop (mkF m 61 #[.val (.ref a1), .val (.int p1), .val (.int z1), .val (.ref y1), .val (.ref y1), .val (.int (Int32.ofNat k))] [(.ref a1)])) t → Steps p.tables e below (T481.setTop (mkF m 60 #[.val (.ref a1), .val (.int p1), .val (.int z1), .val (.ref y1), .val (.ref y1), .val (.int (Int32.ofNat k))] [])) t := by
      intro t kt
      show Steps p.tables e below (T481.setTop (mkF m 60 #[.val (.ref a1), .val (.int p1), .val (.int z1), .val (.ref y1), .val (.ref y1), .val (.int (Int32.ofNat k))] [])) _
      refine XS.aloadN X481.here hx rfl (hb hby d8_60) rfl rfl ?_
      exact kt
    have f486 := ((((F351.other W453 (Or.inr (slot_ne (Or.inr (hw _ (List.mem_of_getElem? (i := 80) rfl))) (Or.inl (hw _ (List.mem_of_getElem? (i := 74) rfl))) (by decide) (t := (.array (.array .int))) (t' := .int) (by decide) (by decide)))).other W465 (Or.inl (Nat.ne_of_lt lt1_341))).other W473 (Or.inl (Nat.ne_of_lt (Nat.lt_trans lt1_341 lt2_341)))).other W481 (Or.inl (Nat.ne_of_lt (Nat.lt_trans (Nat.lt_trans (Nat.lt_trans (Nat.lt_trans (Nat.lt_trans lt1_341 lt2_341) lt3_341) lt4_341) lt5_341) lt6_341))))
    obtain ⟨T487, X487, e487, st487⟩ := getF X481 hx hZ hown (host := "") (Or.inl (hw _ (List.mem_of_getElem? (i := 79) rfl))) Via.refl e481 f486 (g := (mkF m 61 #[.val (.ref a1), .val (.int p1), .val (.int z1), .val (.ref y1), .val (.ref y1), .val (.int (Int32.ofNat k))] [(.ref a1)])) rfl rfl (hb hby d8_61)
    have S488 : ∀ t, Steps p.tables e below (T487.setTop (mkF m 68 #[.val (.ref a1), .val (.int p1), .val (.int z1), .val (.ref y1), .val (.ref y1), .val (.int (Int32.ofNat k))] [(.ref y1), (.int (Int32.ofNat k)), (.ref rd341)])) t → Steps p.tables e below (T487.setTop (mkF m 64 #[.val (.ref a1), .val (.int p1), .val (.int z1), .val (.ref y1), .val (.ref y1), .val (.int (Int32.ofNat k))] [(.ref rd341)])) t := by
      intro t kt
      show Steps p.tables e below (T487.setTop (mkF m 64 #[.val (.ref a1), .val (.int p1), .val (.int z1), .val (.ref y1), .val (.ref y1), .val (.int (Int32.ofNat k))] [(.ref rd341)])) _
      refine XS.iload X487.here hx rfl (hb hby d8_64) rfl ?_
      show Steps p.tables e below (T487.setTop (mkF m 66 #[.val (.ref a1), .val (.int p1), .val (.int z1), .val (.ref y1), .val (.ref y1), .val (.int (Int32.ofNat k))] [(.int (Int32.ofNat k)), (.ref rd341)])) _
      refine XS.aload X487.here hx rfl (hb hby d8_66) rfl rfl ?_
      exact kt
    have f489 := ((((F358.other W453 (Ne.symm (Nat.ne_of_lt (Nat.lt_trans (Nat.lt_trans (Nat.lt_trans (Nat.lt_trans (Nat.lt_trans (Nat.lt_trans lt1_341 lt2_341) lt3_341) lt4_341) lt5_341) lt6_341) lt7_341)))).other W465 (Ne.symm (Nat.ne_of_lt (Nat.lt_trans (Nat.lt_trans (Nat.lt_trans (Nat.lt_trans (Nat.lt_trans lt2_341 lt3_341) lt4_341) lt5_341) lt6_341) lt7_341)))).other W473 (Ne.symm (Nat.ne_of_lt (Nat.lt_trans (Nat.lt_trans (Nat.lt_trans (Nat.lt_trans lt3_341 lt4_341) lt5_341) lt6_341) lt7_341)))).other W481 (Ne.symm (Nat.ne_of_lt lt7_341)))
    have f491 := (f482.wr W481)
    obtain ⟨T490, h490, X490, e490, W490, V490, st490⟩ := ArR.st X487 hx hZ e487 f489 f491 (i := k) (own_on (by omega)) (by omega) (g := (mkF m 68 #[.val (.ref a1), .val (.int p1), .val (.int z1), .val (.ref y1), .val (.ref y1), .val (.int (Int32.ofNat k))] [(.ref y1), (.int (Int32.ofNat k)), (.ref rd341)])) rfl rfl (hb hby d8_68)
    have z492 : n0 ≤ h490.size := Nat.le_trans z483 (Keep.of_wr W490).1
    have N493 := Fr.snoc X490 N484 g_rd341
    have S494 : ∀ t, Steps p.tables e below (T490.setTop (mkF m 70 #[.val (.ref a1), .val (.int p1), .val (.int z1), .val (.ref y1), .val (.ref y1), .val (.int (Int32.ofNat k))] [(.ref a1)])) t → Steps p.tables e below (T490.setTop (mkF m 69 #[.val (.ref a1), .val (.int p1), .val (.int z1), .val (.ref y1), .val (.ref y1), .val (.int (Int32.ofNat k))] [])) t := by
      intro t kt
      show Steps p.tables e below (T490.setTop (mkF m 69 #[.val (.ref a1), .val (.int p1), .val (.int z1), .val (.ref y1), .val (.ref y1), .val (.int (Int32.ofNat k))] [])) _
      refine XS.aloadN X490.here hx rfl (hb hby d8_69) rfl rfl ?_
      exact kt
    have f495 := (((((F349.other W453 (Or.inr (slot_ne (Or.inr (hw _ (List.mem_of_getElem? (i := 72) rfl))) (Or.inl (hw _ (List.mem_of_getElem? (i := 74) rfl))) (by decide) (t := (.array .long)) (t' := .int) (by decide) (by decide)))).other W465 (Or.inl (Nat.ne_of_lt lt1_341))).other W473 (Or.inl (Nat.ne_of_lt (Nat.lt_trans lt1_341 lt2_341)))).other W481 (Or.inl (Nat.ne_of_lt (Nat.lt_trans (Nat.lt_trans (Nat.lt_trans (Nat.lt_trans (Nat.lt_trans lt1_341 lt2_341) lt3_341) lt4_341) lt5_341) lt6_341)))).other W490 (Or.inl (Nat.ne_of_lt (Nat.lt_trans (Nat.lt_trans (Nat.lt_trans (Nat.lt_trans (Nat.lt_trans (Nat.lt_trans lt1_341 lt2_341) lt3_341) lt4_341) lt5_341) lt6_341) lt7_341))))
    obtain ⟨T496, X496, e496, st496⟩ := getF X490 hx hZ hown (host := "") (Or.inl (hw _ (List.mem_of_getElem? (i := 71) rfl))) Via.refl e490 f495 (g := (mkF m 70 #[.val (.ref a1), .val (.int p1), .val (.int z1), .val (.ref y1), .val (.ref y1), .val (.int (Int32.ofNat k))] [(.ref a1)])) rfl rfl (hb hby d8_70)
    have S497 : ∀ t, Steps p.tables e below (T496.setTop (mkF m 76 #[.val (.ref a1), .val (.int p1), .val (.int z1), .val (.ref y1), .val (.ref y1), .val (.int (Int32.ofNat k))] [(.ref a1), (.int (Int32.ofNat k)), (.ref cf341)])) t → Steps p.tables e below (T496.setTop (mkF m 73 #[.val (.ref a1), .val (.int p1), .val (.int z1), .val (.ref y1), .val (.ref y1), .val (.int (Int32.ofNat k))] [(.ref cf341)])) t := by
      intro t kt
      show Steps p.tables e below (T496.setTop (mkF m 73 #[.val (.ref a1), .val (.int p1), .val (.int z1), .val (.ref y1), .val (.ref y1), .val (.int (Int32.ofNat k))] [(.ref cf341)])) _
      refine XS.iload X496.here hx rfl (hb hby d8_73) rfl ?_
      show Steps p.tables e below (T496.setTop (mkF m 75 #[.val (.ref a1), .val (.int p1), .val (.int z1), .val (.ref y1), .val (.ref y1), .val (.int (Int32.ofNat k))] [(.int (Int32.ofNat k)), (.ref cf341)])) _
      refine XS.aloadN X496.here hx rfl (hb hby d8_75) rfl rfl ?_
      exact kt
    have f498 := ((((f457.other W465 (Or.inl (Nat.ne_of_lt lt1_341))).other W473 (Or.inl (Nat.ne_of_lt (Nat.lt_trans lt1_341 lt2_341)))).other W481 (Or.inl (Nat.ne_of_lt (Nat.lt_trans (Nat.lt_trans (Nat.lt_trans (Nat.lt_trans (Nat.lt_trans lt1_341 lt2_341) lt3_341) lt4_341) lt5_341) lt6_341)))).other W490 (Or.inl (Nat.ne_of_lt (Nat.lt_trans (Nat.lt_trans (Nat.lt_trans (Nat.lt_trans (Nat.lt_trans (Nat.lt_trans lt1_341 lt2_341) lt3_341) lt4_341) lt5_341) lt6_341) lt7_341))))
    obtain ⟨T499, X499, e499, st499⟩ := getF X496 hx hZ hown (host := "") (Or.inl (hw _ (List.mem_of_getElem? (i := 62) rfl))) Via.refl e496 f498 (g := (mkF m 76 #[.val (.ref a1), .val (.int p1), .val (.int z1), .val (.ref y1), .val (.ref y1), .val (.int (Int32.ofNat k))] [(.ref a1), (.int (Int32.ofNat k)), (.ref cf341)])) rfl rfl (hb hby d8_76)
    have S500 : ∀ t, Steps p.tables e below (T499.setTop (mkF m 81 #[.val (.ref a1), .val (.int p1), .val (.int z1), .val (.ref y1), .val (.ref y1), .val (.int (Int32.ofNat k))] [(.int (Int32.ofNat k)), (.ref r341), (.int (Int32.ofNat k)), (.ref cf341)])) t → Steps p.tables e below (T499.setTop (mkF m 79 #[.val (.ref a1), .val (.int p1), .val (.int z1), .val (.ref y1), .val (.ref y1), .val (.int (Int32.ofNat k))] [(.ref r341), (.int (Int32.ofNat k)), (.ref cf341)])) t := by
      intro t kt
      show Steps p.tables e below (T499.setTop (mkF m 79 #[.val (.ref a1), .val (.int p1), .val (.int z1), .val (.ref y1), .val (.ref y1), .val (.int (Int32.ofNat k))] [(.ref r341), (.int (Int32.ofNat k)), (.ref cf341)])) _
      refine XS.iload X499.here hx rfl (hb hby d8_79) rfl ?_
      exact kt
    have f501 := (((V465.other W473 (Nat.ne_of_lt lt2_341)).other W481 (Nat.ne_of_lt (Nat.lt_trans (Nat.lt_trans (Nat.lt_trans (Nat.lt_trans lt2_341 lt3_341) lt4_341) lt5_341) lt6_341))).other W490 (Nat.ne_of_lt (Nat.lt_trans (Nat.lt_trans (Nat.lt_trans (Nat.lt_trans (Nat.lt_trans lt2_341 lt3_341) lt4_341) lt5_341) lt6_341) lt7_341)))
    have S502 : ∀ t, Steps p.tables e below (T499.setTop (mkF m 84 #[.val (.ref a1), .val (.int p1), .val (.int z1), .val (.ref y1), .val (.ref y1), .val (.int (Int32.ofNat k))] [(.ref a1), (.long ((p1 + v462).toInt64)), (.int (Int32.ofNat k)), (.ref cf341)])) t → Steps p.tables e below (T499.setTop (mkF m 81 #[.val (.ref a1), .val (.int p1), .val (.int z1), .val (.ref y1), .val (.ref y1), .val (.int (Int32.ofNat k))] [(.int (Int32.ofNat k)), (.ref r341), (.int (Int32.ofNat k)), (.ref cf341)])) t := by
      intro t kt
      show Steps p.tables e below (T499.setTop (mkF m 81 #[.val (.ref a1), .val (.int p1), .val (.int z1), .val (.ref y1), .val (.ref y1), .val (.int (Int32.ofNat k))] [(.int (Int32.ofNat k)), (.ref r341), (.int (Int32.ofNat k)), (.ref cf341)])) _
      refine ArF.ldI X499 hx hZ e499 f501 (i := k) (own_on (by omega)) (by omega) (v := (p1 + v462)) (by simp) (g := (mkF m 81 #[.val (.ref a1), .val (.int p1), .val (.int z1), .val (.ref y1), .val (.ref y1), .val (.int (Int32.ofNat k))] [(.int (Int32.ofNat k)), (.ref r341), (.int (Int32.ofNat k)), (.ref cf341)])) rfl rfl (hb hby d8_81) _ ?_
      show Steps p.tables e below (T499.setTop (mkF m 82 #[.val (.ref a1), .val (.int p1), .val (.int z1), .val (.ref y1), .val (.ref y1), .val (.int (Int32.ofNat k))] [(.int (p1 + v462)), (.int (Int32.ofNat k)), (.ref cf341)])) _
      refine XS.i2l X499.here hx rfl (hb hby d8_82) rfl ?_
      show Steps p.tables e below (T499.setTop (mkF m 83 #[.val (.ref a1), .val (.int p1), .val (.int z1), .val (.ref y1), .val (.ref y1), .val (.int (Int32.ofNat k))] [(.long ((p1 + v462).toInt64)), (.int (Int32.ofNat k)), (.ref cf341)])) _
      refine XS.aloadN X499.here hx rfl (hb hby d8_83) rfl rfl ?_
      exact kt
    obtain ⟨T503, X503, e503, st503⟩ := getF X499 hx hZ hown (host := "") (Or.inl (hw _ (List.mem_of_getElem? (i := 71) rfl))) Via.refl e499 f495 (g := (mkF m 84 #[.val (.ref a1), .val (.int p1), .val (.int z1), .val (.ref y1), .val (.ref y1), .val (.int (Int32.ofNat k))] [(.ref a1), (.long ((p1 + v462).toInt64)), (.int (Int32.ofNat k)), (.ref cf341)])) rfl rfl (hb hby d8_84)
    have S504 : ∀ t, Steps p.tables e below (T503.setTop (mkF m 91 #[.val (.ref a1), .val (.int p1), .val (.int z1), .val (.ref y1), .val (.ref y1), .val (.int (Int32.ofNat k))] [(.int ((Int32.ofNat k) + (1 : Int32))), (.ref cf341), (.long ((p1 + v462).toInt64)), (.int (Int32.ofNat k)), (.ref cf341)])) t → Steps p.tables e below (T503.setTop (mkF m 87 #[.val (.ref a1), .val (.int p1), .val (.int z1), .val (.ref y1), .val (.ref y1), .val (.int (Int32.ofNat k))] [(.ref cf341), (.long ((p1 + v462).toInt64)), (.int (Int32.ofNat k)), (.ref cf341)])) t := by
      intro t kt
      show Steps p.tables e below (T503.setTop (mkF m 87 #[.val (.ref a1), .val (.int p1), .val (.int z1), .val (.ref y1), .val (.ref y1), .val (.int (Int32.ofNat k))] [(.ref cf341), (.long ((p1 + v462).toInt64)), (.int (Int32.ofNat k)), (.ref cf341)])) _
      refine XS.iload X503.here hx rfl (hb hby d8_87) rfl ?_
      show Steps p.tables e below (T503.setTop (mkF m 89 #[.val (.ref a1), .val (.int p1), .val (.int z1), .val (.ref y1), .val (.ref y1), .val (.int (Int32.ofNat k))] [(.int (Int32.ofNat k)), (.ref cf341), (.long ((p1 + v462).toInt64)), (.int (Int32.ofNat k)), (.ref cf341)])) _
      refine XS.iconst X503.here hx rfl (hb hby d8_89) ?_
      show Steps p.tables e below (T503.setTop (mkF m 90 #[.val (.ref a1), .val (.int p1), .val (.int z1), .val (.ref y1), .val (.ref y1), .val (.int (Int32.ofNat k))] [(.int (1 : Int32)), (.int (Int32.ofNat k)), (.ref cf341), (.long ((p1 + v462).toInt64)), (.int (Int32.ofNat k)), (.ref cf341)])) _
      refine XS.iadd X503.here hx rfl (hb hby d8_90) rfl ?_
      exact kt
    have f505 := (((((F356.other W453 (Ne.symm (Nat.ne_of_lt (Nat.lt_trans (Nat.lt_trans (Nat.lt_trans (Nat.lt_trans lt1_341 lt2_341) lt3_341) lt4_341) lt5_341)))).other W465 (Ne.symm (Nat.ne_of_lt (Nat.lt_trans (Nat.lt_trans (Nat.lt_trans lt2_341 lt3_341) lt4_341) lt5_341)))).other W473 (Ne.symm (Nat.ne_of_lt (Nat.lt_trans (Nat.lt_trans lt3_341 lt4_341) lt5_341)))).other W481 (Nat.ne_of_lt lt6_341)).other W490 (Nat.ne_of_lt (Nat.lt_trans lt6_341 lt7_341)))
    have S506 : ∀ t, Steps p.tables e below (T503.setTop (mkF m 93 #[.val (.ref a1), .val (.int p1), .val (.int z1), .val (.ref y1), .val (.ref y1), .val (.int (Int32.ofNat k))] [(.long (((p1 + v462).toInt64) * (cv (k + 1)))), (.int (Int32.ofNat k)), (.ref cf341)])) t → Steps p.tables e below (T503.setTop (mkF m 91 #[.val (.ref a1), .val (.int p1), .val (.int z1), .val (.ref y1), .val (.ref y1), .val (.int (Int32.ofNat k))] [(.int ((Int32.ofNat k) + (1 : Int32))), (.ref cf341), (.long ((p1 + v462).toInt64)), (.int (Int32.ofNat k)), (.ref cf341)])) t := by
      intro t kt
      show Steps p.tables e below (T503.setTop (mkF m 91 #[.val (.ref a1), .val (.int p1), .val (.int z1), .val (.ref y1), .val (.ref y1), .val (.int (Int32.ofNat k))] [(.int ((Int32.ofNat k) + (1 : Int32))), (.ref cf341), (.long ((p1 + v462).toInt64)), (.int (Int32.ofNat k)), (.ref cf341)])) _
      refine ArF.ldJ X503 hx hZ e503 f505 (i := (k + 1)) (own_succ hk) (by omega) (v := (cv (k + 1))) rfl (g := (mkF m 91 #[.val (.ref a1), .val (.int p1), .val (.int z1), .val (.ref y1), .val (.ref y1), .val (.int (Int32.ofNat k))] [(.int ((Int32.ofNat k) + (1 : Int32))), (.ref cf341), (.long ((p1 + v462).toInt64)), (.int (Int32.ofNat k)), (.ref cf341)])) rfl rfl (hb hby d8_91) _ ?_
      show Steps p.tables e below (T503.setTop (mkF m 92 #[.val (.ref a1), .val (.int p1), .val (.int z1), .val (.ref y1), .val (.ref y1), .val (.int (Int32.ofNat k))] [(.long (cv (k + 1))), (.long ((p1 + v462).toInt64)), (.int (Int32.ofNat k)), (.ref cf341)])) _
      refine XS.lmul X503.here hx rfl (hb hby d8_92) rfl ?_
      exact kt
    obtain ⟨T507, h507, X507, e507, W507, V507, st507⟩ := ArF.stJ X503 hx hZ e503 f505 (i := k) (own_on (by omega)) (by omega) (g := (mkF m 93 #[.val (.ref a1), .val (.int p1), .val (.int z1), .val (.ref y1), .val (.ref y1), .val (.int (Int32.ofNat k))] [(.long (((p1 + v462).toInt64) * (cv (k + 1)))), (.int (Int32.ofNat k)), (.ref cf341)])) rfl rfl (hb hby d8_93)
    have z508 : n0 ≤ h507.size := Nat.le_trans z492 (Keep.of_wr W507).1
    have N509 := Fr.snoc X507 N493 g_cf341
    have V507' := V507.congr (f' := (fun q => (.long (own_put cv k (own_giv p1 z1 * cv (k + 1)) q)))) (fun q hq => by simp only [own_put]; split <;> first | rw [own_givE hp hv462] | rfl)
    have C510 : ∀ t, Steps p.tables e below (T507.setTop (mkF m 94 #[.val (.ref a1), .val (.int p1), .val (.int z1), .val (.ref y1), .val (.ref y1), .val (.int (Int32.ofNat k))] [])) t → Steps p.tables e below (s₁.setTop (mkF m 0 #[.val (.ref a1), .val (.int p1), .val (.int z1), .val (.ref y1), .val (.ref y1), .unset] [])) t := (fun t k => (S361 t (S448 t (st449 t (S450 t (S451 t (S452 t (st453 t (S456 t (st458 t (S459 t (S461 t (S463 t (st465 t (S468 t (st470 t (S471 t (st473 t (S476 t (st478 t (S479 t (st481 t (S485 t (st487 t (S488 t (st490 t (S494 t (st496 t (S497 t (st499 t (S500 t (S502 t (st503 t (S504 t (S506 t (st507 t k))))))))))))))))))))))))))))))))))))
    obtain ⟨fs, hr, hrun, hended, hW, hsame⟩ := X507.leave (v := none) (fun _ => rfl)
    refine ⟨_, _, pre0 _ (C510 _ ?_), hrun, hended, _, _, rfl, ?_, ⟨_, rfl⟩, hW, hsame.mono (by decide) (by decide)⟩
    · exact X507.returnOut hx Bd.returns (hb hby d8_94) hr
    · show Q_rm8 Z a1 y1 p1 z1 k cv h0 n0 _ T507.heap _
      rw [e507]
      have f511 := ((((((F342.wr W453).wr W465).wr W473).wr W481).wr W490).wr W507)
      have f512 := ((((((F343.other W453 (Or.inr (slot_ne (Or.inr (hw _ (List.mem_of_getElem? (i := 51) rfl))) (Or.inl (hw _ (List.mem_of_getElem? (i := 74) rfl))) (by decide) (t := .int) (t' := .int) (by decide) (by decide)))).other W465 (Or.inl (Nat.ne_of_lt lt1_341))).other W473 (Or.inl (Nat.ne_of_lt (Nat.lt_trans lt1_341 lt2_341)))).other W481 (Or.inl (Nat.ne_of_lt (Nat.lt_trans (Nat.lt_trans (Nat.lt_trans (Nat.lt_trans (Nat.lt_trans lt1_341 lt2_341) lt3_341) lt4_341) lt5_341) lt6_341)))).other W490 (Or.inl (Nat.ne_of_lt (Nat.lt_trans (Nat.lt_trans (Nat.lt_trans (Nat.lt_trans (Nat.lt_trans (Nat.lt_trans lt1_341 lt2_341) lt3_341) lt4_341) lt5_341) lt6_341) lt7_341)))).other W507 (Or.inl (Nat.ne_of_lt (Nat.lt_trans (Nat.lt_trans (Nat.lt_trans (Nat.lt_trans lt1_341 lt2_341) lt3_341) lt4_341) lt5_341))))
      have f513 := (((((Fw453.other W465 (Or.inl (Nat.ne_of_lt lt1_341))).other W473 (Or.inl (Nat.ne_of_lt (Nat.lt_trans lt1_341 lt2_341)))).other W481 (Or.inl (Nat.ne_of_lt (Nat.lt_trans (Nat.lt_trans (Nat.lt_trans (Nat.lt_trans (Nat.lt_trans lt1_341 lt2_341) lt3_341) lt4_341) lt5_341) lt6_341)))).other W490 (Or.inl (Nat.ne_of_lt (Nat.lt_trans (Nat.lt_trans (Nat.lt_trans (Nat.lt_trans (Nat.lt_trans (Nat.lt_trans lt1_341 lt2_341) lt3_341) lt4_341) lt5_341) lt6_341) lt7_341)))).other W507 (Or.inl (Nat.ne_of_lt (Nat.lt_trans (Nat.lt_trans (Nat.lt_trans (Nat.lt_trans lt1_341 lt2_341) lt3_341) lt4_341) lt5_341))))
      have f514 := (f498.other W507 (Or.inl (Nat.ne_of_lt (Nat.lt_trans (Nat.lt_trans (Nat.lt_trans (Nat.lt_trans lt1_341 lt2_341) lt3_341) lt4_341) lt5_341))))
      have f515 := ((((f469.other W473 (Or.inl (Nat.ne_of_lt (Nat.lt_trans lt1_341 lt2_341)))).other W481 (Or.inl (Nat.ne_of_lt (Nat.lt_trans (Nat.lt_trans (Nat.lt_trans (Nat.lt_trans (Nat.lt_trans lt1_341 lt2_341) lt3_341) lt4_341) lt5_341) lt6_341)))).other W490 (Or.inl (Nat.ne_of_lt (Nat.lt_trans (Nat.lt_trans (Nat.lt_trans (Nat.lt_trans (Nat.lt_trans (Nat.lt_trans lt1_341 lt2_341) lt3_341) lt4_341) lt5_341) lt6_341) lt7_341)))).other W507 (Or.inl (Nat.ne_of_lt (Nat.lt_trans (Nat.lt_trans (Nat.lt_trans (Nat.lt_trans lt1_341 lt2_341) lt3_341) lt4_341) lt5_341))))
      have f516 := ((((((F347.other W453 (Or.inr (slot_ne (Or.inr (hw _ (List.mem_of_getElem? (i := 68) rfl))) (Or.inl (hw _ (List.mem_of_getElem? (i := 74) rfl))) (by decide) (t := (.array .boolean)) (t' := .int) (by decide) (by decide)))).other W465 (Or.inl (Nat.ne_of_lt lt1_341))).other W473 (Or.inl (Nat.ne_of_lt (Nat.lt_trans lt1_341 lt2_341)))).other W481 (Or.inl (Nat.ne_of_lt (Nat.lt_trans (Nat.lt_trans (Nat.lt_trans (Nat.lt_trans (Nat.lt_trans lt1_341 lt2_341) lt3_341) lt4_341) lt5_341) lt6_341)))).other W490 (Or.inl (Nat.ne_of_lt (Nat.lt_trans (Nat.lt_trans (Nat.lt_trans (Nat.lt_trans (Nat.lt_trans (Nat.lt_trans lt1_341 lt2_341) lt3_341) lt4_341) lt5_341) lt6_341) lt7_341)))).other W507 (Or.inl (Nat.ne_of_lt (Nat.lt_trans (Nat.lt_trans (Nat.lt_trans (Nat.lt_trans lt1_341 lt2_341) lt3_341) lt4_341) lt5_341))))
      have f517 := ((((((F348.other W453 (Or.inr (slot_ne (Or.inr (hw _ (List.mem_of_getElem? (i := 70) rfl))) (Or.inl (hw _ (List.mem_of_getElem? (i := 74) rfl))) (by decide) (t := (.array .int)) (t' := .int) (by decide) (by decide)))).other W465 (Or.inl (Nat.ne_of_lt lt1_341))).other W473 (Or.inl (Nat.ne_of_lt (Nat.lt_trans lt1_341 lt2_341)))).other W481 (Or.inl (Nat.ne_of_lt (Nat.lt_trans (Nat.lt_trans (Nat.lt_trans (Nat.lt_trans (Nat.lt_trans lt1_341 lt2_341) lt3_341) lt4_341) lt5_341) lt6_341)))).other W490 (Or.inl (Nat.ne_of_lt (Nat.lt_trans (Nat.lt_trans (Nat.lt_trans (Nat.lt_trans (Nat.lt_trans (Nat.lt_trans lt1_341 lt2_341) lt3_341) lt4_341) lt5_341) lt6_341) lt7_341)))).other W507 (Or.inl (Nat.ne_of_lt (Nat.lt_trans (Nat.lt_trans (Nat.lt_trans (Nat.lt_trans lt1_341 lt2_341) lt3_341) lt4_341) lt5_341))))
      have f518 := (f495.other W507 (Or.inl (Nat.ne_of_lt (Nat.lt_trans (Nat.lt_trans (Nat.lt_trans (Nat.lt_trans lt1_341 lt2_341) lt3_341) lt4_341) lt5_341))))
      have f519 := (((f477.other W481 (Or.inl (Nat.ne_of_lt (Nat.lt_trans (Nat.lt_trans (Nat.lt_trans (Nat.lt_trans (Nat.lt_trans lt1_341 lt2_341) lt3_341) lt4_341) lt5_341) lt6_341)))).other W490 (Or.inl (Nat.ne_of_lt (Nat.lt_trans (Nat.lt_trans (Nat.lt_trans (Nat.lt_trans (Nat.lt_trans (Nat.lt_trans lt1_341 lt2_341) lt3_341) lt4_341) lt5_341) lt6_341) lt7_341)))).other W507 (Or.inl (Nat.ne_of_lt (Nat.lt_trans (Nat.lt_trans (Nat.lt_trans (Nat.lt_trans lt1_341 lt2_341) lt3_341) lt4_341) lt5_341))))
      have f520 := ((f486.other W490 (Or.inl (Nat.ne_of_lt (Nat.lt_trans (Nat.lt_trans (Nat.lt_trans (Nat.lt_trans (Nat.lt_trans (Nat.lt_trans lt1_341 lt2_341) lt3_341) lt4_341) lt5_341) lt6_341) lt7_341)))).other W507 (Or.inl (Nat.ne_of_lt (Nat.lt_trans (Nat.lt_trans (Nat.lt_trans (Nat.lt_trans lt1_341 lt2_341) lt3_341) lt4_341) lt5_341))))
      have f521 := (f501.other W507 (Nat.ne_of_lt (Nat.lt_trans (Nat.lt_trans (Nat.lt_trans lt2_341 lt3_341) lt4_341) lt5_341)))
      have f522 := (((V473.other W481 (Nat.ne_of_lt (Nat.lt_trans (Nat.lt_trans (Nat.lt_trans lt3_341 lt4_341) lt5_341) lt6_341))).other W490 (Nat.ne_of_lt (Nat.lt_trans (Nat.lt_trans (Nat.lt_trans (Nat.lt_trans lt3_341 lt4_341) lt5_341) lt6_341) lt7_341))).other W507 (Nat.ne_of_lt (Nat.lt_trans (Nat.lt_trans lt3_341 lt4_341) lt5_341)))
      have f523 := ((((((F354.other W453 (Ne.symm (Nat.ne_of_lt (Nat.lt_trans (Nat.lt_trans lt1_341 lt2_341) lt3_341)))).other W465 (Ne.symm (Nat.ne_of_lt (Nat.lt_trans lt2_341 lt3_341)))).other W473 (Ne.symm (Nat.ne_of_lt lt3_341))).other W481 (Nat.ne_of_lt (Nat.lt_trans (Nat.lt_trans lt4_341 lt5_341) lt6_341))).other W490 (Nat.ne_of_lt (Nat.lt_trans (Nat.lt_trans (Nat.lt_trans lt4_341 lt5_341) lt6_341) lt7_341))).other W507 (Nat.ne_of_lt (Nat.lt_trans lt4_341 lt5_341)))
      have f524 := ((((((F355.other W453 (Ne.symm (Nat.ne_of_lt (Nat.lt_trans (Nat.lt_trans (Nat.lt_trans lt1_341 lt2_341) lt3_341) lt4_341)))).other W465 (Ne.symm (Nat.ne_of_lt (Nat.lt_trans (Nat.lt_trans lt2_341 lt3_341) lt4_341)))).other W473 (Ne.symm (Nat.ne_of_lt (Nat.lt_trans lt3_341 lt4_341)))).other W481 (Nat.ne_of_lt (Nat.lt_trans lt5_341 lt6_341))).other W490 (Nat.ne_of_lt (Nat.lt_trans (Nat.lt_trans lt5_341 lt6_341) lt7_341))).other W507 (Nat.ne_of_lt lt5_341))
      have f525 := ((V481.other W490 (Nat.ne_of_lt lt7_341)).other W507 (Ne.symm (Nat.ne_of_lt lt6_341)))
      have f526 := (V490.other W507 (Ne.symm (Nat.ne_of_lt (Nat.lt_trans lt6_341 lt7_341))))
      have f527 := ((f491.wr W490).wr W507)
      have f528 := ((((((F360.other W453 (Ne.symm (Nat.ne_of_lt (Nat.lt_trans (Nat.lt_trans (Nat.lt_trans (Nat.lt_trans (Nat.lt_trans (Nat.lt_trans (Nat.lt_trans lt1_341 lt2_341) lt3_341) lt4_341) lt5_341) lt6_341) lt7_341) lt8_341)))).other W465 (Ne.symm (Nat.ne_of_lt (Nat.lt_trans (Nat.lt_trans (Nat.lt_trans (Nat.lt_trans (Nat.lt_trans (Nat.lt_trans lt2_341 lt3_341) lt4_341) lt5_341) lt6_341) lt7_341) lt8_341)))).other W473 (Ne.symm (Nat.ne_of_lt (Nat.lt_trans (Nat.lt_trans (Nat.lt_trans (Nat.lt_trans (Nat.lt_trans lt3_341 lt4_341) lt5_341) lt6_341) lt7_341) lt8_341)))).other W481 (Ne.symm (Nat.ne_of_lt (Nat.lt_trans lt7_341 lt8_341)))).other W490 (Ne.symm (Nat.ne_of_lt lt8_341))).other W507 (Ne.symm (Nat.ne_of_lt (Nat.lt_trans (Nat.lt_trans lt6_341 lt7_341) lt8_341))))
      exact ⟨rfl, N509, z508, ⟨r341, lk341, ap341, ak341, cf341, ld341, rd341, _, _, _, _, ⟨lt0_341, lt1_341, lt2_341, lt3_341, lt4_341, lt5_341, lt6_341, lt7_341, lt8_341⟩, f511, f512, f513, f514, f515, f516, f517, f518, f519, f520, f521, f522, f523, f524, V507', f525, f526, f527, f528⟩⟩
theorem ef_rm12 (m : MethodId) (x0 : Addr) (x1 : Int32) (x2 : Addr) (x3 : Addr) : entryFrame m #[(.ref x0), (.int x1), (.ref x2), (.ref x3)] 5 = mkF m 0 #[.val (.ref x0), .val (.int x1), .val (.ref x2), .val (.ref x3), .unset] [] := by first | (simp [entryFrame, mkF, argsToLocals, Value.category]; done) | rfl
def Q_rm12 (Z : State) (a1 : Addr) (y1 : Addr) (p1 : Int32) (k : Nat) (cv : Nat → Int64) (h0 : Heap) (n0 : Nat) (v : Option Value) (h : Heap) (L : List Loc) : Prop := v = none ∧ Fr n0 L ∧ n0 ≤ h.size ∧ own_KG Z h n0 a1 y1 k (own_put cv k ((2 : Int64) * cv (k + 1)))
set_option maxRecDepth 65536 in
set_option maxHeartbeats 40000000 in
theorem rm12 (l : Launch) (Z : State) (a0 : Array Value) (hw : ∀ d ∈ tables_1, d.before a0 Z = true) (ws : List Jvm.Cond) (a1 : Addr) (y1 : Addr) (p1 : Int32) (k : Nat) (cv : Nat → Int64) (h0 : Heap) (n0 : Nat) (Z0 : n0 ≤ h0.size) (H : own_KG Z h0 n0 a1 y1 (k + 1) cv) (hk : k < 3) :
    MetFree l (⟨"com/example/joinery/joinery/KeyGrid", "giveApart", "(I[I[I)V"⟩ : MethodName) (head1 (Jvm.Cond.code (⟨"com/example/joinery/joinery/KeyGrid", "giveApart", "(I[I[I)V"⟩ : MethodName) prog_21_method_11_code 5 none :: ws) ({ frames := 0, cells := 0, slots := 0, locals := 0 } : Room)) (fun a U => a = #[(.ref a1), (.int p1), (.ref y1), (.ref y1)] ∧ Z.Warmed39 U.vm ∧ U.heap = h0) (fun _ _ _ _ _ => True) (fun _ U o U' => ∃ v L, o = .returned v ∧ Q_rm12 Z a1 y1 p1 k cv h0 n0 v U'.heap L ∧ FrameEnd U o U' L ({ frames := 0, cells := 0, slots := 0, locals := 0 } : Room).cells ({ frames := 0, cells := 0, slots := 0, locals := 0 } : Room).slots) := by
  refine MetFree.of_bodySF (plainFor_of_name pn_0) hisR ?_
  intro p e s m args below meth c s₁ Bd hml0 hP hK
  obtain ⟨rfl, hZ, hh⟩ := hP
  have hx := Bd.exec
  have hby := Bd.bytes
  have hml : c.maxLocals = 5 := hml0
  have hown : s.vm.findClass "com/example/joinery/joinery/KeyGrid" = some m.cls := findClass_of_methodNamed Bd.named
  have hnm := (name_of_methodNamed Bd.named Bd.method).1
  have X0 : Stand p l e ({ frames := 0, cells := 0, slots := 0, locals := 0 } : Room) s m #[(.ref a1), (.int p1), (.ref y1), (.ref y1)] below meth c s₁ [] 0 0 := Stand.of_body Bd
  have e0 : s₁.heap = h0 := by rw [← hh, Bd.state]; rfl
  have N0 := Fr.nil n0
  have pre0 : ∀ t, Steps p.tables e below (s₁.setTop (mkF m 0 #[.val (.ref a1), .val (.int p1), .val (.ref y1), .val (.ref y1), .unset] [])) t → Steps p.tables e below (s₁.setTop (entryFrame m #[(.ref a1), (.int p1), (.ref y1), (.ref y1)] 5)) t := fun t k => castTop (ef_rm12 m a1 p1 y1 y1) k
  obtain ⟨r529, lk529, ap529, ak529, cf529, ld529, rd529, f0_529, f1_529, f2_529, f3_529, ⟨lt0_529, lt1_529, lt2_529, lt3_529, lt4_529, lt5_529, lt6_529, lt7_529, lt8_529⟩, F530, F531, F532, F533, F534, F535, F536, F537, F538, F539, F540, F541, F542, F543, F544, F545, F546, F547, F548⟩ := H
  have g_r529 : n0 ≤ r529 := Nat.le_trans lt0_529 (Nat.le_of_lt lt1_529)
  have g_lk529 : n0 ≤ lk529 := Nat.le_trans g_r529 (Nat.le_of_lt lt2_529)
  have g_ap529 : n0 ≤ ap529 := Nat.le_trans g_lk529 (Nat.le_of_lt lt3_529)
  have g_ak529 : n0 ≤ ak529 := Nat.le_trans g_ap529 (Nat.le_of_lt lt4_529)
  have g_cf529 : n0 ≤ cf529 := Nat.le_trans g_ak529 (Nat.le_of_lt lt5_529)
  have g_ld529 : n0 ≤ ld529 := Nat.le_trans g_cf529 (Nat.le_of_lt lt6_529)
  have g_rd529 : n0 ≤ rd529 := Nat.le_trans g_ld529 (Nat.le_of_lt lt7_529)
  have g_y1 : n0 ≤ y1 := Nat.le_trans g_rd529 (Nat.le_of_lt lt8_529)
  have S549 : ∀ t, Steps p.tables e below (s₁.setTop (mkF m 1 #[.val (.ref a1), .val (.int p1), .val (.ref y1), .val (.ref y1), .unset] [(.ref a1)])) t → Steps p.tables e below (s₁.setTop (mkF m 0 #[.val (.ref a1), .val (.int p1), .val (.ref y1), .val (.ref y1), .unset] [])) t := by
    intro t kt
    show Steps p.tables e below (s₁.setTop (mkF m 0 #[.val (.ref a1), .val (.int p1), .val (.ref y1), .val (.ref y1), .unset] [])) _
    refine XS.aloadN X0.here hx rfl (hb hby d12_0) rfl rfl ?_
    exact kt
  obtain ⟨T550, X550, e550, st550⟩ := getF X0 hx hZ hown (host := "") (Or.inl (hw _ (List.mem_of_getElem? (i := 50) rfl))) Via.refl e0 F531 (g := (mkF m 1 #[.val (.ref a1), .val (.int p1), .val (.ref y1), .val (.ref y1), .unset] [(.ref a1)])) rfl rfl (hb hby d12_1)
  have S551 : ∀ t, Steps p.tables e below (T550.setTop (mkF m 21 #[.val (.ref a1), .val (.int p1), .val (.ref y1), .val (.ref y1), .unset] [(.ref a1), (.ref a1)])) t → Steps p.tables e below (T550.setTop (mkF m 4 #[.val (.ref a1), .val (.int p1), .val (.ref y1), .val (.ref y1), .unset] [(.int (3 : Int32))])) t := by
    intro t kt
    show Steps p.tables e below (T550.setTop (mkF m 4 #[.val (.ref a1), .val (.int p1), .val (.ref y1), .val (.ref y1), .unset] [(.int (3 : Int32))])) _
    refine XS.bipush X550.here hx rfl (hb hby d12_4) ?_
    show Steps p.tables e below (T550.setTop (mkF m 6 #[.val (.ref a1), .val (.int p1), .val (.ref y1), .val (.ref y1), .unset] [(.int (64 : Int32)), (.int (3 : Int32))])) _
    refine XS.icmpYes X550.here hx rfl (pc0 := 6) (pc' := 19) rfl (hb hby d12_6) rfl (flt (by decide)).2.2.2 (by decide) (by decide) ?_
    show Steps p.tables e below (T550.setTop (mkF m 19 #[.val (.ref a1), .val (.int p1), .val (.ref y1), .val (.ref y1), .unset] [])) _
    refine XS.aloadN X550.here hx rfl (hb hby d12_19) rfl rfl ?_
    show Steps p.tables e below (T550.setTop (mkF m 20 #[.val (.ref a1), .val (.int p1), .val (.ref y1), .val (.ref y1), .unset] [(.ref a1)])) _
    refine XS.dup X550.here hx rfl (hb hby d12_20) rfl rfl ?_
    exact kt
  obtain ⟨T552, X552, e552, st552⟩ := getF X550 hx hZ hown (host := "") (Or.inl (hw _ (List.mem_of_getElem? (i := 73) rfl))) Via.refl e550 F532 (g := (mkF m 21 #[.val (.ref a1), .val (.int p1), .val (.ref y1), .val (.ref y1), .unset] [(.ref a1), (.ref a1)])) rfl rfl (hb hby d12_21)
  have S553 : ∀ t, Steps p.tables e below (T552.setTop (mkF m 26 #[.val (.ref a1), .val (.int p1), .val (.ref y1), .val (.ref y1), .unset] [(.int ((Int32.ofNat (k + 1)) - (1 : Int32))), (.ref a1)])) t → Steps p.tables e below (T552.setTop (mkF m 24 #[.val (.ref a1), .val (.int p1), .val (.ref y1), .val (.ref y1), .unset] [(.int (Int32.ofNat (k + 1))), (.ref a1)])) t := by
    intro t kt
    show Steps p.tables e below (T552.setTop (mkF m 24 #[.val (.ref a1), .val (.int p1), .val (.ref y1), .val (.ref y1), .unset] [(.int (Int32.ofNat (k + 1))), (.ref a1)])) _
    refine XS.iconst X552.here hx rfl (hb hby d12_24) ?_
    show Steps p.tables e below (T552.setTop (mkF m 25 #[.val (.ref a1), .val (.int p1), .val (.ref y1), .val (.ref y1), .unset] [(.int (1 : Int32)), (.int (Int32.ofNat (k + 1))), (.ref a1)])) _
    refine XS.isub X552.here hx rfl (hb hby d12_25) rfl ?_
    exact kt
  have S554 : ∀ t, Steps p.tables e below (T552.setTop (mkF m 26 #[.val (.ref a1), .val (.int p1), .val (.ref y1), .val (.ref y1), .unset] [(.int (Int32.ofNat k)), (.ref a1)])) t → Steps p.tables e below (T552.setTop (mkF m 26 #[.val (.ref a1), .val (.int p1), .val (.ref y1), .val (.ref y1), .unset] [(.int ((Int32.ofNat (k + 1)) - (1 : Int32))), (.ref a1)])) t := fun t k => by rw [(own_pred hk)]; exact k
  have S555 : ∀ t, Steps p.tables e below (T552.setTop (mkF m 27 #[.val (.ref a1), .val (.int p1), .val (.ref y1), .val (.ref y1), .unset] [(.int (Int32.ofNat k)), (.ref a1), (.int (Int32.ofNat k))])) t → Steps p.tables e below (T552.setTop (mkF m 26 #[.val (.ref a1), .val (.int p1), .val (.ref y1), .val (.ref y1), .unset] [(.int (Int32.ofNat k)), (.ref a1)])) t := by
    intro t kt
    show Steps p.tables e below (T552.setTop (mkF m 26 #[.val (.ref a1), .val (.int p1), .val (.ref y1), .val (.ref y1), .unset] [(.int (Int32.ofNat k)), (.ref a1)])) _
    refine XS.dupX1 X552.here hx rfl (hb hby d12_26) rfl rfl rfl ?_
    exact kt
  obtain ⟨T556, h556, X556, e556, W556, st556⟩ := putF X552 hx hZ hown (host := "") (Or.inl (hw _ (List.mem_of_getElem? (i := 73) rfl))) Via.refl e552 F532 F530 (Or.inl (hw _ (List.mem_of_getElem? (i := 74) rfl))) (hw _ (List.mem_of_getElem? (i := 3) rfl)) (ty := .int) (by decide) rfl rfl (g := (mkF m 27 #[.val (.ref a1), .val (.int p1), .val (.ref y1), .val (.ref y1), .unset] [(.int (Int32.ofNat k)), (.ref a1), (.int (Int32.ofNat k))])) rfl rfl (hb hby d12_27)
  have z557 : n0 ≤ h556.size := Nat.le_trans Z0 (Keep.of_wr W556).1
  have N558 := Fr.snoc X556 N0 lt0_529
  have Fw556 := F532.same W556
  have S559 : ∀ t, Steps p.tables e below (T556.setTop (mkF m 33 #[.val (.ref a1), .val (.int p1), .val (.ref y1), .val (.ref y1), .val (.int (Int32.ofNat k))] [(.ref a1)])) t → Steps p.tables e below (T556.setTop (mkF m 30 #[.val (.ref a1), .val (.int p1), .val (.ref y1), .val (.ref y1), .unset] [(.int (Int32.ofNat k))])) t := by
    intro t kt
    show Steps p.tables e below (T556.setTop (mkF m 30 #[.val (.ref a1), .val (.int p1), .val (.ref y1), .val (.ref y1), .unset] [(.int (Int32.ofNat k))])) _
    refine XS.istore X556.here hx rfl (hb hby d12_30) rfl (l' := #[.val (.ref a1), .val (.int p1), .val (.ref y1), .val (.ref y1), .val (.int (Int32.ofNat k))]) rfl ?_
    show Steps p.tables e below (T556.setTop (mkF m 32 #[.val (.ref a1), .val (.int p1), .val (.ref y1), .val (.ref y1), .val (.int (Int32.ofNat k))] [])) _
    refine XS.aloadN X556.here hx rfl (hb hby d12_32) rfl rfl ?_
    exact kt
  have f560 := (F533.other W556 (Or.inr (slot_ne (Or.inr (hw _ (List.mem_of_getElem? (i := 63) rfl))) (Or.inl (hw _ (List.mem_of_getElem? (i := 74) rfl))) (by decide) (t := (.array .int)) (t' := .int) (by decide) (by decide))))
  obtain ⟨T561, X561, e561, st561⟩ := getF X556 hx hZ hown (host := "") (Or.inl (hw _ (List.mem_of_getElem? (i := 62) rfl))) Via.refl e556 f560 (g := (mkF m 33 #[.val (.ref a1), .val (.int p1), .val (.ref y1), .val (.ref y1), .val (.int (Int32.ofNat k))] [(.ref a1)])) rfl rfl (hb hby d12_33)
  have S562 : ∀ t, Steps p.tables e below (T561.setTop (mkF m 39 #[.val (.ref a1), .val (.int p1), .val (.ref y1), .val (.ref y1), .val (.int (Int32.ofNat k))] [(.int (2 : Int32)), (.int (Int32.ofNat k)), (.ref r529)])) t → Steps p.tables e below (T561.setTop (mkF m 36 #[.val (.ref a1), .val (.int p1), .val (.ref y1), .val (.ref y1), .val (.int (Int32.ofNat k))] [(.ref r529)])) t := by
    intro t kt
    show Steps p.tables e below (T561.setTop (mkF m 36 #[.val (.ref a1), .val (.int p1), .val (.ref y1), .val (.ref y1), .val (.int (Int32.ofNat k))] [(.ref r529)])) _
    refine XS.iload X561.here hx rfl (hb hby d12_36) rfl ?_
    show Steps p.tables e below (T561.setTop (mkF m 38 #[.val (.ref a1), .val (.int p1), .val (.ref y1), .val (.ref y1), .val (.int (Int32.ofNat k))] [(.int (Int32.ofNat k)), (.ref r529)])) _
    refine XS.iconst X561.here hx rfl (hb hby d12_38) ?_
    exact kt
  have f563 := (F540.other W556 (Ne.symm (Nat.ne_of_lt lt1_529)))
  obtain ⟨T564, h564, X564, e564, W564, V564, st564⟩ := ArF.stI X561 hx hZ e561 f563 (i := k) (own_on (by omega)) (by omega) (g := (mkF m 39 #[.val (.ref a1), .val (.int p1), .val (.ref y1), .val (.ref y1), .val (.int (Int32.ofNat k))] [(.int (2 : Int32)), (.int (Int32.ofNat k)), (.ref r529)])) rfl rfl (hb hby d12_39)
  have z565 : n0 ≤ h564.size := Nat.le_trans z557 (Keep.of_wr W564).1
  have N566 := Fr.snoc X564 N558 g_r529
  have S567 : ∀ t, Steps p.tables e below (T564.setTop (mkF m 41 #[.val (.ref a1), .val (.int p1), .val (.ref y1), .val (.ref y1), .val (.int (Int32.ofNat k))] [(.ref a1)])) t → Steps p.tables e below (T564.setTop (mkF m 40 #[.val (.ref a1), .val (.int p1), .val (.ref y1), .val (.ref y1), .val (.int (Int32.ofNat k))] [])) t := by
    intro t kt
    show Steps p.tables e below (T564.setTop (mkF m 40 #[.val (.ref a1), .val (.int p1), .val (.ref y1), .val (.ref y1), .val (.int (Int32.ofNat k))] [])) _
    refine XS.aloadN X564.here hx rfl (hb hby d12_40) rfl rfl ?_
    exact kt
  have f568 := ((F534.other W556 (Or.inr (slot_ne (Or.inr (hw _ (List.mem_of_getElem? (i := 66) rfl))) (Or.inl (hw _ (List.mem_of_getElem? (i := 74) rfl))) (by decide) (t := (.array .boolean)) (t' := .int) (by decide) (by decide)))).other W564 (Or.inl (Nat.ne_of_lt lt1_529)))
  obtain ⟨T569, X569, e569, st569⟩ := getF X564 hx hZ hown (host := "") (Or.inl (hw _ (List.mem_of_getElem? (i := 65) rfl))) Via.refl e564 f568 (g := (mkF m 41 #[.val (.ref a1), .val (.int p1), .val (.ref y1), .val (.ref y1), .val (.int (Int32.ofNat k))] [(.ref a1)])) rfl rfl (hb hby d12_41)
  have S570 : ∀ t, Steps p.tables e below (T569.setTop (mkF m 47 #[.val (.ref a1), .val (.int p1), .val (.ref y1), .val (.ref y1), .val (.int (Int32.ofNat k))] [(.int (1 : Int32)), (.int (Int32.ofNat k)), (.ref lk529)])) t → Steps p.tables e below (T569.setTop (mkF m 44 #[.val (.ref a1), .val (.int p1), .val (.ref y1), .val (.ref y1), .val (.int (Int32.ofNat k))] [(.ref lk529)])) t := by
    intro t kt
    show Steps p.tables e below (T569.setTop (mkF m 44 #[.val (.ref a1), .val (.int p1), .val (.ref y1), .val (.ref y1), .val (.int (Int32.ofNat k))] [(.ref lk529)])) _
    refine XS.iload X569.here hx rfl (hb hby d12_44) rfl ?_
    show Steps p.tables e below (T569.setTop (mkF m 46 #[.val (.ref a1), .val (.int p1), .val (.ref y1), .val (.ref y1), .val (.int (Int32.ofNat k))] [(.int (Int32.ofNat k)), (.ref lk529)])) _
    refine XS.iconst X569.here hx rfl (hb hby d12_46) ?_
    exact kt
  have f571 := ((F541.other W556 (Ne.symm (Nat.ne_of_lt (Nat.lt_trans lt1_529 lt2_529)))).other W564 (Ne.symm (Nat.ne_of_lt lt2_529)))
  obtain ⟨T572, h572, X572, e572, W572, V572, st572⟩ := ArF.stZ X569 hx hZ e569 f571 (i := k) (own_on (by omega)) (by omega) (g := (mkF m 47 #[.val (.ref a1), .val (.int p1), .val (.ref y1), .val (.ref y1), .val (.int (Int32.ofNat k))] [(.int (1 : Int32)), (.int (Int32.ofNat k)), (.ref lk529)])) rfl rfl (hb hby d12_47)
  have z573 : n0 ≤ h572.size := Nat.le_trans z565 (Keep.of_wr W572).1
  have N574 := Fr.snoc X572 N566 g_lk529
  have S575 : ∀ t, Steps p.tables e below (T572.setTop (mkF m 49 #[.val (.ref a1), .val (.int p1), .val (.ref y1), .val (.ref y1), .val (.int (Int32.ofNat k))] [(.ref a1)])) t → Steps p.tables e below (T572.setTop (mkF m 48 #[.val (.ref a1), .val (.int p1), .val (.ref y1), .val (.ref y1), .val (.int (Int32.ofNat k))] [])) t := by
    intro t kt
    show Steps p.tables e below (T572.setTop (mkF m 48 #[.val (.ref a1), .val (.int p1), .val (.ref y1), .val (.ref y1), .val (.int (Int32.ofNat k))] [])) _
    refine XS.aloadN X572.here hx rfl (hb hby d12_48) rfl rfl ?_
    exact kt
  have f576 := (((F535.other W556 (Or.inr (slot_ne (Or.inr (hw _ (List.mem_of_getElem? (i := 68) rfl))) (Or.inl (hw _ (List.mem_of_getElem? (i := 74) rfl))) (by decide) (t := (.array .boolean)) (t' := .int) (by decide) (by decide)))).other W564 (Or.inl (Nat.ne_of_lt lt1_529))).other W572 (Or.inl (Nat.ne_of_lt (Nat.lt_trans lt1_529 lt2_529))))
  obtain ⟨T577, X577, e577, st577⟩ := getF X572 hx hZ hown (host := "") (Or.inl (hw _ (List.mem_of_getElem? (i := 67) rfl))) Via.refl e572 f576 (g := (mkF m 49 #[.val (.ref a1), .val (.int p1), .val (.ref y1), .val (.ref y1), .val (.int (Int32.ofNat k))] [(.ref a1)])) rfl rfl (hb hby d12_49)
  have S578 : ∀ t, Steps p.tables e below (T577.setTop (mkF m 55 #[.val (.ref a1), .val (.int p1), .val (.ref y1), .val (.ref y1), .val (.int (Int32.ofNat k))] [(.int (1 : Int32)), (.int (Int32.ofNat k)), (.ref ap529)])) t → Steps p.tables e below (T577.setTop (mkF m 52 #[.val (.ref a1), .val (.int p1), .val (.ref y1), .val (.ref y1), .val (.int (Int32.ofNat k))] [(.ref ap529)])) t := by
    intro t kt
    show Steps p.tables e below (T577.setTop (mkF m 52 #[.val (.ref a1), .val (.int p1), .val (.ref y1), .val (.ref y1), .val (.int (Int32.ofNat k))] [(.ref ap529)])) _
    refine XS.iload X577.here hx rfl (hb hby d12_52) rfl ?_
    show Steps p.tables e below (T577.setTop (mkF m 54 #[.val (.ref a1), .val (.int p1), .val (.ref y1), .val (.ref y1), .val (.int (Int32.ofNat k))] [(.int (Int32.ofNat k)), (.ref ap529)])) _
    refine XS.iconst X577.here hx rfl (hb hby d12_54) ?_
    exact kt
  have f579 := (((F542.other W556 (Ne.symm (Nat.ne_of_lt (Nat.lt_trans (Nat.lt_trans lt1_529 lt2_529) lt3_529)))).other W564 (Ne.symm (Nat.ne_of_lt (Nat.lt_trans lt2_529 lt3_529)))).other W572 (Ne.symm (Nat.ne_of_lt lt3_529)))
  obtain ⟨T580, h580, X580, e580, W580, V580, st580⟩ := ArF.stZ X577 hx hZ e577 f579 (i := k) (own_on (by omega)) (by omega) (g := (mkF m 55 #[.val (.ref a1), .val (.int p1), .val (.ref y1), .val (.ref y1), .val (.int (Int32.ofNat k))] [(.int (1 : Int32)), (.int (Int32.ofNat k)), (.ref ap529)])) rfl rfl (hb hby d12_55)
  have z581 : n0 ≤ h580.size := Nat.le_trans z573 (Keep.of_wr W580).1
  have N582 := Fr.snoc X580 N574 g_ap529
  have S583 : ∀ t, Steps p.tables e below (T580.setTop (mkF m 57 #[.val (.ref a1), .val (.int p1), .val (.ref y1), .val (.ref y1), .val (.int (Int32.ofNat k))] [(.ref a1)])) t → Steps p.tables e below (T580.setTop (mkF m 56 #[.val (.ref a1), .val (.int p1), .val (.ref y1), .val (.ref y1), .val (.int (Int32.ofNat k))] [])) t := by
    intro t kt
    show Steps p.tables e below (T580.setTop (mkF m 56 #[.val (.ref a1), .val (.int p1), .val (.ref y1), .val (.ref y1), .val (.int (Int32.ofNat k))] [])) _
    refine XS.aloadN X580.here hx rfl (hb hby d12_56) rfl rfl ?_
    exact kt
  have f584 := ((((F536.other W556 (Or.inr (slot_ne (Or.inr (hw _ (List.mem_of_getElem? (i := 70) rfl))) (Or.inl (hw _ (List.mem_of_getElem? (i := 74) rfl))) (by decide) (t := (.array .int)) (t' := .int) (by decide) (by decide)))).other W564 (Or.inl (Nat.ne_of_lt lt1_529))).other W572 (Or.inl (Nat.ne_of_lt (Nat.lt_trans lt1_529 lt2_529)))).other W580 (Or.inl (Nat.ne_of_lt (Nat.lt_trans (Nat.lt_trans lt1_529 lt2_529) lt3_529))))
  obtain ⟨T585, X585, e585, st585⟩ := getF X580 hx hZ hown (host := "") (Or.inl (hw _ (List.mem_of_getElem? (i := 69) rfl))) Via.refl e580 f584 (g := (mkF m 57 #[.val (.ref a1), .val (.int p1), .val (.ref y1), .val (.ref y1), .val (.int (Int32.ofNat k))] [(.ref a1)])) rfl rfl (hb hby d12_57)
  have S586 : ∀ t, Steps p.tables e below (T585.setTop (mkF m 63 #[.val (.ref a1), .val (.int p1), .val (.ref y1), .val (.ref y1), .val (.int (Int32.ofNat k))] [(.int p1), (.int (Int32.ofNat k)), (.ref ak529)])) t → Steps p.tables e below (T585.setTop (mkF m 60 #[.val (.ref a1), .val (.int p1), .val (.ref y1), .val (.ref y1), .val (.int (Int32.ofNat k))] [(.ref ak529)])) t := by
    intro t kt
    show Steps p.tables e below (T585.setTop (mkF m 60 #[.val (.ref a1), .val (.int p1), .val (.ref y1), .val (.ref y1), .val (.int (Int32.ofNat k))] [(.ref ak529)])) _
    refine XS.iload X585.here hx rfl (hb hby d12_60) rfl ?_
    show Steps p.tables e below (T585.setTop (mkF m 62 #[.val (.ref a1), .val (.int p1), .val (.ref y1), .val (.ref y1), .val (.int (Int32.ofNat k))] [(.int (Int32.ofNat k)), (.ref ak529)])) _
    refine XS.iloadN X585.here hx rfl (hb hby d12_62) rfl ?_
    exact kt
  have f587 := ((((F543.other W556 (Ne.symm (Nat.ne_of_lt (Nat.lt_trans (Nat.lt_trans (Nat.lt_trans lt1_529 lt2_529) lt3_529) lt4_529)))).other W564 (Ne.symm (Nat.ne_of_lt (Nat.lt_trans (Nat.lt_trans lt2_529 lt3_529) lt4_529)))).other W572 (Ne.symm (Nat.ne_of_lt (Nat.lt_trans lt3_529 lt4_529)))).other W580 (Ne.symm (Nat.ne_of_lt lt4_529)))
  obtain ⟨T588, h588, X588, e588, W588, V588, st588⟩ := ArF.stI X585 hx hZ e585 f587 (i := k) (own_on (by omega)) (by omega) (g := (mkF m 63 #[.val (.ref a1), .val (.int p1), .val (.ref y1), .val (.ref y1), .val (.int (Int32.ofNat k))] [(.int p1), (.int (Int32.ofNat k)), (.ref ak529)])) rfl rfl (hb hby d12_63)
  have z589 : n0 ≤ h588.size := Nat.le_trans z581 (Keep.of_wr W588).1
  have N590 := Fr.snoc X588 N582 g_ak529
  have S591 : ∀ t, Steps p.tables e below (T588.setTop (mkF m 65 #[.val (.ref a1), .val (.int p1), .val (.ref y1), .val (.ref y1), .val (.int (Int32.ofNat k))] [(.ref a1)])) t → Steps p.tables e below (T588.setTop (mkF m 64 #[.val (.ref a1), .val (.int p1), .val (.ref y1), .val (.ref y1), .val (.int (Int32.ofNat k))] [])) t := by
    intro t kt
    show Steps p.tables e below (T588.setTop (mkF m 64 #[.val (.ref a1), .val (.int p1), .val (.ref y1), .val (.ref y1), .val (.int (Int32.ofNat k))] [])) _
    refine XS.aloadN X588.here hx rfl (hb hby d12_64) rfl rfl ?_
    exact kt
  have f592 := (((((F538.other W556 (Or.inr (slot_ne (Or.inr (hw _ (List.mem_of_getElem? (i := 78) rfl))) (Or.inl (hw _ (List.mem_of_getElem? (i := 74) rfl))) (by decide) (t := (.array (.array .int))) (t' := .int) (by decide) (by decide)))).other W564 (Or.inl (Nat.ne_of_lt lt1_529))).other W572 (Or.inl (Nat.ne_of_lt (Nat.lt_trans lt1_529 lt2_529)))).other W580 (Or.inl (Nat.ne_of_lt (Nat.lt_trans (Nat.lt_trans lt1_529 lt2_529) lt3_529)))).other W588 (Or.inl (Nat.ne_of_lt (Nat.lt_trans (Nat.lt_trans (Nat.lt_trans lt1_529 lt2_529) lt3_529) lt4_529))))
  obtain ⟨T593, X593, e593, st593⟩ := getF X588 hx hZ hown (host := "") (Or.inl (hw _ (List.mem_of_getElem? (i := 77) rfl))) Via.refl e588 f592 (g := (mkF m 65 #[.val (.ref a1), .val (.int p1), .val (.ref y1), .val (.ref y1), .val (.int (Int32.ofNat k))] [(.ref a1)])) rfl rfl (hb hby d12_65)
  have S594 : ∀ t, Steps p.tables e below (T593.setTop (mkF m 71 #[.val (.ref a1), .val (.int p1), .val (.ref y1), .val (.ref y1), .val (.int (Int32.ofNat k))] [(.ref y1), (.int (Int32.ofNat k)), (.ref ld529)])) t → Steps p.tables e below (T593.setTop (mkF m 68 #[.val (.ref a1), .val (.int p1), .val (.ref y1), .val (.ref y1), .val (.int (Int32.ofNat k))] [(.ref ld529)])) t := by
    intro t kt
    show Steps p.tables e below (T593.setTop (mkF m 68 #[.val (.ref a1), .val (.int p1), .val (.ref y1), .val (.ref y1), .val (.int (Int32.ofNat k))] [(.ref ld529)])) _
    refine XS.iload X593.here hx rfl (hb hby d12_68) rfl ?_
    show Steps p.tables e below (T593.setTop (mkF m 70 #[.val (.ref a1), .val (.int p1), .val (.ref y1), .val (.ref y1), .val (.int (Int32.ofNat k))] [(.int (Int32.ofNat k)), (.ref ld529)])) _
    refine XS.aloadN X593.here hx rfl (hb hby d12_70) rfl rfl ?_
    exact kt
  have f595 := (((((F545.other W556 (Ne.symm (Nat.ne_of_lt (Nat.lt_trans (Nat.lt_trans (Nat.lt_trans (Nat.lt_trans (Nat.lt_trans lt1_529 lt2_529) lt3_529) lt4_529) lt5_529) lt6_529)))).other W564 (Ne.symm (Nat.ne_of_lt (Nat.lt_trans (Nat.lt_trans (Nat.lt_trans (Nat.lt_trans lt2_529 lt3_529) lt4_529) lt5_529) lt6_529)))).other W572 (Ne.symm (Nat.ne_of_lt (Nat.lt_trans (Nat.lt_trans (Nat.lt_trans lt3_529 lt4_529) lt5_529) lt6_529)))).other W580 (Ne.symm (Nat.ne_of_lt (Nat.lt_trans (Nat.lt_trans lt4_529 lt5_529) lt6_529)))).other W588 (Ne.symm (Nat.ne_of_lt (Nat.lt_trans lt5_529 lt6_529))))
  have f597 := (((((F547.wr W556).wr W564).wr W572).wr W580).wr W588)
  obtain ⟨T596, h596, X596, e596, W596, V596, st596⟩ := ArR.st X593 hx hZ e593 f595 f597 (i := k) (own_on (by omega)) (by omega) (g := (mkF m 71 #[.val (.ref a1), .val (.int p1), .val (.ref y1), .val (.ref y1), .val (.int (Int32.ofNat k))] [(.ref y1), (.int (Int32.ofNat k)), (.ref ld529)])) rfl rfl (hb hby d12_71)
  have z598 : n0 ≤ h596.size := Nat.le_trans z589 (Keep.of_wr W596).1
  have N599 := Fr.snoc X596 N590 g_ld529
  have S600 : ∀ t, Steps p.tables e below (T596.setTop (mkF m 73 #[.val (.ref a1), .val (.int p1), .val (.ref y1), .val (.ref y1), .val (.int (Int32.ofNat k))] [(.ref a1)])) t → Steps p.tables e below (T596.setTop (mkF m 72 #[.val (.ref a1), .val (.int p1), .val (.ref y1), .val (.ref y1), .val (.int (Int32.ofNat k))] [])) t := by
    intro t kt
    show Steps p.tables e below (T596.setTop (mkF m 72 #[.val (.ref a1), .val (.int p1), .val (.ref y1), .val (.ref y1), .val (.int (Int32.ofNat k))] [])) _
    refine XS.aloadN X596.here hx rfl (hb hby d12_72) rfl rfl ?_
    exact kt
  have f601 := ((((((F539.other W556 (Or.inr (slot_ne (Or.inr (hw _ (List.mem_of_getElem? (i := 80) rfl))) (Or.inl (hw _ (List.mem_of_getElem? (i := 74) rfl))) (by decide) (t := (.array (.array .int))) (t' := .int) (by decide) (by decide)))).other W564 (Or.inl (Nat.ne_of_lt lt1_529))).other W572 (Or.inl (Nat.ne_of_lt (Nat.lt_trans lt1_529 lt2_529)))).other W580 (Or.inl (Nat.ne_of_lt (Nat.lt_trans (Nat.lt_trans lt1_529 lt2_529) lt3_529)))).other W588 (Or.inl (Nat.ne_of_lt (Nat.lt_trans (Nat.lt_trans (Nat.lt_trans lt1_529 lt2_529) lt3_529) lt4_529)))).other W596 (Or.inl (Nat.ne_of_lt (Nat.lt_trans (Nat.lt_trans (Nat.lt_trans (Nat.lt_trans (Nat.lt_trans lt1_529 lt2_529) lt3_529) lt4_529) lt5_529) lt6_529))))
  obtain ⟨T602, X602, e602, st602⟩ := getF X596 hx hZ hown (host := "") (Or.inl (hw _ (List.mem_of_getElem? (i := 79) rfl))) Via.refl e596 f601 (g := (mkF m 73 #[.val (.ref a1), .val (.int p1), .val (.ref y1), .val (.ref y1), .val (.int (Int32.ofNat k))] [(.ref a1)])) rfl rfl (hb hby d12_73)
  have S603 : ∀ t, Steps p.tables e below (T602.setTop (mkF m 79 #[.val (.ref a1), .val (.int p1), .val (.ref y1), .val (.ref y1), .val (.int (Int32.ofNat k))] [(.ref y1), (.int (Int32.ofNat k)), (.ref rd529)])) t → Steps p.tables e below (T602.setTop (mkF m 76 #[.val (.ref a1), .val (.int p1), .val (.ref y1), .val (.ref y1), .val (.int (Int32.ofNat k))] [(.ref rd529)])) t := by
    intro t kt
    show Steps p.tables e below (T602.setTop (mkF m 76 #[.val (.ref a1), .val (.int p1), .val (.ref y1), .val (.ref y1), .val (.int (Int32.ofNat k))] [(.ref rd529)])) _
    refine XS.iload X602.here hx rfl (hb hby d12_76) rfl ?_
    show Steps p.tables e below (T602.setTop (mkF m 78 #[.val (.ref a1), .val (.int p1), .val (.ref y1), .val (.ref y1), .val (.int (Int32.ofNat k))] [(.int (Int32.ofNat k)), (.ref rd529)])) _
    refine XS.aloadN X602.here hx rfl (hb hby d12_78) rfl rfl ?_
    exact kt
  have f604 := ((((((F546.other W556 (Ne.symm (Nat.ne_of_lt (Nat.lt_trans (Nat.lt_trans (Nat.lt_trans (Nat.lt_trans (Nat.lt_trans (Nat.lt_trans lt1_529 lt2_529) lt3_529) lt4_529) lt5_529) lt6_529) lt7_529)))).other W564 (Ne.symm (Nat.ne_of_lt (Nat.lt_trans (Nat.lt_trans (Nat.lt_trans (Nat.lt_trans (Nat.lt_trans lt2_529 lt3_529) lt4_529) lt5_529) lt6_529) lt7_529)))).other W572 (Ne.symm (Nat.ne_of_lt (Nat.lt_trans (Nat.lt_trans (Nat.lt_trans (Nat.lt_trans lt3_529 lt4_529) lt5_529) lt6_529) lt7_529)))).other W580 (Ne.symm (Nat.ne_of_lt (Nat.lt_trans (Nat.lt_trans (Nat.lt_trans lt4_529 lt5_529) lt6_529) lt7_529)))).other W588 (Ne.symm (Nat.ne_of_lt (Nat.lt_trans (Nat.lt_trans lt5_529 lt6_529) lt7_529)))).other W596 (Ne.symm (Nat.ne_of_lt lt7_529)))
  have f606 := (f597.wr W596)
  obtain ⟨T605, h605, X605, e605, W605, V605, st605⟩ := ArR.st X602 hx hZ e602 f604 f606 (i := k) (own_on (by omega)) (by omega) (g := (mkF m 79 #[.val (.ref a1), .val (.int p1), .val (.ref y1), .val (.ref y1), .val (.int (Int32.ofNat k))] [(.ref y1), (.int (Int32.ofNat k)), (.ref rd529)])) rfl rfl (hb hby d12_79)
  have z607 : n0 ≤ h605.size := Nat.le_trans z598 (Keep.of_wr W605).1
  have N608 := Fr.snoc X605 N599 g_rd529
  have S609 : ∀ t, Steps p.tables e below (T605.setTop (mkF m 81 #[.val (.ref a1), .val (.int p1), .val (.ref y1), .val (.ref y1), .val (.int (Int32.ofNat k))] [(.ref a1)])) t → Steps p.tables e below (T605.setTop (mkF m 80 #[.val (.ref a1), .val (.int p1), .val (.ref y1), .val (.ref y1), .val (.int (Int32.ofNat k))] [])) t := by
    intro t kt
    show Steps p.tables e below (T605.setTop (mkF m 80 #[.val (.ref a1), .val (.int p1), .val (.ref y1), .val (.ref y1), .val (.int (Int32.ofNat k))] [])) _
    refine XS.aloadN X605.here hx rfl (hb hby d12_80) rfl rfl ?_
    exact kt
  have f610 := (((((((F537.other W556 (Or.inr (slot_ne (Or.inr (hw _ (List.mem_of_getElem? (i := 72) rfl))) (Or.inl (hw _ (List.mem_of_getElem? (i := 74) rfl))) (by decide) (t := (.array .long)) (t' := .int) (by decide) (by decide)))).other W564 (Or.inl (Nat.ne_of_lt lt1_529))).other W572 (Or.inl (Nat.ne_of_lt (Nat.lt_trans lt1_529 lt2_529)))).other W580 (Or.inl (Nat.ne_of_lt (Nat.lt_trans (Nat.lt_trans lt1_529 lt2_529) lt3_529)))).other W588 (Or.inl (Nat.ne_of_lt (Nat.lt_trans (Nat.lt_trans (Nat.lt_trans lt1_529 lt2_529) lt3_529) lt4_529)))).other W596 (Or.inl (Nat.ne_of_lt (Nat.lt_trans (Nat.lt_trans (Nat.lt_trans (Nat.lt_trans (Nat.lt_trans lt1_529 lt2_529) lt3_529) lt4_529) lt5_529) lt6_529)))).other W605 (Or.inl (Nat.ne_of_lt (Nat.lt_trans (Nat.lt_trans (Nat.lt_trans (Nat.lt_trans (Nat.lt_trans (Nat.lt_trans lt1_529 lt2_529) lt3_529) lt4_529) lt5_529) lt6_529) lt7_529))))
  obtain ⟨T611, X611, e611, st611⟩ := getF X605 hx hZ hown (host := "") (Or.inl (hw _ (List.mem_of_getElem? (i := 71) rfl))) Via.refl e605 f610 (g := (mkF m 81 #[.val (.ref a1), .val (.int p1), .val (.ref y1), .val (.ref y1), .val (.int (Int32.ofNat k))] [(.ref a1)])) rfl rfl (hb hby d12_81)
  have S612 : ∀ t, Steps p.tables e below (T611.setTop (mkF m 90 #[.val (.ref a1), .val (.int p1), .val (.ref y1), .val (.ref y1), .val (.int (Int32.ofNat k))] [(.ref a1), (.long (2 : Int64)), (.int (Int32.ofNat k)), (.ref cf529)])) t → Steps p.tables e below (T611.setTop (mkF m 84 #[.val (.ref a1), .val (.int p1), .val (.ref y1), .val (.ref y1), .val (.int (Int32.ofNat k))] [(.ref cf529)])) t := by
    intro t kt
    show Steps p.tables e below (T611.setTop (mkF m 84 #[.val (.ref a1), .val (.int p1), .val (.ref y1), .val (.ref y1), .val (.int (Int32.ofNat k))] [(.ref cf529)])) _
    refine XS.iload X611.here hx rfl (hb hby d12_84) rfl ?_
    show Steps p.tables e below (T611.setTop (mkF m 86 #[.val (.ref a1), .val (.int p1), .val (.ref y1), .val (.ref y1), .val (.int (Int32.ofNat k))] [(.int (Int32.ofNat k)), (.ref cf529)])) _
    refine X611.ldc2Long hx hown (mvT hZ (hw _ (List.mem_of_getElem? (i := 108) rfl))) (g := (mkF m 86 #[.val (.ref a1), .val (.int p1), .val (.ref y1), .val (.ref y1), .val (.int (Int32.ofNat k))] [(.int (Int32.ofNat k)), (.ref cf529)])) rfl (hb hby d12_86) _ ?_
    show Steps p.tables e below (T611.setTop (mkF m 89 #[.val (.ref a1), .val (.int p1), .val (.ref y1), .val (.ref y1), .val (.int (Int32.ofNat k))] [(.long (2 : Int64)), (.int (Int32.ofNat k)), (.ref cf529)])) _
    refine XS.aloadN X611.here hx rfl (hb hby d12_89) rfl rfl ?_
    exact kt
  obtain ⟨T613, X613, e613, st613⟩ := getF X611 hx hZ hown (host := "") (Or.inl (hw _ (List.mem_of_getElem? (i := 71) rfl))) Via.refl e611 f610 (g := (mkF m 90 #[.val (.ref a1), .val (.int p1), .val (.ref y1), .val (.ref y1), .val (.int (Int32.ofNat k))] [(.ref a1), (.long (2 : Int64)), (.int (Int32.ofNat k)), (.ref cf529)])) rfl rfl (hb hby d12_90)
  have S614 : ∀ t, Steps p.tables e below (T613.setTop (mkF m 97 #[.val (.ref a1), .val (.int p1), .val (.ref y1), .val (.ref y1), .val (.int (Int32.ofNat k))] [(.int ((Int32.ofNat k) + (1 : Int32))), (.ref cf529), (.long (2 : Int64)), (.int (Int32.ofNat k)), (.ref cf529)])) t → Steps p.tables e below (T613.setTop (mkF m 93 #[.val (.ref a1), .val (.int p1), .val (.ref y1), .val (.ref y1), .val (.int (Int32.ofNat k))] [(.ref cf529), (.long (2 : Int64)), (.int (Int32.ofNat k)), (.ref cf529)])) t := by
    intro t kt
    show Steps p.tables e below (T613.setTop (mkF m 93 #[.val (.ref a1), .val (.int p1), .val (.ref y1), .val (.ref y1), .val (.int (Int32.ofNat k))] [(.ref cf529), (.long (2 : Int64)), (.int (Int32.ofNat k)), (.ref cf529)])) _
    refine XS.iload X613.here hx rfl (hb hby d12_93) rfl ?_
    show Steps p.tables e below (T613.setTop (mkF m 95 #[.val (.ref a1), .val (.int p1), .val (.ref y1), .val (.ref y1), .val (.int (Int32.ofNat k))] [(.int (Int32.ofNat k)), (.ref cf529), (.long (2 : Int64)), (.int (Int32.ofNat k)), (.ref cf529)])) _
    refine XS.iconst X613.here hx rfl (hb hby d12_95) ?_
    show Steps p.tables e below (T613.setTop (mkF m 96 #[.val (.ref a1), .val (.int p1), .val (.ref y1), .val (.ref y1), .val (.int (Int32.ofNat k))] [(.int (1 : Int32)), (.int (Int32.ofNat k)), (.ref cf529), (.long (2 : Int64)), (.int (Int32.ofNat k)), (.ref cf529)])) _
    refine XS.iadd X613.here hx rfl (hb hby d12_96) rfl ?_
    exact kt
  have f615 := (((((((F544.other W556 (Ne.symm (Nat.ne_of_lt (Nat.lt_trans (Nat.lt_trans (Nat.lt_trans (Nat.lt_trans lt1_529 lt2_529) lt3_529) lt4_529) lt5_529)))).other W564 (Ne.symm (Nat.ne_of_lt (Nat.lt_trans (Nat.lt_trans (Nat.lt_trans lt2_529 lt3_529) lt4_529) lt5_529)))).other W572 (Ne.symm (Nat.ne_of_lt (Nat.lt_trans (Nat.lt_trans lt3_529 lt4_529) lt5_529)))).other W580 (Ne.symm (Nat.ne_of_lt (Nat.lt_trans lt4_529 lt5_529)))).other W588 (Ne.symm (Nat.ne_of_lt lt5_529))).other W596 (Nat.ne_of_lt lt6_529)).other W605 (Nat.ne_of_lt (Nat.lt_trans lt6_529 lt7_529)))
  have S616 : ∀ t, Steps p.tables e below (T613.setTop (mkF m 99 #[.val (.ref a1), .val (.int p1), .val (.ref y1), .val (.ref y1), .val (.int (Int32.ofNat k))] [(.long ((2 : Int64) * (cv (k + 1)))), (.int (Int32.ofNat k)), (.ref cf529)])) t → Steps p.tables e below (T613.setTop (mkF m 97 #[.val (.ref a1), .val (.int p1), .val (.ref y1), .val (.ref y1), .val (.int (Int32.ofNat k))] [(.int ((Int32.ofNat k) + (1 : Int32))), (.ref cf529), (.long (2 : Int64)), (.int (Int32.ofNat k)), (.ref cf529)])) t := by
    intro t kt
    show Steps p.tables e below (T613.setTop (mkF m 97 #[.val (.ref a1), .val (.int p1), .val (.ref y1), .val (.ref y1), .val (.int (Int32.ofNat k))] [(.int ((Int32.ofNat k) + (1 : Int32))), (.ref cf529), (.long (2 : Int64)), (.int (Int32.ofNat k)), (.ref cf529)])) _
    refine ArF.ldJ X613 hx hZ e613 f615 (i := (k + 1)) (own_succ hk) (by omega) (v := (cv (k + 1))) rfl (g := (mkF m 97 #[.val (.ref a1), .val (.int p1), .val (.ref y1), .val (.ref y1), .val (.int (Int32.ofNat k))] [(.int ((Int32.ofNat k) + (1 : Int32))), (.ref cf529), (.long (2 : Int64)), (.int (Int32.ofNat k)), (.ref cf529)])) rfl rfl (hb hby d12_97) _ ?_
    show Steps p.tables e below (T613.setTop (mkF m 98 #[.val (.ref a1), .val (.int p1), .val (.ref y1), .val (.ref y1), .val (.int (Int32.ofNat k))] [(.long (cv (k + 1))), (.long (2 : Int64)), (.int (Int32.ofNat k)), (.ref cf529)])) _
    refine XS.lmul X613.here hx rfl (hb hby d12_98) rfl ?_
    exact kt
  obtain ⟨T617, h617, X617, e617, W617, V617, st617⟩ := ArF.stJ X613 hx hZ e613 f615 (i := k) (own_on (by omega)) (by omega) (g := (mkF m 99 #[.val (.ref a1), .val (.int p1), .val (.ref y1), .val (.ref y1), .val (.int (Int32.ofNat k))] [(.long ((2 : Int64) * (cv (k + 1)))), (.int (Int32.ofNat k)), (.ref cf529)])) rfl rfl (hb hby d12_99)
  have z618 : n0 ≤ h617.size := Nat.le_trans z607 (Keep.of_wr W617).1
  have N619 := Fr.snoc X617 N608 g_cf529
  have V617' := V617.congr (f' := (fun q => (.long (own_put cv k ((2 : Int64) * cv (k + 1)) q)))) (fun q hq => by simp only [own_put]; split <;> rfl)
  have C620 : ∀ t, Steps p.tables e below (T617.setTop (mkF m 100 #[.val (.ref a1), .val (.int p1), .val (.ref y1), .val (.ref y1), .val (.int (Int32.ofNat k))] [])) t → Steps p.tables e below (s₁.setTop (mkF m 0 #[.val (.ref a1), .val (.int p1), .val (.ref y1), .val (.ref y1), .unset] [])) t := (fun t k => (S549 t (st550 t (S551 t (st552 t (S553 t (S554 t (S555 t (st556 t (S559 t (st561 t (S562 t (st564 t (S567 t (st569 t (S570 t (st572 t (S575 t (st577 t (S578 t (st580 t (S583 t (st585 t (S586 t (st588 t (S591 t (st593 t (S594 t (st596 t (S600 t (st602 t (S603 t (st605 t (S609 t (st611 t (S612 t (st613 t (S614 t (S616 t (st617 t k))))))))))))))))))))))))))))))))))))))))
  obtain ⟨fs, hr, hrun, hended, hW, hsame⟩ := X617.leave (v := none) (fun _ => rfl)
  refine ⟨_, _, pre0 _ (C620 _ ?_), hrun, hended, _, _, rfl, ?_, ⟨_, rfl⟩, hW, hsame.mono (by decide) (by decide)⟩
  · exact X617.returnOut hx Bd.returns (hb hby d12_100) hr
  · show Q_rm12 Z a1 y1 p1 k cv h0 n0 _ T617.heap _
    rw [e617]
    have f621 := ((((((((F530.wr W556).wr W564).wr W572).wr W580).wr W588).wr W596).wr W605).wr W617)
    have f622 := ((((((((F531.other W556 (Or.inr (slot_ne (Or.inr (hw _ (List.mem_of_getElem? (i := 51) rfl))) (Or.inl (hw _ (List.mem_of_getElem? (i := 74) rfl))) (by decide) (t := .int) (t' := .int) (by decide) (by decide)))).other W564 (Or.inl (Nat.ne_of_lt lt1_529))).other W572 (Or.inl (Nat.ne_of_lt (Nat.lt_trans lt1_529 lt2_529)))).other W580 (Or.inl (Nat.ne_of_lt (Nat.lt_trans (Nat.lt_trans lt1_529 lt2_529) lt3_529)))).other W588 (Or.inl (Nat.ne_of_lt (Nat.lt_trans (Nat.lt_trans (Nat.lt_trans lt1_529 lt2_529) lt3_529) lt4_529)))).other W596 (Or.inl (Nat.ne_of_lt (Nat.lt_trans (Nat.lt_trans (Nat.lt_trans (Nat.lt_trans (Nat.lt_trans lt1_529 lt2_529) lt3_529) lt4_529) lt5_529) lt6_529)))).other W605 (Or.inl (Nat.ne_of_lt (Nat.lt_trans (Nat.lt_trans (Nat.lt_trans (Nat.lt_trans (Nat.lt_trans (Nat.lt_trans lt1_529 lt2_529) lt3_529) lt4_529) lt5_529) lt6_529) lt7_529)))).other W617 (Or.inl (Nat.ne_of_lt (Nat.lt_trans (Nat.lt_trans (Nat.lt_trans (Nat.lt_trans lt1_529 lt2_529) lt3_529) lt4_529) lt5_529))))
    have f623 := (((((((Fw556.other W564 (Or.inl (Nat.ne_of_lt lt1_529))).other W572 (Or.inl (Nat.ne_of_lt (Nat.lt_trans lt1_529 lt2_529)))).other W580 (Or.inl (Nat.ne_of_lt (Nat.lt_trans (Nat.lt_trans lt1_529 lt2_529) lt3_529)))).other W588 (Or.inl (Nat.ne_of_lt (Nat.lt_trans (Nat.lt_trans (Nat.lt_trans lt1_529 lt2_529) lt3_529) lt4_529)))).other W596 (Or.inl (Nat.ne_of_lt (Nat.lt_trans (Nat.lt_trans (Nat.lt_trans (Nat.lt_trans (Nat.lt_trans lt1_529 lt2_529) lt3_529) lt4_529) lt5_529) lt6_529)))).other W605 (Or.inl (Nat.ne_of_lt (Nat.lt_trans (Nat.lt_trans (Nat.lt_trans (Nat.lt_trans (Nat.lt_trans (Nat.lt_trans lt1_529 lt2_529) lt3_529) lt4_529) lt5_529) lt6_529) lt7_529)))).other W617 (Or.inl (Nat.ne_of_lt (Nat.lt_trans (Nat.lt_trans (Nat.lt_trans (Nat.lt_trans lt1_529 lt2_529) lt3_529) lt4_529) lt5_529))))
    have f624 := (((((((f560.other W564 (Or.inl (Nat.ne_of_lt lt1_529))).other W572 (Or.inl (Nat.ne_of_lt (Nat.lt_trans lt1_529 lt2_529)))).other W580 (Or.inl (Nat.ne_of_lt (Nat.lt_trans (Nat.lt_trans lt1_529 lt2_529) lt3_529)))).other W588 (Or.inl (Nat.ne_of_lt (Nat.lt_trans (Nat.lt_trans (Nat.lt_trans lt1_529 lt2_529) lt3_529) lt4_529)))).other W596 (Or.inl (Nat.ne_of_lt (Nat.lt_trans (Nat.lt_trans (Nat.lt_trans (Nat.lt_trans (Nat.lt_trans lt1_529 lt2_529) lt3_529) lt4_529) lt5_529) lt6_529)))).other W605 (Or.inl (Nat.ne_of_lt (Nat.lt_trans (Nat.lt_trans (Nat.lt_trans (Nat.lt_trans (Nat.lt_trans (Nat.lt_trans lt1_529 lt2_529) lt3_529) lt4_529) lt5_529) lt6_529) lt7_529)))).other W617 (Or.inl (Nat.ne_of_lt (Nat.lt_trans (Nat.lt_trans (Nat.lt_trans (Nat.lt_trans lt1_529 lt2_529) lt3_529) lt4_529) lt5_529))))
    have f625 := ((((((f568.other W572 (Or.inl (Nat.ne_of_lt (Nat.lt_trans lt1_529 lt2_529)))).other W580 (Or.inl (Nat.ne_of_lt (Nat.lt_trans (Nat.lt_trans lt1_529 lt2_529) lt3_529)))).other W588 (Or.inl (Nat.ne_of_lt (Nat.lt_trans (Nat.lt_trans (Nat.lt_trans lt1_529 lt2_529) lt3_529) lt4_529)))).other W596 (Or.inl (Nat.ne_of_lt (Nat.lt_trans (Nat.lt_trans (Nat.lt_trans (Nat.lt_trans (Nat.lt_trans lt1_529 lt2_529) lt3_529) lt4_529) lt5_529) lt6_529)))).other W605 (Or.inl (Nat.ne_of_lt (Nat.lt_trans (Nat.lt_trans (Nat.lt_trans (Nat.lt_trans (Nat.lt_trans (Nat.lt_trans lt1_529 lt2_529) lt3_529) lt4_529) lt5_529) lt6_529) lt7_529)))).other W617 (Or.inl (Nat.ne_of_lt (Nat.lt_trans (Nat.lt_trans (Nat.lt_trans (Nat.lt_trans lt1_529 lt2_529) lt3_529) lt4_529) lt5_529))))
    have f626 := (((((f576.other W580 (Or.inl (Nat.ne_of_lt (Nat.lt_trans (Nat.lt_trans lt1_529 lt2_529) lt3_529)))).other W588 (Or.inl (Nat.ne_of_lt (Nat.lt_trans (Nat.lt_trans (Nat.lt_trans lt1_529 lt2_529) lt3_529) lt4_529)))).other W596 (Or.inl (Nat.ne_of_lt (Nat.lt_trans (Nat.lt_trans (Nat.lt_trans (Nat.lt_trans (Nat.lt_trans lt1_529 lt2_529) lt3_529) lt4_529) lt5_529) lt6_529)))).other W605 (Or.inl (Nat.ne_of_lt (Nat.lt_trans (Nat.lt_trans (Nat.lt_trans (Nat.lt_trans (Nat.lt_trans (Nat.lt_trans lt1_529 lt2_529) lt3_529) lt4_529) lt5_529) lt6_529) lt7_529)))).other W617 (Or.inl (Nat.ne_of_lt (Nat.lt_trans (Nat.lt_trans (Nat.lt_trans (Nat.lt_trans lt1_529 lt2_529) lt3_529) lt4_529) lt5_529))))
    have f627 := ((((f584.other W588 (Or.inl (Nat.ne_of_lt (Nat.lt_trans (Nat.lt_trans (Nat.lt_trans lt1_529 lt2_529) lt3_529) lt4_529)))).other W596 (Or.inl (Nat.ne_of_lt (Nat.lt_trans (Nat.lt_trans (Nat.lt_trans (Nat.lt_trans (Nat.lt_trans lt1_529 lt2_529) lt3_529) lt4_529) lt5_529) lt6_529)))).other W605 (Or.inl (Nat.ne_of_lt (Nat.lt_trans (Nat.lt_trans (Nat.lt_trans (Nat.lt_trans (Nat.lt_trans (Nat.lt_trans lt1_529 lt2_529) lt3_529) lt4_529) lt5_529) lt6_529) lt7_529)))).other W617 (Or.inl (Nat.ne_of_lt (Nat.lt_trans (Nat.lt_trans (Nat.lt_trans (Nat.lt_trans lt1_529 lt2_529) lt3_529) lt4_529) lt5_529))))
    have f628 := (f610.other W617 (Or.inl (Nat.ne_of_lt (Nat.lt_trans (Nat.lt_trans (Nat.lt_trans (Nat.lt_trans lt1_529 lt2_529) lt3_529) lt4_529) lt5_529))))
    have f629 := (((f592.other W596 (Or.inl (Nat.ne_of_lt (Nat.lt_trans (Nat.lt_trans (Nat.lt_trans (Nat.lt_trans (Nat.lt_trans lt1_529 lt2_529) lt3_529) lt4_529) lt5_529) lt6_529)))).other W605 (Or.inl (Nat.ne_of_lt (Nat.lt_trans (Nat.lt_trans (Nat.lt_trans (Nat.lt_trans (Nat.lt_trans (Nat.lt_trans lt1_529 lt2_529) lt3_529) lt4_529) lt5_529) lt6_529) lt7_529)))).other W617 (Or.inl (Nat.ne_of_lt (Nat.lt_trans (Nat.lt_trans (Nat.lt_trans (Nat.lt_trans lt1_529 lt2_529) lt3_529) lt4_529) lt5_529))))
    have f630 := ((f601.other W605 (Or.inl (Nat.ne_of_lt (Nat.lt_trans (Nat.lt_trans (Nat.lt_trans (Nat.lt_trans (Nat.lt_trans (Nat.lt_trans lt1_529 lt2_529) lt3_529) lt4_529) lt5_529) lt6_529) lt7_529)))).other W617 (Or.inl (Nat.ne_of_lt (Nat.lt_trans (Nat.lt_trans (Nat.lt_trans (Nat.lt_trans lt1_529 lt2_529) lt3_529) lt4_529) lt5_529))))
    have f631 := ((((((V564.other W572 (Nat.ne_of_lt lt2_529)).other W580 (Nat.ne_of_lt (Nat.lt_trans lt2_529 lt3_529))).other W588 (Nat.ne_of_lt (Nat.lt_trans (Nat.lt_trans lt2_529 lt3_529) lt4_529))).other W596 (Nat.ne_of_lt (Nat.lt_trans (Nat.lt_trans (Nat.lt_trans (Nat.lt_trans lt2_529 lt3_529) lt4_529) lt5_529) lt6_529))).other W605 (Nat.ne_of_lt (Nat.lt_trans (Nat.lt_trans (Nat.lt_trans (Nat.lt_trans (Nat.lt_trans lt2_529 lt3_529) lt4_529) lt5_529) lt6_529) lt7_529))).other W617 (Nat.ne_of_lt (Nat.lt_trans (Nat.lt_trans (Nat.lt_trans lt2_529 lt3_529) lt4_529) lt5_529)))
    have f632 := (((((V572.other W580 (Nat.ne_of_lt lt3_529)).other W588 (Nat.ne_of_lt (Nat.lt_trans lt3_529 lt4_529))).other W596 (Nat.ne_of_lt (Nat.lt_trans (Nat.lt_trans (Nat.lt_trans lt3_529 lt4_529) lt5_529) lt6_529))).other W605 (Nat.ne_of_lt (Nat.lt_trans (Nat.lt_trans (Nat.lt_trans (Nat.lt_trans lt3_529 lt4_529) lt5_529) lt6_529) lt7_529))).other W617 (Nat.ne_of_lt (Nat.lt_trans (Nat.lt_trans lt3_529 lt4_529) lt5_529)))
    have f633 := ((((V580.other W588 (Nat.ne_of_lt lt4_529)).other W596 (Nat.ne_of_lt (Nat.lt_trans (Nat.lt_trans lt4_529 lt5_529) lt6_529))).other W605 (Nat.ne_of_lt (Nat.lt_trans (Nat.lt_trans (Nat.lt_trans lt4_529 lt5_529) lt6_529) lt7_529))).other W617 (Nat.ne_of_lt (Nat.lt_trans lt4_529 lt5_529)))
    have f634 := (((V588.other W596 (Nat.ne_of_lt (Nat.lt_trans lt5_529 lt6_529))).other W605 (Nat.ne_of_lt (Nat.lt_trans (Nat.lt_trans lt5_529 lt6_529) lt7_529))).other W617 (Nat.ne_of_lt lt5_529))
    have f635 := ((V596.other W605 (Nat.ne_of_lt lt7_529)).other W617 (Ne.symm (Nat.ne_of_lt lt6_529)))
    have f636 := (V605.other W617 (Ne.symm (Nat.ne_of_lt (Nat.lt_trans lt6_529 lt7_529))))
    have f637 := ((f606.wr W605).wr W617)
    have f638 := ((((((((F548.other W556 (Ne.symm (Nat.ne_of_lt (Nat.lt_trans (Nat.lt_trans (Nat.lt_trans (Nat.lt_trans (Nat.lt_trans (Nat.lt_trans (Nat.lt_trans lt1_529 lt2_529) lt3_529) lt4_529) lt5_529) lt6_529) lt7_529) lt8_529)))).other W564 (Ne.symm (Nat.ne_of_lt (Nat.lt_trans (Nat.lt_trans (Nat.lt_trans (Nat.lt_trans (Nat.lt_trans (Nat.lt_trans lt2_529 lt3_529) lt4_529) lt5_529) lt6_529) lt7_529) lt8_529)))).other W572 (Ne.symm (Nat.ne_of_lt (Nat.lt_trans (Nat.lt_trans (Nat.lt_trans (Nat.lt_trans (Nat.lt_trans lt3_529 lt4_529) lt5_529) lt6_529) lt7_529) lt8_529)))).other W580 (Ne.symm (Nat.ne_of_lt (Nat.lt_trans (Nat.lt_trans (Nat.lt_trans (Nat.lt_trans lt4_529 lt5_529) lt6_529) lt7_529) lt8_529)))).other W588 (Ne.symm (Nat.ne_of_lt (Nat.lt_trans (Nat.lt_trans (Nat.lt_trans lt5_529 lt6_529) lt7_529) lt8_529)))).other W596 (Ne.symm (Nat.ne_of_lt (Nat.lt_trans lt7_529 lt8_529)))).other W605 (Ne.symm (Nat.ne_of_lt lt8_529))).other W617 (Ne.symm (Nat.ne_of_lt (Nat.lt_trans (Nat.lt_trans lt6_529 lt7_529) lt8_529))))
    exact ⟨rfl, N619, z618, ⟨r529, lk529, ap529, ak529, cf529, ld529, rd529, _, _, _, _, ⟨lt0_529, lt1_529, lt2_529, lt3_529, lt4_529, lt5_529, lt6_529, lt7_529, lt8_529⟩, f621, f622, f623, f624, f625, f626, f627, f628, f629, f630, f631, f632, f633, f634, V617', f635, f636, f637, f638⟩⟩

theorem own_KG_exa {Z : State} {h : Heap} {n0 : Nat} {a y : Addr} {k : Nat} {cv : Nat → Int64} (H : own_KG Z h n0 a y k cv) : Exa Z h a "com/example/joinery/joinery/KeyGrid" := by
  obtain ⟨r, lk, ap, ak, cf, ld, rd, f1, f2, f3, f4, -, E, -⟩ := H
  exact E

theorem own_radA {keys bits : Int32} (h : ¬ (bits &&& (2 : Int32)) = (0 : Int32)) : own_rad keys bits = 2 := by unfold own_rad; rw [if_neg h]
theorem own_radG {keys bits z : Int32} (h : (bits &&& (2 : Int32)) = (0 : Int32)) (hz : z = if (bits &&& (1 : Int32)) = (0 : Int32) then (0 : Int32) else (1 : Int32)) : own_rad keys bits = own_giv keys z := by
  unfold own_rad own_giv
  rw [if_pos h, hz]
  by_cases q : (bits &&& (1 : Int32)) = (0 : Int32)
  · simp [q]
  · simp [q]
theorem ef_rm7 (m : MethodId) (x0 : Addr) (x1 : Int32) (x2 : Int32) (x3 : Addr) : entryFrame m #[(.ref x0), (.int x1), (.int x2), (.ref x3)] 4 = mkF m 0 #[.val (.ref x0), .val (.int x1), .val (.int x2), .val (.ref x3)] [] := by first | (simp [entryFrame, mkF, argsToLocals, Value.category]; done) | rfl
def Q_rm7 (Z : State) (a1 : Addr) (y1 : Addr) (p1 : Int32) (b1 : Int32) (k : Nat) (cv : Nat → Int64) (h0 : Heap) (n0 : Nat) (v : Option Value) (h : Heap) (L : List Loc) : Prop := v = none ∧ Fr n0 L ∧ n0 ≤ h.size ∧ own_KG Z h n0 a1 y1 k (own_put cv k (own_rad p1 b1 * cv (k + 1)))
set_option maxRecDepth 65536 in
set_option maxHeartbeats 40000000 in
theorem rm7 (l : Launch) (Z : State) (a0 : Array Value) (hw : ∀ d ∈ tables_1, d.before a0 Z = true) (ws : List Jvm.Cond) (a1 : Addr) (y1 : Addr) (p1 : Int32) (b1 : Int32) (k : Nat) (cv : Nat → Int64) (h0 : Heap) (n0 : Nat) (Z0 : n0 ≤ h0.size) (H : own_KG Z h0 n0 a1 y1 (k + 1) cv) (hk : k < 3) (hp : 0 ≤ p1.toInt ∧ p1.toInt ≤ 65535) :
    MetFree l (⟨"com/example/joinery/joinery/KeyGridFitsPinLaw", "giveName", "(Lcom/example/joinery/joinery/KeyGrid;II[I)V"⟩ : MethodName) (head1 (Jvm.Cond.code (⟨"com/example/joinery/joinery/KeyGridFitsPinLaw", "giveName", "(Lcom/example/joinery/joinery/KeyGrid;II[I)V"⟩ : MethodName) method_2_code 4 none :: ws) ({ frames := 2, cells := 0, slots := 0, locals := 30 } : Room)) (fun a U => a = #[(.ref a1), (.int p1), (.int b1), (.ref y1)] ∧ Z.Warmed39 U.vm ∧ U.heap = h0) (fun _ _ _ _ _ => True) (fun _ U o U' => ∃ v L, o = .returned v ∧ Q_rm7 Z a1 y1 p1 b1 k cv h0 n0 v U'.heap L ∧ FrameEnd U o U' L ({ frames := 2, cells := 0, slots := 0, locals := 30 } : Room).cells ({ frames := 2, cells := 0, slots := 0, locals := 30 } : Room).slots) := by
  refine MetFree.of_bodySF (plainFor_of_name pn_2) hisR ?_
  intro p e s m args below meth c s₁ Bd hml0 hP hK
  obtain ⟨rfl, hZ, hh⟩ := hP
  have hx := Bd.exec
  have hby := Bd.bytes
  have hml : c.maxLocals = 4 := hml0
  have hown : s.vm.findClass "com/example/joinery/joinery/KeyGridFitsPinLaw" = some m.cls := findClass_of_methodNamed Bd.named
  have hnm := (name_of_methodNamed Bd.named Bd.method).1
  have X0 : Stand p l e ({ frames := 2, cells := 0, slots := 0, locals := 30 } : Room) s m #[(.ref a1), (.int p1), (.int b1), (.ref y1)] below meth c s₁ [] 0 0 := Stand.of_body Bd
  have e0 : s₁.heap = h0 := by rw [← hh, Bd.state]; rfl
  have N0 := Fr.nil n0
  have pre0 : ∀ t, Steps p.tables e below (s₁.setTop (mkF m 0 #[.val (.ref a1), .val (.int p1), .val (.int b1), .val (.ref y1)] [])) t → Steps p.tables e below (s₁.setTop (entryFrame m #[(.ref a1), (.int p1), (.int b1), (.ref y1)] 4)) t := fun t k => castTop (ef_rm7 m a1 p1 b1 y1) k
  have hE := own_KG_exa H
  have S639 : ∀ t, Steps p.tables e below (s₁.setTop (mkF m 3 #[.val (.ref a1), .val (.int p1), .val (.int b1), .val (.ref y1)] [(.int (b1 &&& (2 : Int32)))])) t → Steps p.tables e below (s₁.setTop (mkF m 0 #[.val (.ref a1), .val (.int p1), .val (.int b1), .val (.ref y1)] [])) t := by
    intro t kt
    show Steps p.tables e below (s₁.setTop (mkF m 0 #[.val (.ref a1), .val (.int p1), .val (.int b1), .val (.ref y1)] [])) _
    refine XS.iloadN X0.here hx rfl (hb hby d7_0) rfl ?_
    show Steps p.tables e below (s₁.setTop (mkF m 1 #[.val (.ref a1), .val (.int p1), .val (.int b1), .val (.ref y1)] [(.int b1)])) _
    refine XS.iconst X0.here hx rfl (hb hby d7_1) ?_
    show Steps p.tables e below (s₁.setTop (mkF m 2 #[.val (.ref a1), .val (.int p1), .val (.int b1), .val (.ref y1)] [(.int (2 : Int32)), (.int b1)])) _
    refine XS.iand X0.here hx rfl (hb hby d7_2) rfl ?_
    exact kt
  by_cases hc640 : (b1 &&& (2 : Int32)) = (0 : Int32)
  · have S641 : ∀ t, Steps p.tables e below (s₁.setTop (mkF m 21 #[.val (.ref a1), .val (.int p1), .val (.int b1), .val (.ref y1)] [(.int (b1 &&& (1 : Int32))), (.int p1), (.ref a1)])) t → Steps p.tables e below (s₁.setTop (mkF m 3 #[.val (.ref a1), .val (.int p1), .val (.int b1), .val (.ref y1)] [(.int (b1 &&& (2 : Int32)))])) t := by
      intro t kt
      show Steps p.tables e below (s₁.setTop (mkF m 3 #[.val (.ref a1), .val (.int p1), .val (.int b1), .val (.ref y1)] [(.int (b1 &&& (2 : Int32)))])) _
      refine XS.ifYes X0.here hx rfl (pc0 := 3) (pc' := 16) rfl (hb hby d7_3) rfl ((if0 _ _).trans (teq hc640).1) (by decide) (by decide) ?_
      show Steps p.tables e below (s₁.setTop (mkF m 16 #[.val (.ref a1), .val (.int p1), .val (.int b1), .val (.ref y1)] [])) _
      refine XS.aloadN X0.here hx rfl (hb hby d7_16) rfl rfl ?_
      show Steps p.tables e below (s₁.setTop (mkF m 17 #[.val (.ref a1), .val (.int p1), .val (.int b1), .val (.ref y1)] [(.ref a1)])) _
      refine XS.iloadN X0.here hx rfl (hb hby d7_17) rfl ?_
      show Steps p.tables e below (s₁.setTop (mkF m 18 #[.val (.ref a1), .val (.int p1), .val (.int b1), .val (.ref y1)] [(.int p1), (.ref a1)])) _
      refine XS.iloadN X0.here hx rfl (hb hby d7_18) rfl ?_
      show Steps p.tables e below (s₁.setTop (mkF m 19 #[.val (.ref a1), .val (.int p1), .val (.int b1), .val (.ref y1)] [(.int b1), (.int p1), (.ref a1)])) _
      refine XS.iconst X0.here hx rfl (hb hby d7_19) ?_
      show Steps p.tables e below (s₁.setTop (mkF m 20 #[.val (.ref a1), .val (.int p1), .val (.int b1), .val (.ref y1)] [(.int (1 : Int32)), (.int b1), (.int p1), (.ref a1)])) _
      refine XS.iand X0.here hx rfl (hb hby d7_20) rfl ?_
      exact kt
    obtain ⟨v644, hv644⟩ : ∃ z : Int32, z = (if (b1 &&& (1 : Int32)) = (0 : Int32) then (0 : Int32) else (1 : Int32)) := ⟨_, rfl⟩
    have S643 : ∀ t, Steps p.tables e below (s₁.setTop (mkF m 29 #[.val (.ref a1), .val (.int p1), .val (.int b1), .val (.ref y1)] [(.int v644), (.int p1), (.ref a1)])) t → Steps p.tables e below (s₁.setTop (mkF m 21 #[.val (.ref a1), .val (.int p1), .val (.int b1), .val (.ref y1)] [(.int (b1 &&& (1 : Int32))), (.int p1), (.ref a1)])) t := by
      intro t kt
      subst hv644
      by_cases hc642 : (b1 &&& (1 : Int32)) = (0 : Int32)
      · simp only [if_pos hc642] at kt
        show Steps p.tables e below (s₁.setTop (mkF m 21 #[.val (.ref a1), .val (.int p1), .val (.int b1), .val (.ref y1)] [(.int (b1 &&& (1 : Int32))), (.int p1), (.ref a1)])) _
        refine XS.ifYes X0.here hx rfl (pc0 := 21) (pc' := 28) rfl (hb hby d7_21) rfl ((if0 _ _).trans (teq hc642).1) (by decide) (by decide) ?_
        show Steps p.tables e below (s₁.setTop (mkF m 28 #[.val (.ref a1), .val (.int p1), .val (.int b1), .val (.ref y1)] [(.int p1), (.ref a1)])) _
        refine XS.iconst X0.here hx rfl (hb hby d7_28) ?_
        exact kt
      · simp only [if_neg hc642] at kt
        show Steps p.tables e below (s₁.setTop (mkF m 21 #[.val (.ref a1), .val (.int p1), .val (.int b1), .val (.ref y1)] [(.int (b1 &&& (1 : Int32))), (.int p1), (.ref a1)])) _
        refine XS.ifNo X0.here hx rfl (hb hby d7_21) rfl ((if0 _ _).trans (feq hc642).1) ?_
        show Steps p.tables e below (s₁.setTop (mkF m 24 #[.val (.ref a1), .val (.int p1), .val (.int b1), .val (.ref y1)] [(.int p1), (.ref a1)])) _
        refine XS.iconst X0.here hx rfl (hb hby d7_24) ?_
        show Steps p.tables e below (s₁.setTop (mkF m 25 #[.val (.ref a1), .val (.int p1), .val (.int b1), .val (.ref y1)] [(.int (1 : Int32)), (.int p1), (.ref a1)])) _
        refine XS.goto X0.here hx rfl (pc0 := 25) (pc' := 29) rfl (hb hby d7_25) (by decide) (by decide) ?_
        exact kt
    have S645 : ∀ t, Steps p.tables e below (s₁.setTop (mkF m 31 #[.val (.ref a1), .val (.int p1), .val (.int b1), .val (.ref y1)] [(.ref y1), (.ref y1), (.int v644), (.int p1), (.ref a1)])) t → Steps p.tables e below (s₁.setTop (mkF m 29 #[.val (.ref a1), .val (.int p1), .val (.int b1), .val (.ref y1)] [(.int v644), (.int p1), (.ref a1)])) t := by
      intro t kt
      show Steps p.tables e below (s₁.setTop (mkF m 29 #[.val (.ref a1), .val (.int p1), .val (.int b1), .val (.ref y1)] [(.int v644), (.int p1), (.ref a1)])) _
      refine XS.aloadN X0.here hx rfl (hb hby d7_29) rfl rfl ?_
      show Steps p.tables e below (s₁.setTop (mkF m 30 #[.val (.ref a1), .val (.int p1), .val (.int b1), .val (.ref y1)] [(.ref y1), (.int v644), (.int p1), (.ref a1)])) _
      refine XS.aloadN X0.here hx rfl (hb hby d7_30) rfl rfl ?_
      exact kt
    obtain ⟨cq646, kq646, q646a, q646b, q646c⟩ := isOf hZ e0 hE
    obtain ⟨_, _, ⟨T646, L646, k646, n646⟩, -, X646, ⟨Lc646, hQ646, l646, y646, z646⟩, st646⟩ := X0.virtualBack hx (y := (⟨"com/example/joinery/joinery/KeyGrid", "give", "(IZ[I[I)V"⟩ : MethodName)) (z := (⟨"com/example/joinery/joinery/KeyGrid", "give", "(IZ[I[I)V"⟩ : MethodName)) hown (mvT hZ (hw _ (List.mem_of_getElem? (i := 85) rfl))) (mvT hZ (hw _ (List.mem_of_getElem? (i := 86) rfl))) (notFace_of_selects (args := #[]) (mvT hZ (hw _ (List.mem_of_getElem? (i := 88) rfl)))) (mvT hZ (hw _ (List.mem_of_getElem? (i := 88) rfl))) (mvT hZ (hw _ (List.mem_of_getElem? (i := 87) rfl))) (by decide) (backOf (W := 0) (rm8 l Z a0 hw [] a1 y1 p1 v644 k cv h0 n0 Z0 H hk hp) hZ (hw _ (List.mem_of_getElem? (i := 89) rfl)) (hw _ (List.mem_of_getElem? (i := 4) rfl)) (by decide) (by decide)) q646a q646c (g := (mkF m 31 #[.val (.ref a1), .val (.int p1), .val (.int b1), .val (.ref y1)] [(.ref y1), (.ref y1), (.int v644), (.int p1), (.ref a1)])) rfl (by rw [hml]; rfl) (Steps.refl _) (argsL := [(.int p1), (.int v644), (.ref y1), (.ref y1)]) (rest := []) (lenOf pd_5 rfl) rfl (by show 2 * 0 + _ ≤ _; exact Nat.le_of_eq rfl) (hb hby d7_31) (fun _ _ => ⟨rfl, e0, (by decide : 0 + 0 ≤ _), (by decide : 0 + 0 ≤ _)⟩)
    dsimp only [Pt.U, Pt.locs, Pt.cells, Pt.slots] at X646 l646 y646 z646 st646 hQ646
    subst l646 y646 z646
    obtain ⟨h646, e646⟩ : ∃ z, T646.heap = z := ⟨_, rfl⟩
    rw [e646] at hQ646
    obtain ⟨rfl, N646q, z647, hG⟩ := hQ646
    have N646 := Fr.app N0 N646q
    have C648 : ∀ t, Steps p.tables e below (T646.setTop (mkF m 34 #[.val (.ref a1), .val (.int p1), .val (.int b1), .val (.ref y1)] [])) t → Steps p.tables e below (s₁.setTop (mkF m 0 #[.val (.ref a1), .val (.int p1), .val (.int b1), .val (.ref y1)] [])) t := (fun t k => (S639 t (S641 t (S643 t (S645 t (st646.trans k))))))
    obtain ⟨fs, hr, hrun, hended, hW, hsame⟩ := X646.leave (v := none) (fun _ => rfl)
    refine ⟨_, _, pre0 _ (C648 _ ?_), hrun, hended, _, _, rfl, ?_, ⟨_, rfl⟩, hW, hsame.mono (by decide) (by decide)⟩
    · exact X646.returnOut hx Bd.returns (hb hby d7_34) hr
    · show Q_rm7 Z a1 y1 p1 b1 k cv h0 n0 _ T646.heap _
      rw [e646]
      exact ⟨rfl, N646, z647, by rw [own_radG (z := v644) hc640 hv644] at *; exact hG⟩
  · have S649 : ∀ t, Steps p.tables e below (s₁.setTop (mkF m 10 #[.val (.ref a1), .val (.int p1), .val (.int b1), .val (.ref y1)] [(.ref y1), (.ref y1), (.int p1), (.ref a1)])) t → Steps p.tables e below (s₁.setTop (mkF m 3 #[.val (.ref a1), .val (.int p1), .val (.int b1), .val (.ref y1)] [(.int (b1 &&& (2 : Int32)))])) t := by
      intro t kt
      show Steps p.tables e below (s₁.setTop (mkF m 3 #[.val (.ref a1), .val (.int p1), .val (.int b1), .val (.ref y1)] [(.int (b1 &&& (2 : Int32)))])) _
      refine XS.ifNo X0.here hx rfl (hb hby d7_3) rfl ((if0 _ _).trans (feq hc640).1) ?_
      show Steps p.tables e below (s₁.setTop (mkF m 6 #[.val (.ref a1), .val (.int p1), .val (.int b1), .val (.ref y1)] [])) _
      refine XS.aloadN X0.here hx rfl (hb hby d7_6) rfl rfl ?_
      show Steps p.tables e below (s₁.setTop (mkF m 7 #[.val (.ref a1), .val (.int p1), .val (.int b1), .val (.ref y1)] [(.ref a1)])) _
      refine XS.iloadN X0.here hx rfl (hb hby d7_7) rfl ?_
      show Steps p.tables e below (s₁.setTop (mkF m 8 #[.val (.ref a1), .val (.int p1), .val (.int b1), .val (.ref y1)] [(.int p1), (.ref a1)])) _
      refine XS.aloadN X0.here hx rfl (hb hby d7_8) rfl rfl ?_
      show Steps p.tables e below (s₁.setTop (mkF m 9 #[.val (.ref a1), .val (.int p1), .val (.int b1), .val (.ref y1)] [(.ref y1), (.int p1), (.ref a1)])) _
      refine XS.aloadN X0.here hx rfl (hb hby d7_9) rfl rfl ?_
      exact kt
    obtain ⟨cq650, kq650, q650a, q650b, q650c⟩ := isOf hZ e0 hE
    obtain ⟨_, _, ⟨T650, L650, k650, n650⟩, -, X650, ⟨Lc650, hQ650, l650, y650, z650⟩, st650⟩ := X0.virtualBack hx (y := (⟨"com/example/joinery/joinery/KeyGrid", "giveApart", "(I[I[I)V"⟩ : MethodName)) (z := (⟨"com/example/joinery/joinery/KeyGrid", "giveApart", "(I[I[I)V"⟩ : MethodName)) hown (mvT hZ (hw _ (List.mem_of_getElem? (i := 103) rfl))) (mvT hZ (hw _ (List.mem_of_getElem? (i := 104) rfl))) (notFace_of_selects (args := #[]) (mvT hZ (hw _ (List.mem_of_getElem? (i := 106) rfl)))) (mvT hZ (hw _ (List.mem_of_getElem? (i := 106) rfl))) (mvT hZ (hw _ (List.mem_of_getElem? (i := 105) rfl))) (by decide) (backOf (W := 0) (rm12 l Z a0 hw [] a1 y1 p1 k cv h0 n0 Z0 H hk) hZ (hw _ (List.mem_of_getElem? (i := 107) rfl)) (hw _ (List.mem_of_getElem? (i := 4) rfl)) (by decide) (by decide)) q650a q650c (g := (mkF m 10 #[.val (.ref a1), .val (.int p1), .val (.int b1), .val (.ref y1)] [(.ref y1), (.ref y1), (.int p1), (.ref a1)])) rfl (by rw [hml]; rfl) (Steps.refl _) (argsL := [(.int p1), (.ref y1), (.ref y1)]) (rest := []) (lenOf pd_6 rfl) rfl (by show 2 * 0 + _ ≤ _; exact Nat.le_of_eq rfl) (hb hby d7_10) (fun _ _ => ⟨rfl, e0, (by decide : 0 + 0 ≤ _), (by decide : 0 + 0 ≤ _)⟩)
    dsimp only [Pt.U, Pt.locs, Pt.cells, Pt.slots] at X650 l650 y650 z650 st650 hQ650
    subst l650 y650 z650
    obtain ⟨h650, e650⟩ : ∃ z, T650.heap = z := ⟨_, rfl⟩
    rw [e650] at hQ650
    obtain ⟨rfl, N650q, z651, hG⟩ := hQ650
    have N650 := Fr.app N0 N650q
    have S652 : ∀ t, Steps p.tables e below (T650.setTop (mkF m 34 #[.val (.ref a1), .val (.int p1), .val (.int b1), .val (.ref y1)] [])) t → Steps p.tables e below (T650.setTop (mkF m 13 #[.val (.ref a1), .val (.int p1), .val (.int b1), .val (.ref y1)] [])) t := by
      intro t kt
      show Steps p.tables e below (T650.setTop (mkF m 13 #[.val (.ref a1), .val (.int p1), .val (.int b1), .val (.ref y1)] [])) _
      refine XS.goto X650.here hx rfl (pc0 := 13) (pc' := 34) rfl (hb hby d7_13) (by decide) (by decide) ?_
      exact kt
    have C653 : ∀ t, Steps p.tables e below (T650.setTop (mkF m 34 #[.val (.ref a1), .val (.int p1), .val (.int b1), .val (.ref y1)] [])) t → Steps p.tables e below (s₁.setTop (mkF m 0 #[.val (.ref a1), .val (.int p1), .val (.int b1), .val (.ref y1)] [])) t := (fun t k => (S639 t (S649 t (st650.trans (S652 t k)))))
    obtain ⟨fs, hr, hrun, hended, hW, hsame⟩ := X650.leave (v := none) (fun _ => rfl)
    refine ⟨_, _, pre0 _ (C653 _ ?_), hrun, hended, _, _, rfl, ?_, ⟨_, rfl⟩, hW, hsame.mono (by decide) (by decide)⟩
    · exact X650.returnOut hx Bd.returns (hb hby d7_34) hr
    · show Q_rm7 Z a1 y1 p1 b1 k cv h0 n0 _ T650.heap _
      rw [e650]
      exact ⟨rfl, N650, z651, by rw [own_radA hc640]; exact hG⟩

theorem own_nx {k : Nat} {p : Int32} (hk : k ≤ 3) (hn : p.toInt ≤ 3) (h : ¬ p < Int32.ofNat k) : p.toInt = ((p.toInt.toNat : Nat) : Int) ∧ p.toInt.toNat < 4 := by
  rw [Int32.lt_iff_toInt_lt, own_on (by omega)] at h
  omega
theorem ef_rm11 (m : MethodId) (x0 : Addr) (x1 : Int32) (x2 : Int32) : entryFrame m #[(.ref x0), (.int x1), (.int x2)] 3 = mkF m 0 #[.val (.ref x0), .val (.int x1), .val (.int x2)] [] := by first | (simp [entryFrame, mkF, argsToLocals, Value.category]; done) | rfl
def Q_rm11 (Z : State) (a1 : Addr) (y1 : Addr) (p1 : Int32) (p2 : Int32) (k : Nat) (cv : Nat → Int64) (h0 : Heap) (n0 : Nat) (v : Option Value) (h : Heap) (L : List Loc) : Prop := v = some (.int (own_fits cv k p1 p2)) ∧ Fr n0 L ∧ h = h0
set_option maxRecDepth 65536 in
set_option maxHeartbeats 40000000 in
theorem rm11 (l : Launch) (Z : State) (a0 : Array Value) (hw : ∀ d ∈ tables_1, d.before a0 Z = true) (ws : List Jvm.Cond) (a1 : Addr) (y1 : Addr) (p1 : Int32) (p2 : Int32) (k : Nat) (cv : Nat → Int64) (h0 : Heap) (n0 : Nat) (Z0 : n0 ≤ h0.size) (H : own_KG Z h0 n0 a1 y1 k cv) (hk : k ≤ 3) (hn : p2.toInt ≤ 3) :
    MetFree l (⟨"com/example/joinery/joinery/KeyGrid", "fits", "(II)Z"⟩ : MethodName) (head1 (Jvm.Cond.code (⟨"com/example/joinery/joinery/KeyGrid", "fits", "(II)Z"⟩ : MethodName) prog_21_method_12_code 3 (some .boolean) :: ws) ({ frames := 0, cells := 0, slots := 0, locals := 0 } : Room)) (fun a U => a = #[(.ref a1), (.int p1), (.int p2)] ∧ Z.Warmed39 U.vm ∧ U.heap = h0) (fun _ _ _ _ _ => True) (fun _ U o U' => ∃ v L, o = .returned v ∧ Q_rm11 Z a1 y1 p1 p2 k cv h0 n0 v U'.heap L ∧ FrameEnd U o U' L ({ frames := 0, cells := 0, slots := 0, locals := 0 } : Room).cells ({ frames := 0, cells := 0, slots := 0, locals := 0 } : Room).slots) := by
  refine MetFree.of_bodySF (plainFor_of_name pn_0) hisR ?_
  intro p e s m args below meth c s₁ Bd hml0 hP hK
  obtain ⟨rfl, hZ, hh⟩ := hP
  have hx := Bd.exec
  have hby := Bd.bytes
  have hml : c.maxLocals = 3 := hml0
  have hown : s.vm.findClass "com/example/joinery/joinery/KeyGrid" = some m.cls := findClass_of_methodNamed Bd.named
  have hnm := (name_of_methodNamed Bd.named Bd.method).1
  have X0 : Stand p l e ({ frames := 0, cells := 0, slots := 0, locals := 0 } : Room) s m #[(.ref a1), (.int p1), (.int p2)] below meth c s₁ [] 0 0 := Stand.of_body Bd
  have e0 : s₁.heap = h0 := by rw [← hh, Bd.state]; rfl
  have N0 := Fr.nil n0
  have pre0 : ∀ t, Steps p.tables e below (s₁.setTop (mkF m 0 #[.val (.ref a1), .val (.int p1), .val (.int p2)] [])) t → Steps p.tables e below (s₁.setTop (entryFrame m #[(.ref a1), (.int p1), (.int p2)] 3)) t := fun t k => castTop (ef_rm11 m a1 p1 p2) k
  obtain ⟨r654, lk654, ap654, ak654, cf654, ld654, rd654, f0_654, f1_654, f2_654, f3_654, ⟨lt0_654, lt1_654, lt2_654, lt3_654, lt4_654, lt5_654, lt6_654, lt7_654, lt8_654⟩, F655, F656, F657, F658, F659, F660, F661, F662, F663, F664, F665, F666, F667, F668, F669, F670, F671, F672, F673⟩ := H
  have g_r654 : n0 ≤ r654 := Nat.le_trans lt0_654 (Nat.le_of_lt lt1_654)
  have g_lk654 : n0 ≤ lk654 := Nat.le_trans g_r654 (Nat.le_of_lt lt2_654)
  have g_ap654 : n0 ≤ ap654 := Nat.le_trans g_lk654 (Nat.le_of_lt lt3_654)
  have g_ak654 : n0 ≤ ak654 := Nat.le_trans g_ap654 (Nat.le_of_lt lt4_654)
  have g_cf654 : n0 ≤ cf654 := Nat.le_trans g_ak654 (Nat.le_of_lt lt5_654)
  have g_ld654 : n0 ≤ ld654 := Nat.le_trans g_cf654 (Nat.le_of_lt lt6_654)
  have g_rd654 : n0 ≤ rd654 := Nat.le_trans g_ld654 (Nat.le_of_lt lt7_654)
  have g_y1 : n0 ≤ y1 := Nat.le_trans g_rd654 (Nat.le_of_lt lt8_654)
  have S674 : ∀ t, Steps p.tables e below (s₁.setTop (mkF m 2 #[.val (.ref a1), .val (.int p1), .val (.int p2)] [(.ref a1), (.int p2)])) t → Steps p.tables e below (s₁.setTop (mkF m 0 #[.val (.ref a1), .val (.int p1), .val (.int p2)] [])) t := by
    intro t kt
    show Steps p.tables e below (s₁.setTop (mkF m 0 #[.val (.ref a1), .val (.int p1), .val (.int p2)] [])) _
    refine XS.iloadN X0.here hx rfl (hb hby d11_0) rfl ?_
    show Steps p.tables e below (s₁.setTop (mkF m 1 #[.val (.ref a1), .val (.int p1), .val (.int p2)] [(.int p2)])) _
    refine XS.aloadN X0.here hx rfl (hb hby d11_1) rfl rfl ?_
    exact kt
  obtain ⟨T675, X675, e675, st675⟩ := getF X0 hx hZ hown (host := "") (Or.inl (hw _ (List.mem_of_getElem? (i := 73) rfl))) Via.refl e0 F657 (g := (mkF m 2 #[.val (.ref a1), .val (.int p1), .val (.int p2)] [(.ref a1), (.int p2)])) rfl rfl (hb hby d11_2)
  by_cases hc676 : p2 < (Int32.ofNat k)
  · have S677 : ∀ t, Steps p.tables e below (T675.setTop (mkF m 29 #[.val (.ref a1), .val (.int p1), .val (.int p2)] [(.int (0 : Int32))])) t → Steps p.tables e below (T675.setTop (mkF m 5 #[.val (.ref a1), .val (.int p1), .val (.int p2)] [(.int (Int32.ofNat k)), (.int p2)])) t := by
      intro t kt
      show Steps p.tables e below (T675.setTop (mkF m 5 #[.val (.ref a1), .val (.int p1), .val (.int p2)] [(.int (Int32.ofNat k)), (.int p2)])) _
      refine XS.icmpYes X675.here hx rfl (pc0 := 5) (pc' := 28) rfl (hb hby d11_5) rfl (tlt hc676).1 (by decide) (by decide) ?_
      show Steps p.tables e below (T675.setTop (mkF m 28 #[.val (.ref a1), .val (.int p1), .val (.int p2)] [])) _
      refine XS.iconst X675.here hx rfl (hb hby d11_28) ?_
      exact kt
    have C678 : ∀ t, Steps p.tables e below (T675.setTop (mkF m 29 #[.val (.ref a1), .val (.int p1), .val (.int p2)] [(.int (0 : Int32))])) t → Steps p.tables e below (s₁.setTop (mkF m 0 #[.val (.ref a1), .val (.int p1), .val (.int p2)] [])) t := (fun t k => (S674 t (st675 t (S677 t k))))
    obtain ⟨fs, hr, hrun, hended, hW, hsame⟩ := X675.leave (v := some (.int (0 : Int32))) (fun h => by rw [Bd.returns] at h; cases h)
    refine ⟨_, _, pre0 _ (C678 _ ?_), hrun, hended, _, _, rfl, ?_, ⟨_, rfl⟩, hW, hsame.mono (by decide) (by decide)⟩
    · exact retN X675 hx (t := .boolean) Bd.returns (by simp) (hb hby d11_29) hr
    · show Q_rm11 Z a1 y1 p1 p2 k cv h0 n0 _ T675.heap _
      rw [e675]
      exact ⟨by simp only [own_fits, if_pos hc676] <;> rfl, N0, rfl⟩
  · have S679 : ∀ t, Steps p.tables e below (T675.setTop (mkF m 9 #[.val (.ref a1), .val (.int p1), .val (.int p2)] [(.ref a1)])) t → Steps p.tables e below (T675.setTop (mkF m 5 #[.val (.ref a1), .val (.int p1), .val (.int p2)] [(.int (Int32.ofNat k)), (.int p2)])) t := by
      intro t kt
      show Steps p.tables e below (T675.setTop (mkF m 5 #[.val (.ref a1), .val (.int p1), .val (.int p2)] [(.int (Int32.ofNat k)), (.int p2)])) _
      refine XS.icmpNo X675.here hx rfl (hb hby d11_5) rfl (flt hc676).1 ?_
      show Steps p.tables e below (T675.setTop (mkF m 8 #[.val (.ref a1), .val (.int p1), .val (.int p2)] [])) _
      refine XS.aloadN X675.here hx rfl (hb hby d11_8) rfl rfl ?_
      exact kt
    obtain ⟨T680, X680, e680, st680⟩ := getF X675 hx hZ hown (host := "") (Or.inl (hw _ (List.mem_of_getElem? (i := 71) rfl))) Via.refl e675 F662 (g := (mkF m 9 #[.val (.ref a1), .val (.int p1), .val (.int p2)] [(.ref a1)])) rfl rfl (hb hby d11_9)
    have S681 : ∀ t, Steps p.tables e below (T680.setTop (mkF m 21 #[.val (.ref a1), .val (.int p1), .val (.int p2)] [(.int (lcmpW (cv p2.toInt.toNat) ((16 : Int64) * (p1.toInt64))))])) t → Steps p.tables e below (T680.setTop (mkF m 12 #[.val (.ref a1), .val (.int p1), .val (.int p2)] [(.ref cf654)])) t := by
      intro t kt
      show Steps p.tables e below (T680.setTop (mkF m 12 #[.val (.ref a1), .val (.int p1), .val (.int p2)] [(.ref cf654)])) _
      refine XS.iloadN X680.here hx rfl (hb hby d11_12) rfl ?_
      show Steps p.tables e below (T680.setTop (mkF m 13 #[.val (.ref a1), .val (.int p1), .val (.int p2)] [(.int p2), (.ref cf654)])) _
      refine ArF.ldJ X680 hx hZ e680 F669 (i := p2.toInt.toNat) (own_nx hk hn hc676).1 (own_nx hk hn hc676).2 (v := (cv p2.toInt.toNat)) rfl (g := (mkF m 13 #[.val (.ref a1), .val (.int p1), .val (.int p2)] [(.int p2), (.ref cf654)])) rfl rfl (hb hby d11_13) _ ?_
      show Steps p.tables e below (T680.setTop (mkF m 14 #[.val (.ref a1), .val (.int p1), .val (.int p2)] [(.long (cv p2.toInt.toNat))])) _
      refine X680.ldc2Long hx hown (mvT hZ (hw _ (List.mem_of_getElem? (i := 55) rfl))) (g := (mkF m 14 #[.val (.ref a1), .val (.int p1), .val (.int p2)] [(.long (cv p2.toInt.toNat))])) rfl (hb hby d11_14) _ ?_
      show Steps p.tables e below (T680.setTop (mkF m 17 #[.val (.ref a1), .val (.int p1), .val (.int p2)] [(.long (16 : Int64)), (.long (cv p2.toInt.toNat))])) _
      refine XS.iloadN X680.here hx rfl (hb hby d11_17) rfl ?_
      show Steps p.tables e below (T680.setTop (mkF m 18 #[.val (.ref a1), .val (.int p1), .val (.int p2)] [(.int p1), (.long (16 : Int64)), (.long (cv p2.toInt.toNat))])) _
      refine XS.i2l X680.here hx rfl (hb hby d11_18) rfl ?_
      show Steps p.tables e below (T680.setTop (mkF m 19 #[.val (.ref a1), .val (.int p1), .val (.int p2)] [(.long (p1.toInt64)), (.long (16 : Int64)), (.long (cv p2.toInt.toNat))])) _
      refine XS.lmul X680.here hx rfl (hb hby d11_19) rfl ?_
      show Steps p.tables e below (T680.setTop (mkF m 20 #[.val (.ref a1), .val (.int p1), .val (.int p2)] [(.long ((16 : Int64) * (p1.toInt64))), (.long (cv p2.toInt.toNat))])) _
      refine XS.lcmp X680.here hx rfl (hb hby d11_20) rfl ?_
      exact kt
    by_cases hc682 : ((16 : Int64) * (p1.toInt64)) < (cv p2.toInt.toNat)
    · have S683 : ∀ t, Steps p.tables e below (T680.setTop (mkF m 29 #[.val (.ref a1), .val (.int p1), .val (.int p2)] [(.int (0 : Int32))])) t → Steps p.tables e below (T680.setTop (mkF m 21 #[.val (.ref a1), .val (.int p1), .val (.int p2)] [(.int (lcmpW (cv p2.toInt.toNat) ((16 : Int64) * (p1.toInt64))))])) t := by
        intro t kt
        show Steps p.tables e below (T680.setTop (mkF m 21 #[.val (.ref a1), .val (.int p1), .val (.int p2)] [(.int (lcmpW (cv p2.toInt.toNat) ((16 : Int64) * (p1.toInt64))))])) _
        refine XS.ifYes X680.here hx rfl (pc0 := 21) (pc' := 28) rfl (hb hby d11_21) rfl ((if0 _ _).trans (tlt ((lw_gt (cv p2.toInt.toNat) ((16 : Int64) * (p1.toInt64))).mpr hc682)).2.2.1) (by decide) (by decide) ?_
        show Steps p.tables e below (T680.setTop (mkF m 28 #[.val (.ref a1), .val (.int p1), .val (.int p2)] [])) _
        refine XS.iconst X680.here hx rfl (hb hby d11_28) ?_
        exact kt
      have C684 : ∀ t, Steps p.tables e below (T680.setTop (mkF m 29 #[.val (.ref a1), .val (.int p1), .val (.int p2)] [(.int (0 : Int32))])) t → Steps p.tables e below (s₁.setTop (mkF m 0 #[.val (.ref a1), .val (.int p1), .val (.int p2)] [])) t := (fun t k => (S674 t (st675 t (S679 t (st680 t (S681 t (S683 t k)))))))
      obtain ⟨fs, hr, hrun, hended, hW, hsame⟩ := X680.leave (v := some (.int (0 : Int32))) (fun h => by rw [Bd.returns] at h; cases h)
      refine ⟨_, _, pre0 _ (C684 _ ?_), hrun, hended, _, _, rfl, ?_, ⟨_, rfl⟩, hW, hsame.mono (by decide) (by decide)⟩
      · exact retN X680 hx (t := .boolean) Bd.returns (by simp) (hb hby d11_29) hr
      · show Q_rm11 Z a1 y1 p1 p2 k cv h0 n0 _ T680.heap _
        rw [e680]
        exact ⟨by simp only [own_fits, if_neg hc676, if_pos hc682] <;> rfl, N0, rfl⟩
    · have S685 : ∀ t, Steps p.tables e below (T680.setTop (mkF m 29 #[.val (.ref a1), .val (.int p1), .val (.int p2)] [(.int (1 : Int32))])) t → Steps p.tables e below (T680.setTop (mkF m 21 #[.val (.ref a1), .val (.int p1), .val (.int p2)] [(.int (lcmpW (cv p2.toInt.toNat) ((16 : Int64) * (p1.toInt64))))])) t := by
        intro t kt
        show Steps p.tables e below (T680.setTop (mkF m 21 #[.val (.ref a1), .val (.int p1), .val (.int p2)] [(.int (lcmpW (cv p2.toInt.toNat) ((16 : Int64) * (p1.toInt64))))])) _
        refine XS.ifNo X680.here hx rfl (hb hby d11_21) rfl ((if0 _ _).trans (flt (fun q => hc682 ((lw_gt (cv p2.toInt.toNat) ((16 : Int64) * (p1.toInt64))).mp q))).2.2.1) ?_
        show Steps p.tables e below (T680.setTop (mkF m 24 #[.val (.ref a1), .val (.int p1), .val (.int p2)] [])) _
        refine XS.iconst X680.here hx rfl (hb hby d11_24) ?_
        show Steps p.tables e below (T680.setTop (mkF m 25 #[.val (.ref a1), .val (.int p1), .val (.int p2)] [(.int (1 : Int32))])) _
        refine XS.goto X680.here hx rfl (pc0 := 25) (pc' := 29) rfl (hb hby d11_25) (by decide) (by decide) ?_
        exact kt
      have C686 : ∀ t, Steps p.tables e below (T680.setTop (mkF m 29 #[.val (.ref a1), .val (.int p1), .val (.int p2)] [(.int (1 : Int32))])) t → Steps p.tables e below (s₁.setTop (mkF m 0 #[.val (.ref a1), .val (.int p1), .val (.int p2)] [])) t := (fun t k => (S674 t (st675 t (S679 t (st680 t (S681 t (S685 t k)))))))
      obtain ⟨fs, hr, hrun, hended, hW, hsame⟩ := X680.leave (v := some (.int (1 : Int32))) (fun h => by rw [Bd.returns] at h; cases h)
      refine ⟨_, _, pre0 _ (C686 _ ?_), hrun, hended, _, _, rfl, ?_, ⟨_, rfl⟩, hW, hsame.mono (by decide) (by decide)⟩
      · exact retN X680 hx (t := .boolean) Bd.returns (by simp) (hb hby d11_29) hr
      · show Q_rm11 Z a1 y1 p1 p2 k cv h0 n0 _ T680.heap _
        rw [e680]
        exact ⟨by simp only [own_fits, if_neg hc676, if_neg hc682] <;> rfl, N0, rfl⟩

theorem own_n4 (x v : Int32) (h : v = x &&& (3 : Int32)) : v = 0 ∨ v = 1 ∨ v = 2 ∨ v = 3 := by
  have m := own_mask32 x 3 (by decide)
  have e3 : (3 : Int32).toInt = 3 := by decide
  rw [← h, e3] at m
  have q : v.toInt = 0 ∨ v.toInt = 1 ∨ v.toInt = 2 ∨ v.toInt = 3 := by omega
  rcases q with q | q | q | q
  · exact Or.inl (Int32.toInt_inj.mp (by rw [q]; decide))
  · exact Or.inr (Or.inl (Int32.toInt_inj.mp (by rw [q]; decide)))
  · exact Or.inr (Or.inr (Or.inl (Int32.toInt_inj.mp (by rw [q]; decide))))
  · exact Or.inr (Or.inr (Or.inr (Int32.toInt_inj.mp (by rw [q]; decide))))
theorem own_name (x v : Int32) (h : v = ((x &&& (2147483647 : Int32)) % (5 : Int32)) - (1 : Int32)) : -1 ≤ v.toInt ∧ v.toInt ≤ 3 := by
  have m := own_mask32 x 2147483647 (by decide)
  have e5 : (5 : Int32).toInt = 5 := by decide
  have r : ((x &&& (2147483647 : Int32)) % (5 : Int32)).toInt = (x &&& (2147483647 : Int32)).toInt % 5 := by rw [Int32.toInt_mod, e5, Int.tmod_eq_emod_of_nonneg m.1]
  have t : v.toInt = (x &&& (2147483647 : Int32)).toInt % 5 - 1 := by rw [h, own_sub32] <;> rw [r, (own_one 0).1] <;> omega
  omega
theorem own_ge {cv : Nat → Int64} {k : Nat} {rows name v : Int32} {cells : Int64} (h : ¬ name < Int32.ofNat k) (hc : cv name.toInt.toNat = cells) (hv : v = if (16 : Int64) * rows.toInt64 < cells then (0 : Int32) else (1 : Int32)) : own_fits cv k rows name = v := by
  unfold own_fits
  rw [if_neg h, hc, hv]
theorem own_lt {cv : Nat → Int64} {k : Nat} {rows name : Int32} (h : name < Int32.ofNat k) : own_fits cv k rows name = 0 := by
  unfold own_fits
  rw [if_pos h]

theorem own_zero {n : Int32} (h : -1 ≤ n.toInt ∧ n.toInt ≤ 3) (h3 : ¬ n = (3 : Int32)) (h2 : ¬ n = (2 : Int32)) (h1 : ¬ n = (1 : Int32)) (h0 : ¬ n < (0 : Int32)) : n = (0 : Int32) := by
  have z : ∀ {J : Int32} {j : Int}, J.toInt = j → ¬ n = J → n.toInt ≠ j := fun hj q e => q (Int32.toInt_inj.mp (by rw [e, hj]))
  have := z (J := 3) (j := 3) (by decide) h3
  have := z (J := 2) (j := 2) (by decide) h2
  have := z (J := 1) (j := 1) (by decide) h1
  rw [Int32.lt_iff_toInt_lt, show (0 : Int32).toInt = 0 by decide] at h0
  exact Int32.toInt_inj.mp (by rw [show (0 : Int32).toInt = 0 by decide]; omega)
theorem own_none {n : Int32} (h : -1 ≤ n.toInt ∧ n.toInt ≤ 3) (h3 : ¬ n = (3 : Int32)) (h2 : ¬ n = (2 : Int32)) (h1 : ¬ n = (1 : Int32)) {k : Nat} (hk : 1 ≤ k ∧ k ≤ 3) (h0 : ¬ n < Int32.ofNat k) : False := by
  have z : ∀ {J : Int32} {j : Int}, J.toInt = j → ¬ n = J → n.toInt ≠ j := fun hj q e => q (Int32.toInt_inj.mp (by rw [e, hj]))
  have := z (J := 3) (j := 3) (by decide) h3
  have := z (J := 2) (j := 2) (by decide) h2
  have := z (J := 1) (j := 1) (by decide) h1
  rw [Int32.lt_iff_toInt_lt, own_on (by omega)] at h0
  omega
theorem ef_rm0 (m : MethodId) (x0 : Int32) (x1 : Int32) (x2 : Int32) (x3 : Int32) (x4 : Int32) (x5 : Int32) : entryFrame m #[(.int x0), (.int x1), (.int x2), (.int x3), (.int x4), (.int x5)] maxLocals = mkF m 0 #[.val (.int x0), .val (.int x1), .val (.int x2), .val (.int x3), .val (.int x4), .val (.int x5), .unset, .unset, .unset, .unset, .unset, .unset, .unset, .unset, .unset, .unset, .unset, .unset, .unset, .unset, .unset, .unset, .unset, .unset, .unset] [] := by first | (simp [entryFrame, mkF, argsToLocals, Value.category, maxLocals]; done) | rfl
def Q_rm0 (Z : State) (r1 : Int32) (n1 : Int32) (ka : Int32) (kb : Int32) (kc : Int32) (fl : Int32) (h0 : Heap) (n0 : Nat) (v : Option Value) (h : Heap) (L : List Loc) : Prop := v = some (.int 1) ∧ Fr n0 L
set_option maxRecDepth 65536 in
set_option maxHeartbeats 40000000 in
theorem rm0 (l : Launch) (Z : State) (a0 : Array Value) (hw : ∀ d ∈ tables_1, d.before a0 Z = true) (ws : List Jvm.Cond) (r1 : Int32) (n1 : Int32) (ka : Int32) (kb : Int32) (kc : Int32) (fl : Int32) (h0 : Heap) (n0 : Nat) (Z0 : n0 ≤ h0.size)  :
    MetFree l x (head1 (Jvm.Cond.code x code maxLocals ret :: ws) room_1) (fun a U => a = #[(.int r1), (.int n1), (.int ka), (.int kb), (.int kc), (.int fl)] ∧ Z.Warmed39 U.vm ∧ U.heap = h0) (fun _ _ _ _ _ => True) (fun _ U o U' => ∃ v L, o = .returned v ∧ Q_rm0 Z r1 n1 ka kb kc fl h0 n0 v U'.heap L ∧ FrameEnd U o U' L room_1.cells room_1.slots) := by
  refine MetFree.of_bodySF (plainFor_of_name pn_2) hisR ?_
  intro p e s m args below meth c s₁ Bd hml0 hP hK
  obtain ⟨rfl, hZ, hh⟩ := hP
  have hx := Bd.exec
  have hby := Bd.bytes
  have hml : c.maxLocals = 25 := hml0
  have hown : s.vm.findClass "com/example/joinery/joinery/KeyGridFitsPinLaw" = some m.cls := findClass_of_methodNamed Bd.named
  have hnm := (name_of_methodNamed Bd.named Bd.method).1
  have X0 : Stand p l e room_1 s m #[(.int r1), (.int n1), (.int ka), (.int kb), (.int kc), (.int fl)] below meth c s₁ [] 0 0 := Stand.of_body Bd
  have e0 : s₁.heap = h0 := by rw [← hh, Bd.state]; rfl
  have N0 := Fr.nil n0
  have pre0 : ∀ t, Steps p.tables e below (s₁.setTop (mkF m 0 #[.val (.int r1), .val (.int n1), .val (.int ka), .val (.int kb), .val (.int kc), .val (.int fl), .unset, .unset, .unset, .unset, .unset, .unset, .unset, .unset, .unset, .unset, .unset, .unset, .unset, .unset, .unset, .unset, .unset, .unset, .unset] [])) t → Steps p.tables e below (s₁.setTop (entryFrame m #[(.int r1), (.int n1), (.int ka), (.int kb), (.int kc), (.int fl)] maxLocals)) t := fun t k => castTop (ef_rm0 m r1 n1 ka kb kc fl) k
  have S688 : ∀ t, Steps p.tables e below (s₁.setTop (mkF m 4 #[.val (.int r1), .val (.int n1), .val (.int ka), .val (.int kb), .val (.int kc), .val (.int fl), .unset, .unset, .unset, .unset, .unset, .unset, .unset, .unset, .unset, .unset, .unset, .unset, .unset, .unset, .unset, .unset, .unset, .unset, .unset] [(.int (fl &&& (3 : Int32)))])) t → Steps p.tables e below (s₁.setTop (mkF m 0 #[.val (.int r1), .val (.int n1), .val (.int ka), .val (.int kb), .val (.int kc), .val (.int fl), .unset, .unset, .unset, .unset, .unset, .unset, .unset, .unset, .unset, .unset, .unset, .unset, .unset, .unset, .unset, .unset, .unset, .unset, .unset] [])) t := by
    intro t kt
    show Steps p.tables e below (s₁.setTop (mkF m 0 #[.val (.int r1), .val (.int n1), .val (.int ka), .val (.int kb), .val (.int kc), .val (.int fl), .unset, .unset, .unset, .unset, .unset, .unset, .unset, .unset, .unset, .unset, .unset, .unset, .unset, .unset, .unset, .unset, .unset, .unset, .unset] [])) _
    refine XS.iload X0.here hx rfl (hb hby at_0) rfl ?_
    refine XS.iconst X0.here hx rfl (hb hby at_2) ?_
    refine XS.iand X0.here hx rfl (hb hby at_3) rfl ?_
    exact kt
  obtain ⟨v687, hv687⟩ : ∃ z : Int32, z = (fl &&& (3 : Int32)) := ⟨_, rfl⟩
  have S689 : ∀ t, Steps p.tables e below (s₁.setTop (mkF m 4 #[.val (.int r1), .val (.int n1), .val (.int ka), .val (.int kb), .val (.int kc), .val (.int fl), .unset, .unset, .unset, .unset, .unset, .unset, .unset, .unset, .unset, .unset, .unset, .unset, .unset, .unset, .unset, .unset, .unset, .unset, .unset] [(.int v687)])) t → Steps p.tables e below (s₁.setTop (mkF m 4 #[.val (.int r1), .val (.int n1), .val (.int ka), .val (.int kb), .val (.int kc), .val (.int fl), .unset, .unset, .unset, .unset, .unset, .unset, .unset, .unset, .unset, .unset, .unset, .unset, .unset, .unset, .unset, .unset, .unset, .unset, .unset] [(.int (fl &&& (3 : Int32)))])) t := fun t k => by rw [hv687.symm]; exact k
  have S691 : ∀ t, Steps p.tables e below (s₁.setTop (mkF m 14 #[.val (.int r1), .val (.int n1), .val (.int ka), .val (.int kb), .val (.int kc), .val (.int fl), .val (.int v687), .unset, .unset, .unset, .unset, .unset, .unset, .unset, .unset, .unset, .unset, .unset, .unset, .unset, .unset, .unset, .unset, .unset, .unset] [(.int (((n1 &&& (2147483647 : Int32)) % (5 : Int32)) - (1 : Int32)))])) t → Steps p.tables e below (s₁.setTop (mkF m 4 #[.val (.int r1), .val (.int n1), .val (.int ka), .val (.int kb), .val (.int kc), .val (.int fl), .unset, .unset, .unset, .unset, .unset, .unset, .unset, .unset, .unset, .unset, .unset, .unset, .unset, .unset, .unset, .unset, .unset, .unset, .unset] [(.int v687)])) t := by
    intro t kt
    show Steps p.tables e below (s₁.setTop (mkF m 4 #[.val (.int r1), .val (.int n1), .val (.int ka), .val (.int kb), .val (.int kc), .val (.int fl), .unset, .unset, .unset, .unset, .unset, .unset, .unset, .unset, .unset, .unset, .unset, .unset, .unset, .unset, .unset, .unset, .unset, .unset, .unset] [(.int v687)])) _
    refine XS.istore X0.here hx rfl (hb hby at_4) rfl (l' := #[.val (.int r1), .val (.int n1), .val (.int ka), .val (.int kb), .val (.int kc), .val (.int fl), .val (.int v687), .unset, .unset, .unset, .unset, .unset, .unset, .unset, .unset, .unset, .unset, .unset, .unset, .unset, .unset, .unset, .unset, .unset, .unset]) rfl ?_
    refine XS.iloadN X0.here hx rfl (hb hby at_6) rfl ?_
    refine X0.ldcInt hx hown (mvT hZ (hw _ (List.mem_of_getElem? (i := 0) rfl))) (g := (mkF m 7 #[.val (.int r1), .val (.int n1), .val (.int ka), .val (.int kb), .val (.int kc), .val (.int fl), .val (.int v687), .unset, .unset, .unset, .unset, .unset, .unset, .unset, .unset, .unset, .unset, .unset, .unset, .unset, .unset, .unset, .unset, .unset, .unset] [(.int n1)])) rfl (hb hby at_7) _ ?_
    refine XS.iand X0.here hx rfl (hb hby at_9) rfl ?_
    refine XS.iconst X0.here hx rfl (hb hby at_10) ?_
    show Steps p.tables e below (s₁.setTop (mkF m 11 #[.val (.int r1), .val (.int n1), .val (.int ka), .val (.int kb), .val (.int kc), .val (.int fl), .val (.int v687), .unset, .unset, .unset, .unset, .unset, .unset, .unset, .unset, .unset, .unset, .unset, .unset, .unset, .unset, .unset, .unset, .unset, .unset] [(.int (5 : Int32)), (.int (n1 &&& (2147483647 : Int32)))])) _
    refine iremM X0 hx rfl (hb hby at_11) rfl (by decide) ?_
    refine XS.iconst X0.here hx rfl (hb hby at_12) ?_
    refine XS.isub X0.here hx rfl (hb hby at_13) rfl ?_
    exact kt
  obtain ⟨v690, hv690⟩ : ∃ z : Int32, z = (((n1 &&& (2147483647 : Int32)) % (5 : Int32)) - (1 : Int32)) := ⟨_, rfl⟩
  have S692 : ∀ t, Steps p.tables e below (s₁.setTop (mkF m 14 #[.val (.int r1), .val (.int n1), .val (.int ka), .val (.int kb), .val (.int kc), .val (.int fl), .val (.int v687), .unset, .unset, .unset, .unset, .unset, .unset, .unset, .unset, .unset, .unset, .unset, .unset, .unset, .unset, .unset, .unset, .unset, .unset] [(.int v690)])) t → Steps p.tables e below (s₁.setTop (mkF m 14 #[.val (.int r1), .val (.int n1), .val (.int ka), .val (.int kb), .val (.int kc), .val (.int fl), .val (.int v687), .unset, .unset, .unset, .unset, .unset, .unset, .unset, .unset, .unset, .unset, .unset, .unset, .unset, .unset, .unset, .unset, .unset, .unset] [(.int (((n1 &&& (2147483647 : Int32)) % (5 : Int32)) - (1 : Int32)))])) t := fun t k => by rw [hv690.symm]; exact k
  have hname : -1 ≤ v690.toInt ∧ v690.toInt ≤ 3 := own_name _ _ hv690
  have S694 : ∀ t, Steps p.tables e below (s₁.setTop (mkF m 20 #[.val (.int r1), .val (.int n1), .val (.int ka), .val (.int kb), .val (.int kc), .val (.int fl), .val (.int v687), .val (.int v690), .unset, .unset, .unset, .unset, .unset, .unset, .unset, .unset, .unset, .unset, .unset, .unset, .unset, .unset, .unset, .unset, .unset] [(.int (ka &&& (65535 : Int32)))])) t → Steps p.tables e below (s₁.setTop (mkF m 14 #[.val (.int r1), .val (.int n1), .val (.int ka), .val (.int kb), .val (.int kc), .val (.int fl), .val (.int v687), .unset, .unset, .unset, .unset, .unset, .unset, .unset, .unset, .unset, .unset, .unset, .unset, .unset, .unset, .unset, .unset, .unset, .unset] [(.int v690)])) t := by
    intro t kt
    show Steps p.tables e below (s₁.setTop (mkF m 14 #[.val (.int r1), .val (.int n1), .val (.int ka), .val (.int kb), .val (.int kc), .val (.int fl), .val (.int v687), .unset, .unset, .unset, .unset, .unset, .unset, .unset, .unset, .unset, .unset, .unset, .unset, .unset, .unset, .unset, .unset, .unset, .unset] [(.int v690)])) _
    refine XS.istore X0.here hx rfl (hb hby at_14) rfl (l' := #[.val (.int r1), .val (.int n1), .val (.int ka), .val (.int kb), .val (.int kc), .val (.int fl), .val (.int v687), .val (.int v690), .unset, .unset, .unset, .unset, .unset, .unset, .unset, .unset, .unset, .unset, .unset, .unset, .unset, .unset, .unset, .unset, .unset]) rfl ?_
    refine XS.iloadN X0.here hx rfl (hb hby at_16) rfl ?_
    refine X0.ldcInt hx hown (mvT hZ (hw _ (List.mem_of_getElem? (i := 1) rfl))) (g := (mkF m 17 #[.val (.int r1), .val (.int n1), .val (.int ka), .val (.int kb), .val (.int kc), .val (.int fl), .val (.int v687), .val (.int v690), .unset, .unset, .unset, .unset, .unset, .unset, .unset, .unset, .unset, .unset, .unset, .unset, .unset, .unset, .unset, .unset, .unset] [(.int ka)])) rfl (hb hby at_17) _ ?_
    refine XS.iand X0.here hx rfl (hb hby at_19) rfl ?_
    exact kt
  obtain ⟨v693, hv693⟩ : ∃ z : Int32, z = (ka &&& (65535 : Int32)) := ⟨_, rfl⟩
  have S695 : ∀ t, Steps p.tables e below (s₁.setTop (mkF m 20 #[.val (.int r1), .val (.int n1), .val (.int ka), .val (.int kb), .val (.int kc), .val (.int fl), .val (.int v687), .val (.int v690), .unset, .unset, .unset, .unset, .unset, .unset, .unset, .unset, .unset, .unset, .unset, .unset, .unset, .unset, .unset, .unset, .unset] [(.int v693)])) t → Steps p.tables e below (s₁.setTop (mkF m 20 #[.val (.int r1), .val (.int n1), .val (.int ka), .val (.int kb), .val (.int kc), .val (.int fl), .val (.int v687), .val (.int v690), .unset, .unset, .unset, .unset, .unset, .unset, .unset, .unset, .unset, .unset, .unset, .unset, .unset, .unset, .unset, .unset, .unset] [(.int (ka &&& (65535 : Int32)))])) t := fun t k => by rw [hv693.symm]; exact k
  have hkv693 : 0 ≤ v693.toInt ∧ v693.toInt ≤ 65535 := by rw [hv693]; exact own_mask32 _ _ (by decide)
  have S697 : ∀ t, Steps p.tables e below (s₁.setTop (mkF m 26 #[.val (.int r1), .val (.int n1), .val (.int ka), .val (.int kb), .val (.int kc), .val (.int fl), .val (.int v687), .val (.int v690), .val (.int v693), .unset, .unset, .unset, .unset, .unset, .unset, .unset, .unset, .unset, .unset, .unset, .unset, .unset, .unset, .unset, .unset] [(.int (kb &&& (65535 : Int32)))])) t → Steps p.tables e below (s₁.setTop (mkF m 20 #[.val (.int r1), .val (.int n1), .val (.int ka), .val (.int kb), .val (.int kc), .val (.int fl), .val (.int v687), .val (.int v690), .unset, .unset, .unset, .unset, .unset, .unset, .unset, .unset, .unset, .unset, .unset, .unset, .unset, .unset, .unset, .unset, .unset] [(.int v693)])) t := by
    intro t kt
    show Steps p.tables e below (s₁.setTop (mkF m 20 #[.val (.int r1), .val (.int n1), .val (.int ka), .val (.int kb), .val (.int kc), .val (.int fl), .val (.int v687), .val (.int v690), .unset, .unset, .unset, .unset, .unset, .unset, .unset, .unset, .unset, .unset, .unset, .unset, .unset, .unset, .unset, .unset, .unset] [(.int v693)])) _
    refine XS.istore X0.here hx rfl (hb hby at_20) rfl (l' := #[.val (.int r1), .val (.int n1), .val (.int ka), .val (.int kb), .val (.int kc), .val (.int fl), .val (.int v687), .val (.int v690), .val (.int v693), .unset, .unset, .unset, .unset, .unset, .unset, .unset, .unset, .unset, .unset, .unset, .unset, .unset, .unset, .unset, .unset]) rfl ?_
    refine XS.iloadN X0.here hx rfl (hb hby at_22) rfl ?_
    refine X0.ldcInt hx hown (mvT hZ (hw _ (List.mem_of_getElem? (i := 1) rfl))) (g := (mkF m 23 #[.val (.int r1), .val (.int n1), .val (.int ka), .val (.int kb), .val (.int kc), .val (.int fl), .val (.int v687), .val (.int v690), .val (.int v693), .unset, .unset, .unset, .unset, .unset, .unset, .unset, .unset, .unset, .unset, .unset, .unset, .unset, .unset, .unset, .unset] [(.int kb)])) rfl (hb hby at_23) _ ?_
    refine XS.iand X0.here hx rfl (hb hby at_25) rfl ?_
    exact kt
  obtain ⟨v696, hv696⟩ : ∃ z : Int32, z = (kb &&& (65535 : Int32)) := ⟨_, rfl⟩
  have S698 : ∀ t, Steps p.tables e below (s₁.setTop (mkF m 26 #[.val (.int r1), .val (.int n1), .val (.int ka), .val (.int kb), .val (.int kc), .val (.int fl), .val (.int v687), .val (.int v690), .val (.int v693), .unset, .unset, .unset, .unset, .unset, .unset, .unset, .unset, .unset, .unset, .unset, .unset, .unset, .unset, .unset, .unset] [(.int v696)])) t → Steps p.tables e below (s₁.setTop (mkF m 26 #[.val (.int r1), .val (.int n1), .val (.int ka), .val (.int kb), .val (.int kc), .val (.int fl), .val (.int v687), .val (.int v690), .val (.int v693), .unset, .unset, .unset, .unset, .unset, .unset, .unset, .unset, .unset, .unset, .unset, .unset, .unset, .unset, .unset, .unset] [(.int (kb &&& (65535 : Int32)))])) t := fun t k => by rw [hv696.symm]; exact k
  have hkv696 : 0 ≤ v696.toInt ∧ v696.toInt ≤ 65535 := by rw [hv696]; exact own_mask32 _ _ (by decide)
  have S700 : ∀ t, Steps p.tables e below (s₁.setTop (mkF m 33 #[.val (.int r1), .val (.int n1), .val (.int ka), .val (.int kb), .val (.int kc), .val (.int fl), .val (.int v687), .val (.int v690), .val (.int v693), .val (.int v696), .unset, .unset, .unset, .unset, .unset, .unset, .unset, .unset, .unset, .unset, .unset, .unset, .unset, .unset, .unset] [(.int (kc &&& (65535 : Int32)))])) t → Steps p.tables e below (s₁.setTop (mkF m 26 #[.val (.int r1), .val (.int n1), .val (.int ka), .val (.int kb), .val (.int kc), .val (.int fl), .val (.int v687), .val (.int v690), .val (.int v693), .unset, .unset, .unset, .unset, .unset, .unset, .unset, .unset, .unset, .unset, .unset, .unset, .unset, .unset, .unset, .unset] [(.int v696)])) t := by
    intro t kt
    show Steps p.tables e below (s₁.setTop (mkF m 26 #[.val (.int r1), .val (.int n1), .val (.int ka), .val (.int kb), .val (.int kc), .val (.int fl), .val (.int v687), .val (.int v690), .val (.int v693), .unset, .unset, .unset, .unset, .unset, .unset, .unset, .unset, .unset, .unset, .unset, .unset, .unset, .unset, .unset, .unset] [(.int v696)])) _
    refine XS.istore X0.here hx rfl (hb hby at_26) rfl (l' := #[.val (.int r1), .val (.int n1), .val (.int ka), .val (.int kb), .val (.int kc), .val (.int fl), .val (.int v687), .val (.int v690), .val (.int v693), .val (.int v696), .unset, .unset, .unset, .unset, .unset, .unset, .unset, .unset, .unset, .unset, .unset, .unset, .unset, .unset, .unset]) rfl ?_
    refine XS.iload X0.here hx rfl (hb hby at_28) rfl ?_
    refine X0.ldcInt hx hown (mvT hZ (hw _ (List.mem_of_getElem? (i := 1) rfl))) (g := (mkF m 30 #[.val (.int r1), .val (.int n1), .val (.int ka), .val (.int kb), .val (.int kc), .val (.int fl), .val (.int v687), .val (.int v690), .val (.int v693), .val (.int v696), .unset, .unset, .unset, .unset, .unset, .unset, .unset, .unset, .unset, .unset, .unset, .unset, .unset, .unset, .unset] [(.int kc)])) rfl (hb hby at_30) _ ?_
    refine XS.iand X0.here hx rfl (hb hby at_32) rfl ?_
    exact kt
  obtain ⟨v699, hv699⟩ : ∃ z : Int32, z = (kc &&& (65535 : Int32)) := ⟨_, rfl⟩
  have S701 : ∀ t, Steps p.tables e below (s₁.setTop (mkF m 33 #[.val (.int r1), .val (.int n1), .val (.int ka), .val (.int kb), .val (.int kc), .val (.int fl), .val (.int v687), .val (.int v690), .val (.int v693), .val (.int v696), .unset, .unset, .unset, .unset, .unset, .unset, .unset, .unset, .unset, .unset, .unset, .unset, .unset, .unset, .unset] [(.int v699)])) t → Steps p.tables e below (s₁.setTop (mkF m 33 #[.val (.int r1), .val (.int n1), .val (.int ka), .val (.int kb), .val (.int kc), .val (.int fl), .val (.int v687), .val (.int v690), .val (.int v693), .val (.int v696), .unset, .unset, .unset, .unset, .unset, .unset, .unset, .unset, .unset, .unset, .unset, .unset, .unset, .unset, .unset] [(.int (kc &&& (65535 : Int32)))])) t := fun t k => by rw [hv699.symm]; exact k
  have hkv699 : 0 ≤ v699.toInt ∧ v699.toInt ≤ 65535 := by rw [hv699]; exact own_mask32 _ _ (by decide)
  have S702 : ∀ t, Steps p.tables e below (s₁.setTop (mkF m 35 #[.val (.int r1), .val (.int n1), .val (.int ka), .val (.int kb), .val (.int kc), .val (.int fl), .val (.int v687), .val (.int v690), .val (.int v693), .val (.int v696), .val (.int v699), .unset, .unset, .unset, .unset, .unset, .unset, .unset, .unset, .unset, .unset, .unset, .unset, .unset, .unset] [])) t → Steps p.tables e below (s₁.setTop (mkF m 33 #[.val (.int r1), .val (.int n1), .val (.int ka), .val (.int kb), .val (.int kc), .val (.int fl), .val (.int v687), .val (.int v690), .val (.int v693), .val (.int v696), .unset, .unset, .unset, .unset, .unset, .unset, .unset, .unset, .unset, .unset, .unset, .unset, .unset, .unset, .unset] [(.int v699)])) t := by
    intro t kt
    show Steps p.tables e below (s₁.setTop (mkF m 33 #[.val (.int r1), .val (.int n1), .val (.int ka), .val (.int kb), .val (.int kc), .val (.int fl), .val (.int v687), .val (.int v690), .val (.int v693), .val (.int v696), .unset, .unset, .unset, .unset, .unset, .unset, .unset, .unset, .unset, .unset, .unset, .unset, .unset, .unset, .unset] [(.int v699)])) _
    refine XS.istore X0.here hx rfl (hb hby at_33) rfl (l' := #[.val (.int r1), .val (.int n1), .val (.int ka), .val (.int kb), .val (.int kc), .val (.int fl), .val (.int v687), .val (.int v690), .val (.int v693), .val (.int v696), .val (.int v699), .unset, .unset, .unset, .unset, .unset, .unset, .unset, .unset, .unset, .unset, .unset, .unset, .unset, .unset]) rfl ?_
    exact kt
  obtain ⟨T703, h703, X703, e703, E703, A703, D703, -, st703⟩ := newO X0 hx hZ hown (hw _ (List.mem_of_getElem? (i := 2) rfl)) (hw _ (List.mem_of_getElem? (i := 3) rfl)) (hw _ (List.mem_of_getElem? (i := 4) rfl)) e0 (g := (mkF m 35 #[.val (.int r1), .val (.int n1), .val (.int ka), .val (.int kb), .val (.int kc), .val (.int fl), .val (.int v687), .val (.int v690), .val (.int v693), .val (.int v696), .val (.int v699), .unset, .unset, .unset, .unset, .unset, .unset, .unset, .unset, .unset, .unset, .unset, .unset, .unset, .unset] [])) rfl (hb hby at_35) (by decide) (by decide)
  obtain ⟨b703, g703⟩ : ∃ z, z = h0.size := ⟨_, rfl⟩
  rw [← g703] at A703 D703 st703
  have g_b703 : n0 ≤ b703 := Nat.le_trans Z0 (Nat.le_of_eq g703.symm)
  have z704 : n0 ≤ h703.size := Nat.le_trans Z0 E703.1
  have F705 : Fld Z h703 b703 "com/example/joinery/joinery/KeyGrid" "cells" "[I" .null := D703 (Or.inl (hw _ (List.mem_of_getElem? (i := 13) rfl))) (ty := (.array .int)) (by decide)
  have F706 : Fld Z h703 b703 "com/example/joinery/joinery/KeyGrid" "leftLaid" "Lcom/example/joinery/joinery/KeyGrid$Laid;" .null := D703 (Or.inl (hw _ (List.mem_of_getElem? (i := 31) rfl))) (ty := (.object "com/example/joinery/joinery/KeyGrid$Laid")) (by decide)
  have F707 : Fld Z h703 b703 "com/example/joinery/joinery/KeyGrid" "rightLaid" "Lcom/example/joinery/joinery/KeyGrid$Laid;" .null := D703 (Or.inl (hw _ (List.mem_of_getElem? (i := 33) rfl))) (ty := (.object "com/example/joinery/joinery/KeyGrid$Laid")) (by decide)
  have F708 : Fld Z h703 b703 "com/example/joinery/joinery/KeyGrid" "leftOrder" "[I" .null := D703 (Or.inl (hw _ (List.mem_of_getElem? (i := 35) rfl))) (ty := (.array .int)) (by decide)
  have F709 : Fld Z h703 b703 "com/example/joinery/joinery/KeyGrid" "rightOrder" "[I" .null := D703 (Or.inl (hw _ (List.mem_of_getElem? (i := 37) rfl))) (ty := (.array .int)) (by decide)
  have F710 : Fld Z h703 b703 "com/example/joinery/joinery/KeyGrid" "leftHolders" "Lcom/example/joinery/joinery/KeyGrid$Laid;" .null := D703 (Or.inl (hw _ (List.mem_of_getElem? (i := 39) rfl))) (ty := (.object "com/example/joinery/joinery/KeyGrid$Laid")) (by decide)
  have F711 : Fld Z h703 b703 "com/example/joinery/joinery/KeyGrid" "rightHolders" "Lcom/example/joinery/joinery/KeyGrid$Laid;" .null := D703 (Or.inl (hw _ (List.mem_of_getElem? (i := 41) rfl))) (ty := (.object "com/example/joinery/joinery/KeyGrid$Laid")) (by decide)
  have F712 : Fld Z h703 b703 "com/example/joinery/joinery/KeyGrid" "keyStarts" "[I" .null := D703 (Or.inl (hw _ (List.mem_of_getElem? (i := 43) rfl))) (ty := (.array .int)) (by decide)
  have F713 : Fld Z h703 b703 "com/example/joinery/joinery/KeyGrid" "leftKeys" "[I" .null := D703 (Or.inl (hw _ (List.mem_of_getElem? (i := 45) rfl))) (ty := (.array .int)) (by decide)
  have F714 : Fld Z h703 b703 "com/example/joinery/joinery/KeyGrid" "keyedRows" "[J" .null := D703 (Or.inl (hw _ (List.mem_of_getElem? (i := 47) rfl))) (ty := (.array .long)) (by decide)
  have F715 : Fld Z h703 b703 "com/example/joinery/joinery/KeyGrid" "sortedRows" "[I" .null := D703 (Or.inl (hw _ (List.mem_of_getElem? (i := 49) rfl))) (ty := (.array .int)) (by decide)
  have F716 : Fld Z h703 b703 "com/example/joinery/joinery/KeyGrid" "names" "I" (.int (0 : Int32)) := D703 (Or.inr (hw _ (List.mem_of_getElem? (i := 51) rfl))) (ty := .int) (by decide)
  have F717 : Fld Z h703 b703 "com/example/joinery/joinery/KeyGrid" "mostCells" "J" (.long (0 : Int64)) := D703 (Or.inr (hw _ (List.mem_of_getElem? (i := 61) rfl))) (ty := .long) (by decide)
  have F718 : Fld Z h703 b703 "com/example/joinery/joinery/KeyGrid" "radix" "[I" .null := D703 (Or.inr (hw _ (List.mem_of_getElem? (i := 63) rfl))) (ty := (.array .int)) (by decide)
  have F719 : Fld Z h703 b703 "com/example/joinery/joinery/KeyGrid" "lacked" "[Z" .null := D703 (Or.inr (hw _ (List.mem_of_getElem? (i := 66) rfl))) (ty := (.array .boolean)) (by decide)
  have F720 : Fld Z h703 b703 "com/example/joinery/joinery/KeyGrid" "apart" "[Z" .null := D703 (Or.inr (hw _ (List.mem_of_getElem? (i := 68) rfl))) (ty := (.array .boolean)) (by decide)
  have F721 : Fld Z h703 b703 "com/example/joinery/joinery/KeyGrid" "apartKeys" "[I" .null := D703 (Or.inr (hw _ (List.mem_of_getElem? (i := 70) rfl))) (ty := (.array .int)) (by decide)
  have F722 : Fld Z h703 b703 "com/example/joinery/joinery/KeyGrid" "cellsFrom" "[J" .null := D703 (Or.inr (hw _ (List.mem_of_getElem? (i := 72) rfl))) (ty := (.array .long)) (by decide)
  have F723 : Fld Z h703 b703 "com/example/joinery/joinery/KeyGrid" "first" "I" (.int (0 : Int32)) := D703 (Or.inl (hw _ (List.mem_of_getElem? (i := 74) rfl))) (ty := .int) (by decide)
  have F724 : Fld Z h703 b703 "com/example/joinery/joinery/KeyGrid" "leftDigits" "[[I" .null := D703 (Or.inr (hw _ (List.mem_of_getElem? (i := 78) rfl))) (ty := (.array (.array .int))) (by decide)
  have F725 : Fld Z h703 b703 "com/example/joinery/joinery/KeyGrid" "rightDigits" "[[I" .null := D703 (Or.inr (hw _ (List.mem_of_getElem? (i := 80) rfl))) (ty := (.array (.array .int))) (by decide)
  have S727 : ∀ t, Steps p.tables e below (T703.setTop (mkF m 42 #[.val (.int r1), .val (.int n1), .val (.int ka), .val (.int kb), .val (.int kc), .val (.int fl), .val (.int v687), .val (.int v690), .val (.int v693), .val (.int v696), .val (.int v699), .unset, .unset, .unset, .unset, .unset, .unset, .unset, .unset, .unset, .unset, .unset, .unset, .unset, .unset] [(.long (r1.toInt64)), (.int (3 : Int32)), (.ref b703), (.ref b703)])) t → Steps p.tables e below (T703.setTop (mkF m 38 #[.val (.int r1), .val (.int n1), .val (.int ka), .val (.int kb), .val (.int kc), .val (.int fl), .val (.int v687), .val (.int v690), .val (.int v693), .val (.int v696), .val (.int v699), .unset, .unset, .unset, .unset, .unset, .unset, .unset, .unset, .unset, .unset, .unset, .unset, .unset, .unset] [(.ref b703)])) t := by
    intro t kt
    show Steps p.tables e below (T703.setTop (mkF m 38 #[.val (.int r1), .val (.int n1), .val (.int ka), .val (.int kb), .val (.int kc), .val (.int fl), .val (.int v687), .val (.int v690), .val (.int v693), .val (.int v696), .val (.int v699), .unset, .unset, .unset, .unset, .unset, .unset, .unset, .unset, .unset, .unset, .unset, .unset, .unset, .unset] [(.ref b703)])) _
    refine XS.dup X703.here hx rfl (hb hby at_38) rfl rfl ?_
    refine XS.iconst X703.here hx rfl (hb hby at_39) ?_
    refine XS.iloadN X703.here hx rfl (hb hby at_40) rfl ?_
    refine XS.i2l X703.here hx rfl (hb hby at_41) rfl ?_
    exact kt
  obtain ⟨_, _, ⟨T728, L728, k728, n728⟩, -, X728, ⟨Lc728, hQ728, l728, y728, z728⟩, st728⟩ := X703.specialBack hx (y := (⟨"com/example/joinery/joinery/KeyGrid", "<init>", "(IJ)V"⟩ : MethodName)) rfl hown (mvT hZ (hw _ (List.mem_of_getElem? (i := 5) rfl))) (mvT hZ (hw _ (List.mem_of_getElem? (i := 6) rfl))) (mvT hZ (hw _ (List.mem_of_getElem? (i := 7) rfl))) (by decide) (backOf (W := 1) (rm1 l Z a0 hw [] b703 (r1.toInt64) h703 n0 z704 A703 F705 F706 F707 F708 F709 F710 F711 F712 F713 F714 F715 F716 F717 F718 F719 F720 F721 F722 F723 F724 F725 g_b703) hZ (hw _ (List.mem_of_getElem? (i := 7) rfl)) (hw _ (List.mem_of_getElem? (i := 4) rfl)) (by decide) (by decide)) (g := (mkF m 42 #[.val (.int r1), .val (.int n1), .val (.int ka), .val (.int kb), .val (.int kc), .val (.int fl), .val (.int v687), .val (.int v690), .val (.int v693), .val (.int v696), .val (.int v699), .unset, .unset, .unset, .unset, .unset, .unset, .unset, .unset, .unset, .unset, .unset, .unset, .unset, .unset] [(.long (r1.toInt64)), (.int (3 : Int32)), (.ref b703), (.ref b703)])) rfl (by rw [hml]; rfl) (Steps.refl _) (a := b703) (argsL := [(.int (3 : Int32)), (.long (r1.toInt64))]) (rest := [(.ref b703)]) (lenOf pd_7 rfl) rfl (by show 2 * 0 + _ ≤ _; exact Nat.le_of_eq rfl) (hb hby at_42) (fun _ _ => ⟨rfl, e703, (by decide : 1 + 26 ≤ _), (by decide : 26 + 30 ≤ _)⟩)
  dsimp only [Pt.U, Pt.locs, Pt.cells, Pt.slots] at X728 l728 y728 z728 st728 hQ728
  subst l728 y728 z728
  obtain ⟨h728, e728⟩ : ∃ z, T728.heap = z := ⟨_, rfl⟩
  rw [e728] at hQ728
  obtain ⟨ri, lki, api, aki, cfi, ldi, rdi, fi1, fi2, fi3, fi4, rfl, N728q, K728q, ltI0, ltI1, ltI2, ltI3, ltI4, ltI5, ltI6, ltI7, FI0, FI1, FI2, FI3, FI4, FI5, FI6, FI7, FI8, FI9, AI0, AI1, AI2, AI3, AI4, AI5, AI6⟩ := hQ728
  have z729 : n0 ≤ h728.size := Nat.le_trans z704 K728q.1
  have N728 := Fr.app N0 N728q
  have S730 : ∀ t, Steps p.tables e below (T728.setTop (mkF m 48 #[.val (.int r1), .val (.int n1), .val (.int ka), .val (.int kb), .val (.int kc), .val (.int fl), .val (.int v687), .val (.int v690), .val (.int v693), .val (.int v696), .val (.int v699), .val (.ref b703), .unset, .unset, .unset, .unset, .unset, .unset, .unset, .unset, .unset, .unset, .unset, .unset, .unset] [(.int (0 : Int32))])) t → Steps p.tables e below (T728.setTop (mkF m 45 #[.val (.int r1), .val (.int n1), .val (.int ka), .val (.int kb), .val (.int kc), .val (.int fl), .val (.int v687), .val (.int v690), .val (.int v693), .val (.int v696), .val (.int v699), .unset, .unset, .unset, .unset, .unset, .unset, .unset, .unset, .unset, .unset, .unset, .unset, .unset, .unset] [(.ref b703)])) t := by
    intro t kt
    show Steps p.tables e below (T728.setTop (mkF m 45 #[.val (.int r1), .val (.int n1), .val (.int ka), .val (.int kb), .val (.int kc), .val (.int fl), .val (.int v687), .val (.int v690), .val (.int v693), .val (.int v696), .val (.int v699), .unset, .unset, .unset, .unset, .unset, .unset, .unset, .unset, .unset, .unset, .unset, .unset, .unset, .unset] [(.ref b703)])) _
    refine XS.astore X728.here hx rfl (hb hby at_45) rfl rfl (l' := #[.val (.int r1), .val (.int n1), .val (.int ka), .val (.int kb), .val (.int kc), .val (.int fl), .val (.int v687), .val (.int v690), .val (.int v693), .val (.int v696), .val (.int v699), .val (.ref b703), .unset, .unset, .unset, .unset, .unset, .unset, .unset, .unset, .unset, .unset, .unset, .unset, .unset]) rfl ?_
    refine XS.iconst X728.here hx rfl (hb hby at_47) ?_
    exact kt
  obtain ⟨T731, h731, k731, X731, e731, E731, A731, B731, st731⟩ := newPE X728 hx hZ (hw _ (List.mem_of_getElem? (i := 11) rfl)) e728 (g := (mkF m 48 #[.val (.int r1), .val (.int n1), .val (.int ka), .val (.int kb), .val (.int kc), .val (.int fl), .val (.int v687), .val (.int v690), .val (.int v693), .val (.int v696), .val (.int v699), .val (.ref b703), .unset, .unset, .unset, .unset, .unset, .unset, .unset, .unset, .unset, .unset, .unset, .unset, .unset] [(.int (0 : Int32))])) rfl (hb hby at_48) rfl (by decide) (cap := 0) (by decide) (by decide) (by decide) (by decide) (ad := "[I") rfl
  obtain ⟨b731, g731⟩ : ∃ z, z = h728.size := ⟨_, rfl⟩
  rw [← g731] at A731 st731
  rw [← g731] at B731
  have g_b731 : n0 ≤ b731 := Nat.le_trans z729 (Nat.le_of_eq g731.symm)
  have lt_rdi_b731 : rdi < b731 := Nat.lt_of_lt_of_le AI6.lt (Nat.le_of_eq g731.symm)
  have ne_rdi_b731 : rdi ≠ b731 := Nat.ne_of_lt (Nat.lt_of_lt_of_le AI6.lt (Nat.le_of_eq g731.symm))
  have z732 : n0 ≤ h731.size := Nat.le_trans z729 E731.1
  have V731 : ArF Z h731 b731 .int 0 (fun _ => (.int (0 : Int32))) := ArF.new A731 (by decide) rfl
  have hG0 : own_KG Z h731 n0 b703 b731 3 own_cv0 := ⟨ri, lki, api, aki, cfi, ldi, rdi, fi1, fi2, fi3, fi4, ⟨ltI0, ltI1, ltI2, ltI3, ltI4, ltI5, ltI6, ltI7, lt_rdi_b731⟩, FI0.ext E731, FI1.ext E731, FI2.ext E731, FI3.ext E731, FI4.ext E731, FI5.ext E731, FI6.ext E731, FI7.ext E731, FI8.ext E731, FI9.ext E731, AI0.ext E731, AI1.ext E731, AI2.ext E731, AI3.ext E731, AI4.ext E731, AI5.ext E731, AI6.ext E731, B731, V731⟩
  have S733 : ∀ t, Steps p.tables e below (T731.setTop (mkF m 52 #[.val (.int r1), .val (.int n1), .val (.int ka), .val (.int kb), .val (.int kc), .val (.int fl), .val (.int v687), .val (.int v690), .val (.int v693), .val (.int v696), .val (.int v699), .val (.ref b703), .val (.ref b731), .unset, .unset, .unset, .unset, .unset, .unset, .unset, .unset, .unset, .unset, .unset, .unset] [])) t → Steps p.tables e below (T731.setTop (mkF m 50 #[.val (.int r1), .val (.int n1), .val (.int ka), .val (.int kb), .val (.int kc), .val (.int fl), .val (.int v687), .val (.int v690), .val (.int v693), .val (.int v696), .val (.int v699), .val (.ref b703), .unset, .unset, .unset, .unset, .unset, .unset, .unset, .unset, .unset, .unset, .unset, .unset, .unset] [(.ref b731)])) t := by
    intro t kt
    show Steps p.tables e below (T731.setTop (mkF m 50 #[.val (.int r1), .val (.int n1), .val (.int ka), .val (.int kb), .val (.int kc), .val (.int fl), .val (.int v687), .val (.int v690), .val (.int v693), .val (.int v696), .val (.int v699), .val (.ref b703), .unset, .unset, .unset, .unset, .unset, .unset, .unset, .unset, .unset, .unset, .unset, .unset, .unset] [(.ref b731)])) _
    refine XS.astore X731.here hx rfl (hb hby at_50) rfl rfl (l' := #[.val (.int r1), .val (.int n1), .val (.int ka), .val (.int kb), .val (.int kc), .val (.int fl), .val (.int v687), .val (.int v690), .val (.int v693), .val (.int v696), .val (.int v699), .val (.ref b703), .val (.ref b731), .unset, .unset, .unset, .unset, .unset, .unset, .unset, .unset, .unset, .unset, .unset, .unset]) rfl ?_
    exact kt
  have C734 : ∀ t, Steps p.tables e below (T731.setTop (mkF m 52 #[.val (.int r1), .val (.int n1), .val (.int ka), .val (.int kb), .val (.int kc), .val (.int fl), .val (.int v687), .val (.int v690), .val (.int v693), .val (.int v696), .val (.int v699), .val (.ref b703), .val (.ref b731), .unset, .unset, .unset, .unset, .unset, .unset, .unset, .unset, .unset, .unset, .unset, .unset] [])) t → Steps p.tables e below (s₁.setTop (mkF m 0 #[.val (.int r1), .val (.int n1), .val (.int ka), .val (.int kb), .val (.int kc), .val (.int fl), .unset, .unset, .unset, .unset, .unset, .unset, .unset, .unset, .unset, .unset, .unset, .unset, .unset, .unset, .unset, .unset, .unset, .unset, .unset] [])) t := (fun t k => (S688 t (S689 t (S691 t (S692 t (S694 t (S695 t (S697 t (S698 t (S700 t (S701 t (S702 t (st703 t (S727 t (st728.trans (S730 t (st731 t (S733 t k))))))))))))))))))
  rcases own_n4 _ _ hv687 with qv687 | qv687 | qv687 | qv687
  · have S735 : ∀ t, Steps p.tables e below (T731.setTop (mkF m 52 #[.val (.int r1), .val (.int n1), .val (.int ka), .val (.int kb), .val (.int kc), .val (.int fl), .val (.int (0 : Int32)), .val (.int v690), .val (.int v693), .val (.int v696), .val (.int v699), .val (.ref b703), .val (.ref b731), .unset, .unset, .unset, .unset, .unset, .unset, .unset, .unset, .unset, .unset, .unset, .unset] [])) t → Steps p.tables e below (T731.setTop (mkF m 52 #[.val (.int r1), .val (.int n1), .val (.int ka), .val (.int kb), .val (.int kc), .val (.int fl), .val (.int v687), .val (.int v690), .val (.int v693), .val (.int v696), .val (.int v699), .val (.ref b703), .val (.ref b731), .unset, .unset, .unset, .unset, .unset, .unset, .unset, .unset, .unset, .unset, .unset, .unset] [])) t := fun t k => by rw [qv687]; exact k
    have S736 : ∀ t, Steps p.tables e below (T731.setTop (mkF m 119 #[.val (.int r1), .val (.int n1), .val (.int ka), .val (.int kb), .val (.int kc), .val (.int fl), .val (.int (0 : Int32)), .val (.int v690), .val (.int v693), .val (.int v696), .val (.int v699), .val (.ref b703), .val (.ref b731), .val (.long (1 : Int64)), .second, .unset, .unset, .unset, .unset, .unset, .unset, .unset, .unset, .unset, .unset] [(.int ((fl.toUInt32 >>> ((2 : Int32) &&& 31).toUInt32).toInt32)), (.int v693)])) t → Steps p.tables e below (T731.setTop (mkF m 52 #[.val (.int r1), .val (.int n1), .val (.int ka), .val (.int kb), .val (.int kc), .val (.int fl), .val (.int (0 : Int32)), .val (.int v690), .val (.int v693), .val (.int v696), .val (.int v699), .val (.ref b703), .val (.ref b731), .unset, .unset, .unset, .unset, .unset, .unset, .unset, .unset, .unset, .unset, .unset, .unset] [])) t := by
      intro t kt
      show Steps p.tables e below (T731.setTop (mkF m 52 #[.val (.int r1), .val (.int n1), .val (.int ka), .val (.int kb), .val (.int kc), .val (.int fl), .val (.int (0 : Int32)), .val (.int v690), .val (.int v693), .val (.int v696), .val (.int v699), .val (.ref b703), .val (.ref b731), .unset, .unset, .unset, .unset, .unset, .unset, .unset, .unset, .unset, .unset, .unset, .unset] [])) _
      refine XS.iload X731.here hx rfl (hb hby at_52) rfl ?_
      refine XS.iconst X731.here hx rfl (hb hby at_54) ?_
      refine XS.icmpYes X731.here hx rfl (pc0 := 55) (pc' := 71) rfl (hb hby at_55) rfl (tlt (by decide)).1 (by decide) (by decide) ?_
      refine XS.iload X731.here hx rfl (hb hby at_71) rfl ?_
      refine XS.iconst X731.here hx rfl (hb hby at_73) ?_
      show Steps p.tables e below (T731.setTop (mkF m 74 #[.val (.int r1), .val (.int n1), .val (.int ka), .val (.int kb), .val (.int kc), .val (.int fl), .val (.int (0 : Int32)), .val (.int v690), .val (.int v693), .val (.int v696), .val (.int v699), .val (.ref b703), .val (.ref b731), .unset, .unset, .unset, .unset, .unset, .unset, .unset, .unset, .unset, .unset, .unset, .unset] [(.int (2 : Int32)), (.int (0 : Int32))])) _
      refine XS.icmpYes X731.here hx rfl (pc0 := 74) (pc' := 90) rfl (hb hby at_74) rfl (tlt (by decide)).1 (by decide) (by decide) ?_
      refine XS.iload X731.here hx rfl (hb hby at_90) rfl ?_
      refine XS.iconst X731.here hx rfl (hb hby at_92) ?_
      refine XS.icmpYes X731.here hx rfl (pc0 := 93) (pc' := 110) rfl (hb hby at_93) rfl (tlt (by decide)).1 (by decide) (by decide) ?_
      refine XS.lconst X731.here hx rfl (hb hby at_110) ?_
      show Steps p.tables e below (T731.setTop (mkF m 111 #[.val (.int r1), .val (.int n1), .val (.int ka), .val (.int kb), .val (.int kc), .val (.int fl), .val (.int (0 : Int32)), .val (.int v690), .val (.int v693), .val (.int v696), .val (.int v699), .val (.ref b703), .val (.ref b731), .unset, .unset, .unset, .unset, .unset, .unset, .unset, .unset, .unset, .unset, .unset, .unset] [(.long (1 : Int64))])) _
      refine XS.lstore X731.here hx rfl (hb hby at_111) rfl (l' := #[.val (.int r1), .val (.int n1), .val (.int ka), .val (.int kb), .val (.int kc), .val (.int fl), .val (.int (0 : Int32)), .val (.int v690), .val (.int v693), .val (.int v696), .val (.int v699), .val (.ref b703), .val (.ref b731), .val (.long (1 : Int64)), .second, .unset, .unset, .unset, .unset, .unset, .unset, .unset, .unset, .unset, .unset]) rfl ?_
      refine XS.iload X731.here hx rfl (hb hby at_113) rfl ?_
      refine XS.iload X731.here hx rfl (hb hby at_115) rfl ?_
      refine XS.iconst X731.here hx rfl (hb hby at_117) ?_
      refine XS.iushr X731.here hx rfl (hb hby at_118) rfl ?_
      exact kt
    obtain ⟨_, _, ⟨T737, L737, k737, n737⟩, -, X737, ⟨Lc737, hQ737, l737, y737, z737⟩, st737⟩ := Jvm.LawKit.callS X731 hx (y := (⟨"com/example/joinery/joinery/KeyGridFitsPinLaw", "radix", "(II)J"⟩ : MethodName)) hown (mvT hZ (hw _ (List.mem_of_getElem? (i := 94) rfl))) (mvT hZ (hw _ (List.mem_of_getElem? (i := 95) rfl))) (mvT hZ (hw _ (List.mem_of_getElem? (i := 83) rfl))) (mvT hZ (hw _ (List.mem_of_getElem? (i := 96) rfl))) (by decide) (backOf (W := 0) (rm10 l Z a0 hw [] v693 ((fl.toUInt32 >>> ((2 : Int32) &&& 31).toUInt32).toInt32) h731 n0 z732 ) hZ (hw _ (List.mem_of_getElem? (i := 96) rfl)) (hw _ (List.mem_of_getElem? (i := 83) rfl)) (by decide) (by decide)) (g := (mkF m 119 #[.val (.int r1), .val (.int n1), .val (.int ka), .val (.int kb), .val (.int kc), .val (.int fl), .val (.int (0 : Int32)), .val (.int v690), .val (.int v693), .val (.int v696), .val (.int v699), .val (.ref b703), .val (.ref b731), .val (.long (1 : Int64)), .second, .unset, .unset, .unset, .unset, .unset, .unset, .unset, .unset, .unset, .unset] [(.int ((fl.toUInt32 >>> ((2 : Int32) &&& 31).toUInt32).toInt32)), (.int v693)])) rfl (by rw [hml]; rfl) (argsL := [(.int v693), (.int ((fl.toUInt32 >>> ((2 : Int32) &&& 31).toUInt32).toInt32))]) (rest := []) (lenOf pd_8 rfl) rfl (by show 2 * 0 + _ ≤ _; exact Nat.le_of_eq rfl) (hb hby at_119) (fun _ _ => ⟨rfl, e731, (by decide : 28 + 0 ≤ _), (by decide : 56 + 0 ≤ _)⟩)
    dsimp only [Pt.U, Pt.locs, Pt.cells, Pt.slots] at X737 l737 y737 z737 st737 hQ737
    subst l737 y737 z737
    obtain ⟨rfl, N737q, e737⟩ := hQ737
    have N737 := Fr.app N728 N737q
    have S739 : ∀ t, Steps p.tables e below (T737.setTop (mkF m 125 #[.val (.int r1), .val (.int n1), .val (.int ka), .val (.int kb), .val (.int kc), .val (.int fl), .val (.int (0 : Int32)), .val (.int v690), .val (.int v693), .val (.int v696), .val (.int v699), .val (.ref b703), .val (.ref b731), .val (.long (1 : Int64)), .second, .unset, .unset, .unset, .unset, .unset, .unset, .unset, .unset, .unset, .unset] [(.long ((own_rad v693 ((fl.toUInt32 >>> ((2 : Int32) &&& 31).toUInt32).toInt32)) * (1 : Int64)))])) t → Steps p.tables e below (T737.setTop (mkF m 122 #[.val (.int r1), .val (.int n1), .val (.int ka), .val (.int kb), .val (.int kc), .val (.int fl), .val (.int (0 : Int32)), .val (.int v690), .val (.int v693), .val (.int v696), .val (.int v699), .val (.ref b703), .val (.ref b731), .val (.long (1 : Int64)), .second, .unset, .unset, .unset, .unset, .unset, .unset, .unset, .unset, .unset, .unset] [(.long (own_rad v693 ((fl.toUInt32 >>> ((2 : Int32) &&& 31).toUInt32).toInt32)))])) t := by
      intro t kt
      show Steps p.tables e below (T737.setTop (mkF m 122 #[.val (.int r1), .val (.int n1), .val (.int ka), .val (.int kb), .val (.int kc), .val (.int fl), .val (.int (0 : Int32)), .val (.int v690), .val (.int v693), .val (.int v696), .val (.int v699), .val (.ref b703), .val (.ref b731), .val (.long (1 : Int64)), .second, .unset, .unset, .unset, .unset, .unset, .unset, .unset, .unset, .unset, .unset] [(.long (own_rad v693 ((fl.toUInt32 >>> ((2 : Int32) &&& 31).toUInt32).toInt32)))])) _
      refine XS.lload X737.here hx rfl (hb hby at_122) rfl ?_
      refine XS.lmul X737.here hx rfl (hb hby at_124) rfl ?_
      exact kt
    obtain ⟨v738, hv738⟩ : ∃ z : Int64, z = ((own_rad v693 ((fl.toUInt32 >>> ((2 : Int32) &&& 31).toUInt32).toInt32)) * (1 : Int64)) := ⟨_, rfl⟩
    have S740 : ∀ t, Steps p.tables e below (T737.setTop (mkF m 125 #[.val (.int r1), .val (.int n1), .val (.int ka), .val (.int kb), .val (.int kc), .val (.int fl), .val (.int (0 : Int32)), .val (.int v690), .val (.int v693), .val (.int v696), .val (.int v699), .val (.ref b703), .val (.ref b731), .val (.long (1 : Int64)), .second, .unset, .unset, .unset, .unset, .unset, .unset, .unset, .unset, .unset, .unset] [(.long v738)])) t → Steps p.tables e below (T737.setTop (mkF m 125 #[.val (.int r1), .val (.int n1), .val (.int ka), .val (.int kb), .val (.int kc), .val (.int fl), .val (.int (0 : Int32)), .val (.int v690), .val (.int v693), .val (.int v696), .val (.int v699), .val (.ref b703), .val (.ref b731), .val (.long (1 : Int64)), .second, .unset, .unset, .unset, .unset, .unset, .unset, .unset, .unset, .unset, .unset] [(.long ((own_rad v693 ((fl.toUInt32 >>> ((2 : Int32) &&& 31).toUInt32).toInt32)) * (1 : Int64)))])) t := fun t k => by rw [hv738.symm]; exact k
    have S741 : ∀ t, Steps p.tables e below (T737.setTop (mkF m 133 #[.val (.int r1), .val (.int n1), .val (.int ka), .val (.int kb), .val (.int kc), .val (.int fl), .val (.int (0 : Int32)), .val (.int v690), .val (.int v693), .val (.int v696), .val (.int v699), .val (.ref b703), .val (.ref b731), .val (.long (1 : Int64)), .second, .val (.long v738), .second, .unset, .unset, .unset, .unset, .unset, .unset, .unset, .unset] [(.int ((fl.toUInt32 >>> ((4 : Int32) &&& 31).toUInt32).toInt32)), (.int v696)])) t → Steps p.tables e below (T737.setTop (mkF m 125 #[.val (.int r1), .val (.int n1), .val (.int ka), .val (.int kb), .val (.int kc), .val (.int fl), .val (.int (0 : Int32)), .val (.int v690), .val (.int v693), .val (.int v696), .val (.int v699), .val (.ref b703), .val (.ref b731), .val (.long (1 : Int64)), .second, .unset, .unset, .unset, .unset, .unset, .unset, .unset, .unset, .unset, .unset] [(.long v738)])) t := by
      intro t kt
      show Steps p.tables e below (T737.setTop (mkF m 125 #[.val (.int r1), .val (.int n1), .val (.int ka), .val (.int kb), .val (.int kc), .val (.int fl), .val (.int (0 : Int32)), .val (.int v690), .val (.int v693), .val (.int v696), .val (.int v699), .val (.ref b703), .val (.ref b731), .val (.long (1 : Int64)), .second, .unset, .unset, .unset, .unset, .unset, .unset, .unset, .unset, .unset, .unset] [(.long v738)])) _
      refine XS.lstore X737.here hx rfl (hb hby at_125) rfl (l' := #[.val (.int r1), .val (.int n1), .val (.int ka), .val (.int kb), .val (.int kc), .val (.int fl), .val (.int (0 : Int32)), .val (.int v690), .val (.int v693), .val (.int v696), .val (.int v699), .val (.ref b703), .val (.ref b731), .val (.long (1 : Int64)), .second, .val (.long v738), .second, .unset, .unset, .unset, .unset, .unset, .unset, .unset, .unset]) rfl ?_
      refine XS.iload X737.here hx rfl (hb hby at_127) rfl ?_
      refine XS.iload X737.here hx rfl (hb hby at_129) rfl ?_
      refine XS.iconst X737.here hx rfl (hb hby at_131) ?_
      refine XS.iushr X737.here hx rfl (hb hby at_132) rfl ?_
      exact kt
    obtain ⟨_, _, ⟨T742, L742, k742, n742⟩, -, X742, ⟨Lc742, hQ742, l742, y742, z742⟩, st742⟩ := Jvm.LawKit.callS X737 hx (y := (⟨"com/example/joinery/joinery/KeyGridFitsPinLaw", "radix", "(II)J"⟩ : MethodName)) hown (mvT hZ (hw _ (List.mem_of_getElem? (i := 94) rfl))) (mvT hZ (hw _ (List.mem_of_getElem? (i := 95) rfl))) (mvT hZ (hw _ (List.mem_of_getElem? (i := 83) rfl))) (mvT hZ (hw _ (List.mem_of_getElem? (i := 96) rfl))) (by decide) (backOf (W := 0) (rm10 l Z a0 hw [] v696 ((fl.toUInt32 >>> ((4 : Int32) &&& 31).toUInt32).toInt32) h731 n0 z732 ) hZ (hw _ (List.mem_of_getElem? (i := 96) rfl)) (hw _ (List.mem_of_getElem? (i := 83) rfl)) (by decide) (by decide)) (g := (mkF m 133 #[.val (.int r1), .val (.int n1), .val (.int ka), .val (.int kb), .val (.int kc), .val (.int fl), .val (.int (0 : Int32)), .val (.int v690), .val (.int v693), .val (.int v696), .val (.int v699), .val (.ref b703), .val (.ref b731), .val (.long (1 : Int64)), .second, .val (.long v738), .second, .unset, .unset, .unset, .unset, .unset, .unset, .unset, .unset] [(.int ((fl.toUInt32 >>> ((4 : Int32) &&& 31).toUInt32).toInt32)), (.int v696)])) rfl (by rw [hml]; rfl) (argsL := [(.int v696), (.int ((fl.toUInt32 >>> ((4 : Int32) &&& 31).toUInt32).toInt32))]) (rest := []) (lenOf pd_8 rfl) rfl (by show 2 * 0 + _ ≤ _; exact Nat.le_of_eq rfl) (hb hby at_133) (fun _ _ => ⟨rfl, e737, (by decide : 28 + 0 ≤ _), (by decide : 56 + 0 ≤ _)⟩)
    dsimp only [Pt.U, Pt.locs, Pt.cells, Pt.slots] at X742 l742 y742 z742 st742 hQ742
    subst l742 y742 z742
    obtain ⟨rfl, N742q, e742⟩ := hQ742
    have N742 := Fr.app N737 N742q
    have S744 : ∀ t, Steps p.tables e below (T742.setTop (mkF m 139 #[.val (.int r1), .val (.int n1), .val (.int ka), .val (.int kb), .val (.int kc), .val (.int fl), .val (.int (0 : Int32)), .val (.int v690), .val (.int v693), .val (.int v696), .val (.int v699), .val (.ref b703), .val (.ref b731), .val (.long (1 : Int64)), .second, .val (.long v738), .second, .unset, .unset, .unset, .unset, .unset, .unset, .unset, .unset] [(.long ((own_rad v696 ((fl.toUInt32 >>> ((4 : Int32) &&& 31).toUInt32).toInt32)) * v738))])) t → Steps p.tables e below (T742.setTop (mkF m 136 #[.val (.int r1), .val (.int n1), .val (.int ka), .val (.int kb), .val (.int kc), .val (.int fl), .val (.int (0 : Int32)), .val (.int v690), .val (.int v693), .val (.int v696), .val (.int v699), .val (.ref b703), .val (.ref b731), .val (.long (1 : Int64)), .second, .val (.long v738), .second, .unset, .unset, .unset, .unset, .unset, .unset, .unset, .unset] [(.long (own_rad v696 ((fl.toUInt32 >>> ((4 : Int32) &&& 31).toUInt32).toInt32)))])) t := by
      intro t kt
      show Steps p.tables e below (T742.setTop (mkF m 136 #[.val (.int r1), .val (.int n1), .val (.int ka), .val (.int kb), .val (.int kc), .val (.int fl), .val (.int (0 : Int32)), .val (.int v690), .val (.int v693), .val (.int v696), .val (.int v699), .val (.ref b703), .val (.ref b731), .val (.long (1 : Int64)), .second, .val (.long v738), .second, .unset, .unset, .unset, .unset, .unset, .unset, .unset, .unset] [(.long (own_rad v696 ((fl.toUInt32 >>> ((4 : Int32) &&& 31).toUInt32).toInt32)))])) _
      refine XS.lload X742.here hx rfl (hb hby at_136) rfl ?_
      refine XS.lmul X742.here hx rfl (hb hby at_138) rfl ?_
      exact kt
    obtain ⟨v743, hv743⟩ : ∃ z : Int64, z = ((own_rad v696 ((fl.toUInt32 >>> ((4 : Int32) &&& 31).toUInt32).toInt32)) * v738) := ⟨_, rfl⟩
    have S745 : ∀ t, Steps p.tables e below (T742.setTop (mkF m 139 #[.val (.int r1), .val (.int n1), .val (.int ka), .val (.int kb), .val (.int kc), .val (.int fl), .val (.int (0 : Int32)), .val (.int v690), .val (.int v693), .val (.int v696), .val (.int v699), .val (.ref b703), .val (.ref b731), .val (.long (1 : Int64)), .second, .val (.long v738), .second, .unset, .unset, .unset, .unset, .unset, .unset, .unset, .unset] [(.long v743)])) t → Steps p.tables e below (T742.setTop (mkF m 139 #[.val (.int r1), .val (.int n1), .val (.int ka), .val (.int kb), .val (.int kc), .val (.int fl), .val (.int (0 : Int32)), .val (.int v690), .val (.int v693), .val (.int v696), .val (.int v699), .val (.ref b703), .val (.ref b731), .val (.long (1 : Int64)), .second, .val (.long v738), .second, .unset, .unset, .unset, .unset, .unset, .unset, .unset, .unset] [(.long ((own_rad v696 ((fl.toUInt32 >>> ((4 : Int32) &&& 31).toUInt32).toInt32)) * v738))])) t := fun t k => by rw [hv743.symm]; exact k
    have S746 : ∀ t, Steps p.tables e below (T742.setTop (mkF m 148 #[.val (.int r1), .val (.int n1), .val (.int ka), .val (.int kb), .val (.int kc), .val (.int fl), .val (.int (0 : Int32)), .val (.int v690), .val (.int v693), .val (.int v696), .val (.int v699), .val (.ref b703), .val (.ref b731), .val (.long (1 : Int64)), .second, .val (.long v738), .second, .val (.long v743), .second, .unset, .unset, .unset, .unset, .unset, .unset] [(.int ((fl.toUInt32 >>> ((6 : Int32) &&& 31).toUInt32).toInt32)), (.int v699)])) t → Steps p.tables e below (T742.setTop (mkF m 139 #[.val (.int r1), .val (.int n1), .val (.int ka), .val (.int kb), .val (.int kc), .val (.int fl), .val (.int (0 : Int32)), .val (.int v690), .val (.int v693), .val (.int v696), .val (.int v699), .val (.ref b703), .val (.ref b731), .val (.long (1 : Int64)), .second, .val (.long v738), .second, .unset, .unset, .unset, .unset, .unset, .unset, .unset, .unset] [(.long v743)])) t := by
      intro t kt
      show Steps p.tables e below (T742.setTop (mkF m 139 #[.val (.int r1), .val (.int n1), .val (.int ka), .val (.int kb), .val (.int kc), .val (.int fl), .val (.int (0 : Int32)), .val (.int v690), .val (.int v693), .val (.int v696), .val (.int v699), .val (.ref b703), .val (.ref b731), .val (.long (1 : Int64)), .second, .val (.long v738), .second, .unset, .unset, .unset, .unset, .unset, .unset, .unset, .unset] [(.long v743)])) _
      refine XS.lstore X742.here hx rfl (hb hby at_139) rfl (l' := #[.val (.int r1), .val (.int n1), .val (.int ka), .val (.int kb), .val (.int kc), .val (.int fl), .val (.int (0 : Int32)), .val (.int v690), .val (.int v693), .val (.int v696), .val (.int v699), .val (.ref b703), .val (.ref b731), .val (.long (1 : Int64)), .second, .val (.long v738), .second, .val (.long v743), .second, .unset, .unset, .unset, .unset, .unset, .unset]) rfl ?_
      refine XS.iload X742.here hx rfl (hb hby at_141) rfl ?_
      refine XS.iload X742.here hx rfl (hb hby at_143) rfl ?_
      refine XS.bipush X742.here hx rfl (hb hby at_145) ?_
      refine XS.iushr X742.here hx rfl (hb hby at_147) rfl ?_
      exact kt
    obtain ⟨_, _, ⟨T747, L747, k747, n747⟩, -, X747, ⟨Lc747, hQ747, l747, y747, z747⟩, st747⟩ := Jvm.LawKit.callS X742 hx (y := (⟨"com/example/joinery/joinery/KeyGridFitsPinLaw", "radix", "(II)J"⟩ : MethodName)) hown (mvT hZ (hw _ (List.mem_of_getElem? (i := 94) rfl))) (mvT hZ (hw _ (List.mem_of_getElem? (i := 95) rfl))) (mvT hZ (hw _ (List.mem_of_getElem? (i := 83) rfl))) (mvT hZ (hw _ (List.mem_of_getElem? (i := 96) rfl))) (by decide) (backOf (W := 0) (rm10 l Z a0 hw [] v699 ((fl.toUInt32 >>> ((6 : Int32) &&& 31).toUInt32).toInt32) h731 n0 z732 ) hZ (hw _ (List.mem_of_getElem? (i := 96) rfl)) (hw _ (List.mem_of_getElem? (i := 83) rfl)) (by decide) (by decide)) (g := (mkF m 148 #[.val (.int r1), .val (.int n1), .val (.int ka), .val (.int kb), .val (.int kc), .val (.int fl), .val (.int (0 : Int32)), .val (.int v690), .val (.int v693), .val (.int v696), .val (.int v699), .val (.ref b703), .val (.ref b731), .val (.long (1 : Int64)), .second, .val (.long v738), .second, .val (.long v743), .second, .unset, .unset, .unset, .unset, .unset, .unset] [(.int ((fl.toUInt32 >>> ((6 : Int32) &&& 31).toUInt32).toInt32)), (.int v699)])) rfl (by rw [hml]; rfl) (argsL := [(.int v699), (.int ((fl.toUInt32 >>> ((6 : Int32) &&& 31).toUInt32).toInt32))]) (rest := []) (lenOf pd_8 rfl) rfl (by show 2 * 0 + _ ≤ _; exact Nat.le_of_eq rfl) (hb hby at_148) (fun _ _ => ⟨rfl, e742, (by decide : 28 + 0 ≤ _), (by decide : 56 + 0 ≤ _)⟩)
    dsimp only [Pt.U, Pt.locs, Pt.cells, Pt.slots] at X747 l747 y747 z747 st747 hQ747
    subst l747 y747 z747
    obtain ⟨rfl, N747q, e747⟩ := hQ747
    have N747 := Fr.app N742 N747q
    have S749 : ∀ t, Steps p.tables e below (T747.setTop (mkF m 154 #[.val (.int r1), .val (.int n1), .val (.int ka), .val (.int kb), .val (.int kc), .val (.int fl), .val (.int (0 : Int32)), .val (.int v690), .val (.int v693), .val (.int v696), .val (.int v699), .val (.ref b703), .val (.ref b731), .val (.long (1 : Int64)), .second, .val (.long v738), .second, .val (.long v743), .second, .unset, .unset, .unset, .unset, .unset, .unset] [(.long ((own_rad v699 ((fl.toUInt32 >>> ((6 : Int32) &&& 31).toUInt32).toInt32)) * v743))])) t → Steps p.tables e below (T747.setTop (mkF m 151 #[.val (.int r1), .val (.int n1), .val (.int ka), .val (.int kb), .val (.int kc), .val (.int fl), .val (.int (0 : Int32)), .val (.int v690), .val (.int v693), .val (.int v696), .val (.int v699), .val (.ref b703), .val (.ref b731), .val (.long (1 : Int64)), .second, .val (.long v738), .second, .val (.long v743), .second, .unset, .unset, .unset, .unset, .unset, .unset] [(.long (own_rad v699 ((fl.toUInt32 >>> ((6 : Int32) &&& 31).toUInt32).toInt32)))])) t := by
      intro t kt
      show Steps p.tables e below (T747.setTop (mkF m 151 #[.val (.int r1), .val (.int n1), .val (.int ka), .val (.int kb), .val (.int kc), .val (.int fl), .val (.int (0 : Int32)), .val (.int v690), .val (.int v693), .val (.int v696), .val (.int v699), .val (.ref b703), .val (.ref b731), .val (.long (1 : Int64)), .second, .val (.long v738), .second, .val (.long v743), .second, .unset, .unset, .unset, .unset, .unset, .unset] [(.long (own_rad v699 ((fl.toUInt32 >>> ((6 : Int32) &&& 31).toUInt32).toInt32)))])) _
      refine XS.lload X747.here hx rfl (hb hby at_151) rfl ?_
      refine XS.lmul X747.here hx rfl (hb hby at_153) rfl ?_
      exact kt
    obtain ⟨v748, hv748⟩ : ∃ z : Int64, z = ((own_rad v699 ((fl.toUInt32 >>> ((6 : Int32) &&& 31).toUInt32).toInt32)) * v743) := ⟨_, rfl⟩
    have S750 : ∀ t, Steps p.tables e below (T747.setTop (mkF m 154 #[.val (.int r1), .val (.int n1), .val (.int ka), .val (.int kb), .val (.int kc), .val (.int fl), .val (.int (0 : Int32)), .val (.int v690), .val (.int v693), .val (.int v696), .val (.int v699), .val (.ref b703), .val (.ref b731), .val (.long (1 : Int64)), .second, .val (.long v738), .second, .val (.long v743), .second, .unset, .unset, .unset, .unset, .unset, .unset] [(.long v748)])) t → Steps p.tables e below (T747.setTop (mkF m 154 #[.val (.int r1), .val (.int n1), .val (.int ka), .val (.int kb), .val (.int kc), .val (.int fl), .val (.int (0 : Int32)), .val (.int v690), .val (.int v693), .val (.int v696), .val (.int v699), .val (.ref b703), .val (.ref b731), .val (.long (1 : Int64)), .second, .val (.long v738), .second, .val (.long v743), .second, .unset, .unset, .unset, .unset, .unset, .unset] [(.long ((own_rad v699 ((fl.toUInt32 >>> ((6 : Int32) &&& 31).toUInt32).toInt32)) * v743))])) t := fun t k => by rw [hv748.symm]; exact k
    have S751 : ∀ t, Steps p.tables e below (T747.setTop (mkF m 160 #[.val (.int r1), .val (.int n1), .val (.int ka), .val (.int kb), .val (.int kc), .val (.int fl), .val (.int (0 : Int32)), .val (.int v690), .val (.int v693), .val (.int v696), .val (.int v699), .val (.ref b703), .val (.ref b731), .val (.long (1 : Int64)), .second, .val (.long v738), .second, .val (.long v743), .second, .val (.long v748), .second, .unset, .unset, .unset, .unset] [(.int ((3 : Int32) - (0 : Int32)))])) t → Steps p.tables e below (T747.setTop (mkF m 154 #[.val (.int r1), .val (.int n1), .val (.int ka), .val (.int kb), .val (.int kc), .val (.int fl), .val (.int (0 : Int32)), .val (.int v690), .val (.int v693), .val (.int v696), .val (.int v699), .val (.ref b703), .val (.ref b731), .val (.long (1 : Int64)), .second, .val (.long v738), .second, .val (.long v743), .second, .unset, .unset, .unset, .unset, .unset, .unset] [(.long v748)])) t := by
      intro t kt
      show Steps p.tables e below (T747.setTop (mkF m 154 #[.val (.int r1), .val (.int n1), .val (.int ka), .val (.int kb), .val (.int kc), .val (.int fl), .val (.int (0 : Int32)), .val (.int v690), .val (.int v693), .val (.int v696), .val (.int v699), .val (.ref b703), .val (.ref b731), .val (.long (1 : Int64)), .second, .val (.long v738), .second, .val (.long v743), .second, .unset, .unset, .unset, .unset, .unset, .unset] [(.long v748)])) _
      refine XS.lstore X747.here hx rfl (hb hby at_154) rfl (l' := #[.val (.int r1), .val (.int n1), .val (.int ka), .val (.int kb), .val (.int kc), .val (.int fl), .val (.int (0 : Int32)), .val (.int v690), .val (.int v693), .val (.int v696), .val (.int v699), .val (.ref b703), .val (.ref b731), .val (.long (1 : Int64)), .second, .val (.long v738), .second, .val (.long v743), .second, .val (.long v748), .second, .unset, .unset, .unset, .unset]) rfl ?_
      refine XS.iconst X747.here hx rfl (hb hby at_156) ?_
      refine XS.iload X747.here hx rfl (hb hby at_157) rfl ?_
      refine XS.isub X747.here hx rfl (hb hby at_159) rfl ?_
      exact kt
    have S752 : ∀ t, Steps p.tables e below (T747.setTop (mkF m 160 #[.val (.int r1), .val (.int n1), .val (.int ka), .val (.int kb), .val (.int kc), .val (.int fl), .val (.int (0 : Int32)), .val (.int v690), .val (.int v693), .val (.int v696), .val (.int v699), .val (.ref b703), .val (.ref b731), .val (.long (1 : Int64)), .second, .val (.long v738), .second, .val (.long v743), .second, .val (.long v748), .second, .unset, .unset, .unset, .unset] [(.int (3 : Int32))])) t → Steps p.tables e below (T747.setTop (mkF m 160 #[.val (.int r1), .val (.int n1), .val (.int ka), .val (.int kb), .val (.int kc), .val (.int fl), .val (.int (0 : Int32)), .val (.int v690), .val (.int v693), .val (.int v696), .val (.int v699), .val (.ref b703), .val (.ref b731), .val (.long (1 : Int64)), .second, .val (.long v738), .second, .val (.long v743), .second, .val (.long v748), .second, .unset, .unset, .unset, .unset] [(.int ((3 : Int32) - (0 : Int32)))])) t := fun t k => by rw [(show ((3 : Int32) - (0 : Int32)) = (3 : Int32) from by decide)]; exact k
    have S753 : ∀ t, Steps p.tables e below (T747.setTop (mkF m 166 #[.val (.int r1), .val (.int n1), .val (.int ka), .val (.int kb), .val (.int kc), .val (.int fl), .val (.int (0 : Int32)), .val (.int v690), .val (.int v693), .val (.int v696), .val (.int v699), .val (.ref b703), .val (.ref b731), .val (.long (1 : Int64)), .second, .val (.long v738), .second, .val (.long v743), .second, .val (.long v748), .second, .val (.int (3 : Int32)), .unset, .unset, .unset] [(.int (3 : Int32)), (.int v690)])) t → Steps p.tables e below (T747.setTop (mkF m 160 #[.val (.int r1), .val (.int n1), .val (.int ka), .val (.int kb), .val (.int kc), .val (.int fl), .val (.int (0 : Int32)), .val (.int v690), .val (.int v693), .val (.int v696), .val (.int v699), .val (.ref b703), .val (.ref b731), .val (.long (1 : Int64)), .second, .val (.long v738), .second, .val (.long v743), .second, .val (.long v748), .second, .unset, .unset, .unset, .unset] [(.int (3 : Int32))])) t := by
      intro t kt
      show Steps p.tables e below (T747.setTop (mkF m 160 #[.val (.int r1), .val (.int n1), .val (.int ka), .val (.int kb), .val (.int kc), .val (.int fl), .val (.int (0 : Int32)), .val (.int v690), .val (.int v693), .val (.int v696), .val (.int v699), .val (.ref b703), .val (.ref b731), .val (.long (1 : Int64)), .second, .val (.long v738), .second, .val (.long v743), .second, .val (.long v748), .second, .unset, .unset, .unset, .unset] [(.int (3 : Int32))])) _
      refine XS.istore X747.here hx rfl (hb hby at_160) rfl (l' := #[.val (.int r1), .val (.int n1), .val (.int ka), .val (.int kb), .val (.int kc), .val (.int fl), .val (.int (0 : Int32)), .val (.int v690), .val (.int v693), .val (.int v696), .val (.int v699), .val (.ref b703), .val (.ref b731), .val (.long (1 : Int64)), .second, .val (.long v738), .second, .val (.long v743), .second, .val (.long v748), .second, .val (.int (3 : Int32)), .unset, .unset, .unset]) rfl ?_
      refine XS.iload X747.here hx rfl (hb hby at_162) rfl ?_
      refine XS.iload X747.here hx rfl (hb hby at_164) rfl ?_
      exact kt
    by_cases hc754 : v690 < (3 : Int32)
    · have hEx := own_KG_exa hG0
      have S755 : ∀ t, Steps p.tables e below (T747.setTop (mkF m 242 #[.val (.int r1), .val (.int n1), .val (.int ka), .val (.int kb), .val (.int kc), .val (.int fl), .val (.int (0 : Int32)), .val (.int v690), .val (.int v693), .val (.int v696), .val (.int v699), .val (.ref b703), .val (.ref b731), .val (.long (1 : Int64)), .second, .val (.long v738), .second, .val (.long v743), .second, .val (.long v748), .second, .val (.int (3 : Int32)), .val (.int (0 : Int32)), .unset, .unset] [(.int v690), (.int r1), (.ref b703)])) t → Steps p.tables e below (T747.setTop (mkF m 166 #[.val (.int r1), .val (.int n1), .val (.int ka), .val (.int kb), .val (.int kc), .val (.int fl), .val (.int (0 : Int32)), .val (.int v690), .val (.int v693), .val (.int v696), .val (.int v699), .val (.ref b703), .val (.ref b731), .val (.long (1 : Int64)), .second, .val (.long v738), .second, .val (.long v743), .second, .val (.long v748), .second, .val (.int (3 : Int32)), .unset, .unset, .unset] [(.int (3 : Int32)), (.int v690)])) t := by
        intro t kt
        show Steps p.tables e below (T747.setTop (mkF m 166 #[.val (.int r1), .val (.int n1), .val (.int ka), .val (.int kb), .val (.int kc), .val (.int fl), .val (.int (0 : Int32)), .val (.int v690), .val (.int v693), .val (.int v696), .val (.int v699), .val (.ref b703), .val (.ref b731), .val (.long (1 : Int64)), .second, .val (.long v738), .second, .val (.long v743), .second, .val (.long v748), .second, .val (.int (3 : Int32)), .unset, .unset, .unset] [(.int (3 : Int32)), (.int v690)])) _
        refine XS.icmpNo X747.here hx rfl (hb hby at_166) rfl (tlt hc754).2.1 ?_
        refine XS.iconst X747.here hx rfl (hb hby at_169) ?_
        refine XS.istore X747.here hx rfl (hb hby at_170) rfl (l' := #[.val (.int r1), .val (.int n1), .val (.int ka), .val (.int kb), .val (.int kc), .val (.int fl), .val (.int (0 : Int32)), .val (.int v690), .val (.int v693), .val (.int v696), .val (.int v699), .val (.ref b703), .val (.ref b731), .val (.long (1 : Int64)), .second, .val (.long v738), .second, .val (.long v743), .second, .val (.long v748), .second, .val (.int (3 : Int32)), .val (.int (0 : Int32)), .unset, .unset]) rfl ?_
        refine XS.goto X747.here hx rfl (pc0 := 172) (pc' := 237) rfl (hb hby at_172) (by decide) (by decide) ?_
        refine XS.aload X747.here hx rfl (hb hby at_237) rfl rfl ?_
        show Steps p.tables e below (T747.setTop (mkF m 239 #[.val (.int r1), .val (.int n1), .val (.int ka), .val (.int kb), .val (.int kc), .val (.int fl), .val (.int (0 : Int32)), .val (.int v690), .val (.int v693), .val (.int v696), .val (.int v699), .val (.ref b703), .val (.ref b731), .val (.long (1 : Int64)), .second, .val (.long v738), .second, .val (.long v743), .second, .val (.long v748), .second, .val (.int (3 : Int32)), .val (.int (0 : Int32)), .unset, .unset] [(.ref b703)])) _
        refine XS.iloadN X747.here hx rfl (hb hby at_239) rfl ?_
        refine XS.iload X747.here hx rfl (hb hby at_240) rfl ?_
        exact kt
      obtain ⟨cq756, kq756, q756a, q756b, q756c⟩ := isOf hZ e747 hEx
      obtain ⟨_, _, ⟨T756, L756, k756, n756⟩, -, X756, ⟨Lc756, hQ756, l756, y756, z756⟩, st756⟩ := X747.virtualBack hx (y := (⟨"com/example/joinery/joinery/KeyGrid", "fits", "(II)Z"⟩ : MethodName)) (z := (⟨"com/example/joinery/joinery/KeyGrid", "fits", "(II)Z"⟩ : MethodName)) hown (mvT hZ (hw _ (List.mem_of_getElem? (i := 98) rfl))) (mvT hZ (hw _ (List.mem_of_getElem? (i := 99) rfl))) (notFace_of_selects (args := #[]) (mvT hZ (hw _ (List.mem_of_getElem? (i := 101) rfl)))) (mvT hZ (hw _ (List.mem_of_getElem? (i := 101) rfl))) (mvT hZ (hw _ (List.mem_of_getElem? (i := 100) rfl))) (by decide) (backOf (W := 0) (rm11 l Z a0 hw [] b703 b731 r1 v690 3 own_cv0 h731 n0 z732 hG0 (by decide) hname.2) hZ (hw _ (List.mem_of_getElem? (i := 102) rfl)) (hw _ (List.mem_of_getElem? (i := 4) rfl)) (by decide) (by decide)) q756a q756c (g := (mkF m 242 #[.val (.int r1), .val (.int n1), .val (.int ka), .val (.int kb), .val (.int kc), .val (.int fl), .val (.int (0 : Int32)), .val (.int v690), .val (.int v693), .val (.int v696), .val (.int v699), .val (.ref b703), .val (.ref b731), .val (.long (1 : Int64)), .second, .val (.long v738), .second, .val (.long v743), .second, .val (.long v748), .second, .val (.int (3 : Int32)), .val (.int (0 : Int32)), .unset, .unset] [(.int v690), (.int r1), (.ref b703)])) rfl (by rw [hml]; rfl) (Steps.refl _) (argsL := [(.int r1), (.int v690)]) (rest := []) (lenOf pd_9 rfl) rfl (by show 2 * 0 + _ ≤ _; exact Nat.le_of_eq rfl) (hb hby at_242) (fun _ _ => ⟨rfl, e747, (by decide : 28 + 0 ≤ _), (by decide : 56 + 0 ≤ _)⟩)
      dsimp only [Pt.U, Pt.locs, Pt.cells, Pt.slots] at X756 l756 y756 z756 st756 hQ756
      subst l756 y756 z756
      obtain ⟨rfl, N756q, e756⟩ := hQ756
      have N756 := Fr.app N747 N756q
      have S757 : ∀ t, Steps p.tables e below (T756.setTop (mkF m 255 #[.val (.int r1), .val (.int n1), .val (.int ka), .val (.int kb), .val (.int kc), .val (.int fl), .val (.int (0 : Int32)), .val (.int v690), .val (.int v693), .val (.int v696), .val (.int v699), .val (.ref b703), .val (.ref b731), .val (.long (1 : Int64)), .second, .val (.long v738), .second, .val (.long v743), .second, .val (.long v748), .second, .val (.int (3 : Int32)), .val (.int (0 : Int32)), .unset, .unset] [(.int (1 : Int32))])) t → Steps p.tables e below (T756.setTop (mkF m 245 #[.val (.int r1), .val (.int n1), .val (.int ka), .val (.int kb), .val (.int kc), .val (.int fl), .val (.int (0 : Int32)), .val (.int v690), .val (.int v693), .val (.int v696), .val (.int v699), .val (.ref b703), .val (.ref b731), .val (.long (1 : Int64)), .second, .val (.long v738), .second, .val (.long v743), .second, .val (.long v748), .second, .val (.int (3 : Int32)), .val (.int (0 : Int32)), .unset, .unset] [(.int (own_fits own_cv0 3 r1 v690))])) t := by
        intro t kt
        show Steps p.tables e below (T756.setTop (mkF m 245 #[.val (.int r1), .val (.int n1), .val (.int ka), .val (.int kb), .val (.int kc), .val (.int fl), .val (.int (0 : Int32)), .val (.int v690), .val (.int v693), .val (.int v696), .val (.int v699), .val (.ref b703), .val (.ref b731), .val (.long (1 : Int64)), .second, .val (.long v738), .second, .val (.long v743), .second, .val (.long v748), .second, .val (.int (3 : Int32)), .val (.int (0 : Int32)), .unset, .unset] [(.int (own_fits own_cv0 3 r1 v690))])) _
        refine XS.iload X756.here hx rfl (hb hby at_245) rfl ?_
        refine XS.icmpNo X756.here hx rfl (hb hby at_247) rfl (teq (own_lt (show v690 < Int32.ofNat 3 from hc754))).2 ?_
        refine XS.iconst X756.here hx rfl (hb hby at_250) ?_
        refine XS.goto X756.here hx rfl (pc0 := 251) (pc' := 255) rfl (hb hby at_251) (by decide) (by decide) ?_
        exact kt
      have C758 : ∀ t, Steps p.tables e below (T756.setTop (mkF m 255 #[.val (.int r1), .val (.int n1), .val (.int ka), .val (.int kb), .val (.int kc), .val (.int fl), .val (.int (0 : Int32)), .val (.int v690), .val (.int v693), .val (.int v696), .val (.int v699), .val (.ref b703), .val (.ref b731), .val (.long (1 : Int64)), .second, .val (.long v738), .second, .val (.long v743), .second, .val (.long v748), .second, .val (.int (3 : Int32)), .val (.int (0 : Int32)), .unset, .unset] [(.int (1 : Int32))])) t → Steps p.tables e below (s₁.setTop (mkF m 0 #[.val (.int r1), .val (.int n1), .val (.int ka), .val (.int kb), .val (.int kc), .val (.int fl), .unset, .unset, .unset, .unset, .unset, .unset, .unset, .unset, .unset, .unset, .unset, .unset, .unset, .unset, .unset, .unset, .unset, .unset, .unset] [])) t := (fun t k => (C734 t (S735 t (S736 t (st737 t (S739 t (S740 t (S741 t (st742 t (S744 t (S745 t (S746 t (st747 t (S749 t (S750 t (S751 t (S752 t (S753 t (S755 t (st756.trans (S757 t k)))))))))))))))))))))
      obtain ⟨fs, hr, hrun, hended, hW, hsame⟩ := X756.leave (v := some (.int (1 : Int32))) (fun h => by rw [Bd.returns] at h; cases h)
      refine ⟨_, _, pre0 _ (C758 _ ?_), hrun, hended, _, _, rfl, ?_, ⟨_, rfl⟩, hW, hsame.mono (by decide) (by decide)⟩
      · exact retN X756 hx (t := .boolean) Bd.returns (by simp) (hb hby at_255) hr
      · show Q_rm0 Z r1 n1 ka kb kc fl h0 n0 _ T756.heap _
        rw [e756]
        exact ⟨rfl, N756⟩
    · have S759 : ∀ t, Steps p.tables e below (T747.setTop (mkF m 178 #[.val (.int r1), .val (.int n1), .val (.int ka), .val (.int kb), .val (.int kc), .val (.int fl), .val (.int (0 : Int32)), .val (.int v690), .val (.int v693), .val (.int v696), .val (.int v699), .val (.ref b703), .val (.ref b731), .val (.long (1 : Int64)), .second, .val (.long v738), .second, .val (.long v743), .second, .val (.long v748), .second, .val (.int (3 : Int32)), .unset, .unset, .unset] [(.int (3 : Int32)), (.int v690)])) t → Steps p.tables e below (T747.setTop (mkF m 166 #[.val (.int r1), .val (.int n1), .val (.int ka), .val (.int kb), .val (.int kc), .val (.int fl), .val (.int (0 : Int32)), .val (.int v690), .val (.int v693), .val (.int v696), .val (.int v699), .val (.ref b703), .val (.ref b731), .val (.long (1 : Int64)), .second, .val (.long v738), .second, .val (.long v743), .second, .val (.long v748), .second, .val (.int (3 : Int32)), .unset, .unset, .unset] [(.int (3 : Int32)), (.int v690)])) t := by
        intro t kt
        show Steps p.tables e below (T747.setTop (mkF m 166 #[.val (.int r1), .val (.int n1), .val (.int ka), .val (.int kb), .val (.int kc), .val (.int fl), .val (.int (0 : Int32)), .val (.int v690), .val (.int v693), .val (.int v696), .val (.int v699), .val (.ref b703), .val (.ref b731), .val (.long (1 : Int64)), .second, .val (.long v738), .second, .val (.long v743), .second, .val (.long v748), .second, .val (.int (3 : Int32)), .unset, .unset, .unset] [(.int (3 : Int32)), (.int v690)])) _
        refine XS.icmpYes X747.here hx rfl (pc0 := 166) (pc' := 175) rfl (hb hby at_166) rfl (flt hc754).2.1 (by decide) (by decide) ?_
        refine XS.iload X747.here hx rfl (hb hby at_175) rfl ?_
        refine XS.iconst X747.here hx rfl (hb hby at_177) ?_
        exact kt
      by_cases hc760 : v690 = (3 : Int32)
      · have S761 : ∀ t, Steps p.tables e below (T747.setTop (mkF m 227 #[.val (.int r1), .val (.int n1), .val (.int ka), .val (.int kb), .val (.int kc), .val (.int fl), .val (.int (0 : Int32)), .val (.int v690), .val (.int v693), .val (.int v696), .val (.int v699), .val (.ref b703), .val (.ref b731), .val (.long (1 : Int64)), .second, .val (.long v738), .second, .val (.long v743), .second, .val (.long v748), .second, .val (.int (3 : Int32)), .unset, .val (.long (1 : Int64)), .second] [(.int (lcmpW (1 : Int64) ((16 : Int64) * (r1.toInt64))))])) t → Steps p.tables e below (T747.setTop (mkF m 178 #[.val (.int r1), .val (.int n1), .val (.int ka), .val (.int kb), .val (.int kc), .val (.int fl), .val (.int (0 : Int32)), .val (.int v690), .val (.int v693), .val (.int v696), .val (.int v699), .val (.ref b703), .val (.ref b731), .val (.long (1 : Int64)), .second, .val (.long v738), .second, .val (.long v743), .second, .val (.long v748), .second, .val (.int (3 : Int32)), .unset, .unset, .unset] [(.int (3 : Int32)), (.int v690)])) t := by
          intro t kt
          show Steps p.tables e below (T747.setTop (mkF m 178 #[.val (.int r1), .val (.int n1), .val (.int ka), .val (.int kb), .val (.int kc), .val (.int fl), .val (.int (0 : Int32)), .val (.int v690), .val (.int v693), .val (.int v696), .val (.int v699), .val (.ref b703), .val (.ref b731), .val (.long (1 : Int64)), .second, .val (.long v738), .second, .val (.long v743), .second, .val (.long v748), .second, .val (.int (3 : Int32)), .unset, .unset, .unset] [(.int (3 : Int32)), (.int v690)])) _
          refine XS.icmpNo X747.here hx rfl (hb hby at_178) rfl (teq hc760).2 ?_
          refine XS.lload X747.here hx rfl (hb hby at_181) rfl ?_
          refine XS.lstore X747.here hx rfl (hb hby at_183) rfl (l' := #[.val (.int r1), .val (.int n1), .val (.int ka), .val (.int kb), .val (.int kc), .val (.int fl), .val (.int (0 : Int32)), .val (.int v690), .val (.int v693), .val (.int v696), .val (.int v699), .val (.ref b703), .val (.ref b731), .val (.long (1 : Int64)), .second, .val (.long v738), .second, .val (.long v743), .second, .val (.long v748), .second, .val (.int (3 : Int32)), .unset, .val (.long (1 : Int64)), .second]) rfl ?_
          refine XS.goto X747.here hx rfl (pc0 := 185) (pc' := 218) rfl (hb hby at_185) (by decide) (by decide) ?_
          refine XS.lload X747.here hx rfl (hb hby at_218) rfl ?_
          show Steps p.tables e below (T747.setTop (mkF m 220 #[.val (.int r1), .val (.int n1), .val (.int ka), .val (.int kb), .val (.int kc), .val (.int fl), .val (.int (0 : Int32)), .val (.int v690), .val (.int v693), .val (.int v696), .val (.int v699), .val (.ref b703), .val (.ref b731), .val (.long (1 : Int64)), .second, .val (.long v738), .second, .val (.long v743), .second, .val (.long v748), .second, .val (.int (3 : Int32)), .unset, .val (.long (1 : Int64)), .second] [(.long (1 : Int64))])) _
          refine X747.ldc2Long hx hown (mvT hZ (hw _ (List.mem_of_getElem? (i := 97) rfl))) (g := (mkF m 220 #[.val (.int r1), .val (.int n1), .val (.int ka), .val (.int kb), .val (.int kc), .val (.int fl), .val (.int (0 : Int32)), .val (.int v690), .val (.int v693), .val (.int v696), .val (.int v699), .val (.ref b703), .val (.ref b731), .val (.long (1 : Int64)), .second, .val (.long v738), .second, .val (.long v743), .second, .val (.long v748), .second, .val (.int (3 : Int32)), .unset, .val (.long (1 : Int64)), .second] [(.long (1 : Int64))])) rfl (hb hby at_220) _ ?_
          refine XS.iloadN X747.here hx rfl (hb hby at_223) rfl ?_
          refine XS.i2l X747.here hx rfl (hb hby at_224) rfl ?_
          refine XS.lmul X747.here hx rfl (hb hby at_225) rfl ?_
          refine XS.lcmp X747.here hx rfl (hb hby at_226) rfl ?_
          exact kt
        obtain ⟨v764, hv764⟩ : ∃ z : Int32, z = (if ((16 : Int64) * (r1.toInt64)) < (1 : Int64) then (0 : Int32) else (1 : Int32)) := ⟨_, rfl⟩
        have S763 : ∀ t, Steps p.tables e below (T747.setTop (mkF m 235 #[.val (.int r1), .val (.int n1), .val (.int ka), .val (.int kb), .val (.int kc), .val (.int fl), .val (.int (0 : Int32)), .val (.int v690), .val (.int v693), .val (.int v696), .val (.int v699), .val (.ref b703), .val (.ref b731), .val (.long (1 : Int64)), .second, .val (.long v738), .second, .val (.long v743), .second, .val (.long v748), .second, .val (.int (3 : Int32)), .unset, .val (.long (1 : Int64)), .second] [(.int v764)])) t → Steps p.tables e below (T747.setTop (mkF m 227 #[.val (.int r1), .val (.int n1), .val (.int ka), .val (.int kb), .val (.int kc), .val (.int fl), .val (.int (0 : Int32)), .val (.int v690), .val (.int v693), .val (.int v696), .val (.int v699), .val (.ref b703), .val (.ref b731), .val (.long (1 : Int64)), .second, .val (.long v738), .second, .val (.long v743), .second, .val (.long v748), .second, .val (.int (3 : Int32)), .unset, .val (.long (1 : Int64)), .second] [(.int (lcmpW (1 : Int64) ((16 : Int64) * (r1.toInt64))))])) t := by
          intro t kt
          subst hv764
          by_cases hc762 : ((16 : Int64) * (r1.toInt64)) < (1 : Int64)
          · simp only [if_pos hc762] at kt
            show Steps p.tables e below (T747.setTop (mkF m 227 #[.val (.int r1), .val (.int n1), .val (.int ka), .val (.int kb), .val (.int kc), .val (.int fl), .val (.int (0 : Int32)), .val (.int v690), .val (.int v693), .val (.int v696), .val (.int v699), .val (.ref b703), .val (.ref b731), .val (.long (1 : Int64)), .second, .val (.long v738), .second, .val (.long v743), .second, .val (.long v748), .second, .val (.int (3 : Int32)), .unset, .val (.long (1 : Int64)), .second] [(.int (lcmpW (1 : Int64) ((16 : Int64) * (r1.toInt64))))])) _
            refine XS.ifYes X747.here hx rfl (pc0 := 227) (pc' := 234) rfl (hb hby at_227) rfl ((if0 _ _).trans (tlt ((lw_gt (1 : Int64) ((16 : Int64) * (r1.toInt64))).mpr hc762)).2.2.1) (by decide) (by decide) ?_
            refine XS.iconst X747.here hx rfl (hb hby at_234) ?_
            exact kt
          · simp only [if_neg hc762] at kt
            show Steps p.tables e below (T747.setTop (mkF m 227 #[.val (.int r1), .val (.int n1), .val (.int ka), .val (.int kb), .val (.int kc), .val (.int fl), .val (.int (0 : Int32)), .val (.int v690), .val (.int v693), .val (.int v696), .val (.int v699), .val (.ref b703), .val (.ref b731), .val (.long (1 : Int64)), .second, .val (.long v738), .second, .val (.long v743), .second, .val (.long v748), .second, .val (.int (3 : Int32)), .unset, .val (.long (1 : Int64)), .second] [(.int (lcmpW (1 : Int64) ((16 : Int64) * (r1.toInt64))))])) _
            refine XS.ifNo X747.here hx rfl (hb hby at_227) rfl ((if0 _ _).trans (flt (fun q => hc762 ((lw_gt (1 : Int64) ((16 : Int64) * (r1.toInt64))).mp q))).2.2.1) ?_
            refine XS.iconst X747.here hx rfl (hb hby at_230) ?_
            refine XS.goto X747.here hx rfl (pc0 := 231) (pc' := 235) rfl (hb hby at_231) (by decide) (by decide) ?_
            exact kt
        have hEx := own_KG_exa hG0
        have S765 : ∀ t, Steps p.tables e below (T747.setTop (mkF m 242 #[.val (.int r1), .val (.int n1), .val (.int ka), .val (.int kb), .val (.int kc), .val (.int fl), .val (.int (0 : Int32)), .val (.int v690), .val (.int v693), .val (.int v696), .val (.int v699), .val (.ref b703), .val (.ref b731), .val (.long (1 : Int64)), .second, .val (.long v738), .second, .val (.long v743), .second, .val (.long v748), .second, .val (.int (3 : Int32)), .val (.int v764), .val (.long (1 : Int64)), .second] [(.int v690), (.int r1), (.ref b703)])) t → Steps p.tables e below (T747.setTop (mkF m 235 #[.val (.int r1), .val (.int n1), .val (.int ka), .val (.int kb), .val (.int kc), .val (.int fl), .val (.int (0 : Int32)), .val (.int v690), .val (.int v693), .val (.int v696), .val (.int v699), .val (.ref b703), .val (.ref b731), .val (.long (1 : Int64)), .second, .val (.long v738), .second, .val (.long v743), .second, .val (.long v748), .second, .val (.int (3 : Int32)), .unset, .val (.long (1 : Int64)), .second] [(.int v764)])) t := by
          intro t kt
          show Steps p.tables e below (T747.setTop (mkF m 235 #[.val (.int r1), .val (.int n1), .val (.int ka), .val (.int kb), .val (.int kc), .val (.int fl), .val (.int (0 : Int32)), .val (.int v690), .val (.int v693), .val (.int v696), .val (.int v699), .val (.ref b703), .val (.ref b731), .val (.long (1 : Int64)), .second, .val (.long v738), .second, .val (.long v743), .second, .val (.long v748), .second, .val (.int (3 : Int32)), .unset, .val (.long (1 : Int64)), .second] [(.int v764)])) _
          refine XS.istore X747.here hx rfl (hb hby at_235) rfl (l' := #[.val (.int r1), .val (.int n1), .val (.int ka), .val (.int kb), .val (.int kc), .val (.int fl), .val (.int (0 : Int32)), .val (.int v690), .val (.int v693), .val (.int v696), .val (.int v699), .val (.ref b703), .val (.ref b731), .val (.long (1 : Int64)), .second, .val (.long v738), .second, .val (.long v743), .second, .val (.long v748), .second, .val (.int (3 : Int32)), .val (.int v764), .val (.long (1 : Int64)), .second]) rfl ?_
          refine XS.aload X747.here hx rfl (hb hby at_237) rfl rfl ?_
          refine XS.iloadN X747.here hx rfl (hb hby at_239) rfl ?_
          refine XS.iload X747.here hx rfl (hb hby at_240) rfl ?_
          exact kt
        obtain ⟨cq766, kq766, q766a, q766b, q766c⟩ := isOf hZ e747 hEx
        obtain ⟨_, _, ⟨T766, L766, k766, n766⟩, -, X766, ⟨Lc766, hQ766, l766, y766, z766⟩, st766⟩ := X747.virtualBack hx (y := (⟨"com/example/joinery/joinery/KeyGrid", "fits", "(II)Z"⟩ : MethodName)) (z := (⟨"com/example/joinery/joinery/KeyGrid", "fits", "(II)Z"⟩ : MethodName)) hown (mvT hZ (hw _ (List.mem_of_getElem? (i := 98) rfl))) (mvT hZ (hw _ (List.mem_of_getElem? (i := 99) rfl))) (notFace_of_selects (args := #[]) (mvT hZ (hw _ (List.mem_of_getElem? (i := 101) rfl)))) (mvT hZ (hw _ (List.mem_of_getElem? (i := 101) rfl))) (mvT hZ (hw _ (List.mem_of_getElem? (i := 100) rfl))) (by decide) (backOf (W := 0) (rm11 l Z a0 hw [] b703 b731 r1 v690 3 own_cv0 h731 n0 z732 hG0 (by decide) hname.2) hZ (hw _ (List.mem_of_getElem? (i := 102) rfl)) (hw _ (List.mem_of_getElem? (i := 4) rfl)) (by decide) (by decide)) q766a q766c (g := (mkF m 242 #[.val (.int r1), .val (.int n1), .val (.int ka), .val (.int kb), .val (.int kc), .val (.int fl), .val (.int (0 : Int32)), .val (.int v690), .val (.int v693), .val (.int v696), .val (.int v699), .val (.ref b703), .val (.ref b731), .val (.long (1 : Int64)), .second, .val (.long v738), .second, .val (.long v743), .second, .val (.long v748), .second, .val (.int (3 : Int32)), .val (.int v764), .val (.long (1 : Int64)), .second] [(.int v690), (.int r1), (.ref b703)])) rfl (by rw [hml]; rfl) (Steps.refl _) (argsL := [(.int r1), (.int v690)]) (rest := []) (lenOf pd_9 rfl) rfl (by show 2 * 0 + _ ≤ _; exact Nat.le_of_eq rfl) (hb hby at_242) (fun _ _ => ⟨rfl, e747, (by decide : 28 + 0 ≤ _), (by decide : 56 + 0 ≤ _)⟩)
        dsimp only [Pt.U, Pt.locs, Pt.cells, Pt.slots] at X766 l766 y766 z766 st766 hQ766
        subst l766 y766 z766
        obtain ⟨rfl, N766q, e766⟩ := hQ766
        have N766 := Fr.app N747 N766q
        have S767 : ∀ t, Steps p.tables e below (T766.setTop (mkF m 255 #[.val (.int r1), .val (.int n1), .val (.int ka), .val (.int kb), .val (.int kc), .val (.int fl), .val (.int (0 : Int32)), .val (.int v690), .val (.int v693), .val (.int v696), .val (.int v699), .val (.ref b703), .val (.ref b731), .val (.long (1 : Int64)), .second, .val (.long v738), .second, .val (.long v743), .second, .val (.long v748), .second, .val (.int (3 : Int32)), .val (.int v764), .val (.long (1 : Int64)), .second] [(.int (1 : Int32))])) t → Steps p.tables e below (T766.setTop (mkF m 245 #[.val (.int r1), .val (.int n1), .val (.int ka), .val (.int kb), .val (.int kc), .val (.int fl), .val (.int (0 : Int32)), .val (.int v690), .val (.int v693), .val (.int v696), .val (.int v699), .val (.ref b703), .val (.ref b731), .val (.long (1 : Int64)), .second, .val (.long v738), .second, .val (.long v743), .second, .val (.long v748), .second, .val (.int (3 : Int32)), .val (.int v764), .val (.long (1 : Int64)), .second] [(.int (own_fits own_cv0 3 r1 v690))])) t := by
          intro t kt
          show Steps p.tables e below (T766.setTop (mkF m 245 #[.val (.int r1), .val (.int n1), .val (.int ka), .val (.int kb), .val (.int kc), .val (.int fl), .val (.int (0 : Int32)), .val (.int v690), .val (.int v693), .val (.int v696), .val (.int v699), .val (.ref b703), .val (.ref b731), .val (.long (1 : Int64)), .second, .val (.long v738), .second, .val (.long v743), .second, .val (.long v748), .second, .val (.int (3 : Int32)), .val (.int v764), .val (.long (1 : Int64)), .second] [(.int (own_fits own_cv0 3 r1 v690))])) _
          refine XS.iload X766.here hx rfl (hb hby at_245) rfl ?_
          refine XS.icmpNo X766.here hx rfl (hb hby at_247) rfl (teq (own_ge (k := 3) hc754 (show own_cv0 v690.toInt.toNat = (1 : Int64) from by rw [show v690 = (3 : Int32) from hc760]; rfl) hv764)).2 ?_
          refine XS.iconst X766.here hx rfl (hb hby at_250) ?_
          refine XS.goto X766.here hx rfl (pc0 := 251) (pc' := 255) rfl (hb hby at_251) (by decide) (by decide) ?_
          exact kt
        have C768 : ∀ t, Steps p.tables e below (T766.setTop (mkF m 255 #[.val (.int r1), .val (.int n1), .val (.int ka), .val (.int kb), .val (.int kc), .val (.int fl), .val (.int (0 : Int32)), .val (.int v690), .val (.int v693), .val (.int v696), .val (.int v699), .val (.ref b703), .val (.ref b731), .val (.long (1 : Int64)), .second, .val (.long v738), .second, .val (.long v743), .second, .val (.long v748), .second, .val (.int (3 : Int32)), .val (.int v764), .val (.long (1 : Int64)), .second] [(.int (1 : Int32))])) t → Steps p.tables e below (s₁.setTop (mkF m 0 #[.val (.int r1), .val (.int n1), .val (.int ka), .val (.int kb), .val (.int kc), .val (.int fl), .unset, .unset, .unset, .unset, .unset, .unset, .unset, .unset, .unset, .unset, .unset, .unset, .unset, .unset, .unset, .unset, .unset, .unset, .unset] [])) t := (fun t k => (C734 t (S735 t (S736 t (st737 t (S739 t (S740 t (S741 t (st742 t (S744 t (S745 t (S746 t (st747 t (S749 t (S750 t (S751 t (S752 t (S753 t (S759 t (S761 t (S763 t (S765 t (st766.trans (S767 t k))))))))))))))))))))))))
        obtain ⟨fs, hr, hrun, hended, hW, hsame⟩ := X766.leave (v := some (.int (1 : Int32))) (fun h => by rw [Bd.returns] at h; cases h)
        refine ⟨_, _, pre0 _ (C768 _ ?_), hrun, hended, _, _, rfl, ?_, ⟨_, rfl⟩, hW, hsame.mono (by decide) (by decide)⟩
        · exact retN X766 hx (t := .boolean) Bd.returns (by simp) (hb hby at_255) hr
        · show Q_rm0 Z r1 n1 ka kb kc fl h0 n0 _ T766.heap _
          rw [e766]
          exact ⟨rfl, N766⟩
      · have S769 : ∀ t, Steps p.tables e below (T747.setTop (mkF m 191 #[.val (.int r1), .val (.int n1), .val (.int ka), .val (.int kb), .val (.int kc), .val (.int fl), .val (.int (0 : Int32)), .val (.int v690), .val (.int v693), .val (.int v696), .val (.int v699), .val (.ref b703), .val (.ref b731), .val (.long (1 : Int64)), .second, .val (.long v738), .second, .val (.long v743), .second, .val (.long v748), .second, .val (.int (3 : Int32)), .unset, .unset, .unset] [(.int (2 : Int32)), (.int v690)])) t → Steps p.tables e below (T747.setTop (mkF m 178 #[.val (.int r1), .val (.int n1), .val (.int ka), .val (.int kb), .val (.int kc), .val (.int fl), .val (.int (0 : Int32)), .val (.int v690), .val (.int v693), .val (.int v696), .val (.int v699), .val (.ref b703), .val (.ref b731), .val (.long (1 : Int64)), .second, .val (.long v738), .second, .val (.long v743), .second, .val (.long v748), .second, .val (.int (3 : Int32)), .unset, .unset, .unset] [(.int (3 : Int32)), (.int v690)])) t := by
          intro t kt
          show Steps p.tables e below (T747.setTop (mkF m 178 #[.val (.int r1), .val (.int n1), .val (.int ka), .val (.int kb), .val (.int kc), .val (.int fl), .val (.int (0 : Int32)), .val (.int v690), .val (.int v693), .val (.int v696), .val (.int v699), .val (.ref b703), .val (.ref b731), .val (.long (1 : Int64)), .second, .val (.long v738), .second, .val (.long v743), .second, .val (.long v748), .second, .val (.int (3 : Int32)), .unset, .unset, .unset] [(.int (3 : Int32)), (.int v690)])) _
          refine XS.icmpYes X747.here hx rfl (pc0 := 178) (pc' := 188) rfl (hb hby at_178) rfl (feq hc760).2 (by decide) (by decide) ?_
          refine XS.iload X747.here hx rfl (hb hby at_188) rfl ?_
          refine XS.iconst X747.here hx rfl (hb hby at_190) ?_
          exact kt
        by_cases hc770 : v690 = (2 : Int32)
        · have S771 : ∀ t, Steps p.tables e below (T747.setTop (mkF m 227 #[.val (.int r1), .val (.int n1), .val (.int ka), .val (.int kb), .val (.int kc), .val (.int fl), .val (.int (0 : Int32)), .val (.int v690), .val (.int v693), .val (.int v696), .val (.int v699), .val (.ref b703), .val (.ref b731), .val (.long (1 : Int64)), .second, .val (.long v738), .second, .val (.long v743), .second, .val (.long v748), .second, .val (.int (3 : Int32)), .unset, .val (.long v738), .second] [(.int (lcmpW v738 ((16 : Int64) * (r1.toInt64))))])) t → Steps p.tables e below (T747.setTop (mkF m 191 #[.val (.int r1), .val (.int n1), .val (.int ka), .val (.int kb), .val (.int kc), .val (.int fl), .val (.int (0 : Int32)), .val (.int v690), .val (.int v693), .val (.int v696), .val (.int v699), .val (.ref b703), .val (.ref b731), .val (.long (1 : Int64)), .second, .val (.long v738), .second, .val (.long v743), .second, .val (.long v748), .second, .val (.int (3 : Int32)), .unset, .unset, .unset] [(.int (2 : Int32)), (.int v690)])) t := by
            intro t kt
            show Steps p.tables e below (T747.setTop (mkF m 191 #[.val (.int r1), .val (.int n1), .val (.int ka), .val (.int kb), .val (.int kc), .val (.int fl), .val (.int (0 : Int32)), .val (.int v690), .val (.int v693), .val (.int v696), .val (.int v699), .val (.ref b703), .val (.ref b731), .val (.long (1 : Int64)), .second, .val (.long v738), .second, .val (.long v743), .second, .val (.long v748), .second, .val (.int (3 : Int32)), .unset, .unset, .unset] [(.int (2 : Int32)), (.int v690)])) _
            refine XS.icmpNo X747.here hx rfl (hb hby at_191) rfl (teq hc770).2 ?_
            refine XS.lload X747.here hx rfl (hb hby at_194) rfl ?_
            refine XS.lstore X747.here hx rfl (hb hby at_196) rfl (l' := #[.val (.int r1), .val (.int n1), .val (.int ka), .val (.int kb), .val (.int kc), .val (.int fl), .val (.int (0 : Int32)), .val (.int v690), .val (.int v693), .val (.int v696), .val (.int v699), .val (.ref b703), .val (.ref b731), .val (.long (1 : Int64)), .second, .val (.long v738), .second, .val (.long v743), .second, .val (.long v748), .second, .val (.int (3 : Int32)), .unset, .val (.long v738), .second]) rfl ?_
            refine XS.goto X747.here hx rfl (pc0 := 198) (pc' := 218) rfl (hb hby at_198) (by decide) (by decide) ?_
            refine XS.lload X747.here hx rfl (hb hby at_218) rfl ?_
            show Steps p.tables e below (T747.setTop (mkF m 220 #[.val (.int r1), .val (.int n1), .val (.int ka), .val (.int kb), .val (.int kc), .val (.int fl), .val (.int (0 : Int32)), .val (.int v690), .val (.int v693), .val (.int v696), .val (.int v699), .val (.ref b703), .val (.ref b731), .val (.long (1 : Int64)), .second, .val (.long v738), .second, .val (.long v743), .second, .val (.long v748), .second, .val (.int (3 : Int32)), .unset, .val (.long v738), .second] [(.long v738)])) _
            refine X747.ldc2Long hx hown (mvT hZ (hw _ (List.mem_of_getElem? (i := 97) rfl))) (g := (mkF m 220 #[.val (.int r1), .val (.int n1), .val (.int ka), .val (.int kb), .val (.int kc), .val (.int fl), .val (.int (0 : Int32)), .val (.int v690), .val (.int v693), .val (.int v696), .val (.int v699), .val (.ref b703), .val (.ref b731), .val (.long (1 : Int64)), .second, .val (.long v738), .second, .val (.long v743), .second, .val (.long v748), .second, .val (.int (3 : Int32)), .unset, .val (.long v738), .second] [(.long v738)])) rfl (hb hby at_220) _ ?_
            refine XS.iloadN X747.here hx rfl (hb hby at_223) rfl ?_
            refine XS.i2l X747.here hx rfl (hb hby at_224) rfl ?_
            refine XS.lmul X747.here hx rfl (hb hby at_225) rfl ?_
            refine XS.lcmp X747.here hx rfl (hb hby at_226) rfl ?_
            exact kt
          obtain ⟨v774, hv774⟩ : ∃ z : Int32, z = (if ((16 : Int64) * (r1.toInt64)) < v738 then (0 : Int32) else (1 : Int32)) := ⟨_, rfl⟩
          have S773 : ∀ t, Steps p.tables e below (T747.setTop (mkF m 235 #[.val (.int r1), .val (.int n1), .val (.int ka), .val (.int kb), .val (.int kc), .val (.int fl), .val (.int (0 : Int32)), .val (.int v690), .val (.int v693), .val (.int v696), .val (.int v699), .val (.ref b703), .val (.ref b731), .val (.long (1 : Int64)), .second, .val (.long v738), .second, .val (.long v743), .second, .val (.long v748), .second, .val (.int (3 : Int32)), .unset, .val (.long v738), .second] [(.int v774)])) t → Steps p.tables e below (T747.setTop (mkF m 227 #[.val (.int r1), .val (.int n1), .val (.int ka), .val (.int kb), .val (.int kc), .val (.int fl), .val (.int (0 : Int32)), .val (.int v690), .val (.int v693), .val (.int v696), .val (.int v699), .val (.ref b703), .val (.ref b731), .val (.long (1 : Int64)), .second, .val (.long v738), .second, .val (.long v743), .second, .val (.long v748), .second, .val (.int (3 : Int32)), .unset, .val (.long v738), .second] [(.int (lcmpW v738 ((16 : Int64) * (r1.toInt64))))])) t := by
            intro t kt
            subst hv774
            by_cases hc772 : ((16 : Int64) * (r1.toInt64)) < v738
            · simp only [if_pos hc772] at kt
              show Steps p.tables e below (T747.setTop (mkF m 227 #[.val (.int r1), .val (.int n1), .val (.int ka), .val (.int kb), .val (.int kc), .val (.int fl), .val (.int (0 : Int32)), .val (.int v690), .val (.int v693), .val (.int v696), .val (.int v699), .val (.ref b703), .val (.ref b731), .val (.long (1 : Int64)), .second, .val (.long v738), .second, .val (.long v743), .second, .val (.long v748), .second, .val (.int (3 : Int32)), .unset, .val (.long v738), .second] [(.int (lcmpW v738 ((16 : Int64) * (r1.toInt64))))])) _
              refine XS.ifYes X747.here hx rfl (pc0 := 227) (pc' := 234) rfl (hb hby at_227) rfl ((if0 _ _).trans (tlt ((lw_gt v738 ((16 : Int64) * (r1.toInt64))).mpr hc772)).2.2.1) (by decide) (by decide) ?_
              refine XS.iconst X747.here hx rfl (hb hby at_234) ?_
              exact kt
            · simp only [if_neg hc772] at kt
              show Steps p.tables e below (T747.setTop (mkF m 227 #[.val (.int r1), .val (.int n1), .val (.int ka), .val (.int kb), .val (.int kc), .val (.int fl), .val (.int (0 : Int32)), .val (.int v690), .val (.int v693), .val (.int v696), .val (.int v699), .val (.ref b703), .val (.ref b731), .val (.long (1 : Int64)), .second, .val (.long v738), .second, .val (.long v743), .second, .val (.long v748), .second, .val (.int (3 : Int32)), .unset, .val (.long v738), .second] [(.int (lcmpW v738 ((16 : Int64) * (r1.toInt64))))])) _
              refine XS.ifNo X747.here hx rfl (hb hby at_227) rfl ((if0 _ _).trans (flt (fun q => hc772 ((lw_gt v738 ((16 : Int64) * (r1.toInt64))).mp q))).2.2.1) ?_
              refine XS.iconst X747.here hx rfl (hb hby at_230) ?_
              refine XS.goto X747.here hx rfl (pc0 := 231) (pc' := 235) rfl (hb hby at_231) (by decide) (by decide) ?_
              exact kt
          have hEx := own_KG_exa hG0
          have S775 : ∀ t, Steps p.tables e below (T747.setTop (mkF m 242 #[.val (.int r1), .val (.int n1), .val (.int ka), .val (.int kb), .val (.int kc), .val (.int fl), .val (.int (0 : Int32)), .val (.int v690), .val (.int v693), .val (.int v696), .val (.int v699), .val (.ref b703), .val (.ref b731), .val (.long (1 : Int64)), .second, .val (.long v738), .second, .val (.long v743), .second, .val (.long v748), .second, .val (.int (3 : Int32)), .val (.int v774), .val (.long v738), .second] [(.int v690), (.int r1), (.ref b703)])) t → Steps p.tables e below (T747.setTop (mkF m 235 #[.val (.int r1), .val (.int n1), .val (.int ka), .val (.int kb), .val (.int kc), .val (.int fl), .val (.int (0 : Int32)), .val (.int v690), .val (.int v693), .val (.int v696), .val (.int v699), .val (.ref b703), .val (.ref b731), .val (.long (1 : Int64)), .second, .val (.long v738), .second, .val (.long v743), .second, .val (.long v748), .second, .val (.int (3 : Int32)), .unset, .val (.long v738), .second] [(.int v774)])) t := by
            intro t kt
            show Steps p.tables e below (T747.setTop (mkF m 235 #[.val (.int r1), .val (.int n1), .val (.int ka), .val (.int kb), .val (.int kc), .val (.int fl), .val (.int (0 : Int32)), .val (.int v690), .val (.int v693), .val (.int v696), .val (.int v699), .val (.ref b703), .val (.ref b731), .val (.long (1 : Int64)), .second, .val (.long v738), .second, .val (.long v743), .second, .val (.long v748), .second, .val (.int (3 : Int32)), .unset, .val (.long v738), .second] [(.int v774)])) _
            refine XS.istore X747.here hx rfl (hb hby at_235) rfl (l' := #[.val (.int r1), .val (.int n1), .val (.int ka), .val (.int kb), .val (.int kc), .val (.int fl), .val (.int (0 : Int32)), .val (.int v690), .val (.int v693), .val (.int v696), .val (.int v699), .val (.ref b703), .val (.ref b731), .val (.long (1 : Int64)), .second, .val (.long v738), .second, .val (.long v743), .second, .val (.long v748), .second, .val (.int (3 : Int32)), .val (.int v774), .val (.long v738), .second]) rfl ?_
            refine XS.aload X747.here hx rfl (hb hby at_237) rfl rfl ?_
            refine XS.iloadN X747.here hx rfl (hb hby at_239) rfl ?_
            refine XS.iload X747.here hx rfl (hb hby at_240) rfl ?_
            exact kt
          obtain ⟨cq776, kq776, q776a, q776b, q776c⟩ := isOf hZ e747 hEx
          obtain ⟨_, _, ⟨T776, L776, k776, n776⟩, -, X776, ⟨Lc776, hQ776, l776, y776, z776⟩, st776⟩ := X747.virtualBack hx (y := (⟨"com/example/joinery/joinery/KeyGrid", "fits", "(II)Z"⟩ : MethodName)) (z := (⟨"com/example/joinery/joinery/KeyGrid", "fits", "(II)Z"⟩ : MethodName)) hown (mvT hZ (hw _ (List.mem_of_getElem? (i := 98) rfl))) (mvT hZ (hw _ (List.mem_of_getElem? (i := 99) rfl))) (notFace_of_selects (args := #[]) (mvT hZ (hw _ (List.mem_of_getElem? (i := 101) rfl)))) (mvT hZ (hw _ (List.mem_of_getElem? (i := 101) rfl))) (mvT hZ (hw _ (List.mem_of_getElem? (i := 100) rfl))) (by decide) (backOf (W := 0) (rm11 l Z a0 hw [] b703 b731 r1 v690 3 own_cv0 h731 n0 z732 hG0 (by decide) hname.2) hZ (hw _ (List.mem_of_getElem? (i := 102) rfl)) (hw _ (List.mem_of_getElem? (i := 4) rfl)) (by decide) (by decide)) q776a q776c (g := (mkF m 242 #[.val (.int r1), .val (.int n1), .val (.int ka), .val (.int kb), .val (.int kc), .val (.int fl), .val (.int (0 : Int32)), .val (.int v690), .val (.int v693), .val (.int v696), .val (.int v699), .val (.ref b703), .val (.ref b731), .val (.long (1 : Int64)), .second, .val (.long v738), .second, .val (.long v743), .second, .val (.long v748), .second, .val (.int (3 : Int32)), .val (.int v774), .val (.long v738), .second] [(.int v690), (.int r1), (.ref b703)])) rfl (by rw [hml]; rfl) (Steps.refl _) (argsL := [(.int r1), (.int v690)]) (rest := []) (lenOf pd_9 rfl) rfl (by show 2 * 0 + _ ≤ _; exact Nat.le_of_eq rfl) (hb hby at_242) (fun _ _ => ⟨rfl, e747, (by decide : 28 + 0 ≤ _), (by decide : 56 + 0 ≤ _)⟩)
          dsimp only [Pt.U, Pt.locs, Pt.cells, Pt.slots] at X776 l776 y776 z776 st776 hQ776
          subst l776 y776 z776
          obtain ⟨rfl, N776q, e776⟩ := hQ776
          have N776 := Fr.app N747 N776q
          exfalso
          apply hc754
          rw [hc770]; decide
        · have S777 : ∀ t, Steps p.tables e below (T747.setTop (mkF m 204 #[.val (.int r1), .val (.int n1), .val (.int ka), .val (.int kb), .val (.int kc), .val (.int fl), .val (.int (0 : Int32)), .val (.int v690), .val (.int v693), .val (.int v696), .val (.int v699), .val (.ref b703), .val (.ref b731), .val (.long (1 : Int64)), .second, .val (.long v738), .second, .val (.long v743), .second, .val (.long v748), .second, .val (.int (3 : Int32)), .unset, .unset, .unset] [(.int (1 : Int32)), (.int v690)])) t → Steps p.tables e below (T747.setTop (mkF m 191 #[.val (.int r1), .val (.int n1), .val (.int ka), .val (.int kb), .val (.int kc), .val (.int fl), .val (.int (0 : Int32)), .val (.int v690), .val (.int v693), .val (.int v696), .val (.int v699), .val (.ref b703), .val (.ref b731), .val (.long (1 : Int64)), .second, .val (.long v738), .second, .val (.long v743), .second, .val (.long v748), .second, .val (.int (3 : Int32)), .unset, .unset, .unset] [(.int (2 : Int32)), (.int v690)])) t := by
            intro t kt
            show Steps p.tables e below (T747.setTop (mkF m 191 #[.val (.int r1), .val (.int n1), .val (.int ka), .val (.int kb), .val (.int kc), .val (.int fl), .val (.int (0 : Int32)), .val (.int v690), .val (.int v693), .val (.int v696), .val (.int v699), .val (.ref b703), .val (.ref b731), .val (.long (1 : Int64)), .second, .val (.long v738), .second, .val (.long v743), .second, .val (.long v748), .second, .val (.int (3 : Int32)), .unset, .unset, .unset] [(.int (2 : Int32)), (.int v690)])) _
            refine XS.icmpYes X747.here hx rfl (pc0 := 191) (pc' := 201) rfl (hb hby at_191) rfl (feq hc770).2 (by decide) (by decide) ?_
            refine XS.iload X747.here hx rfl (hb hby at_201) rfl ?_
            refine XS.iconst X747.here hx rfl (hb hby at_203) ?_
            exact kt
          by_cases hc778 : v690 = (1 : Int32)
          · have S779 : ∀ t, Steps p.tables e below (T747.setTop (mkF m 227 #[.val (.int r1), .val (.int n1), .val (.int ka), .val (.int kb), .val (.int kc), .val (.int fl), .val (.int (0 : Int32)), .val (.int v690), .val (.int v693), .val (.int v696), .val (.int v699), .val (.ref b703), .val (.ref b731), .val (.long (1 : Int64)), .second, .val (.long v738), .second, .val (.long v743), .second, .val (.long v748), .second, .val (.int (3 : Int32)), .unset, .val (.long v743), .second] [(.int (lcmpW v743 ((16 : Int64) * (r1.toInt64))))])) t → Steps p.tables e below (T747.setTop (mkF m 204 #[.val (.int r1), .val (.int n1), .val (.int ka), .val (.int kb), .val (.int kc), .val (.int fl), .val (.int (0 : Int32)), .val (.int v690), .val (.int v693), .val (.int v696), .val (.int v699), .val (.ref b703), .val (.ref b731), .val (.long (1 : Int64)), .second, .val (.long v738), .second, .val (.long v743), .second, .val (.long v748), .second, .val (.int (3 : Int32)), .unset, .unset, .unset] [(.int (1 : Int32)), (.int v690)])) t := by
              intro t kt
              show Steps p.tables e below (T747.setTop (mkF m 204 #[.val (.int r1), .val (.int n1), .val (.int ka), .val (.int kb), .val (.int kc), .val (.int fl), .val (.int (0 : Int32)), .val (.int v690), .val (.int v693), .val (.int v696), .val (.int v699), .val (.ref b703), .val (.ref b731), .val (.long (1 : Int64)), .second, .val (.long v738), .second, .val (.long v743), .second, .val (.long v748), .second, .val (.int (3 : Int32)), .unset, .unset, .unset] [(.int (1 : Int32)), (.int v690)])) _
              refine XS.icmpNo X747.here hx rfl (hb hby at_204) rfl (teq hc778).2 ?_
              refine XS.lload X747.here hx rfl (hb hby at_207) rfl ?_
              refine XS.lstore X747.here hx rfl (hb hby at_209) rfl (l' := #[.val (.int r1), .val (.int n1), .val (.int ka), .val (.int kb), .val (.int kc), .val (.int fl), .val (.int (0 : Int32)), .val (.int v690), .val (.int v693), .val (.int v696), .val (.int v699), .val (.ref b703), .val (.ref b731), .val (.long (1 : Int64)), .second, .val (.long v738), .second, .val (.long v743), .second, .val (.long v748), .second, .val (.int (3 : Int32)), .unset, .val (.long v743), .second]) rfl ?_
              refine XS.goto X747.here hx rfl (pc0 := 211) (pc' := 218) rfl (hb hby at_211) (by decide) (by decide) ?_
              refine XS.lload X747.here hx rfl (hb hby at_218) rfl ?_
              show Steps p.tables e below (T747.setTop (mkF m 220 #[.val (.int r1), .val (.int n1), .val (.int ka), .val (.int kb), .val (.int kc), .val (.int fl), .val (.int (0 : Int32)), .val (.int v690), .val (.int v693), .val (.int v696), .val (.int v699), .val (.ref b703), .val (.ref b731), .val (.long (1 : Int64)), .second, .val (.long v738), .second, .val (.long v743), .second, .val (.long v748), .second, .val (.int (3 : Int32)), .unset, .val (.long v743), .second] [(.long v743)])) _
              refine X747.ldc2Long hx hown (mvT hZ (hw _ (List.mem_of_getElem? (i := 97) rfl))) (g := (mkF m 220 #[.val (.int r1), .val (.int n1), .val (.int ka), .val (.int kb), .val (.int kc), .val (.int fl), .val (.int (0 : Int32)), .val (.int v690), .val (.int v693), .val (.int v696), .val (.int v699), .val (.ref b703), .val (.ref b731), .val (.long (1 : Int64)), .second, .val (.long v738), .second, .val (.long v743), .second, .val (.long v748), .second, .val (.int (3 : Int32)), .unset, .val (.long v743), .second] [(.long v743)])) rfl (hb hby at_220) _ ?_
              refine XS.iloadN X747.here hx rfl (hb hby at_223) rfl ?_
              refine XS.i2l X747.here hx rfl (hb hby at_224) rfl ?_
              refine XS.lmul X747.here hx rfl (hb hby at_225) rfl ?_
              refine XS.lcmp X747.here hx rfl (hb hby at_226) rfl ?_
              exact kt
            obtain ⟨v782, hv782⟩ : ∃ z : Int32, z = (if ((16 : Int64) * (r1.toInt64)) < v743 then (0 : Int32) else (1 : Int32)) := ⟨_, rfl⟩
            have S781 : ∀ t, Steps p.tables e below (T747.setTop (mkF m 235 #[.val (.int r1), .val (.int n1), .val (.int ka), .val (.int kb), .val (.int kc), .val (.int fl), .val (.int (0 : Int32)), .val (.int v690), .val (.int v693), .val (.int v696), .val (.int v699), .val (.ref b703), .val (.ref b731), .val (.long (1 : Int64)), .second, .val (.long v738), .second, .val (.long v743), .second, .val (.long v748), .second, .val (.int (3 : Int32)), .unset, .val (.long v743), .second] [(.int v782)])) t → Steps p.tables e below (T747.setTop (mkF m 227 #[.val (.int r1), .val (.int n1), .val (.int ka), .val (.int kb), .val (.int kc), .val (.int fl), .val (.int (0 : Int32)), .val (.int v690), .val (.int v693), .val (.int v696), .val (.int v699), .val (.ref b703), .val (.ref b731), .val (.long (1 : Int64)), .second, .val (.long v738), .second, .val (.long v743), .second, .val (.long v748), .second, .val (.int (3 : Int32)), .unset, .val (.long v743), .second] [(.int (lcmpW v743 ((16 : Int64) * (r1.toInt64))))])) t := by
              intro t kt
              subst hv782
              by_cases hc780 : ((16 : Int64) * (r1.toInt64)) < v743
              · simp only [if_pos hc780] at kt
                show Steps p.tables e below (T747.setTop (mkF m 227 #[.val (.int r1), .val (.int n1), .val (.int ka), .val (.int kb), .val (.int kc), .val (.int fl), .val (.int (0 : Int32)), .val (.int v690), .val (.int v693), .val (.int v696), .val (.int v699), .val (.ref b703), .val (.ref b731), .val (.long (1 : Int64)), .second, .val (.long v738), .second, .val (.long v743), .second, .val (.long v748), .second, .val (.int (3 : Int32)), .unset, .val (.long v743), .second] [(.int (lcmpW v743 ((16 : Int64) * (r1.toInt64))))])) _
                refine XS.ifYes X747.here hx rfl (pc0 := 227) (pc' := 234) rfl (hb hby at_227) rfl ((if0 _ _).trans (tlt ((lw_gt v743 ((16 : Int64) * (r1.toInt64))).mpr hc780)).2.2.1) (by decide) (by decide) ?_
                refine XS.iconst X747.here hx rfl (hb hby at_234) ?_
                exact kt
              · simp only [if_neg hc780] at kt
                show Steps p.tables e below (T747.setTop (mkF m 227 #[.val (.int r1), .val (.int n1), .val (.int ka), .val (.int kb), .val (.int kc), .val (.int fl), .val (.int (0 : Int32)), .val (.int v690), .val (.int v693), .val (.int v696), .val (.int v699), .val (.ref b703), .val (.ref b731), .val (.long (1 : Int64)), .second, .val (.long v738), .second, .val (.long v743), .second, .val (.long v748), .second, .val (.int (3 : Int32)), .unset, .val (.long v743), .second] [(.int (lcmpW v743 ((16 : Int64) * (r1.toInt64))))])) _
                refine XS.ifNo X747.here hx rfl (hb hby at_227) rfl ((if0 _ _).trans (flt (fun q => hc780 ((lw_gt v743 ((16 : Int64) * (r1.toInt64))).mp q))).2.2.1) ?_
                refine XS.iconst X747.here hx rfl (hb hby at_230) ?_
                refine XS.goto X747.here hx rfl (pc0 := 231) (pc' := 235) rfl (hb hby at_231) (by decide) (by decide) ?_
                exact kt
            have hEx := own_KG_exa hG0
            have S783 : ∀ t, Steps p.tables e below (T747.setTop (mkF m 242 #[.val (.int r1), .val (.int n1), .val (.int ka), .val (.int kb), .val (.int kc), .val (.int fl), .val (.int (0 : Int32)), .val (.int v690), .val (.int v693), .val (.int v696), .val (.int v699), .val (.ref b703), .val (.ref b731), .val (.long (1 : Int64)), .second, .val (.long v738), .second, .val (.long v743), .second, .val (.long v748), .second, .val (.int (3 : Int32)), .val (.int v782), .val (.long v743), .second] [(.int v690), (.int r1), (.ref b703)])) t → Steps p.tables e below (T747.setTop (mkF m 235 #[.val (.int r1), .val (.int n1), .val (.int ka), .val (.int kb), .val (.int kc), .val (.int fl), .val (.int (0 : Int32)), .val (.int v690), .val (.int v693), .val (.int v696), .val (.int v699), .val (.ref b703), .val (.ref b731), .val (.long (1 : Int64)), .second, .val (.long v738), .second, .val (.long v743), .second, .val (.long v748), .second, .val (.int (3 : Int32)), .unset, .val (.long v743), .second] [(.int v782)])) t := by
              intro t kt
              show Steps p.tables e below (T747.setTop (mkF m 235 #[.val (.int r1), .val (.int n1), .val (.int ka), .val (.int kb), .val (.int kc), .val (.int fl), .val (.int (0 : Int32)), .val (.int v690), .val (.int v693), .val (.int v696), .val (.int v699), .val (.ref b703), .val (.ref b731), .val (.long (1 : Int64)), .second, .val (.long v738), .second, .val (.long v743), .second, .val (.long v748), .second, .val (.int (3 : Int32)), .unset, .val (.long v743), .second] [(.int v782)])) _
              refine XS.istore X747.here hx rfl (hb hby at_235) rfl (l' := #[.val (.int r1), .val (.int n1), .val (.int ka), .val (.int kb), .val (.int kc), .val (.int fl), .val (.int (0 : Int32)), .val (.int v690), .val (.int v693), .val (.int v696), .val (.int v699), .val (.ref b703), .val (.ref b731), .val (.long (1 : Int64)), .second, .val (.long v738), .second, .val (.long v743), .second, .val (.long v748), .second, .val (.int (3 : Int32)), .val (.int v782), .val (.long v743), .second]) rfl ?_
              refine XS.aload X747.here hx rfl (hb hby at_237) rfl rfl ?_
              refine XS.iloadN X747.here hx rfl (hb hby at_239) rfl ?_
              refine XS.iload X747.here hx rfl (hb hby at_240) rfl ?_
              exact kt
            obtain ⟨cq784, kq784, q784a, q784b, q784c⟩ := isOf hZ e747 hEx
            obtain ⟨_, _, ⟨T784, L784, k784, n784⟩, -, X784, ⟨Lc784, hQ784, l784, y784, z784⟩, st784⟩ := X747.virtualBack hx (y := (⟨"com/example/joinery/joinery/KeyGrid", "fits", "(II)Z"⟩ : MethodName)) (z := (⟨"com/example/joinery/joinery/KeyGrid", "fits", "(II)Z"⟩ : MethodName)) hown (mvT hZ (hw _ (List.mem_of_getElem? (i := 98) rfl))) (mvT hZ (hw _ (List.mem_of_getElem? (i := 99) rfl))) (notFace_of_selects (args := #[]) (mvT hZ (hw _ (List.mem_of_getElem? (i := 101) rfl)))) (mvT hZ (hw _ (List.mem_of_getElem? (i := 101) rfl))) (mvT hZ (hw _ (List.mem_of_getElem? (i := 100) rfl))) (by decide) (backOf (W := 0) (rm11 l Z a0 hw [] b703 b731 r1 v690 3 own_cv0 h731 n0 z732 hG0 (by decide) hname.2) hZ (hw _ (List.mem_of_getElem? (i := 102) rfl)) (hw _ (List.mem_of_getElem? (i := 4) rfl)) (by decide) (by decide)) q784a q784c (g := (mkF m 242 #[.val (.int r1), .val (.int n1), .val (.int ka), .val (.int kb), .val (.int kc), .val (.int fl), .val (.int (0 : Int32)), .val (.int v690), .val (.int v693), .val (.int v696), .val (.int v699), .val (.ref b703), .val (.ref b731), .val (.long (1 : Int64)), .second, .val (.long v738), .second, .val (.long v743), .second, .val (.long v748), .second, .val (.int (3 : Int32)), .val (.int v782), .val (.long v743), .second] [(.int v690), (.int r1), (.ref b703)])) rfl (by rw [hml]; rfl) (Steps.refl _) (argsL := [(.int r1), (.int v690)]) (rest := []) (lenOf pd_9 rfl) rfl (by show 2 * 0 + _ ≤ _; exact Nat.le_of_eq rfl) (hb hby at_242) (fun _ _ => ⟨rfl, e747, (by decide : 28 + 0 ≤ _), (by decide : 56 + 0 ≤ _)⟩)
            dsimp only [Pt.U, Pt.locs, Pt.cells, Pt.slots] at X784 l784 y784 z784 st784 hQ784
            subst l784 y784 z784
            obtain ⟨rfl, N784q, e784⟩ := hQ784
            have N784 := Fr.app N747 N784q
            exfalso
            apply hc754
            rw [hc778]; decide
          · have S785 : ∀ t, Steps p.tables e below (T747.setTop (mkF m 227 #[.val (.int r1), .val (.int n1), .val (.int ka), .val (.int kb), .val (.int kc), .val (.int fl), .val (.int (0 : Int32)), .val (.int v690), .val (.int v693), .val (.int v696), .val (.int v699), .val (.ref b703), .val (.ref b731), .val (.long (1 : Int64)), .second, .val (.long v738), .second, .val (.long v743), .second, .val (.long v748), .second, .val (.int (3 : Int32)), .unset, .val (.long v748), .second] [(.int (lcmpW v748 ((16 : Int64) * (r1.toInt64))))])) t → Steps p.tables e below (T747.setTop (mkF m 204 #[.val (.int r1), .val (.int n1), .val (.int ka), .val (.int kb), .val (.int kc), .val (.int fl), .val (.int (0 : Int32)), .val (.int v690), .val (.int v693), .val (.int v696), .val (.int v699), .val (.ref b703), .val (.ref b731), .val (.long (1 : Int64)), .second, .val (.long v738), .second, .val (.long v743), .second, .val (.long v748), .second, .val (.int (3 : Int32)), .unset, .unset, .unset] [(.int (1 : Int32)), (.int v690)])) t := by
              intro t kt
              show Steps p.tables e below (T747.setTop (mkF m 204 #[.val (.int r1), .val (.int n1), .val (.int ka), .val (.int kb), .val (.int kc), .val (.int fl), .val (.int (0 : Int32)), .val (.int v690), .val (.int v693), .val (.int v696), .val (.int v699), .val (.ref b703), .val (.ref b731), .val (.long (1 : Int64)), .second, .val (.long v738), .second, .val (.long v743), .second, .val (.long v748), .second, .val (.int (3 : Int32)), .unset, .unset, .unset] [(.int (1 : Int32)), (.int v690)])) _
              refine XS.icmpYes X747.here hx rfl (pc0 := 204) (pc' := 214) rfl (hb hby at_204) rfl (feq hc778).2 (by decide) (by decide) ?_
              refine XS.lload X747.here hx rfl (hb hby at_214) rfl ?_
              refine XS.lstore X747.here hx rfl (hb hby at_216) rfl (l' := #[.val (.int r1), .val (.int n1), .val (.int ka), .val (.int kb), .val (.int kc), .val (.int fl), .val (.int (0 : Int32)), .val (.int v690), .val (.int v693), .val (.int v696), .val (.int v699), .val (.ref b703), .val (.ref b731), .val (.long (1 : Int64)), .second, .val (.long v738), .second, .val (.long v743), .second, .val (.long v748), .second, .val (.int (3 : Int32)), .unset, .val (.long v748), .second]) rfl ?_
              refine XS.lload X747.here hx rfl (hb hby at_218) rfl ?_
              refine X747.ldc2Long hx hown (mvT hZ (hw _ (List.mem_of_getElem? (i := 97) rfl))) (g := (mkF m 220 #[.val (.int r1), .val (.int n1), .val (.int ka), .val (.int kb), .val (.int kc), .val (.int fl), .val (.int (0 : Int32)), .val (.int v690), .val (.int v693), .val (.int v696), .val (.int v699), .val (.ref b703), .val (.ref b731), .val (.long (1 : Int64)), .second, .val (.long v738), .second, .val (.long v743), .second, .val (.long v748), .second, .val (.int (3 : Int32)), .unset, .val (.long v748), .second] [(.long v748)])) rfl (hb hby at_220) _ ?_
              show Steps p.tables e below (T747.setTop (mkF m 223 #[.val (.int r1), .val (.int n1), .val (.int ka), .val (.int kb), .val (.int kc), .val (.int fl), .val (.int (0 : Int32)), .val (.int v690), .val (.int v693), .val (.int v696), .val (.int v699), .val (.ref b703), .val (.ref b731), .val (.long (1 : Int64)), .second, .val (.long v738), .second, .val (.long v743), .second, .val (.long v748), .second, .val (.int (3 : Int32)), .unset, .val (.long v748), .second] [(.long (16 : Int64)), (.long v748)])) _
              refine XS.iloadN X747.here hx rfl (hb hby at_223) rfl ?_
              refine XS.i2l X747.here hx rfl (hb hby at_224) rfl ?_
              refine XS.lmul X747.here hx rfl (hb hby at_225) rfl ?_
              refine XS.lcmp X747.here hx rfl (hb hby at_226) rfl ?_
              exact kt
            obtain ⟨v788, hv788⟩ : ∃ z : Int32, z = (if ((16 : Int64) * (r1.toInt64)) < v748 then (0 : Int32) else (1 : Int32)) := ⟨_, rfl⟩
            have S787 : ∀ t, Steps p.tables e below (T747.setTop (mkF m 235 #[.val (.int r1), .val (.int n1), .val (.int ka), .val (.int kb), .val (.int kc), .val (.int fl), .val (.int (0 : Int32)), .val (.int v690), .val (.int v693), .val (.int v696), .val (.int v699), .val (.ref b703), .val (.ref b731), .val (.long (1 : Int64)), .second, .val (.long v738), .second, .val (.long v743), .second, .val (.long v748), .second, .val (.int (3 : Int32)), .unset, .val (.long v748), .second] [(.int v788)])) t → Steps p.tables e below (T747.setTop (mkF m 227 #[.val (.int r1), .val (.int n1), .val (.int ka), .val (.int kb), .val (.int kc), .val (.int fl), .val (.int (0 : Int32)), .val (.int v690), .val (.int v693), .val (.int v696), .val (.int v699), .val (.ref b703), .val (.ref b731), .val (.long (1 : Int64)), .second, .val (.long v738), .second, .val (.long v743), .second, .val (.long v748), .second, .val (.int (3 : Int32)), .unset, .val (.long v748), .second] [(.int (lcmpW v748 ((16 : Int64) * (r1.toInt64))))])) t := by
              intro t kt
              subst hv788
              by_cases hc786 : ((16 : Int64) * (r1.toInt64)) < v748
              · simp only [if_pos hc786] at kt
                show Steps p.tables e below (T747.setTop (mkF m 227 #[.val (.int r1), .val (.int n1), .val (.int ka), .val (.int kb), .val (.int kc), .val (.int fl), .val (.int (0 : Int32)), .val (.int v690), .val (.int v693), .val (.int v696), .val (.int v699), .val (.ref b703), .val (.ref b731), .val (.long (1 : Int64)), .second, .val (.long v738), .second, .val (.long v743), .second, .val (.long v748), .second, .val (.int (3 : Int32)), .unset, .val (.long v748), .second] [(.int (lcmpW v748 ((16 : Int64) * (r1.toInt64))))])) _
                refine XS.ifYes X747.here hx rfl (pc0 := 227) (pc' := 234) rfl (hb hby at_227) rfl ((if0 _ _).trans (tlt ((lw_gt v748 ((16 : Int64) * (r1.toInt64))).mpr hc786)).2.2.1) (by decide) (by decide) ?_
                refine XS.iconst X747.here hx rfl (hb hby at_234) ?_
                exact kt
              · simp only [if_neg hc786] at kt
                show Steps p.tables e below (T747.setTop (mkF m 227 #[.val (.int r1), .val (.int n1), .val (.int ka), .val (.int kb), .val (.int kc), .val (.int fl), .val (.int (0 : Int32)), .val (.int v690), .val (.int v693), .val (.int v696), .val (.int v699), .val (.ref b703), .val (.ref b731), .val (.long (1 : Int64)), .second, .val (.long v738), .second, .val (.long v743), .second, .val (.long v748), .second, .val (.int (3 : Int32)), .unset, .val (.long v748), .second] [(.int (lcmpW v748 ((16 : Int64) * (r1.toInt64))))])) _
                refine XS.ifNo X747.here hx rfl (hb hby at_227) rfl ((if0 _ _).trans (flt (fun q => hc786 ((lw_gt v748 ((16 : Int64) * (r1.toInt64))).mp q))).2.2.1) ?_
                refine XS.iconst X747.here hx rfl (hb hby at_230) ?_
                refine XS.goto X747.here hx rfl (pc0 := 231) (pc' := 235) rfl (hb hby at_231) (by decide) (by decide) ?_
                exact kt
            have hEx := own_KG_exa hG0
            have S789 : ∀ t, Steps p.tables e below (T747.setTop (mkF m 242 #[.val (.int r1), .val (.int n1), .val (.int ka), .val (.int kb), .val (.int kc), .val (.int fl), .val (.int (0 : Int32)), .val (.int v690), .val (.int v693), .val (.int v696), .val (.int v699), .val (.ref b703), .val (.ref b731), .val (.long (1 : Int64)), .second, .val (.long v738), .second, .val (.long v743), .second, .val (.long v748), .second, .val (.int (3 : Int32)), .val (.int v788), .val (.long v748), .second] [(.int v690), (.int r1), (.ref b703)])) t → Steps p.tables e below (T747.setTop (mkF m 235 #[.val (.int r1), .val (.int n1), .val (.int ka), .val (.int kb), .val (.int kc), .val (.int fl), .val (.int (0 : Int32)), .val (.int v690), .val (.int v693), .val (.int v696), .val (.int v699), .val (.ref b703), .val (.ref b731), .val (.long (1 : Int64)), .second, .val (.long v738), .second, .val (.long v743), .second, .val (.long v748), .second, .val (.int (3 : Int32)), .unset, .val (.long v748), .second] [(.int v788)])) t := by
              intro t kt
              show Steps p.tables e below (T747.setTop (mkF m 235 #[.val (.int r1), .val (.int n1), .val (.int ka), .val (.int kb), .val (.int kc), .val (.int fl), .val (.int (0 : Int32)), .val (.int v690), .val (.int v693), .val (.int v696), .val (.int v699), .val (.ref b703), .val (.ref b731), .val (.long (1 : Int64)), .second, .val (.long v738), .second, .val (.long v743), .second, .val (.long v748), .second, .val (.int (3 : Int32)), .unset, .val (.long v748), .second] [(.int v788)])) _
              refine XS.istore X747.here hx rfl (hb hby at_235) rfl (l' := #[.val (.int r1), .val (.int n1), .val (.int ka), .val (.int kb), .val (.int kc), .val (.int fl), .val (.int (0 : Int32)), .val (.int v690), .val (.int v693), .val (.int v696), .val (.int v699), .val (.ref b703), .val (.ref b731), .val (.long (1 : Int64)), .second, .val (.long v738), .second, .val (.long v743), .second, .val (.long v748), .second, .val (.int (3 : Int32)), .val (.int v788), .val (.long v748), .second]) rfl ?_
              refine XS.aload X747.here hx rfl (hb hby at_237) rfl rfl ?_
              refine XS.iloadN X747.here hx rfl (hb hby at_239) rfl ?_
              refine XS.iload X747.here hx rfl (hb hby at_240) rfl ?_
              exact kt
            obtain ⟨cq790, kq790, q790a, q790b, q790c⟩ := isOf hZ e747 hEx
            obtain ⟨_, _, ⟨T790, L790, k790, n790⟩, -, X790, ⟨Lc790, hQ790, l790, y790, z790⟩, st790⟩ := X747.virtualBack hx (y := (⟨"com/example/joinery/joinery/KeyGrid", "fits", "(II)Z"⟩ : MethodName)) (z := (⟨"com/example/joinery/joinery/KeyGrid", "fits", "(II)Z"⟩ : MethodName)) hown (mvT hZ (hw _ (List.mem_of_getElem? (i := 98) rfl))) (mvT hZ (hw _ (List.mem_of_getElem? (i := 99) rfl))) (notFace_of_selects (args := #[]) (mvT hZ (hw _ (List.mem_of_getElem? (i := 101) rfl)))) (mvT hZ (hw _ (List.mem_of_getElem? (i := 101) rfl))) (mvT hZ (hw _ (List.mem_of_getElem? (i := 100) rfl))) (by decide) (backOf (W := 0) (rm11 l Z a0 hw [] b703 b731 r1 v690 3 own_cv0 h731 n0 z732 hG0 (by decide) hname.2) hZ (hw _ (List.mem_of_getElem? (i := 102) rfl)) (hw _ (List.mem_of_getElem? (i := 4) rfl)) (by decide) (by decide)) q790a q790c (g := (mkF m 242 #[.val (.int r1), .val (.int n1), .val (.int ka), .val (.int kb), .val (.int kc), .val (.int fl), .val (.int (0 : Int32)), .val (.int v690), .val (.int v693), .val (.int v696), .val (.int v699), .val (.ref b703), .val (.ref b731), .val (.long (1 : Int64)), .second, .val (.long v738), .second, .val (.long v743), .second, .val (.long v748), .second, .val (.int (3 : Int32)), .val (.int v788), .val (.long v748), .second] [(.int v690), (.int r1), (.ref b703)])) rfl (by rw [hml]; rfl) (Steps.refl _) (argsL := [(.int r1), (.int v690)]) (rest := []) (lenOf pd_9 rfl) rfl (by show 2 * 0 + _ ≤ _; exact Nat.le_of_eq rfl) (hb hby at_242) (fun _ _ => ⟨rfl, e747, (by decide : 28 + 0 ≤ _), (by decide : 56 + 0 ≤ _)⟩)
            dsimp only [Pt.U, Pt.locs, Pt.cells, Pt.slots] at X790 l790 y790 z790 st790 hQ790
            subst l790 y790 z790
            obtain ⟨rfl, N790q, e790⟩ := hQ790
            have N790 := Fr.app N747 N790q
            exfalso
            exact own_none hname hc760 hc770 hc778 (k := 3) (by decide) hc754
  · have S791 : ∀ t, Steps p.tables e below (T731.setTop (mkF m 52 #[.val (.int r1), .val (.int n1), .val (.int ka), .val (.int kb), .val (.int kc), .val (.int fl), .val (.int (1 : Int32)), .val (.int v690), .val (.int v693), .val (.int v696), .val (.int v699), .val (.ref b703), .val (.ref b731), .unset, .unset, .unset, .unset, .unset, .unset, .unset, .unset, .unset, .unset, .unset, .unset] [])) t → Steps p.tables e below (T731.setTop (mkF m 52 #[.val (.int r1), .val (.int n1), .val (.int ka), .val (.int kb), .val (.int kc), .val (.int fl), .val (.int v687), .val (.int v690), .val (.int v693), .val (.int v696), .val (.int v699), .val (.ref b703), .val (.ref b731), .unset, .unset, .unset, .unset, .unset, .unset, .unset, .unset, .unset, .unset, .unset, .unset] [])) t := fun t k => by rw [qv687]; exact k
    have S793 : ∀ t, Steps p.tables e below (T731.setTop (mkF m 68 #[.val (.int r1), .val (.int n1), .val (.int ka), .val (.int kb), .val (.int kc), .val (.int fl), .val (.int (1 : Int32)), .val (.int v690), .val (.int v693), .val (.int v696), .val (.int v699), .val (.ref b703), .val (.ref b731), .unset, .unset, .unset, .unset, .unset, .unset, .unset, .unset, .unset, .unset, .unset, .unset] [(.ref b731), (.int ((fl.toUInt32 >>> ((2 : Int32) &&& 31).toUInt32).toInt32)), (.int v693), (.ref b703)])) t → Steps p.tables e below (T731.setTop (mkF m 52 #[.val (.int r1), .val (.int n1), .val (.int ka), .val (.int kb), .val (.int kc), .val (.int fl), .val (.int (1 : Int32)), .val (.int v690), .val (.int v693), .val (.int v696), .val (.int v699), .val (.ref b703), .val (.ref b731), .unset, .unset, .unset, .unset, .unset, .unset, .unset, .unset, .unset, .unset, .unset, .unset] [])) t := by
      intro t kt
      show Steps p.tables e below (T731.setTop (mkF m 52 #[.val (.int r1), .val (.int n1), .val (.int ka), .val (.int kb), .val (.int kc), .val (.int fl), .val (.int (1 : Int32)), .val (.int v690), .val (.int v693), .val (.int v696), .val (.int v699), .val (.ref b703), .val (.ref b731), .unset, .unset, .unset, .unset, .unset, .unset, .unset, .unset, .unset, .unset, .unset, .unset] [])) _
      refine XS.iload X731.here hx rfl (hb hby at_52) rfl ?_
      refine XS.iconst X731.here hx rfl (hb hby at_54) ?_
      refine XS.icmpNo X731.here hx rfl (hb hby at_55) rfl (flt (by decide)).1 ?_
      refine XS.aload X731.here hx rfl (hb hby at_58) rfl rfl ?_
      refine XS.iload X731.here hx rfl (hb hby at_60) rfl ?_
      show Steps p.tables e below (T731.setTop (mkF m 62 #[.val (.int r1), .val (.int n1), .val (.int ka), .val (.int kb), .val (.int kc), .val (.int fl), .val (.int (1 : Int32)), .val (.int v690), .val (.int v693), .val (.int v696), .val (.int v699), .val (.ref b703), .val (.ref b731), .unset, .unset, .unset, .unset, .unset, .unset, .unset, .unset, .unset, .unset, .unset, .unset] [(.int v693), (.ref b703)])) _
      refine XS.iload X731.here hx rfl (hb hby at_62) rfl ?_
      refine XS.iconst X731.here hx rfl (hb hby at_64) ?_
      refine XS.iushr X731.here hx rfl (hb hby at_65) rfl ?_
      refine XS.aload X731.here hx rfl (hb hby at_66) rfl rfl ?_
      exact kt
    obtain ⟨_, _, ⟨T794, L794, k794, n794⟩, -, X794, ⟨Lc794, hQ794, l794, y794, z794⟩, st794⟩ := Jvm.LawKit.callS X731 hx (y := (⟨"com/example/joinery/joinery/KeyGridFitsPinLaw", "giveName", "(Lcom/example/joinery/joinery/KeyGrid;II[I)V"⟩ : MethodName)) hown (mvT hZ (hw _ (List.mem_of_getElem? (i := 81) rfl))) (mvT hZ (hw _ (List.mem_of_getElem? (i := 82) rfl))) (mvT hZ (hw _ (List.mem_of_getElem? (i := 83) rfl))) (mvT hZ (hw _ (List.mem_of_getElem? (i := 84) rfl))) (by decide) (backOf (W := 0) (rm7 l Z a0 hw [] b703 b731 v693 ((fl.toUInt32 >>> ((2 : Int32) &&& 31).toUInt32).toInt32) 2 own_cv0 h731 n0 z732 hG0 (by decide) hkv693) hZ (hw _ (List.mem_of_getElem? (i := 84) rfl)) (hw _ (List.mem_of_getElem? (i := 83) rfl)) (by decide) (by decide)) (g := (mkF m 68 #[.val (.int r1), .val (.int n1), .val (.int ka), .val (.int kb), .val (.int kc), .val (.int fl), .val (.int (1 : Int32)), .val (.int v690), .val (.int v693), .val (.int v696), .val (.int v699), .val (.ref b703), .val (.ref b731), .unset, .unset, .unset, .unset, .unset, .unset, .unset, .unset, .unset, .unset, .unset, .unset] [(.ref b731), (.int ((fl.toUInt32 >>> ((2 : Int32) &&& 31).toUInt32).toInt32)), (.int v693), (.ref b703)])) rfl (by rw [hml]; rfl) (argsL := [(.ref b703), (.int v693), (.int ((fl.toUInt32 >>> ((2 : Int32) &&& 31).toUInt32).toInt32)), (.ref b731)]) (rest := []) (lenOf pd_10 rfl) rfl (by show 2 * 0 + _ ≤ _; exact Nat.le_of_eq rfl) (hb hby at_68) (fun _ _ => ⟨rfl, e731, (by decide : 28 + 0 ≤ _), (by decide : 56 + 0 ≤ _)⟩)
    dsimp only [Pt.U, Pt.locs, Pt.cells, Pt.slots] at X794 l794 y794 z794 st794 hQ794
    subst l794 y794 z794
    obtain ⟨h794, e794⟩ : ∃ z, T794.heap = z := ⟨_, rfl⟩
    rw [e794] at hQ794
    obtain ⟨rfl, N794q, z795, hG792⟩ := hQ794
    have N794 := Fr.app N728 N794q
    have S796 : ∀ t, Steps p.tables e below (T794.setTop (mkF m 119 #[.val (.int r1), .val (.int n1), .val (.int ka), .val (.int kb), .val (.int kc), .val (.int fl), .val (.int (1 : Int32)), .val (.int v690), .val (.int v693), .val (.int v696), .val (.int v699), .val (.ref b703), .val (.ref b731), .val (.long (1 : Int64)), .second, .unset, .unset, .unset, .unset, .unset, .unset, .unset, .unset, .unset, .unset] [(.int ((fl.toUInt32 >>> ((2 : Int32) &&& 31).toUInt32).toInt32)), (.int v693)])) t → Steps p.tables e below (T794.setTop (mkF m 71 #[.val (.int r1), .val (.int n1), .val (.int ka), .val (.int kb), .val (.int kc), .val (.int fl), .val (.int (1 : Int32)), .val (.int v690), .val (.int v693), .val (.int v696), .val (.int v699), .val (.ref b703), .val (.ref b731), .unset, .unset, .unset, .unset, .unset, .unset, .unset, .unset, .unset, .unset, .unset, .unset] [])) t := by
      intro t kt
      show Steps p.tables e below (T794.setTop (mkF m 71 #[.val (.int r1), .val (.int n1), .val (.int ka), .val (.int kb), .val (.int kc), .val (.int fl), .val (.int (1 : Int32)), .val (.int v690), .val (.int v693), .val (.int v696), .val (.int v699), .val (.ref b703), .val (.ref b731), .unset, .unset, .unset, .unset, .unset, .unset, .unset, .unset, .unset, .unset, .unset, .unset] [])) _
      refine XS.iload X794.here hx rfl (hb hby at_71) rfl ?_
      refine XS.iconst X794.here hx rfl (hb hby at_73) ?_
      refine XS.icmpYes X794.here hx rfl (pc0 := 74) (pc' := 90) rfl (hb hby at_74) rfl (tlt (by decide)).1 (by decide) (by decide) ?_
      refine XS.iload X794.here hx rfl (hb hby at_90) rfl ?_
      refine XS.iconst X794.here hx rfl (hb hby at_92) ?_
      show Steps p.tables e below (T794.setTop (mkF m 93 #[.val (.int r1), .val (.int n1), .val (.int ka), .val (.int kb), .val (.int kc), .val (.int fl), .val (.int (1 : Int32)), .val (.int v690), .val (.int v693), .val (.int v696), .val (.int v699), .val (.ref b703), .val (.ref b731), .unset, .unset, .unset, .unset, .unset, .unset, .unset, .unset, .unset, .unset, .unset, .unset] [(.int (3 : Int32)), (.int (1 : Int32))])) _
      refine XS.icmpYes X794.here hx rfl (pc0 := 93) (pc' := 110) rfl (hb hby at_93) rfl (tlt (by decide)).1 (by decide) (by decide) ?_
      refine XS.lconst X794.here hx rfl (hb hby at_110) ?_
      refine XS.lstore X794.here hx rfl (hb hby at_111) rfl (l' := #[.val (.int r1), .val (.int n1), .val (.int ka), .val (.int kb), .val (.int kc), .val (.int fl), .val (.int (1 : Int32)), .val (.int v690), .val (.int v693), .val (.int v696), .val (.int v699), .val (.ref b703), .val (.ref b731), .val (.long (1 : Int64)), .second, .unset, .unset, .unset, .unset, .unset, .unset, .unset, .unset, .unset, .unset]) rfl ?_
      refine XS.iload X794.here hx rfl (hb hby at_113) rfl ?_
      refine XS.iload X794.here hx rfl (hb hby at_115) rfl ?_
      show Steps p.tables e below (T794.setTop (mkF m 117 #[.val (.int r1), .val (.int n1), .val (.int ka), .val (.int kb), .val (.int kc), .val (.int fl), .val (.int (1 : Int32)), .val (.int v690), .val (.int v693), .val (.int v696), .val (.int v699), .val (.ref b703), .val (.ref b731), .val (.long (1 : Int64)), .second, .unset, .unset, .unset, .unset, .unset, .unset, .unset, .unset, .unset, .unset] [(.int fl), (.int v693)])) _
      refine XS.iconst X794.here hx rfl (hb hby at_117) ?_
      refine XS.iushr X794.here hx rfl (hb hby at_118) rfl ?_
      exact kt
    obtain ⟨_, _, ⟨T797, L797, k797, n797⟩, -, X797, ⟨Lc797, hQ797, l797, y797, z797⟩, st797⟩ := Jvm.LawKit.callS X794 hx (y := (⟨"com/example/joinery/joinery/KeyGridFitsPinLaw", "radix", "(II)J"⟩ : MethodName)) hown (mvT hZ (hw _ (List.mem_of_getElem? (i := 94) rfl))) (mvT hZ (hw _ (List.mem_of_getElem? (i := 95) rfl))) (mvT hZ (hw _ (List.mem_of_getElem? (i := 83) rfl))) (mvT hZ (hw _ (List.mem_of_getElem? (i := 96) rfl))) (by decide) (backOf (W := 0) (rm10 l Z a0 hw [] v693 ((fl.toUInt32 >>> ((2 : Int32) &&& 31).toUInt32).toInt32) h794 n0 z795 ) hZ (hw _ (List.mem_of_getElem? (i := 96) rfl)) (hw _ (List.mem_of_getElem? (i := 83) rfl)) (by decide) (by decide)) (g := (mkF m 119 #[.val (.int r1), .val (.int n1), .val (.int ka), .val (.int kb), .val (.int kc), .val (.int fl), .val (.int (1 : Int32)), .val (.int v690), .val (.int v693), .val (.int v696), .val (.int v699), .val (.ref b703), .val (.ref b731), .val (.long (1 : Int64)), .second, .unset, .unset, .unset, .unset, .unset, .unset, .unset, .unset, .unset, .unset] [(.int ((fl.toUInt32 >>> ((2 : Int32) &&& 31).toUInt32).toInt32)), (.int v693)])) rfl (by rw [hml]; rfl) (argsL := [(.int v693), (.int ((fl.toUInt32 >>> ((2 : Int32) &&& 31).toUInt32).toInt32))]) (rest := []) (lenOf pd_8 rfl) rfl (by show 2 * 0 + _ ≤ _; exact Nat.le_of_eq rfl) (hb hby at_119) (fun _ _ => ⟨rfl, e794, (by decide : 28 + 0 ≤ _), (by decide : 56 + 0 ≤ _)⟩)
    dsimp only [Pt.U, Pt.locs, Pt.cells, Pt.slots] at X797 l797 y797 z797 st797 hQ797
    subst l797 y797 z797
    obtain ⟨rfl, N797q, e797⟩ := hQ797
    have N797 := Fr.app N794 N797q
    have S799 : ∀ t, Steps p.tables e below (T797.setTop (mkF m 125 #[.val (.int r1), .val (.int n1), .val (.int ka), .val (.int kb), .val (.int kc), .val (.int fl), .val (.int (1 : Int32)), .val (.int v690), .val (.int v693), .val (.int v696), .val (.int v699), .val (.ref b703), .val (.ref b731), .val (.long (1 : Int64)), .second, .unset, .unset, .unset, .unset, .unset, .unset, .unset, .unset, .unset, .unset] [(.long ((own_rad v693 ((fl.toUInt32 >>> ((2 : Int32) &&& 31).toUInt32).toInt32)) * (1 : Int64)))])) t → Steps p.tables e below (T797.setTop (mkF m 122 #[.val (.int r1), .val (.int n1), .val (.int ka), .val (.int kb), .val (.int kc), .val (.int fl), .val (.int (1 : Int32)), .val (.int v690), .val (.int v693), .val (.int v696), .val (.int v699), .val (.ref b703), .val (.ref b731), .val (.long (1 : Int64)), .second, .unset, .unset, .unset, .unset, .unset, .unset, .unset, .unset, .unset, .unset] [(.long (own_rad v693 ((fl.toUInt32 >>> ((2 : Int32) &&& 31).toUInt32).toInt32)))])) t := by
      intro t kt
      show Steps p.tables e below (T797.setTop (mkF m 122 #[.val (.int r1), .val (.int n1), .val (.int ka), .val (.int kb), .val (.int kc), .val (.int fl), .val (.int (1 : Int32)), .val (.int v690), .val (.int v693), .val (.int v696), .val (.int v699), .val (.ref b703), .val (.ref b731), .val (.long (1 : Int64)), .second, .unset, .unset, .unset, .unset, .unset, .unset, .unset, .unset, .unset, .unset] [(.long (own_rad v693 ((fl.toUInt32 >>> ((2 : Int32) &&& 31).toUInt32).toInt32)))])) _
      refine XS.lload X797.here hx rfl (hb hby at_122) rfl ?_
      refine XS.lmul X797.here hx rfl (hb hby at_124) rfl ?_
      exact kt
    obtain ⟨v798, hv798⟩ : ∃ z : Int64, z = ((own_rad v693 ((fl.toUInt32 >>> ((2 : Int32) &&& 31).toUInt32).toInt32)) * (1 : Int64)) := ⟨_, rfl⟩
    have S800 : ∀ t, Steps p.tables e below (T797.setTop (mkF m 125 #[.val (.int r1), .val (.int n1), .val (.int ka), .val (.int kb), .val (.int kc), .val (.int fl), .val (.int (1 : Int32)), .val (.int v690), .val (.int v693), .val (.int v696), .val (.int v699), .val (.ref b703), .val (.ref b731), .val (.long (1 : Int64)), .second, .unset, .unset, .unset, .unset, .unset, .unset, .unset, .unset, .unset, .unset] [(.long v798)])) t → Steps p.tables e below (T797.setTop (mkF m 125 #[.val (.int r1), .val (.int n1), .val (.int ka), .val (.int kb), .val (.int kc), .val (.int fl), .val (.int (1 : Int32)), .val (.int v690), .val (.int v693), .val (.int v696), .val (.int v699), .val (.ref b703), .val (.ref b731), .val (.long (1 : Int64)), .second, .unset, .unset, .unset, .unset, .unset, .unset, .unset, .unset, .unset, .unset] [(.long ((own_rad v693 ((fl.toUInt32 >>> ((2 : Int32) &&& 31).toUInt32).toInt32)) * (1 : Int64)))])) t := fun t k => by rw [hv798.symm]; exact k
    have S801 : ∀ t, Steps p.tables e below (T797.setTop (mkF m 133 #[.val (.int r1), .val (.int n1), .val (.int ka), .val (.int kb), .val (.int kc), .val (.int fl), .val (.int (1 : Int32)), .val (.int v690), .val (.int v693), .val (.int v696), .val (.int v699), .val (.ref b703), .val (.ref b731), .val (.long (1 : Int64)), .second, .val (.long v798), .second, .unset, .unset, .unset, .unset, .unset, .unset, .unset, .unset] [(.int ((fl.toUInt32 >>> ((4 : Int32) &&& 31).toUInt32).toInt32)), (.int v696)])) t → Steps p.tables e below (T797.setTop (mkF m 125 #[.val (.int r1), .val (.int n1), .val (.int ka), .val (.int kb), .val (.int kc), .val (.int fl), .val (.int (1 : Int32)), .val (.int v690), .val (.int v693), .val (.int v696), .val (.int v699), .val (.ref b703), .val (.ref b731), .val (.long (1 : Int64)), .second, .unset, .unset, .unset, .unset, .unset, .unset, .unset, .unset, .unset, .unset] [(.long v798)])) t := by
      intro t kt
      show Steps p.tables e below (T797.setTop (mkF m 125 #[.val (.int r1), .val (.int n1), .val (.int ka), .val (.int kb), .val (.int kc), .val (.int fl), .val (.int (1 : Int32)), .val (.int v690), .val (.int v693), .val (.int v696), .val (.int v699), .val (.ref b703), .val (.ref b731), .val (.long (1 : Int64)), .second, .unset, .unset, .unset, .unset, .unset, .unset, .unset, .unset, .unset, .unset] [(.long v798)])) _
      refine XS.lstore X797.here hx rfl (hb hby at_125) rfl (l' := #[.val (.int r1), .val (.int n1), .val (.int ka), .val (.int kb), .val (.int kc), .val (.int fl), .val (.int (1 : Int32)), .val (.int v690), .val (.int v693), .val (.int v696), .val (.int v699), .val (.ref b703), .val (.ref b731), .val (.long (1 : Int64)), .second, .val (.long v798), .second, .unset, .unset, .unset, .unset, .unset, .unset, .unset, .unset]) rfl ?_
      refine XS.iload X797.here hx rfl (hb hby at_127) rfl ?_
      refine XS.iload X797.here hx rfl (hb hby at_129) rfl ?_
      refine XS.iconst X797.here hx rfl (hb hby at_131) ?_
      refine XS.iushr X797.here hx rfl (hb hby at_132) rfl ?_
      exact kt
    obtain ⟨_, _, ⟨T802, L802, k802, n802⟩, -, X802, ⟨Lc802, hQ802, l802, y802, z802⟩, st802⟩ := Jvm.LawKit.callS X797 hx (y := (⟨"com/example/joinery/joinery/KeyGridFitsPinLaw", "radix", "(II)J"⟩ : MethodName)) hown (mvT hZ (hw _ (List.mem_of_getElem? (i := 94) rfl))) (mvT hZ (hw _ (List.mem_of_getElem? (i := 95) rfl))) (mvT hZ (hw _ (List.mem_of_getElem? (i := 83) rfl))) (mvT hZ (hw _ (List.mem_of_getElem? (i := 96) rfl))) (by decide) (backOf (W := 0) (rm10 l Z a0 hw [] v696 ((fl.toUInt32 >>> ((4 : Int32) &&& 31).toUInt32).toInt32) h794 n0 z795 ) hZ (hw _ (List.mem_of_getElem? (i := 96) rfl)) (hw _ (List.mem_of_getElem? (i := 83) rfl)) (by decide) (by decide)) (g := (mkF m 133 #[.val (.int r1), .val (.int n1), .val (.int ka), .val (.int kb), .val (.int kc), .val (.int fl), .val (.int (1 : Int32)), .val (.int v690), .val (.int v693), .val (.int v696), .val (.int v699), .val (.ref b703), .val (.ref b731), .val (.long (1 : Int64)), .second, .val (.long v798), .second, .unset, .unset, .unset, .unset, .unset, .unset, .unset, .unset] [(.int ((fl.toUInt32 >>> ((4 : Int32) &&& 31).toUInt32).toInt32)), (.int v696)])) rfl (by rw [hml]; rfl) (argsL := [(.int v696), (.int ((fl.toUInt32 >>> ((4 : Int32) &&& 31).toUInt32).toInt32))]) (rest := []) (lenOf pd_8 rfl) rfl (by show 2 * 0 + _ ≤ _; exact Nat.le_of_eq rfl) (hb hby at_133) (fun _ _ => ⟨rfl, e797, (by decide : 28 + 0 ≤ _), (by decide : 56 + 0 ≤ _)⟩)
    dsimp only [Pt.U, Pt.locs, Pt.cells, Pt.slots] at X802 l802 y802 z802 st802 hQ802
    subst l802 y802 z802
    obtain ⟨rfl, N802q, e802⟩ := hQ802
    have N802 := Fr.app N797 N802q
    have S804 : ∀ t, Steps p.tables e below (T802.setTop (mkF m 139 #[.val (.int r1), .val (.int n1), .val (.int ka), .val (.int kb), .val (.int kc), .val (.int fl), .val (.int (1 : Int32)), .val (.int v690), .val (.int v693), .val (.int v696), .val (.int v699), .val (.ref b703), .val (.ref b731), .val (.long (1 : Int64)), .second, .val (.long v798), .second, .unset, .unset, .unset, .unset, .unset, .unset, .unset, .unset] [(.long ((own_rad v696 ((fl.toUInt32 >>> ((4 : Int32) &&& 31).toUInt32).toInt32)) * v798))])) t → Steps p.tables e below (T802.setTop (mkF m 136 #[.val (.int r1), .val (.int n1), .val (.int ka), .val (.int kb), .val (.int kc), .val (.int fl), .val (.int (1 : Int32)), .val (.int v690), .val (.int v693), .val (.int v696), .val (.int v699), .val (.ref b703), .val (.ref b731), .val (.long (1 : Int64)), .second, .val (.long v798), .second, .unset, .unset, .unset, .unset, .unset, .unset, .unset, .unset] [(.long (own_rad v696 ((fl.toUInt32 >>> ((4 : Int32) &&& 31).toUInt32).toInt32)))])) t := by
      intro t kt
      show Steps p.tables e below (T802.setTop (mkF m 136 #[.val (.int r1), .val (.int n1), .val (.int ka), .val (.int kb), .val (.int kc), .val (.int fl), .val (.int (1 : Int32)), .val (.int v690), .val (.int v693), .val (.int v696), .val (.int v699), .val (.ref b703), .val (.ref b731), .val (.long (1 : Int64)), .second, .val (.long v798), .second, .unset, .unset, .unset, .unset, .unset, .unset, .unset, .unset] [(.long (own_rad v696 ((fl.toUInt32 >>> ((4 : Int32) &&& 31).toUInt32).toInt32)))])) _
      refine XS.lload X802.here hx rfl (hb hby at_136) rfl ?_
      refine XS.lmul X802.here hx rfl (hb hby at_138) rfl ?_
      exact kt
    obtain ⟨v803, hv803⟩ : ∃ z : Int64, z = ((own_rad v696 ((fl.toUInt32 >>> ((4 : Int32) &&& 31).toUInt32).toInt32)) * v798) := ⟨_, rfl⟩
    have S805 : ∀ t, Steps p.tables e below (T802.setTop (mkF m 139 #[.val (.int r1), .val (.int n1), .val (.int ka), .val (.int kb), .val (.int kc), .val (.int fl), .val (.int (1 : Int32)), .val (.int v690), .val (.int v693), .val (.int v696), .val (.int v699), .val (.ref b703), .val (.ref b731), .val (.long (1 : Int64)), .second, .val (.long v798), .second, .unset, .unset, .unset, .unset, .unset, .unset, .unset, .unset] [(.long v803)])) t → Steps p.tables e below (T802.setTop (mkF m 139 #[.val (.int r1), .val (.int n1), .val (.int ka), .val (.int kb), .val (.int kc), .val (.int fl), .val (.int (1 : Int32)), .val (.int v690), .val (.int v693), .val (.int v696), .val (.int v699), .val (.ref b703), .val (.ref b731), .val (.long (1 : Int64)), .second, .val (.long v798), .second, .unset, .unset, .unset, .unset, .unset, .unset, .unset, .unset] [(.long ((own_rad v696 ((fl.toUInt32 >>> ((4 : Int32) &&& 31).toUInt32).toInt32)) * v798))])) t := fun t k => by rw [hv803.symm]; exact k
    have S806 : ∀ t, Steps p.tables e below (T802.setTop (mkF m 148 #[.val (.int r1), .val (.int n1), .val (.int ka), .val (.int kb), .val (.int kc), .val (.int fl), .val (.int (1 : Int32)), .val (.int v690), .val (.int v693), .val (.int v696), .val (.int v699), .val (.ref b703), .val (.ref b731), .val (.long (1 : Int64)), .second, .val (.long v798), .second, .val (.long v803), .second, .unset, .unset, .unset, .unset, .unset, .unset] [(.int ((fl.toUInt32 >>> ((6 : Int32) &&& 31).toUInt32).toInt32)), (.int v699)])) t → Steps p.tables e below (T802.setTop (mkF m 139 #[.val (.int r1), .val (.int n1), .val (.int ka), .val (.int kb), .val (.int kc), .val (.int fl), .val (.int (1 : Int32)), .val (.int v690), .val (.int v693), .val (.int v696), .val (.int v699), .val (.ref b703), .val (.ref b731), .val (.long (1 : Int64)), .second, .val (.long v798), .second, .unset, .unset, .unset, .unset, .unset, .unset, .unset, .unset] [(.long v803)])) t := by
      intro t kt
      show Steps p.tables e below (T802.setTop (mkF m 139 #[.val (.int r1), .val (.int n1), .val (.int ka), .val (.int kb), .val (.int kc), .val (.int fl), .val (.int (1 : Int32)), .val (.int v690), .val (.int v693), .val (.int v696), .val (.int v699), .val (.ref b703), .val (.ref b731), .val (.long (1 : Int64)), .second, .val (.long v798), .second, .unset, .unset, .unset, .unset, .unset, .unset, .unset, .unset] [(.long v803)])) _
      refine XS.lstore X802.here hx rfl (hb hby at_139) rfl (l' := #[.val (.int r1), .val (.int n1), .val (.int ka), .val (.int kb), .val (.int kc), .val (.int fl), .val (.int (1 : Int32)), .val (.int v690), .val (.int v693), .val (.int v696), .val (.int v699), .val (.ref b703), .val (.ref b731), .val (.long (1 : Int64)), .second, .val (.long v798), .second, .val (.long v803), .second, .unset, .unset, .unset, .unset, .unset, .unset]) rfl ?_
      refine XS.iload X802.here hx rfl (hb hby at_141) rfl ?_
      refine XS.iload X802.here hx rfl (hb hby at_143) rfl ?_
      refine XS.bipush X802.here hx rfl (hb hby at_145) ?_
      refine XS.iushr X802.here hx rfl (hb hby at_147) rfl ?_
      exact kt
    obtain ⟨_, _, ⟨T807, L807, k807, n807⟩, -, X807, ⟨Lc807, hQ807, l807, y807, z807⟩, st807⟩ := Jvm.LawKit.callS X802 hx (y := (⟨"com/example/joinery/joinery/KeyGridFitsPinLaw", "radix", "(II)J"⟩ : MethodName)) hown (mvT hZ (hw _ (List.mem_of_getElem? (i := 94) rfl))) (mvT hZ (hw _ (List.mem_of_getElem? (i := 95) rfl))) (mvT hZ (hw _ (List.mem_of_getElem? (i := 83) rfl))) (mvT hZ (hw _ (List.mem_of_getElem? (i := 96) rfl))) (by decide) (backOf (W := 0) (rm10 l Z a0 hw [] v699 ((fl.toUInt32 >>> ((6 : Int32) &&& 31).toUInt32).toInt32) h794 n0 z795 ) hZ (hw _ (List.mem_of_getElem? (i := 96) rfl)) (hw _ (List.mem_of_getElem? (i := 83) rfl)) (by decide) (by decide)) (g := (mkF m 148 #[.val (.int r1), .val (.int n1), .val (.int ka), .val (.int kb), .val (.int kc), .val (.int fl), .val (.int (1 : Int32)), .val (.int v690), .val (.int v693), .val (.int v696), .val (.int v699), .val (.ref b703), .val (.ref b731), .val (.long (1 : Int64)), .second, .val (.long v798), .second, .val (.long v803), .second, .unset, .unset, .unset, .unset, .unset, .unset] [(.int ((fl.toUInt32 >>> ((6 : Int32) &&& 31).toUInt32).toInt32)), (.int v699)])) rfl (by rw [hml]; rfl) (argsL := [(.int v699), (.int ((fl.toUInt32 >>> ((6 : Int32) &&& 31).toUInt32).toInt32))]) (rest := []) (lenOf pd_8 rfl) rfl (by show 2 * 0 + _ ≤ _; exact Nat.le_of_eq rfl) (hb hby at_148) (fun _ _ => ⟨rfl, e802, (by decide : 28 + 0 ≤ _), (by decide : 56 + 0 ≤ _)⟩)
    dsimp only [Pt.U, Pt.locs, Pt.cells, Pt.slots] at X807 l807 y807 z807 st807 hQ807
    subst l807 y807 z807
    obtain ⟨rfl, N807q, e807⟩ := hQ807
    have N807 := Fr.app N802 N807q
    have S809 : ∀ t, Steps p.tables e below (T807.setTop (mkF m 154 #[.val (.int r1), .val (.int n1), .val (.int ka), .val (.int kb), .val (.int kc), .val (.int fl), .val (.int (1 : Int32)), .val (.int v690), .val (.int v693), .val (.int v696), .val (.int v699), .val (.ref b703), .val (.ref b731), .val (.long (1 : Int64)), .second, .val (.long v798), .second, .val (.long v803), .second, .unset, .unset, .unset, .unset, .unset, .unset] [(.long ((own_rad v699 ((fl.toUInt32 >>> ((6 : Int32) &&& 31).toUInt32).toInt32)) * v803))])) t → Steps p.tables e below (T807.setTop (mkF m 151 #[.val (.int r1), .val (.int n1), .val (.int ka), .val (.int kb), .val (.int kc), .val (.int fl), .val (.int (1 : Int32)), .val (.int v690), .val (.int v693), .val (.int v696), .val (.int v699), .val (.ref b703), .val (.ref b731), .val (.long (1 : Int64)), .second, .val (.long v798), .second, .val (.long v803), .second, .unset, .unset, .unset, .unset, .unset, .unset] [(.long (own_rad v699 ((fl.toUInt32 >>> ((6 : Int32) &&& 31).toUInt32).toInt32)))])) t := by
      intro t kt
      show Steps p.tables e below (T807.setTop (mkF m 151 #[.val (.int r1), .val (.int n1), .val (.int ka), .val (.int kb), .val (.int kc), .val (.int fl), .val (.int (1 : Int32)), .val (.int v690), .val (.int v693), .val (.int v696), .val (.int v699), .val (.ref b703), .val (.ref b731), .val (.long (1 : Int64)), .second, .val (.long v798), .second, .val (.long v803), .second, .unset, .unset, .unset, .unset, .unset, .unset] [(.long (own_rad v699 ((fl.toUInt32 >>> ((6 : Int32) &&& 31).toUInt32).toInt32)))])) _
      refine XS.lload X807.here hx rfl (hb hby at_151) rfl ?_
      refine XS.lmul X807.here hx rfl (hb hby at_153) rfl ?_
      exact kt
    obtain ⟨v808, hv808⟩ : ∃ z : Int64, z = ((own_rad v699 ((fl.toUInt32 >>> ((6 : Int32) &&& 31).toUInt32).toInt32)) * v803) := ⟨_, rfl⟩
    have S810 : ∀ t, Steps p.tables e below (T807.setTop (mkF m 154 #[.val (.int r1), .val (.int n1), .val (.int ka), .val (.int kb), .val (.int kc), .val (.int fl), .val (.int (1 : Int32)), .val (.int v690), .val (.int v693), .val (.int v696), .val (.int v699), .val (.ref b703), .val (.ref b731), .val (.long (1 : Int64)), .second, .val (.long v798), .second, .val (.long v803), .second, .unset, .unset, .unset, .unset, .unset, .unset] [(.long v808)])) t → Steps p.tables e below (T807.setTop (mkF m 154 #[.val (.int r1), .val (.int n1), .val (.int ka), .val (.int kb), .val (.int kc), .val (.int fl), .val (.int (1 : Int32)), .val (.int v690), .val (.int v693), .val (.int v696), .val (.int v699), .val (.ref b703), .val (.ref b731), .val (.long (1 : Int64)), .second, .val (.long v798), .second, .val (.long v803), .second, .unset, .unset, .unset, .unset, .unset, .unset] [(.long ((own_rad v699 ((fl.toUInt32 >>> ((6 : Int32) &&& 31).toUInt32).toInt32)) * v803))])) t := fun t k => by rw [hv808.symm]; exact k
    have S811 : ∀ t, Steps p.tables e below (T807.setTop (mkF m 160 #[.val (.int r1), .val (.int n1), .val (.int ka), .val (.int kb), .val (.int kc), .val (.int fl), .val (.int (1 : Int32)), .val (.int v690), .val (.int v693), .val (.int v696), .val (.int v699), .val (.ref b703), .val (.ref b731), .val (.long (1 : Int64)), .second, .val (.long v798), .second, .val (.long v803), .second, .val (.long v808), .second, .unset, .unset, .unset, .unset] [(.int ((3 : Int32) - (1 : Int32)))])) t → Steps p.tables e below (T807.setTop (mkF m 154 #[.val (.int r1), .val (.int n1), .val (.int ka), .val (.int kb), .val (.int kc), .val (.int fl), .val (.int (1 : Int32)), .val (.int v690), .val (.int v693), .val (.int v696), .val (.int v699), .val (.ref b703), .val (.ref b731), .val (.long (1 : Int64)), .second, .val (.long v798), .second, .val (.long v803), .second, .unset, .unset, .unset, .unset, .unset, .unset] [(.long v808)])) t := by
      intro t kt
      show Steps p.tables e below (T807.setTop (mkF m 154 #[.val (.int r1), .val (.int n1), .val (.int ka), .val (.int kb), .val (.int kc), .val (.int fl), .val (.int (1 : Int32)), .val (.int v690), .val (.int v693), .val (.int v696), .val (.int v699), .val (.ref b703), .val (.ref b731), .val (.long (1 : Int64)), .second, .val (.long v798), .second, .val (.long v803), .second, .unset, .unset, .unset, .unset, .unset, .unset] [(.long v808)])) _
      refine XS.lstore X807.here hx rfl (hb hby at_154) rfl (l' := #[.val (.int r1), .val (.int n1), .val (.int ka), .val (.int kb), .val (.int kc), .val (.int fl), .val (.int (1 : Int32)), .val (.int v690), .val (.int v693), .val (.int v696), .val (.int v699), .val (.ref b703), .val (.ref b731), .val (.long (1 : Int64)), .second, .val (.long v798), .second, .val (.long v803), .second, .val (.long v808), .second, .unset, .unset, .unset, .unset]) rfl ?_
      refine XS.iconst X807.here hx rfl (hb hby at_156) ?_
      refine XS.iload X807.here hx rfl (hb hby at_157) rfl ?_
      refine XS.isub X807.here hx rfl (hb hby at_159) rfl ?_
      exact kt
    have S812 : ∀ t, Steps p.tables e below (T807.setTop (mkF m 160 #[.val (.int r1), .val (.int n1), .val (.int ka), .val (.int kb), .val (.int kc), .val (.int fl), .val (.int (1 : Int32)), .val (.int v690), .val (.int v693), .val (.int v696), .val (.int v699), .val (.ref b703), .val (.ref b731), .val (.long (1 : Int64)), .second, .val (.long v798), .second, .val (.long v803), .second, .val (.long v808), .second, .unset, .unset, .unset, .unset] [(.int (2 : Int32))])) t → Steps p.tables e below (T807.setTop (mkF m 160 #[.val (.int r1), .val (.int n1), .val (.int ka), .val (.int kb), .val (.int kc), .val (.int fl), .val (.int (1 : Int32)), .val (.int v690), .val (.int v693), .val (.int v696), .val (.int v699), .val (.ref b703), .val (.ref b731), .val (.long (1 : Int64)), .second, .val (.long v798), .second, .val (.long v803), .second, .val (.long v808), .second, .unset, .unset, .unset, .unset] [(.int ((3 : Int32) - (1 : Int32)))])) t := fun t k => by rw [(show ((3 : Int32) - (1 : Int32)) = (2 : Int32) from by decide)]; exact k
    have S813 : ∀ t, Steps p.tables e below (T807.setTop (mkF m 166 #[.val (.int r1), .val (.int n1), .val (.int ka), .val (.int kb), .val (.int kc), .val (.int fl), .val (.int (1 : Int32)), .val (.int v690), .val (.int v693), .val (.int v696), .val (.int v699), .val (.ref b703), .val (.ref b731), .val (.long (1 : Int64)), .second, .val (.long v798), .second, .val (.long v803), .second, .val (.long v808), .second, .val (.int (2 : Int32)), .unset, .unset, .unset] [(.int (2 : Int32)), (.int v690)])) t → Steps p.tables e below (T807.setTop (mkF m 160 #[.val (.int r1), .val (.int n1), .val (.int ka), .val (.int kb), .val (.int kc), .val (.int fl), .val (.int (1 : Int32)), .val (.int v690), .val (.int v693), .val (.int v696), .val (.int v699), .val (.ref b703), .val (.ref b731), .val (.long (1 : Int64)), .second, .val (.long v798), .second, .val (.long v803), .second, .val (.long v808), .second, .unset, .unset, .unset, .unset] [(.int (2 : Int32))])) t := by
      intro t kt
      show Steps p.tables e below (T807.setTop (mkF m 160 #[.val (.int r1), .val (.int n1), .val (.int ka), .val (.int kb), .val (.int kc), .val (.int fl), .val (.int (1 : Int32)), .val (.int v690), .val (.int v693), .val (.int v696), .val (.int v699), .val (.ref b703), .val (.ref b731), .val (.long (1 : Int64)), .second, .val (.long v798), .second, .val (.long v803), .second, .val (.long v808), .second, .unset, .unset, .unset, .unset] [(.int (2 : Int32))])) _
      refine XS.istore X807.here hx rfl (hb hby at_160) rfl (l' := #[.val (.int r1), .val (.int n1), .val (.int ka), .val (.int kb), .val (.int kc), .val (.int fl), .val (.int (1 : Int32)), .val (.int v690), .val (.int v693), .val (.int v696), .val (.int v699), .val (.ref b703), .val (.ref b731), .val (.long (1 : Int64)), .second, .val (.long v798), .second, .val (.long v803), .second, .val (.long v808), .second, .val (.int (2 : Int32)), .unset, .unset, .unset]) rfl ?_
      refine XS.iload X807.here hx rfl (hb hby at_162) rfl ?_
      refine XS.iload X807.here hx rfl (hb hby at_164) rfl ?_
      exact kt
    by_cases hc814 : v690 < (2 : Int32)
    · have hEx := own_KG_exa hG792
      have S815 : ∀ t, Steps p.tables e below (T807.setTop (mkF m 242 #[.val (.int r1), .val (.int n1), .val (.int ka), .val (.int kb), .val (.int kc), .val (.int fl), .val (.int (1 : Int32)), .val (.int v690), .val (.int v693), .val (.int v696), .val (.int v699), .val (.ref b703), .val (.ref b731), .val (.long (1 : Int64)), .second, .val (.long v798), .second, .val (.long v803), .second, .val (.long v808), .second, .val (.int (2 : Int32)), .val (.int (0 : Int32)), .unset, .unset] [(.int v690), (.int r1), (.ref b703)])) t → Steps p.tables e below (T807.setTop (mkF m 166 #[.val (.int r1), .val (.int n1), .val (.int ka), .val (.int kb), .val (.int kc), .val (.int fl), .val (.int (1 : Int32)), .val (.int v690), .val (.int v693), .val (.int v696), .val (.int v699), .val (.ref b703), .val (.ref b731), .val (.long (1 : Int64)), .second, .val (.long v798), .second, .val (.long v803), .second, .val (.long v808), .second, .val (.int (2 : Int32)), .unset, .unset, .unset] [(.int (2 : Int32)), (.int v690)])) t := by
        intro t kt
        show Steps p.tables e below (T807.setTop (mkF m 166 #[.val (.int r1), .val (.int n1), .val (.int ka), .val (.int kb), .val (.int kc), .val (.int fl), .val (.int (1 : Int32)), .val (.int v690), .val (.int v693), .val (.int v696), .val (.int v699), .val (.ref b703), .val (.ref b731), .val (.long (1 : Int64)), .second, .val (.long v798), .second, .val (.long v803), .second, .val (.long v808), .second, .val (.int (2 : Int32)), .unset, .unset, .unset] [(.int (2 : Int32)), (.int v690)])) _
        refine XS.icmpNo X807.here hx rfl (hb hby at_166) rfl (tlt hc814).2.1 ?_
        refine XS.iconst X807.here hx rfl (hb hby at_169) ?_
        refine XS.istore X807.here hx rfl (hb hby at_170) rfl (l' := #[.val (.int r1), .val (.int n1), .val (.int ka), .val (.int kb), .val (.int kc), .val (.int fl), .val (.int (1 : Int32)), .val (.int v690), .val (.int v693), .val (.int v696), .val (.int v699), .val (.ref b703), .val (.ref b731), .val (.long (1 : Int64)), .second, .val (.long v798), .second, .val (.long v803), .second, .val (.long v808), .second, .val (.int (2 : Int32)), .val (.int (0 : Int32)), .unset, .unset]) rfl ?_
        refine XS.goto X807.here hx rfl (pc0 := 172) (pc' := 237) rfl (hb hby at_172) (by decide) (by decide) ?_
        refine XS.aload X807.here hx rfl (hb hby at_237) rfl rfl ?_
        show Steps p.tables e below (T807.setTop (mkF m 239 #[.val (.int r1), .val (.int n1), .val (.int ka), .val (.int kb), .val (.int kc), .val (.int fl), .val (.int (1 : Int32)), .val (.int v690), .val (.int v693), .val (.int v696), .val (.int v699), .val (.ref b703), .val (.ref b731), .val (.long (1 : Int64)), .second, .val (.long v798), .second, .val (.long v803), .second, .val (.long v808), .second, .val (.int (2 : Int32)), .val (.int (0 : Int32)), .unset, .unset] [(.ref b703)])) _
        refine XS.iloadN X807.here hx rfl (hb hby at_239) rfl ?_
        refine XS.iload X807.here hx rfl (hb hby at_240) rfl ?_
        exact kt
      obtain ⟨cq816, kq816, q816a, q816b, q816c⟩ := isOf hZ e807 hEx
      obtain ⟨_, _, ⟨T816, L816, k816, n816⟩, -, X816, ⟨Lc816, hQ816, l816, y816, z816⟩, st816⟩ := X807.virtualBack hx (y := (⟨"com/example/joinery/joinery/KeyGrid", "fits", "(II)Z"⟩ : MethodName)) (z := (⟨"com/example/joinery/joinery/KeyGrid", "fits", "(II)Z"⟩ : MethodName)) hown (mvT hZ (hw _ (List.mem_of_getElem? (i := 98) rfl))) (mvT hZ (hw _ (List.mem_of_getElem? (i := 99) rfl))) (notFace_of_selects (args := #[]) (mvT hZ (hw _ (List.mem_of_getElem? (i := 101) rfl)))) (mvT hZ (hw _ (List.mem_of_getElem? (i := 101) rfl))) (mvT hZ (hw _ (List.mem_of_getElem? (i := 100) rfl))) (by decide) (backOf (W := 0) (rm11 l Z a0 hw [] b703 b731 r1 v690 2 (own_put own_cv0 2 ((own_rad v693 ((fl.toUInt32 >>> ((2 : Int32) &&& 31).toUInt32).toInt32)) * own_cv0 3)) h794 n0 z795 hG792 (by decide) hname.2) hZ (hw _ (List.mem_of_getElem? (i := 102) rfl)) (hw _ (List.mem_of_getElem? (i := 4) rfl)) (by decide) (by decide)) q816a q816c (g := (mkF m 242 #[.val (.int r1), .val (.int n1), .val (.int ka), .val (.int kb), .val (.int kc), .val (.int fl), .val (.int (1 : Int32)), .val (.int v690), .val (.int v693), .val (.int v696), .val (.int v699), .val (.ref b703), .val (.ref b731), .val (.long (1 : Int64)), .second, .val (.long v798), .second, .val (.long v803), .second, .val (.long v808), .second, .val (.int (2 : Int32)), .val (.int (0 : Int32)), .unset, .unset] [(.int v690), (.int r1), (.ref b703)])) rfl (by rw [hml]; rfl) (Steps.refl _) (argsL := [(.int r1), (.int v690)]) (rest := []) (lenOf pd_9 rfl) rfl (by show 2 * 0 + _ ≤ _; exact Nat.le_of_eq rfl) (hb hby at_242) (fun _ _ => ⟨rfl, e807, (by decide : 28 + 0 ≤ _), (by decide : 56 + 0 ≤ _)⟩)
      dsimp only [Pt.U, Pt.locs, Pt.cells, Pt.slots] at X816 l816 y816 z816 st816 hQ816
      subst l816 y816 z816
      obtain ⟨rfl, N816q, e816⟩ := hQ816
      have N816 := Fr.app N807 N816q
      have S817 : ∀ t, Steps p.tables e below (T816.setTop (mkF m 255 #[.val (.int r1), .val (.int n1), .val (.int ka), .val (.int kb), .val (.int kc), .val (.int fl), .val (.int (1 : Int32)), .val (.int v690), .val (.int v693), .val (.int v696), .val (.int v699), .val (.ref b703), .val (.ref b731), .val (.long (1 : Int64)), .second, .val (.long v798), .second, .val (.long v803), .second, .val (.long v808), .second, .val (.int (2 : Int32)), .val (.int (0 : Int32)), .unset, .unset] [(.int (1 : Int32))])) t → Steps p.tables e below (T816.setTop (mkF m 245 #[.val (.int r1), .val (.int n1), .val (.int ka), .val (.int kb), .val (.int kc), .val (.int fl), .val (.int (1 : Int32)), .val (.int v690), .val (.int v693), .val (.int v696), .val (.int v699), .val (.ref b703), .val (.ref b731), .val (.long (1 : Int64)), .second, .val (.long v798), .second, .val (.long v803), .second, .val (.long v808), .second, .val (.int (2 : Int32)), .val (.int (0 : Int32)), .unset, .unset] [(.int (own_fits (own_put own_cv0 2 ((own_rad v693 ((fl.toUInt32 >>> ((2 : Int32) &&& 31).toUInt32).toInt32)) * own_cv0 3)) 2 r1 v690))])) t := by
        intro t kt
        show Steps p.tables e below (T816.setTop (mkF m 245 #[.val (.int r1), .val (.int n1), .val (.int ka), .val (.int kb), .val (.int kc), .val (.int fl), .val (.int (1 : Int32)), .val (.int v690), .val (.int v693), .val (.int v696), .val (.int v699), .val (.ref b703), .val (.ref b731), .val (.long (1 : Int64)), .second, .val (.long v798), .second, .val (.long v803), .second, .val (.long v808), .second, .val (.int (2 : Int32)), .val (.int (0 : Int32)), .unset, .unset] [(.int (own_fits (own_put own_cv0 2 ((own_rad v693 ((fl.toUInt32 >>> ((2 : Int32) &&& 31).toUInt32).toInt32)) * own_cv0 3)) 2 r1 v690))])) _
        refine XS.iload X816.here hx rfl (hb hby at_245) rfl ?_
        refine XS.icmpNo X816.here hx rfl (hb hby at_247) rfl (teq (own_lt (show v690 < Int32.ofNat 2 from hc814))).2 ?_
        refine XS.iconst X816.here hx rfl (hb hby at_250) ?_
        refine XS.goto X816.here hx rfl (pc0 := 251) (pc' := 255) rfl (hb hby at_251) (by decide) (by decide) ?_
        exact kt
      have C818 : ∀ t, Steps p.tables e below (T816.setTop (mkF m 255 #[.val (.int r1), .val (.int n1), .val (.int ka), .val (.int kb), .val (.int kc), .val (.int fl), .val (.int (1 : Int32)), .val (.int v690), .val (.int v693), .val (.int v696), .val (.int v699), .val (.ref b703), .val (.ref b731), .val (.long (1 : Int64)), .second, .val (.long v798), .second, .val (.long v803), .second, .val (.long v808), .second, .val (.int (2 : Int32)), .val (.int (0 : Int32)), .unset, .unset] [(.int (1 : Int32))])) t → Steps p.tables e below (s₁.setTop (mkF m 0 #[.val (.int r1), .val (.int n1), .val (.int ka), .val (.int kb), .val (.int kc), .val (.int fl), .unset, .unset, .unset, .unset, .unset, .unset, .unset, .unset, .unset, .unset, .unset, .unset, .unset, .unset, .unset, .unset, .unset, .unset, .unset] [])) t := (fun t k => (C734 t (S791 t (S793 t (st794 t (S796 t (st797 t (S799 t (S800 t (S801 t (st802 t (S804 t (S805 t (S806 t (st807 t (S809 t (S810 t (S811 t (S812 t (S813 t (S815 t (st816.trans (S817 t k)))))))))))))))))))))))
      obtain ⟨fs, hr, hrun, hended, hW, hsame⟩ := X816.leave (v := some (.int (1 : Int32))) (fun h => by rw [Bd.returns] at h; cases h)
      refine ⟨_, _, pre0 _ (C818 _ ?_), hrun, hended, _, _, rfl, ?_, ⟨_, rfl⟩, hW, hsame.mono (by decide) (by decide)⟩
      · exact retN X816 hx (t := .boolean) Bd.returns (by simp) (hb hby at_255) hr
      · show Q_rm0 Z r1 n1 ka kb kc fl h0 n0 _ T816.heap _
        rw [e816]
        exact ⟨rfl, N816⟩
    · have S819 : ∀ t, Steps p.tables e below (T807.setTop (mkF m 178 #[.val (.int r1), .val (.int n1), .val (.int ka), .val (.int kb), .val (.int kc), .val (.int fl), .val (.int (1 : Int32)), .val (.int v690), .val (.int v693), .val (.int v696), .val (.int v699), .val (.ref b703), .val (.ref b731), .val (.long (1 : Int64)), .second, .val (.long v798), .second, .val (.long v803), .second, .val (.long v808), .second, .val (.int (2 : Int32)), .unset, .unset, .unset] [(.int (3 : Int32)), (.int v690)])) t → Steps p.tables e below (T807.setTop (mkF m 166 #[.val (.int r1), .val (.int n1), .val (.int ka), .val (.int kb), .val (.int kc), .val (.int fl), .val (.int (1 : Int32)), .val (.int v690), .val (.int v693), .val (.int v696), .val (.int v699), .val (.ref b703), .val (.ref b731), .val (.long (1 : Int64)), .second, .val (.long v798), .second, .val (.long v803), .second, .val (.long v808), .second, .val (.int (2 : Int32)), .unset, .unset, .unset] [(.int (2 : Int32)), (.int v690)])) t := by
        intro t kt
        show Steps p.tables e below (T807.setTop (mkF m 166 #[.val (.int r1), .val (.int n1), .val (.int ka), .val (.int kb), .val (.int kc), .val (.int fl), .val (.int (1 : Int32)), .val (.int v690), .val (.int v693), .val (.int v696), .val (.int v699), .val (.ref b703), .val (.ref b731), .val (.long (1 : Int64)), .second, .val (.long v798), .second, .val (.long v803), .second, .val (.long v808), .second, .val (.int (2 : Int32)), .unset, .unset, .unset] [(.int (2 : Int32)), (.int v690)])) _
        refine XS.icmpYes X807.here hx rfl (pc0 := 166) (pc' := 175) rfl (hb hby at_166) rfl (flt hc814).2.1 (by decide) (by decide) ?_
        refine XS.iload X807.here hx rfl (hb hby at_175) rfl ?_
        refine XS.iconst X807.here hx rfl (hb hby at_177) ?_
        exact kt
      by_cases hc820 : v690 = (3 : Int32)
      · have S821 : ∀ t, Steps p.tables e below (T807.setTop (mkF m 227 #[.val (.int r1), .val (.int n1), .val (.int ka), .val (.int kb), .val (.int kc), .val (.int fl), .val (.int (1 : Int32)), .val (.int v690), .val (.int v693), .val (.int v696), .val (.int v699), .val (.ref b703), .val (.ref b731), .val (.long (1 : Int64)), .second, .val (.long v798), .second, .val (.long v803), .second, .val (.long v808), .second, .val (.int (2 : Int32)), .unset, .val (.long (1 : Int64)), .second] [(.int (lcmpW (1 : Int64) ((16 : Int64) * (r1.toInt64))))])) t → Steps p.tables e below (T807.setTop (mkF m 178 #[.val (.int r1), .val (.int n1), .val (.int ka), .val (.int kb), .val (.int kc), .val (.int fl), .val (.int (1 : Int32)), .val (.int v690), .val (.int v693), .val (.int v696), .val (.int v699), .val (.ref b703), .val (.ref b731), .val (.long (1 : Int64)), .second, .val (.long v798), .second, .val (.long v803), .second, .val (.long v808), .second, .val (.int (2 : Int32)), .unset, .unset, .unset] [(.int (3 : Int32)), (.int v690)])) t := by
          intro t kt
          show Steps p.tables e below (T807.setTop (mkF m 178 #[.val (.int r1), .val (.int n1), .val (.int ka), .val (.int kb), .val (.int kc), .val (.int fl), .val (.int (1 : Int32)), .val (.int v690), .val (.int v693), .val (.int v696), .val (.int v699), .val (.ref b703), .val (.ref b731), .val (.long (1 : Int64)), .second, .val (.long v798), .second, .val (.long v803), .second, .val (.long v808), .second, .val (.int (2 : Int32)), .unset, .unset, .unset] [(.int (3 : Int32)), (.int v690)])) _
          refine XS.icmpNo X807.here hx rfl (hb hby at_178) rfl (teq hc820).2 ?_
          refine XS.lload X807.here hx rfl (hb hby at_181) rfl ?_
          refine XS.lstore X807.here hx rfl (hb hby at_183) rfl (l' := #[.val (.int r1), .val (.int n1), .val (.int ka), .val (.int kb), .val (.int kc), .val (.int fl), .val (.int (1 : Int32)), .val (.int v690), .val (.int v693), .val (.int v696), .val (.int v699), .val (.ref b703), .val (.ref b731), .val (.long (1 : Int64)), .second, .val (.long v798), .second, .val (.long v803), .second, .val (.long v808), .second, .val (.int (2 : Int32)), .unset, .val (.long (1 : Int64)), .second]) rfl ?_
          refine XS.goto X807.here hx rfl (pc0 := 185) (pc' := 218) rfl (hb hby at_185) (by decide) (by decide) ?_
          refine XS.lload X807.here hx rfl (hb hby at_218) rfl ?_
          show Steps p.tables e below (T807.setTop (mkF m 220 #[.val (.int r1), .val (.int n1), .val (.int ka), .val (.int kb), .val (.int kc), .val (.int fl), .val (.int (1 : Int32)), .val (.int v690), .val (.int v693), .val (.int v696), .val (.int v699), .val (.ref b703), .val (.ref b731), .val (.long (1 : Int64)), .second, .val (.long v798), .second, .val (.long v803), .second, .val (.long v808), .second, .val (.int (2 : Int32)), .unset, .val (.long (1 : Int64)), .second] [(.long (1 : Int64))])) _
          refine X807.ldc2Long hx hown (mvT hZ (hw _ (List.mem_of_getElem? (i := 97) rfl))) (g := (mkF m 220 #[.val (.int r1), .val (.int n1), .val (.int ka), .val (.int kb), .val (.int kc), .val (.int fl), .val (.int (1 : Int32)), .val (.int v690), .val (.int v693), .val (.int v696), .val (.int v699), .val (.ref b703), .val (.ref b731), .val (.long (1 : Int64)), .second, .val (.long v798), .second, .val (.long v803), .second, .val (.long v808), .second, .val (.int (2 : Int32)), .unset, .val (.long (1 : Int64)), .second] [(.long (1 : Int64))])) rfl (hb hby at_220) _ ?_
          refine XS.iloadN X807.here hx rfl (hb hby at_223) rfl ?_
          refine XS.i2l X807.here hx rfl (hb hby at_224) rfl ?_
          refine XS.lmul X807.here hx rfl (hb hby at_225) rfl ?_
          refine XS.lcmp X807.here hx rfl (hb hby at_226) rfl ?_
          exact kt
        obtain ⟨v824, hv824⟩ : ∃ z : Int32, z = (if ((16 : Int64) * (r1.toInt64)) < (1 : Int64) then (0 : Int32) else (1 : Int32)) := ⟨_, rfl⟩
        have S823 : ∀ t, Steps p.tables e below (T807.setTop (mkF m 235 #[.val (.int r1), .val (.int n1), .val (.int ka), .val (.int kb), .val (.int kc), .val (.int fl), .val (.int (1 : Int32)), .val (.int v690), .val (.int v693), .val (.int v696), .val (.int v699), .val (.ref b703), .val (.ref b731), .val (.long (1 : Int64)), .second, .val (.long v798), .second, .val (.long v803), .second, .val (.long v808), .second, .val (.int (2 : Int32)), .unset, .val (.long (1 : Int64)), .second] [(.int v824)])) t → Steps p.tables e below (T807.setTop (mkF m 227 #[.val (.int r1), .val (.int n1), .val (.int ka), .val (.int kb), .val (.int kc), .val (.int fl), .val (.int (1 : Int32)), .val (.int v690), .val (.int v693), .val (.int v696), .val (.int v699), .val (.ref b703), .val (.ref b731), .val (.long (1 : Int64)), .second, .val (.long v798), .second, .val (.long v803), .second, .val (.long v808), .second, .val (.int (2 : Int32)), .unset, .val (.long (1 : Int64)), .second] [(.int (lcmpW (1 : Int64) ((16 : Int64) * (r1.toInt64))))])) t := by
          intro t kt
          subst hv824
          by_cases hc822 : ((16 : Int64) * (r1.toInt64)) < (1 : Int64)
          · simp only [if_pos hc822] at kt
            show Steps p.tables e below (T807.setTop (mkF m 227 #[.val (.int r1), .val (.int n1), .val (.int ka), .val (.int kb), .val (.int kc), .val (.int fl), .val (.int (1 : Int32)), .val (.int v690), .val (.int v693), .val (.int v696), .val (.int v699), .val (.ref b703), .val (.ref b731), .val (.long (1 : Int64)), .second, .val (.long v798), .second, .val (.long v803), .second, .val (.long v808), .second, .val (.int (2 : Int32)), .unset, .val (.long (1 : Int64)), .second] [(.int (lcmpW (1 : Int64) ((16 : Int64) * (r1.toInt64))))])) _
            refine XS.ifYes X807.here hx rfl (pc0 := 227) (pc' := 234) rfl (hb hby at_227) rfl ((if0 _ _).trans (tlt ((lw_gt (1 : Int64) ((16 : Int64) * (r1.toInt64))).mpr hc822)).2.2.1) (by decide) (by decide) ?_
            refine XS.iconst X807.here hx rfl (hb hby at_234) ?_
            exact kt
          · simp only [if_neg hc822] at kt
            show Steps p.tables e below (T807.setTop (mkF m 227 #[.val (.int r1), .val (.int n1), .val (.int ka), .val (.int kb), .val (.int kc), .val (.int fl), .val (.int (1 : Int32)), .val (.int v690), .val (.int v693), .val (.int v696), .val (.int v699), .val (.ref b703), .val (.ref b731), .val (.long (1 : Int64)), .second, .val (.long v798), .second, .val (.long v803), .second, .val (.long v808), .second, .val (.int (2 : Int32)), .unset, .val (.long (1 : Int64)), .second] [(.int (lcmpW (1 : Int64) ((16 : Int64) * (r1.toInt64))))])) _
            refine XS.ifNo X807.here hx rfl (hb hby at_227) rfl ((if0 _ _).trans (flt (fun q => hc822 ((lw_gt (1 : Int64) ((16 : Int64) * (r1.toInt64))).mp q))).2.2.1) ?_
            refine XS.iconst X807.here hx rfl (hb hby at_230) ?_
            refine XS.goto X807.here hx rfl (pc0 := 231) (pc' := 235) rfl (hb hby at_231) (by decide) (by decide) ?_
            exact kt
        have hEx := own_KG_exa hG792
        have S825 : ∀ t, Steps p.tables e below (T807.setTop (mkF m 242 #[.val (.int r1), .val (.int n1), .val (.int ka), .val (.int kb), .val (.int kc), .val (.int fl), .val (.int (1 : Int32)), .val (.int v690), .val (.int v693), .val (.int v696), .val (.int v699), .val (.ref b703), .val (.ref b731), .val (.long (1 : Int64)), .second, .val (.long v798), .second, .val (.long v803), .second, .val (.long v808), .second, .val (.int (2 : Int32)), .val (.int v824), .val (.long (1 : Int64)), .second] [(.int v690), (.int r1), (.ref b703)])) t → Steps p.tables e below (T807.setTop (mkF m 235 #[.val (.int r1), .val (.int n1), .val (.int ka), .val (.int kb), .val (.int kc), .val (.int fl), .val (.int (1 : Int32)), .val (.int v690), .val (.int v693), .val (.int v696), .val (.int v699), .val (.ref b703), .val (.ref b731), .val (.long (1 : Int64)), .second, .val (.long v798), .second, .val (.long v803), .second, .val (.long v808), .second, .val (.int (2 : Int32)), .unset, .val (.long (1 : Int64)), .second] [(.int v824)])) t := by
          intro t kt
          show Steps p.tables e below (T807.setTop (mkF m 235 #[.val (.int r1), .val (.int n1), .val (.int ka), .val (.int kb), .val (.int kc), .val (.int fl), .val (.int (1 : Int32)), .val (.int v690), .val (.int v693), .val (.int v696), .val (.int v699), .val (.ref b703), .val (.ref b731), .val (.long (1 : Int64)), .second, .val (.long v798), .second, .val (.long v803), .second, .val (.long v808), .second, .val (.int (2 : Int32)), .unset, .val (.long (1 : Int64)), .second] [(.int v824)])) _
          refine XS.istore X807.here hx rfl (hb hby at_235) rfl (l' := #[.val (.int r1), .val (.int n1), .val (.int ka), .val (.int kb), .val (.int kc), .val (.int fl), .val (.int (1 : Int32)), .val (.int v690), .val (.int v693), .val (.int v696), .val (.int v699), .val (.ref b703), .val (.ref b731), .val (.long (1 : Int64)), .second, .val (.long v798), .second, .val (.long v803), .second, .val (.long v808), .second, .val (.int (2 : Int32)), .val (.int v824), .val (.long (1 : Int64)), .second]) rfl ?_
          refine XS.aload X807.here hx rfl (hb hby at_237) rfl rfl ?_
          refine XS.iloadN X807.here hx rfl (hb hby at_239) rfl ?_
          refine XS.iload X807.here hx rfl (hb hby at_240) rfl ?_
          exact kt
        obtain ⟨cq826, kq826, q826a, q826b, q826c⟩ := isOf hZ e807 hEx
        obtain ⟨_, _, ⟨T826, L826, k826, n826⟩, -, X826, ⟨Lc826, hQ826, l826, y826, z826⟩, st826⟩ := X807.virtualBack hx (y := (⟨"com/example/joinery/joinery/KeyGrid", "fits", "(II)Z"⟩ : MethodName)) (z := (⟨"com/example/joinery/joinery/KeyGrid", "fits", "(II)Z"⟩ : MethodName)) hown (mvT hZ (hw _ (List.mem_of_getElem? (i := 98) rfl))) (mvT hZ (hw _ (List.mem_of_getElem? (i := 99) rfl))) (notFace_of_selects (args := #[]) (mvT hZ (hw _ (List.mem_of_getElem? (i := 101) rfl)))) (mvT hZ (hw _ (List.mem_of_getElem? (i := 101) rfl))) (mvT hZ (hw _ (List.mem_of_getElem? (i := 100) rfl))) (by decide) (backOf (W := 0) (rm11 l Z a0 hw [] b703 b731 r1 v690 2 (own_put own_cv0 2 ((own_rad v693 ((fl.toUInt32 >>> ((2 : Int32) &&& 31).toUInt32).toInt32)) * own_cv0 3)) h794 n0 z795 hG792 (by decide) hname.2) hZ (hw _ (List.mem_of_getElem? (i := 102) rfl)) (hw _ (List.mem_of_getElem? (i := 4) rfl)) (by decide) (by decide)) q826a q826c (g := (mkF m 242 #[.val (.int r1), .val (.int n1), .val (.int ka), .val (.int kb), .val (.int kc), .val (.int fl), .val (.int (1 : Int32)), .val (.int v690), .val (.int v693), .val (.int v696), .val (.int v699), .val (.ref b703), .val (.ref b731), .val (.long (1 : Int64)), .second, .val (.long v798), .second, .val (.long v803), .second, .val (.long v808), .second, .val (.int (2 : Int32)), .val (.int v824), .val (.long (1 : Int64)), .second] [(.int v690), (.int r1), (.ref b703)])) rfl (by rw [hml]; rfl) (Steps.refl _) (argsL := [(.int r1), (.int v690)]) (rest := []) (lenOf pd_9 rfl) rfl (by show 2 * 0 + _ ≤ _; exact Nat.le_of_eq rfl) (hb hby at_242) (fun _ _ => ⟨rfl, e807, (by decide : 28 + 0 ≤ _), (by decide : 56 + 0 ≤ _)⟩)
        dsimp only [Pt.U, Pt.locs, Pt.cells, Pt.slots] at X826 l826 y826 z826 st826 hQ826
        subst l826 y826 z826
        obtain ⟨rfl, N826q, e826⟩ := hQ826
        have N826 := Fr.app N807 N826q
        have S827 : ∀ t, Steps p.tables e below (T826.setTop (mkF m 255 #[.val (.int r1), .val (.int n1), .val (.int ka), .val (.int kb), .val (.int kc), .val (.int fl), .val (.int (1 : Int32)), .val (.int v690), .val (.int v693), .val (.int v696), .val (.int v699), .val (.ref b703), .val (.ref b731), .val (.long (1 : Int64)), .second, .val (.long v798), .second, .val (.long v803), .second, .val (.long v808), .second, .val (.int (2 : Int32)), .val (.int v824), .val (.long (1 : Int64)), .second] [(.int (1 : Int32))])) t → Steps p.tables e below (T826.setTop (mkF m 245 #[.val (.int r1), .val (.int n1), .val (.int ka), .val (.int kb), .val (.int kc), .val (.int fl), .val (.int (1 : Int32)), .val (.int v690), .val (.int v693), .val (.int v696), .val (.int v699), .val (.ref b703), .val (.ref b731), .val (.long (1 : Int64)), .second, .val (.long v798), .second, .val (.long v803), .second, .val (.long v808), .second, .val (.int (2 : Int32)), .val (.int v824), .val (.long (1 : Int64)), .second] [(.int (own_fits (own_put own_cv0 2 ((own_rad v693 ((fl.toUInt32 >>> ((2 : Int32) &&& 31).toUInt32).toInt32)) * own_cv0 3)) 2 r1 v690))])) t := by
          intro t kt
          show Steps p.tables e below (T826.setTop (mkF m 245 #[.val (.int r1), .val (.int n1), .val (.int ka), .val (.int kb), .val (.int kc), .val (.int fl), .val (.int (1 : Int32)), .val (.int v690), .val (.int v693), .val (.int v696), .val (.int v699), .val (.ref b703), .val (.ref b731), .val (.long (1 : Int64)), .second, .val (.long v798), .second, .val (.long v803), .second, .val (.long v808), .second, .val (.int (2 : Int32)), .val (.int v824), .val (.long (1 : Int64)), .second] [(.int (own_fits (own_put own_cv0 2 ((own_rad v693 ((fl.toUInt32 >>> ((2 : Int32) &&& 31).toUInt32).toInt32)) * own_cv0 3)) 2 r1 v690))])) _
          refine XS.iload X826.here hx rfl (hb hby at_245) rfl ?_
          refine XS.icmpNo X826.here hx rfl (hb hby at_247) rfl (teq (own_ge (k := 2) hc814 (show (own_put own_cv0 2 ((own_rad v693 ((fl.toUInt32 >>> ((2 : Int32) &&& 31).toUInt32).toInt32)) * own_cv0 3)) v690.toInt.toNat = (1 : Int64) from by rw [show v690 = (3 : Int32) from hc820]; rfl) hv824)).2 ?_
          refine XS.iconst X826.here hx rfl (hb hby at_250) ?_
          refine XS.goto X826.here hx rfl (pc0 := 251) (pc' := 255) rfl (hb hby at_251) (by decide) (by decide) ?_
          exact kt
        have C828 : ∀ t, Steps p.tables e below (T826.setTop (mkF m 255 #[.val (.int r1), .val (.int n1), .val (.int ka), .val (.int kb), .val (.int kc), .val (.int fl), .val (.int (1 : Int32)), .val (.int v690), .val (.int v693), .val (.int v696), .val (.int v699), .val (.ref b703), .val (.ref b731), .val (.long (1 : Int64)), .second, .val (.long v798), .second, .val (.long v803), .second, .val (.long v808), .second, .val (.int (2 : Int32)), .val (.int v824), .val (.long (1 : Int64)), .second] [(.int (1 : Int32))])) t → Steps p.tables e below (s₁.setTop (mkF m 0 #[.val (.int r1), .val (.int n1), .val (.int ka), .val (.int kb), .val (.int kc), .val (.int fl), .unset, .unset, .unset, .unset, .unset, .unset, .unset, .unset, .unset, .unset, .unset, .unset, .unset, .unset, .unset, .unset, .unset, .unset, .unset] [])) t := (fun t k => (C734 t (S791 t (S793 t (st794 t (S796 t (st797 t (S799 t (S800 t (S801 t (st802 t (S804 t (S805 t (S806 t (st807 t (S809 t (S810 t (S811 t (S812 t (S813 t (S819 t (S821 t (S823 t (S825 t (st826.trans (S827 t k))))))))))))))))))))))))))
        obtain ⟨fs, hr, hrun, hended, hW, hsame⟩ := X826.leave (v := some (.int (1 : Int32))) (fun h => by rw [Bd.returns] at h; cases h)
        refine ⟨_, _, pre0 _ (C828 _ ?_), hrun, hended, _, _, rfl, ?_, ⟨_, rfl⟩, hW, hsame.mono (by decide) (by decide)⟩
        · exact retN X826 hx (t := .boolean) Bd.returns (by simp) (hb hby at_255) hr
        · show Q_rm0 Z r1 n1 ka kb kc fl h0 n0 _ T826.heap _
          rw [e826]
          exact ⟨rfl, N826⟩
      · have S829 : ∀ t, Steps p.tables e below (T807.setTop (mkF m 191 #[.val (.int r1), .val (.int n1), .val (.int ka), .val (.int kb), .val (.int kc), .val (.int fl), .val (.int (1 : Int32)), .val (.int v690), .val (.int v693), .val (.int v696), .val (.int v699), .val (.ref b703), .val (.ref b731), .val (.long (1 : Int64)), .second, .val (.long v798), .second, .val (.long v803), .second, .val (.long v808), .second, .val (.int (2 : Int32)), .unset, .unset, .unset] [(.int (2 : Int32)), (.int v690)])) t → Steps p.tables e below (T807.setTop (mkF m 178 #[.val (.int r1), .val (.int n1), .val (.int ka), .val (.int kb), .val (.int kc), .val (.int fl), .val (.int (1 : Int32)), .val (.int v690), .val (.int v693), .val (.int v696), .val (.int v699), .val (.ref b703), .val (.ref b731), .val (.long (1 : Int64)), .second, .val (.long v798), .second, .val (.long v803), .second, .val (.long v808), .second, .val (.int (2 : Int32)), .unset, .unset, .unset] [(.int (3 : Int32)), (.int v690)])) t := by
          intro t kt
          show Steps p.tables e below (T807.setTop (mkF m 178 #[.val (.int r1), .val (.int n1), .val (.int ka), .val (.int kb), .val (.int kc), .val (.int fl), .val (.int (1 : Int32)), .val (.int v690), .val (.int v693), .val (.int v696), .val (.int v699), .val (.ref b703), .val (.ref b731), .val (.long (1 : Int64)), .second, .val (.long v798), .second, .val (.long v803), .second, .val (.long v808), .second, .val (.int (2 : Int32)), .unset, .unset, .unset] [(.int (3 : Int32)), (.int v690)])) _
          refine XS.icmpYes X807.here hx rfl (pc0 := 178) (pc' := 188) rfl (hb hby at_178) rfl (feq hc820).2 (by decide) (by decide) ?_
          refine XS.iload X807.here hx rfl (hb hby at_188) rfl ?_
          refine XS.iconst X807.here hx rfl (hb hby at_190) ?_
          exact kt
        by_cases hc830 : v690 = (2 : Int32)
        · have S831 : ∀ t, Steps p.tables e below (T807.setTop (mkF m 227 #[.val (.int r1), .val (.int n1), .val (.int ka), .val (.int kb), .val (.int kc), .val (.int fl), .val (.int (1 : Int32)), .val (.int v690), .val (.int v693), .val (.int v696), .val (.int v699), .val (.ref b703), .val (.ref b731), .val (.long (1 : Int64)), .second, .val (.long v798), .second, .val (.long v803), .second, .val (.long v808), .second, .val (.int (2 : Int32)), .unset, .val (.long v798), .second] [(.int (lcmpW v798 ((16 : Int64) * (r1.toInt64))))])) t → Steps p.tables e below (T807.setTop (mkF m 191 #[.val (.int r1), .val (.int n1), .val (.int ka), .val (.int kb), .val (.int kc), .val (.int fl), .val (.int (1 : Int32)), .val (.int v690), .val (.int v693), .val (.int v696), .val (.int v699), .val (.ref b703), .val (.ref b731), .val (.long (1 : Int64)), .second, .val (.long v798), .second, .val (.long v803), .second, .val (.long v808), .second, .val (.int (2 : Int32)), .unset, .unset, .unset] [(.int (2 : Int32)), (.int v690)])) t := by
            intro t kt
            show Steps p.tables e below (T807.setTop (mkF m 191 #[.val (.int r1), .val (.int n1), .val (.int ka), .val (.int kb), .val (.int kc), .val (.int fl), .val (.int (1 : Int32)), .val (.int v690), .val (.int v693), .val (.int v696), .val (.int v699), .val (.ref b703), .val (.ref b731), .val (.long (1 : Int64)), .second, .val (.long v798), .second, .val (.long v803), .second, .val (.long v808), .second, .val (.int (2 : Int32)), .unset, .unset, .unset] [(.int (2 : Int32)), (.int v690)])) _
            refine XS.icmpNo X807.here hx rfl (hb hby at_191) rfl (teq hc830).2 ?_
            refine XS.lload X807.here hx rfl (hb hby at_194) rfl ?_
            refine XS.lstore X807.here hx rfl (hb hby at_196) rfl (l' := #[.val (.int r1), .val (.int n1), .val (.int ka), .val (.int kb), .val (.int kc), .val (.int fl), .val (.int (1 : Int32)), .val (.int v690), .val (.int v693), .val (.int v696), .val (.int v699), .val (.ref b703), .val (.ref b731), .val (.long (1 : Int64)), .second, .val (.long v798), .second, .val (.long v803), .second, .val (.long v808), .second, .val (.int (2 : Int32)), .unset, .val (.long v798), .second]) rfl ?_
            refine XS.goto X807.here hx rfl (pc0 := 198) (pc' := 218) rfl (hb hby at_198) (by decide) (by decide) ?_
            refine XS.lload X807.here hx rfl (hb hby at_218) rfl ?_
            show Steps p.tables e below (T807.setTop (mkF m 220 #[.val (.int r1), .val (.int n1), .val (.int ka), .val (.int kb), .val (.int kc), .val (.int fl), .val (.int (1 : Int32)), .val (.int v690), .val (.int v693), .val (.int v696), .val (.int v699), .val (.ref b703), .val (.ref b731), .val (.long (1 : Int64)), .second, .val (.long v798), .second, .val (.long v803), .second, .val (.long v808), .second, .val (.int (2 : Int32)), .unset, .val (.long v798), .second] [(.long v798)])) _
            refine X807.ldc2Long hx hown (mvT hZ (hw _ (List.mem_of_getElem? (i := 97) rfl))) (g := (mkF m 220 #[.val (.int r1), .val (.int n1), .val (.int ka), .val (.int kb), .val (.int kc), .val (.int fl), .val (.int (1 : Int32)), .val (.int v690), .val (.int v693), .val (.int v696), .val (.int v699), .val (.ref b703), .val (.ref b731), .val (.long (1 : Int64)), .second, .val (.long v798), .second, .val (.long v803), .second, .val (.long v808), .second, .val (.int (2 : Int32)), .unset, .val (.long v798), .second] [(.long v798)])) rfl (hb hby at_220) _ ?_
            refine XS.iloadN X807.here hx rfl (hb hby at_223) rfl ?_
            refine XS.i2l X807.here hx rfl (hb hby at_224) rfl ?_
            refine XS.lmul X807.here hx rfl (hb hby at_225) rfl ?_
            refine XS.lcmp X807.here hx rfl (hb hby at_226) rfl ?_
            exact kt
          obtain ⟨v834, hv834⟩ : ∃ z : Int32, z = (if ((16 : Int64) * (r1.toInt64)) < v798 then (0 : Int32) else (1 : Int32)) := ⟨_, rfl⟩
          have S833 : ∀ t, Steps p.tables e below (T807.setTop (mkF m 235 #[.val (.int r1), .val (.int n1), .val (.int ka), .val (.int kb), .val (.int kc), .val (.int fl), .val (.int (1 : Int32)), .val (.int v690), .val (.int v693), .val (.int v696), .val (.int v699), .val (.ref b703), .val (.ref b731), .val (.long (1 : Int64)), .second, .val (.long v798), .second, .val (.long v803), .second, .val (.long v808), .second, .val (.int (2 : Int32)), .unset, .val (.long v798), .second] [(.int v834)])) t → Steps p.tables e below (T807.setTop (mkF m 227 #[.val (.int r1), .val (.int n1), .val (.int ka), .val (.int kb), .val (.int kc), .val (.int fl), .val (.int (1 : Int32)), .val (.int v690), .val (.int v693), .val (.int v696), .val (.int v699), .val (.ref b703), .val (.ref b731), .val (.long (1 : Int64)), .second, .val (.long v798), .second, .val (.long v803), .second, .val (.long v808), .second, .val (.int (2 : Int32)), .unset, .val (.long v798), .second] [(.int (lcmpW v798 ((16 : Int64) * (r1.toInt64))))])) t := by
            intro t kt
            subst hv834
            by_cases hc832 : ((16 : Int64) * (r1.toInt64)) < v798
            · simp only [if_pos hc832] at kt
              show Steps p.tables e below (T807.setTop (mkF m 227 #[.val (.int r1), .val (.int n1), .val (.int ka), .val (.int kb), .val (.int kc), .val (.int fl), .val (.int (1 : Int32)), .val (.int v690), .val (.int v693), .val (.int v696), .val (.int v699), .val (.ref b703), .val (.ref b731), .val (.long (1 : Int64)), .second, .val (.long v798), .second, .val (.long v803), .second, .val (.long v808), .second, .val (.int (2 : Int32)), .unset, .val (.long v798), .second] [(.int (lcmpW v798 ((16 : Int64) * (r1.toInt64))))])) _
              refine XS.ifYes X807.here hx rfl (pc0 := 227) (pc' := 234) rfl (hb hby at_227) rfl ((if0 _ _).trans (tlt ((lw_gt v798 ((16 : Int64) * (r1.toInt64))).mpr hc832)).2.2.1) (by decide) (by decide) ?_
              refine XS.iconst X807.here hx rfl (hb hby at_234) ?_
              exact kt
            · simp only [if_neg hc832] at kt
              show Steps p.tables e below (T807.setTop (mkF m 227 #[.val (.int r1), .val (.int n1), .val (.int ka), .val (.int kb), .val (.int kc), .val (.int fl), .val (.int (1 : Int32)), .val (.int v690), .val (.int v693), .val (.int v696), .val (.int v699), .val (.ref b703), .val (.ref b731), .val (.long (1 : Int64)), .second, .val (.long v798), .second, .val (.long v803), .second, .val (.long v808), .second, .val (.int (2 : Int32)), .unset, .val (.long v798), .second] [(.int (lcmpW v798 ((16 : Int64) * (r1.toInt64))))])) _
              refine XS.ifNo X807.here hx rfl (hb hby at_227) rfl ((if0 _ _).trans (flt (fun q => hc832 ((lw_gt v798 ((16 : Int64) * (r1.toInt64))).mp q))).2.2.1) ?_
              refine XS.iconst X807.here hx rfl (hb hby at_230) ?_
              refine XS.goto X807.here hx rfl (pc0 := 231) (pc' := 235) rfl (hb hby at_231) (by decide) (by decide) ?_
              exact kt
          have hEx := own_KG_exa hG792
          have S835 : ∀ t, Steps p.tables e below (T807.setTop (mkF m 242 #[.val (.int r1), .val (.int n1), .val (.int ka), .val (.int kb), .val (.int kc), .val (.int fl), .val (.int (1 : Int32)), .val (.int v690), .val (.int v693), .val (.int v696), .val (.int v699), .val (.ref b703), .val (.ref b731), .val (.long (1 : Int64)), .second, .val (.long v798), .second, .val (.long v803), .second, .val (.long v808), .second, .val (.int (2 : Int32)), .val (.int v834), .val (.long v798), .second] [(.int v690), (.int r1), (.ref b703)])) t → Steps p.tables e below (T807.setTop (mkF m 235 #[.val (.int r1), .val (.int n1), .val (.int ka), .val (.int kb), .val (.int kc), .val (.int fl), .val (.int (1 : Int32)), .val (.int v690), .val (.int v693), .val (.int v696), .val (.int v699), .val (.ref b703), .val (.ref b731), .val (.long (1 : Int64)), .second, .val (.long v798), .second, .val (.long v803), .second, .val (.long v808), .second, .val (.int (2 : Int32)), .unset, .val (.long v798), .second] [(.int v834)])) t := by
            intro t kt
            show Steps p.tables e below (T807.setTop (mkF m 235 #[.val (.int r1), .val (.int n1), .val (.int ka), .val (.int kb), .val (.int kc), .val (.int fl), .val (.int (1 : Int32)), .val (.int v690), .val (.int v693), .val (.int v696), .val (.int v699), .val (.ref b703), .val (.ref b731), .val (.long (1 : Int64)), .second, .val (.long v798), .second, .val (.long v803), .second, .val (.long v808), .second, .val (.int (2 : Int32)), .unset, .val (.long v798), .second] [(.int v834)])) _
            refine XS.istore X807.here hx rfl (hb hby at_235) rfl (l' := #[.val (.int r1), .val (.int n1), .val (.int ka), .val (.int kb), .val (.int kc), .val (.int fl), .val (.int (1 : Int32)), .val (.int v690), .val (.int v693), .val (.int v696), .val (.int v699), .val (.ref b703), .val (.ref b731), .val (.long (1 : Int64)), .second, .val (.long v798), .second, .val (.long v803), .second, .val (.long v808), .second, .val (.int (2 : Int32)), .val (.int v834), .val (.long v798), .second]) rfl ?_
            refine XS.aload X807.here hx rfl (hb hby at_237) rfl rfl ?_
            refine XS.iloadN X807.here hx rfl (hb hby at_239) rfl ?_
            refine XS.iload X807.here hx rfl (hb hby at_240) rfl ?_
            exact kt
          obtain ⟨cq836, kq836, q836a, q836b, q836c⟩ := isOf hZ e807 hEx
          obtain ⟨_, _, ⟨T836, L836, k836, n836⟩, -, X836, ⟨Lc836, hQ836, l836, y836, z836⟩, st836⟩ := X807.virtualBack hx (y := (⟨"com/example/joinery/joinery/KeyGrid", "fits", "(II)Z"⟩ : MethodName)) (z := (⟨"com/example/joinery/joinery/KeyGrid", "fits", "(II)Z"⟩ : MethodName)) hown (mvT hZ (hw _ (List.mem_of_getElem? (i := 98) rfl))) (mvT hZ (hw _ (List.mem_of_getElem? (i := 99) rfl))) (notFace_of_selects (args := #[]) (mvT hZ (hw _ (List.mem_of_getElem? (i := 101) rfl)))) (mvT hZ (hw _ (List.mem_of_getElem? (i := 101) rfl))) (mvT hZ (hw _ (List.mem_of_getElem? (i := 100) rfl))) (by decide) (backOf (W := 0) (rm11 l Z a0 hw [] b703 b731 r1 v690 2 (own_put own_cv0 2 ((own_rad v693 ((fl.toUInt32 >>> ((2 : Int32) &&& 31).toUInt32).toInt32)) * own_cv0 3)) h794 n0 z795 hG792 (by decide) hname.2) hZ (hw _ (List.mem_of_getElem? (i := 102) rfl)) (hw _ (List.mem_of_getElem? (i := 4) rfl)) (by decide) (by decide)) q836a q836c (g := (mkF m 242 #[.val (.int r1), .val (.int n1), .val (.int ka), .val (.int kb), .val (.int kc), .val (.int fl), .val (.int (1 : Int32)), .val (.int v690), .val (.int v693), .val (.int v696), .val (.int v699), .val (.ref b703), .val (.ref b731), .val (.long (1 : Int64)), .second, .val (.long v798), .second, .val (.long v803), .second, .val (.long v808), .second, .val (.int (2 : Int32)), .val (.int v834), .val (.long v798), .second] [(.int v690), (.int r1), (.ref b703)])) rfl (by rw [hml]; rfl) (Steps.refl _) (argsL := [(.int r1), (.int v690)]) (rest := []) (lenOf pd_9 rfl) rfl (by show 2 * 0 + _ ≤ _; exact Nat.le_of_eq rfl) (hb hby at_242) (fun _ _ => ⟨rfl, e807, (by decide : 28 + 0 ≤ _), (by decide : 56 + 0 ≤ _)⟩)
          dsimp only [Pt.U, Pt.locs, Pt.cells, Pt.slots] at X836 l836 y836 z836 st836 hQ836
          subst l836 y836 z836
          obtain ⟨rfl, N836q, e836⟩ := hQ836
          have N836 := Fr.app N807 N836q
          have S837 : ∀ t, Steps p.tables e below (T836.setTop (mkF m 255 #[.val (.int r1), .val (.int n1), .val (.int ka), .val (.int kb), .val (.int kc), .val (.int fl), .val (.int (1 : Int32)), .val (.int v690), .val (.int v693), .val (.int v696), .val (.int v699), .val (.ref b703), .val (.ref b731), .val (.long (1 : Int64)), .second, .val (.long v798), .second, .val (.long v803), .second, .val (.long v808), .second, .val (.int (2 : Int32)), .val (.int v834), .val (.long v798), .second] [(.int (1 : Int32))])) t → Steps p.tables e below (T836.setTop (mkF m 245 #[.val (.int r1), .val (.int n1), .val (.int ka), .val (.int kb), .val (.int kc), .val (.int fl), .val (.int (1 : Int32)), .val (.int v690), .val (.int v693), .val (.int v696), .val (.int v699), .val (.ref b703), .val (.ref b731), .val (.long (1 : Int64)), .second, .val (.long v798), .second, .val (.long v803), .second, .val (.long v808), .second, .val (.int (2 : Int32)), .val (.int v834), .val (.long v798), .second] [(.int (own_fits (own_put own_cv0 2 ((own_rad v693 ((fl.toUInt32 >>> ((2 : Int32) &&& 31).toUInt32).toInt32)) * own_cv0 3)) 2 r1 v690))])) t := by
            intro t kt
            show Steps p.tables e below (T836.setTop (mkF m 245 #[.val (.int r1), .val (.int n1), .val (.int ka), .val (.int kb), .val (.int kc), .val (.int fl), .val (.int (1 : Int32)), .val (.int v690), .val (.int v693), .val (.int v696), .val (.int v699), .val (.ref b703), .val (.ref b731), .val (.long (1 : Int64)), .second, .val (.long v798), .second, .val (.long v803), .second, .val (.long v808), .second, .val (.int (2 : Int32)), .val (.int v834), .val (.long v798), .second] [(.int (own_fits (own_put own_cv0 2 ((own_rad v693 ((fl.toUInt32 >>> ((2 : Int32) &&& 31).toUInt32).toInt32)) * own_cv0 3)) 2 r1 v690))])) _
            refine XS.iload X836.here hx rfl (hb hby at_245) rfl ?_
            refine XS.icmpNo X836.here hx rfl (hb hby at_247) rfl (teq (own_ge (k := 2) hc814 (show (own_put own_cv0 2 ((own_rad v693 ((fl.toUInt32 >>> ((2 : Int32) &&& 31).toUInt32).toInt32)) * own_cv0 3)) v690.toInt.toNat = v798 from by rw [show v690 = (2 : Int32) from hc830, hv798]; rfl) hv834)).2 ?_
            refine XS.iconst X836.here hx rfl (hb hby at_250) ?_
            refine XS.goto X836.here hx rfl (pc0 := 251) (pc' := 255) rfl (hb hby at_251) (by decide) (by decide) ?_
            exact kt
          have C838 : ∀ t, Steps p.tables e below (T836.setTop (mkF m 255 #[.val (.int r1), .val (.int n1), .val (.int ka), .val (.int kb), .val (.int kc), .val (.int fl), .val (.int (1 : Int32)), .val (.int v690), .val (.int v693), .val (.int v696), .val (.int v699), .val (.ref b703), .val (.ref b731), .val (.long (1 : Int64)), .second, .val (.long v798), .second, .val (.long v803), .second, .val (.long v808), .second, .val (.int (2 : Int32)), .val (.int v834), .val (.long v798), .second] [(.int (1 : Int32))])) t → Steps p.tables e below (s₁.setTop (mkF m 0 #[.val (.int r1), .val (.int n1), .val (.int ka), .val (.int kb), .val (.int kc), .val (.int fl), .unset, .unset, .unset, .unset, .unset, .unset, .unset, .unset, .unset, .unset, .unset, .unset, .unset, .unset, .unset, .unset, .unset, .unset, .unset] [])) t := (fun t k => (C734 t (S791 t (S793 t (st794 t (S796 t (st797 t (S799 t (S800 t (S801 t (st802 t (S804 t (S805 t (S806 t (st807 t (S809 t (S810 t (S811 t (S812 t (S813 t (S819 t (S829 t (S831 t (S833 t (S835 t (st836.trans (S837 t k)))))))))))))))))))))))))))
          obtain ⟨fs, hr, hrun, hended, hW, hsame⟩ := X836.leave (v := some (.int (1 : Int32))) (fun h => by rw [Bd.returns] at h; cases h)
          refine ⟨_, _, pre0 _ (C838 _ ?_), hrun, hended, _, _, rfl, ?_, ⟨_, rfl⟩, hW, hsame.mono (by decide) (by decide)⟩
          · exact retN X836 hx (t := .boolean) Bd.returns (by simp) (hb hby at_255) hr
          · show Q_rm0 Z r1 n1 ka kb kc fl h0 n0 _ T836.heap _
            rw [e836]
            exact ⟨rfl, N836⟩
        · have S839 : ∀ t, Steps p.tables e below (T807.setTop (mkF m 204 #[.val (.int r1), .val (.int n1), .val (.int ka), .val (.int kb), .val (.int kc), .val (.int fl), .val (.int (1 : Int32)), .val (.int v690), .val (.int v693), .val (.int v696), .val (.int v699), .val (.ref b703), .val (.ref b731), .val (.long (1 : Int64)), .second, .val (.long v798), .second, .val (.long v803), .second, .val (.long v808), .second, .val (.int (2 : Int32)), .unset, .unset, .unset] [(.int (1 : Int32)), (.int v690)])) t → Steps p.tables e below (T807.setTop (mkF m 191 #[.val (.int r1), .val (.int n1), .val (.int ka), .val (.int kb), .val (.int kc), .val (.int fl), .val (.int (1 : Int32)), .val (.int v690), .val (.int v693), .val (.int v696), .val (.int v699), .val (.ref b703), .val (.ref b731), .val (.long (1 : Int64)), .second, .val (.long v798), .second, .val (.long v803), .second, .val (.long v808), .second, .val (.int (2 : Int32)), .unset, .unset, .unset] [(.int (2 : Int32)), (.int v690)])) t := by
            intro t kt
            show Steps p.tables e below (T807.setTop (mkF m 191 #[.val (.int r1), .val (.int n1), .val (.int ka), .val (.int kb), .val (.int kc), .val (.int fl), .val (.int (1 : Int32)), .val (.int v690), .val (.int v693), .val (.int v696), .val (.int v699), .val (.ref b703), .val (.ref b731), .val (.long (1 : Int64)), .second, .val (.long v798), .second, .val (.long v803), .second, .val (.long v808), .second, .val (.int (2 : Int32)), .unset, .unset, .unset] [(.int (2 : Int32)), (.int v690)])) _
            refine XS.icmpYes X807.here hx rfl (pc0 := 191) (pc' := 201) rfl (hb hby at_191) rfl (feq hc830).2 (by decide) (by decide) ?_
            refine XS.iload X807.here hx rfl (hb hby at_201) rfl ?_
            refine XS.iconst X807.here hx rfl (hb hby at_203) ?_
            exact kt
          by_cases hc840 : v690 = (1 : Int32)
          · have S841 : ∀ t, Steps p.tables e below (T807.setTop (mkF m 227 #[.val (.int r1), .val (.int n1), .val (.int ka), .val (.int kb), .val (.int kc), .val (.int fl), .val (.int (1 : Int32)), .val (.int v690), .val (.int v693), .val (.int v696), .val (.int v699), .val (.ref b703), .val (.ref b731), .val (.long (1 : Int64)), .second, .val (.long v798), .second, .val (.long v803), .second, .val (.long v808), .second, .val (.int (2 : Int32)), .unset, .val (.long v803), .second] [(.int (lcmpW v803 ((16 : Int64) * (r1.toInt64))))])) t → Steps p.tables e below (T807.setTop (mkF m 204 #[.val (.int r1), .val (.int n1), .val (.int ka), .val (.int kb), .val (.int kc), .val (.int fl), .val (.int (1 : Int32)), .val (.int v690), .val (.int v693), .val (.int v696), .val (.int v699), .val (.ref b703), .val (.ref b731), .val (.long (1 : Int64)), .second, .val (.long v798), .second, .val (.long v803), .second, .val (.long v808), .second, .val (.int (2 : Int32)), .unset, .unset, .unset] [(.int (1 : Int32)), (.int v690)])) t := by
              intro t kt
              show Steps p.tables e below (T807.setTop (mkF m 204 #[.val (.int r1), .val (.int n1), .val (.int ka), .val (.int kb), .val (.int kc), .val (.int fl), .val (.int (1 : Int32)), .val (.int v690), .val (.int v693), .val (.int v696), .val (.int v699), .val (.ref b703), .val (.ref b731), .val (.long (1 : Int64)), .second, .val (.long v798), .second, .val (.long v803), .second, .val (.long v808), .second, .val (.int (2 : Int32)), .unset, .unset, .unset] [(.int (1 : Int32)), (.int v690)])) _
              refine XS.icmpNo X807.here hx rfl (hb hby at_204) rfl (teq hc840).2 ?_
              refine XS.lload X807.here hx rfl (hb hby at_207) rfl ?_
              refine XS.lstore X807.here hx rfl (hb hby at_209) rfl (l' := #[.val (.int r1), .val (.int n1), .val (.int ka), .val (.int kb), .val (.int kc), .val (.int fl), .val (.int (1 : Int32)), .val (.int v690), .val (.int v693), .val (.int v696), .val (.int v699), .val (.ref b703), .val (.ref b731), .val (.long (1 : Int64)), .second, .val (.long v798), .second, .val (.long v803), .second, .val (.long v808), .second, .val (.int (2 : Int32)), .unset, .val (.long v803), .second]) rfl ?_
              refine XS.goto X807.here hx rfl (pc0 := 211) (pc' := 218) rfl (hb hby at_211) (by decide) (by decide) ?_
              refine XS.lload X807.here hx rfl (hb hby at_218) rfl ?_
              show Steps p.tables e below (T807.setTop (mkF m 220 #[.val (.int r1), .val (.int n1), .val (.int ka), .val (.int kb), .val (.int kc), .val (.int fl), .val (.int (1 : Int32)), .val (.int v690), .val (.int v693), .val (.int v696), .val (.int v699), .val (.ref b703), .val (.ref b731), .val (.long (1 : Int64)), .second, .val (.long v798), .second, .val (.long v803), .second, .val (.long v808), .second, .val (.int (2 : Int32)), .unset, .val (.long v803), .second] [(.long v803)])) _
              refine X807.ldc2Long hx hown (mvT hZ (hw _ (List.mem_of_getElem? (i := 97) rfl))) (g := (mkF m 220 #[.val (.int r1), .val (.int n1), .val (.int ka), .val (.int kb), .val (.int kc), .val (.int fl), .val (.int (1 : Int32)), .val (.int v690), .val (.int v693), .val (.int v696), .val (.int v699), .val (.ref b703), .val (.ref b731), .val (.long (1 : Int64)), .second, .val (.long v798), .second, .val (.long v803), .second, .val (.long v808), .second, .val (.int (2 : Int32)), .unset, .val (.long v803), .second] [(.long v803)])) rfl (hb hby at_220) _ ?_
              refine XS.iloadN X807.here hx rfl (hb hby at_223) rfl ?_
              refine XS.i2l X807.here hx rfl (hb hby at_224) rfl ?_
              refine XS.lmul X807.here hx rfl (hb hby at_225) rfl ?_
              refine XS.lcmp X807.here hx rfl (hb hby at_226) rfl ?_
              exact kt
            obtain ⟨v844, hv844⟩ : ∃ z : Int32, z = (if ((16 : Int64) * (r1.toInt64)) < v803 then (0 : Int32) else (1 : Int32)) := ⟨_, rfl⟩
            have S843 : ∀ t, Steps p.tables e below (T807.setTop (mkF m 235 #[.val (.int r1), .val (.int n1), .val (.int ka), .val (.int kb), .val (.int kc), .val (.int fl), .val (.int (1 : Int32)), .val (.int v690), .val (.int v693), .val (.int v696), .val (.int v699), .val (.ref b703), .val (.ref b731), .val (.long (1 : Int64)), .second, .val (.long v798), .second, .val (.long v803), .second, .val (.long v808), .second, .val (.int (2 : Int32)), .unset, .val (.long v803), .second] [(.int v844)])) t → Steps p.tables e below (T807.setTop (mkF m 227 #[.val (.int r1), .val (.int n1), .val (.int ka), .val (.int kb), .val (.int kc), .val (.int fl), .val (.int (1 : Int32)), .val (.int v690), .val (.int v693), .val (.int v696), .val (.int v699), .val (.ref b703), .val (.ref b731), .val (.long (1 : Int64)), .second, .val (.long v798), .second, .val (.long v803), .second, .val (.long v808), .second, .val (.int (2 : Int32)), .unset, .val (.long v803), .second] [(.int (lcmpW v803 ((16 : Int64) * (r1.toInt64))))])) t := by
              intro t kt
              subst hv844
              by_cases hc842 : ((16 : Int64) * (r1.toInt64)) < v803
              · simp only [if_pos hc842] at kt
                show Steps p.tables e below (T807.setTop (mkF m 227 #[.val (.int r1), .val (.int n1), .val (.int ka), .val (.int kb), .val (.int kc), .val (.int fl), .val (.int (1 : Int32)), .val (.int v690), .val (.int v693), .val (.int v696), .val (.int v699), .val (.ref b703), .val (.ref b731), .val (.long (1 : Int64)), .second, .val (.long v798), .second, .val (.long v803), .second, .val (.long v808), .second, .val (.int (2 : Int32)), .unset, .val (.long v803), .second] [(.int (lcmpW v803 ((16 : Int64) * (r1.toInt64))))])) _
                refine XS.ifYes X807.here hx rfl (pc0 := 227) (pc' := 234) rfl (hb hby at_227) rfl ((if0 _ _).trans (tlt ((lw_gt v803 ((16 : Int64) * (r1.toInt64))).mpr hc842)).2.2.1) (by decide) (by decide) ?_
                refine XS.iconst X807.here hx rfl (hb hby at_234) ?_
                exact kt
              · simp only [if_neg hc842] at kt
                show Steps p.tables e below (T807.setTop (mkF m 227 #[.val (.int r1), .val (.int n1), .val (.int ka), .val (.int kb), .val (.int kc), .val (.int fl), .val (.int (1 : Int32)), .val (.int v690), .val (.int v693), .val (.int v696), .val (.int v699), .val (.ref b703), .val (.ref b731), .val (.long (1 : Int64)), .second, .val (.long v798), .second, .val (.long v803), .second, .val (.long v808), .second, .val (.int (2 : Int32)), .unset, .val (.long v803), .second] [(.int (lcmpW v803 ((16 : Int64) * (r1.toInt64))))])) _
                refine XS.ifNo X807.here hx rfl (hb hby at_227) rfl ((if0 _ _).trans (flt (fun q => hc842 ((lw_gt v803 ((16 : Int64) * (r1.toInt64))).mp q))).2.2.1) ?_
                refine XS.iconst X807.here hx rfl (hb hby at_230) ?_
                refine XS.goto X807.here hx rfl (pc0 := 231) (pc' := 235) rfl (hb hby at_231) (by decide) (by decide) ?_
                exact kt
            have hEx := own_KG_exa hG792
            have S845 : ∀ t, Steps p.tables e below (T807.setTop (mkF m 242 #[.val (.int r1), .val (.int n1), .val (.int ka), .val (.int kb), .val (.int kc), .val (.int fl), .val (.int (1 : Int32)), .val (.int v690), .val (.int v693), .val (.int v696), .val (.int v699), .val (.ref b703), .val (.ref b731), .val (.long (1 : Int64)), .second, .val (.long v798), .second, .val (.long v803), .second, .val (.long v808), .second, .val (.int (2 : Int32)), .val (.int v844), .val (.long v803), .second] [(.int v690), (.int r1), (.ref b703)])) t → Steps p.tables e below (T807.setTop (mkF m 235 #[.val (.int r1), .val (.int n1), .val (.int ka), .val (.int kb), .val (.int kc), .val (.int fl), .val (.int (1 : Int32)), .val (.int v690), .val (.int v693), .val (.int v696), .val (.int v699), .val (.ref b703), .val (.ref b731), .val (.long (1 : Int64)), .second, .val (.long v798), .second, .val (.long v803), .second, .val (.long v808), .second, .val (.int (2 : Int32)), .unset, .val (.long v803), .second] [(.int v844)])) t := by
              intro t kt
              show Steps p.tables e below (T807.setTop (mkF m 235 #[.val (.int r1), .val (.int n1), .val (.int ka), .val (.int kb), .val (.int kc), .val (.int fl), .val (.int (1 : Int32)), .val (.int v690), .val (.int v693), .val (.int v696), .val (.int v699), .val (.ref b703), .val (.ref b731), .val (.long (1 : Int64)), .second, .val (.long v798), .second, .val (.long v803), .second, .val (.long v808), .second, .val (.int (2 : Int32)), .unset, .val (.long v803), .second] [(.int v844)])) _
              refine XS.istore X807.here hx rfl (hb hby at_235) rfl (l' := #[.val (.int r1), .val (.int n1), .val (.int ka), .val (.int kb), .val (.int kc), .val (.int fl), .val (.int (1 : Int32)), .val (.int v690), .val (.int v693), .val (.int v696), .val (.int v699), .val (.ref b703), .val (.ref b731), .val (.long (1 : Int64)), .second, .val (.long v798), .second, .val (.long v803), .second, .val (.long v808), .second, .val (.int (2 : Int32)), .val (.int v844), .val (.long v803), .second]) rfl ?_
              refine XS.aload X807.here hx rfl (hb hby at_237) rfl rfl ?_
              refine XS.iloadN X807.here hx rfl (hb hby at_239) rfl ?_
              refine XS.iload X807.here hx rfl (hb hby at_240) rfl ?_
              exact kt
            obtain ⟨cq846, kq846, q846a, q846b, q846c⟩ := isOf hZ e807 hEx
            obtain ⟨_, _, ⟨T846, L846, k846, n846⟩, -, X846, ⟨Lc846, hQ846, l846, y846, z846⟩, st846⟩ := X807.virtualBack hx (y := (⟨"com/example/joinery/joinery/KeyGrid", "fits", "(II)Z"⟩ : MethodName)) (z := (⟨"com/example/joinery/joinery/KeyGrid", "fits", "(II)Z"⟩ : MethodName)) hown (mvT hZ (hw _ (List.mem_of_getElem? (i := 98) rfl))) (mvT hZ (hw _ (List.mem_of_getElem? (i := 99) rfl))) (notFace_of_selects (args := #[]) (mvT hZ (hw _ (List.mem_of_getElem? (i := 101) rfl)))) (mvT hZ (hw _ (List.mem_of_getElem? (i := 101) rfl))) (mvT hZ (hw _ (List.mem_of_getElem? (i := 100) rfl))) (by decide) (backOf (W := 0) (rm11 l Z a0 hw [] b703 b731 r1 v690 2 (own_put own_cv0 2 ((own_rad v693 ((fl.toUInt32 >>> ((2 : Int32) &&& 31).toUInt32).toInt32)) * own_cv0 3)) h794 n0 z795 hG792 (by decide) hname.2) hZ (hw _ (List.mem_of_getElem? (i := 102) rfl)) (hw _ (List.mem_of_getElem? (i := 4) rfl)) (by decide) (by decide)) q846a q846c (g := (mkF m 242 #[.val (.int r1), .val (.int n1), .val (.int ka), .val (.int kb), .val (.int kc), .val (.int fl), .val (.int (1 : Int32)), .val (.int v690), .val (.int v693), .val (.int v696), .val (.int v699), .val (.ref b703), .val (.ref b731), .val (.long (1 : Int64)), .second, .val (.long v798), .second, .val (.long v803), .second, .val (.long v808), .second, .val (.int (2 : Int32)), .val (.int v844), .val (.long v803), .second] [(.int v690), (.int r1), (.ref b703)])) rfl (by rw [hml]; rfl) (Steps.refl _) (argsL := [(.int r1), (.int v690)]) (rest := []) (lenOf pd_9 rfl) rfl (by show 2 * 0 + _ ≤ _; exact Nat.le_of_eq rfl) (hb hby at_242) (fun _ _ => ⟨rfl, e807, (by decide : 28 + 0 ≤ _), (by decide : 56 + 0 ≤ _)⟩)
            dsimp only [Pt.U, Pt.locs, Pt.cells, Pt.slots] at X846 l846 y846 z846 st846 hQ846
            subst l846 y846 z846
            obtain ⟨rfl, N846q, e846⟩ := hQ846
            have N846 := Fr.app N807 N846q
            exfalso
            apply hc814
            rw [hc840]; decide
          · have S847 : ∀ t, Steps p.tables e below (T807.setTop (mkF m 227 #[.val (.int r1), .val (.int n1), .val (.int ka), .val (.int kb), .val (.int kc), .val (.int fl), .val (.int (1 : Int32)), .val (.int v690), .val (.int v693), .val (.int v696), .val (.int v699), .val (.ref b703), .val (.ref b731), .val (.long (1 : Int64)), .second, .val (.long v798), .second, .val (.long v803), .second, .val (.long v808), .second, .val (.int (2 : Int32)), .unset, .val (.long v808), .second] [(.int (lcmpW v808 ((16 : Int64) * (r1.toInt64))))])) t → Steps p.tables e below (T807.setTop (mkF m 204 #[.val (.int r1), .val (.int n1), .val (.int ka), .val (.int kb), .val (.int kc), .val (.int fl), .val (.int (1 : Int32)), .val (.int v690), .val (.int v693), .val (.int v696), .val (.int v699), .val (.ref b703), .val (.ref b731), .val (.long (1 : Int64)), .second, .val (.long v798), .second, .val (.long v803), .second, .val (.long v808), .second, .val (.int (2 : Int32)), .unset, .unset, .unset] [(.int (1 : Int32)), (.int v690)])) t := by
              intro t kt
              show Steps p.tables e below (T807.setTop (mkF m 204 #[.val (.int r1), .val (.int n1), .val (.int ka), .val (.int kb), .val (.int kc), .val (.int fl), .val (.int (1 : Int32)), .val (.int v690), .val (.int v693), .val (.int v696), .val (.int v699), .val (.ref b703), .val (.ref b731), .val (.long (1 : Int64)), .second, .val (.long v798), .second, .val (.long v803), .second, .val (.long v808), .second, .val (.int (2 : Int32)), .unset, .unset, .unset] [(.int (1 : Int32)), (.int v690)])) _
              refine XS.icmpYes X807.here hx rfl (pc0 := 204) (pc' := 214) rfl (hb hby at_204) rfl (feq hc840).2 (by decide) (by decide) ?_
              refine XS.lload X807.here hx rfl (hb hby at_214) rfl ?_
              refine XS.lstore X807.here hx rfl (hb hby at_216) rfl (l' := #[.val (.int r1), .val (.int n1), .val (.int ka), .val (.int kb), .val (.int kc), .val (.int fl), .val (.int (1 : Int32)), .val (.int v690), .val (.int v693), .val (.int v696), .val (.int v699), .val (.ref b703), .val (.ref b731), .val (.long (1 : Int64)), .second, .val (.long v798), .second, .val (.long v803), .second, .val (.long v808), .second, .val (.int (2 : Int32)), .unset, .val (.long v808), .second]) rfl ?_
              refine XS.lload X807.here hx rfl (hb hby at_218) rfl ?_
              refine X807.ldc2Long hx hown (mvT hZ (hw _ (List.mem_of_getElem? (i := 97) rfl))) (g := (mkF m 220 #[.val (.int r1), .val (.int n1), .val (.int ka), .val (.int kb), .val (.int kc), .val (.int fl), .val (.int (1 : Int32)), .val (.int v690), .val (.int v693), .val (.int v696), .val (.int v699), .val (.ref b703), .val (.ref b731), .val (.long (1 : Int64)), .second, .val (.long v798), .second, .val (.long v803), .second, .val (.long v808), .second, .val (.int (2 : Int32)), .unset, .val (.long v808), .second] [(.long v808)])) rfl (hb hby at_220) _ ?_
              show Steps p.tables e below (T807.setTop (mkF m 223 #[.val (.int r1), .val (.int n1), .val (.int ka), .val (.int kb), .val (.int kc), .val (.int fl), .val (.int (1 : Int32)), .val (.int v690), .val (.int v693), .val (.int v696), .val (.int v699), .val (.ref b703), .val (.ref b731), .val (.long (1 : Int64)), .second, .val (.long v798), .second, .val (.long v803), .second, .val (.long v808), .second, .val (.int (2 : Int32)), .unset, .val (.long v808), .second] [(.long (16 : Int64)), (.long v808)])) _
              refine XS.iloadN X807.here hx rfl (hb hby at_223) rfl ?_
              refine XS.i2l X807.here hx rfl (hb hby at_224) rfl ?_
              refine XS.lmul X807.here hx rfl (hb hby at_225) rfl ?_
              refine XS.lcmp X807.here hx rfl (hb hby at_226) rfl ?_
              exact kt
            obtain ⟨v850, hv850⟩ : ∃ z : Int32, z = (if ((16 : Int64) * (r1.toInt64)) < v808 then (0 : Int32) else (1 : Int32)) := ⟨_, rfl⟩
            have S849 : ∀ t, Steps p.tables e below (T807.setTop (mkF m 235 #[.val (.int r1), .val (.int n1), .val (.int ka), .val (.int kb), .val (.int kc), .val (.int fl), .val (.int (1 : Int32)), .val (.int v690), .val (.int v693), .val (.int v696), .val (.int v699), .val (.ref b703), .val (.ref b731), .val (.long (1 : Int64)), .second, .val (.long v798), .second, .val (.long v803), .second, .val (.long v808), .second, .val (.int (2 : Int32)), .unset, .val (.long v808), .second] [(.int v850)])) t → Steps p.tables e below (T807.setTop (mkF m 227 #[.val (.int r1), .val (.int n1), .val (.int ka), .val (.int kb), .val (.int kc), .val (.int fl), .val (.int (1 : Int32)), .val (.int v690), .val (.int v693), .val (.int v696), .val (.int v699), .val (.ref b703), .val (.ref b731), .val (.long (1 : Int64)), .second, .val (.long v798), .second, .val (.long v803), .second, .val (.long v808), .second, .val (.int (2 : Int32)), .unset, .val (.long v808), .second] [(.int (lcmpW v808 ((16 : Int64) * (r1.toInt64))))])) t := by
              intro t kt
              subst hv850
              by_cases hc848 : ((16 : Int64) * (r1.toInt64)) < v808
              · simp only [if_pos hc848] at kt
                show Steps p.tables e below (T807.setTop (mkF m 227 #[.val (.int r1), .val (.int n1), .val (.int ka), .val (.int kb), .val (.int kc), .val (.int fl), .val (.int (1 : Int32)), .val (.int v690), .val (.int v693), .val (.int v696), .val (.int v699), .val (.ref b703), .val (.ref b731), .val (.long (1 : Int64)), .second, .val (.long v798), .second, .val (.long v803), .second, .val (.long v808), .second, .val (.int (2 : Int32)), .unset, .val (.long v808), .second] [(.int (lcmpW v808 ((16 : Int64) * (r1.toInt64))))])) _
                refine XS.ifYes X807.here hx rfl (pc0 := 227) (pc' := 234) rfl (hb hby at_227) rfl ((if0 _ _).trans (tlt ((lw_gt v808 ((16 : Int64) * (r1.toInt64))).mpr hc848)).2.2.1) (by decide) (by decide) ?_
                refine XS.iconst X807.here hx rfl (hb hby at_234) ?_
                exact kt
              · simp only [if_neg hc848] at kt
                show Steps p.tables e below (T807.setTop (mkF m 227 #[.val (.int r1), .val (.int n1), .val (.int ka), .val (.int kb), .val (.int kc), .val (.int fl), .val (.int (1 : Int32)), .val (.int v690), .val (.int v693), .val (.int v696), .val (.int v699), .val (.ref b703), .val (.ref b731), .val (.long (1 : Int64)), .second, .val (.long v798), .second, .val (.long v803), .second, .val (.long v808), .second, .val (.int (2 : Int32)), .unset, .val (.long v808), .second] [(.int (lcmpW v808 ((16 : Int64) * (r1.toInt64))))])) _
                refine XS.ifNo X807.here hx rfl (hb hby at_227) rfl ((if0 _ _).trans (flt (fun q => hc848 ((lw_gt v808 ((16 : Int64) * (r1.toInt64))).mp q))).2.2.1) ?_
                refine XS.iconst X807.here hx rfl (hb hby at_230) ?_
                refine XS.goto X807.here hx rfl (pc0 := 231) (pc' := 235) rfl (hb hby at_231) (by decide) (by decide) ?_
                exact kt
            have hEx := own_KG_exa hG792
            have S851 : ∀ t, Steps p.tables e below (T807.setTop (mkF m 242 #[.val (.int r1), .val (.int n1), .val (.int ka), .val (.int kb), .val (.int kc), .val (.int fl), .val (.int (1 : Int32)), .val (.int v690), .val (.int v693), .val (.int v696), .val (.int v699), .val (.ref b703), .val (.ref b731), .val (.long (1 : Int64)), .second, .val (.long v798), .second, .val (.long v803), .second, .val (.long v808), .second, .val (.int (2 : Int32)), .val (.int v850), .val (.long v808), .second] [(.int v690), (.int r1), (.ref b703)])) t → Steps p.tables e below (T807.setTop (mkF m 235 #[.val (.int r1), .val (.int n1), .val (.int ka), .val (.int kb), .val (.int kc), .val (.int fl), .val (.int (1 : Int32)), .val (.int v690), .val (.int v693), .val (.int v696), .val (.int v699), .val (.ref b703), .val (.ref b731), .val (.long (1 : Int64)), .second, .val (.long v798), .second, .val (.long v803), .second, .val (.long v808), .second, .val (.int (2 : Int32)), .unset, .val (.long v808), .second] [(.int v850)])) t := by
              intro t kt
              show Steps p.tables e below (T807.setTop (mkF m 235 #[.val (.int r1), .val (.int n1), .val (.int ka), .val (.int kb), .val (.int kc), .val (.int fl), .val (.int (1 : Int32)), .val (.int v690), .val (.int v693), .val (.int v696), .val (.int v699), .val (.ref b703), .val (.ref b731), .val (.long (1 : Int64)), .second, .val (.long v798), .second, .val (.long v803), .second, .val (.long v808), .second, .val (.int (2 : Int32)), .unset, .val (.long v808), .second] [(.int v850)])) _
              refine XS.istore X807.here hx rfl (hb hby at_235) rfl (l' := #[.val (.int r1), .val (.int n1), .val (.int ka), .val (.int kb), .val (.int kc), .val (.int fl), .val (.int (1 : Int32)), .val (.int v690), .val (.int v693), .val (.int v696), .val (.int v699), .val (.ref b703), .val (.ref b731), .val (.long (1 : Int64)), .second, .val (.long v798), .second, .val (.long v803), .second, .val (.long v808), .second, .val (.int (2 : Int32)), .val (.int v850), .val (.long v808), .second]) rfl ?_
              refine XS.aload X807.here hx rfl (hb hby at_237) rfl rfl ?_
              refine XS.iloadN X807.here hx rfl (hb hby at_239) rfl ?_
              refine XS.iload X807.here hx rfl (hb hby at_240) rfl ?_
              exact kt
            obtain ⟨cq852, kq852, q852a, q852b, q852c⟩ := isOf hZ e807 hEx
            obtain ⟨_, _, ⟨T852, L852, k852, n852⟩, -, X852, ⟨Lc852, hQ852, l852, y852, z852⟩, st852⟩ := X807.virtualBack hx (y := (⟨"com/example/joinery/joinery/KeyGrid", "fits", "(II)Z"⟩ : MethodName)) (z := (⟨"com/example/joinery/joinery/KeyGrid", "fits", "(II)Z"⟩ : MethodName)) hown (mvT hZ (hw _ (List.mem_of_getElem? (i := 98) rfl))) (mvT hZ (hw _ (List.mem_of_getElem? (i := 99) rfl))) (notFace_of_selects (args := #[]) (mvT hZ (hw _ (List.mem_of_getElem? (i := 101) rfl)))) (mvT hZ (hw _ (List.mem_of_getElem? (i := 101) rfl))) (mvT hZ (hw _ (List.mem_of_getElem? (i := 100) rfl))) (by decide) (backOf (W := 0) (rm11 l Z a0 hw [] b703 b731 r1 v690 2 (own_put own_cv0 2 ((own_rad v693 ((fl.toUInt32 >>> ((2 : Int32) &&& 31).toUInt32).toInt32)) * own_cv0 3)) h794 n0 z795 hG792 (by decide) hname.2) hZ (hw _ (List.mem_of_getElem? (i := 102) rfl)) (hw _ (List.mem_of_getElem? (i := 4) rfl)) (by decide) (by decide)) q852a q852c (g := (mkF m 242 #[.val (.int r1), .val (.int n1), .val (.int ka), .val (.int kb), .val (.int kc), .val (.int fl), .val (.int (1 : Int32)), .val (.int v690), .val (.int v693), .val (.int v696), .val (.int v699), .val (.ref b703), .val (.ref b731), .val (.long (1 : Int64)), .second, .val (.long v798), .second, .val (.long v803), .second, .val (.long v808), .second, .val (.int (2 : Int32)), .val (.int v850), .val (.long v808), .second] [(.int v690), (.int r1), (.ref b703)])) rfl (by rw [hml]; rfl) (Steps.refl _) (argsL := [(.int r1), (.int v690)]) (rest := []) (lenOf pd_9 rfl) rfl (by show 2 * 0 + _ ≤ _; exact Nat.le_of_eq rfl) (hb hby at_242) (fun _ _ => ⟨rfl, e807, (by decide : 28 + 0 ≤ _), (by decide : 56 + 0 ≤ _)⟩)
            dsimp only [Pt.U, Pt.locs, Pt.cells, Pt.slots] at X852 l852 y852 z852 st852 hQ852
            subst l852 y852 z852
            obtain ⟨rfl, N852q, e852⟩ := hQ852
            have N852 := Fr.app N807 N852q
            exfalso
            exact own_none hname hc820 hc830 hc840 (k := 2) (by decide) hc814
  · have S853 : ∀ t, Steps p.tables e below (T731.setTop (mkF m 52 #[.val (.int r1), .val (.int n1), .val (.int ka), .val (.int kb), .val (.int kc), .val (.int fl), .val (.int (2 : Int32)), .val (.int v690), .val (.int v693), .val (.int v696), .val (.int v699), .val (.ref b703), .val (.ref b731), .unset, .unset, .unset, .unset, .unset, .unset, .unset, .unset, .unset, .unset, .unset, .unset] [])) t → Steps p.tables e below (T731.setTop (mkF m 52 #[.val (.int r1), .val (.int n1), .val (.int ka), .val (.int kb), .val (.int kc), .val (.int fl), .val (.int v687), .val (.int v690), .val (.int v693), .val (.int v696), .val (.int v699), .val (.ref b703), .val (.ref b731), .unset, .unset, .unset, .unset, .unset, .unset, .unset, .unset, .unset, .unset, .unset, .unset] [])) t := fun t k => by rw [qv687]; exact k
    have S855 : ∀ t, Steps p.tables e below (T731.setTop (mkF m 68 #[.val (.int r1), .val (.int n1), .val (.int ka), .val (.int kb), .val (.int kc), .val (.int fl), .val (.int (2 : Int32)), .val (.int v690), .val (.int v693), .val (.int v696), .val (.int v699), .val (.ref b703), .val (.ref b731), .unset, .unset, .unset, .unset, .unset, .unset, .unset, .unset, .unset, .unset, .unset, .unset] [(.ref b731), (.int ((fl.toUInt32 >>> ((2 : Int32) &&& 31).toUInt32).toInt32)), (.int v693), (.ref b703)])) t → Steps p.tables e below (T731.setTop (mkF m 52 #[.val (.int r1), .val (.int n1), .val (.int ka), .val (.int kb), .val (.int kc), .val (.int fl), .val (.int (2 : Int32)), .val (.int v690), .val (.int v693), .val (.int v696), .val (.int v699), .val (.ref b703), .val (.ref b731), .unset, .unset, .unset, .unset, .unset, .unset, .unset, .unset, .unset, .unset, .unset, .unset] [])) t := by
      intro t kt
      show Steps p.tables e below (T731.setTop (mkF m 52 #[.val (.int r1), .val (.int n1), .val (.int ka), .val (.int kb), .val (.int kc), .val (.int fl), .val (.int (2 : Int32)), .val (.int v690), .val (.int v693), .val (.int v696), .val (.int v699), .val (.ref b703), .val (.ref b731), .unset, .unset, .unset, .unset, .unset, .unset, .unset, .unset, .unset, .unset, .unset, .unset] [])) _
      refine XS.iload X731.here hx rfl (hb hby at_52) rfl ?_
      refine XS.iconst X731.here hx rfl (hb hby at_54) ?_
      refine XS.icmpNo X731.here hx rfl (hb hby at_55) rfl (flt (by decide)).1 ?_
      refine XS.aload X731.here hx rfl (hb hby at_58) rfl rfl ?_
      refine XS.iload X731.here hx rfl (hb hby at_60) rfl ?_
      show Steps p.tables e below (T731.setTop (mkF m 62 #[.val (.int r1), .val (.int n1), .val (.int ka), .val (.int kb), .val (.int kc), .val (.int fl), .val (.int (2 : Int32)), .val (.int v690), .val (.int v693), .val (.int v696), .val (.int v699), .val (.ref b703), .val (.ref b731), .unset, .unset, .unset, .unset, .unset, .unset, .unset, .unset, .unset, .unset, .unset, .unset] [(.int v693), (.ref b703)])) _
      refine XS.iload X731.here hx rfl (hb hby at_62) rfl ?_
      refine XS.iconst X731.here hx rfl (hb hby at_64) ?_
      refine XS.iushr X731.here hx rfl (hb hby at_65) rfl ?_
      refine XS.aload X731.here hx rfl (hb hby at_66) rfl rfl ?_
      exact kt
    obtain ⟨_, _, ⟨T856, L856, k856, n856⟩, -, X856, ⟨Lc856, hQ856, l856, y856, z856⟩, st856⟩ := Jvm.LawKit.callS X731 hx (y := (⟨"com/example/joinery/joinery/KeyGridFitsPinLaw", "giveName", "(Lcom/example/joinery/joinery/KeyGrid;II[I)V"⟩ : MethodName)) hown (mvT hZ (hw _ (List.mem_of_getElem? (i := 81) rfl))) (mvT hZ (hw _ (List.mem_of_getElem? (i := 82) rfl))) (mvT hZ (hw _ (List.mem_of_getElem? (i := 83) rfl))) (mvT hZ (hw _ (List.mem_of_getElem? (i := 84) rfl))) (by decide) (backOf (W := 0) (rm7 l Z a0 hw [] b703 b731 v693 ((fl.toUInt32 >>> ((2 : Int32) &&& 31).toUInt32).toInt32) 2 own_cv0 h731 n0 z732 hG0 (by decide) hkv693) hZ (hw _ (List.mem_of_getElem? (i := 84) rfl)) (hw _ (List.mem_of_getElem? (i := 83) rfl)) (by decide) (by decide)) (g := (mkF m 68 #[.val (.int r1), .val (.int n1), .val (.int ka), .val (.int kb), .val (.int kc), .val (.int fl), .val (.int (2 : Int32)), .val (.int v690), .val (.int v693), .val (.int v696), .val (.int v699), .val (.ref b703), .val (.ref b731), .unset, .unset, .unset, .unset, .unset, .unset, .unset, .unset, .unset, .unset, .unset, .unset] [(.ref b731), (.int ((fl.toUInt32 >>> ((2 : Int32) &&& 31).toUInt32).toInt32)), (.int v693), (.ref b703)])) rfl (by rw [hml]; rfl) (argsL := [(.ref b703), (.int v693), (.int ((fl.toUInt32 >>> ((2 : Int32) &&& 31).toUInt32).toInt32)), (.ref b731)]) (rest := []) (lenOf pd_10 rfl) rfl (by show 2 * 0 + _ ≤ _; exact Nat.le_of_eq rfl) (hb hby at_68) (fun _ _ => ⟨rfl, e731, (by decide : 28 + 0 ≤ _), (by decide : 56 + 0 ≤ _)⟩)
    dsimp only [Pt.U, Pt.locs, Pt.cells, Pt.slots] at X856 l856 y856 z856 st856 hQ856
    subst l856 y856 z856
    obtain ⟨h856, e856⟩ : ∃ z, T856.heap = z := ⟨_, rfl⟩
    rw [e856] at hQ856
    obtain ⟨rfl, N856q, z857, hG854⟩ := hQ856
    have N856 := Fr.app N728 N856q
    have S859 : ∀ t, Steps p.tables e below (T856.setTop (mkF m 87 #[.val (.int r1), .val (.int n1), .val (.int ka), .val (.int kb), .val (.int kc), .val (.int fl), .val (.int (2 : Int32)), .val (.int v690), .val (.int v693), .val (.int v696), .val (.int v699), .val (.ref b703), .val (.ref b731), .unset, .unset, .unset, .unset, .unset, .unset, .unset, .unset, .unset, .unset, .unset, .unset] [(.ref b731), (.int ((fl.toUInt32 >>> ((4 : Int32) &&& 31).toUInt32).toInt32)), (.int v696), (.ref b703)])) t → Steps p.tables e below (T856.setTop (mkF m 71 #[.val (.int r1), .val (.int n1), .val (.int ka), .val (.int kb), .val (.int kc), .val (.int fl), .val (.int (2 : Int32)), .val (.int v690), .val (.int v693), .val (.int v696), .val (.int v699), .val (.ref b703), .val (.ref b731), .unset, .unset, .unset, .unset, .unset, .unset, .unset, .unset, .unset, .unset, .unset, .unset] [])) t := by
      intro t kt
      show Steps p.tables e below (T856.setTop (mkF m 71 #[.val (.int r1), .val (.int n1), .val (.int ka), .val (.int kb), .val (.int kc), .val (.int fl), .val (.int (2 : Int32)), .val (.int v690), .val (.int v693), .val (.int v696), .val (.int v699), .val (.ref b703), .val (.ref b731), .unset, .unset, .unset, .unset, .unset, .unset, .unset, .unset, .unset, .unset, .unset, .unset] [])) _
      refine XS.iload X856.here hx rfl (hb hby at_71) rfl ?_
      refine XS.iconst X856.here hx rfl (hb hby at_73) ?_
      refine XS.icmpNo X856.here hx rfl (hb hby at_74) rfl (flt (by decide)).1 ?_
      refine XS.aload X856.here hx rfl (hb hby at_77) rfl rfl ?_
      refine XS.iload X856.here hx rfl (hb hby at_79) rfl ?_
      show Steps p.tables e below (T856.setTop (mkF m 81 #[.val (.int r1), .val (.int n1), .val (.int ka), .val (.int kb), .val (.int kc), .val (.int fl), .val (.int (2 : Int32)), .val (.int v690), .val (.int v693), .val (.int v696), .val (.int v699), .val (.ref b703), .val (.ref b731), .unset, .unset, .unset, .unset, .unset, .unset, .unset, .unset, .unset, .unset, .unset, .unset] [(.int v696), (.ref b703)])) _
      refine XS.iload X856.here hx rfl (hb hby at_81) rfl ?_
      refine XS.iconst X856.here hx rfl (hb hby at_83) ?_
      refine XS.iushr X856.here hx rfl (hb hby at_84) rfl ?_
      refine XS.aload X856.here hx rfl (hb hby at_85) rfl rfl ?_
      exact kt
    obtain ⟨_, _, ⟨T860, L860, k860, n860⟩, -, X860, ⟨Lc860, hQ860, l860, y860, z860⟩, st860⟩ := Jvm.LawKit.callS X856 hx (y := (⟨"com/example/joinery/joinery/KeyGridFitsPinLaw", "giveName", "(Lcom/example/joinery/joinery/KeyGrid;II[I)V"⟩ : MethodName)) hown (mvT hZ (hw _ (List.mem_of_getElem? (i := 81) rfl))) (mvT hZ (hw _ (List.mem_of_getElem? (i := 82) rfl))) (mvT hZ (hw _ (List.mem_of_getElem? (i := 83) rfl))) (mvT hZ (hw _ (List.mem_of_getElem? (i := 84) rfl))) (by decide) (backOf (W := 0) (rm7 l Z a0 hw [] b703 b731 v696 ((fl.toUInt32 >>> ((4 : Int32) &&& 31).toUInt32).toInt32) 1 (own_put own_cv0 2 ((own_rad v693 ((fl.toUInt32 >>> ((2 : Int32) &&& 31).toUInt32).toInt32)) * own_cv0 3)) h856 n0 z857 hG854 (by decide) hkv696) hZ (hw _ (List.mem_of_getElem? (i := 84) rfl)) (hw _ (List.mem_of_getElem? (i := 83) rfl)) (by decide) (by decide)) (g := (mkF m 87 #[.val (.int r1), .val (.int n1), .val (.int ka), .val (.int kb), .val (.int kc), .val (.int fl), .val (.int (2 : Int32)), .val (.int v690), .val (.int v693), .val (.int v696), .val (.int v699), .val (.ref b703), .val (.ref b731), .unset, .unset, .unset, .unset, .unset, .unset, .unset, .unset, .unset, .unset, .unset, .unset] [(.ref b731), (.int ((fl.toUInt32 >>> ((4 : Int32) &&& 31).toUInt32).toInt32)), (.int v696), (.ref b703)])) rfl (by rw [hml]; rfl) (argsL := [(.ref b703), (.int v696), (.int ((fl.toUInt32 >>> ((4 : Int32) &&& 31).toUInt32).toInt32)), (.ref b731)]) (rest := []) (lenOf pd_10 rfl) rfl (by show 2 * 0 + _ ≤ _; exact Nat.le_of_eq rfl) (hb hby at_87) (fun _ _ => ⟨rfl, e856, (by decide : 28 + 0 ≤ _), (by decide : 56 + 0 ≤ _)⟩)
    dsimp only [Pt.U, Pt.locs, Pt.cells, Pt.slots] at X860 l860 y860 z860 st860 hQ860
    subst l860 y860 z860
    obtain ⟨h860, e860⟩ : ∃ z, T860.heap = z := ⟨_, rfl⟩
    rw [e860] at hQ860
    obtain ⟨rfl, N860q, z861, hG858⟩ := hQ860
    have N860 := Fr.app N856 N860q
    have S862 : ∀ t, Steps p.tables e below (T860.setTop (mkF m 119 #[.val (.int r1), .val (.int n1), .val (.int ka), .val (.int kb), .val (.int kc), .val (.int fl), .val (.int (2 : Int32)), .val (.int v690), .val (.int v693), .val (.int v696), .val (.int v699), .val (.ref b703), .val (.ref b731), .val (.long (1 : Int64)), .second, .unset, .unset, .unset, .unset, .unset, .unset, .unset, .unset, .unset, .unset] [(.int ((fl.toUInt32 >>> ((2 : Int32) &&& 31).toUInt32).toInt32)), (.int v693)])) t → Steps p.tables e below (T860.setTop (mkF m 90 #[.val (.int r1), .val (.int n1), .val (.int ka), .val (.int kb), .val (.int kc), .val (.int fl), .val (.int (2 : Int32)), .val (.int v690), .val (.int v693), .val (.int v696), .val (.int v699), .val (.ref b703), .val (.ref b731), .unset, .unset, .unset, .unset, .unset, .unset, .unset, .unset, .unset, .unset, .unset, .unset] [])) t := by
      intro t kt
      show Steps p.tables e below (T860.setTop (mkF m 90 #[.val (.int r1), .val (.int n1), .val (.int ka), .val (.int kb), .val (.int kc), .val (.int fl), .val (.int (2 : Int32)), .val (.int v690), .val (.int v693), .val (.int v696), .val (.int v699), .val (.ref b703), .val (.ref b731), .unset, .unset, .unset, .unset, .unset, .unset, .unset, .unset, .unset, .unset, .unset, .unset] [])) _
      refine XS.iload X860.here hx rfl (hb hby at_90) rfl ?_
      refine XS.iconst X860.here hx rfl (hb hby at_92) ?_
      refine XS.icmpYes X860.here hx rfl (pc0 := 93) (pc' := 110) rfl (hb hby at_93) rfl (tlt (by decide)).1 (by decide) (by decide) ?_
      refine XS.lconst X860.here hx rfl (hb hby at_110) ?_
      refine XS.lstore X860.here hx rfl (hb hby at_111) rfl (l' := #[.val (.int r1), .val (.int n1), .val (.int ka), .val (.int kb), .val (.int kc), .val (.int fl), .val (.int (2 : Int32)), .val (.int v690), .val (.int v693), .val (.int v696), .val (.int v699), .val (.ref b703), .val (.ref b731), .val (.long (1 : Int64)), .second, .unset, .unset, .unset, .unset, .unset, .unset, .unset, .unset, .unset, .unset]) rfl ?_
      show Steps p.tables e below (T860.setTop (mkF m 113 #[.val (.int r1), .val (.int n1), .val (.int ka), .val (.int kb), .val (.int kc), .val (.int fl), .val (.int (2 : Int32)), .val (.int v690), .val (.int v693), .val (.int v696), .val (.int v699), .val (.ref b703), .val (.ref b731), .val (.long (1 : Int64)), .second, .unset, .unset, .unset, .unset, .unset, .unset, .unset, .unset, .unset, .unset] [])) _
      refine XS.iload X860.here hx rfl (hb hby at_113) rfl ?_
      refine XS.iload X860.here hx rfl (hb hby at_115) rfl ?_
      refine XS.iconst X860.here hx rfl (hb hby at_117) ?_
      refine XS.iushr X860.here hx rfl (hb hby at_118) rfl ?_
      exact kt
    obtain ⟨_, _, ⟨T863, L863, k863, n863⟩, -, X863, ⟨Lc863, hQ863, l863, y863, z863⟩, st863⟩ := Jvm.LawKit.callS X860 hx (y := (⟨"com/example/joinery/joinery/KeyGridFitsPinLaw", "radix", "(II)J"⟩ : MethodName)) hown (mvT hZ (hw _ (List.mem_of_getElem? (i := 94) rfl))) (mvT hZ (hw _ (List.mem_of_getElem? (i := 95) rfl))) (mvT hZ (hw _ (List.mem_of_getElem? (i := 83) rfl))) (mvT hZ (hw _ (List.mem_of_getElem? (i := 96) rfl))) (by decide) (backOf (W := 0) (rm10 l Z a0 hw [] v693 ((fl.toUInt32 >>> ((2 : Int32) &&& 31).toUInt32).toInt32) h860 n0 z861 ) hZ (hw _ (List.mem_of_getElem? (i := 96) rfl)) (hw _ (List.mem_of_getElem? (i := 83) rfl)) (by decide) (by decide)) (g := (mkF m 119 #[.val (.int r1), .val (.int n1), .val (.int ka), .val (.int kb), .val (.int kc), .val (.int fl), .val (.int (2 : Int32)), .val (.int v690), .val (.int v693), .val (.int v696), .val (.int v699), .val (.ref b703), .val (.ref b731), .val (.long (1 : Int64)), .second, .unset, .unset, .unset, .unset, .unset, .unset, .unset, .unset, .unset, .unset] [(.int ((fl.toUInt32 >>> ((2 : Int32) &&& 31).toUInt32).toInt32)), (.int v693)])) rfl (by rw [hml]; rfl) (argsL := [(.int v693), (.int ((fl.toUInt32 >>> ((2 : Int32) &&& 31).toUInt32).toInt32))]) (rest := []) (lenOf pd_8 rfl) rfl (by show 2 * 0 + _ ≤ _; exact Nat.le_of_eq rfl) (hb hby at_119) (fun _ _ => ⟨rfl, e860, (by decide : 28 + 0 ≤ _), (by decide : 56 + 0 ≤ _)⟩)
    dsimp only [Pt.U, Pt.locs, Pt.cells, Pt.slots] at X863 l863 y863 z863 st863 hQ863
    subst l863 y863 z863
    obtain ⟨rfl, N863q, e863⟩ := hQ863
    have N863 := Fr.app N860 N863q
    have S865 : ∀ t, Steps p.tables e below (T863.setTop (mkF m 125 #[.val (.int r1), .val (.int n1), .val (.int ka), .val (.int kb), .val (.int kc), .val (.int fl), .val (.int (2 : Int32)), .val (.int v690), .val (.int v693), .val (.int v696), .val (.int v699), .val (.ref b703), .val (.ref b731), .val (.long (1 : Int64)), .second, .unset, .unset, .unset, .unset, .unset, .unset, .unset, .unset, .unset, .unset] [(.long ((own_rad v693 ((fl.toUInt32 >>> ((2 : Int32) &&& 31).toUInt32).toInt32)) * (1 : Int64)))])) t → Steps p.tables e below (T863.setTop (mkF m 122 #[.val (.int r1), .val (.int n1), .val (.int ka), .val (.int kb), .val (.int kc), .val (.int fl), .val (.int (2 : Int32)), .val (.int v690), .val (.int v693), .val (.int v696), .val (.int v699), .val (.ref b703), .val (.ref b731), .val (.long (1 : Int64)), .second, .unset, .unset, .unset, .unset, .unset, .unset, .unset, .unset, .unset, .unset] [(.long (own_rad v693 ((fl.toUInt32 >>> ((2 : Int32) &&& 31).toUInt32).toInt32)))])) t := by
      intro t kt
      show Steps p.tables e below (T863.setTop (mkF m 122 #[.val (.int r1), .val (.int n1), .val (.int ka), .val (.int kb), .val (.int kc), .val (.int fl), .val (.int (2 : Int32)), .val (.int v690), .val (.int v693), .val (.int v696), .val (.int v699), .val (.ref b703), .val (.ref b731), .val (.long (1 : Int64)), .second, .unset, .unset, .unset, .unset, .unset, .unset, .unset, .unset, .unset, .unset] [(.long (own_rad v693 ((fl.toUInt32 >>> ((2 : Int32) &&& 31).toUInt32).toInt32)))])) _
      refine XS.lload X863.here hx rfl (hb hby at_122) rfl ?_
      refine XS.lmul X863.here hx rfl (hb hby at_124) rfl ?_
      exact kt
    obtain ⟨v864, hv864⟩ : ∃ z : Int64, z = ((own_rad v693 ((fl.toUInt32 >>> ((2 : Int32) &&& 31).toUInt32).toInt32)) * (1 : Int64)) := ⟨_, rfl⟩
    have S866 : ∀ t, Steps p.tables e below (T863.setTop (mkF m 125 #[.val (.int r1), .val (.int n1), .val (.int ka), .val (.int kb), .val (.int kc), .val (.int fl), .val (.int (2 : Int32)), .val (.int v690), .val (.int v693), .val (.int v696), .val (.int v699), .val (.ref b703), .val (.ref b731), .val (.long (1 : Int64)), .second, .unset, .unset, .unset, .unset, .unset, .unset, .unset, .unset, .unset, .unset] [(.long v864)])) t → Steps p.tables e below (T863.setTop (mkF m 125 #[.val (.int r1), .val (.int n1), .val (.int ka), .val (.int kb), .val (.int kc), .val (.int fl), .val (.int (2 : Int32)), .val (.int v690), .val (.int v693), .val (.int v696), .val (.int v699), .val (.ref b703), .val (.ref b731), .val (.long (1 : Int64)), .second, .unset, .unset, .unset, .unset, .unset, .unset, .unset, .unset, .unset, .unset] [(.long ((own_rad v693 ((fl.toUInt32 >>> ((2 : Int32) &&& 31).toUInt32).toInt32)) * (1 : Int64)))])) t := fun t k => by rw [hv864.symm]; exact k
    have S867 : ∀ t, Steps p.tables e below (T863.setTop (mkF m 133 #[.val (.int r1), .val (.int n1), .val (.int ka), .val (.int kb), .val (.int kc), .val (.int fl), .val (.int (2 : Int32)), .val (.int v690), .val (.int v693), .val (.int v696), .val (.int v699), .val (.ref b703), .val (.ref b731), .val (.long (1 : Int64)), .second, .val (.long v864), .second, .unset, .unset, .unset, .unset, .unset, .unset, .unset, .unset] [(.int ((fl.toUInt32 >>> ((4 : Int32) &&& 31).toUInt32).toInt32)), (.int v696)])) t → Steps p.tables e below (T863.setTop (mkF m 125 #[.val (.int r1), .val (.int n1), .val (.int ka), .val (.int kb), .val (.int kc), .val (.int fl), .val (.int (2 : Int32)), .val (.int v690), .val (.int v693), .val (.int v696), .val (.int v699), .val (.ref b703), .val (.ref b731), .val (.long (1 : Int64)), .second, .unset, .unset, .unset, .unset, .unset, .unset, .unset, .unset, .unset, .unset] [(.long v864)])) t := by
      intro t kt
      show Steps p.tables e below (T863.setTop (mkF m 125 #[.val (.int r1), .val (.int n1), .val (.int ka), .val (.int kb), .val (.int kc), .val (.int fl), .val (.int (2 : Int32)), .val (.int v690), .val (.int v693), .val (.int v696), .val (.int v699), .val (.ref b703), .val (.ref b731), .val (.long (1 : Int64)), .second, .unset, .unset, .unset, .unset, .unset, .unset, .unset, .unset, .unset, .unset] [(.long v864)])) _
      refine XS.lstore X863.here hx rfl (hb hby at_125) rfl (l' := #[.val (.int r1), .val (.int n1), .val (.int ka), .val (.int kb), .val (.int kc), .val (.int fl), .val (.int (2 : Int32)), .val (.int v690), .val (.int v693), .val (.int v696), .val (.int v699), .val (.ref b703), .val (.ref b731), .val (.long (1 : Int64)), .second, .val (.long v864), .second, .unset, .unset, .unset, .unset, .unset, .unset, .unset, .unset]) rfl ?_
      refine XS.iload X863.here hx rfl (hb hby at_127) rfl ?_
      refine XS.iload X863.here hx rfl (hb hby at_129) rfl ?_
      refine XS.iconst X863.here hx rfl (hb hby at_131) ?_
      refine XS.iushr X863.here hx rfl (hb hby at_132) rfl ?_
      exact kt
    obtain ⟨_, _, ⟨T868, L868, k868, n868⟩, -, X868, ⟨Lc868, hQ868, l868, y868, z868⟩, st868⟩ := Jvm.LawKit.callS X863 hx (y := (⟨"com/example/joinery/joinery/KeyGridFitsPinLaw", "radix", "(II)J"⟩ : MethodName)) hown (mvT hZ (hw _ (List.mem_of_getElem? (i := 94) rfl))) (mvT hZ (hw _ (List.mem_of_getElem? (i := 95) rfl))) (mvT hZ (hw _ (List.mem_of_getElem? (i := 83) rfl))) (mvT hZ (hw _ (List.mem_of_getElem? (i := 96) rfl))) (by decide) (backOf (W := 0) (rm10 l Z a0 hw [] v696 ((fl.toUInt32 >>> ((4 : Int32) &&& 31).toUInt32).toInt32) h860 n0 z861 ) hZ (hw _ (List.mem_of_getElem? (i := 96) rfl)) (hw _ (List.mem_of_getElem? (i := 83) rfl)) (by decide) (by decide)) (g := (mkF m 133 #[.val (.int r1), .val (.int n1), .val (.int ka), .val (.int kb), .val (.int kc), .val (.int fl), .val (.int (2 : Int32)), .val (.int v690), .val (.int v693), .val (.int v696), .val (.int v699), .val (.ref b703), .val (.ref b731), .val (.long (1 : Int64)), .second, .val (.long v864), .second, .unset, .unset, .unset, .unset, .unset, .unset, .unset, .unset] [(.int ((fl.toUInt32 >>> ((4 : Int32) &&& 31).toUInt32).toInt32)), (.int v696)])) rfl (by rw [hml]; rfl) (argsL := [(.int v696), (.int ((fl.toUInt32 >>> ((4 : Int32) &&& 31).toUInt32).toInt32))]) (rest := []) (lenOf pd_8 rfl) rfl (by show 2 * 0 + _ ≤ _; exact Nat.le_of_eq rfl) (hb hby at_133) (fun _ _ => ⟨rfl, e863, (by decide : 28 + 0 ≤ _), (by decide : 56 + 0 ≤ _)⟩)
    dsimp only [Pt.U, Pt.locs, Pt.cells, Pt.slots] at X868 l868 y868 z868 st868 hQ868
    subst l868 y868 z868
    obtain ⟨rfl, N868q, e868⟩ := hQ868
    have N868 := Fr.app N863 N868q
    have S870 : ∀ t, Steps p.tables e below (T868.setTop (mkF m 139 #[.val (.int r1), .val (.int n1), .val (.int ka), .val (.int kb), .val (.int kc), .val (.int fl), .val (.int (2 : Int32)), .val (.int v690), .val (.int v693), .val (.int v696), .val (.int v699), .val (.ref b703), .val (.ref b731), .val (.long (1 : Int64)), .second, .val (.long v864), .second, .unset, .unset, .unset, .unset, .unset, .unset, .unset, .unset] [(.long ((own_rad v696 ((fl.toUInt32 >>> ((4 : Int32) &&& 31).toUInt32).toInt32)) * v864))])) t → Steps p.tables e below (T868.setTop (mkF m 136 #[.val (.int r1), .val (.int n1), .val (.int ka), .val (.int kb), .val (.int kc), .val (.int fl), .val (.int (2 : Int32)), .val (.int v690), .val (.int v693), .val (.int v696), .val (.int v699), .val (.ref b703), .val (.ref b731), .val (.long (1 : Int64)), .second, .val (.long v864), .second, .unset, .unset, .unset, .unset, .unset, .unset, .unset, .unset] [(.long (own_rad v696 ((fl.toUInt32 >>> ((4 : Int32) &&& 31).toUInt32).toInt32)))])) t := by
      intro t kt
      show Steps p.tables e below (T868.setTop (mkF m 136 #[.val (.int r1), .val (.int n1), .val (.int ka), .val (.int kb), .val (.int kc), .val (.int fl), .val (.int (2 : Int32)), .val (.int v690), .val (.int v693), .val (.int v696), .val (.int v699), .val (.ref b703), .val (.ref b731), .val (.long (1 : Int64)), .second, .val (.long v864), .second, .unset, .unset, .unset, .unset, .unset, .unset, .unset, .unset] [(.long (own_rad v696 ((fl.toUInt32 >>> ((4 : Int32) &&& 31).toUInt32).toInt32)))])) _
      refine XS.lload X868.here hx rfl (hb hby at_136) rfl ?_
      refine XS.lmul X868.here hx rfl (hb hby at_138) rfl ?_
      exact kt
    obtain ⟨v869, hv869⟩ : ∃ z : Int64, z = ((own_rad v696 ((fl.toUInt32 >>> ((4 : Int32) &&& 31).toUInt32).toInt32)) * v864) := ⟨_, rfl⟩
    have S871 : ∀ t, Steps p.tables e below (T868.setTop (mkF m 139 #[.val (.int r1), .val (.int n1), .val (.int ka), .val (.int kb), .val (.int kc), .val (.int fl), .val (.int (2 : Int32)), .val (.int v690), .val (.int v693), .val (.int v696), .val (.int v699), .val (.ref b703), .val (.ref b731), .val (.long (1 : Int64)), .second, .val (.long v864), .second, .unset, .unset, .unset, .unset, .unset, .unset, .unset, .unset] [(.long v869)])) t → Steps p.tables e below (T868.setTop (mkF m 139 #[.val (.int r1), .val (.int n1), .val (.int ka), .val (.int kb), .val (.int kc), .val (.int fl), .val (.int (2 : Int32)), .val (.int v690), .val (.int v693), .val (.int v696), .val (.int v699), .val (.ref b703), .val (.ref b731), .val (.long (1 : Int64)), .second, .val (.long v864), .second, .unset, .unset, .unset, .unset, .unset, .unset, .unset, .unset] [(.long ((own_rad v696 ((fl.toUInt32 >>> ((4 : Int32) &&& 31).toUInt32).toInt32)) * v864))])) t := fun t k => by rw [hv869.symm]; exact k
    have S872 : ∀ t, Steps p.tables e below (T868.setTop (mkF m 148 #[.val (.int r1), .val (.int n1), .val (.int ka), .val (.int kb), .val (.int kc), .val (.int fl), .val (.int (2 : Int32)), .val (.int v690), .val (.int v693), .val (.int v696), .val (.int v699), .val (.ref b703), .val (.ref b731), .val (.long (1 : Int64)), .second, .val (.long v864), .second, .val (.long v869), .second, .unset, .unset, .unset, .unset, .unset, .unset] [(.int ((fl.toUInt32 >>> ((6 : Int32) &&& 31).toUInt32).toInt32)), (.int v699)])) t → Steps p.tables e below (T868.setTop (mkF m 139 #[.val (.int r1), .val (.int n1), .val (.int ka), .val (.int kb), .val (.int kc), .val (.int fl), .val (.int (2 : Int32)), .val (.int v690), .val (.int v693), .val (.int v696), .val (.int v699), .val (.ref b703), .val (.ref b731), .val (.long (1 : Int64)), .second, .val (.long v864), .second, .unset, .unset, .unset, .unset, .unset, .unset, .unset, .unset] [(.long v869)])) t := by
      intro t kt
      show Steps p.tables e below (T868.setTop (mkF m 139 #[.val (.int r1), .val (.int n1), .val (.int ka), .val (.int kb), .val (.int kc), .val (.int fl), .val (.int (2 : Int32)), .val (.int v690), .val (.int v693), .val (.int v696), .val (.int v699), .val (.ref b703), .val (.ref b731), .val (.long (1 : Int64)), .second, .val (.long v864), .second, .unset, .unset, .unset, .unset, .unset, .unset, .unset, .unset] [(.long v869)])) _
      refine XS.lstore X868.here hx rfl (hb hby at_139) rfl (l' := #[.val (.int r1), .val (.int n1), .val (.int ka), .val (.int kb), .val (.int kc), .val (.int fl), .val (.int (2 : Int32)), .val (.int v690), .val (.int v693), .val (.int v696), .val (.int v699), .val (.ref b703), .val (.ref b731), .val (.long (1 : Int64)), .second, .val (.long v864), .second, .val (.long v869), .second, .unset, .unset, .unset, .unset, .unset, .unset]) rfl ?_
      refine XS.iload X868.here hx rfl (hb hby at_141) rfl ?_
      refine XS.iload X868.here hx rfl (hb hby at_143) rfl ?_
      refine XS.bipush X868.here hx rfl (hb hby at_145) ?_
      refine XS.iushr X868.here hx rfl (hb hby at_147) rfl ?_
      exact kt
    obtain ⟨_, _, ⟨T873, L873, k873, n873⟩, -, X873, ⟨Lc873, hQ873, l873, y873, z873⟩, st873⟩ := Jvm.LawKit.callS X868 hx (y := (⟨"com/example/joinery/joinery/KeyGridFitsPinLaw", "radix", "(II)J"⟩ : MethodName)) hown (mvT hZ (hw _ (List.mem_of_getElem? (i := 94) rfl))) (mvT hZ (hw _ (List.mem_of_getElem? (i := 95) rfl))) (mvT hZ (hw _ (List.mem_of_getElem? (i := 83) rfl))) (mvT hZ (hw _ (List.mem_of_getElem? (i := 96) rfl))) (by decide) (backOf (W := 0) (rm10 l Z a0 hw [] v699 ((fl.toUInt32 >>> ((6 : Int32) &&& 31).toUInt32).toInt32) h860 n0 z861 ) hZ (hw _ (List.mem_of_getElem? (i := 96) rfl)) (hw _ (List.mem_of_getElem? (i := 83) rfl)) (by decide) (by decide)) (g := (mkF m 148 #[.val (.int r1), .val (.int n1), .val (.int ka), .val (.int kb), .val (.int kc), .val (.int fl), .val (.int (2 : Int32)), .val (.int v690), .val (.int v693), .val (.int v696), .val (.int v699), .val (.ref b703), .val (.ref b731), .val (.long (1 : Int64)), .second, .val (.long v864), .second, .val (.long v869), .second, .unset, .unset, .unset, .unset, .unset, .unset] [(.int ((fl.toUInt32 >>> ((6 : Int32) &&& 31).toUInt32).toInt32)), (.int v699)])) rfl (by rw [hml]; rfl) (argsL := [(.int v699), (.int ((fl.toUInt32 >>> ((6 : Int32) &&& 31).toUInt32).toInt32))]) (rest := []) (lenOf pd_8 rfl) rfl (by show 2 * 0 + _ ≤ _; exact Nat.le_of_eq rfl) (hb hby at_148) (fun _ _ => ⟨rfl, e868, (by decide : 28 + 0 ≤ _), (by decide : 56 + 0 ≤ _)⟩)
    dsimp only [Pt.U, Pt.locs, Pt.cells, Pt.slots] at X873 l873 y873 z873 st873 hQ873
    subst l873 y873 z873
    obtain ⟨rfl, N873q, e873⟩ := hQ873
    have N873 := Fr.app N868 N873q
    have S875 : ∀ t, Steps p.tables e below (T873.setTop (mkF m 154 #[.val (.int r1), .val (.int n1), .val (.int ka), .val (.int kb), .val (.int kc), .val (.int fl), .val (.int (2 : Int32)), .val (.int v690), .val (.int v693), .val (.int v696), .val (.int v699), .val (.ref b703), .val (.ref b731), .val (.long (1 : Int64)), .second, .val (.long v864), .second, .val (.long v869), .second, .unset, .unset, .unset, .unset, .unset, .unset] [(.long ((own_rad v699 ((fl.toUInt32 >>> ((6 : Int32) &&& 31).toUInt32).toInt32)) * v869))])) t → Steps p.tables e below (T873.setTop (mkF m 151 #[.val (.int r1), .val (.int n1), .val (.int ka), .val (.int kb), .val (.int kc), .val (.int fl), .val (.int (2 : Int32)), .val (.int v690), .val (.int v693), .val (.int v696), .val (.int v699), .val (.ref b703), .val (.ref b731), .val (.long (1 : Int64)), .second, .val (.long v864), .second, .val (.long v869), .second, .unset, .unset, .unset, .unset, .unset, .unset] [(.long (own_rad v699 ((fl.toUInt32 >>> ((6 : Int32) &&& 31).toUInt32).toInt32)))])) t := by
      intro t kt
      show Steps p.tables e below (T873.setTop (mkF m 151 #[.val (.int r1), .val (.int n1), .val (.int ka), .val (.int kb), .val (.int kc), .val (.int fl), .val (.int (2 : Int32)), .val (.int v690), .val (.int v693), .val (.int v696), .val (.int v699), .val (.ref b703), .val (.ref b731), .val (.long (1 : Int64)), .second, .val (.long v864), .second, .val (.long v869), .second, .unset, .unset, .unset, .unset, .unset, .unset] [(.long (own_rad v699 ((fl.toUInt32 >>> ((6 : Int32) &&& 31).toUInt32).toInt32)))])) _
      refine XS.lload X873.here hx rfl (hb hby at_151) rfl ?_
      refine XS.lmul X873.here hx rfl (hb hby at_153) rfl ?_
      exact kt
    obtain ⟨v874, hv874⟩ : ∃ z : Int64, z = ((own_rad v699 ((fl.toUInt32 >>> ((6 : Int32) &&& 31).toUInt32).toInt32)) * v869) := ⟨_, rfl⟩
    have S876 : ∀ t, Steps p.tables e below (T873.setTop (mkF m 154 #[.val (.int r1), .val (.int n1), .val (.int ka), .val (.int kb), .val (.int kc), .val (.int fl), .val (.int (2 : Int32)), .val (.int v690), .val (.int v693), .val (.int v696), .val (.int v699), .val (.ref b703), .val (.ref b731), .val (.long (1 : Int64)), .second, .val (.long v864), .second, .val (.long v869), .second, .unset, .unset, .unset, .unset, .unset, .unset] [(.long v874)])) t → Steps p.tables e below (T873.setTop (mkF m 154 #[.val (.int r1), .val (.int n1), .val (.int ka), .val (.int kb), .val (.int kc), .val (.int fl), .val (.int (2 : Int32)), .val (.int v690), .val (.int v693), .val (.int v696), .val (.int v699), .val (.ref b703), .val (.ref b731), .val (.long (1 : Int64)), .second, .val (.long v864), .second, .val (.long v869), .second, .unset, .unset, .unset, .unset, .unset, .unset] [(.long ((own_rad v699 ((fl.toUInt32 >>> ((6 : Int32) &&& 31).toUInt32).toInt32)) * v869))])) t := fun t k => by rw [hv874.symm]; exact k
    have S877 : ∀ t, Steps p.tables e below (T873.setTop (mkF m 160 #[.val (.int r1), .val (.int n1), .val (.int ka), .val (.int kb), .val (.int kc), .val (.int fl), .val (.int (2 : Int32)), .val (.int v690), .val (.int v693), .val (.int v696), .val (.int v699), .val (.ref b703), .val (.ref b731), .val (.long (1 : Int64)), .second, .val (.long v864), .second, .val (.long v869), .second, .val (.long v874), .second, .unset, .unset, .unset, .unset] [(.int ((3 : Int32) - (2 : Int32)))])) t → Steps p.tables e below (T873.setTop (mkF m 154 #[.val (.int r1), .val (.int n1), .val (.int ka), .val (.int kb), .val (.int kc), .val (.int fl), .val (.int (2 : Int32)), .val (.int v690), .val (.int v693), .val (.int v696), .val (.int v699), .val (.ref b703), .val (.ref b731), .val (.long (1 : Int64)), .second, .val (.long v864), .second, .val (.long v869), .second, .unset, .unset, .unset, .unset, .unset, .unset] [(.long v874)])) t := by
      intro t kt
      show Steps p.tables e below (T873.setTop (mkF m 154 #[.val (.int r1), .val (.int n1), .val (.int ka), .val (.int kb), .val (.int kc), .val (.int fl), .val (.int (2 : Int32)), .val (.int v690), .val (.int v693), .val (.int v696), .val (.int v699), .val (.ref b703), .val (.ref b731), .val (.long (1 : Int64)), .second, .val (.long v864), .second, .val (.long v869), .second, .unset, .unset, .unset, .unset, .unset, .unset] [(.long v874)])) _
      refine XS.lstore X873.here hx rfl (hb hby at_154) rfl (l' := #[.val (.int r1), .val (.int n1), .val (.int ka), .val (.int kb), .val (.int kc), .val (.int fl), .val (.int (2 : Int32)), .val (.int v690), .val (.int v693), .val (.int v696), .val (.int v699), .val (.ref b703), .val (.ref b731), .val (.long (1 : Int64)), .second, .val (.long v864), .second, .val (.long v869), .second, .val (.long v874), .second, .unset, .unset, .unset, .unset]) rfl ?_
      refine XS.iconst X873.here hx rfl (hb hby at_156) ?_
      refine XS.iload X873.here hx rfl (hb hby at_157) rfl ?_
      refine XS.isub X873.here hx rfl (hb hby at_159) rfl ?_
      exact kt
    have S878 : ∀ t, Steps p.tables e below (T873.setTop (mkF m 160 #[.val (.int r1), .val (.int n1), .val (.int ka), .val (.int kb), .val (.int kc), .val (.int fl), .val (.int (2 : Int32)), .val (.int v690), .val (.int v693), .val (.int v696), .val (.int v699), .val (.ref b703), .val (.ref b731), .val (.long (1 : Int64)), .second, .val (.long v864), .second, .val (.long v869), .second, .val (.long v874), .second, .unset, .unset, .unset, .unset] [(.int (1 : Int32))])) t → Steps p.tables e below (T873.setTop (mkF m 160 #[.val (.int r1), .val (.int n1), .val (.int ka), .val (.int kb), .val (.int kc), .val (.int fl), .val (.int (2 : Int32)), .val (.int v690), .val (.int v693), .val (.int v696), .val (.int v699), .val (.ref b703), .val (.ref b731), .val (.long (1 : Int64)), .second, .val (.long v864), .second, .val (.long v869), .second, .val (.long v874), .second, .unset, .unset, .unset, .unset] [(.int ((3 : Int32) - (2 : Int32)))])) t := fun t k => by rw [(show ((3 : Int32) - (2 : Int32)) = (1 : Int32) from by decide)]; exact k
    have S879 : ∀ t, Steps p.tables e below (T873.setTop (mkF m 166 #[.val (.int r1), .val (.int n1), .val (.int ka), .val (.int kb), .val (.int kc), .val (.int fl), .val (.int (2 : Int32)), .val (.int v690), .val (.int v693), .val (.int v696), .val (.int v699), .val (.ref b703), .val (.ref b731), .val (.long (1 : Int64)), .second, .val (.long v864), .second, .val (.long v869), .second, .val (.long v874), .second, .val (.int (1 : Int32)), .unset, .unset, .unset] [(.int (1 : Int32)), (.int v690)])) t → Steps p.tables e below (T873.setTop (mkF m 160 #[.val (.int r1), .val (.int n1), .val (.int ka), .val (.int kb), .val (.int kc), .val (.int fl), .val (.int (2 : Int32)), .val (.int v690), .val (.int v693), .val (.int v696), .val (.int v699), .val (.ref b703), .val (.ref b731), .val (.long (1 : Int64)), .second, .val (.long v864), .second, .val (.long v869), .second, .val (.long v874), .second, .unset, .unset, .unset, .unset] [(.int (1 : Int32))])) t := by
      intro t kt
      show Steps p.tables e below (T873.setTop (mkF m 160 #[.val (.int r1), .val (.int n1), .val (.int ka), .val (.int kb), .val (.int kc), .val (.int fl), .val (.int (2 : Int32)), .val (.int v690), .val (.int v693), .val (.int v696), .val (.int v699), .val (.ref b703), .val (.ref b731), .val (.long (1 : Int64)), .second, .val (.long v864), .second, .val (.long v869), .second, .val (.long v874), .second, .unset, .unset, .unset, .unset] [(.int (1 : Int32))])) _
      refine XS.istore X873.here hx rfl (hb hby at_160) rfl (l' := #[.val (.int r1), .val (.int n1), .val (.int ka), .val (.int kb), .val (.int kc), .val (.int fl), .val (.int (2 : Int32)), .val (.int v690), .val (.int v693), .val (.int v696), .val (.int v699), .val (.ref b703), .val (.ref b731), .val (.long (1 : Int64)), .second, .val (.long v864), .second, .val (.long v869), .second, .val (.long v874), .second, .val (.int (1 : Int32)), .unset, .unset, .unset]) rfl ?_
      refine XS.iload X873.here hx rfl (hb hby at_162) rfl ?_
      refine XS.iload X873.here hx rfl (hb hby at_164) rfl ?_
      exact kt
    by_cases hc880 : v690 < (1 : Int32)
    · have hEx := own_KG_exa hG858
      have S881 : ∀ t, Steps p.tables e below (T873.setTop (mkF m 242 #[.val (.int r1), .val (.int n1), .val (.int ka), .val (.int kb), .val (.int kc), .val (.int fl), .val (.int (2 : Int32)), .val (.int v690), .val (.int v693), .val (.int v696), .val (.int v699), .val (.ref b703), .val (.ref b731), .val (.long (1 : Int64)), .second, .val (.long v864), .second, .val (.long v869), .second, .val (.long v874), .second, .val (.int (1 : Int32)), .val (.int (0 : Int32)), .unset, .unset] [(.int v690), (.int r1), (.ref b703)])) t → Steps p.tables e below (T873.setTop (mkF m 166 #[.val (.int r1), .val (.int n1), .val (.int ka), .val (.int kb), .val (.int kc), .val (.int fl), .val (.int (2 : Int32)), .val (.int v690), .val (.int v693), .val (.int v696), .val (.int v699), .val (.ref b703), .val (.ref b731), .val (.long (1 : Int64)), .second, .val (.long v864), .second, .val (.long v869), .second, .val (.long v874), .second, .val (.int (1 : Int32)), .unset, .unset, .unset] [(.int (1 : Int32)), (.int v690)])) t := by
        intro t kt
        show Steps p.tables e below (T873.setTop (mkF m 166 #[.val (.int r1), .val (.int n1), .val (.int ka), .val (.int kb), .val (.int kc), .val (.int fl), .val (.int (2 : Int32)), .val (.int v690), .val (.int v693), .val (.int v696), .val (.int v699), .val (.ref b703), .val (.ref b731), .val (.long (1 : Int64)), .second, .val (.long v864), .second, .val (.long v869), .second, .val (.long v874), .second, .val (.int (1 : Int32)), .unset, .unset, .unset] [(.int (1 : Int32)), (.int v690)])) _
        refine XS.icmpNo X873.here hx rfl (hb hby at_166) rfl (tlt hc880).2.1 ?_
        refine XS.iconst X873.here hx rfl (hb hby at_169) ?_
        refine XS.istore X873.here hx rfl (hb hby at_170) rfl (l' := #[.val (.int r1), .val (.int n1), .val (.int ka), .val (.int kb), .val (.int kc), .val (.int fl), .val (.int (2 : Int32)), .val (.int v690), .val (.int v693), .val (.int v696), .val (.int v699), .val (.ref b703), .val (.ref b731), .val (.long (1 : Int64)), .second, .val (.long v864), .second, .val (.long v869), .second, .val (.long v874), .second, .val (.int (1 : Int32)), .val (.int (0 : Int32)), .unset, .unset]) rfl ?_
        refine XS.goto X873.here hx rfl (pc0 := 172) (pc' := 237) rfl (hb hby at_172) (by decide) (by decide) ?_
        refine XS.aload X873.here hx rfl (hb hby at_237) rfl rfl ?_
        show Steps p.tables e below (T873.setTop (mkF m 239 #[.val (.int r1), .val (.int n1), .val (.int ka), .val (.int kb), .val (.int kc), .val (.int fl), .val (.int (2 : Int32)), .val (.int v690), .val (.int v693), .val (.int v696), .val (.int v699), .val (.ref b703), .val (.ref b731), .val (.long (1 : Int64)), .second, .val (.long v864), .second, .val (.long v869), .second, .val (.long v874), .second, .val (.int (1 : Int32)), .val (.int (0 : Int32)), .unset, .unset] [(.ref b703)])) _
        refine XS.iloadN X873.here hx rfl (hb hby at_239) rfl ?_
        refine XS.iload X873.here hx rfl (hb hby at_240) rfl ?_
        exact kt
      obtain ⟨cq882, kq882, q882a, q882b, q882c⟩ := isOf hZ e873 hEx
      obtain ⟨_, _, ⟨T882, L882, k882, n882⟩, -, X882, ⟨Lc882, hQ882, l882, y882, z882⟩, st882⟩ := X873.virtualBack hx (y := (⟨"com/example/joinery/joinery/KeyGrid", "fits", "(II)Z"⟩ : MethodName)) (z := (⟨"com/example/joinery/joinery/KeyGrid", "fits", "(II)Z"⟩ : MethodName)) hown (mvT hZ (hw _ (List.mem_of_getElem? (i := 98) rfl))) (mvT hZ (hw _ (List.mem_of_getElem? (i := 99) rfl))) (notFace_of_selects (args := #[]) (mvT hZ (hw _ (List.mem_of_getElem? (i := 101) rfl)))) (mvT hZ (hw _ (List.mem_of_getElem? (i := 101) rfl))) (mvT hZ (hw _ (List.mem_of_getElem? (i := 100) rfl))) (by decide) (backOf (W := 0) (rm11 l Z a0 hw [] b703 b731 r1 v690 1 (own_put (own_put own_cv0 2 ((own_rad v693 ((fl.toUInt32 >>> ((2 : Int32) &&& 31).toUInt32).toInt32)) * own_cv0 3)) 1 ((own_rad v696 ((fl.toUInt32 >>> ((4 : Int32) &&& 31).toUInt32).toInt32)) * (own_put own_cv0 2 ((own_rad v693 ((fl.toUInt32 >>> ((2 : Int32) &&& 31).toUInt32).toInt32)) * own_cv0 3)) 2)) h860 n0 z861 hG858 (by decide) hname.2) hZ (hw _ (List.mem_of_getElem? (i := 102) rfl)) (hw _ (List.mem_of_getElem? (i := 4) rfl)) (by decide) (by decide)) q882a q882c (g := (mkF m 242 #[.val (.int r1), .val (.int n1), .val (.int ka), .val (.int kb), .val (.int kc), .val (.int fl), .val (.int (2 : Int32)), .val (.int v690), .val (.int v693), .val (.int v696), .val (.int v699), .val (.ref b703), .val (.ref b731), .val (.long (1 : Int64)), .second, .val (.long v864), .second, .val (.long v869), .second, .val (.long v874), .second, .val (.int (1 : Int32)), .val (.int (0 : Int32)), .unset, .unset] [(.int v690), (.int r1), (.ref b703)])) rfl (by rw [hml]; rfl) (Steps.refl _) (argsL := [(.int r1), (.int v690)]) (rest := []) (lenOf pd_9 rfl) rfl (by show 2 * 0 + _ ≤ _; exact Nat.le_of_eq rfl) (hb hby at_242) (fun _ _ => ⟨rfl, e873, (by decide : 28 + 0 ≤ _), (by decide : 56 + 0 ≤ _)⟩)
      dsimp only [Pt.U, Pt.locs, Pt.cells, Pt.slots] at X882 l882 y882 z882 st882 hQ882
      subst l882 y882 z882
      obtain ⟨rfl, N882q, e882⟩ := hQ882
      have N882 := Fr.app N873 N882q
      have S883 : ∀ t, Steps p.tables e below (T882.setTop (mkF m 255 #[.val (.int r1), .val (.int n1), .val (.int ka), .val (.int kb), .val (.int kc), .val (.int fl), .val (.int (2 : Int32)), .val (.int v690), .val (.int v693), .val (.int v696), .val (.int v699), .val (.ref b703), .val (.ref b731), .val (.long (1 : Int64)), .second, .val (.long v864), .second, .val (.long v869), .second, .val (.long v874), .second, .val (.int (1 : Int32)), .val (.int (0 : Int32)), .unset, .unset] [(.int (1 : Int32))])) t → Steps p.tables e below (T882.setTop (mkF m 245 #[.val (.int r1), .val (.int n1), .val (.int ka), .val (.int kb), .val (.int kc), .val (.int fl), .val (.int (2 : Int32)), .val (.int v690), .val (.int v693), .val (.int v696), .val (.int v699), .val (.ref b703), .val (.ref b731), .val (.long (1 : Int64)), .second, .val (.long v864), .second, .val (.long v869), .second, .val (.long v874), .second, .val (.int (1 : Int32)), .val (.int (0 : Int32)), .unset, .unset] [(.int (own_fits (own_put (own_put own_cv0 2 ((own_rad v693 ((fl.toUInt32 >>> ((2 : Int32) &&& 31).toUInt32).toInt32)) * own_cv0 3)) 1 ((own_rad v696 ((fl.toUInt32 >>> ((4 : Int32) &&& 31).toUInt32).toInt32)) * (own_put own_cv0 2 ((own_rad v693 ((fl.toUInt32 >>> ((2 : Int32) &&& 31).toUInt32).toInt32)) * own_cv0 3)) 2)) 1 r1 v690))])) t := by
        intro t kt
        show Steps p.tables e below (T882.setTop (mkF m 245 #[.val (.int r1), .val (.int n1), .val (.int ka), .val (.int kb), .val (.int kc), .val (.int fl), .val (.int (2 : Int32)), .val (.int v690), .val (.int v693), .val (.int v696), .val (.int v699), .val (.ref b703), .val (.ref b731), .val (.long (1 : Int64)), .second, .val (.long v864), .second, .val (.long v869), .second, .val (.long v874), .second, .val (.int (1 : Int32)), .val (.int (0 : Int32)), .unset, .unset] [(.int (own_fits (own_put (own_put own_cv0 2 ((own_rad v693 ((fl.toUInt32 >>> ((2 : Int32) &&& 31).toUInt32).toInt32)) * own_cv0 3)) 1 ((own_rad v696 ((fl.toUInt32 >>> ((4 : Int32) &&& 31).toUInt32).toInt32)) * (own_put own_cv0 2 ((own_rad v693 ((fl.toUInt32 >>> ((2 : Int32) &&& 31).toUInt32).toInt32)) * own_cv0 3)) 2)) 1 r1 v690))])) _
        refine XS.iload X882.here hx rfl (hb hby at_245) rfl ?_
        refine XS.icmpNo X882.here hx rfl (hb hby at_247) rfl (teq (own_lt (show v690 < Int32.ofNat 1 from hc880))).2 ?_
        refine XS.iconst X882.here hx rfl (hb hby at_250) ?_
        refine XS.goto X882.here hx rfl (pc0 := 251) (pc' := 255) rfl (hb hby at_251) (by decide) (by decide) ?_
        exact kt
      have C884 : ∀ t, Steps p.tables e below (T882.setTop (mkF m 255 #[.val (.int r1), .val (.int n1), .val (.int ka), .val (.int kb), .val (.int kc), .val (.int fl), .val (.int (2 : Int32)), .val (.int v690), .val (.int v693), .val (.int v696), .val (.int v699), .val (.ref b703), .val (.ref b731), .val (.long (1 : Int64)), .second, .val (.long v864), .second, .val (.long v869), .second, .val (.long v874), .second, .val (.int (1 : Int32)), .val (.int (0 : Int32)), .unset, .unset] [(.int (1 : Int32))])) t → Steps p.tables e below (s₁.setTop (mkF m 0 #[.val (.int r1), .val (.int n1), .val (.int ka), .val (.int kb), .val (.int kc), .val (.int fl), .unset, .unset, .unset, .unset, .unset, .unset, .unset, .unset, .unset, .unset, .unset, .unset, .unset, .unset, .unset, .unset, .unset, .unset, .unset] [])) t := (fun t k => (C734 t (S853 t (S855 t (st856 t (S859 t (st860 t (S862 t (st863 t (S865 t (S866 t (S867 t (st868 t (S870 t (S871 t (S872 t (st873 t (S875 t (S876 t (S877 t (S878 t (S879 t (S881 t (st882.trans (S883 t k)))))))))))))))))))))))))
      obtain ⟨fs, hr, hrun, hended, hW, hsame⟩ := X882.leave (v := some (.int (1 : Int32))) (fun h => by rw [Bd.returns] at h; cases h)
      refine ⟨_, _, pre0 _ (C884 _ ?_), hrun, hended, _, _, rfl, ?_, ⟨_, rfl⟩, hW, hsame.mono (by decide) (by decide)⟩
      · exact retN X882 hx (t := .boolean) Bd.returns (by simp) (hb hby at_255) hr
      · show Q_rm0 Z r1 n1 ka kb kc fl h0 n0 _ T882.heap _
        rw [e882]
        exact ⟨rfl, N882⟩
    · have S885 : ∀ t, Steps p.tables e below (T873.setTop (mkF m 178 #[.val (.int r1), .val (.int n1), .val (.int ka), .val (.int kb), .val (.int kc), .val (.int fl), .val (.int (2 : Int32)), .val (.int v690), .val (.int v693), .val (.int v696), .val (.int v699), .val (.ref b703), .val (.ref b731), .val (.long (1 : Int64)), .second, .val (.long v864), .second, .val (.long v869), .second, .val (.long v874), .second, .val (.int (1 : Int32)), .unset, .unset, .unset] [(.int (3 : Int32)), (.int v690)])) t → Steps p.tables e below (T873.setTop (mkF m 166 #[.val (.int r1), .val (.int n1), .val (.int ka), .val (.int kb), .val (.int kc), .val (.int fl), .val (.int (2 : Int32)), .val (.int v690), .val (.int v693), .val (.int v696), .val (.int v699), .val (.ref b703), .val (.ref b731), .val (.long (1 : Int64)), .second, .val (.long v864), .second, .val (.long v869), .second, .val (.long v874), .second, .val (.int (1 : Int32)), .unset, .unset, .unset] [(.int (1 : Int32)), (.int v690)])) t := by
        intro t kt
        show Steps p.tables e below (T873.setTop (mkF m 166 #[.val (.int r1), .val (.int n1), .val (.int ka), .val (.int kb), .val (.int kc), .val (.int fl), .val (.int (2 : Int32)), .val (.int v690), .val (.int v693), .val (.int v696), .val (.int v699), .val (.ref b703), .val (.ref b731), .val (.long (1 : Int64)), .second, .val (.long v864), .second, .val (.long v869), .second, .val (.long v874), .second, .val (.int (1 : Int32)), .unset, .unset, .unset] [(.int (1 : Int32)), (.int v690)])) _
        refine XS.icmpYes X873.here hx rfl (pc0 := 166) (pc' := 175) rfl (hb hby at_166) rfl (flt hc880).2.1 (by decide) (by decide) ?_
        refine XS.iload X873.here hx rfl (hb hby at_175) rfl ?_
        refine XS.iconst X873.here hx rfl (hb hby at_177) ?_
        exact kt
      by_cases hc886 : v690 = (3 : Int32)
      · have S887 : ∀ t, Steps p.tables e below (T873.setTop (mkF m 227 #[.val (.int r1), .val (.int n1), .val (.int ka), .val (.int kb), .val (.int kc), .val (.int fl), .val (.int (2 : Int32)), .val (.int v690), .val (.int v693), .val (.int v696), .val (.int v699), .val (.ref b703), .val (.ref b731), .val (.long (1 : Int64)), .second, .val (.long v864), .second, .val (.long v869), .second, .val (.long v874), .second, .val (.int (1 : Int32)), .unset, .val (.long (1 : Int64)), .second] [(.int (lcmpW (1 : Int64) ((16 : Int64) * (r1.toInt64))))])) t → Steps p.tables e below (T873.setTop (mkF m 178 #[.val (.int r1), .val (.int n1), .val (.int ka), .val (.int kb), .val (.int kc), .val (.int fl), .val (.int (2 : Int32)), .val (.int v690), .val (.int v693), .val (.int v696), .val (.int v699), .val (.ref b703), .val (.ref b731), .val (.long (1 : Int64)), .second, .val (.long v864), .second, .val (.long v869), .second, .val (.long v874), .second, .val (.int (1 : Int32)), .unset, .unset, .unset] [(.int (3 : Int32)), (.int v690)])) t := by
          intro t kt
          show Steps p.tables e below (T873.setTop (mkF m 178 #[.val (.int r1), .val (.int n1), .val (.int ka), .val (.int kb), .val (.int kc), .val (.int fl), .val (.int (2 : Int32)), .val (.int v690), .val (.int v693), .val (.int v696), .val (.int v699), .val (.ref b703), .val (.ref b731), .val (.long (1 : Int64)), .second, .val (.long v864), .second, .val (.long v869), .second, .val (.long v874), .second, .val (.int (1 : Int32)), .unset, .unset, .unset] [(.int (3 : Int32)), (.int v690)])) _
          refine XS.icmpNo X873.here hx rfl (hb hby at_178) rfl (teq hc886).2 ?_
          refine XS.lload X873.here hx rfl (hb hby at_181) rfl ?_
          refine XS.lstore X873.here hx rfl (hb hby at_183) rfl (l' := #[.val (.int r1), .val (.int n1), .val (.int ka), .val (.int kb), .val (.int kc), .val (.int fl), .val (.int (2 : Int32)), .val (.int v690), .val (.int v693), .val (.int v696), .val (.int v699), .val (.ref b703), .val (.ref b731), .val (.long (1 : Int64)), .second, .val (.long v864), .second, .val (.long v869), .second, .val (.long v874), .second, .val (.int (1 : Int32)), .unset, .val (.long (1 : Int64)), .second]) rfl ?_
          refine XS.goto X873.here hx rfl (pc0 := 185) (pc' := 218) rfl (hb hby at_185) (by decide) (by decide) ?_
          refine XS.lload X873.here hx rfl (hb hby at_218) rfl ?_
          show Steps p.tables e below (T873.setTop (mkF m 220 #[.val (.int r1), .val (.int n1), .val (.int ka), .val (.int kb), .val (.int kc), .val (.int fl), .val (.int (2 : Int32)), .val (.int v690), .val (.int v693), .val (.int v696), .val (.int v699), .val (.ref b703), .val (.ref b731), .val (.long (1 : Int64)), .second, .val (.long v864), .second, .val (.long v869), .second, .val (.long v874), .second, .val (.int (1 : Int32)), .unset, .val (.long (1 : Int64)), .second] [(.long (1 : Int64))])) _
          refine X873.ldc2Long hx hown (mvT hZ (hw _ (List.mem_of_getElem? (i := 97) rfl))) (g := (mkF m 220 #[.val (.int r1), .val (.int n1), .val (.int ka), .val (.int kb), .val (.int kc), .val (.int fl), .val (.int (2 : Int32)), .val (.int v690), .val (.int v693), .val (.int v696), .val (.int v699), .val (.ref b703), .val (.ref b731), .val (.long (1 : Int64)), .second, .val (.long v864), .second, .val (.long v869), .second, .val (.long v874), .second, .val (.int (1 : Int32)), .unset, .val (.long (1 : Int64)), .second] [(.long (1 : Int64))])) rfl (hb hby at_220) _ ?_
          refine XS.iloadN X873.here hx rfl (hb hby at_223) rfl ?_
          refine XS.i2l X873.here hx rfl (hb hby at_224) rfl ?_
          refine XS.lmul X873.here hx rfl (hb hby at_225) rfl ?_
          refine XS.lcmp X873.here hx rfl (hb hby at_226) rfl ?_
          exact kt
        obtain ⟨v890, hv890⟩ : ∃ z : Int32, z = (if ((16 : Int64) * (r1.toInt64)) < (1 : Int64) then (0 : Int32) else (1 : Int32)) := ⟨_, rfl⟩
        have S889 : ∀ t, Steps p.tables e below (T873.setTop (mkF m 235 #[.val (.int r1), .val (.int n1), .val (.int ka), .val (.int kb), .val (.int kc), .val (.int fl), .val (.int (2 : Int32)), .val (.int v690), .val (.int v693), .val (.int v696), .val (.int v699), .val (.ref b703), .val (.ref b731), .val (.long (1 : Int64)), .second, .val (.long v864), .second, .val (.long v869), .second, .val (.long v874), .second, .val (.int (1 : Int32)), .unset, .val (.long (1 : Int64)), .second] [(.int v890)])) t → Steps p.tables e below (T873.setTop (mkF m 227 #[.val (.int r1), .val (.int n1), .val (.int ka), .val (.int kb), .val (.int kc), .val (.int fl), .val (.int (2 : Int32)), .val (.int v690), .val (.int v693), .val (.int v696), .val (.int v699), .val (.ref b703), .val (.ref b731), .val (.long (1 : Int64)), .second, .val (.long v864), .second, .val (.long v869), .second, .val (.long v874), .second, .val (.int (1 : Int32)), .unset, .val (.long (1 : Int64)), .second] [(.int (lcmpW (1 : Int64) ((16 : Int64) * (r1.toInt64))))])) t := by
          intro t kt
          subst hv890
          by_cases hc888 : ((16 : Int64) * (r1.toInt64)) < (1 : Int64)
          · simp only [if_pos hc888] at kt
            show Steps p.tables e below (T873.setTop (mkF m 227 #[.val (.int r1), .val (.int n1), .val (.int ka), .val (.int kb), .val (.int kc), .val (.int fl), .val (.int (2 : Int32)), .val (.int v690), .val (.int v693), .val (.int v696), .val (.int v699), .val (.ref b703), .val (.ref b731), .val (.long (1 : Int64)), .second, .val (.long v864), .second, .val (.long v869), .second, .val (.long v874), .second, .val (.int (1 : Int32)), .unset, .val (.long (1 : Int64)), .second] [(.int (lcmpW (1 : Int64) ((16 : Int64) * (r1.toInt64))))])) _
            refine XS.ifYes X873.here hx rfl (pc0 := 227) (pc' := 234) rfl (hb hby at_227) rfl ((if0 _ _).trans (tlt ((lw_gt (1 : Int64) ((16 : Int64) * (r1.toInt64))).mpr hc888)).2.2.1) (by decide) (by decide) ?_
            refine XS.iconst X873.here hx rfl (hb hby at_234) ?_
            exact kt
          · simp only [if_neg hc888] at kt
            show Steps p.tables e below (T873.setTop (mkF m 227 #[.val (.int r1), .val (.int n1), .val (.int ka), .val (.int kb), .val (.int kc), .val (.int fl), .val (.int (2 : Int32)), .val (.int v690), .val (.int v693), .val (.int v696), .val (.int v699), .val (.ref b703), .val (.ref b731), .val (.long (1 : Int64)), .second, .val (.long v864), .second, .val (.long v869), .second, .val (.long v874), .second, .val (.int (1 : Int32)), .unset, .val (.long (1 : Int64)), .second] [(.int (lcmpW (1 : Int64) ((16 : Int64) * (r1.toInt64))))])) _
            refine XS.ifNo X873.here hx rfl (hb hby at_227) rfl ((if0 _ _).trans (flt (fun q => hc888 ((lw_gt (1 : Int64) ((16 : Int64) * (r1.toInt64))).mp q))).2.2.1) ?_
            refine XS.iconst X873.here hx rfl (hb hby at_230) ?_
            refine XS.goto X873.here hx rfl (pc0 := 231) (pc' := 235) rfl (hb hby at_231) (by decide) (by decide) ?_
            exact kt
        have hEx := own_KG_exa hG858
        have S891 : ∀ t, Steps p.tables e below (T873.setTop (mkF m 242 #[.val (.int r1), .val (.int n1), .val (.int ka), .val (.int kb), .val (.int kc), .val (.int fl), .val (.int (2 : Int32)), .val (.int v690), .val (.int v693), .val (.int v696), .val (.int v699), .val (.ref b703), .val (.ref b731), .val (.long (1 : Int64)), .second, .val (.long v864), .second, .val (.long v869), .second, .val (.long v874), .second, .val (.int (1 : Int32)), .val (.int v890), .val (.long (1 : Int64)), .second] [(.int v690), (.int r1), (.ref b703)])) t → Steps p.tables e below (T873.setTop (mkF m 235 #[.val (.int r1), .val (.int n1), .val (.int ka), .val (.int kb), .val (.int kc), .val (.int fl), .val (.int (2 : Int32)), .val (.int v690), .val (.int v693), .val (.int v696), .val (.int v699), .val (.ref b703), .val (.ref b731), .val (.long (1 : Int64)), .second, .val (.long v864), .second, .val (.long v869), .second, .val (.long v874), .second, .val (.int (1 : Int32)), .unset, .val (.long (1 : Int64)), .second] [(.int v890)])) t := by
          intro t kt
          show Steps p.tables e below (T873.setTop (mkF m 235 #[.val (.int r1), .val (.int n1), .val (.int ka), .val (.int kb), .val (.int kc), .val (.int fl), .val (.int (2 : Int32)), .val (.int v690), .val (.int v693), .val (.int v696), .val (.int v699), .val (.ref b703), .val (.ref b731), .val (.long (1 : Int64)), .second, .val (.long v864), .second, .val (.long v869), .second, .val (.long v874), .second, .val (.int (1 : Int32)), .unset, .val (.long (1 : Int64)), .second] [(.int v890)])) _
          refine XS.istore X873.here hx rfl (hb hby at_235) rfl (l' := #[.val (.int r1), .val (.int n1), .val (.int ka), .val (.int kb), .val (.int kc), .val (.int fl), .val (.int (2 : Int32)), .val (.int v690), .val (.int v693), .val (.int v696), .val (.int v699), .val (.ref b703), .val (.ref b731), .val (.long (1 : Int64)), .second, .val (.long v864), .second, .val (.long v869), .second, .val (.long v874), .second, .val (.int (1 : Int32)), .val (.int v890), .val (.long (1 : Int64)), .second]) rfl ?_
          refine XS.aload X873.here hx rfl (hb hby at_237) rfl rfl ?_
          refine XS.iloadN X873.here hx rfl (hb hby at_239) rfl ?_
          refine XS.iload X873.here hx rfl (hb hby at_240) rfl ?_
          exact kt
        obtain ⟨cq892, kq892, q892a, q892b, q892c⟩ := isOf hZ e873 hEx
        obtain ⟨_, _, ⟨T892, L892, k892, n892⟩, -, X892, ⟨Lc892, hQ892, l892, y892, z892⟩, st892⟩ := X873.virtualBack hx (y := (⟨"com/example/joinery/joinery/KeyGrid", "fits", "(II)Z"⟩ : MethodName)) (z := (⟨"com/example/joinery/joinery/KeyGrid", "fits", "(II)Z"⟩ : MethodName)) hown (mvT hZ (hw _ (List.mem_of_getElem? (i := 98) rfl))) (mvT hZ (hw _ (List.mem_of_getElem? (i := 99) rfl))) (notFace_of_selects (args := #[]) (mvT hZ (hw _ (List.mem_of_getElem? (i := 101) rfl)))) (mvT hZ (hw _ (List.mem_of_getElem? (i := 101) rfl))) (mvT hZ (hw _ (List.mem_of_getElem? (i := 100) rfl))) (by decide) (backOf (W := 0) (rm11 l Z a0 hw [] b703 b731 r1 v690 1 (own_put (own_put own_cv0 2 ((own_rad v693 ((fl.toUInt32 >>> ((2 : Int32) &&& 31).toUInt32).toInt32)) * own_cv0 3)) 1 ((own_rad v696 ((fl.toUInt32 >>> ((4 : Int32) &&& 31).toUInt32).toInt32)) * (own_put own_cv0 2 ((own_rad v693 ((fl.toUInt32 >>> ((2 : Int32) &&& 31).toUInt32).toInt32)) * own_cv0 3)) 2)) h860 n0 z861 hG858 (by decide) hname.2) hZ (hw _ (List.mem_of_getElem? (i := 102) rfl)) (hw _ (List.mem_of_getElem? (i := 4) rfl)) (by decide) (by decide)) q892a q892c (g := (mkF m 242 #[.val (.int r1), .val (.int n1), .val (.int ka), .val (.int kb), .val (.int kc), .val (.int fl), .val (.int (2 : Int32)), .val (.int v690), .val (.int v693), .val (.int v696), .val (.int v699), .val (.ref b703), .val (.ref b731), .val (.long (1 : Int64)), .second, .val (.long v864), .second, .val (.long v869), .second, .val (.long v874), .second, .val (.int (1 : Int32)), .val (.int v890), .val (.long (1 : Int64)), .second] [(.int v690), (.int r1), (.ref b703)])) rfl (by rw [hml]; rfl) (Steps.refl _) (argsL := [(.int r1), (.int v690)]) (rest := []) (lenOf pd_9 rfl) rfl (by show 2 * 0 + _ ≤ _; exact Nat.le_of_eq rfl) (hb hby at_242) (fun _ _ => ⟨rfl, e873, (by decide : 28 + 0 ≤ _), (by decide : 56 + 0 ≤ _)⟩)
        dsimp only [Pt.U, Pt.locs, Pt.cells, Pt.slots] at X892 l892 y892 z892 st892 hQ892
        subst l892 y892 z892
        obtain ⟨rfl, N892q, e892⟩ := hQ892
        have N892 := Fr.app N873 N892q
        have S893 : ∀ t, Steps p.tables e below (T892.setTop (mkF m 255 #[.val (.int r1), .val (.int n1), .val (.int ka), .val (.int kb), .val (.int kc), .val (.int fl), .val (.int (2 : Int32)), .val (.int v690), .val (.int v693), .val (.int v696), .val (.int v699), .val (.ref b703), .val (.ref b731), .val (.long (1 : Int64)), .second, .val (.long v864), .second, .val (.long v869), .second, .val (.long v874), .second, .val (.int (1 : Int32)), .val (.int v890), .val (.long (1 : Int64)), .second] [(.int (1 : Int32))])) t → Steps p.tables e below (T892.setTop (mkF m 245 #[.val (.int r1), .val (.int n1), .val (.int ka), .val (.int kb), .val (.int kc), .val (.int fl), .val (.int (2 : Int32)), .val (.int v690), .val (.int v693), .val (.int v696), .val (.int v699), .val (.ref b703), .val (.ref b731), .val (.long (1 : Int64)), .second, .val (.long v864), .second, .val (.long v869), .second, .val (.long v874), .second, .val (.int (1 : Int32)), .val (.int v890), .val (.long (1 : Int64)), .second] [(.int (own_fits (own_put (own_put own_cv0 2 ((own_rad v693 ((fl.toUInt32 >>> ((2 : Int32) &&& 31).toUInt32).toInt32)) * own_cv0 3)) 1 ((own_rad v696 ((fl.toUInt32 >>> ((4 : Int32) &&& 31).toUInt32).toInt32)) * (own_put own_cv0 2 ((own_rad v693 ((fl.toUInt32 >>> ((2 : Int32) &&& 31).toUInt32).toInt32)) * own_cv0 3)) 2)) 1 r1 v690))])) t := by
          intro t kt
          show Steps p.tables e below (T892.setTop (mkF m 245 #[.val (.int r1), .val (.int n1), .val (.int ka), .val (.int kb), .val (.int kc), .val (.int fl), .val (.int (2 : Int32)), .val (.int v690), .val (.int v693), .val (.int v696), .val (.int v699), .val (.ref b703), .val (.ref b731), .val (.long (1 : Int64)), .second, .val (.long v864), .second, .val (.long v869), .second, .val (.long v874), .second, .val (.int (1 : Int32)), .val (.int v890), .val (.long (1 : Int64)), .second] [(.int (own_fits (own_put (own_put own_cv0 2 ((own_rad v693 ((fl.toUInt32 >>> ((2 : Int32) &&& 31).toUInt32).toInt32)) * own_cv0 3)) 1 ((own_rad v696 ((fl.toUInt32 >>> ((4 : Int32) &&& 31).toUInt32).toInt32)) * (own_put own_cv0 2 ((own_rad v693 ((fl.toUInt32 >>> ((2 : Int32) &&& 31).toUInt32).toInt32)) * own_cv0 3)) 2)) 1 r1 v690))])) _
          refine XS.iload X892.here hx rfl (hb hby at_245) rfl ?_
          refine XS.icmpNo X892.here hx rfl (hb hby at_247) rfl (teq (own_ge (k := 1) hc880 (show (own_put (own_put own_cv0 2 ((own_rad v693 ((fl.toUInt32 >>> ((2 : Int32) &&& 31).toUInt32).toInt32)) * own_cv0 3)) 1 ((own_rad v696 ((fl.toUInt32 >>> ((4 : Int32) &&& 31).toUInt32).toInt32)) * (own_put own_cv0 2 ((own_rad v693 ((fl.toUInt32 >>> ((2 : Int32) &&& 31).toUInt32).toInt32)) * own_cv0 3)) 2)) v690.toInt.toNat = (1 : Int64) from by rw [show v690 = (3 : Int32) from hc886]; rfl) hv890)).2 ?_
          refine XS.iconst X892.here hx rfl (hb hby at_250) ?_
          refine XS.goto X892.here hx rfl (pc0 := 251) (pc' := 255) rfl (hb hby at_251) (by decide) (by decide) ?_
          exact kt
        have C894 : ∀ t, Steps p.tables e below (T892.setTop (mkF m 255 #[.val (.int r1), .val (.int n1), .val (.int ka), .val (.int kb), .val (.int kc), .val (.int fl), .val (.int (2 : Int32)), .val (.int v690), .val (.int v693), .val (.int v696), .val (.int v699), .val (.ref b703), .val (.ref b731), .val (.long (1 : Int64)), .second, .val (.long v864), .second, .val (.long v869), .second, .val (.long v874), .second, .val (.int (1 : Int32)), .val (.int v890), .val (.long (1 : Int64)), .second] [(.int (1 : Int32))])) t → Steps p.tables e below (s₁.setTop (mkF m 0 #[.val (.int r1), .val (.int n1), .val (.int ka), .val (.int kb), .val (.int kc), .val (.int fl), .unset, .unset, .unset, .unset, .unset, .unset, .unset, .unset, .unset, .unset, .unset, .unset, .unset, .unset, .unset, .unset, .unset, .unset, .unset] [])) t := (fun t k => (C734 t (S853 t (S855 t (st856 t (S859 t (st860 t (S862 t (st863 t (S865 t (S866 t (S867 t (st868 t (S870 t (S871 t (S872 t (st873 t (S875 t (S876 t (S877 t (S878 t (S879 t (S885 t (S887 t (S889 t (S891 t (st892.trans (S893 t k))))))))))))))))))))))))))))
        obtain ⟨fs, hr, hrun, hended, hW, hsame⟩ := X892.leave (v := some (.int (1 : Int32))) (fun h => by rw [Bd.returns] at h; cases h)
        refine ⟨_, _, pre0 _ (C894 _ ?_), hrun, hended, _, _, rfl, ?_, ⟨_, rfl⟩, hW, hsame.mono (by decide) (by decide)⟩
        · exact retN X892 hx (t := .boolean) Bd.returns (by simp) (hb hby at_255) hr
        · show Q_rm0 Z r1 n1 ka kb kc fl h0 n0 _ T892.heap _
          rw [e892]
          exact ⟨rfl, N892⟩
      · have S895 : ∀ t, Steps p.tables e below (T873.setTop (mkF m 191 #[.val (.int r1), .val (.int n1), .val (.int ka), .val (.int kb), .val (.int kc), .val (.int fl), .val (.int (2 : Int32)), .val (.int v690), .val (.int v693), .val (.int v696), .val (.int v699), .val (.ref b703), .val (.ref b731), .val (.long (1 : Int64)), .second, .val (.long v864), .second, .val (.long v869), .second, .val (.long v874), .second, .val (.int (1 : Int32)), .unset, .unset, .unset] [(.int (2 : Int32)), (.int v690)])) t → Steps p.tables e below (T873.setTop (mkF m 178 #[.val (.int r1), .val (.int n1), .val (.int ka), .val (.int kb), .val (.int kc), .val (.int fl), .val (.int (2 : Int32)), .val (.int v690), .val (.int v693), .val (.int v696), .val (.int v699), .val (.ref b703), .val (.ref b731), .val (.long (1 : Int64)), .second, .val (.long v864), .second, .val (.long v869), .second, .val (.long v874), .second, .val (.int (1 : Int32)), .unset, .unset, .unset] [(.int (3 : Int32)), (.int v690)])) t := by
          intro t kt
          show Steps p.tables e below (T873.setTop (mkF m 178 #[.val (.int r1), .val (.int n1), .val (.int ka), .val (.int kb), .val (.int kc), .val (.int fl), .val (.int (2 : Int32)), .val (.int v690), .val (.int v693), .val (.int v696), .val (.int v699), .val (.ref b703), .val (.ref b731), .val (.long (1 : Int64)), .second, .val (.long v864), .second, .val (.long v869), .second, .val (.long v874), .second, .val (.int (1 : Int32)), .unset, .unset, .unset] [(.int (3 : Int32)), (.int v690)])) _
          refine XS.icmpYes X873.here hx rfl (pc0 := 178) (pc' := 188) rfl (hb hby at_178) rfl (feq hc886).2 (by decide) (by decide) ?_
          refine XS.iload X873.here hx rfl (hb hby at_188) rfl ?_
          refine XS.iconst X873.here hx rfl (hb hby at_190) ?_
          exact kt
        by_cases hc896 : v690 = (2 : Int32)
        · have S897 : ∀ t, Steps p.tables e below (T873.setTop (mkF m 227 #[.val (.int r1), .val (.int n1), .val (.int ka), .val (.int kb), .val (.int kc), .val (.int fl), .val (.int (2 : Int32)), .val (.int v690), .val (.int v693), .val (.int v696), .val (.int v699), .val (.ref b703), .val (.ref b731), .val (.long (1 : Int64)), .second, .val (.long v864), .second, .val (.long v869), .second, .val (.long v874), .second, .val (.int (1 : Int32)), .unset, .val (.long v864), .second] [(.int (lcmpW v864 ((16 : Int64) * (r1.toInt64))))])) t → Steps p.tables e below (T873.setTop (mkF m 191 #[.val (.int r1), .val (.int n1), .val (.int ka), .val (.int kb), .val (.int kc), .val (.int fl), .val (.int (2 : Int32)), .val (.int v690), .val (.int v693), .val (.int v696), .val (.int v699), .val (.ref b703), .val (.ref b731), .val (.long (1 : Int64)), .second, .val (.long v864), .second, .val (.long v869), .second, .val (.long v874), .second, .val (.int (1 : Int32)), .unset, .unset, .unset] [(.int (2 : Int32)), (.int v690)])) t := by
            intro t kt
            show Steps p.tables e below (T873.setTop (mkF m 191 #[.val (.int r1), .val (.int n1), .val (.int ka), .val (.int kb), .val (.int kc), .val (.int fl), .val (.int (2 : Int32)), .val (.int v690), .val (.int v693), .val (.int v696), .val (.int v699), .val (.ref b703), .val (.ref b731), .val (.long (1 : Int64)), .second, .val (.long v864), .second, .val (.long v869), .second, .val (.long v874), .second, .val (.int (1 : Int32)), .unset, .unset, .unset] [(.int (2 : Int32)), (.int v690)])) _
            refine XS.icmpNo X873.here hx rfl (hb hby at_191) rfl (teq hc896).2 ?_
            refine XS.lload X873.here hx rfl (hb hby at_194) rfl ?_
            refine XS.lstore X873.here hx rfl (hb hby at_196) rfl (l' := #[.val (.int r1), .val (.int n1), .val (.int ka), .val (.int kb), .val (.int kc), .val (.int fl), .val (.int (2 : Int32)), .val (.int v690), .val (.int v693), .val (.int v696), .val (.int v699), .val (.ref b703), .val (.ref b731), .val (.long (1 : Int64)), .second, .val (.long v864), .second, .val (.long v869), .second, .val (.long v874), .second, .val (.int (1 : Int32)), .unset, .val (.long v864), .second]) rfl ?_
            refine XS.goto X873.here hx rfl (pc0 := 198) (pc' := 218) rfl (hb hby at_198) (by decide) (by decide) ?_
            refine XS.lload X873.here hx rfl (hb hby at_218) rfl ?_
            show Steps p.tables e below (T873.setTop (mkF m 220 #[.val (.int r1), .val (.int n1), .val (.int ka), .val (.int kb), .val (.int kc), .val (.int fl), .val (.int (2 : Int32)), .val (.int v690), .val (.int v693), .val (.int v696), .val (.int v699), .val (.ref b703), .val (.ref b731), .val (.long (1 : Int64)), .second, .val (.long v864), .second, .val (.long v869), .second, .val (.long v874), .second, .val (.int (1 : Int32)), .unset, .val (.long v864), .second] [(.long v864)])) _
            refine X873.ldc2Long hx hown (mvT hZ (hw _ (List.mem_of_getElem? (i := 97) rfl))) (g := (mkF m 220 #[.val (.int r1), .val (.int n1), .val (.int ka), .val (.int kb), .val (.int kc), .val (.int fl), .val (.int (2 : Int32)), .val (.int v690), .val (.int v693), .val (.int v696), .val (.int v699), .val (.ref b703), .val (.ref b731), .val (.long (1 : Int64)), .second, .val (.long v864), .second, .val (.long v869), .second, .val (.long v874), .second, .val (.int (1 : Int32)), .unset, .val (.long v864), .second] [(.long v864)])) rfl (hb hby at_220) _ ?_
            refine XS.iloadN X873.here hx rfl (hb hby at_223) rfl ?_
            refine XS.i2l X873.here hx rfl (hb hby at_224) rfl ?_
            refine XS.lmul X873.here hx rfl (hb hby at_225) rfl ?_
            refine XS.lcmp X873.here hx rfl (hb hby at_226) rfl ?_
            exact kt
          obtain ⟨v900, hv900⟩ : ∃ z : Int32, z = (if ((16 : Int64) * (r1.toInt64)) < v864 then (0 : Int32) else (1 : Int32)) := ⟨_, rfl⟩
          have S899 : ∀ t, Steps p.tables e below (T873.setTop (mkF m 235 #[.val (.int r1), .val (.int n1), .val (.int ka), .val (.int kb), .val (.int kc), .val (.int fl), .val (.int (2 : Int32)), .val (.int v690), .val (.int v693), .val (.int v696), .val (.int v699), .val (.ref b703), .val (.ref b731), .val (.long (1 : Int64)), .second, .val (.long v864), .second, .val (.long v869), .second, .val (.long v874), .second, .val (.int (1 : Int32)), .unset, .val (.long v864), .second] [(.int v900)])) t → Steps p.tables e below (T873.setTop (mkF m 227 #[.val (.int r1), .val (.int n1), .val (.int ka), .val (.int kb), .val (.int kc), .val (.int fl), .val (.int (2 : Int32)), .val (.int v690), .val (.int v693), .val (.int v696), .val (.int v699), .val (.ref b703), .val (.ref b731), .val (.long (1 : Int64)), .second, .val (.long v864), .second, .val (.long v869), .second, .val (.long v874), .second, .val (.int (1 : Int32)), .unset, .val (.long v864), .second] [(.int (lcmpW v864 ((16 : Int64) * (r1.toInt64))))])) t := by
            intro t kt
            subst hv900
            by_cases hc898 : ((16 : Int64) * (r1.toInt64)) < v864
            · simp only [if_pos hc898] at kt
              show Steps p.tables e below (T873.setTop (mkF m 227 #[.val (.int r1), .val (.int n1), .val (.int ka), .val (.int kb), .val (.int kc), .val (.int fl), .val (.int (2 : Int32)), .val (.int v690), .val (.int v693), .val (.int v696), .val (.int v699), .val (.ref b703), .val (.ref b731), .val (.long (1 : Int64)), .second, .val (.long v864), .second, .val (.long v869), .second, .val (.long v874), .second, .val (.int (1 : Int32)), .unset, .val (.long v864), .second] [(.int (lcmpW v864 ((16 : Int64) * (r1.toInt64))))])) _
              refine XS.ifYes X873.here hx rfl (pc0 := 227) (pc' := 234) rfl (hb hby at_227) rfl ((if0 _ _).trans (tlt ((lw_gt v864 ((16 : Int64) * (r1.toInt64))).mpr hc898)).2.2.1) (by decide) (by decide) ?_
              refine XS.iconst X873.here hx rfl (hb hby at_234) ?_
              exact kt
            · simp only [if_neg hc898] at kt
              show Steps p.tables e below (T873.setTop (mkF m 227 #[.val (.int r1), .val (.int n1), .val (.int ka), .val (.int kb), .val (.int kc), .val (.int fl), .val (.int (2 : Int32)), .val (.int v690), .val (.int v693), .val (.int v696), .val (.int v699), .val (.ref b703), .val (.ref b731), .val (.long (1 : Int64)), .second, .val (.long v864), .second, .val (.long v869), .second, .val (.long v874), .second, .val (.int (1 : Int32)), .unset, .val (.long v864), .second] [(.int (lcmpW v864 ((16 : Int64) * (r1.toInt64))))])) _
              refine XS.ifNo X873.here hx rfl (hb hby at_227) rfl ((if0 _ _).trans (flt (fun q => hc898 ((lw_gt v864 ((16 : Int64) * (r1.toInt64))).mp q))).2.2.1) ?_
              refine XS.iconst X873.here hx rfl (hb hby at_230) ?_
              refine XS.goto X873.here hx rfl (pc0 := 231) (pc' := 235) rfl (hb hby at_231) (by decide) (by decide) ?_
              exact kt
          have hEx := own_KG_exa hG858
          have S901 : ∀ t, Steps p.tables e below (T873.setTop (mkF m 242 #[.val (.int r1), .val (.int n1), .val (.int ka), .val (.int kb), .val (.int kc), .val (.int fl), .val (.int (2 : Int32)), .val (.int v690), .val (.int v693), .val (.int v696), .val (.int v699), .val (.ref b703), .val (.ref b731), .val (.long (1 : Int64)), .second, .val (.long v864), .second, .val (.long v869), .second, .val (.long v874), .second, .val (.int (1 : Int32)), .val (.int v900), .val (.long v864), .second] [(.int v690), (.int r1), (.ref b703)])) t → Steps p.tables e below (T873.setTop (mkF m 235 #[.val (.int r1), .val (.int n1), .val (.int ka), .val (.int kb), .val (.int kc), .val (.int fl), .val (.int (2 : Int32)), .val (.int v690), .val (.int v693), .val (.int v696), .val (.int v699), .val (.ref b703), .val (.ref b731), .val (.long (1 : Int64)), .second, .val (.long v864), .second, .val (.long v869), .second, .val (.long v874), .second, .val (.int (1 : Int32)), .unset, .val (.long v864), .second] [(.int v900)])) t := by
            intro t kt
            show Steps p.tables e below (T873.setTop (mkF m 235 #[.val (.int r1), .val (.int n1), .val (.int ka), .val (.int kb), .val (.int kc), .val (.int fl), .val (.int (2 : Int32)), .val (.int v690), .val (.int v693), .val (.int v696), .val (.int v699), .val (.ref b703), .val (.ref b731), .val (.long (1 : Int64)), .second, .val (.long v864), .second, .val (.long v869), .second, .val (.long v874), .second, .val (.int (1 : Int32)), .unset, .val (.long v864), .second] [(.int v900)])) _
            refine XS.istore X873.here hx rfl (hb hby at_235) rfl (l' := #[.val (.int r1), .val (.int n1), .val (.int ka), .val (.int kb), .val (.int kc), .val (.int fl), .val (.int (2 : Int32)), .val (.int v690), .val (.int v693), .val (.int v696), .val (.int v699), .val (.ref b703), .val (.ref b731), .val (.long (1 : Int64)), .second, .val (.long v864), .second, .val (.long v869), .second, .val (.long v874), .second, .val (.int (1 : Int32)), .val (.int v900), .val (.long v864), .second]) rfl ?_
            refine XS.aload X873.here hx rfl (hb hby at_237) rfl rfl ?_
            refine XS.iloadN X873.here hx rfl (hb hby at_239) rfl ?_
            refine XS.iload X873.here hx rfl (hb hby at_240) rfl ?_
            exact kt
          obtain ⟨cq902, kq902, q902a, q902b, q902c⟩ := isOf hZ e873 hEx
          obtain ⟨_, _, ⟨T902, L902, k902, n902⟩, -, X902, ⟨Lc902, hQ902, l902, y902, z902⟩, st902⟩ := X873.virtualBack hx (y := (⟨"com/example/joinery/joinery/KeyGrid", "fits", "(II)Z"⟩ : MethodName)) (z := (⟨"com/example/joinery/joinery/KeyGrid", "fits", "(II)Z"⟩ : MethodName)) hown (mvT hZ (hw _ (List.mem_of_getElem? (i := 98) rfl))) (mvT hZ (hw _ (List.mem_of_getElem? (i := 99) rfl))) (notFace_of_selects (args := #[]) (mvT hZ (hw _ (List.mem_of_getElem? (i := 101) rfl)))) (mvT hZ (hw _ (List.mem_of_getElem? (i := 101) rfl))) (mvT hZ (hw _ (List.mem_of_getElem? (i := 100) rfl))) (by decide) (backOf (W := 0) (rm11 l Z a0 hw [] b703 b731 r1 v690 1 (own_put (own_put own_cv0 2 ((own_rad v693 ((fl.toUInt32 >>> ((2 : Int32) &&& 31).toUInt32).toInt32)) * own_cv0 3)) 1 ((own_rad v696 ((fl.toUInt32 >>> ((4 : Int32) &&& 31).toUInt32).toInt32)) * (own_put own_cv0 2 ((own_rad v693 ((fl.toUInt32 >>> ((2 : Int32) &&& 31).toUInt32).toInt32)) * own_cv0 3)) 2)) h860 n0 z861 hG858 (by decide) hname.2) hZ (hw _ (List.mem_of_getElem? (i := 102) rfl)) (hw _ (List.mem_of_getElem? (i := 4) rfl)) (by decide) (by decide)) q902a q902c (g := (mkF m 242 #[.val (.int r1), .val (.int n1), .val (.int ka), .val (.int kb), .val (.int kc), .val (.int fl), .val (.int (2 : Int32)), .val (.int v690), .val (.int v693), .val (.int v696), .val (.int v699), .val (.ref b703), .val (.ref b731), .val (.long (1 : Int64)), .second, .val (.long v864), .second, .val (.long v869), .second, .val (.long v874), .second, .val (.int (1 : Int32)), .val (.int v900), .val (.long v864), .second] [(.int v690), (.int r1), (.ref b703)])) rfl (by rw [hml]; rfl) (Steps.refl _) (argsL := [(.int r1), (.int v690)]) (rest := []) (lenOf pd_9 rfl) rfl (by show 2 * 0 + _ ≤ _; exact Nat.le_of_eq rfl) (hb hby at_242) (fun _ _ => ⟨rfl, e873, (by decide : 28 + 0 ≤ _), (by decide : 56 + 0 ≤ _)⟩)
          dsimp only [Pt.U, Pt.locs, Pt.cells, Pt.slots] at X902 l902 y902 z902 st902 hQ902
          subst l902 y902 z902
          obtain ⟨rfl, N902q, e902⟩ := hQ902
          have N902 := Fr.app N873 N902q
          have S903 : ∀ t, Steps p.tables e below (T902.setTop (mkF m 255 #[.val (.int r1), .val (.int n1), .val (.int ka), .val (.int kb), .val (.int kc), .val (.int fl), .val (.int (2 : Int32)), .val (.int v690), .val (.int v693), .val (.int v696), .val (.int v699), .val (.ref b703), .val (.ref b731), .val (.long (1 : Int64)), .second, .val (.long v864), .second, .val (.long v869), .second, .val (.long v874), .second, .val (.int (1 : Int32)), .val (.int v900), .val (.long v864), .second] [(.int (1 : Int32))])) t → Steps p.tables e below (T902.setTop (mkF m 245 #[.val (.int r1), .val (.int n1), .val (.int ka), .val (.int kb), .val (.int kc), .val (.int fl), .val (.int (2 : Int32)), .val (.int v690), .val (.int v693), .val (.int v696), .val (.int v699), .val (.ref b703), .val (.ref b731), .val (.long (1 : Int64)), .second, .val (.long v864), .second, .val (.long v869), .second, .val (.long v874), .second, .val (.int (1 : Int32)), .val (.int v900), .val (.long v864), .second] [(.int (own_fits (own_put (own_put own_cv0 2 ((own_rad v693 ((fl.toUInt32 >>> ((2 : Int32) &&& 31).toUInt32).toInt32)) * own_cv0 3)) 1 ((own_rad v696 ((fl.toUInt32 >>> ((4 : Int32) &&& 31).toUInt32).toInt32)) * (own_put own_cv0 2 ((own_rad v693 ((fl.toUInt32 >>> ((2 : Int32) &&& 31).toUInt32).toInt32)) * own_cv0 3)) 2)) 1 r1 v690))])) t := by
            intro t kt
            show Steps p.tables e below (T902.setTop (mkF m 245 #[.val (.int r1), .val (.int n1), .val (.int ka), .val (.int kb), .val (.int kc), .val (.int fl), .val (.int (2 : Int32)), .val (.int v690), .val (.int v693), .val (.int v696), .val (.int v699), .val (.ref b703), .val (.ref b731), .val (.long (1 : Int64)), .second, .val (.long v864), .second, .val (.long v869), .second, .val (.long v874), .second, .val (.int (1 : Int32)), .val (.int v900), .val (.long v864), .second] [(.int (own_fits (own_put (own_put own_cv0 2 ((own_rad v693 ((fl.toUInt32 >>> ((2 : Int32) &&& 31).toUInt32).toInt32)) * own_cv0 3)) 1 ((own_rad v696 ((fl.toUInt32 >>> ((4 : Int32) &&& 31).toUInt32).toInt32)) * (own_put own_cv0 2 ((own_rad v693 ((fl.toUInt32 >>> ((2 : Int32) &&& 31).toUInt32).toInt32)) * own_cv0 3)) 2)) 1 r1 v690))])) _
            refine XS.iload X902.here hx rfl (hb hby at_245) rfl ?_
            refine XS.icmpNo X902.here hx rfl (hb hby at_247) rfl (teq (own_ge (k := 1) hc880 (show (own_put (own_put own_cv0 2 ((own_rad v693 ((fl.toUInt32 >>> ((2 : Int32) &&& 31).toUInt32).toInt32)) * own_cv0 3)) 1 ((own_rad v696 ((fl.toUInt32 >>> ((4 : Int32) &&& 31).toUInt32).toInt32)) * (own_put own_cv0 2 ((own_rad v693 ((fl.toUInt32 >>> ((2 : Int32) &&& 31).toUInt32).toInt32)) * own_cv0 3)) 2)) v690.toInt.toNat = v864 from by rw [show v690 = (2 : Int32) from hc896, hv864]; rfl) hv900)).2 ?_
            refine XS.iconst X902.here hx rfl (hb hby at_250) ?_
            refine XS.goto X902.here hx rfl (pc0 := 251) (pc' := 255) rfl (hb hby at_251) (by decide) (by decide) ?_
            exact kt
          have C904 : ∀ t, Steps p.tables e below (T902.setTop (mkF m 255 #[.val (.int r1), .val (.int n1), .val (.int ka), .val (.int kb), .val (.int kc), .val (.int fl), .val (.int (2 : Int32)), .val (.int v690), .val (.int v693), .val (.int v696), .val (.int v699), .val (.ref b703), .val (.ref b731), .val (.long (1 : Int64)), .second, .val (.long v864), .second, .val (.long v869), .second, .val (.long v874), .second, .val (.int (1 : Int32)), .val (.int v900), .val (.long v864), .second] [(.int (1 : Int32))])) t → Steps p.tables e below (s₁.setTop (mkF m 0 #[.val (.int r1), .val (.int n1), .val (.int ka), .val (.int kb), .val (.int kc), .val (.int fl), .unset, .unset, .unset, .unset, .unset, .unset, .unset, .unset, .unset, .unset, .unset, .unset, .unset, .unset, .unset, .unset, .unset, .unset, .unset] [])) t := (fun t k => (C734 t (S853 t (S855 t (st856 t (S859 t (st860 t (S862 t (st863 t (S865 t (S866 t (S867 t (st868 t (S870 t (S871 t (S872 t (st873 t (S875 t (S876 t (S877 t (S878 t (S879 t (S885 t (S895 t (S897 t (S899 t (S901 t (st902.trans (S903 t k)))))))))))))))))))))))))))))
          obtain ⟨fs, hr, hrun, hended, hW, hsame⟩ := X902.leave (v := some (.int (1 : Int32))) (fun h => by rw [Bd.returns] at h; cases h)
          refine ⟨_, _, pre0 _ (C904 _ ?_), hrun, hended, _, _, rfl, ?_, ⟨_, rfl⟩, hW, hsame.mono (by decide) (by decide)⟩
          · exact retN X902 hx (t := .boolean) Bd.returns (by simp) (hb hby at_255) hr
          · show Q_rm0 Z r1 n1 ka kb kc fl h0 n0 _ T902.heap _
            rw [e902]
            exact ⟨rfl, N902⟩
        · have S905 : ∀ t, Steps p.tables e below (T873.setTop (mkF m 204 #[.val (.int r1), .val (.int n1), .val (.int ka), .val (.int kb), .val (.int kc), .val (.int fl), .val (.int (2 : Int32)), .val (.int v690), .val (.int v693), .val (.int v696), .val (.int v699), .val (.ref b703), .val (.ref b731), .val (.long (1 : Int64)), .second, .val (.long v864), .second, .val (.long v869), .second, .val (.long v874), .second, .val (.int (1 : Int32)), .unset, .unset, .unset] [(.int (1 : Int32)), (.int v690)])) t → Steps p.tables e below (T873.setTop (mkF m 191 #[.val (.int r1), .val (.int n1), .val (.int ka), .val (.int kb), .val (.int kc), .val (.int fl), .val (.int (2 : Int32)), .val (.int v690), .val (.int v693), .val (.int v696), .val (.int v699), .val (.ref b703), .val (.ref b731), .val (.long (1 : Int64)), .second, .val (.long v864), .second, .val (.long v869), .second, .val (.long v874), .second, .val (.int (1 : Int32)), .unset, .unset, .unset] [(.int (2 : Int32)), (.int v690)])) t := by
            intro t kt
            show Steps p.tables e below (T873.setTop (mkF m 191 #[.val (.int r1), .val (.int n1), .val (.int ka), .val (.int kb), .val (.int kc), .val (.int fl), .val (.int (2 : Int32)), .val (.int v690), .val (.int v693), .val (.int v696), .val (.int v699), .val (.ref b703), .val (.ref b731), .val (.long (1 : Int64)), .second, .val (.long v864), .second, .val (.long v869), .second, .val (.long v874), .second, .val (.int (1 : Int32)), .unset, .unset, .unset] [(.int (2 : Int32)), (.int v690)])) _
            refine XS.icmpYes X873.here hx rfl (pc0 := 191) (pc' := 201) rfl (hb hby at_191) rfl (feq hc896).2 (by decide) (by decide) ?_
            refine XS.iload X873.here hx rfl (hb hby at_201) rfl ?_
            refine XS.iconst X873.here hx rfl (hb hby at_203) ?_
            exact kt
          by_cases hc906 : v690 = (1 : Int32)
          · have S907 : ∀ t, Steps p.tables e below (T873.setTop (mkF m 227 #[.val (.int r1), .val (.int n1), .val (.int ka), .val (.int kb), .val (.int kc), .val (.int fl), .val (.int (2 : Int32)), .val (.int v690), .val (.int v693), .val (.int v696), .val (.int v699), .val (.ref b703), .val (.ref b731), .val (.long (1 : Int64)), .second, .val (.long v864), .second, .val (.long v869), .second, .val (.long v874), .second, .val (.int (1 : Int32)), .unset, .val (.long v869), .second] [(.int (lcmpW v869 ((16 : Int64) * (r1.toInt64))))])) t → Steps p.tables e below (T873.setTop (mkF m 204 #[.val (.int r1), .val (.int n1), .val (.int ka), .val (.int kb), .val (.int kc), .val (.int fl), .val (.int (2 : Int32)), .val (.int v690), .val (.int v693), .val (.int v696), .val (.int v699), .val (.ref b703), .val (.ref b731), .val (.long (1 : Int64)), .second, .val (.long v864), .second, .val (.long v869), .second, .val (.long v874), .second, .val (.int (1 : Int32)), .unset, .unset, .unset] [(.int (1 : Int32)), (.int v690)])) t := by
              intro t kt
              show Steps p.tables e below (T873.setTop (mkF m 204 #[.val (.int r1), .val (.int n1), .val (.int ka), .val (.int kb), .val (.int kc), .val (.int fl), .val (.int (2 : Int32)), .val (.int v690), .val (.int v693), .val (.int v696), .val (.int v699), .val (.ref b703), .val (.ref b731), .val (.long (1 : Int64)), .second, .val (.long v864), .second, .val (.long v869), .second, .val (.long v874), .second, .val (.int (1 : Int32)), .unset, .unset, .unset] [(.int (1 : Int32)), (.int v690)])) _
              refine XS.icmpNo X873.here hx rfl (hb hby at_204) rfl (teq hc906).2 ?_
              refine XS.lload X873.here hx rfl (hb hby at_207) rfl ?_
              refine XS.lstore X873.here hx rfl (hb hby at_209) rfl (l' := #[.val (.int r1), .val (.int n1), .val (.int ka), .val (.int kb), .val (.int kc), .val (.int fl), .val (.int (2 : Int32)), .val (.int v690), .val (.int v693), .val (.int v696), .val (.int v699), .val (.ref b703), .val (.ref b731), .val (.long (1 : Int64)), .second, .val (.long v864), .second, .val (.long v869), .second, .val (.long v874), .second, .val (.int (1 : Int32)), .unset, .val (.long v869), .second]) rfl ?_
              refine XS.goto X873.here hx rfl (pc0 := 211) (pc' := 218) rfl (hb hby at_211) (by decide) (by decide) ?_
              refine XS.lload X873.here hx rfl (hb hby at_218) rfl ?_
              show Steps p.tables e below (T873.setTop (mkF m 220 #[.val (.int r1), .val (.int n1), .val (.int ka), .val (.int kb), .val (.int kc), .val (.int fl), .val (.int (2 : Int32)), .val (.int v690), .val (.int v693), .val (.int v696), .val (.int v699), .val (.ref b703), .val (.ref b731), .val (.long (1 : Int64)), .second, .val (.long v864), .second, .val (.long v869), .second, .val (.long v874), .second, .val (.int (1 : Int32)), .unset, .val (.long v869), .second] [(.long v869)])) _
              refine X873.ldc2Long hx hown (mvT hZ (hw _ (List.mem_of_getElem? (i := 97) rfl))) (g := (mkF m 220 #[.val (.int r1), .val (.int n1), .val (.int ka), .val (.int kb), .val (.int kc), .val (.int fl), .val (.int (2 : Int32)), .val (.int v690), .val (.int v693), .val (.int v696), .val (.int v699), .val (.ref b703), .val (.ref b731), .val (.long (1 : Int64)), .second, .val (.long v864), .second, .val (.long v869), .second, .val (.long v874), .second, .val (.int (1 : Int32)), .unset, .val (.long v869), .second] [(.long v869)])) rfl (hb hby at_220) _ ?_
              refine XS.iloadN X873.here hx rfl (hb hby at_223) rfl ?_
              refine XS.i2l X873.here hx rfl (hb hby at_224) rfl ?_
              refine XS.lmul X873.here hx rfl (hb hby at_225) rfl ?_
              refine XS.lcmp X873.here hx rfl (hb hby at_226) rfl ?_
              exact kt
            obtain ⟨v910, hv910⟩ : ∃ z : Int32, z = (if ((16 : Int64) * (r1.toInt64)) < v869 then (0 : Int32) else (1 : Int32)) := ⟨_, rfl⟩
            have S909 : ∀ t, Steps p.tables e below (T873.setTop (mkF m 235 #[.val (.int r1), .val (.int n1), .val (.int ka), .val (.int kb), .val (.int kc), .val (.int fl), .val (.int (2 : Int32)), .val (.int v690), .val (.int v693), .val (.int v696), .val (.int v699), .val (.ref b703), .val (.ref b731), .val (.long (1 : Int64)), .second, .val (.long v864), .second, .val (.long v869), .second, .val (.long v874), .second, .val (.int (1 : Int32)), .unset, .val (.long v869), .second] [(.int v910)])) t → Steps p.tables e below (T873.setTop (mkF m 227 #[.val (.int r1), .val (.int n1), .val (.int ka), .val (.int kb), .val (.int kc), .val (.int fl), .val (.int (2 : Int32)), .val (.int v690), .val (.int v693), .val (.int v696), .val (.int v699), .val (.ref b703), .val (.ref b731), .val (.long (1 : Int64)), .second, .val (.long v864), .second, .val (.long v869), .second, .val (.long v874), .second, .val (.int (1 : Int32)), .unset, .val (.long v869), .second] [(.int (lcmpW v869 ((16 : Int64) * (r1.toInt64))))])) t := by
              intro t kt
              subst hv910
              by_cases hc908 : ((16 : Int64) * (r1.toInt64)) < v869
              · simp only [if_pos hc908] at kt
                show Steps p.tables e below (T873.setTop (mkF m 227 #[.val (.int r1), .val (.int n1), .val (.int ka), .val (.int kb), .val (.int kc), .val (.int fl), .val (.int (2 : Int32)), .val (.int v690), .val (.int v693), .val (.int v696), .val (.int v699), .val (.ref b703), .val (.ref b731), .val (.long (1 : Int64)), .second, .val (.long v864), .second, .val (.long v869), .second, .val (.long v874), .second, .val (.int (1 : Int32)), .unset, .val (.long v869), .second] [(.int (lcmpW v869 ((16 : Int64) * (r1.toInt64))))])) _
                refine XS.ifYes X873.here hx rfl (pc0 := 227) (pc' := 234) rfl (hb hby at_227) rfl ((if0 _ _).trans (tlt ((lw_gt v869 ((16 : Int64) * (r1.toInt64))).mpr hc908)).2.2.1) (by decide) (by decide) ?_
                refine XS.iconst X873.here hx rfl (hb hby at_234) ?_
                exact kt
              · simp only [if_neg hc908] at kt
                show Steps p.tables e below (T873.setTop (mkF m 227 #[.val (.int r1), .val (.int n1), .val (.int ka), .val (.int kb), .val (.int kc), .val (.int fl), .val (.int (2 : Int32)), .val (.int v690), .val (.int v693), .val (.int v696), .val (.int v699), .val (.ref b703), .val (.ref b731), .val (.long (1 : Int64)), .second, .val (.long v864), .second, .val (.long v869), .second, .val (.long v874), .second, .val (.int (1 : Int32)), .unset, .val (.long v869), .second] [(.int (lcmpW v869 ((16 : Int64) * (r1.toInt64))))])) _
                refine XS.ifNo X873.here hx rfl (hb hby at_227) rfl ((if0 _ _).trans (flt (fun q => hc908 ((lw_gt v869 ((16 : Int64) * (r1.toInt64))).mp q))).2.2.1) ?_
                refine XS.iconst X873.here hx rfl (hb hby at_230) ?_
                refine XS.goto X873.here hx rfl (pc0 := 231) (pc' := 235) rfl (hb hby at_231) (by decide) (by decide) ?_
                exact kt
            have hEx := own_KG_exa hG858
            have S911 : ∀ t, Steps p.tables e below (T873.setTop (mkF m 242 #[.val (.int r1), .val (.int n1), .val (.int ka), .val (.int kb), .val (.int kc), .val (.int fl), .val (.int (2 : Int32)), .val (.int v690), .val (.int v693), .val (.int v696), .val (.int v699), .val (.ref b703), .val (.ref b731), .val (.long (1 : Int64)), .second, .val (.long v864), .second, .val (.long v869), .second, .val (.long v874), .second, .val (.int (1 : Int32)), .val (.int v910), .val (.long v869), .second] [(.int v690), (.int r1), (.ref b703)])) t → Steps p.tables e below (T873.setTop (mkF m 235 #[.val (.int r1), .val (.int n1), .val (.int ka), .val (.int kb), .val (.int kc), .val (.int fl), .val (.int (2 : Int32)), .val (.int v690), .val (.int v693), .val (.int v696), .val (.int v699), .val (.ref b703), .val (.ref b731), .val (.long (1 : Int64)), .second, .val (.long v864), .second, .val (.long v869), .second, .val (.long v874), .second, .val (.int (1 : Int32)), .unset, .val (.long v869), .second] [(.int v910)])) t := by
              intro t kt
              show Steps p.tables e below (T873.setTop (mkF m 235 #[.val (.int r1), .val (.int n1), .val (.int ka), .val (.int kb), .val (.int kc), .val (.int fl), .val (.int (2 : Int32)), .val (.int v690), .val (.int v693), .val (.int v696), .val (.int v699), .val (.ref b703), .val (.ref b731), .val (.long (1 : Int64)), .second, .val (.long v864), .second, .val (.long v869), .second, .val (.long v874), .second, .val (.int (1 : Int32)), .unset, .val (.long v869), .second] [(.int v910)])) _
              refine XS.istore X873.here hx rfl (hb hby at_235) rfl (l' := #[.val (.int r1), .val (.int n1), .val (.int ka), .val (.int kb), .val (.int kc), .val (.int fl), .val (.int (2 : Int32)), .val (.int v690), .val (.int v693), .val (.int v696), .val (.int v699), .val (.ref b703), .val (.ref b731), .val (.long (1 : Int64)), .second, .val (.long v864), .second, .val (.long v869), .second, .val (.long v874), .second, .val (.int (1 : Int32)), .val (.int v910), .val (.long v869), .second]) rfl ?_
              refine XS.aload X873.here hx rfl (hb hby at_237) rfl rfl ?_
              refine XS.iloadN X873.here hx rfl (hb hby at_239) rfl ?_
              refine XS.iload X873.here hx rfl (hb hby at_240) rfl ?_
              exact kt
            obtain ⟨cq912, kq912, q912a, q912b, q912c⟩ := isOf hZ e873 hEx
            obtain ⟨_, _, ⟨T912, L912, k912, n912⟩, -, X912, ⟨Lc912, hQ912, l912, y912, z912⟩, st912⟩ := X873.virtualBack hx (y := (⟨"com/example/joinery/joinery/KeyGrid", "fits", "(II)Z"⟩ : MethodName)) (z := (⟨"com/example/joinery/joinery/KeyGrid", "fits", "(II)Z"⟩ : MethodName)) hown (mvT hZ (hw _ (List.mem_of_getElem? (i := 98) rfl))) (mvT hZ (hw _ (List.mem_of_getElem? (i := 99) rfl))) (notFace_of_selects (args := #[]) (mvT hZ (hw _ (List.mem_of_getElem? (i := 101) rfl)))) (mvT hZ (hw _ (List.mem_of_getElem? (i := 101) rfl))) (mvT hZ (hw _ (List.mem_of_getElem? (i := 100) rfl))) (by decide) (backOf (W := 0) (rm11 l Z a0 hw [] b703 b731 r1 v690 1 (own_put (own_put own_cv0 2 ((own_rad v693 ((fl.toUInt32 >>> ((2 : Int32) &&& 31).toUInt32).toInt32)) * own_cv0 3)) 1 ((own_rad v696 ((fl.toUInt32 >>> ((4 : Int32) &&& 31).toUInt32).toInt32)) * (own_put own_cv0 2 ((own_rad v693 ((fl.toUInt32 >>> ((2 : Int32) &&& 31).toUInt32).toInt32)) * own_cv0 3)) 2)) h860 n0 z861 hG858 (by decide) hname.2) hZ (hw _ (List.mem_of_getElem? (i := 102) rfl)) (hw _ (List.mem_of_getElem? (i := 4) rfl)) (by decide) (by decide)) q912a q912c (g := (mkF m 242 #[.val (.int r1), .val (.int n1), .val (.int ka), .val (.int kb), .val (.int kc), .val (.int fl), .val (.int (2 : Int32)), .val (.int v690), .val (.int v693), .val (.int v696), .val (.int v699), .val (.ref b703), .val (.ref b731), .val (.long (1 : Int64)), .second, .val (.long v864), .second, .val (.long v869), .second, .val (.long v874), .second, .val (.int (1 : Int32)), .val (.int v910), .val (.long v869), .second] [(.int v690), (.int r1), (.ref b703)])) rfl (by rw [hml]; rfl) (Steps.refl _) (argsL := [(.int r1), (.int v690)]) (rest := []) (lenOf pd_9 rfl) rfl (by show 2 * 0 + _ ≤ _; exact Nat.le_of_eq rfl) (hb hby at_242) (fun _ _ => ⟨rfl, e873, (by decide : 28 + 0 ≤ _), (by decide : 56 + 0 ≤ _)⟩)
            dsimp only [Pt.U, Pt.locs, Pt.cells, Pt.slots] at X912 l912 y912 z912 st912 hQ912
            subst l912 y912 z912
            obtain ⟨rfl, N912q, e912⟩ := hQ912
            have N912 := Fr.app N873 N912q
            have S913 : ∀ t, Steps p.tables e below (T912.setTop (mkF m 255 #[.val (.int r1), .val (.int n1), .val (.int ka), .val (.int kb), .val (.int kc), .val (.int fl), .val (.int (2 : Int32)), .val (.int v690), .val (.int v693), .val (.int v696), .val (.int v699), .val (.ref b703), .val (.ref b731), .val (.long (1 : Int64)), .second, .val (.long v864), .second, .val (.long v869), .second, .val (.long v874), .second, .val (.int (1 : Int32)), .val (.int v910), .val (.long v869), .second] [(.int (1 : Int32))])) t → Steps p.tables e below (T912.setTop (mkF m 245 #[.val (.int r1), .val (.int n1), .val (.int ka), .val (.int kb), .val (.int kc), .val (.int fl), .val (.int (2 : Int32)), .val (.int v690), .val (.int v693), .val (.int v696), .val (.int v699), .val (.ref b703), .val (.ref b731), .val (.long (1 : Int64)), .second, .val (.long v864), .second, .val (.long v869), .second, .val (.long v874), .second, .val (.int (1 : Int32)), .val (.int v910), .val (.long v869), .second] [(.int (own_fits (own_put (own_put own_cv0 2 ((own_rad v693 ((fl.toUInt32 >>> ((2 : Int32) &&& 31).toUInt32).toInt32)) * own_cv0 3)) 1 ((own_rad v696 ((fl.toUInt32 >>> ((4 : Int32) &&& 31).toUInt32).toInt32)) * (own_put own_cv0 2 ((own_rad v693 ((fl.toUInt32 >>> ((2 : Int32) &&& 31).toUInt32).toInt32)) * own_cv0 3)) 2)) 1 r1 v690))])) t := by
              intro t kt
              show Steps p.tables e below (T912.setTop (mkF m 245 #[.val (.int r1), .val (.int n1), .val (.int ka), .val (.int kb), .val (.int kc), .val (.int fl), .val (.int (2 : Int32)), .val (.int v690), .val (.int v693), .val (.int v696), .val (.int v699), .val (.ref b703), .val (.ref b731), .val (.long (1 : Int64)), .second, .val (.long v864), .second, .val (.long v869), .second, .val (.long v874), .second, .val (.int (1 : Int32)), .val (.int v910), .val (.long v869), .second] [(.int (own_fits (own_put (own_put own_cv0 2 ((own_rad v693 ((fl.toUInt32 >>> ((2 : Int32) &&& 31).toUInt32).toInt32)) * own_cv0 3)) 1 ((own_rad v696 ((fl.toUInt32 >>> ((4 : Int32) &&& 31).toUInt32).toInt32)) * (own_put own_cv0 2 ((own_rad v693 ((fl.toUInt32 >>> ((2 : Int32) &&& 31).toUInt32).toInt32)) * own_cv0 3)) 2)) 1 r1 v690))])) _
              refine XS.iload X912.here hx rfl (hb hby at_245) rfl ?_
              refine XS.icmpNo X912.here hx rfl (hb hby at_247) rfl (teq (own_ge (k := 1) hc880 (show (own_put (own_put own_cv0 2 ((own_rad v693 ((fl.toUInt32 >>> ((2 : Int32) &&& 31).toUInt32).toInt32)) * own_cv0 3)) 1 ((own_rad v696 ((fl.toUInt32 >>> ((4 : Int32) &&& 31).toUInt32).toInt32)) * (own_put own_cv0 2 ((own_rad v693 ((fl.toUInt32 >>> ((2 : Int32) &&& 31).toUInt32).toInt32)) * own_cv0 3)) 2)) v690.toInt.toNat = v869 from by rw [show v690 = (1 : Int32) from hc906, hv869, hv864]; rfl) hv910)).2 ?_
              refine XS.iconst X912.here hx rfl (hb hby at_250) ?_
              refine XS.goto X912.here hx rfl (pc0 := 251) (pc' := 255) rfl (hb hby at_251) (by decide) (by decide) ?_
              exact kt
            have C914 : ∀ t, Steps p.tables e below (T912.setTop (mkF m 255 #[.val (.int r1), .val (.int n1), .val (.int ka), .val (.int kb), .val (.int kc), .val (.int fl), .val (.int (2 : Int32)), .val (.int v690), .val (.int v693), .val (.int v696), .val (.int v699), .val (.ref b703), .val (.ref b731), .val (.long (1 : Int64)), .second, .val (.long v864), .second, .val (.long v869), .second, .val (.long v874), .second, .val (.int (1 : Int32)), .val (.int v910), .val (.long v869), .second] [(.int (1 : Int32))])) t → Steps p.tables e below (s₁.setTop (mkF m 0 #[.val (.int r1), .val (.int n1), .val (.int ka), .val (.int kb), .val (.int kc), .val (.int fl), .unset, .unset, .unset, .unset, .unset, .unset, .unset, .unset, .unset, .unset, .unset, .unset, .unset, .unset, .unset, .unset, .unset, .unset, .unset] [])) t := (fun t k => (C734 t (S853 t (S855 t (st856 t (S859 t (st860 t (S862 t (st863 t (S865 t (S866 t (S867 t (st868 t (S870 t (S871 t (S872 t (st873 t (S875 t (S876 t (S877 t (S878 t (S879 t (S885 t (S895 t (S905 t (S907 t (S909 t (S911 t (st912.trans (S913 t k))))))))))))))))))))))))))))))
            obtain ⟨fs, hr, hrun, hended, hW, hsame⟩ := X912.leave (v := some (.int (1 : Int32))) (fun h => by rw [Bd.returns] at h; cases h)
            refine ⟨_, _, pre0 _ (C914 _ ?_), hrun, hended, _, _, rfl, ?_, ⟨_, rfl⟩, hW, hsame.mono (by decide) (by decide)⟩
            · exact retN X912 hx (t := .boolean) Bd.returns (by simp) (hb hby at_255) hr
            · show Q_rm0 Z r1 n1 ka kb kc fl h0 n0 _ T912.heap _
              rw [e912]
              exact ⟨rfl, N912⟩
          · have S915 : ∀ t, Steps p.tables e below (T873.setTop (mkF m 227 #[.val (.int r1), .val (.int n1), .val (.int ka), .val (.int kb), .val (.int kc), .val (.int fl), .val (.int (2 : Int32)), .val (.int v690), .val (.int v693), .val (.int v696), .val (.int v699), .val (.ref b703), .val (.ref b731), .val (.long (1 : Int64)), .second, .val (.long v864), .second, .val (.long v869), .second, .val (.long v874), .second, .val (.int (1 : Int32)), .unset, .val (.long v874), .second] [(.int (lcmpW v874 ((16 : Int64) * (r1.toInt64))))])) t → Steps p.tables e below (T873.setTop (mkF m 204 #[.val (.int r1), .val (.int n1), .val (.int ka), .val (.int kb), .val (.int kc), .val (.int fl), .val (.int (2 : Int32)), .val (.int v690), .val (.int v693), .val (.int v696), .val (.int v699), .val (.ref b703), .val (.ref b731), .val (.long (1 : Int64)), .second, .val (.long v864), .second, .val (.long v869), .second, .val (.long v874), .second, .val (.int (1 : Int32)), .unset, .unset, .unset] [(.int (1 : Int32)), (.int v690)])) t := by
              intro t kt
              show Steps p.tables e below (T873.setTop (mkF m 204 #[.val (.int r1), .val (.int n1), .val (.int ka), .val (.int kb), .val (.int kc), .val (.int fl), .val (.int (2 : Int32)), .val (.int v690), .val (.int v693), .val (.int v696), .val (.int v699), .val (.ref b703), .val (.ref b731), .val (.long (1 : Int64)), .second, .val (.long v864), .second, .val (.long v869), .second, .val (.long v874), .second, .val (.int (1 : Int32)), .unset, .unset, .unset] [(.int (1 : Int32)), (.int v690)])) _
              refine XS.icmpYes X873.here hx rfl (pc0 := 204) (pc' := 214) rfl (hb hby at_204) rfl (feq hc906).2 (by decide) (by decide) ?_
              refine XS.lload X873.here hx rfl (hb hby at_214) rfl ?_
              refine XS.lstore X873.here hx rfl (hb hby at_216) rfl (l' := #[.val (.int r1), .val (.int n1), .val (.int ka), .val (.int kb), .val (.int kc), .val (.int fl), .val (.int (2 : Int32)), .val (.int v690), .val (.int v693), .val (.int v696), .val (.int v699), .val (.ref b703), .val (.ref b731), .val (.long (1 : Int64)), .second, .val (.long v864), .second, .val (.long v869), .second, .val (.long v874), .second, .val (.int (1 : Int32)), .unset, .val (.long v874), .second]) rfl ?_
              refine XS.lload X873.here hx rfl (hb hby at_218) rfl ?_
              refine X873.ldc2Long hx hown (mvT hZ (hw _ (List.mem_of_getElem? (i := 97) rfl))) (g := (mkF m 220 #[.val (.int r1), .val (.int n1), .val (.int ka), .val (.int kb), .val (.int kc), .val (.int fl), .val (.int (2 : Int32)), .val (.int v690), .val (.int v693), .val (.int v696), .val (.int v699), .val (.ref b703), .val (.ref b731), .val (.long (1 : Int64)), .second, .val (.long v864), .second, .val (.long v869), .second, .val (.long v874), .second, .val (.int (1 : Int32)), .unset, .val (.long v874), .second] [(.long v874)])) rfl (hb hby at_220) _ ?_
              show Steps p.tables e below (T873.setTop (mkF m 223 #[.val (.int r1), .val (.int n1), .val (.int ka), .val (.int kb), .val (.int kc), .val (.int fl), .val (.int (2 : Int32)), .val (.int v690), .val (.int v693), .val (.int v696), .val (.int v699), .val (.ref b703), .val (.ref b731), .val (.long (1 : Int64)), .second, .val (.long v864), .second, .val (.long v869), .second, .val (.long v874), .second, .val (.int (1 : Int32)), .unset, .val (.long v874), .second] [(.long (16 : Int64)), (.long v874)])) _
              refine XS.iloadN X873.here hx rfl (hb hby at_223) rfl ?_
              refine XS.i2l X873.here hx rfl (hb hby at_224) rfl ?_
              refine XS.lmul X873.here hx rfl (hb hby at_225) rfl ?_
              refine XS.lcmp X873.here hx rfl (hb hby at_226) rfl ?_
              exact kt
            obtain ⟨v918, hv918⟩ : ∃ z : Int32, z = (if ((16 : Int64) * (r1.toInt64)) < v874 then (0 : Int32) else (1 : Int32)) := ⟨_, rfl⟩
            have S917 : ∀ t, Steps p.tables e below (T873.setTop (mkF m 235 #[.val (.int r1), .val (.int n1), .val (.int ka), .val (.int kb), .val (.int kc), .val (.int fl), .val (.int (2 : Int32)), .val (.int v690), .val (.int v693), .val (.int v696), .val (.int v699), .val (.ref b703), .val (.ref b731), .val (.long (1 : Int64)), .second, .val (.long v864), .second, .val (.long v869), .second, .val (.long v874), .second, .val (.int (1 : Int32)), .unset, .val (.long v874), .second] [(.int v918)])) t → Steps p.tables e below (T873.setTop (mkF m 227 #[.val (.int r1), .val (.int n1), .val (.int ka), .val (.int kb), .val (.int kc), .val (.int fl), .val (.int (2 : Int32)), .val (.int v690), .val (.int v693), .val (.int v696), .val (.int v699), .val (.ref b703), .val (.ref b731), .val (.long (1 : Int64)), .second, .val (.long v864), .second, .val (.long v869), .second, .val (.long v874), .second, .val (.int (1 : Int32)), .unset, .val (.long v874), .second] [(.int (lcmpW v874 ((16 : Int64) * (r1.toInt64))))])) t := by
              intro t kt
              subst hv918
              by_cases hc916 : ((16 : Int64) * (r1.toInt64)) < v874
              · simp only [if_pos hc916] at kt
                show Steps p.tables e below (T873.setTop (mkF m 227 #[.val (.int r1), .val (.int n1), .val (.int ka), .val (.int kb), .val (.int kc), .val (.int fl), .val (.int (2 : Int32)), .val (.int v690), .val (.int v693), .val (.int v696), .val (.int v699), .val (.ref b703), .val (.ref b731), .val (.long (1 : Int64)), .second, .val (.long v864), .second, .val (.long v869), .second, .val (.long v874), .second, .val (.int (1 : Int32)), .unset, .val (.long v874), .second] [(.int (lcmpW v874 ((16 : Int64) * (r1.toInt64))))])) _
                refine XS.ifYes X873.here hx rfl (pc0 := 227) (pc' := 234) rfl (hb hby at_227) rfl ((if0 _ _).trans (tlt ((lw_gt v874 ((16 : Int64) * (r1.toInt64))).mpr hc916)).2.2.1) (by decide) (by decide) ?_
                refine XS.iconst X873.here hx rfl (hb hby at_234) ?_
                exact kt
              · simp only [if_neg hc916] at kt
                show Steps p.tables e below (T873.setTop (mkF m 227 #[.val (.int r1), .val (.int n1), .val (.int ka), .val (.int kb), .val (.int kc), .val (.int fl), .val (.int (2 : Int32)), .val (.int v690), .val (.int v693), .val (.int v696), .val (.int v699), .val (.ref b703), .val (.ref b731), .val (.long (1 : Int64)), .second, .val (.long v864), .second, .val (.long v869), .second, .val (.long v874), .second, .val (.int (1 : Int32)), .unset, .val (.long v874), .second] [(.int (lcmpW v874 ((16 : Int64) * (r1.toInt64))))])) _
                refine XS.ifNo X873.here hx rfl (hb hby at_227) rfl ((if0 _ _).trans (flt (fun q => hc916 ((lw_gt v874 ((16 : Int64) * (r1.toInt64))).mp q))).2.2.1) ?_
                refine XS.iconst X873.here hx rfl (hb hby at_230) ?_
                refine XS.goto X873.here hx rfl (pc0 := 231) (pc' := 235) rfl (hb hby at_231) (by decide) (by decide) ?_
                exact kt
            have hEx := own_KG_exa hG858
            have S919 : ∀ t, Steps p.tables e below (T873.setTop (mkF m 242 #[.val (.int r1), .val (.int n1), .val (.int ka), .val (.int kb), .val (.int kc), .val (.int fl), .val (.int (2 : Int32)), .val (.int v690), .val (.int v693), .val (.int v696), .val (.int v699), .val (.ref b703), .val (.ref b731), .val (.long (1 : Int64)), .second, .val (.long v864), .second, .val (.long v869), .second, .val (.long v874), .second, .val (.int (1 : Int32)), .val (.int v918), .val (.long v874), .second] [(.int v690), (.int r1), (.ref b703)])) t → Steps p.tables e below (T873.setTop (mkF m 235 #[.val (.int r1), .val (.int n1), .val (.int ka), .val (.int kb), .val (.int kc), .val (.int fl), .val (.int (2 : Int32)), .val (.int v690), .val (.int v693), .val (.int v696), .val (.int v699), .val (.ref b703), .val (.ref b731), .val (.long (1 : Int64)), .second, .val (.long v864), .second, .val (.long v869), .second, .val (.long v874), .second, .val (.int (1 : Int32)), .unset, .val (.long v874), .second] [(.int v918)])) t := by
              intro t kt
              show Steps p.tables e below (T873.setTop (mkF m 235 #[.val (.int r1), .val (.int n1), .val (.int ka), .val (.int kb), .val (.int kc), .val (.int fl), .val (.int (2 : Int32)), .val (.int v690), .val (.int v693), .val (.int v696), .val (.int v699), .val (.ref b703), .val (.ref b731), .val (.long (1 : Int64)), .second, .val (.long v864), .second, .val (.long v869), .second, .val (.long v874), .second, .val (.int (1 : Int32)), .unset, .val (.long v874), .second] [(.int v918)])) _
              refine XS.istore X873.here hx rfl (hb hby at_235) rfl (l' := #[.val (.int r1), .val (.int n1), .val (.int ka), .val (.int kb), .val (.int kc), .val (.int fl), .val (.int (2 : Int32)), .val (.int v690), .val (.int v693), .val (.int v696), .val (.int v699), .val (.ref b703), .val (.ref b731), .val (.long (1 : Int64)), .second, .val (.long v864), .second, .val (.long v869), .second, .val (.long v874), .second, .val (.int (1 : Int32)), .val (.int v918), .val (.long v874), .second]) rfl ?_
              refine XS.aload X873.here hx rfl (hb hby at_237) rfl rfl ?_
              refine XS.iloadN X873.here hx rfl (hb hby at_239) rfl ?_
              refine XS.iload X873.here hx rfl (hb hby at_240) rfl ?_
              exact kt
            obtain ⟨cq920, kq920, q920a, q920b, q920c⟩ := isOf hZ e873 hEx
            obtain ⟨_, _, ⟨T920, L920, k920, n920⟩, -, X920, ⟨Lc920, hQ920, l920, y920, z920⟩, st920⟩ := X873.virtualBack hx (y := (⟨"com/example/joinery/joinery/KeyGrid", "fits", "(II)Z"⟩ : MethodName)) (z := (⟨"com/example/joinery/joinery/KeyGrid", "fits", "(II)Z"⟩ : MethodName)) hown (mvT hZ (hw _ (List.mem_of_getElem? (i := 98) rfl))) (mvT hZ (hw _ (List.mem_of_getElem? (i := 99) rfl))) (notFace_of_selects (args := #[]) (mvT hZ (hw _ (List.mem_of_getElem? (i := 101) rfl)))) (mvT hZ (hw _ (List.mem_of_getElem? (i := 101) rfl))) (mvT hZ (hw _ (List.mem_of_getElem? (i := 100) rfl))) (by decide) (backOf (W := 0) (rm11 l Z a0 hw [] b703 b731 r1 v690 1 (own_put (own_put own_cv0 2 ((own_rad v693 ((fl.toUInt32 >>> ((2 : Int32) &&& 31).toUInt32).toInt32)) * own_cv0 3)) 1 ((own_rad v696 ((fl.toUInt32 >>> ((4 : Int32) &&& 31).toUInt32).toInt32)) * (own_put own_cv0 2 ((own_rad v693 ((fl.toUInt32 >>> ((2 : Int32) &&& 31).toUInt32).toInt32)) * own_cv0 3)) 2)) h860 n0 z861 hG858 (by decide) hname.2) hZ (hw _ (List.mem_of_getElem? (i := 102) rfl)) (hw _ (List.mem_of_getElem? (i := 4) rfl)) (by decide) (by decide)) q920a q920c (g := (mkF m 242 #[.val (.int r1), .val (.int n1), .val (.int ka), .val (.int kb), .val (.int kc), .val (.int fl), .val (.int (2 : Int32)), .val (.int v690), .val (.int v693), .val (.int v696), .val (.int v699), .val (.ref b703), .val (.ref b731), .val (.long (1 : Int64)), .second, .val (.long v864), .second, .val (.long v869), .second, .val (.long v874), .second, .val (.int (1 : Int32)), .val (.int v918), .val (.long v874), .second] [(.int v690), (.int r1), (.ref b703)])) rfl (by rw [hml]; rfl) (Steps.refl _) (argsL := [(.int r1), (.int v690)]) (rest := []) (lenOf pd_9 rfl) rfl (by show 2 * 0 + _ ≤ _; exact Nat.le_of_eq rfl) (hb hby at_242) (fun _ _ => ⟨rfl, e873, (by decide : 28 + 0 ≤ _), (by decide : 56 + 0 ≤ _)⟩)
            dsimp only [Pt.U, Pt.locs, Pt.cells, Pt.slots] at X920 l920 y920 z920 st920 hQ920
            subst l920 y920 z920
            obtain ⟨rfl, N920q, e920⟩ := hQ920
            have N920 := Fr.app N873 N920q
            exfalso
            exact own_none hname hc886 hc896 hc906 (k := 1) (by decide) hc880
  · have S921 : ∀ t, Steps p.tables e below (T731.setTop (mkF m 52 #[.val (.int r1), .val (.int n1), .val (.int ka), .val (.int kb), .val (.int kc), .val (.int fl), .val (.int (3 : Int32)), .val (.int v690), .val (.int v693), .val (.int v696), .val (.int v699), .val (.ref b703), .val (.ref b731), .unset, .unset, .unset, .unset, .unset, .unset, .unset, .unset, .unset, .unset, .unset, .unset] [])) t → Steps p.tables e below (T731.setTop (mkF m 52 #[.val (.int r1), .val (.int n1), .val (.int ka), .val (.int kb), .val (.int kc), .val (.int fl), .val (.int v687), .val (.int v690), .val (.int v693), .val (.int v696), .val (.int v699), .val (.ref b703), .val (.ref b731), .unset, .unset, .unset, .unset, .unset, .unset, .unset, .unset, .unset, .unset, .unset, .unset] [])) t := fun t k => by rw [qv687]; exact k
    have S923 : ∀ t, Steps p.tables e below (T731.setTop (mkF m 68 #[.val (.int r1), .val (.int n1), .val (.int ka), .val (.int kb), .val (.int kc), .val (.int fl), .val (.int (3 : Int32)), .val (.int v690), .val (.int v693), .val (.int v696), .val (.int v699), .val (.ref b703), .val (.ref b731), .unset, .unset, .unset, .unset, .unset, .unset, .unset, .unset, .unset, .unset, .unset, .unset] [(.ref b731), (.int ((fl.toUInt32 >>> ((2 : Int32) &&& 31).toUInt32).toInt32)), (.int v693), (.ref b703)])) t → Steps p.tables e below (T731.setTop (mkF m 52 #[.val (.int r1), .val (.int n1), .val (.int ka), .val (.int kb), .val (.int kc), .val (.int fl), .val (.int (3 : Int32)), .val (.int v690), .val (.int v693), .val (.int v696), .val (.int v699), .val (.ref b703), .val (.ref b731), .unset, .unset, .unset, .unset, .unset, .unset, .unset, .unset, .unset, .unset, .unset, .unset] [])) t := by
      intro t kt
      show Steps p.tables e below (T731.setTop (mkF m 52 #[.val (.int r1), .val (.int n1), .val (.int ka), .val (.int kb), .val (.int kc), .val (.int fl), .val (.int (3 : Int32)), .val (.int v690), .val (.int v693), .val (.int v696), .val (.int v699), .val (.ref b703), .val (.ref b731), .unset, .unset, .unset, .unset, .unset, .unset, .unset, .unset, .unset, .unset, .unset, .unset] [])) _
      refine XS.iload X731.here hx rfl (hb hby at_52) rfl ?_
      refine XS.iconst X731.here hx rfl (hb hby at_54) ?_
      refine XS.icmpNo X731.here hx rfl (hb hby at_55) rfl (flt (by decide)).1 ?_
      refine XS.aload X731.here hx rfl (hb hby at_58) rfl rfl ?_
      refine XS.iload X731.here hx rfl (hb hby at_60) rfl ?_
      show Steps p.tables e below (T731.setTop (mkF m 62 #[.val (.int r1), .val (.int n1), .val (.int ka), .val (.int kb), .val (.int kc), .val (.int fl), .val (.int (3 : Int32)), .val (.int v690), .val (.int v693), .val (.int v696), .val (.int v699), .val (.ref b703), .val (.ref b731), .unset, .unset, .unset, .unset, .unset, .unset, .unset, .unset, .unset, .unset, .unset, .unset] [(.int v693), (.ref b703)])) _
      refine XS.iload X731.here hx rfl (hb hby at_62) rfl ?_
      refine XS.iconst X731.here hx rfl (hb hby at_64) ?_
      refine XS.iushr X731.here hx rfl (hb hby at_65) rfl ?_
      refine XS.aload X731.here hx rfl (hb hby at_66) rfl rfl ?_
      exact kt
    obtain ⟨_, _, ⟨T924, L924, k924, n924⟩, -, X924, ⟨Lc924, hQ924, l924, y924, z924⟩, st924⟩ := Jvm.LawKit.callS X731 hx (y := (⟨"com/example/joinery/joinery/KeyGridFitsPinLaw", "giveName", "(Lcom/example/joinery/joinery/KeyGrid;II[I)V"⟩ : MethodName)) hown (mvT hZ (hw _ (List.mem_of_getElem? (i := 81) rfl))) (mvT hZ (hw _ (List.mem_of_getElem? (i := 82) rfl))) (mvT hZ (hw _ (List.mem_of_getElem? (i := 83) rfl))) (mvT hZ (hw _ (List.mem_of_getElem? (i := 84) rfl))) (by decide) (backOf (W := 0) (rm7 l Z a0 hw [] b703 b731 v693 ((fl.toUInt32 >>> ((2 : Int32) &&& 31).toUInt32).toInt32) 2 own_cv0 h731 n0 z732 hG0 (by decide) hkv693) hZ (hw _ (List.mem_of_getElem? (i := 84) rfl)) (hw _ (List.mem_of_getElem? (i := 83) rfl)) (by decide) (by decide)) (g := (mkF m 68 #[.val (.int r1), .val (.int n1), .val (.int ka), .val (.int kb), .val (.int kc), .val (.int fl), .val (.int (3 : Int32)), .val (.int v690), .val (.int v693), .val (.int v696), .val (.int v699), .val (.ref b703), .val (.ref b731), .unset, .unset, .unset, .unset, .unset, .unset, .unset, .unset, .unset, .unset, .unset, .unset] [(.ref b731), (.int ((fl.toUInt32 >>> ((2 : Int32) &&& 31).toUInt32).toInt32)), (.int v693), (.ref b703)])) rfl (by rw [hml]; rfl) (argsL := [(.ref b703), (.int v693), (.int ((fl.toUInt32 >>> ((2 : Int32) &&& 31).toUInt32).toInt32)), (.ref b731)]) (rest := []) (lenOf pd_10 rfl) rfl (by show 2 * 0 + _ ≤ _; exact Nat.le_of_eq rfl) (hb hby at_68) (fun _ _ => ⟨rfl, e731, (by decide : 28 + 0 ≤ _), (by decide : 56 + 0 ≤ _)⟩)
    dsimp only [Pt.U, Pt.locs, Pt.cells, Pt.slots] at X924 l924 y924 z924 st924 hQ924
    subst l924 y924 z924
    obtain ⟨h924, e924⟩ : ∃ z, T924.heap = z := ⟨_, rfl⟩
    rw [e924] at hQ924
    obtain ⟨rfl, N924q, z925, hG922⟩ := hQ924
    have N924 := Fr.app N728 N924q
    have S927 : ∀ t, Steps p.tables e below (T924.setTop (mkF m 87 #[.val (.int r1), .val (.int n1), .val (.int ka), .val (.int kb), .val (.int kc), .val (.int fl), .val (.int (3 : Int32)), .val (.int v690), .val (.int v693), .val (.int v696), .val (.int v699), .val (.ref b703), .val (.ref b731), .unset, .unset, .unset, .unset, .unset, .unset, .unset, .unset, .unset, .unset, .unset, .unset] [(.ref b731), (.int ((fl.toUInt32 >>> ((4 : Int32) &&& 31).toUInt32).toInt32)), (.int v696), (.ref b703)])) t → Steps p.tables e below (T924.setTop (mkF m 71 #[.val (.int r1), .val (.int n1), .val (.int ka), .val (.int kb), .val (.int kc), .val (.int fl), .val (.int (3 : Int32)), .val (.int v690), .val (.int v693), .val (.int v696), .val (.int v699), .val (.ref b703), .val (.ref b731), .unset, .unset, .unset, .unset, .unset, .unset, .unset, .unset, .unset, .unset, .unset, .unset] [])) t := by
      intro t kt
      show Steps p.tables e below (T924.setTop (mkF m 71 #[.val (.int r1), .val (.int n1), .val (.int ka), .val (.int kb), .val (.int kc), .val (.int fl), .val (.int (3 : Int32)), .val (.int v690), .val (.int v693), .val (.int v696), .val (.int v699), .val (.ref b703), .val (.ref b731), .unset, .unset, .unset, .unset, .unset, .unset, .unset, .unset, .unset, .unset, .unset, .unset] [])) _
      refine XS.iload X924.here hx rfl (hb hby at_71) rfl ?_
      refine XS.iconst X924.here hx rfl (hb hby at_73) ?_
      refine XS.icmpNo X924.here hx rfl (hb hby at_74) rfl (flt (by decide)).1 ?_
      refine XS.aload X924.here hx rfl (hb hby at_77) rfl rfl ?_
      refine XS.iload X924.here hx rfl (hb hby at_79) rfl ?_
      show Steps p.tables e below (T924.setTop (mkF m 81 #[.val (.int r1), .val (.int n1), .val (.int ka), .val (.int kb), .val (.int kc), .val (.int fl), .val (.int (3 : Int32)), .val (.int v690), .val (.int v693), .val (.int v696), .val (.int v699), .val (.ref b703), .val (.ref b731), .unset, .unset, .unset, .unset, .unset, .unset, .unset, .unset, .unset, .unset, .unset, .unset] [(.int v696), (.ref b703)])) _
      refine XS.iload X924.here hx rfl (hb hby at_81) rfl ?_
      refine XS.iconst X924.here hx rfl (hb hby at_83) ?_
      refine XS.iushr X924.here hx rfl (hb hby at_84) rfl ?_
      refine XS.aload X924.here hx rfl (hb hby at_85) rfl rfl ?_
      exact kt
    obtain ⟨_, _, ⟨T928, L928, k928, n928⟩, -, X928, ⟨Lc928, hQ928, l928, y928, z928⟩, st928⟩ := Jvm.LawKit.callS X924 hx (y := (⟨"com/example/joinery/joinery/KeyGridFitsPinLaw", "giveName", "(Lcom/example/joinery/joinery/KeyGrid;II[I)V"⟩ : MethodName)) hown (mvT hZ (hw _ (List.mem_of_getElem? (i := 81) rfl))) (mvT hZ (hw _ (List.mem_of_getElem? (i := 82) rfl))) (mvT hZ (hw _ (List.mem_of_getElem? (i := 83) rfl))) (mvT hZ (hw _ (List.mem_of_getElem? (i := 84) rfl))) (by decide) (backOf (W := 0) (rm7 l Z a0 hw [] b703 b731 v696 ((fl.toUInt32 >>> ((4 : Int32) &&& 31).toUInt32).toInt32) 1 (own_put own_cv0 2 ((own_rad v693 ((fl.toUInt32 >>> ((2 : Int32) &&& 31).toUInt32).toInt32)) * own_cv0 3)) h924 n0 z925 hG922 (by decide) hkv696) hZ (hw _ (List.mem_of_getElem? (i := 84) rfl)) (hw _ (List.mem_of_getElem? (i := 83) rfl)) (by decide) (by decide)) (g := (mkF m 87 #[.val (.int r1), .val (.int n1), .val (.int ka), .val (.int kb), .val (.int kc), .val (.int fl), .val (.int (3 : Int32)), .val (.int v690), .val (.int v693), .val (.int v696), .val (.int v699), .val (.ref b703), .val (.ref b731), .unset, .unset, .unset, .unset, .unset, .unset, .unset, .unset, .unset, .unset, .unset, .unset] [(.ref b731), (.int ((fl.toUInt32 >>> ((4 : Int32) &&& 31).toUInt32).toInt32)), (.int v696), (.ref b703)])) rfl (by rw [hml]; rfl) (argsL := [(.ref b703), (.int v696), (.int ((fl.toUInt32 >>> ((4 : Int32) &&& 31).toUInt32).toInt32)), (.ref b731)]) (rest := []) (lenOf pd_10 rfl) rfl (by show 2 * 0 + _ ≤ _; exact Nat.le_of_eq rfl) (hb hby at_87) (fun _ _ => ⟨rfl, e924, (by decide : 28 + 0 ≤ _), (by decide : 56 + 0 ≤ _)⟩)
    dsimp only [Pt.U, Pt.locs, Pt.cells, Pt.slots] at X928 l928 y928 z928 st928 hQ928
    subst l928 y928 z928
    obtain ⟨h928, e928⟩ : ∃ z, T928.heap = z := ⟨_, rfl⟩
    rw [e928] at hQ928
    obtain ⟨rfl, N928q, z929, hG926⟩ := hQ928
    have N928 := Fr.app N924 N928q
    have S931 : ∀ t, Steps p.tables e below (T928.setTop (mkF m 107 #[.val (.int r1), .val (.int n1), .val (.int ka), .val (.int kb), .val (.int kc), .val (.int fl), .val (.int (3 : Int32)), .val (.int v690), .val (.int v693), .val (.int v696), .val (.int v699), .val (.ref b703), .val (.ref b731), .unset, .unset, .unset, .unset, .unset, .unset, .unset, .unset, .unset, .unset, .unset, .unset] [(.ref b731), (.int ((fl.toUInt32 >>> ((6 : Int32) &&& 31).toUInt32).toInt32)), (.int v699), (.ref b703)])) t → Steps p.tables e below (T928.setTop (mkF m 90 #[.val (.int r1), .val (.int n1), .val (.int ka), .val (.int kb), .val (.int kc), .val (.int fl), .val (.int (3 : Int32)), .val (.int v690), .val (.int v693), .val (.int v696), .val (.int v699), .val (.ref b703), .val (.ref b731), .unset, .unset, .unset, .unset, .unset, .unset, .unset, .unset, .unset, .unset, .unset, .unset] [])) t := by
      intro t kt
      show Steps p.tables e below (T928.setTop (mkF m 90 #[.val (.int r1), .val (.int n1), .val (.int ka), .val (.int kb), .val (.int kc), .val (.int fl), .val (.int (3 : Int32)), .val (.int v690), .val (.int v693), .val (.int v696), .val (.int v699), .val (.ref b703), .val (.ref b731), .unset, .unset, .unset, .unset, .unset, .unset, .unset, .unset, .unset, .unset, .unset, .unset] [])) _
      refine XS.iload X928.here hx rfl (hb hby at_90) rfl ?_
      refine XS.iconst X928.here hx rfl (hb hby at_92) ?_
      refine XS.icmpNo X928.here hx rfl (hb hby at_93) rfl (flt (by decide)).1 ?_
      refine XS.aload X928.here hx rfl (hb hby at_96) rfl rfl ?_
      refine XS.iload X928.here hx rfl (hb hby at_98) rfl ?_
      show Steps p.tables e below (T928.setTop (mkF m 100 #[.val (.int r1), .val (.int n1), .val (.int ka), .val (.int kb), .val (.int kc), .val (.int fl), .val (.int (3 : Int32)), .val (.int v690), .val (.int v693), .val (.int v696), .val (.int v699), .val (.ref b703), .val (.ref b731), .unset, .unset, .unset, .unset, .unset, .unset, .unset, .unset, .unset, .unset, .unset, .unset] [(.int v699), (.ref b703)])) _
      refine XS.iload X928.here hx rfl (hb hby at_100) rfl ?_
      refine XS.bipush X928.here hx rfl (hb hby at_102) ?_
      refine XS.iushr X928.here hx rfl (hb hby at_104) rfl ?_
      refine XS.aload X928.here hx rfl (hb hby at_105) rfl rfl ?_
      exact kt
    obtain ⟨_, _, ⟨T932, L932, k932, n932⟩, -, X932, ⟨Lc932, hQ932, l932, y932, z932⟩, st932⟩ := Jvm.LawKit.callS X928 hx (y := (⟨"com/example/joinery/joinery/KeyGridFitsPinLaw", "giveName", "(Lcom/example/joinery/joinery/KeyGrid;II[I)V"⟩ : MethodName)) hown (mvT hZ (hw _ (List.mem_of_getElem? (i := 81) rfl))) (mvT hZ (hw _ (List.mem_of_getElem? (i := 82) rfl))) (mvT hZ (hw _ (List.mem_of_getElem? (i := 83) rfl))) (mvT hZ (hw _ (List.mem_of_getElem? (i := 84) rfl))) (by decide) (backOf (W := 0) (rm7 l Z a0 hw [] b703 b731 v699 ((fl.toUInt32 >>> ((6 : Int32) &&& 31).toUInt32).toInt32) 0 (own_put (own_put own_cv0 2 ((own_rad v693 ((fl.toUInt32 >>> ((2 : Int32) &&& 31).toUInt32).toInt32)) * own_cv0 3)) 1 ((own_rad v696 ((fl.toUInt32 >>> ((4 : Int32) &&& 31).toUInt32).toInt32)) * (own_put own_cv0 2 ((own_rad v693 ((fl.toUInt32 >>> ((2 : Int32) &&& 31).toUInt32).toInt32)) * own_cv0 3)) 2)) h928 n0 z929 hG926 (by decide) hkv699) hZ (hw _ (List.mem_of_getElem? (i := 84) rfl)) (hw _ (List.mem_of_getElem? (i := 83) rfl)) (by decide) (by decide)) (g := (mkF m 107 #[.val (.int r1), .val (.int n1), .val (.int ka), .val (.int kb), .val (.int kc), .val (.int fl), .val (.int (3 : Int32)), .val (.int v690), .val (.int v693), .val (.int v696), .val (.int v699), .val (.ref b703), .val (.ref b731), .unset, .unset, .unset, .unset, .unset, .unset, .unset, .unset, .unset, .unset, .unset, .unset] [(.ref b731), (.int ((fl.toUInt32 >>> ((6 : Int32) &&& 31).toUInt32).toInt32)), (.int v699), (.ref b703)])) rfl (by rw [hml]; rfl) (argsL := [(.ref b703), (.int v699), (.int ((fl.toUInt32 >>> ((6 : Int32) &&& 31).toUInt32).toInt32)), (.ref b731)]) (rest := []) (lenOf pd_10 rfl) rfl (by show 2 * 0 + _ ≤ _; exact Nat.le_of_eq rfl) (hb hby at_107) (fun _ _ => ⟨rfl, e928, (by decide : 28 + 0 ≤ _), (by decide : 56 + 0 ≤ _)⟩)
    dsimp only [Pt.U, Pt.locs, Pt.cells, Pt.slots] at X932 l932 y932 z932 st932 hQ932
    subst l932 y932 z932
    obtain ⟨h932, e932⟩ : ∃ z, T932.heap = z := ⟨_, rfl⟩
    rw [e932] at hQ932
    obtain ⟨rfl, N932q, z933, hG930⟩ := hQ932
    have N932 := Fr.app N928 N932q
    have S934 : ∀ t, Steps p.tables e below (T932.setTop (mkF m 119 #[.val (.int r1), .val (.int n1), .val (.int ka), .val (.int kb), .val (.int kc), .val (.int fl), .val (.int (3 : Int32)), .val (.int v690), .val (.int v693), .val (.int v696), .val (.int v699), .val (.ref b703), .val (.ref b731), .val (.long (1 : Int64)), .second, .unset, .unset, .unset, .unset, .unset, .unset, .unset, .unset, .unset, .unset] [(.int ((fl.toUInt32 >>> ((2 : Int32) &&& 31).toUInt32).toInt32)), (.int v693)])) t → Steps p.tables e below (T932.setTop (mkF m 110 #[.val (.int r1), .val (.int n1), .val (.int ka), .val (.int kb), .val (.int kc), .val (.int fl), .val (.int (3 : Int32)), .val (.int v690), .val (.int v693), .val (.int v696), .val (.int v699), .val (.ref b703), .val (.ref b731), .unset, .unset, .unset, .unset, .unset, .unset, .unset, .unset, .unset, .unset, .unset, .unset] [])) t := by
      intro t kt
      show Steps p.tables e below (T932.setTop (mkF m 110 #[.val (.int r1), .val (.int n1), .val (.int ka), .val (.int kb), .val (.int kc), .val (.int fl), .val (.int (3 : Int32)), .val (.int v690), .val (.int v693), .val (.int v696), .val (.int v699), .val (.ref b703), .val (.ref b731), .unset, .unset, .unset, .unset, .unset, .unset, .unset, .unset, .unset, .unset, .unset, .unset] [])) _
      refine XS.lconst X932.here hx rfl (hb hby at_110) ?_
      refine XS.lstore X932.here hx rfl (hb hby at_111) rfl (l' := #[.val (.int r1), .val (.int n1), .val (.int ka), .val (.int kb), .val (.int kc), .val (.int fl), .val (.int (3 : Int32)), .val (.int v690), .val (.int v693), .val (.int v696), .val (.int v699), .val (.ref b703), .val (.ref b731), .val (.long (1 : Int64)), .second, .unset, .unset, .unset, .unset, .unset, .unset, .unset, .unset, .unset, .unset]) rfl ?_
      refine XS.iload X932.here hx rfl (hb hby at_113) rfl ?_
      refine XS.iload X932.here hx rfl (hb hby at_115) rfl ?_
      refine XS.iconst X932.here hx rfl (hb hby at_117) ?_
      show Steps p.tables e below (T932.setTop (mkF m 118 #[.val (.int r1), .val (.int n1), .val (.int ka), .val (.int kb), .val (.int kc), .val (.int fl), .val (.int (3 : Int32)), .val (.int v690), .val (.int v693), .val (.int v696), .val (.int v699), .val (.ref b703), .val (.ref b731), .val (.long (1 : Int64)), .second, .unset, .unset, .unset, .unset, .unset, .unset, .unset, .unset, .unset, .unset] [(.int (2 : Int32)), (.int fl), (.int v693)])) _
      refine XS.iushr X932.here hx rfl (hb hby at_118) rfl ?_
      exact kt
    obtain ⟨_, _, ⟨T935, L935, k935, n935⟩, -, X935, ⟨Lc935, hQ935, l935, y935, z935⟩, st935⟩ := Jvm.LawKit.callS X932 hx (y := (⟨"com/example/joinery/joinery/KeyGridFitsPinLaw", "radix", "(II)J"⟩ : MethodName)) hown (mvT hZ (hw _ (List.mem_of_getElem? (i := 94) rfl))) (mvT hZ (hw _ (List.mem_of_getElem? (i := 95) rfl))) (mvT hZ (hw _ (List.mem_of_getElem? (i := 83) rfl))) (mvT hZ (hw _ (List.mem_of_getElem? (i := 96) rfl))) (by decide) (backOf (W := 0) (rm10 l Z a0 hw [] v693 ((fl.toUInt32 >>> ((2 : Int32) &&& 31).toUInt32).toInt32) h932 n0 z933 ) hZ (hw _ (List.mem_of_getElem? (i := 96) rfl)) (hw _ (List.mem_of_getElem? (i := 83) rfl)) (by decide) (by decide)) (g := (mkF m 119 #[.val (.int r1), .val (.int n1), .val (.int ka), .val (.int kb), .val (.int kc), .val (.int fl), .val (.int (3 : Int32)), .val (.int v690), .val (.int v693), .val (.int v696), .val (.int v699), .val (.ref b703), .val (.ref b731), .val (.long (1 : Int64)), .second, .unset, .unset, .unset, .unset, .unset, .unset, .unset, .unset, .unset, .unset] [(.int ((fl.toUInt32 >>> ((2 : Int32) &&& 31).toUInt32).toInt32)), (.int v693)])) rfl (by rw [hml]; rfl) (argsL := [(.int v693), (.int ((fl.toUInt32 >>> ((2 : Int32) &&& 31).toUInt32).toInt32))]) (rest := []) (lenOf pd_8 rfl) rfl (by show 2 * 0 + _ ≤ _; exact Nat.le_of_eq rfl) (hb hby at_119) (fun _ _ => ⟨rfl, e932, (by decide : 28 + 0 ≤ _), (by decide : 56 + 0 ≤ _)⟩)
    dsimp only [Pt.U, Pt.locs, Pt.cells, Pt.slots] at X935 l935 y935 z935 st935 hQ935
    subst l935 y935 z935
    obtain ⟨rfl, N935q, e935⟩ := hQ935
    have N935 := Fr.app N932 N935q
    have S937 : ∀ t, Steps p.tables e below (T935.setTop (mkF m 125 #[.val (.int r1), .val (.int n1), .val (.int ka), .val (.int kb), .val (.int kc), .val (.int fl), .val (.int (3 : Int32)), .val (.int v690), .val (.int v693), .val (.int v696), .val (.int v699), .val (.ref b703), .val (.ref b731), .val (.long (1 : Int64)), .second, .unset, .unset, .unset, .unset, .unset, .unset, .unset, .unset, .unset, .unset] [(.long ((own_rad v693 ((fl.toUInt32 >>> ((2 : Int32) &&& 31).toUInt32).toInt32)) * (1 : Int64)))])) t → Steps p.tables e below (T935.setTop (mkF m 122 #[.val (.int r1), .val (.int n1), .val (.int ka), .val (.int kb), .val (.int kc), .val (.int fl), .val (.int (3 : Int32)), .val (.int v690), .val (.int v693), .val (.int v696), .val (.int v699), .val (.ref b703), .val (.ref b731), .val (.long (1 : Int64)), .second, .unset, .unset, .unset, .unset, .unset, .unset, .unset, .unset, .unset, .unset] [(.long (own_rad v693 ((fl.toUInt32 >>> ((2 : Int32) &&& 31).toUInt32).toInt32)))])) t := by
      intro t kt
      show Steps p.tables e below (T935.setTop (mkF m 122 #[.val (.int r1), .val (.int n1), .val (.int ka), .val (.int kb), .val (.int kc), .val (.int fl), .val (.int (3 : Int32)), .val (.int v690), .val (.int v693), .val (.int v696), .val (.int v699), .val (.ref b703), .val (.ref b731), .val (.long (1 : Int64)), .second, .unset, .unset, .unset, .unset, .unset, .unset, .unset, .unset, .unset, .unset] [(.long (own_rad v693 ((fl.toUInt32 >>> ((2 : Int32) &&& 31).toUInt32).toInt32)))])) _
      refine XS.lload X935.here hx rfl (hb hby at_122) rfl ?_
      refine XS.lmul X935.here hx rfl (hb hby at_124) rfl ?_
      exact kt
    obtain ⟨v936, hv936⟩ : ∃ z : Int64, z = ((own_rad v693 ((fl.toUInt32 >>> ((2 : Int32) &&& 31).toUInt32).toInt32)) * (1 : Int64)) := ⟨_, rfl⟩
    have S938 : ∀ t, Steps p.tables e below (T935.setTop (mkF m 125 #[.val (.int r1), .val (.int n1), .val (.int ka), .val (.int kb), .val (.int kc), .val (.int fl), .val (.int (3 : Int32)), .val (.int v690), .val (.int v693), .val (.int v696), .val (.int v699), .val (.ref b703), .val (.ref b731), .val (.long (1 : Int64)), .second, .unset, .unset, .unset, .unset, .unset, .unset, .unset, .unset, .unset, .unset] [(.long v936)])) t → Steps p.tables e below (T935.setTop (mkF m 125 #[.val (.int r1), .val (.int n1), .val (.int ka), .val (.int kb), .val (.int kc), .val (.int fl), .val (.int (3 : Int32)), .val (.int v690), .val (.int v693), .val (.int v696), .val (.int v699), .val (.ref b703), .val (.ref b731), .val (.long (1 : Int64)), .second, .unset, .unset, .unset, .unset, .unset, .unset, .unset, .unset, .unset, .unset] [(.long ((own_rad v693 ((fl.toUInt32 >>> ((2 : Int32) &&& 31).toUInt32).toInt32)) * (1 : Int64)))])) t := fun t k => by rw [hv936.symm]; exact k
    have S939 : ∀ t, Steps p.tables e below (T935.setTop (mkF m 133 #[.val (.int r1), .val (.int n1), .val (.int ka), .val (.int kb), .val (.int kc), .val (.int fl), .val (.int (3 : Int32)), .val (.int v690), .val (.int v693), .val (.int v696), .val (.int v699), .val (.ref b703), .val (.ref b731), .val (.long (1 : Int64)), .second, .val (.long v936), .second, .unset, .unset, .unset, .unset, .unset, .unset, .unset, .unset] [(.int ((fl.toUInt32 >>> ((4 : Int32) &&& 31).toUInt32).toInt32)), (.int v696)])) t → Steps p.tables e below (T935.setTop (mkF m 125 #[.val (.int r1), .val (.int n1), .val (.int ka), .val (.int kb), .val (.int kc), .val (.int fl), .val (.int (3 : Int32)), .val (.int v690), .val (.int v693), .val (.int v696), .val (.int v699), .val (.ref b703), .val (.ref b731), .val (.long (1 : Int64)), .second, .unset, .unset, .unset, .unset, .unset, .unset, .unset, .unset, .unset, .unset] [(.long v936)])) t := by
      intro t kt
      show Steps p.tables e below (T935.setTop (mkF m 125 #[.val (.int r1), .val (.int n1), .val (.int ka), .val (.int kb), .val (.int kc), .val (.int fl), .val (.int (3 : Int32)), .val (.int v690), .val (.int v693), .val (.int v696), .val (.int v699), .val (.ref b703), .val (.ref b731), .val (.long (1 : Int64)), .second, .unset, .unset, .unset, .unset, .unset, .unset, .unset, .unset, .unset, .unset] [(.long v936)])) _
      refine XS.lstore X935.here hx rfl (hb hby at_125) rfl (l' := #[.val (.int r1), .val (.int n1), .val (.int ka), .val (.int kb), .val (.int kc), .val (.int fl), .val (.int (3 : Int32)), .val (.int v690), .val (.int v693), .val (.int v696), .val (.int v699), .val (.ref b703), .val (.ref b731), .val (.long (1 : Int64)), .second, .val (.long v936), .second, .unset, .unset, .unset, .unset, .unset, .unset, .unset, .unset]) rfl ?_
      refine XS.iload X935.here hx rfl (hb hby at_127) rfl ?_
      refine XS.iload X935.here hx rfl (hb hby at_129) rfl ?_
      refine XS.iconst X935.here hx rfl (hb hby at_131) ?_
      refine XS.iushr X935.here hx rfl (hb hby at_132) rfl ?_
      exact kt
    obtain ⟨_, _, ⟨T940, L940, k940, n940⟩, -, X940, ⟨Lc940, hQ940, l940, y940, z940⟩, st940⟩ := Jvm.LawKit.callS X935 hx (y := (⟨"com/example/joinery/joinery/KeyGridFitsPinLaw", "radix", "(II)J"⟩ : MethodName)) hown (mvT hZ (hw _ (List.mem_of_getElem? (i := 94) rfl))) (mvT hZ (hw _ (List.mem_of_getElem? (i := 95) rfl))) (mvT hZ (hw _ (List.mem_of_getElem? (i := 83) rfl))) (mvT hZ (hw _ (List.mem_of_getElem? (i := 96) rfl))) (by decide) (backOf (W := 0) (rm10 l Z a0 hw [] v696 ((fl.toUInt32 >>> ((4 : Int32) &&& 31).toUInt32).toInt32) h932 n0 z933 ) hZ (hw _ (List.mem_of_getElem? (i := 96) rfl)) (hw _ (List.mem_of_getElem? (i := 83) rfl)) (by decide) (by decide)) (g := (mkF m 133 #[.val (.int r1), .val (.int n1), .val (.int ka), .val (.int kb), .val (.int kc), .val (.int fl), .val (.int (3 : Int32)), .val (.int v690), .val (.int v693), .val (.int v696), .val (.int v699), .val (.ref b703), .val (.ref b731), .val (.long (1 : Int64)), .second, .val (.long v936), .second, .unset, .unset, .unset, .unset, .unset, .unset, .unset, .unset] [(.int ((fl.toUInt32 >>> ((4 : Int32) &&& 31).toUInt32).toInt32)), (.int v696)])) rfl (by rw [hml]; rfl) (argsL := [(.int v696), (.int ((fl.toUInt32 >>> ((4 : Int32) &&& 31).toUInt32).toInt32))]) (rest := []) (lenOf pd_8 rfl) rfl (by show 2 * 0 + _ ≤ _; exact Nat.le_of_eq rfl) (hb hby at_133) (fun _ _ => ⟨rfl, e935, (by decide : 28 + 0 ≤ _), (by decide : 56 + 0 ≤ _)⟩)
    dsimp only [Pt.U, Pt.locs, Pt.cells, Pt.slots] at X940 l940 y940 z940 st940 hQ940
    subst l940 y940 z940
    obtain ⟨rfl, N940q, e940⟩ := hQ940
    have N940 := Fr.app N935 N940q
    have S942 : ∀ t, Steps p.tables e below (T940.setTop (mkF m 139 #[.val (.int r1), .val (.int n1), .val (.int ka), .val (.int kb), .val (.int kc), .val (.int fl), .val (.int (3 : Int32)), .val (.int v690), .val (.int v693), .val (.int v696), .val (.int v699), .val (.ref b703), .val (.ref b731), .val (.long (1 : Int64)), .second, .val (.long v936), .second, .unset, .unset, .unset, .unset, .unset, .unset, .unset, .unset] [(.long ((own_rad v696 ((fl.toUInt32 >>> ((4 : Int32) &&& 31).toUInt32).toInt32)) * v936))])) t → Steps p.tables e below (T940.setTop (mkF m 136 #[.val (.int r1), .val (.int n1), .val (.int ka), .val (.int kb), .val (.int kc), .val (.int fl), .val (.int (3 : Int32)), .val (.int v690), .val (.int v693), .val (.int v696), .val (.int v699), .val (.ref b703), .val (.ref b731), .val (.long (1 : Int64)), .second, .val (.long v936), .second, .unset, .unset, .unset, .unset, .unset, .unset, .unset, .unset] [(.long (own_rad v696 ((fl.toUInt32 >>> ((4 : Int32) &&& 31).toUInt32).toInt32)))])) t := by
      intro t kt
      show Steps p.tables e below (T940.setTop (mkF m 136 #[.val (.int r1), .val (.int n1), .val (.int ka), .val (.int kb), .val (.int kc), .val (.int fl), .val (.int (3 : Int32)), .val (.int v690), .val (.int v693), .val (.int v696), .val (.int v699), .val (.ref b703), .val (.ref b731), .val (.long (1 : Int64)), .second, .val (.long v936), .second, .unset, .unset, .unset, .unset, .unset, .unset, .unset, .unset] [(.long (own_rad v696 ((fl.toUInt32 >>> ((4 : Int32) &&& 31).toUInt32).toInt32)))])) _
      refine XS.lload X940.here hx rfl (hb hby at_136) rfl ?_
      refine XS.lmul X940.here hx rfl (hb hby at_138) rfl ?_
      exact kt
    obtain ⟨v941, hv941⟩ : ∃ z : Int64, z = ((own_rad v696 ((fl.toUInt32 >>> ((4 : Int32) &&& 31).toUInt32).toInt32)) * v936) := ⟨_, rfl⟩
    have S943 : ∀ t, Steps p.tables e below (T940.setTop (mkF m 139 #[.val (.int r1), .val (.int n1), .val (.int ka), .val (.int kb), .val (.int kc), .val (.int fl), .val (.int (3 : Int32)), .val (.int v690), .val (.int v693), .val (.int v696), .val (.int v699), .val (.ref b703), .val (.ref b731), .val (.long (1 : Int64)), .second, .val (.long v936), .second, .unset, .unset, .unset, .unset, .unset, .unset, .unset, .unset] [(.long v941)])) t → Steps p.tables e below (T940.setTop (mkF m 139 #[.val (.int r1), .val (.int n1), .val (.int ka), .val (.int kb), .val (.int kc), .val (.int fl), .val (.int (3 : Int32)), .val (.int v690), .val (.int v693), .val (.int v696), .val (.int v699), .val (.ref b703), .val (.ref b731), .val (.long (1 : Int64)), .second, .val (.long v936), .second, .unset, .unset, .unset, .unset, .unset, .unset, .unset, .unset] [(.long ((own_rad v696 ((fl.toUInt32 >>> ((4 : Int32) &&& 31).toUInt32).toInt32)) * v936))])) t := fun t k => by rw [hv941.symm]; exact k
    have S944 : ∀ t, Steps p.tables e below (T940.setTop (mkF m 148 #[.val (.int r1), .val (.int n1), .val (.int ka), .val (.int kb), .val (.int kc), .val (.int fl), .val (.int (3 : Int32)), .val (.int v690), .val (.int v693), .val (.int v696), .val (.int v699), .val (.ref b703), .val (.ref b731), .val (.long (1 : Int64)), .second, .val (.long v936), .second, .val (.long v941), .second, .unset, .unset, .unset, .unset, .unset, .unset] [(.int ((fl.toUInt32 >>> ((6 : Int32) &&& 31).toUInt32).toInt32)), (.int v699)])) t → Steps p.tables e below (T940.setTop (mkF m 139 #[.val (.int r1), .val (.int n1), .val (.int ka), .val (.int kb), .val (.int kc), .val (.int fl), .val (.int (3 : Int32)), .val (.int v690), .val (.int v693), .val (.int v696), .val (.int v699), .val (.ref b703), .val (.ref b731), .val (.long (1 : Int64)), .second, .val (.long v936), .second, .unset, .unset, .unset, .unset, .unset, .unset, .unset, .unset] [(.long v941)])) t := by
      intro t kt
      show Steps p.tables e below (T940.setTop (mkF m 139 #[.val (.int r1), .val (.int n1), .val (.int ka), .val (.int kb), .val (.int kc), .val (.int fl), .val (.int (3 : Int32)), .val (.int v690), .val (.int v693), .val (.int v696), .val (.int v699), .val (.ref b703), .val (.ref b731), .val (.long (1 : Int64)), .second, .val (.long v936), .second, .unset, .unset, .unset, .unset, .unset, .unset, .unset, .unset] [(.long v941)])) _
      refine XS.lstore X940.here hx rfl (hb hby at_139) rfl (l' := #[.val (.int r1), .val (.int n1), .val (.int ka), .val (.int kb), .val (.int kc), .val (.int fl), .val (.int (3 : Int32)), .val (.int v690), .val (.int v693), .val (.int v696), .val (.int v699), .val (.ref b703), .val (.ref b731), .val (.long (1 : Int64)), .second, .val (.long v936), .second, .val (.long v941), .second, .unset, .unset, .unset, .unset, .unset, .unset]) rfl ?_
      refine XS.iload X940.here hx rfl (hb hby at_141) rfl ?_
      refine XS.iload X940.here hx rfl (hb hby at_143) rfl ?_
      refine XS.bipush X940.here hx rfl (hb hby at_145) ?_
      refine XS.iushr X940.here hx rfl (hb hby at_147) rfl ?_
      exact kt
    obtain ⟨_, _, ⟨T945, L945, k945, n945⟩, -, X945, ⟨Lc945, hQ945, l945, y945, z945⟩, st945⟩ := Jvm.LawKit.callS X940 hx (y := (⟨"com/example/joinery/joinery/KeyGridFitsPinLaw", "radix", "(II)J"⟩ : MethodName)) hown (mvT hZ (hw _ (List.mem_of_getElem? (i := 94) rfl))) (mvT hZ (hw _ (List.mem_of_getElem? (i := 95) rfl))) (mvT hZ (hw _ (List.mem_of_getElem? (i := 83) rfl))) (mvT hZ (hw _ (List.mem_of_getElem? (i := 96) rfl))) (by decide) (backOf (W := 0) (rm10 l Z a0 hw [] v699 ((fl.toUInt32 >>> ((6 : Int32) &&& 31).toUInt32).toInt32) h932 n0 z933 ) hZ (hw _ (List.mem_of_getElem? (i := 96) rfl)) (hw _ (List.mem_of_getElem? (i := 83) rfl)) (by decide) (by decide)) (g := (mkF m 148 #[.val (.int r1), .val (.int n1), .val (.int ka), .val (.int kb), .val (.int kc), .val (.int fl), .val (.int (3 : Int32)), .val (.int v690), .val (.int v693), .val (.int v696), .val (.int v699), .val (.ref b703), .val (.ref b731), .val (.long (1 : Int64)), .second, .val (.long v936), .second, .val (.long v941), .second, .unset, .unset, .unset, .unset, .unset, .unset] [(.int ((fl.toUInt32 >>> ((6 : Int32) &&& 31).toUInt32).toInt32)), (.int v699)])) rfl (by rw [hml]; rfl) (argsL := [(.int v699), (.int ((fl.toUInt32 >>> ((6 : Int32) &&& 31).toUInt32).toInt32))]) (rest := []) (lenOf pd_8 rfl) rfl (by show 2 * 0 + _ ≤ _; exact Nat.le_of_eq rfl) (hb hby at_148) (fun _ _ => ⟨rfl, e940, (by decide : 28 + 0 ≤ _), (by decide : 56 + 0 ≤ _)⟩)
    dsimp only [Pt.U, Pt.locs, Pt.cells, Pt.slots] at X945 l945 y945 z945 st945 hQ945
    subst l945 y945 z945
    obtain ⟨rfl, N945q, e945⟩ := hQ945
    have N945 := Fr.app N940 N945q
    have S947 : ∀ t, Steps p.tables e below (T945.setTop (mkF m 154 #[.val (.int r1), .val (.int n1), .val (.int ka), .val (.int kb), .val (.int kc), .val (.int fl), .val (.int (3 : Int32)), .val (.int v690), .val (.int v693), .val (.int v696), .val (.int v699), .val (.ref b703), .val (.ref b731), .val (.long (1 : Int64)), .second, .val (.long v936), .second, .val (.long v941), .second, .unset, .unset, .unset, .unset, .unset, .unset] [(.long ((own_rad v699 ((fl.toUInt32 >>> ((6 : Int32) &&& 31).toUInt32).toInt32)) * v941))])) t → Steps p.tables e below (T945.setTop (mkF m 151 #[.val (.int r1), .val (.int n1), .val (.int ka), .val (.int kb), .val (.int kc), .val (.int fl), .val (.int (3 : Int32)), .val (.int v690), .val (.int v693), .val (.int v696), .val (.int v699), .val (.ref b703), .val (.ref b731), .val (.long (1 : Int64)), .second, .val (.long v936), .second, .val (.long v941), .second, .unset, .unset, .unset, .unset, .unset, .unset] [(.long (own_rad v699 ((fl.toUInt32 >>> ((6 : Int32) &&& 31).toUInt32).toInt32)))])) t := by
      intro t kt
      show Steps p.tables e below (T945.setTop (mkF m 151 #[.val (.int r1), .val (.int n1), .val (.int ka), .val (.int kb), .val (.int kc), .val (.int fl), .val (.int (3 : Int32)), .val (.int v690), .val (.int v693), .val (.int v696), .val (.int v699), .val (.ref b703), .val (.ref b731), .val (.long (1 : Int64)), .second, .val (.long v936), .second, .val (.long v941), .second, .unset, .unset, .unset, .unset, .unset, .unset] [(.long (own_rad v699 ((fl.toUInt32 >>> ((6 : Int32) &&& 31).toUInt32).toInt32)))])) _
      refine XS.lload X945.here hx rfl (hb hby at_151) rfl ?_
      refine XS.lmul X945.here hx rfl (hb hby at_153) rfl ?_
      exact kt
    obtain ⟨v946, hv946⟩ : ∃ z : Int64, z = ((own_rad v699 ((fl.toUInt32 >>> ((6 : Int32) &&& 31).toUInt32).toInt32)) * v941) := ⟨_, rfl⟩
    have S948 : ∀ t, Steps p.tables e below (T945.setTop (mkF m 154 #[.val (.int r1), .val (.int n1), .val (.int ka), .val (.int kb), .val (.int kc), .val (.int fl), .val (.int (3 : Int32)), .val (.int v690), .val (.int v693), .val (.int v696), .val (.int v699), .val (.ref b703), .val (.ref b731), .val (.long (1 : Int64)), .second, .val (.long v936), .second, .val (.long v941), .second, .unset, .unset, .unset, .unset, .unset, .unset] [(.long v946)])) t → Steps p.tables e below (T945.setTop (mkF m 154 #[.val (.int r1), .val (.int n1), .val (.int ka), .val (.int kb), .val (.int kc), .val (.int fl), .val (.int (3 : Int32)), .val (.int v690), .val (.int v693), .val (.int v696), .val (.int v699), .val (.ref b703), .val (.ref b731), .val (.long (1 : Int64)), .second, .val (.long v936), .second, .val (.long v941), .second, .unset, .unset, .unset, .unset, .unset, .unset] [(.long ((own_rad v699 ((fl.toUInt32 >>> ((6 : Int32) &&& 31).toUInt32).toInt32)) * v941))])) t := fun t k => by rw [hv946.symm]; exact k
    have S949 : ∀ t, Steps p.tables e below (T945.setTop (mkF m 160 #[.val (.int r1), .val (.int n1), .val (.int ka), .val (.int kb), .val (.int kc), .val (.int fl), .val (.int (3 : Int32)), .val (.int v690), .val (.int v693), .val (.int v696), .val (.int v699), .val (.ref b703), .val (.ref b731), .val (.long (1 : Int64)), .second, .val (.long v936), .second, .val (.long v941), .second, .val (.long v946), .second, .unset, .unset, .unset, .unset] [(.int ((3 : Int32) - (3 : Int32)))])) t → Steps p.tables e below (T945.setTop (mkF m 154 #[.val (.int r1), .val (.int n1), .val (.int ka), .val (.int kb), .val (.int kc), .val (.int fl), .val (.int (3 : Int32)), .val (.int v690), .val (.int v693), .val (.int v696), .val (.int v699), .val (.ref b703), .val (.ref b731), .val (.long (1 : Int64)), .second, .val (.long v936), .second, .val (.long v941), .second, .unset, .unset, .unset, .unset, .unset, .unset] [(.long v946)])) t := by
      intro t kt
      show Steps p.tables e below (T945.setTop (mkF m 154 #[.val (.int r1), .val (.int n1), .val (.int ka), .val (.int kb), .val (.int kc), .val (.int fl), .val (.int (3 : Int32)), .val (.int v690), .val (.int v693), .val (.int v696), .val (.int v699), .val (.ref b703), .val (.ref b731), .val (.long (1 : Int64)), .second, .val (.long v936), .second, .val (.long v941), .second, .unset, .unset, .unset, .unset, .unset, .unset] [(.long v946)])) _
      refine XS.lstore X945.here hx rfl (hb hby at_154) rfl (l' := #[.val (.int r1), .val (.int n1), .val (.int ka), .val (.int kb), .val (.int kc), .val (.int fl), .val (.int (3 : Int32)), .val (.int v690), .val (.int v693), .val (.int v696), .val (.int v699), .val (.ref b703), .val (.ref b731), .val (.long (1 : Int64)), .second, .val (.long v936), .second, .val (.long v941), .second, .val (.long v946), .second, .unset, .unset, .unset, .unset]) rfl ?_
      refine XS.iconst X945.here hx rfl (hb hby at_156) ?_
      refine XS.iload X945.here hx rfl (hb hby at_157) rfl ?_
      refine XS.isub X945.here hx rfl (hb hby at_159) rfl ?_
      exact kt
    have S950 : ∀ t, Steps p.tables e below (T945.setTop (mkF m 160 #[.val (.int r1), .val (.int n1), .val (.int ka), .val (.int kb), .val (.int kc), .val (.int fl), .val (.int (3 : Int32)), .val (.int v690), .val (.int v693), .val (.int v696), .val (.int v699), .val (.ref b703), .val (.ref b731), .val (.long (1 : Int64)), .second, .val (.long v936), .second, .val (.long v941), .second, .val (.long v946), .second, .unset, .unset, .unset, .unset] [(.int (0 : Int32))])) t → Steps p.tables e below (T945.setTop (mkF m 160 #[.val (.int r1), .val (.int n1), .val (.int ka), .val (.int kb), .val (.int kc), .val (.int fl), .val (.int (3 : Int32)), .val (.int v690), .val (.int v693), .val (.int v696), .val (.int v699), .val (.ref b703), .val (.ref b731), .val (.long (1 : Int64)), .second, .val (.long v936), .second, .val (.long v941), .second, .val (.long v946), .second, .unset, .unset, .unset, .unset] [(.int ((3 : Int32) - (3 : Int32)))])) t := fun t k => by rw [(show ((3 : Int32) - (3 : Int32)) = (0 : Int32) from by decide)]; exact k
    have S951 : ∀ t, Steps p.tables e below (T945.setTop (mkF m 166 #[.val (.int r1), .val (.int n1), .val (.int ka), .val (.int kb), .val (.int kc), .val (.int fl), .val (.int (3 : Int32)), .val (.int v690), .val (.int v693), .val (.int v696), .val (.int v699), .val (.ref b703), .val (.ref b731), .val (.long (1 : Int64)), .second, .val (.long v936), .second, .val (.long v941), .second, .val (.long v946), .second, .val (.int (0 : Int32)), .unset, .unset, .unset] [(.int (0 : Int32)), (.int v690)])) t → Steps p.tables e below (T945.setTop (mkF m 160 #[.val (.int r1), .val (.int n1), .val (.int ka), .val (.int kb), .val (.int kc), .val (.int fl), .val (.int (3 : Int32)), .val (.int v690), .val (.int v693), .val (.int v696), .val (.int v699), .val (.ref b703), .val (.ref b731), .val (.long (1 : Int64)), .second, .val (.long v936), .second, .val (.long v941), .second, .val (.long v946), .second, .unset, .unset, .unset, .unset] [(.int (0 : Int32))])) t := by
      intro t kt
      show Steps p.tables e below (T945.setTop (mkF m 160 #[.val (.int r1), .val (.int n1), .val (.int ka), .val (.int kb), .val (.int kc), .val (.int fl), .val (.int (3 : Int32)), .val (.int v690), .val (.int v693), .val (.int v696), .val (.int v699), .val (.ref b703), .val (.ref b731), .val (.long (1 : Int64)), .second, .val (.long v936), .second, .val (.long v941), .second, .val (.long v946), .second, .unset, .unset, .unset, .unset] [(.int (0 : Int32))])) _
      refine XS.istore X945.here hx rfl (hb hby at_160) rfl (l' := #[.val (.int r1), .val (.int n1), .val (.int ka), .val (.int kb), .val (.int kc), .val (.int fl), .val (.int (3 : Int32)), .val (.int v690), .val (.int v693), .val (.int v696), .val (.int v699), .val (.ref b703), .val (.ref b731), .val (.long (1 : Int64)), .second, .val (.long v936), .second, .val (.long v941), .second, .val (.long v946), .second, .val (.int (0 : Int32)), .unset, .unset, .unset]) rfl ?_
      refine XS.iload X945.here hx rfl (hb hby at_162) rfl ?_
      refine XS.iload X945.here hx rfl (hb hby at_164) rfl ?_
      exact kt
    by_cases hc952 : v690 < (0 : Int32)
    · have hEx := own_KG_exa hG930
      have S953 : ∀ t, Steps p.tables e below (T945.setTop (mkF m 242 #[.val (.int r1), .val (.int n1), .val (.int ka), .val (.int kb), .val (.int kc), .val (.int fl), .val (.int (3 : Int32)), .val (.int v690), .val (.int v693), .val (.int v696), .val (.int v699), .val (.ref b703), .val (.ref b731), .val (.long (1 : Int64)), .second, .val (.long v936), .second, .val (.long v941), .second, .val (.long v946), .second, .val (.int (0 : Int32)), .val (.int (0 : Int32)), .unset, .unset] [(.int v690), (.int r1), (.ref b703)])) t → Steps p.tables e below (T945.setTop (mkF m 166 #[.val (.int r1), .val (.int n1), .val (.int ka), .val (.int kb), .val (.int kc), .val (.int fl), .val (.int (3 : Int32)), .val (.int v690), .val (.int v693), .val (.int v696), .val (.int v699), .val (.ref b703), .val (.ref b731), .val (.long (1 : Int64)), .second, .val (.long v936), .second, .val (.long v941), .second, .val (.long v946), .second, .val (.int (0 : Int32)), .unset, .unset, .unset] [(.int (0 : Int32)), (.int v690)])) t := by
        intro t kt
        show Steps p.tables e below (T945.setTop (mkF m 166 #[.val (.int r1), .val (.int n1), .val (.int ka), .val (.int kb), .val (.int kc), .val (.int fl), .val (.int (3 : Int32)), .val (.int v690), .val (.int v693), .val (.int v696), .val (.int v699), .val (.ref b703), .val (.ref b731), .val (.long (1 : Int64)), .second, .val (.long v936), .second, .val (.long v941), .second, .val (.long v946), .second, .val (.int (0 : Int32)), .unset, .unset, .unset] [(.int (0 : Int32)), (.int v690)])) _
        refine XS.icmpNo X945.here hx rfl (hb hby at_166) rfl (tlt hc952).2.1 ?_
        refine XS.iconst X945.here hx rfl (hb hby at_169) ?_
        refine XS.istore X945.here hx rfl (hb hby at_170) rfl (l' := #[.val (.int r1), .val (.int n1), .val (.int ka), .val (.int kb), .val (.int kc), .val (.int fl), .val (.int (3 : Int32)), .val (.int v690), .val (.int v693), .val (.int v696), .val (.int v699), .val (.ref b703), .val (.ref b731), .val (.long (1 : Int64)), .second, .val (.long v936), .second, .val (.long v941), .second, .val (.long v946), .second, .val (.int (0 : Int32)), .val (.int (0 : Int32)), .unset, .unset]) rfl ?_
        refine XS.goto X945.here hx rfl (pc0 := 172) (pc' := 237) rfl (hb hby at_172) (by decide) (by decide) ?_
        refine XS.aload X945.here hx rfl (hb hby at_237) rfl rfl ?_
        show Steps p.tables e below (T945.setTop (mkF m 239 #[.val (.int r1), .val (.int n1), .val (.int ka), .val (.int kb), .val (.int kc), .val (.int fl), .val (.int (3 : Int32)), .val (.int v690), .val (.int v693), .val (.int v696), .val (.int v699), .val (.ref b703), .val (.ref b731), .val (.long (1 : Int64)), .second, .val (.long v936), .second, .val (.long v941), .second, .val (.long v946), .second, .val (.int (0 : Int32)), .val (.int (0 : Int32)), .unset, .unset] [(.ref b703)])) _
        refine XS.iloadN X945.here hx rfl (hb hby at_239) rfl ?_
        refine XS.iload X945.here hx rfl (hb hby at_240) rfl ?_
        exact kt
      obtain ⟨cq954, kq954, q954a, q954b, q954c⟩ := isOf hZ e945 hEx
      obtain ⟨_, _, ⟨T954, L954, k954, n954⟩, -, X954, ⟨Lc954, hQ954, l954, y954, z954⟩, st954⟩ := X945.virtualBack hx (y := (⟨"com/example/joinery/joinery/KeyGrid", "fits", "(II)Z"⟩ : MethodName)) (z := (⟨"com/example/joinery/joinery/KeyGrid", "fits", "(II)Z"⟩ : MethodName)) hown (mvT hZ (hw _ (List.mem_of_getElem? (i := 98) rfl))) (mvT hZ (hw _ (List.mem_of_getElem? (i := 99) rfl))) (notFace_of_selects (args := #[]) (mvT hZ (hw _ (List.mem_of_getElem? (i := 101) rfl)))) (mvT hZ (hw _ (List.mem_of_getElem? (i := 101) rfl))) (mvT hZ (hw _ (List.mem_of_getElem? (i := 100) rfl))) (by decide) (backOf (W := 0) (rm11 l Z a0 hw [] b703 b731 r1 v690 0 (own_put (own_put (own_put own_cv0 2 ((own_rad v693 ((fl.toUInt32 >>> ((2 : Int32) &&& 31).toUInt32).toInt32)) * own_cv0 3)) 1 ((own_rad v696 ((fl.toUInt32 >>> ((4 : Int32) &&& 31).toUInt32).toInt32)) * (own_put own_cv0 2 ((own_rad v693 ((fl.toUInt32 >>> ((2 : Int32) &&& 31).toUInt32).toInt32)) * own_cv0 3)) 2)) 0 ((own_rad v699 ((fl.toUInt32 >>> ((6 : Int32) &&& 31).toUInt32).toInt32)) * (own_put (own_put own_cv0 2 ((own_rad v693 ((fl.toUInt32 >>> ((2 : Int32) &&& 31).toUInt32).toInt32)) * own_cv0 3)) 1 ((own_rad v696 ((fl.toUInt32 >>> ((4 : Int32) &&& 31).toUInt32).toInt32)) * (own_put own_cv0 2 ((own_rad v693 ((fl.toUInt32 >>> ((2 : Int32) &&& 31).toUInt32).toInt32)) * own_cv0 3)) 2)) 1)) h932 n0 z933 hG930 (by decide) hname.2) hZ (hw _ (List.mem_of_getElem? (i := 102) rfl)) (hw _ (List.mem_of_getElem? (i := 4) rfl)) (by decide) (by decide)) q954a q954c (g := (mkF m 242 #[.val (.int r1), .val (.int n1), .val (.int ka), .val (.int kb), .val (.int kc), .val (.int fl), .val (.int (3 : Int32)), .val (.int v690), .val (.int v693), .val (.int v696), .val (.int v699), .val (.ref b703), .val (.ref b731), .val (.long (1 : Int64)), .second, .val (.long v936), .second, .val (.long v941), .second, .val (.long v946), .second, .val (.int (0 : Int32)), .val (.int (0 : Int32)), .unset, .unset] [(.int v690), (.int r1), (.ref b703)])) rfl (by rw [hml]; rfl) (Steps.refl _) (argsL := [(.int r1), (.int v690)]) (rest := []) (lenOf pd_9 rfl) rfl (by show 2 * 0 + _ ≤ _; exact Nat.le_of_eq rfl) (hb hby at_242) (fun _ _ => ⟨rfl, e945, (by decide : 28 + 0 ≤ _), (by decide : 56 + 0 ≤ _)⟩)
      dsimp only [Pt.U, Pt.locs, Pt.cells, Pt.slots] at X954 l954 y954 z954 st954 hQ954
      subst l954 y954 z954
      obtain ⟨rfl, N954q, e954⟩ := hQ954
      have N954 := Fr.app N945 N954q
      have S955 : ∀ t, Steps p.tables e below (T954.setTop (mkF m 255 #[.val (.int r1), .val (.int n1), .val (.int ka), .val (.int kb), .val (.int kc), .val (.int fl), .val (.int (3 : Int32)), .val (.int v690), .val (.int v693), .val (.int v696), .val (.int v699), .val (.ref b703), .val (.ref b731), .val (.long (1 : Int64)), .second, .val (.long v936), .second, .val (.long v941), .second, .val (.long v946), .second, .val (.int (0 : Int32)), .val (.int (0 : Int32)), .unset, .unset] [(.int (1 : Int32))])) t → Steps p.tables e below (T954.setTop (mkF m 245 #[.val (.int r1), .val (.int n1), .val (.int ka), .val (.int kb), .val (.int kc), .val (.int fl), .val (.int (3 : Int32)), .val (.int v690), .val (.int v693), .val (.int v696), .val (.int v699), .val (.ref b703), .val (.ref b731), .val (.long (1 : Int64)), .second, .val (.long v936), .second, .val (.long v941), .second, .val (.long v946), .second, .val (.int (0 : Int32)), .val (.int (0 : Int32)), .unset, .unset] [(.int (own_fits (own_put (own_put (own_put own_cv0 2 ((own_rad v693 ((fl.toUInt32 >>> ((2 : Int32) &&& 31).toUInt32).toInt32)) * own_cv0 3)) 1 ((own_rad v696 ((fl.toUInt32 >>> ((4 : Int32) &&& 31).toUInt32).toInt32)) * (own_put own_cv0 2 ((own_rad v693 ((fl.toUInt32 >>> ((2 : Int32) &&& 31).toUInt32).toInt32)) * own_cv0 3)) 2)) 0 ((own_rad v699 ((fl.toUInt32 >>> ((6 : Int32) &&& 31).toUInt32).toInt32)) * (own_put (own_put own_cv0 2 ((own_rad v693 ((fl.toUInt32 >>> ((2 : Int32) &&& 31).toUInt32).toInt32)) * own_cv0 3)) 1 ((own_rad v696 ((fl.toUInt32 >>> ((4 : Int32) &&& 31).toUInt32).toInt32)) * (own_put own_cv0 2 ((own_rad v693 ((fl.toUInt32 >>> ((2 : Int32) &&& 31).toUInt32).toInt32)) * own_cv0 3)) 2)) 1)) 0 r1 v690))])) t := by
        intro t kt
        show Steps p.tables e below (T954.setTop (mkF m 245 #[.val (.int r1), .val (.int n1), .val (.int ka), .val (.int kb), .val (.int kc), .val (.int fl), .val (.int (3 : Int32)), .val (.int v690), .val (.int v693), .val (.int v696), .val (.int v699), .val (.ref b703), .val (.ref b731), .val (.long (1 : Int64)), .second, .val (.long v936), .second, .val (.long v941), .second, .val (.long v946), .second, .val (.int (0 : Int32)), .val (.int (0 : Int32)), .unset, .unset] [(.int (own_fits (own_put (own_put (own_put own_cv0 2 ((own_rad v693 ((fl.toUInt32 >>> ((2 : Int32) &&& 31).toUInt32).toInt32)) * own_cv0 3)) 1 ((own_rad v696 ((fl.toUInt32 >>> ((4 : Int32) &&& 31).toUInt32).toInt32)) * (own_put own_cv0 2 ((own_rad v693 ((fl.toUInt32 >>> ((2 : Int32) &&& 31).toUInt32).toInt32)) * own_cv0 3)) 2)) 0 ((own_rad v699 ((fl.toUInt32 >>> ((6 : Int32) &&& 31).toUInt32).toInt32)) * (own_put (own_put own_cv0 2 ((own_rad v693 ((fl.toUInt32 >>> ((2 : Int32) &&& 31).toUInt32).toInt32)) * own_cv0 3)) 1 ((own_rad v696 ((fl.toUInt32 >>> ((4 : Int32) &&& 31).toUInt32).toInt32)) * (own_put own_cv0 2 ((own_rad v693 ((fl.toUInt32 >>> ((2 : Int32) &&& 31).toUInt32).toInt32)) * own_cv0 3)) 2)) 1)) 0 r1 v690))])) _
        refine XS.iload X954.here hx rfl (hb hby at_245) rfl ?_
        refine XS.icmpNo X954.here hx rfl (hb hby at_247) rfl (teq (own_lt (show v690 < Int32.ofNat 0 from hc952))).2 ?_
        refine XS.iconst X954.here hx rfl (hb hby at_250) ?_
        refine XS.goto X954.here hx rfl (pc0 := 251) (pc' := 255) rfl (hb hby at_251) (by decide) (by decide) ?_
        exact kt
      have C956 : ∀ t, Steps p.tables e below (T954.setTop (mkF m 255 #[.val (.int r1), .val (.int n1), .val (.int ka), .val (.int kb), .val (.int kc), .val (.int fl), .val (.int (3 : Int32)), .val (.int v690), .val (.int v693), .val (.int v696), .val (.int v699), .val (.ref b703), .val (.ref b731), .val (.long (1 : Int64)), .second, .val (.long v936), .second, .val (.long v941), .second, .val (.long v946), .second, .val (.int (0 : Int32)), .val (.int (0 : Int32)), .unset, .unset] [(.int (1 : Int32))])) t → Steps p.tables e below (s₁.setTop (mkF m 0 #[.val (.int r1), .val (.int n1), .val (.int ka), .val (.int kb), .val (.int kc), .val (.int fl), .unset, .unset, .unset, .unset, .unset, .unset, .unset, .unset, .unset, .unset, .unset, .unset, .unset, .unset, .unset, .unset, .unset, .unset, .unset] [])) t := (fun t k => (C734 t (S921 t (S923 t (st924 t (S927 t (st928 t (S931 t (st932 t (S934 t (st935 t (S937 t (S938 t (S939 t (st940 t (S942 t (S943 t (S944 t (st945 t (S947 t (S948 t (S949 t (S950 t (S951 t (S953 t (st954.trans (S955 t k)))))))))))))))))))))))))))
      obtain ⟨fs, hr, hrun, hended, hW, hsame⟩ := X954.leave (v := some (.int (1 : Int32))) (fun h => by rw [Bd.returns] at h; cases h)
      refine ⟨_, _, pre0 _ (C956 _ ?_), hrun, hended, _, _, rfl, ?_, ⟨_, rfl⟩, hW, hsame.mono (by decide) (by decide)⟩
      · exact retN X954 hx (t := .boolean) Bd.returns (by simp) (hb hby at_255) hr
      · show Q_rm0 Z r1 n1 ka kb kc fl h0 n0 _ T954.heap _
        rw [e954]
        exact ⟨rfl, N954⟩
    · have S957 : ∀ t, Steps p.tables e below (T945.setTop (mkF m 178 #[.val (.int r1), .val (.int n1), .val (.int ka), .val (.int kb), .val (.int kc), .val (.int fl), .val (.int (3 : Int32)), .val (.int v690), .val (.int v693), .val (.int v696), .val (.int v699), .val (.ref b703), .val (.ref b731), .val (.long (1 : Int64)), .second, .val (.long v936), .second, .val (.long v941), .second, .val (.long v946), .second, .val (.int (0 : Int32)), .unset, .unset, .unset] [(.int (3 : Int32)), (.int v690)])) t → Steps p.tables e below (T945.setTop (mkF m 166 #[.val (.int r1), .val (.int n1), .val (.int ka), .val (.int kb), .val (.int kc), .val (.int fl), .val (.int (3 : Int32)), .val (.int v690), .val (.int v693), .val (.int v696), .val (.int v699), .val (.ref b703), .val (.ref b731), .val (.long (1 : Int64)), .second, .val (.long v936), .second, .val (.long v941), .second, .val (.long v946), .second, .val (.int (0 : Int32)), .unset, .unset, .unset] [(.int (0 : Int32)), (.int v690)])) t := by
        intro t kt
        show Steps p.tables e below (T945.setTop (mkF m 166 #[.val (.int r1), .val (.int n1), .val (.int ka), .val (.int kb), .val (.int kc), .val (.int fl), .val (.int (3 : Int32)), .val (.int v690), .val (.int v693), .val (.int v696), .val (.int v699), .val (.ref b703), .val (.ref b731), .val (.long (1 : Int64)), .second, .val (.long v936), .second, .val (.long v941), .second, .val (.long v946), .second, .val (.int (0 : Int32)), .unset, .unset, .unset] [(.int (0 : Int32)), (.int v690)])) _
        refine XS.icmpYes X945.here hx rfl (pc0 := 166) (pc' := 175) rfl (hb hby at_166) rfl (flt hc952).2.1 (by decide) (by decide) ?_
        refine XS.iload X945.here hx rfl (hb hby at_175) rfl ?_
        refine XS.iconst X945.here hx rfl (hb hby at_177) ?_
        exact kt
      by_cases hc958 : v690 = (3 : Int32)
      · have S959 : ∀ t, Steps p.tables e below (T945.setTop (mkF m 227 #[.val (.int r1), .val (.int n1), .val (.int ka), .val (.int kb), .val (.int kc), .val (.int fl), .val (.int (3 : Int32)), .val (.int v690), .val (.int v693), .val (.int v696), .val (.int v699), .val (.ref b703), .val (.ref b731), .val (.long (1 : Int64)), .second, .val (.long v936), .second, .val (.long v941), .second, .val (.long v946), .second, .val (.int (0 : Int32)), .unset, .val (.long (1 : Int64)), .second] [(.int (lcmpW (1 : Int64) ((16 : Int64) * (r1.toInt64))))])) t → Steps p.tables e below (T945.setTop (mkF m 178 #[.val (.int r1), .val (.int n1), .val (.int ka), .val (.int kb), .val (.int kc), .val (.int fl), .val (.int (3 : Int32)), .val (.int v690), .val (.int v693), .val (.int v696), .val (.int v699), .val (.ref b703), .val (.ref b731), .val (.long (1 : Int64)), .second, .val (.long v936), .second, .val (.long v941), .second, .val (.long v946), .second, .val (.int (0 : Int32)), .unset, .unset, .unset] [(.int (3 : Int32)), (.int v690)])) t := by
          intro t kt
          show Steps p.tables e below (T945.setTop (mkF m 178 #[.val (.int r1), .val (.int n1), .val (.int ka), .val (.int kb), .val (.int kc), .val (.int fl), .val (.int (3 : Int32)), .val (.int v690), .val (.int v693), .val (.int v696), .val (.int v699), .val (.ref b703), .val (.ref b731), .val (.long (1 : Int64)), .second, .val (.long v936), .second, .val (.long v941), .second, .val (.long v946), .second, .val (.int (0 : Int32)), .unset, .unset, .unset] [(.int (3 : Int32)), (.int v690)])) _
          refine XS.icmpNo X945.here hx rfl (hb hby at_178) rfl (teq hc958).2 ?_
          refine XS.lload X945.here hx rfl (hb hby at_181) rfl ?_
          refine XS.lstore X945.here hx rfl (hb hby at_183) rfl (l' := #[.val (.int r1), .val (.int n1), .val (.int ka), .val (.int kb), .val (.int kc), .val (.int fl), .val (.int (3 : Int32)), .val (.int v690), .val (.int v693), .val (.int v696), .val (.int v699), .val (.ref b703), .val (.ref b731), .val (.long (1 : Int64)), .second, .val (.long v936), .second, .val (.long v941), .second, .val (.long v946), .second, .val (.int (0 : Int32)), .unset, .val (.long (1 : Int64)), .second]) rfl ?_
          refine XS.goto X945.here hx rfl (pc0 := 185) (pc' := 218) rfl (hb hby at_185) (by decide) (by decide) ?_
          refine XS.lload X945.here hx rfl (hb hby at_218) rfl ?_
          show Steps p.tables e below (T945.setTop (mkF m 220 #[.val (.int r1), .val (.int n1), .val (.int ka), .val (.int kb), .val (.int kc), .val (.int fl), .val (.int (3 : Int32)), .val (.int v690), .val (.int v693), .val (.int v696), .val (.int v699), .val (.ref b703), .val (.ref b731), .val (.long (1 : Int64)), .second, .val (.long v936), .second, .val (.long v941), .second, .val (.long v946), .second, .val (.int (0 : Int32)), .unset, .val (.long (1 : Int64)), .second] [(.long (1 : Int64))])) _
          refine X945.ldc2Long hx hown (mvT hZ (hw _ (List.mem_of_getElem? (i := 97) rfl))) (g := (mkF m 220 #[.val (.int r1), .val (.int n1), .val (.int ka), .val (.int kb), .val (.int kc), .val (.int fl), .val (.int (3 : Int32)), .val (.int v690), .val (.int v693), .val (.int v696), .val (.int v699), .val (.ref b703), .val (.ref b731), .val (.long (1 : Int64)), .second, .val (.long v936), .second, .val (.long v941), .second, .val (.long v946), .second, .val (.int (0 : Int32)), .unset, .val (.long (1 : Int64)), .second] [(.long (1 : Int64))])) rfl (hb hby at_220) _ ?_
          refine XS.iloadN X945.here hx rfl (hb hby at_223) rfl ?_
          refine XS.i2l X945.here hx rfl (hb hby at_224) rfl ?_
          refine XS.lmul X945.here hx rfl (hb hby at_225) rfl ?_
          refine XS.lcmp X945.here hx rfl (hb hby at_226) rfl ?_
          exact kt
        obtain ⟨v962, hv962⟩ : ∃ z : Int32, z = (if ((16 : Int64) * (r1.toInt64)) < (1 : Int64) then (0 : Int32) else (1 : Int32)) := ⟨_, rfl⟩
        have S961 : ∀ t, Steps p.tables e below (T945.setTop (mkF m 235 #[.val (.int r1), .val (.int n1), .val (.int ka), .val (.int kb), .val (.int kc), .val (.int fl), .val (.int (3 : Int32)), .val (.int v690), .val (.int v693), .val (.int v696), .val (.int v699), .val (.ref b703), .val (.ref b731), .val (.long (1 : Int64)), .second, .val (.long v936), .second, .val (.long v941), .second, .val (.long v946), .second, .val (.int (0 : Int32)), .unset, .val (.long (1 : Int64)), .second] [(.int v962)])) t → Steps p.tables e below (T945.setTop (mkF m 227 #[.val (.int r1), .val (.int n1), .val (.int ka), .val (.int kb), .val (.int kc), .val (.int fl), .val (.int (3 : Int32)), .val (.int v690), .val (.int v693), .val (.int v696), .val (.int v699), .val (.ref b703), .val (.ref b731), .val (.long (1 : Int64)), .second, .val (.long v936), .second, .val (.long v941), .second, .val (.long v946), .second, .val (.int (0 : Int32)), .unset, .val (.long (1 : Int64)), .second] [(.int (lcmpW (1 : Int64) ((16 : Int64) * (r1.toInt64))))])) t := by
          intro t kt
          subst hv962
          by_cases hc960 : ((16 : Int64) * (r1.toInt64)) < (1 : Int64)
          · simp only [if_pos hc960] at kt
            show Steps p.tables e below (T945.setTop (mkF m 227 #[.val (.int r1), .val (.int n1), .val (.int ka), .val (.int kb), .val (.int kc), .val (.int fl), .val (.int (3 : Int32)), .val (.int v690), .val (.int v693), .val (.int v696), .val (.int v699), .val (.ref b703), .val (.ref b731), .val (.long (1 : Int64)), .second, .val (.long v936), .second, .val (.long v941), .second, .val (.long v946), .second, .val (.int (0 : Int32)), .unset, .val (.long (1 : Int64)), .second] [(.int (lcmpW (1 : Int64) ((16 : Int64) * (r1.toInt64))))])) _
            refine XS.ifYes X945.here hx rfl (pc0 := 227) (pc' := 234) rfl (hb hby at_227) rfl ((if0 _ _).trans (tlt ((lw_gt (1 : Int64) ((16 : Int64) * (r1.toInt64))).mpr hc960)).2.2.1) (by decide) (by decide) ?_
            refine XS.iconst X945.here hx rfl (hb hby at_234) ?_
            exact kt
          · simp only [if_neg hc960] at kt
            show Steps p.tables e below (T945.setTop (mkF m 227 #[.val (.int r1), .val (.int n1), .val (.int ka), .val (.int kb), .val (.int kc), .val (.int fl), .val (.int (3 : Int32)), .val (.int v690), .val (.int v693), .val (.int v696), .val (.int v699), .val (.ref b703), .val (.ref b731), .val (.long (1 : Int64)), .second, .val (.long v936), .second, .val (.long v941), .second, .val (.long v946), .second, .val (.int (0 : Int32)), .unset, .val (.long (1 : Int64)), .second] [(.int (lcmpW (1 : Int64) ((16 : Int64) * (r1.toInt64))))])) _
            refine XS.ifNo X945.here hx rfl (hb hby at_227) rfl ((if0 _ _).trans (flt (fun q => hc960 ((lw_gt (1 : Int64) ((16 : Int64) * (r1.toInt64))).mp q))).2.2.1) ?_
            refine XS.iconst X945.here hx rfl (hb hby at_230) ?_
            refine XS.goto X945.here hx rfl (pc0 := 231) (pc' := 235) rfl (hb hby at_231) (by decide) (by decide) ?_
            exact kt
        have hEx := own_KG_exa hG930
        have S963 : ∀ t, Steps p.tables e below (T945.setTop (mkF m 242 #[.val (.int r1), .val (.int n1), .val (.int ka), .val (.int kb), .val (.int kc), .val (.int fl), .val (.int (3 : Int32)), .val (.int v690), .val (.int v693), .val (.int v696), .val (.int v699), .val (.ref b703), .val (.ref b731), .val (.long (1 : Int64)), .second, .val (.long v936), .second, .val (.long v941), .second, .val (.long v946), .second, .val (.int (0 : Int32)), .val (.int v962), .val (.long (1 : Int64)), .second] [(.int v690), (.int r1), (.ref b703)])) t → Steps p.tables e below (T945.setTop (mkF m 235 #[.val (.int r1), .val (.int n1), .val (.int ka), .val (.int kb), .val (.int kc), .val (.int fl), .val (.int (3 : Int32)), .val (.int v690), .val (.int v693), .val (.int v696), .val (.int v699), .val (.ref b703), .val (.ref b731), .val (.long (1 : Int64)), .second, .val (.long v936), .second, .val (.long v941), .second, .val (.long v946), .second, .val (.int (0 : Int32)), .unset, .val (.long (1 : Int64)), .second] [(.int v962)])) t := by
          intro t kt
          show Steps p.tables e below (T945.setTop (mkF m 235 #[.val (.int r1), .val (.int n1), .val (.int ka), .val (.int kb), .val (.int kc), .val (.int fl), .val (.int (3 : Int32)), .val (.int v690), .val (.int v693), .val (.int v696), .val (.int v699), .val (.ref b703), .val (.ref b731), .val (.long (1 : Int64)), .second, .val (.long v936), .second, .val (.long v941), .second, .val (.long v946), .second, .val (.int (0 : Int32)), .unset, .val (.long (1 : Int64)), .second] [(.int v962)])) _
          refine XS.istore X945.here hx rfl (hb hby at_235) rfl (l' := #[.val (.int r1), .val (.int n1), .val (.int ka), .val (.int kb), .val (.int kc), .val (.int fl), .val (.int (3 : Int32)), .val (.int v690), .val (.int v693), .val (.int v696), .val (.int v699), .val (.ref b703), .val (.ref b731), .val (.long (1 : Int64)), .second, .val (.long v936), .second, .val (.long v941), .second, .val (.long v946), .second, .val (.int (0 : Int32)), .val (.int v962), .val (.long (1 : Int64)), .second]) rfl ?_
          refine XS.aload X945.here hx rfl (hb hby at_237) rfl rfl ?_
          refine XS.iloadN X945.here hx rfl (hb hby at_239) rfl ?_
          refine XS.iload X945.here hx rfl (hb hby at_240) rfl ?_
          exact kt
        obtain ⟨cq964, kq964, q964a, q964b, q964c⟩ := isOf hZ e945 hEx
        obtain ⟨_, _, ⟨T964, L964, k964, n964⟩, -, X964, ⟨Lc964, hQ964, l964, y964, z964⟩, st964⟩ := X945.virtualBack hx (y := (⟨"com/example/joinery/joinery/KeyGrid", "fits", "(II)Z"⟩ : MethodName)) (z := (⟨"com/example/joinery/joinery/KeyGrid", "fits", "(II)Z"⟩ : MethodName)) hown (mvT hZ (hw _ (List.mem_of_getElem? (i := 98) rfl))) (mvT hZ (hw _ (List.mem_of_getElem? (i := 99) rfl))) (notFace_of_selects (args := #[]) (mvT hZ (hw _ (List.mem_of_getElem? (i := 101) rfl)))) (mvT hZ (hw _ (List.mem_of_getElem? (i := 101) rfl))) (mvT hZ (hw _ (List.mem_of_getElem? (i := 100) rfl))) (by decide) (backOf (W := 0) (rm11 l Z a0 hw [] b703 b731 r1 v690 0 (own_put (own_put (own_put own_cv0 2 ((own_rad v693 ((fl.toUInt32 >>> ((2 : Int32) &&& 31).toUInt32).toInt32)) * own_cv0 3)) 1 ((own_rad v696 ((fl.toUInt32 >>> ((4 : Int32) &&& 31).toUInt32).toInt32)) * (own_put own_cv0 2 ((own_rad v693 ((fl.toUInt32 >>> ((2 : Int32) &&& 31).toUInt32).toInt32)) * own_cv0 3)) 2)) 0 ((own_rad v699 ((fl.toUInt32 >>> ((6 : Int32) &&& 31).toUInt32).toInt32)) * (own_put (own_put own_cv0 2 ((own_rad v693 ((fl.toUInt32 >>> ((2 : Int32) &&& 31).toUInt32).toInt32)) * own_cv0 3)) 1 ((own_rad v696 ((fl.toUInt32 >>> ((4 : Int32) &&& 31).toUInt32).toInt32)) * (own_put own_cv0 2 ((own_rad v693 ((fl.toUInt32 >>> ((2 : Int32) &&& 31).toUInt32).toInt32)) * own_cv0 3)) 2)) 1)) h932 n0 z933 hG930 (by decide) hname.2) hZ (hw _ (List.mem_of_getElem? (i := 102) rfl)) (hw _ (List.mem_of_getElem? (i := 4) rfl)) (by decide) (by decide)) q964a q964c (g := (mkF m 242 #[.val (.int r1), .val (.int n1), .val (.int ka), .val (.int kb), .val (.int kc), .val (.int fl), .val (.int (3 : Int32)), .val (.int v690), .val (.int v693), .val (.int v696), .val (.int v699), .val (.ref b703), .val (.ref b731), .val (.long (1 : Int64)), .second, .val (.long v936), .second, .val (.long v941), .second, .val (.long v946), .second, .val (.int (0 : Int32)), .val (.int v962), .val (.long (1 : Int64)), .second] [(.int v690), (.int r1), (.ref b703)])) rfl (by rw [hml]; rfl) (Steps.refl _) (argsL := [(.int r1), (.int v690)]) (rest := []) (lenOf pd_9 rfl) rfl (by show 2 * 0 + _ ≤ _; exact Nat.le_of_eq rfl) (hb hby at_242) (fun _ _ => ⟨rfl, e945, (by decide : 28 + 0 ≤ _), (by decide : 56 + 0 ≤ _)⟩)
        dsimp only [Pt.U, Pt.locs, Pt.cells, Pt.slots] at X964 l964 y964 z964 st964 hQ964
        subst l964 y964 z964
        obtain ⟨rfl, N964q, e964⟩ := hQ964
        have N964 := Fr.app N945 N964q
        have S965 : ∀ t, Steps p.tables e below (T964.setTop (mkF m 255 #[.val (.int r1), .val (.int n1), .val (.int ka), .val (.int kb), .val (.int kc), .val (.int fl), .val (.int (3 : Int32)), .val (.int v690), .val (.int v693), .val (.int v696), .val (.int v699), .val (.ref b703), .val (.ref b731), .val (.long (1 : Int64)), .second, .val (.long v936), .second, .val (.long v941), .second, .val (.long v946), .second, .val (.int (0 : Int32)), .val (.int v962), .val (.long (1 : Int64)), .second] [(.int (1 : Int32))])) t → Steps p.tables e below (T964.setTop (mkF m 245 #[.val (.int r1), .val (.int n1), .val (.int ka), .val (.int kb), .val (.int kc), .val (.int fl), .val (.int (3 : Int32)), .val (.int v690), .val (.int v693), .val (.int v696), .val (.int v699), .val (.ref b703), .val (.ref b731), .val (.long (1 : Int64)), .second, .val (.long v936), .second, .val (.long v941), .second, .val (.long v946), .second, .val (.int (0 : Int32)), .val (.int v962), .val (.long (1 : Int64)), .second] [(.int (own_fits (own_put (own_put (own_put own_cv0 2 ((own_rad v693 ((fl.toUInt32 >>> ((2 : Int32) &&& 31).toUInt32).toInt32)) * own_cv0 3)) 1 ((own_rad v696 ((fl.toUInt32 >>> ((4 : Int32) &&& 31).toUInt32).toInt32)) * (own_put own_cv0 2 ((own_rad v693 ((fl.toUInt32 >>> ((2 : Int32) &&& 31).toUInt32).toInt32)) * own_cv0 3)) 2)) 0 ((own_rad v699 ((fl.toUInt32 >>> ((6 : Int32) &&& 31).toUInt32).toInt32)) * (own_put (own_put own_cv0 2 ((own_rad v693 ((fl.toUInt32 >>> ((2 : Int32) &&& 31).toUInt32).toInt32)) * own_cv0 3)) 1 ((own_rad v696 ((fl.toUInt32 >>> ((4 : Int32) &&& 31).toUInt32).toInt32)) * (own_put own_cv0 2 ((own_rad v693 ((fl.toUInt32 >>> ((2 : Int32) &&& 31).toUInt32).toInt32)) * own_cv0 3)) 2)) 1)) 0 r1 v690))])) t := by
          intro t kt
          show Steps p.tables e below (T964.setTop (mkF m 245 #[.val (.int r1), .val (.int n1), .val (.int ka), .val (.int kb), .val (.int kc), .val (.int fl), .val (.int (3 : Int32)), .val (.int v690), .val (.int v693), .val (.int v696), .val (.int v699), .val (.ref b703), .val (.ref b731), .val (.long (1 : Int64)), .second, .val (.long v936), .second, .val (.long v941), .second, .val (.long v946), .second, .val (.int (0 : Int32)), .val (.int v962), .val (.long (1 : Int64)), .second] [(.int (own_fits (own_put (own_put (own_put own_cv0 2 ((own_rad v693 ((fl.toUInt32 >>> ((2 : Int32) &&& 31).toUInt32).toInt32)) * own_cv0 3)) 1 ((own_rad v696 ((fl.toUInt32 >>> ((4 : Int32) &&& 31).toUInt32).toInt32)) * (own_put own_cv0 2 ((own_rad v693 ((fl.toUInt32 >>> ((2 : Int32) &&& 31).toUInt32).toInt32)) * own_cv0 3)) 2)) 0 ((own_rad v699 ((fl.toUInt32 >>> ((6 : Int32) &&& 31).toUInt32).toInt32)) * (own_put (own_put own_cv0 2 ((own_rad v693 ((fl.toUInt32 >>> ((2 : Int32) &&& 31).toUInt32).toInt32)) * own_cv0 3)) 1 ((own_rad v696 ((fl.toUInt32 >>> ((4 : Int32) &&& 31).toUInt32).toInt32)) * (own_put own_cv0 2 ((own_rad v693 ((fl.toUInt32 >>> ((2 : Int32) &&& 31).toUInt32).toInt32)) * own_cv0 3)) 2)) 1)) 0 r1 v690))])) _
          refine XS.iload X964.here hx rfl (hb hby at_245) rfl ?_
          refine XS.icmpNo X964.here hx rfl (hb hby at_247) rfl (teq (own_ge (k := 0) hc952 (show (own_put (own_put (own_put own_cv0 2 ((own_rad v693 ((fl.toUInt32 >>> ((2 : Int32) &&& 31).toUInt32).toInt32)) * own_cv0 3)) 1 ((own_rad v696 ((fl.toUInt32 >>> ((4 : Int32) &&& 31).toUInt32).toInt32)) * (own_put own_cv0 2 ((own_rad v693 ((fl.toUInt32 >>> ((2 : Int32) &&& 31).toUInt32).toInt32)) * own_cv0 3)) 2)) 0 ((own_rad v699 ((fl.toUInt32 >>> ((6 : Int32) &&& 31).toUInt32).toInt32)) * (own_put (own_put own_cv0 2 ((own_rad v693 ((fl.toUInt32 >>> ((2 : Int32) &&& 31).toUInt32).toInt32)) * own_cv0 3)) 1 ((own_rad v696 ((fl.toUInt32 >>> ((4 : Int32) &&& 31).toUInt32).toInt32)) * (own_put own_cv0 2 ((own_rad v693 ((fl.toUInt32 >>> ((2 : Int32) &&& 31).toUInt32).toInt32)) * own_cv0 3)) 2)) 1)) v690.toInt.toNat = (1 : Int64) from by rw [show v690 = (3 : Int32) from hc958]; rfl) hv962)).2 ?_
          refine XS.iconst X964.here hx rfl (hb hby at_250) ?_
          refine XS.goto X964.here hx rfl (pc0 := 251) (pc' := 255) rfl (hb hby at_251) (by decide) (by decide) ?_
          exact kt
        have C966 : ∀ t, Steps p.tables e below (T964.setTop (mkF m 255 #[.val (.int r1), .val (.int n1), .val (.int ka), .val (.int kb), .val (.int kc), .val (.int fl), .val (.int (3 : Int32)), .val (.int v690), .val (.int v693), .val (.int v696), .val (.int v699), .val (.ref b703), .val (.ref b731), .val (.long (1 : Int64)), .second, .val (.long v936), .second, .val (.long v941), .second, .val (.long v946), .second, .val (.int (0 : Int32)), .val (.int v962), .val (.long (1 : Int64)), .second] [(.int (1 : Int32))])) t → Steps p.tables e below (s₁.setTop (mkF m 0 #[.val (.int r1), .val (.int n1), .val (.int ka), .val (.int kb), .val (.int kc), .val (.int fl), .unset, .unset, .unset, .unset, .unset, .unset, .unset, .unset, .unset, .unset, .unset, .unset, .unset, .unset, .unset, .unset, .unset, .unset, .unset] [])) t := (fun t k => (C734 t (S921 t (S923 t (st924 t (S927 t (st928 t (S931 t (st932 t (S934 t (st935 t (S937 t (S938 t (S939 t (st940 t (S942 t (S943 t (S944 t (st945 t (S947 t (S948 t (S949 t (S950 t (S951 t (S957 t (S959 t (S961 t (S963 t (st964.trans (S965 t k))))))))))))))))))))))))))))))
        obtain ⟨fs, hr, hrun, hended, hW, hsame⟩ := X964.leave (v := some (.int (1 : Int32))) (fun h => by rw [Bd.returns] at h; cases h)
        refine ⟨_, _, pre0 _ (C966 _ ?_), hrun, hended, _, _, rfl, ?_, ⟨_, rfl⟩, hW, hsame.mono (by decide) (by decide)⟩
        · exact retN X964 hx (t := .boolean) Bd.returns (by simp) (hb hby at_255) hr
        · show Q_rm0 Z r1 n1 ka kb kc fl h0 n0 _ T964.heap _
          rw [e964]
          exact ⟨rfl, N964⟩
      · have S967 : ∀ t, Steps p.tables e below (T945.setTop (mkF m 191 #[.val (.int r1), .val (.int n1), .val (.int ka), .val (.int kb), .val (.int kc), .val (.int fl), .val (.int (3 : Int32)), .val (.int v690), .val (.int v693), .val (.int v696), .val (.int v699), .val (.ref b703), .val (.ref b731), .val (.long (1 : Int64)), .second, .val (.long v936), .second, .val (.long v941), .second, .val (.long v946), .second, .val (.int (0 : Int32)), .unset, .unset, .unset] [(.int (2 : Int32)), (.int v690)])) t → Steps p.tables e below (T945.setTop (mkF m 178 #[.val (.int r1), .val (.int n1), .val (.int ka), .val (.int kb), .val (.int kc), .val (.int fl), .val (.int (3 : Int32)), .val (.int v690), .val (.int v693), .val (.int v696), .val (.int v699), .val (.ref b703), .val (.ref b731), .val (.long (1 : Int64)), .second, .val (.long v936), .second, .val (.long v941), .second, .val (.long v946), .second, .val (.int (0 : Int32)), .unset, .unset, .unset] [(.int (3 : Int32)), (.int v690)])) t := by
          intro t kt
          show Steps p.tables e below (T945.setTop (mkF m 178 #[.val (.int r1), .val (.int n1), .val (.int ka), .val (.int kb), .val (.int kc), .val (.int fl), .val (.int (3 : Int32)), .val (.int v690), .val (.int v693), .val (.int v696), .val (.int v699), .val (.ref b703), .val (.ref b731), .val (.long (1 : Int64)), .second, .val (.long v936), .second, .val (.long v941), .second, .val (.long v946), .second, .val (.int (0 : Int32)), .unset, .unset, .unset] [(.int (3 : Int32)), (.int v690)])) _
          refine XS.icmpYes X945.here hx rfl (pc0 := 178) (pc' := 188) rfl (hb hby at_178) rfl (feq hc958).2 (by decide) (by decide) ?_
          refine XS.iload X945.here hx rfl (hb hby at_188) rfl ?_
          refine XS.iconst X945.here hx rfl (hb hby at_190) ?_
          exact kt
        by_cases hc968 : v690 = (2 : Int32)
        · have S969 : ∀ t, Steps p.tables e below (T945.setTop (mkF m 227 #[.val (.int r1), .val (.int n1), .val (.int ka), .val (.int kb), .val (.int kc), .val (.int fl), .val (.int (3 : Int32)), .val (.int v690), .val (.int v693), .val (.int v696), .val (.int v699), .val (.ref b703), .val (.ref b731), .val (.long (1 : Int64)), .second, .val (.long v936), .second, .val (.long v941), .second, .val (.long v946), .second, .val (.int (0 : Int32)), .unset, .val (.long v936), .second] [(.int (lcmpW v936 ((16 : Int64) * (r1.toInt64))))])) t → Steps p.tables e below (T945.setTop (mkF m 191 #[.val (.int r1), .val (.int n1), .val (.int ka), .val (.int kb), .val (.int kc), .val (.int fl), .val (.int (3 : Int32)), .val (.int v690), .val (.int v693), .val (.int v696), .val (.int v699), .val (.ref b703), .val (.ref b731), .val (.long (1 : Int64)), .second, .val (.long v936), .second, .val (.long v941), .second, .val (.long v946), .second, .val (.int (0 : Int32)), .unset, .unset, .unset] [(.int (2 : Int32)), (.int v690)])) t := by
            intro t kt
            show Steps p.tables e below (T945.setTop (mkF m 191 #[.val (.int r1), .val (.int n1), .val (.int ka), .val (.int kb), .val (.int kc), .val (.int fl), .val (.int (3 : Int32)), .val (.int v690), .val (.int v693), .val (.int v696), .val (.int v699), .val (.ref b703), .val (.ref b731), .val (.long (1 : Int64)), .second, .val (.long v936), .second, .val (.long v941), .second, .val (.long v946), .second, .val (.int (0 : Int32)), .unset, .unset, .unset] [(.int (2 : Int32)), (.int v690)])) _
            refine XS.icmpNo X945.here hx rfl (hb hby at_191) rfl (teq hc968).2 ?_
            refine XS.lload X945.here hx rfl (hb hby at_194) rfl ?_
            refine XS.lstore X945.here hx rfl (hb hby at_196) rfl (l' := #[.val (.int r1), .val (.int n1), .val (.int ka), .val (.int kb), .val (.int kc), .val (.int fl), .val (.int (3 : Int32)), .val (.int v690), .val (.int v693), .val (.int v696), .val (.int v699), .val (.ref b703), .val (.ref b731), .val (.long (1 : Int64)), .second, .val (.long v936), .second, .val (.long v941), .second, .val (.long v946), .second, .val (.int (0 : Int32)), .unset, .val (.long v936), .second]) rfl ?_
            refine XS.goto X945.here hx rfl (pc0 := 198) (pc' := 218) rfl (hb hby at_198) (by decide) (by decide) ?_
            refine XS.lload X945.here hx rfl (hb hby at_218) rfl ?_
            show Steps p.tables e below (T945.setTop (mkF m 220 #[.val (.int r1), .val (.int n1), .val (.int ka), .val (.int kb), .val (.int kc), .val (.int fl), .val (.int (3 : Int32)), .val (.int v690), .val (.int v693), .val (.int v696), .val (.int v699), .val (.ref b703), .val (.ref b731), .val (.long (1 : Int64)), .second, .val (.long v936), .second, .val (.long v941), .second, .val (.long v946), .second, .val (.int (0 : Int32)), .unset, .val (.long v936), .second] [(.long v936)])) _
            refine X945.ldc2Long hx hown (mvT hZ (hw _ (List.mem_of_getElem? (i := 97) rfl))) (g := (mkF m 220 #[.val (.int r1), .val (.int n1), .val (.int ka), .val (.int kb), .val (.int kc), .val (.int fl), .val (.int (3 : Int32)), .val (.int v690), .val (.int v693), .val (.int v696), .val (.int v699), .val (.ref b703), .val (.ref b731), .val (.long (1 : Int64)), .second, .val (.long v936), .second, .val (.long v941), .second, .val (.long v946), .second, .val (.int (0 : Int32)), .unset, .val (.long v936), .second] [(.long v936)])) rfl (hb hby at_220) _ ?_
            refine XS.iloadN X945.here hx rfl (hb hby at_223) rfl ?_
            refine XS.i2l X945.here hx rfl (hb hby at_224) rfl ?_
            refine XS.lmul X945.here hx rfl (hb hby at_225) rfl ?_
            refine XS.lcmp X945.here hx rfl (hb hby at_226) rfl ?_
            exact kt
          obtain ⟨v972, hv972⟩ : ∃ z : Int32, z = (if ((16 : Int64) * (r1.toInt64)) < v936 then (0 : Int32) else (1 : Int32)) := ⟨_, rfl⟩
          have S971 : ∀ t, Steps p.tables e below (T945.setTop (mkF m 235 #[.val (.int r1), .val (.int n1), .val (.int ka), .val (.int kb), .val (.int kc), .val (.int fl), .val (.int (3 : Int32)), .val (.int v690), .val (.int v693), .val (.int v696), .val (.int v699), .val (.ref b703), .val (.ref b731), .val (.long (1 : Int64)), .second, .val (.long v936), .second, .val (.long v941), .second, .val (.long v946), .second, .val (.int (0 : Int32)), .unset, .val (.long v936), .second] [(.int v972)])) t → Steps p.tables e below (T945.setTop (mkF m 227 #[.val (.int r1), .val (.int n1), .val (.int ka), .val (.int kb), .val (.int kc), .val (.int fl), .val (.int (3 : Int32)), .val (.int v690), .val (.int v693), .val (.int v696), .val (.int v699), .val (.ref b703), .val (.ref b731), .val (.long (1 : Int64)), .second, .val (.long v936), .second, .val (.long v941), .second, .val (.long v946), .second, .val (.int (0 : Int32)), .unset, .val (.long v936), .second] [(.int (lcmpW v936 ((16 : Int64) * (r1.toInt64))))])) t := by
            intro t kt
            subst hv972
            by_cases hc970 : ((16 : Int64) * (r1.toInt64)) < v936
            · simp only [if_pos hc970] at kt
              show Steps p.tables e below (T945.setTop (mkF m 227 #[.val (.int r1), .val (.int n1), .val (.int ka), .val (.int kb), .val (.int kc), .val (.int fl), .val (.int (3 : Int32)), .val (.int v690), .val (.int v693), .val (.int v696), .val (.int v699), .val (.ref b703), .val (.ref b731), .val (.long (1 : Int64)), .second, .val (.long v936), .second, .val (.long v941), .second, .val (.long v946), .second, .val (.int (0 : Int32)), .unset, .val (.long v936), .second] [(.int (lcmpW v936 ((16 : Int64) * (r1.toInt64))))])) _
              refine XS.ifYes X945.here hx rfl (pc0 := 227) (pc' := 234) rfl (hb hby at_227) rfl ((if0 _ _).trans (tlt ((lw_gt v936 ((16 : Int64) * (r1.toInt64))).mpr hc970)).2.2.1) (by decide) (by decide) ?_
              refine XS.iconst X945.here hx rfl (hb hby at_234) ?_
              exact kt
            · simp only [if_neg hc970] at kt
              show Steps p.tables e below (T945.setTop (mkF m 227 #[.val (.int r1), .val (.int n1), .val (.int ka), .val (.int kb), .val (.int kc), .val (.int fl), .val (.int (3 : Int32)), .val (.int v690), .val (.int v693), .val (.int v696), .val (.int v699), .val (.ref b703), .val (.ref b731), .val (.long (1 : Int64)), .second, .val (.long v936), .second, .val (.long v941), .second, .val (.long v946), .second, .val (.int (0 : Int32)), .unset, .val (.long v936), .second] [(.int (lcmpW v936 ((16 : Int64) * (r1.toInt64))))])) _
              refine XS.ifNo X945.here hx rfl (hb hby at_227) rfl ((if0 _ _).trans (flt (fun q => hc970 ((lw_gt v936 ((16 : Int64) * (r1.toInt64))).mp q))).2.2.1) ?_
              refine XS.iconst X945.here hx rfl (hb hby at_230) ?_
              refine XS.goto X945.here hx rfl (pc0 := 231) (pc' := 235) rfl (hb hby at_231) (by decide) (by decide) ?_
              exact kt
          have hEx := own_KG_exa hG930
          have S973 : ∀ t, Steps p.tables e below (T945.setTop (mkF m 242 #[.val (.int r1), .val (.int n1), .val (.int ka), .val (.int kb), .val (.int kc), .val (.int fl), .val (.int (3 : Int32)), .val (.int v690), .val (.int v693), .val (.int v696), .val (.int v699), .val (.ref b703), .val (.ref b731), .val (.long (1 : Int64)), .second, .val (.long v936), .second, .val (.long v941), .second, .val (.long v946), .second, .val (.int (0 : Int32)), .val (.int v972), .val (.long v936), .second] [(.int v690), (.int r1), (.ref b703)])) t → Steps p.tables e below (T945.setTop (mkF m 235 #[.val (.int r1), .val (.int n1), .val (.int ka), .val (.int kb), .val (.int kc), .val (.int fl), .val (.int (3 : Int32)), .val (.int v690), .val (.int v693), .val (.int v696), .val (.int v699), .val (.ref b703), .val (.ref b731), .val (.long (1 : Int64)), .second, .val (.long v936), .second, .val (.long v941), .second, .val (.long v946), .second, .val (.int (0 : Int32)), .unset, .val (.long v936), .second] [(.int v972)])) t := by
            intro t kt
            show Steps p.tables e below (T945.setTop (mkF m 235 #[.val (.int r1), .val (.int n1), .val (.int ka), .val (.int kb), .val (.int kc), .val (.int fl), .val (.int (3 : Int32)), .val (.int v690), .val (.int v693), .val (.int v696), .val (.int v699), .val (.ref b703), .val (.ref b731), .val (.long (1 : Int64)), .second, .val (.long v936), .second, .val (.long v941), .second, .val (.long v946), .second, .val (.int (0 : Int32)), .unset, .val (.long v936), .second] [(.int v972)])) _
            refine XS.istore X945.here hx rfl (hb hby at_235) rfl (l' := #[.val (.int r1), .val (.int n1), .val (.int ka), .val (.int kb), .val (.int kc), .val (.int fl), .val (.int (3 : Int32)), .val (.int v690), .val (.int v693), .val (.int v696), .val (.int v699), .val (.ref b703), .val (.ref b731), .val (.long (1 : Int64)), .second, .val (.long v936), .second, .val (.long v941), .second, .val (.long v946), .second, .val (.int (0 : Int32)), .val (.int v972), .val (.long v936), .second]) rfl ?_
            refine XS.aload X945.here hx rfl (hb hby at_237) rfl rfl ?_
            refine XS.iloadN X945.here hx rfl (hb hby at_239) rfl ?_
            refine XS.iload X945.here hx rfl (hb hby at_240) rfl ?_
            exact kt
          obtain ⟨cq974, kq974, q974a, q974b, q974c⟩ := isOf hZ e945 hEx
          obtain ⟨_, _, ⟨T974, L974, k974, n974⟩, -, X974, ⟨Lc974, hQ974, l974, y974, z974⟩, st974⟩ := X945.virtualBack hx (y := (⟨"com/example/joinery/joinery/KeyGrid", "fits", "(II)Z"⟩ : MethodName)) (z := (⟨"com/example/joinery/joinery/KeyGrid", "fits", "(II)Z"⟩ : MethodName)) hown (mvT hZ (hw _ (List.mem_of_getElem? (i := 98) rfl))) (mvT hZ (hw _ (List.mem_of_getElem? (i := 99) rfl))) (notFace_of_selects (args := #[]) (mvT hZ (hw _ (List.mem_of_getElem? (i := 101) rfl)))) (mvT hZ (hw _ (List.mem_of_getElem? (i := 101) rfl))) (mvT hZ (hw _ (List.mem_of_getElem? (i := 100) rfl))) (by decide) (backOf (W := 0) (rm11 l Z a0 hw [] b703 b731 r1 v690 0 (own_put (own_put (own_put own_cv0 2 ((own_rad v693 ((fl.toUInt32 >>> ((2 : Int32) &&& 31).toUInt32).toInt32)) * own_cv0 3)) 1 ((own_rad v696 ((fl.toUInt32 >>> ((4 : Int32) &&& 31).toUInt32).toInt32)) * (own_put own_cv0 2 ((own_rad v693 ((fl.toUInt32 >>> ((2 : Int32) &&& 31).toUInt32).toInt32)) * own_cv0 3)) 2)) 0 ((own_rad v699 ((fl.toUInt32 >>> ((6 : Int32) &&& 31).toUInt32).toInt32)) * (own_put (own_put own_cv0 2 ((own_rad v693 ((fl.toUInt32 >>> ((2 : Int32) &&& 31).toUInt32).toInt32)) * own_cv0 3)) 1 ((own_rad v696 ((fl.toUInt32 >>> ((4 : Int32) &&& 31).toUInt32).toInt32)) * (own_put own_cv0 2 ((own_rad v693 ((fl.toUInt32 >>> ((2 : Int32) &&& 31).toUInt32).toInt32)) * own_cv0 3)) 2)) 1)) h932 n0 z933 hG930 (by decide) hname.2) hZ (hw _ (List.mem_of_getElem? (i := 102) rfl)) (hw _ (List.mem_of_getElem? (i := 4) rfl)) (by decide) (by decide)) q974a q974c (g := (mkF m 242 #[.val (.int r1), .val (.int n1), .val (.int ka), .val (.int kb), .val (.int kc), .val (.int fl), .val (.int (3 : Int32)), .val (.int v690), .val (.int v693), .val (.int v696), .val (.int v699), .val (.ref b703), .val (.ref b731), .val (.long (1 : Int64)), .second, .val (.long v936), .second, .val (.long v941), .second, .val (.long v946), .second, .val (.int (0 : Int32)), .val (.int v972), .val (.long v936), .second] [(.int v690), (.int r1), (.ref b703)])) rfl (by rw [hml]; rfl) (Steps.refl _) (argsL := [(.int r1), (.int v690)]) (rest := []) (lenOf pd_9 rfl) rfl (by show 2 * 0 + _ ≤ _; exact Nat.le_of_eq rfl) (hb hby at_242) (fun _ _ => ⟨rfl, e945, (by decide : 28 + 0 ≤ _), (by decide : 56 + 0 ≤ _)⟩)
          dsimp only [Pt.U, Pt.locs, Pt.cells, Pt.slots] at X974 l974 y974 z974 st974 hQ974
          subst l974 y974 z974
          obtain ⟨rfl, N974q, e974⟩ := hQ974
          have N974 := Fr.app N945 N974q
          have S975 : ∀ t, Steps p.tables e below (T974.setTop (mkF m 255 #[.val (.int r1), .val (.int n1), .val (.int ka), .val (.int kb), .val (.int kc), .val (.int fl), .val (.int (3 : Int32)), .val (.int v690), .val (.int v693), .val (.int v696), .val (.int v699), .val (.ref b703), .val (.ref b731), .val (.long (1 : Int64)), .second, .val (.long v936), .second, .val (.long v941), .second, .val (.long v946), .second, .val (.int (0 : Int32)), .val (.int v972), .val (.long v936), .second] [(.int (1 : Int32))])) t → Steps p.tables e below (T974.setTop (mkF m 245 #[.val (.int r1), .val (.int n1), .val (.int ka), .val (.int kb), .val (.int kc), .val (.int fl), .val (.int (3 : Int32)), .val (.int v690), .val (.int v693), .val (.int v696), .val (.int v699), .val (.ref b703), .val (.ref b731), .val (.long (1 : Int64)), .second, .val (.long v936), .second, .val (.long v941), .second, .val (.long v946), .second, .val (.int (0 : Int32)), .val (.int v972), .val (.long v936), .second] [(.int (own_fits (own_put (own_put (own_put own_cv0 2 ((own_rad v693 ((fl.toUInt32 >>> ((2 : Int32) &&& 31).toUInt32).toInt32)) * own_cv0 3)) 1 ((own_rad v696 ((fl.toUInt32 >>> ((4 : Int32) &&& 31).toUInt32).toInt32)) * (own_put own_cv0 2 ((own_rad v693 ((fl.toUInt32 >>> ((2 : Int32) &&& 31).toUInt32).toInt32)) * own_cv0 3)) 2)) 0 ((own_rad v699 ((fl.toUInt32 >>> ((6 : Int32) &&& 31).toUInt32).toInt32)) * (own_put (own_put own_cv0 2 ((own_rad v693 ((fl.toUInt32 >>> ((2 : Int32) &&& 31).toUInt32).toInt32)) * own_cv0 3)) 1 ((own_rad v696 ((fl.toUInt32 >>> ((4 : Int32) &&& 31).toUInt32).toInt32)) * (own_put own_cv0 2 ((own_rad v693 ((fl.toUInt32 >>> ((2 : Int32) &&& 31).toUInt32).toInt32)) * own_cv0 3)) 2)) 1)) 0 r1 v690))])) t := by
            intro t kt
            show Steps p.tables e below (T974.setTop (mkF m 245 #[.val (.int r1), .val (.int n1), .val (.int ka), .val (.int kb), .val (.int kc), .val (.int fl), .val (.int (3 : Int32)), .val (.int v690), .val (.int v693), .val (.int v696), .val (.int v699), .val (.ref b703), .val (.ref b731), .val (.long (1 : Int64)), .second, .val (.long v936), .second, .val (.long v941), .second, .val (.long v946), .second, .val (.int (0 : Int32)), .val (.int v972), .val (.long v936), .second] [(.int (own_fits (own_put (own_put (own_put own_cv0 2 ((own_rad v693 ((fl.toUInt32 >>> ((2 : Int32) &&& 31).toUInt32).toInt32)) * own_cv0 3)) 1 ((own_rad v696 ((fl.toUInt32 >>> ((4 : Int32) &&& 31).toUInt32).toInt32)) * (own_put own_cv0 2 ((own_rad v693 ((fl.toUInt32 >>> ((2 : Int32) &&& 31).toUInt32).toInt32)) * own_cv0 3)) 2)) 0 ((own_rad v699 ((fl.toUInt32 >>> ((6 : Int32) &&& 31).toUInt32).toInt32)) * (own_put (own_put own_cv0 2 ((own_rad v693 ((fl.toUInt32 >>> ((2 : Int32) &&& 31).toUInt32).toInt32)) * own_cv0 3)) 1 ((own_rad v696 ((fl.toUInt32 >>> ((4 : Int32) &&& 31).toUInt32).toInt32)) * (own_put own_cv0 2 ((own_rad v693 ((fl.toUInt32 >>> ((2 : Int32) &&& 31).toUInt32).toInt32)) * own_cv0 3)) 2)) 1)) 0 r1 v690))])) _
            refine XS.iload X974.here hx rfl (hb hby at_245) rfl ?_
            refine XS.icmpNo X974.here hx rfl (hb hby at_247) rfl (teq (own_ge (k := 0) hc952 (show (own_put (own_put (own_put own_cv0 2 ((own_rad v693 ((fl.toUInt32 >>> ((2 : Int32) &&& 31).toUInt32).toInt32)) * own_cv0 3)) 1 ((own_rad v696 ((fl.toUInt32 >>> ((4 : Int32) &&& 31).toUInt32).toInt32)) * (own_put own_cv0 2 ((own_rad v693 ((fl.toUInt32 >>> ((2 : Int32) &&& 31).toUInt32).toInt32)) * own_cv0 3)) 2)) 0 ((own_rad v699 ((fl.toUInt32 >>> ((6 : Int32) &&& 31).toUInt32).toInt32)) * (own_put (own_put own_cv0 2 ((own_rad v693 ((fl.toUInt32 >>> ((2 : Int32) &&& 31).toUInt32).toInt32)) * own_cv0 3)) 1 ((own_rad v696 ((fl.toUInt32 >>> ((4 : Int32) &&& 31).toUInt32).toInt32)) * (own_put own_cv0 2 ((own_rad v693 ((fl.toUInt32 >>> ((2 : Int32) &&& 31).toUInt32).toInt32)) * own_cv0 3)) 2)) 1)) v690.toInt.toNat = v936 from by rw [show v690 = (2 : Int32) from hc968, hv936]; rfl) hv972)).2 ?_
            refine XS.iconst X974.here hx rfl (hb hby at_250) ?_
            refine XS.goto X974.here hx rfl (pc0 := 251) (pc' := 255) rfl (hb hby at_251) (by decide) (by decide) ?_
            exact kt
          have C976 : ∀ t, Steps p.tables e below (T974.setTop (mkF m 255 #[.val (.int r1), .val (.int n1), .val (.int ka), .val (.int kb), .val (.int kc), .val (.int fl), .val (.int (3 : Int32)), .val (.int v690), .val (.int v693), .val (.int v696), .val (.int v699), .val (.ref b703), .val (.ref b731), .val (.long (1 : Int64)), .second, .val (.long v936), .second, .val (.long v941), .second, .val (.long v946), .second, .val (.int (0 : Int32)), .val (.int v972), .val (.long v936), .second] [(.int (1 : Int32))])) t → Steps p.tables e below (s₁.setTop (mkF m 0 #[.val (.int r1), .val (.int n1), .val (.int ka), .val (.int kb), .val (.int kc), .val (.int fl), .unset, .unset, .unset, .unset, .unset, .unset, .unset, .unset, .unset, .unset, .unset, .unset, .unset, .unset, .unset, .unset, .unset, .unset, .unset] [])) t := (fun t k => (C734 t (S921 t (S923 t (st924 t (S927 t (st928 t (S931 t (st932 t (S934 t (st935 t (S937 t (S938 t (S939 t (st940 t (S942 t (S943 t (S944 t (st945 t (S947 t (S948 t (S949 t (S950 t (S951 t (S957 t (S967 t (S969 t (S971 t (S973 t (st974.trans (S975 t k)))))))))))))))))))))))))))))))
          obtain ⟨fs, hr, hrun, hended, hW, hsame⟩ := X974.leave (v := some (.int (1 : Int32))) (fun h => by rw [Bd.returns] at h; cases h)
          refine ⟨_, _, pre0 _ (C976 _ ?_), hrun, hended, _, _, rfl, ?_, ⟨_, rfl⟩, hW, hsame.mono (by decide) (by decide)⟩
          · exact retN X974 hx (t := .boolean) Bd.returns (by simp) (hb hby at_255) hr
          · show Q_rm0 Z r1 n1 ka kb kc fl h0 n0 _ T974.heap _
            rw [e974]
            exact ⟨rfl, N974⟩
        · have S977 : ∀ t, Steps p.tables e below (T945.setTop (mkF m 204 #[.val (.int r1), .val (.int n1), .val (.int ka), .val (.int kb), .val (.int kc), .val (.int fl), .val (.int (3 : Int32)), .val (.int v690), .val (.int v693), .val (.int v696), .val (.int v699), .val (.ref b703), .val (.ref b731), .val (.long (1 : Int64)), .second, .val (.long v936), .second, .val (.long v941), .second, .val (.long v946), .second, .val (.int (0 : Int32)), .unset, .unset, .unset] [(.int (1 : Int32)), (.int v690)])) t → Steps p.tables e below (T945.setTop (mkF m 191 #[.val (.int r1), .val (.int n1), .val (.int ka), .val (.int kb), .val (.int kc), .val (.int fl), .val (.int (3 : Int32)), .val (.int v690), .val (.int v693), .val (.int v696), .val (.int v699), .val (.ref b703), .val (.ref b731), .val (.long (1 : Int64)), .second, .val (.long v936), .second, .val (.long v941), .second, .val (.long v946), .second, .val (.int (0 : Int32)), .unset, .unset, .unset] [(.int (2 : Int32)), (.int v690)])) t := by
            intro t kt
            show Steps p.tables e below (T945.setTop (mkF m 191 #[.val (.int r1), .val (.int n1), .val (.int ka), .val (.int kb), .val (.int kc), .val (.int fl), .val (.int (3 : Int32)), .val (.int v690), .val (.int v693), .val (.int v696), .val (.int v699), .val (.ref b703), .val (.ref b731), .val (.long (1 : Int64)), .second, .val (.long v936), .second, .val (.long v941), .second, .val (.long v946), .second, .val (.int (0 : Int32)), .unset, .unset, .unset] [(.int (2 : Int32)), (.int v690)])) _
            refine XS.icmpYes X945.here hx rfl (pc0 := 191) (pc' := 201) rfl (hb hby at_191) rfl (feq hc968).2 (by decide) (by decide) ?_
            refine XS.iload X945.here hx rfl (hb hby at_201) rfl ?_
            refine XS.iconst X945.here hx rfl (hb hby at_203) ?_
            exact kt
          by_cases hc978 : v690 = (1 : Int32)
          · have S979 : ∀ t, Steps p.tables e below (T945.setTop (mkF m 227 #[.val (.int r1), .val (.int n1), .val (.int ka), .val (.int kb), .val (.int kc), .val (.int fl), .val (.int (3 : Int32)), .val (.int v690), .val (.int v693), .val (.int v696), .val (.int v699), .val (.ref b703), .val (.ref b731), .val (.long (1 : Int64)), .second, .val (.long v936), .second, .val (.long v941), .second, .val (.long v946), .second, .val (.int (0 : Int32)), .unset, .val (.long v941), .second] [(.int (lcmpW v941 ((16 : Int64) * (r1.toInt64))))])) t → Steps p.tables e below (T945.setTop (mkF m 204 #[.val (.int r1), .val (.int n1), .val (.int ka), .val (.int kb), .val (.int kc), .val (.int fl), .val (.int (3 : Int32)), .val (.int v690), .val (.int v693), .val (.int v696), .val (.int v699), .val (.ref b703), .val (.ref b731), .val (.long (1 : Int64)), .second, .val (.long v936), .second, .val (.long v941), .second, .val (.long v946), .second, .val (.int (0 : Int32)), .unset, .unset, .unset] [(.int (1 : Int32)), (.int v690)])) t := by
              intro t kt
              show Steps p.tables e below (T945.setTop (mkF m 204 #[.val (.int r1), .val (.int n1), .val (.int ka), .val (.int kb), .val (.int kc), .val (.int fl), .val (.int (3 : Int32)), .val (.int v690), .val (.int v693), .val (.int v696), .val (.int v699), .val (.ref b703), .val (.ref b731), .val (.long (1 : Int64)), .second, .val (.long v936), .second, .val (.long v941), .second, .val (.long v946), .second, .val (.int (0 : Int32)), .unset, .unset, .unset] [(.int (1 : Int32)), (.int v690)])) _
              refine XS.icmpNo X945.here hx rfl (hb hby at_204) rfl (teq hc978).2 ?_
              refine XS.lload X945.here hx rfl (hb hby at_207) rfl ?_
              refine XS.lstore X945.here hx rfl (hb hby at_209) rfl (l' := #[.val (.int r1), .val (.int n1), .val (.int ka), .val (.int kb), .val (.int kc), .val (.int fl), .val (.int (3 : Int32)), .val (.int v690), .val (.int v693), .val (.int v696), .val (.int v699), .val (.ref b703), .val (.ref b731), .val (.long (1 : Int64)), .second, .val (.long v936), .second, .val (.long v941), .second, .val (.long v946), .second, .val (.int (0 : Int32)), .unset, .val (.long v941), .second]) rfl ?_
              refine XS.goto X945.here hx rfl (pc0 := 211) (pc' := 218) rfl (hb hby at_211) (by decide) (by decide) ?_
              refine XS.lload X945.here hx rfl (hb hby at_218) rfl ?_
              show Steps p.tables e below (T945.setTop (mkF m 220 #[.val (.int r1), .val (.int n1), .val (.int ka), .val (.int kb), .val (.int kc), .val (.int fl), .val (.int (3 : Int32)), .val (.int v690), .val (.int v693), .val (.int v696), .val (.int v699), .val (.ref b703), .val (.ref b731), .val (.long (1 : Int64)), .second, .val (.long v936), .second, .val (.long v941), .second, .val (.long v946), .second, .val (.int (0 : Int32)), .unset, .val (.long v941), .second] [(.long v941)])) _
              refine X945.ldc2Long hx hown (mvT hZ (hw _ (List.mem_of_getElem? (i := 97) rfl))) (g := (mkF m 220 #[.val (.int r1), .val (.int n1), .val (.int ka), .val (.int kb), .val (.int kc), .val (.int fl), .val (.int (3 : Int32)), .val (.int v690), .val (.int v693), .val (.int v696), .val (.int v699), .val (.ref b703), .val (.ref b731), .val (.long (1 : Int64)), .second, .val (.long v936), .second, .val (.long v941), .second, .val (.long v946), .second, .val (.int (0 : Int32)), .unset, .val (.long v941), .second] [(.long v941)])) rfl (hb hby at_220) _ ?_
              refine XS.iloadN X945.here hx rfl (hb hby at_223) rfl ?_
              refine XS.i2l X945.here hx rfl (hb hby at_224) rfl ?_
              refine XS.lmul X945.here hx rfl (hb hby at_225) rfl ?_
              refine XS.lcmp X945.here hx rfl (hb hby at_226) rfl ?_
              exact kt
            obtain ⟨v982, hv982⟩ : ∃ z : Int32, z = (if ((16 : Int64) * (r1.toInt64)) < v941 then (0 : Int32) else (1 : Int32)) := ⟨_, rfl⟩
            have S981 : ∀ t, Steps p.tables e below (T945.setTop (mkF m 235 #[.val (.int r1), .val (.int n1), .val (.int ka), .val (.int kb), .val (.int kc), .val (.int fl), .val (.int (3 : Int32)), .val (.int v690), .val (.int v693), .val (.int v696), .val (.int v699), .val (.ref b703), .val (.ref b731), .val (.long (1 : Int64)), .second, .val (.long v936), .second, .val (.long v941), .second, .val (.long v946), .second, .val (.int (0 : Int32)), .unset, .val (.long v941), .second] [(.int v982)])) t → Steps p.tables e below (T945.setTop (mkF m 227 #[.val (.int r1), .val (.int n1), .val (.int ka), .val (.int kb), .val (.int kc), .val (.int fl), .val (.int (3 : Int32)), .val (.int v690), .val (.int v693), .val (.int v696), .val (.int v699), .val (.ref b703), .val (.ref b731), .val (.long (1 : Int64)), .second, .val (.long v936), .second, .val (.long v941), .second, .val (.long v946), .second, .val (.int (0 : Int32)), .unset, .val (.long v941), .second] [(.int (lcmpW v941 ((16 : Int64) * (r1.toInt64))))])) t := by
              intro t kt
              subst hv982
              by_cases hc980 : ((16 : Int64) * (r1.toInt64)) < v941
              · simp only [if_pos hc980] at kt
                show Steps p.tables e below (T945.setTop (mkF m 227 #[.val (.int r1), .val (.int n1), .val (.int ka), .val (.int kb), .val (.int kc), .val (.int fl), .val (.int (3 : Int32)), .val (.int v690), .val (.int v693), .val (.int v696), .val (.int v699), .val (.ref b703), .val (.ref b731), .val (.long (1 : Int64)), .second, .val (.long v936), .second, .val (.long v941), .second, .val (.long v946), .second, .val (.int (0 : Int32)), .unset, .val (.long v941), .second] [(.int (lcmpW v941 ((16 : Int64) * (r1.toInt64))))])) _
                refine XS.ifYes X945.here hx rfl (pc0 := 227) (pc' := 234) rfl (hb hby at_227) rfl ((if0 _ _).trans (tlt ((lw_gt v941 ((16 : Int64) * (r1.toInt64))).mpr hc980)).2.2.1) (by decide) (by decide) ?_
                refine XS.iconst X945.here hx rfl (hb hby at_234) ?_
                exact kt
              · simp only [if_neg hc980] at kt
                show Steps p.tables e below (T945.setTop (mkF m 227 #[.val (.int r1), .val (.int n1), .val (.int ka), .val (.int kb), .val (.int kc), .val (.int fl), .val (.int (3 : Int32)), .val (.int v690), .val (.int v693), .val (.int v696), .val (.int v699), .val (.ref b703), .val (.ref b731), .val (.long (1 : Int64)), .second, .val (.long v936), .second, .val (.long v941), .second, .val (.long v946), .second, .val (.int (0 : Int32)), .unset, .val (.long v941), .second] [(.int (lcmpW v941 ((16 : Int64) * (r1.toInt64))))])) _
                refine XS.ifNo X945.here hx rfl (hb hby at_227) rfl ((if0 _ _).trans (flt (fun q => hc980 ((lw_gt v941 ((16 : Int64) * (r1.toInt64))).mp q))).2.2.1) ?_
                refine XS.iconst X945.here hx rfl (hb hby at_230) ?_
                refine XS.goto X945.here hx rfl (pc0 := 231) (pc' := 235) rfl (hb hby at_231) (by decide) (by decide) ?_
                exact kt
            have hEx := own_KG_exa hG930
            have S983 : ∀ t, Steps p.tables e below (T945.setTop (mkF m 242 #[.val (.int r1), .val (.int n1), .val (.int ka), .val (.int kb), .val (.int kc), .val (.int fl), .val (.int (3 : Int32)), .val (.int v690), .val (.int v693), .val (.int v696), .val (.int v699), .val (.ref b703), .val (.ref b731), .val (.long (1 : Int64)), .second, .val (.long v936), .second, .val (.long v941), .second, .val (.long v946), .second, .val (.int (0 : Int32)), .val (.int v982), .val (.long v941), .second] [(.int v690), (.int r1), (.ref b703)])) t → Steps p.tables e below (T945.setTop (mkF m 235 #[.val (.int r1), .val (.int n1), .val (.int ka), .val (.int kb), .val (.int kc), .val (.int fl), .val (.int (3 : Int32)), .val (.int v690), .val (.int v693), .val (.int v696), .val (.int v699), .val (.ref b703), .val (.ref b731), .val (.long (1 : Int64)), .second, .val (.long v936), .second, .val (.long v941), .second, .val (.long v946), .second, .val (.int (0 : Int32)), .unset, .val (.long v941), .second] [(.int v982)])) t := by
              intro t kt
              show Steps p.tables e below (T945.setTop (mkF m 235 #[.val (.int r1), .val (.int n1), .val (.int ka), .val (.int kb), .val (.int kc), .val (.int fl), .val (.int (3 : Int32)), .val (.int v690), .val (.int v693), .val (.int v696), .val (.int v699), .val (.ref b703), .val (.ref b731), .val (.long (1 : Int64)), .second, .val (.long v936), .second, .val (.long v941), .second, .val (.long v946), .second, .val (.int (0 : Int32)), .unset, .val (.long v941), .second] [(.int v982)])) _
              refine XS.istore X945.here hx rfl (hb hby at_235) rfl (l' := #[.val (.int r1), .val (.int n1), .val (.int ka), .val (.int kb), .val (.int kc), .val (.int fl), .val (.int (3 : Int32)), .val (.int v690), .val (.int v693), .val (.int v696), .val (.int v699), .val (.ref b703), .val (.ref b731), .val (.long (1 : Int64)), .second, .val (.long v936), .second, .val (.long v941), .second, .val (.long v946), .second, .val (.int (0 : Int32)), .val (.int v982), .val (.long v941), .second]) rfl ?_
              refine XS.aload X945.here hx rfl (hb hby at_237) rfl rfl ?_
              refine XS.iloadN X945.here hx rfl (hb hby at_239) rfl ?_
              refine XS.iload X945.here hx rfl (hb hby at_240) rfl ?_
              exact kt
            obtain ⟨cq984, kq984, q984a, q984b, q984c⟩ := isOf hZ e945 hEx
            obtain ⟨_, _, ⟨T984, L984, k984, n984⟩, -, X984, ⟨Lc984, hQ984, l984, y984, z984⟩, st984⟩ := X945.virtualBack hx (y := (⟨"com/example/joinery/joinery/KeyGrid", "fits", "(II)Z"⟩ : MethodName)) (z := (⟨"com/example/joinery/joinery/KeyGrid", "fits", "(II)Z"⟩ : MethodName)) hown (mvT hZ (hw _ (List.mem_of_getElem? (i := 98) rfl))) (mvT hZ (hw _ (List.mem_of_getElem? (i := 99) rfl))) (notFace_of_selects (args := #[]) (mvT hZ (hw _ (List.mem_of_getElem? (i := 101) rfl)))) (mvT hZ (hw _ (List.mem_of_getElem? (i := 101) rfl))) (mvT hZ (hw _ (List.mem_of_getElem? (i := 100) rfl))) (by decide) (backOf (W := 0) (rm11 l Z a0 hw [] b703 b731 r1 v690 0 (own_put (own_put (own_put own_cv0 2 ((own_rad v693 ((fl.toUInt32 >>> ((2 : Int32) &&& 31).toUInt32).toInt32)) * own_cv0 3)) 1 ((own_rad v696 ((fl.toUInt32 >>> ((4 : Int32) &&& 31).toUInt32).toInt32)) * (own_put own_cv0 2 ((own_rad v693 ((fl.toUInt32 >>> ((2 : Int32) &&& 31).toUInt32).toInt32)) * own_cv0 3)) 2)) 0 ((own_rad v699 ((fl.toUInt32 >>> ((6 : Int32) &&& 31).toUInt32).toInt32)) * (own_put (own_put own_cv0 2 ((own_rad v693 ((fl.toUInt32 >>> ((2 : Int32) &&& 31).toUInt32).toInt32)) * own_cv0 3)) 1 ((own_rad v696 ((fl.toUInt32 >>> ((4 : Int32) &&& 31).toUInt32).toInt32)) * (own_put own_cv0 2 ((own_rad v693 ((fl.toUInt32 >>> ((2 : Int32) &&& 31).toUInt32).toInt32)) * own_cv0 3)) 2)) 1)) h932 n0 z933 hG930 (by decide) hname.2) hZ (hw _ (List.mem_of_getElem? (i := 102) rfl)) (hw _ (List.mem_of_getElem? (i := 4) rfl)) (by decide) (by decide)) q984a q984c (g := (mkF m 242 #[.val (.int r1), .val (.int n1), .val (.int ka), .val (.int kb), .val (.int kc), .val (.int fl), .val (.int (3 : Int32)), .val (.int v690), .val (.int v693), .val (.int v696), .val (.int v699), .val (.ref b703), .val (.ref b731), .val (.long (1 : Int64)), .second, .val (.long v936), .second, .val (.long v941), .second, .val (.long v946), .second, .val (.int (0 : Int32)), .val (.int v982), .val (.long v941), .second] [(.int v690), (.int r1), (.ref b703)])) rfl (by rw [hml]; rfl) (Steps.refl _) (argsL := [(.int r1), (.int v690)]) (rest := []) (lenOf pd_9 rfl) rfl (by show 2 * 0 + _ ≤ _; exact Nat.le_of_eq rfl) (hb hby at_242) (fun _ _ => ⟨rfl, e945, (by decide : 28 + 0 ≤ _), (by decide : 56 + 0 ≤ _)⟩)
            dsimp only [Pt.U, Pt.locs, Pt.cells, Pt.slots] at X984 l984 y984 z984 st984 hQ984
            subst l984 y984 z984
            obtain ⟨rfl, N984q, e984⟩ := hQ984
            have N984 := Fr.app N945 N984q
            have S985 : ∀ t, Steps p.tables e below (T984.setTop (mkF m 255 #[.val (.int r1), .val (.int n1), .val (.int ka), .val (.int kb), .val (.int kc), .val (.int fl), .val (.int (3 : Int32)), .val (.int v690), .val (.int v693), .val (.int v696), .val (.int v699), .val (.ref b703), .val (.ref b731), .val (.long (1 : Int64)), .second, .val (.long v936), .second, .val (.long v941), .second, .val (.long v946), .second, .val (.int (0 : Int32)), .val (.int v982), .val (.long v941), .second] [(.int (1 : Int32))])) t → Steps p.tables e below (T984.setTop (mkF m 245 #[.val (.int r1), .val (.int n1), .val (.int ka), .val (.int kb), .val (.int kc), .val (.int fl), .val (.int (3 : Int32)), .val (.int v690), .val (.int v693), .val (.int v696), .val (.int v699), .val (.ref b703), .val (.ref b731), .val (.long (1 : Int64)), .second, .val (.long v936), .second, .val (.long v941), .second, .val (.long v946), .second, .val (.int (0 : Int32)), .val (.int v982), .val (.long v941), .second] [(.int (own_fits (own_put (own_put (own_put own_cv0 2 ((own_rad v693 ((fl.toUInt32 >>> ((2 : Int32) &&& 31).toUInt32).toInt32)) * own_cv0 3)) 1 ((own_rad v696 ((fl.toUInt32 >>> ((4 : Int32) &&& 31).toUInt32).toInt32)) * (own_put own_cv0 2 ((own_rad v693 ((fl.toUInt32 >>> ((2 : Int32) &&& 31).toUInt32).toInt32)) * own_cv0 3)) 2)) 0 ((own_rad v699 ((fl.toUInt32 >>> ((6 : Int32) &&& 31).toUInt32).toInt32)) * (own_put (own_put own_cv0 2 ((own_rad v693 ((fl.toUInt32 >>> ((2 : Int32) &&& 31).toUInt32).toInt32)) * own_cv0 3)) 1 ((own_rad v696 ((fl.toUInt32 >>> ((4 : Int32) &&& 31).toUInt32).toInt32)) * (own_put own_cv0 2 ((own_rad v693 ((fl.toUInt32 >>> ((2 : Int32) &&& 31).toUInt32).toInt32)) * own_cv0 3)) 2)) 1)) 0 r1 v690))])) t := by
              intro t kt
              show Steps p.tables e below (T984.setTop (mkF m 245 #[.val (.int r1), .val (.int n1), .val (.int ka), .val (.int kb), .val (.int kc), .val (.int fl), .val (.int (3 : Int32)), .val (.int v690), .val (.int v693), .val (.int v696), .val (.int v699), .val (.ref b703), .val (.ref b731), .val (.long (1 : Int64)), .second, .val (.long v936), .second, .val (.long v941), .second, .val (.long v946), .second, .val (.int (0 : Int32)), .val (.int v982), .val (.long v941), .second] [(.int (own_fits (own_put (own_put (own_put own_cv0 2 ((own_rad v693 ((fl.toUInt32 >>> ((2 : Int32) &&& 31).toUInt32).toInt32)) * own_cv0 3)) 1 ((own_rad v696 ((fl.toUInt32 >>> ((4 : Int32) &&& 31).toUInt32).toInt32)) * (own_put own_cv0 2 ((own_rad v693 ((fl.toUInt32 >>> ((2 : Int32) &&& 31).toUInt32).toInt32)) * own_cv0 3)) 2)) 0 ((own_rad v699 ((fl.toUInt32 >>> ((6 : Int32) &&& 31).toUInt32).toInt32)) * (own_put (own_put own_cv0 2 ((own_rad v693 ((fl.toUInt32 >>> ((2 : Int32) &&& 31).toUInt32).toInt32)) * own_cv0 3)) 1 ((own_rad v696 ((fl.toUInt32 >>> ((4 : Int32) &&& 31).toUInt32).toInt32)) * (own_put own_cv0 2 ((own_rad v693 ((fl.toUInt32 >>> ((2 : Int32) &&& 31).toUInt32).toInt32)) * own_cv0 3)) 2)) 1)) 0 r1 v690))])) _
              refine XS.iload X984.here hx rfl (hb hby at_245) rfl ?_
              refine XS.icmpNo X984.here hx rfl (hb hby at_247) rfl (teq (own_ge (k := 0) hc952 (show (own_put (own_put (own_put own_cv0 2 ((own_rad v693 ((fl.toUInt32 >>> ((2 : Int32) &&& 31).toUInt32).toInt32)) * own_cv0 3)) 1 ((own_rad v696 ((fl.toUInt32 >>> ((4 : Int32) &&& 31).toUInt32).toInt32)) * (own_put own_cv0 2 ((own_rad v693 ((fl.toUInt32 >>> ((2 : Int32) &&& 31).toUInt32).toInt32)) * own_cv0 3)) 2)) 0 ((own_rad v699 ((fl.toUInt32 >>> ((6 : Int32) &&& 31).toUInt32).toInt32)) * (own_put (own_put own_cv0 2 ((own_rad v693 ((fl.toUInt32 >>> ((2 : Int32) &&& 31).toUInt32).toInt32)) * own_cv0 3)) 1 ((own_rad v696 ((fl.toUInt32 >>> ((4 : Int32) &&& 31).toUInt32).toInt32)) * (own_put own_cv0 2 ((own_rad v693 ((fl.toUInt32 >>> ((2 : Int32) &&& 31).toUInt32).toInt32)) * own_cv0 3)) 2)) 1)) v690.toInt.toNat = v941 from by rw [show v690 = (1 : Int32) from hc978, hv941, hv936]; rfl) hv982)).2 ?_
              refine XS.iconst X984.here hx rfl (hb hby at_250) ?_
              refine XS.goto X984.here hx rfl (pc0 := 251) (pc' := 255) rfl (hb hby at_251) (by decide) (by decide) ?_
              exact kt
            have C986 : ∀ t, Steps p.tables e below (T984.setTop (mkF m 255 #[.val (.int r1), .val (.int n1), .val (.int ka), .val (.int kb), .val (.int kc), .val (.int fl), .val (.int (3 : Int32)), .val (.int v690), .val (.int v693), .val (.int v696), .val (.int v699), .val (.ref b703), .val (.ref b731), .val (.long (1 : Int64)), .second, .val (.long v936), .second, .val (.long v941), .second, .val (.long v946), .second, .val (.int (0 : Int32)), .val (.int v982), .val (.long v941), .second] [(.int (1 : Int32))])) t → Steps p.tables e below (s₁.setTop (mkF m 0 #[.val (.int r1), .val (.int n1), .val (.int ka), .val (.int kb), .val (.int kc), .val (.int fl), .unset, .unset, .unset, .unset, .unset, .unset, .unset, .unset, .unset, .unset, .unset, .unset, .unset, .unset, .unset, .unset, .unset, .unset, .unset] [])) t := (fun t k => (C734 t (S921 t (S923 t (st924 t (S927 t (st928 t (S931 t (st932 t (S934 t (st935 t (S937 t (S938 t (S939 t (st940 t (S942 t (S943 t (S944 t (st945 t (S947 t (S948 t (S949 t (S950 t (S951 t (S957 t (S967 t (S977 t (S979 t (S981 t (S983 t (st984.trans (S985 t k))))))))))))))))))))))))))))))))
            obtain ⟨fs, hr, hrun, hended, hW, hsame⟩ := X984.leave (v := some (.int (1 : Int32))) (fun h => by rw [Bd.returns] at h; cases h)
            refine ⟨_, _, pre0 _ (C986 _ ?_), hrun, hended, _, _, rfl, ?_, ⟨_, rfl⟩, hW, hsame.mono (by decide) (by decide)⟩
            · exact retN X984 hx (t := .boolean) Bd.returns (by simp) (hb hby at_255) hr
            · show Q_rm0 Z r1 n1 ka kb kc fl h0 n0 _ T984.heap _
              rw [e984]
              exact ⟨rfl, N984⟩
          · have S987 : ∀ t, Steps p.tables e below (T945.setTop (mkF m 227 #[.val (.int r1), .val (.int n1), .val (.int ka), .val (.int kb), .val (.int kc), .val (.int fl), .val (.int (3 : Int32)), .val (.int v690), .val (.int v693), .val (.int v696), .val (.int v699), .val (.ref b703), .val (.ref b731), .val (.long (1 : Int64)), .second, .val (.long v936), .second, .val (.long v941), .second, .val (.long v946), .second, .val (.int (0 : Int32)), .unset, .val (.long v946), .second] [(.int (lcmpW v946 ((16 : Int64) * (r1.toInt64))))])) t → Steps p.tables e below (T945.setTop (mkF m 204 #[.val (.int r1), .val (.int n1), .val (.int ka), .val (.int kb), .val (.int kc), .val (.int fl), .val (.int (3 : Int32)), .val (.int v690), .val (.int v693), .val (.int v696), .val (.int v699), .val (.ref b703), .val (.ref b731), .val (.long (1 : Int64)), .second, .val (.long v936), .second, .val (.long v941), .second, .val (.long v946), .second, .val (.int (0 : Int32)), .unset, .unset, .unset] [(.int (1 : Int32)), (.int v690)])) t := by
              intro t kt
              show Steps p.tables e below (T945.setTop (mkF m 204 #[.val (.int r1), .val (.int n1), .val (.int ka), .val (.int kb), .val (.int kc), .val (.int fl), .val (.int (3 : Int32)), .val (.int v690), .val (.int v693), .val (.int v696), .val (.int v699), .val (.ref b703), .val (.ref b731), .val (.long (1 : Int64)), .second, .val (.long v936), .second, .val (.long v941), .second, .val (.long v946), .second, .val (.int (0 : Int32)), .unset, .unset, .unset] [(.int (1 : Int32)), (.int v690)])) _
              refine XS.icmpYes X945.here hx rfl (pc0 := 204) (pc' := 214) rfl (hb hby at_204) rfl (feq hc978).2 (by decide) (by decide) ?_
              refine XS.lload X945.here hx rfl (hb hby at_214) rfl ?_
              refine XS.lstore X945.here hx rfl (hb hby at_216) rfl (l' := #[.val (.int r1), .val (.int n1), .val (.int ka), .val (.int kb), .val (.int kc), .val (.int fl), .val (.int (3 : Int32)), .val (.int v690), .val (.int v693), .val (.int v696), .val (.int v699), .val (.ref b703), .val (.ref b731), .val (.long (1 : Int64)), .second, .val (.long v936), .second, .val (.long v941), .second, .val (.long v946), .second, .val (.int (0 : Int32)), .unset, .val (.long v946), .second]) rfl ?_
              refine XS.lload X945.here hx rfl (hb hby at_218) rfl ?_
              refine X945.ldc2Long hx hown (mvT hZ (hw _ (List.mem_of_getElem? (i := 97) rfl))) (g := (mkF m 220 #[.val (.int r1), .val (.int n1), .val (.int ka), .val (.int kb), .val (.int kc), .val (.int fl), .val (.int (3 : Int32)), .val (.int v690), .val (.int v693), .val (.int v696), .val (.int v699), .val (.ref b703), .val (.ref b731), .val (.long (1 : Int64)), .second, .val (.long v936), .second, .val (.long v941), .second, .val (.long v946), .second, .val (.int (0 : Int32)), .unset, .val (.long v946), .second] [(.long v946)])) rfl (hb hby at_220) _ ?_
              show Steps p.tables e below (T945.setTop (mkF m 223 #[.val (.int r1), .val (.int n1), .val (.int ka), .val (.int kb), .val (.int kc), .val (.int fl), .val (.int (3 : Int32)), .val (.int v690), .val (.int v693), .val (.int v696), .val (.int v699), .val (.ref b703), .val (.ref b731), .val (.long (1 : Int64)), .second, .val (.long v936), .second, .val (.long v941), .second, .val (.long v946), .second, .val (.int (0 : Int32)), .unset, .val (.long v946), .second] [(.long (16 : Int64)), (.long v946)])) _
              refine XS.iloadN X945.here hx rfl (hb hby at_223) rfl ?_
              refine XS.i2l X945.here hx rfl (hb hby at_224) rfl ?_
              refine XS.lmul X945.here hx rfl (hb hby at_225) rfl ?_
              refine XS.lcmp X945.here hx rfl (hb hby at_226) rfl ?_
              exact kt
            obtain ⟨v990, hv990⟩ : ∃ z : Int32, z = (if ((16 : Int64) * (r1.toInt64)) < v946 then (0 : Int32) else (1 : Int32)) := ⟨_, rfl⟩
            have S989 : ∀ t, Steps p.tables e below (T945.setTop (mkF m 235 #[.val (.int r1), .val (.int n1), .val (.int ka), .val (.int kb), .val (.int kc), .val (.int fl), .val (.int (3 : Int32)), .val (.int v690), .val (.int v693), .val (.int v696), .val (.int v699), .val (.ref b703), .val (.ref b731), .val (.long (1 : Int64)), .second, .val (.long v936), .second, .val (.long v941), .second, .val (.long v946), .second, .val (.int (0 : Int32)), .unset, .val (.long v946), .second] [(.int v990)])) t → Steps p.tables e below (T945.setTop (mkF m 227 #[.val (.int r1), .val (.int n1), .val (.int ka), .val (.int kb), .val (.int kc), .val (.int fl), .val (.int (3 : Int32)), .val (.int v690), .val (.int v693), .val (.int v696), .val (.int v699), .val (.ref b703), .val (.ref b731), .val (.long (1 : Int64)), .second, .val (.long v936), .second, .val (.long v941), .second, .val (.long v946), .second, .val (.int (0 : Int32)), .unset, .val (.long v946), .second] [(.int (lcmpW v946 ((16 : Int64) * (r1.toInt64))))])) t := by
              intro t kt
              subst hv990
              by_cases hc988 : ((16 : Int64) * (r1.toInt64)) < v946
              · simp only [if_pos hc988] at kt
                show Steps p.tables e below (T945.setTop (mkF m 227 #[.val (.int r1), .val (.int n1), .val (.int ka), .val (.int kb), .val (.int kc), .val (.int fl), .val (.int (3 : Int32)), .val (.int v690), .val (.int v693), .val (.int v696), .val (.int v699), .val (.ref b703), .val (.ref b731), .val (.long (1 : Int64)), .second, .val (.long v936), .second, .val (.long v941), .second, .val (.long v946), .second, .val (.int (0 : Int32)), .unset, .val (.long v946), .second] [(.int (lcmpW v946 ((16 : Int64) * (r1.toInt64))))])) _
                refine XS.ifYes X945.here hx rfl (pc0 := 227) (pc' := 234) rfl (hb hby at_227) rfl ((if0 _ _).trans (tlt ((lw_gt v946 ((16 : Int64) * (r1.toInt64))).mpr hc988)).2.2.1) (by decide) (by decide) ?_
                refine XS.iconst X945.here hx rfl (hb hby at_234) ?_
                exact kt
              · simp only [if_neg hc988] at kt
                show Steps p.tables e below (T945.setTop (mkF m 227 #[.val (.int r1), .val (.int n1), .val (.int ka), .val (.int kb), .val (.int kc), .val (.int fl), .val (.int (3 : Int32)), .val (.int v690), .val (.int v693), .val (.int v696), .val (.int v699), .val (.ref b703), .val (.ref b731), .val (.long (1 : Int64)), .second, .val (.long v936), .second, .val (.long v941), .second, .val (.long v946), .second, .val (.int (0 : Int32)), .unset, .val (.long v946), .second] [(.int (lcmpW v946 ((16 : Int64) * (r1.toInt64))))])) _
                refine XS.ifNo X945.here hx rfl (hb hby at_227) rfl ((if0 _ _).trans (flt (fun q => hc988 ((lw_gt v946 ((16 : Int64) * (r1.toInt64))).mp q))).2.2.1) ?_
                refine XS.iconst X945.here hx rfl (hb hby at_230) ?_
                refine XS.goto X945.here hx rfl (pc0 := 231) (pc' := 235) rfl (hb hby at_231) (by decide) (by decide) ?_
                exact kt
            have hEx := own_KG_exa hG930
            have S991 : ∀ t, Steps p.tables e below (T945.setTop (mkF m 242 #[.val (.int r1), .val (.int n1), .val (.int ka), .val (.int kb), .val (.int kc), .val (.int fl), .val (.int (3 : Int32)), .val (.int v690), .val (.int v693), .val (.int v696), .val (.int v699), .val (.ref b703), .val (.ref b731), .val (.long (1 : Int64)), .second, .val (.long v936), .second, .val (.long v941), .second, .val (.long v946), .second, .val (.int (0 : Int32)), .val (.int v990), .val (.long v946), .second] [(.int v690), (.int r1), (.ref b703)])) t → Steps p.tables e below (T945.setTop (mkF m 235 #[.val (.int r1), .val (.int n1), .val (.int ka), .val (.int kb), .val (.int kc), .val (.int fl), .val (.int (3 : Int32)), .val (.int v690), .val (.int v693), .val (.int v696), .val (.int v699), .val (.ref b703), .val (.ref b731), .val (.long (1 : Int64)), .second, .val (.long v936), .second, .val (.long v941), .second, .val (.long v946), .second, .val (.int (0 : Int32)), .unset, .val (.long v946), .second] [(.int v990)])) t := by
              intro t kt
              show Steps p.tables e below (T945.setTop (mkF m 235 #[.val (.int r1), .val (.int n1), .val (.int ka), .val (.int kb), .val (.int kc), .val (.int fl), .val (.int (3 : Int32)), .val (.int v690), .val (.int v693), .val (.int v696), .val (.int v699), .val (.ref b703), .val (.ref b731), .val (.long (1 : Int64)), .second, .val (.long v936), .second, .val (.long v941), .second, .val (.long v946), .second, .val (.int (0 : Int32)), .unset, .val (.long v946), .second] [(.int v990)])) _
              refine XS.istore X945.here hx rfl (hb hby at_235) rfl (l' := #[.val (.int r1), .val (.int n1), .val (.int ka), .val (.int kb), .val (.int kc), .val (.int fl), .val (.int (3 : Int32)), .val (.int v690), .val (.int v693), .val (.int v696), .val (.int v699), .val (.ref b703), .val (.ref b731), .val (.long (1 : Int64)), .second, .val (.long v936), .second, .val (.long v941), .second, .val (.long v946), .second, .val (.int (0 : Int32)), .val (.int v990), .val (.long v946), .second]) rfl ?_
              refine XS.aload X945.here hx rfl (hb hby at_237) rfl rfl ?_
              refine XS.iloadN X945.here hx rfl (hb hby at_239) rfl ?_
              refine XS.iload X945.here hx rfl (hb hby at_240) rfl ?_
              exact kt
            obtain ⟨cq992, kq992, q992a, q992b, q992c⟩ := isOf hZ e945 hEx
            obtain ⟨_, _, ⟨T992, L992, k992, n992⟩, -, X992, ⟨Lc992, hQ992, l992, y992, z992⟩, st992⟩ := X945.virtualBack hx (y := (⟨"com/example/joinery/joinery/KeyGrid", "fits", "(II)Z"⟩ : MethodName)) (z := (⟨"com/example/joinery/joinery/KeyGrid", "fits", "(II)Z"⟩ : MethodName)) hown (mvT hZ (hw _ (List.mem_of_getElem? (i := 98) rfl))) (mvT hZ (hw _ (List.mem_of_getElem? (i := 99) rfl))) (notFace_of_selects (args := #[]) (mvT hZ (hw _ (List.mem_of_getElem? (i := 101) rfl)))) (mvT hZ (hw _ (List.mem_of_getElem? (i := 101) rfl))) (mvT hZ (hw _ (List.mem_of_getElem? (i := 100) rfl))) (by decide) (backOf (W := 0) (rm11 l Z a0 hw [] b703 b731 r1 v690 0 (own_put (own_put (own_put own_cv0 2 ((own_rad v693 ((fl.toUInt32 >>> ((2 : Int32) &&& 31).toUInt32).toInt32)) * own_cv0 3)) 1 ((own_rad v696 ((fl.toUInt32 >>> ((4 : Int32) &&& 31).toUInt32).toInt32)) * (own_put own_cv0 2 ((own_rad v693 ((fl.toUInt32 >>> ((2 : Int32) &&& 31).toUInt32).toInt32)) * own_cv0 3)) 2)) 0 ((own_rad v699 ((fl.toUInt32 >>> ((6 : Int32) &&& 31).toUInt32).toInt32)) * (own_put (own_put own_cv0 2 ((own_rad v693 ((fl.toUInt32 >>> ((2 : Int32) &&& 31).toUInt32).toInt32)) * own_cv0 3)) 1 ((own_rad v696 ((fl.toUInt32 >>> ((4 : Int32) &&& 31).toUInt32).toInt32)) * (own_put own_cv0 2 ((own_rad v693 ((fl.toUInt32 >>> ((2 : Int32) &&& 31).toUInt32).toInt32)) * own_cv0 3)) 2)) 1)) h932 n0 z933 hG930 (by decide) hname.2) hZ (hw _ (List.mem_of_getElem? (i := 102) rfl)) (hw _ (List.mem_of_getElem? (i := 4) rfl)) (by decide) (by decide)) q992a q992c (g := (mkF m 242 #[.val (.int r1), .val (.int n1), .val (.int ka), .val (.int kb), .val (.int kc), .val (.int fl), .val (.int (3 : Int32)), .val (.int v690), .val (.int v693), .val (.int v696), .val (.int v699), .val (.ref b703), .val (.ref b731), .val (.long (1 : Int64)), .second, .val (.long v936), .second, .val (.long v941), .second, .val (.long v946), .second, .val (.int (0 : Int32)), .val (.int v990), .val (.long v946), .second] [(.int v690), (.int r1), (.ref b703)])) rfl (by rw [hml]; rfl) (Steps.refl _) (argsL := [(.int r1), (.int v690)]) (rest := []) (lenOf pd_9 rfl) rfl (by show 2 * 0 + _ ≤ _; exact Nat.le_of_eq rfl) (hb hby at_242) (fun _ _ => ⟨rfl, e945, (by decide : 28 + 0 ≤ _), (by decide : 56 + 0 ≤ _)⟩)
            dsimp only [Pt.U, Pt.locs, Pt.cells, Pt.slots] at X992 l992 y992 z992 st992 hQ992
            subst l992 y992 z992
            obtain ⟨rfl, N992q, e992⟩ := hQ992
            have N992 := Fr.app N945 N992q
            have S993 : ∀ t, Steps p.tables e below (T992.setTop (mkF m 255 #[.val (.int r1), .val (.int n1), .val (.int ka), .val (.int kb), .val (.int kc), .val (.int fl), .val (.int (3 : Int32)), .val (.int v690), .val (.int v693), .val (.int v696), .val (.int v699), .val (.ref b703), .val (.ref b731), .val (.long (1 : Int64)), .second, .val (.long v936), .second, .val (.long v941), .second, .val (.long v946), .second, .val (.int (0 : Int32)), .val (.int v990), .val (.long v946), .second] [(.int (1 : Int32))])) t → Steps p.tables e below (T992.setTop (mkF m 245 #[.val (.int r1), .val (.int n1), .val (.int ka), .val (.int kb), .val (.int kc), .val (.int fl), .val (.int (3 : Int32)), .val (.int v690), .val (.int v693), .val (.int v696), .val (.int v699), .val (.ref b703), .val (.ref b731), .val (.long (1 : Int64)), .second, .val (.long v936), .second, .val (.long v941), .second, .val (.long v946), .second, .val (.int (0 : Int32)), .val (.int v990), .val (.long v946), .second] [(.int (own_fits (own_put (own_put (own_put own_cv0 2 ((own_rad v693 ((fl.toUInt32 >>> ((2 : Int32) &&& 31).toUInt32).toInt32)) * own_cv0 3)) 1 ((own_rad v696 ((fl.toUInt32 >>> ((4 : Int32) &&& 31).toUInt32).toInt32)) * (own_put own_cv0 2 ((own_rad v693 ((fl.toUInt32 >>> ((2 : Int32) &&& 31).toUInt32).toInt32)) * own_cv0 3)) 2)) 0 ((own_rad v699 ((fl.toUInt32 >>> ((6 : Int32) &&& 31).toUInt32).toInt32)) * (own_put (own_put own_cv0 2 ((own_rad v693 ((fl.toUInt32 >>> ((2 : Int32) &&& 31).toUInt32).toInt32)) * own_cv0 3)) 1 ((own_rad v696 ((fl.toUInt32 >>> ((4 : Int32) &&& 31).toUInt32).toInt32)) * (own_put own_cv0 2 ((own_rad v693 ((fl.toUInt32 >>> ((2 : Int32) &&& 31).toUInt32).toInt32)) * own_cv0 3)) 2)) 1)) 0 r1 v690))])) t := by
              intro t kt
              show Steps p.tables e below (T992.setTop (mkF m 245 #[.val (.int r1), .val (.int n1), .val (.int ka), .val (.int kb), .val (.int kc), .val (.int fl), .val (.int (3 : Int32)), .val (.int v690), .val (.int v693), .val (.int v696), .val (.int v699), .val (.ref b703), .val (.ref b731), .val (.long (1 : Int64)), .second, .val (.long v936), .second, .val (.long v941), .second, .val (.long v946), .second, .val (.int (0 : Int32)), .val (.int v990), .val (.long v946), .second] [(.int (own_fits (own_put (own_put (own_put own_cv0 2 ((own_rad v693 ((fl.toUInt32 >>> ((2 : Int32) &&& 31).toUInt32).toInt32)) * own_cv0 3)) 1 ((own_rad v696 ((fl.toUInt32 >>> ((4 : Int32) &&& 31).toUInt32).toInt32)) * (own_put own_cv0 2 ((own_rad v693 ((fl.toUInt32 >>> ((2 : Int32) &&& 31).toUInt32).toInt32)) * own_cv0 3)) 2)) 0 ((own_rad v699 ((fl.toUInt32 >>> ((6 : Int32) &&& 31).toUInt32).toInt32)) * (own_put (own_put own_cv0 2 ((own_rad v693 ((fl.toUInt32 >>> ((2 : Int32) &&& 31).toUInt32).toInt32)) * own_cv0 3)) 1 ((own_rad v696 ((fl.toUInt32 >>> ((4 : Int32) &&& 31).toUInt32).toInt32)) * (own_put own_cv0 2 ((own_rad v693 ((fl.toUInt32 >>> ((2 : Int32) &&& 31).toUInt32).toInt32)) * own_cv0 3)) 2)) 1)) 0 r1 v690))])) _
              refine XS.iload X992.here hx rfl (hb hby at_245) rfl ?_
              refine XS.icmpNo X992.here hx rfl (hb hby at_247) rfl (teq (own_ge (k := 0) hc952 (show (own_put (own_put (own_put own_cv0 2 ((own_rad v693 ((fl.toUInt32 >>> ((2 : Int32) &&& 31).toUInt32).toInt32)) * own_cv0 3)) 1 ((own_rad v696 ((fl.toUInt32 >>> ((4 : Int32) &&& 31).toUInt32).toInt32)) * (own_put own_cv0 2 ((own_rad v693 ((fl.toUInt32 >>> ((2 : Int32) &&& 31).toUInt32).toInt32)) * own_cv0 3)) 2)) 0 ((own_rad v699 ((fl.toUInt32 >>> ((6 : Int32) &&& 31).toUInt32).toInt32)) * (own_put (own_put own_cv0 2 ((own_rad v693 ((fl.toUInt32 >>> ((2 : Int32) &&& 31).toUInt32).toInt32)) * own_cv0 3)) 1 ((own_rad v696 ((fl.toUInt32 >>> ((4 : Int32) &&& 31).toUInt32).toInt32)) * (own_put own_cv0 2 ((own_rad v693 ((fl.toUInt32 >>> ((2 : Int32) &&& 31).toUInt32).toInt32)) * own_cv0 3)) 2)) 1)) v690.toInt.toNat = v946 from by rw [show v690 = (0 : Int32) from own_zero hname hc958 hc968 hc978 hc952, hv946, hv941, hv936]; rfl) hv990)).2 ?_
              refine XS.iconst X992.here hx rfl (hb hby at_250) ?_
              refine XS.goto X992.here hx rfl (pc0 := 251) (pc' := 255) rfl (hb hby at_251) (by decide) (by decide) ?_
              exact kt
            have C994 : ∀ t, Steps p.tables e below (T992.setTop (mkF m 255 #[.val (.int r1), .val (.int n1), .val (.int ka), .val (.int kb), .val (.int kc), .val (.int fl), .val (.int (3 : Int32)), .val (.int v690), .val (.int v693), .val (.int v696), .val (.int v699), .val (.ref b703), .val (.ref b731), .val (.long (1 : Int64)), .second, .val (.long v936), .second, .val (.long v941), .second, .val (.long v946), .second, .val (.int (0 : Int32)), .val (.int v990), .val (.long v946), .second] [(.int (1 : Int32))])) t → Steps p.tables e below (s₁.setTop (mkF m 0 #[.val (.int r1), .val (.int n1), .val (.int ka), .val (.int kb), .val (.int kc), .val (.int fl), .unset, .unset, .unset, .unset, .unset, .unset, .unset, .unset, .unset, .unset, .unset, .unset, .unset, .unset, .unset, .unset, .unset, .unset, .unset] [])) t := (fun t k => (C734 t (S921 t (S923 t (st924 t (S927 t (st928 t (S931 t (st932 t (S934 t (st935 t (S937 t (S938 t (S939 t (st940 t (S942 t (S943 t (S944 t (st945 t (S947 t (S948 t (S949 t (S950 t (S951 t (S957 t (S967 t (S977 t (S987 t (S989 t (S991 t (st992.trans (S993 t k))))))))))))))))))))))))))))))))
            obtain ⟨fs, hr, hrun, hended, hW, hsame⟩ := X992.leave (v := some (.int (1 : Int32))) (fun h => by rw [Bd.returns] at h; cases h)
            refine ⟨_, _, pre0 _ (C994 _ ?_), hrun, hended, _, _, rfl, ?_, ⟨_, rfl⟩, hW, hsame.mono (by decide) (by decide)⟩
            · exact retN X992 hx (t := .boolean) Bd.returns (by simp) (hb hby at_255) hr
            · show Q_rm0 Z r1 n1 ka kb kc fl h0 n0 _ T992.heap _
              rw [e992]
              exact ⟨rfl, N992⟩
set_option maxRecDepth 65536 in
set_option maxHeartbeats 40000000 in
theorem comes_1 {Post : Tables → Env → Array Value → State → Outcome → State → Prop} (hpost : ∀ tb e args s v u, (limb_1_1.after args s (.returned v) u = true ∧ limb_1_2.after args s (.returned v) u = true ∧ True) → FrameEnd s (.returned v) u (Jvm.fieldLocs frame_1_writes args s ++ Jvm.arrayLocs frame_1_arrays args s ++ Jvm.staticLocs frame_1_statics s) 64 192 → Post tb e args s (.returned v) u) :
    ArmFor flags0 classFile x code maxLocals ret World_1 tables_1 room_1 Calls_1 rest_1 Pre_1 Post := by
  intro l hfl _ _ p e ha hc hk s m args below hf hA hF happ hP
  obtain ⟨hcalls, hrest, hpre⟩ := hP
  obtain ⟨-, -, -, hnamed, -, -, -, hat⟩ := (Spec.applies_iff hf).mp happ
  obtain ⟨hg, hn⟩ := and_e (Cond.before_iff.mp (show (Jvm.Cond.and given_1 narrow_1).before args s = true from hpre))
  obtain ⟨gg1, gg2⟩ := and_e hg
  obtain ⟨gg3, gg4⟩ := and_e gg2
  obtain ⟨gg5, gg6⟩ := and_e gg4
  obtain ⟨gg7, gg8⟩ := and_e gg6
  obtain ⟨gg9, gg10⟩ := and_e gg8
  obtain ⟨gg11, gg12⟩ := and_e gg10
  obtain ⟨w0, w1, w2, w3, w4, w5, rfl⟩ : ∃ w0 w1 w2 w3 w4 w5 : Value, args = #[w0, w1, w2, w3, w4, w5] := by
    have hs : args.size = 6 := by simpa [Cond.value, given_1] using gg1
    obtain ⟨L⟩ := args
    match L, hs with
    | [w0, w1, w2, w3, w4, w5], _ => exact ⟨w0, w1, w2, w3, w4, w5, rfl⟩
  have hw := fun d (hd : d ∈ tables_1) => atoms_spec (ws := Jvm.Cond.code x code maxLocals ret :: tables_1) hat d (List.mem_cons_of_mem _ hd)
  have hfit : Fit s := fun {y c} hc i hi => by
    obtain ⟨ha, rfl⟩ := Array.getElem?_eq_some_iff.mp hc
    have q := List.all_eq_true.mp ((Array.all_eq_true_iff_forall_mem.mp hF) _ (Array.getElem_mem ha)) i (List.mem_range.mpr hi)
    simpa [Array.getElem?_eq_getElem hi] using q
  obtain ⟨i0, ei0⟩ := is_v gg3
  obtain rfl : w0 = (.int i0) := Option.some.inj ei0
  obtain ⟨i1, ei1⟩ := is_v gg5
  obtain rfl : w1 = (.int i1) := Option.some.inj ei1
  obtain ⟨i2, ei2⟩ := is_v gg7
  obtain rfl : w2 = (.int i2) := Option.some.inj ei2
  obtain ⟨i3, ei3⟩ := is_v gg9
  obtain rfl : w3 = (.int i3) := Option.some.inj ei3
  obtain ⟨i4, ei4⟩ := is_v gg11
  obtain rfl : w4 = (.int i4) := Option.some.inj ei4
  obtain ⟨i5, ei5⟩ := is_v gg12
  obtain rfl : w5 = (.int i5) := Option.some.inj ei5
  obtain ⟨n, o, h1, h2, h3, _, L, rfl, ⟨rfl, N⟩, hq⟩ := rm0 l s _ hw tables_1 i0 i1 i2 i3 i4 i5 s.heap s.heap.size (Nat.le_refl _)  p e ha hc hk s m _ below hf ((Spec.applies_iff_loose hf).mp happ).1 ⟨rfl, State.Warmed39.refl s, rfl⟩ trivial
  refine ⟨n, _, h1, h2, h3, hpost _ _ _ _ _ _ ⟨Cond.after_iff.mpr rfl, Cond.after_iff.mpr (eq_i res_at (Term.int_eval (1)) rfl), trivial⟩ ⟨hq.1, hq.2.1, (hq.2.2.sift fun y hy => Or.inr (N y hy)).mono (by decide) (by decide)⟩⟩
theorem main_1_1 : Claimed_1_1 := comes_1 fun _ _ _ _ _ _ h hF => ⟨h.1, hF⟩
theorem main_1_2 : Claimed_1_2 := comes_1 fun _ _ _ _ _ _ h hF => ⟨h.2.1, hF⟩
end Jvm.Pilot.@@N@@
namespace Jvm.Pilot.@@N@@
open Jvm Jvm.ClassFile Sem Op Lib Jvm.Free Jvm.Stand Jvm.Pilot.@@N@@.Jvm.D
/-! MADE BY PROGRAM (witnessworld.py) out of the Statement's table words and the real class files: 15 classes; the members and pool entries that the words name. The judged class is class 1, her method 3. -/
namespace start1
open Jvm.ClassFile
def u (s : String) : CpInfo := .utf8 (stringToUtf16 s)
/-- a pool by its gaps: so many unusable entries, then the entry; so many at the end -/
def gap : Nat → List CpInfo → List CpInfo
  | 0, r => r
  | n + 1, r => .unusable :: gap n r
def poolList (es : List (Nat × CpInfo)) (last : Nat) : List CpInfo := es.foldr (fun e r => gap e.1 (e.2 :: r)) (gap last [])
def pool (es : List (Nat × CpInfo)) (last : Nat) : Array CpInfo := ⟨poolList es last⟩
def fileOf (pool : Array CpInfo) (this : Nat) (attrs : Array Attribute := #[]) (ms : Array MethodInfo := #[]) (fl : Nat := 33) (sup : Nat := 0) (ifs : Array Nat := #[]) (fds : Array FieldInfo := #[]) : ClassFile where
  minorVersion := 0
  majorVersion := 65
  constantPool := pool
  accessFlags := fl
  thisClass := this
  superClass := sup
  interfaces := ifs
  fields := fds
  methods := ms
  attributes := attrs
def plain (name : String) (sup : Option ClassId) : Class where
  name := name
  kind := .ordinary
  loader := none
  accessFlags := 33
  super := sup
  interfaces := #[]
  cf := none
  fields := #[]
  methods := #[]
  instanceTypes := #[]
  staticTypes := #[]
  resolved := #[]
  callSites := []
  init := .initialized
  statics := none
  mirror := none

def pool0 : Array CpInfo := pool [(5, u "<init>"), (0, u "()V"), (1, .class_ 10), (1, u "java/lang/Object")] 113

def k0c0 : Code := { maxStack := 0, maxLocals := 1, code := object_method_1_code, exceptionTable := #[], attributes := #[] }
def k0m0 : Method := { name := "<init>", desc := "()V", sig := { parameters := [], returnType := none }, accessFlags := 1, code := some k0c0 }
/-- java/lang/Object -/
def k0 : Class := { plain "java/lang/Object" none with
  accessFlags := 33
  interfaces := #[]
  cf := some (fileOf pool0 8 #[] #[{ accessFlags := 1, nameIndex := 5, descriptorIndex := 6, attributes := #[] }] 33 0 #[] #[])
  fields := #[]
  methods := #[k0m0]
  instanceTypes := #[]
  staticTypes := #[]
  resolved := Array.replicate 124 none
  statics := none }

def pool1 : Array CpInfo := pool [(2, .class_ 4), (1, u "java/lang/Object"), (0, u "<init>"), (0, u "()V"), (0, .methodref 8 9), (0, .class_ 10), (0, .nameAndType 11 12), (0, u "com/example/joinery/joinery/KeyGrid"), (0, u "giveApart"), (0, u "(I[I[I)V"), (0, .methodref 8 14), (0, .nameAndType 15 16), (0, u "give"), (0, u "(IZ[I[I)V"), (0, .long 2), (1, .integer 2147483647), (0, .integer 65535), (0, .methodref 8 22), (0, .nameAndType 5 23), (0, u "(IJ)V"), (0, .methodref 25 26), (0, .class_ 27), (0, .nameAndType 28 29), (0, u "com/example/joinery/joinery/KeyGridFitsPinLaw"), (0, u "giveName"), (0, u "(Lcom/example/joinery/joinery/KeyGrid;II[I)V"), (0, .methodref 25 31), (0, .nameAndType 32 33), (0, u "radix"), (0, u "(II)J"), (0, .long 16), (1, .methodref 8 37), (0, .nameAndType 38 39), (0, u "fits"), (0, u "(II)Z"), (5, u "law"), (0, u "(IIIIII)Z")] 2

def k1m0 : Method := { name := "<init>", desc := "()V", sig := { parameters := [], returnType := none }, accessFlags := 2, code := none }
def k1c1 : Code := { maxStack := 5, maxLocals := 4, code := method_2_code, exceptionTable := #[], attributes := #[] }
def k1m1 : Method := { name := "giveName", desc := "(Lcom/example/joinery/joinery/KeyGrid;II[I)V", sig := { parameters := [(.object "com/example/joinery/joinery/KeyGrid"), .int, .int, (.array .int)], returnType := none }, accessFlags := 10, code := some k1c1 }
def k1c2 : Code := { maxStack := 4, maxLocals := 2, code := method_3_code, exceptionTable := #[], attributes := #[] }
def k1m2 : Method := { name := "radix", desc := "(II)J", sig := { parameters := [.int, .int], returnType := some .long }, accessFlags := 10, code := some k1c2 }
def k1c3 : Code := { maxStack := 6, maxLocals := 25, code := code, exceptionTable := #[], attributes := #[] }
def k1m3 : Method := { name := "law", desc := "(IIIIII)Z", sig := { parameters := [.int, .int, .int, .int, .int, .int], returnType := some .boolean }, accessFlags := 9, code := some k1c3 }
/-- com/example/joinery/joinery/KeyGridFitsPinLaw -/
def k1 : Class := { plain "com/example/joinery/joinery/KeyGridFitsPinLaw" (some 0) with
  accessFlags := 49
  interfaces := #[]
  cf := some (fileOf pool1 25 #[] #[{ accessFlags := 2, nameIndex := 5, descriptorIndex := 6, attributes := #[] }, { accessFlags := 10, nameIndex := 28, descriptorIndex := 29, attributes := #[] }, { accessFlags := 10, nameIndex := 32, descriptorIndex := 33, attributes := #[] }, { accessFlags := 9, nameIndex := 45, descriptorIndex := 46, attributes := #[] }] 49 2 #[] #[])
  fields := #[]
  methods := #[k1m0, k1m1, k1m2, k1m3]
  instanceTypes := #[]
  staticTypes := #[]
  resolved := Array.replicate 49 none
  statics := none }

def pool2 : Array CpInfo := pool [(1, .methodref 2 3), (0, .class_ 4), (0, .nameAndType 5 6), (0, u "java/lang/Object"), (0, u "<init>"), (0, u "()V"), (0, .fieldref 8 9), (0, .class_ 10), (0, .nameAndType 11 12), (0, u "com/example/joinery/joinery/KeyGrid"), (0, u "cells"), (0, u "[I"), (0, .class_ 14), (0, u "com/example/joinery/joinery/KeyGrid$Laid"), (0, .methodref 13 16), (0, .nameAndType 5 17), (0, u "(II)V"), (0, .fieldref 8 19), (0, .nameAndType 20 21), (0, u "leftLaid"), (0, u "Lcom/example/joinery/joinery/KeyGrid$Laid;"), (0, .fieldref 8 23), (0, .nameAndType 24 21), (0, u "rightLaid"), (0, .fieldref 8 26), (0, .nameAndType 27 12), (0, u "leftOrder"), (0, .fieldref 8 29), (0, .nameAndType 30 12), (0, u "rightOrder"), (0, .fieldref 8 32), (0, .nameAndType 33 21), (0, u "leftHolders"), (0, .fieldref 8 35), (0, .nameAndType 36 21), (0, u "rightHolders"), (0, .fieldref 8 38), (0, .nameAndType 39 12), (0, u "keyStarts"), (0, .fieldref 8 41), (0, .nameAndType 42 12), (0, u "leftKeys"), (0, .fieldref 8 44), (0, .nameAndType 45 46), (0, u "keyedRows"), (0, u "[J"), (0, .fieldref 8 48), (0, .nameAndType 49 12), (0, u "sortedRows"), (0, .fieldref 8 51), (0, .nameAndType 52 53), (0, u "names"), (0, u "I"), (0, .methodref 8 55), (0, .nameAndType 56 57), (0, u "mostCells"), (0, u "(J)J"), (0, .fieldref 8 59), (0, .nameAndType 56 60), (0, u "J"), (0, .fieldref 8 62), (0, .nameAndType 63 12), (0, u "radix"), (0, .fieldref 8 65), (0, .nameAndType 66 67), (0, u "lacked"), (0, u "[Z"), (0, .fieldref 8 69), (0, .nameAndType 70 67), (0, u "apart"), (0, .fieldref 8 72), (0, .nameAndType 73 12), (0, u "apartKeys"), (0, .fieldref 8 75), (0, .nameAndType 76 46), (0, u "cellsFrom"), (0, .fieldref 8 78), (0, .nameAndType 79 53), (0, u "first"), (0, .class_ 12), (0, .fieldref 8 82), (0, .nameAndType 83 84), (0, u "leftDigits"), (0, u "[[I"), (0, .fieldref 8 86), (0, .nameAndType 87 84), (0, u "rightDigits"), (17, .class_ 107), (1, u "java/lang/Math"), (6, .long 16), (3, .long 2147483639), (1, .methodref 105 121), (0, .nameAndType 122 123), (0, u "min"), (0, u "(JJ)J"), (0, .methodref 8 125), (0, .nameAndType 126 127), (0, u "lower"), (0, u "([I)V"), (9, .long 2), (7, u "partName"), (2, u "width"), (2, u "apartNames"), (2, u "cellAt"), (2, u "stride"), (1, .class_ 161), (1, u "com/example/joinery/joinery/KeyGrid$Rows"), (15, .class_ 178), (0, u "com/example/joinery/joinery/KeyGrid$Slice"), (89, .class_ 270), (1, u "com/example/joinery/joinery/KeyGrid$Runs"), (48, u "CELLS_PER_ROW"), (2, u "(IJ)V"), (9, u "give"), (0, u "(IZ[I[I)V"), (0, u "giveApart"), (0, u "(I[I[I)V"), (0, u "fits"), (0, u "(II)Z"), (6, .class_ 345), (0, u "com/example/joinery/joinery/KeyGrid$ApartSteps")] 6

def k2c0 : Code := { maxStack := 5, maxLocals := 4, code := prog_21_method_1_code, exceptionTable := #[], attributes := #[] }
def k2m0 : Method := { name := "<init>", desc := "(IJ)V", sig := { parameters := [.int, .long], returnType := none }, accessFlags := 0, code := some k2c0 }
def k2c1 : Code := { maxStack := 4, maxLocals := 2, code := prog_21_method_7_code, exceptionTable := #[], attributes := #[] }
def k2m1 : Method := { name := "mostCells", desc := "(J)J", sig := { parameters := [.long], returnType := some .long }, accessFlags := 8, code := some k2c1 }
def k2c2 : Code := { maxStack := 7, maxLocals := 6, code := prog_21_method_10_code, exceptionTable := #[], attributes := #[] }
def k2m2 : Method := { name := "give", desc := "(IZ[I[I)V", sig := { parameters := [.int, .boolean, (.array .int), (.array .int)], returnType := none }, accessFlags := 0, code := some k2c2 }
def k2c3 : Code := { maxStack := 7, maxLocals := 5, code := prog_21_method_11_code, exceptionTable := #[], attributes := #[] }
def k2m3 : Method := { name := "giveApart", desc := "(I[I[I)V", sig := { parameters := [.int, (.array .int), (.array .int)], returnType := none }, accessFlags := 0, code := some k2c3 }
def k2c4 : Code := { maxStack := 6, maxLocals := 3, code := prog_21_method_12_code, exceptionTable := #[], attributes := #[] }
def k2m4 : Method := { name := "fits", desc := "(II)Z", sig := { parameters := [.int, .int], returnType := some .boolean }, accessFlags := 0, code := some k2c4 }
def k2c5 : Code := { maxStack := 4, maxLocals := 2, code := prog_21_method_29_code, exceptionTable := #[], attributes := #[] }
def k2m5 : Method := { name := "lower", desc := "([I)V", sig := { parameters := [(.array .int)], returnType := none }, accessFlags := 10, code := some k2c5 }
/-- com/example/joinery/joinery/KeyGrid -/
def k2 : Class := { plain "com/example/joinery/joinery/KeyGrid" (some 0) with
  accessFlags := 48
  interfaces := #[]
  cf := some (fileOf pool2 8 #[.nestMembers #[268, 177, 13, 344, 159]] #[{ accessFlags := 0, nameIndex := 5, descriptorIndex := 322, attributes := #[] }, { accessFlags := 8, nameIndex := 56, descriptorIndex := 57, attributes := #[] }, { accessFlags := 0, nameIndex := 332, descriptorIndex := 333, attributes := #[] }, { accessFlags := 0, nameIndex := 334, descriptorIndex := 335, attributes := #[] }, { accessFlags := 0, nameIndex := 336, descriptorIndex := 337, attributes := #[] }, { accessFlags := 10, nameIndex := 126, descriptorIndex := 127, attributes := #[] }] 48 2 #[] #[{ accessFlags := 24, nameIndex := 319, descriptorIndex := 53, attributes := #[] }, { accessFlags := 18, nameIndex := 52, descriptorIndex := 53, attributes := #[] }, { accessFlags := 18, nameIndex := 56, descriptorIndex := 60, attributes := #[] }, { accessFlags := 18, nameIndex := 63, descriptorIndex := 12, attributes := #[] }, { accessFlags := 18, nameIndex := 66, descriptorIndex := 67, attributes := #[] }, { accessFlags := 18, nameIndex := 70, descriptorIndex := 67, attributes := #[] }, { accessFlags := 18, nameIndex := 73, descriptorIndex := 12, attributes := #[] }, { accessFlags := 18, nameIndex := 83, descriptorIndex := 84, attributes := #[] }, { accessFlags := 18, nameIndex := 87, descriptorIndex := 84, attributes := #[] }, { accessFlags := 18, nameIndex := 76, descriptorIndex := 46, attributes := #[] }, { accessFlags := 2, nameIndex := 79, descriptorIndex := 53, attributes := #[] }, { accessFlags := 2, nameIndex := 11, descriptorIndex := 12, attributes := #[] }, { accessFlags := 2, nameIndex := 145, descriptorIndex := 53, attributes := #[] }, { accessFlags := 2, nameIndex := 148, descriptorIndex := 53, attributes := #[] }, { accessFlags := 2, nameIndex := 151, descriptorIndex := 60, attributes := #[] }, { accessFlags := 2, nameIndex := 157, descriptorIndex := 53, attributes := #[] }, { accessFlags := 2, nameIndex := 154, descriptorIndex := 53, attributes := #[] }, { accessFlags := 2, nameIndex := 20, descriptorIndex := 21, attributes := #[] }, { accessFlags := 2, nameIndex := 24, descriptorIndex := 21, attributes := #[] }, { accessFlags := 2, nameIndex := 27, descriptorIndex := 12, attributes := #[] }, { accessFlags := 2, nameIndex := 30, descriptorIndex := 12, attributes := #[] }, { accessFlags := 2, nameIndex := 33, descriptorIndex := 21, attributes := #[] }, { accessFlags := 2, nameIndex := 36, descriptorIndex := 21, attributes := #[] }, { accessFlags := 2, nameIndex := 39, descriptorIndex := 12, attributes := #[] }, { accessFlags := 2, nameIndex := 42, descriptorIndex := 12, attributes := #[] }, { accessFlags := 2, nameIndex := 45, descriptorIndex := 46, attributes := #[] }, { accessFlags := 2, nameIndex := 49, descriptorIndex := 12, attributes := #[] }])
  fields := #[{ name := "CELLS_PER_ROW", type := .int, accessFlags := 24, slot := 0, constantValue := 0 }, { name := "names", type := .int, accessFlags := 18, slot := 0, constantValue := 0 }, { name := "mostCells", type := .long, accessFlags := 18, slot := 1, constantValue := 0 }, { name := "radix", type := (.array .int), accessFlags := 18, slot := 2, constantValue := 0 }, { name := "lacked", type := (.array .boolean), accessFlags := 18, slot := 3, constantValue := 0 }, { name := "apart", type := (.array .boolean), accessFlags := 18, slot := 4, constantValue := 0 }, { name := "apartKeys", type := (.array .int), accessFlags := 18, slot := 5, constantValue := 0 }, { name := "leftDigits", type := (.array (.array .int)), accessFlags := 18, slot := 6, constantValue := 0 }, { name := "rightDigits", type := (.array (.array .int)), accessFlags := 18, slot := 7, constantValue := 0 }, { name := "cellsFrom", type := (.array .long), accessFlags := 18, slot := 8, constantValue := 0 }, { name := "first", type := .int, accessFlags := 2, slot := 9, constantValue := 0 }, { name := "cells", type := (.array .int), accessFlags := 2, slot := 10, constantValue := 0 }, { name := "partName", type := .int, accessFlags := 2, slot := 11, constantValue := 0 }, { name := "width", type := .int, accessFlags := 2, slot := 12, constantValue := 0 }, { name := "apartNames", type := .long, accessFlags := 2, slot := 13, constantValue := 0 }, { name := "stride", type := .int, accessFlags := 2, slot := 14, constantValue := 0 }, { name := "cellAt", type := .int, accessFlags := 2, slot := 15, constantValue := 0 }, { name := "leftLaid", type := (.object "com/example/joinery/joinery/KeyGrid$Laid"), accessFlags := 2, slot := 16, constantValue := 0 }, { name := "rightLaid", type := (.object "com/example/joinery/joinery/KeyGrid$Laid"), accessFlags := 2, slot := 17, constantValue := 0 }, { name := "leftOrder", type := (.array .int), accessFlags := 2, slot := 18, constantValue := 0 }, { name := "rightOrder", type := (.array .int), accessFlags := 2, slot := 19, constantValue := 0 }, { name := "leftHolders", type := (.object "com/example/joinery/joinery/KeyGrid$Laid"), accessFlags := 2, slot := 20, constantValue := 0 }, { name := "rightHolders", type := (.object "com/example/joinery/joinery/KeyGrid$Laid"), accessFlags := 2, slot := 21, constantValue := 0 }, { name := "keyStarts", type := (.array .int), accessFlags := 2, slot := 22, constantValue := 0 }, { name := "leftKeys", type := (.array .int), accessFlags := 2, slot := 23, constantValue := 0 }, { name := "keyedRows", type := (.array .long), accessFlags := 2, slot := 24, constantValue := 0 }, { name := "sortedRows", type := (.array .int), accessFlags := 2, slot := 25, constantValue := 0 }]
  methods := #[k2m0, k2m1, k2m2, k2m3, k2m4, k2m5]
  instanceTypes := #[.int, .long, (.array .int), (.array .boolean), (.array .boolean), (.array .int), (.array (.array .int)), (.array (.array .int)), (.array .long), .int, (.array .int), .int, .int, .long, .int, .int, (.object "com/example/joinery/joinery/KeyGrid$Laid"), (.object "com/example/joinery/joinery/KeyGrid$Laid"), (.array .int), (.array .int), (.object "com/example/joinery/joinery/KeyGrid$Laid"), (.object "com/example/joinery/joinery/KeyGrid$Laid"), (.array .int), (.array .int), (.array .long), (.array .int)]
  staticTypes := #[.int]
  resolved := Array.replicate 352 none
  statics := none }

def pool3 : Array CpInfo := pool [(1, .methodref 2 3), (0, .class_ 4), (0, .nameAndType 5 6), (0, u "java/lang/Object"), (0, u "<init>"), (0, u "()V"), (0, .methodref 8 9), (0, .class_ 10), (0, .nameAndType 11 12), (0, u "java/lang/Math"), (0, u "toIntExact"), (0, u "(J)I"), (0, .fieldref 14 15), (0, .class_ 16), (0, .nameAndType 17 18), (0, u "com/example/joinery/joinery/KeyGrid$Laid"), (0, u "rows"), (0, u "[I"), (0, .fieldref 14 20), (0, .nameAndType 21 22), (0, u "compared"), (0, u "[J"), (2, u "(II)V"), (8, .class_ 35), (0, u "com/example/joinery/joinery/KeyGrid")] 2

def k3c0 : Code := { maxStack := 5, maxLocals := 3, code := prog_23_method_1_code, exceptionTable := #[], attributes := #[] }
def k3m0 : Method := { name := "<init>", desc := "(II)V", sig := { parameters := [.int, .int], returnType := none }, accessFlags := 0, code := some k3c0 }
/-- com/example/joinery/joinery/KeyGrid$Laid -/
def k3 : Class := { plain "com/example/joinery/joinery/KeyGrid$Laid" (some 0) with
  accessFlags := 48
  interfaces := #[]
  cf := some (fileOf pool3 14 #[.nestHost 34] #[{ accessFlags := 0, nameIndex := 5, descriptorIndex := 25, attributes := #[] }] 48 2 #[] #[{ accessFlags := 16, nameIndex := 17, descriptorIndex := 18, attributes := #[] }, { accessFlags := 16, nameIndex := 21, descriptorIndex := 22, attributes := #[] }])
  fields := #[{ name := "rows", type := (.array .int), accessFlags := 16, slot := 0, constantValue := 0 }, { name := "compared", type := (.array .long), accessFlags := 16, slot := 1, constantValue := 0 }]
  methods := #[k3m0]
  instanceTypes := #[(.array .int), (.array .long)]
  staticTypes := #[]
  resolved := Array.replicate 38 none
  statics := none }

def pool4 : Array CpInfo := pool [(1, .class_ 2), (0, u "java/lang/Math"), (1, .class_ 6), (1, u "java/lang/Object"), (0, u "<init>"), (0, u "()V"), (89, .class_ 100), (1, u "java/lang/Math$RandomNumberGeneratorHolder"), (20, u "(JJ)J"), (50, u "negativeZeroFloatBits"), (0, u "J"), (2, u "negativeZeroDoubleBits"), (24, u "min"), (43, u "$assertionsDisabled"), (0, u "Z"), (91, u "twoToTheDoubleScaleDown"), (0, u "D"), (4, u "twoToTheDoubleScaleUp"), (9, u "E"), (3, u "PI"), (2, u "TAU"), (2, u "DEGREES_TO_RADIANS"), (0, u "RADIANS_TO_DEGREES"), (39, u "toIntExact"), (0, u "(J)I")] 53

def k4m0 : Method := { name := "<init>", desc := "()V", sig := { parameters := [], returnType := none }, accessFlags := 2, code := none }
def k4c1 : Code := { maxStack := 4, maxLocals := 2, code := jdk_29_method_43_code, exceptionTable := #[], attributes := #[] }
def k4m1 : Method := { name := "toIntExact", desc := "(J)I", sig := { parameters := [.long], returnType := some .int }, accessFlags := 9, code := some k4c1 }
def k4c2 : Code := { maxStack := 4, maxLocals := 4, code := jdk_29_method_70_code, exceptionTable := #[], attributes := #[] }
def k4m2 : Method := { name := "min", desc := "(JJ)J", sig := { parameters := [.long, .long], returnType := some .long }, accessFlags := 9, code := some k4c2 }
/-- java/lang/Math -/
def k4 : Class := { plain "java/lang/Math" (some 0) with
  accessFlags := 49
  interfaces := #[]
  cf := some (fileOf pool4 1 #[.nestMembers #[98]] #[{ accessFlags := 2, nameIndex := 7, descriptorIndex := 8, attributes := #[] }, { accessFlags := 9, nameIndex := 405, descriptorIndex := 406, attributes := #[] }, { accessFlags := 9, nameIndex := 201, descriptorIndex := 121, attributes := #[] }] 49 4 #[] #[{ accessFlags := 25, nameIndex := 354, descriptorIndex := 339, attributes := #[] }, { accessFlags := 25, nameIndex := 358, descriptorIndex := 339, attributes := #[] }, { accessFlags := 25, nameIndex := 361, descriptorIndex := 339, attributes := #[] }, { accessFlags := 26, nameIndex := 364, descriptorIndex := 339, attributes := #[] }, { accessFlags := 26, nameIndex := 365, descriptorIndex := 339, attributes := #[] }, { accessFlags := 26, nameIndex := 172, descriptorIndex := 173, attributes := #[] }, { accessFlags := 26, nameIndex := 176, descriptorIndex := 173, attributes := #[] }, { accessFlags := 8, nameIndex := 344, descriptorIndex := 339, attributes := #[] }, { accessFlags := 8, nameIndex := 338, descriptorIndex := 339, attributes := #[] }, { accessFlags := 4120, nameIndex := 245, descriptorIndex := 246, attributes := #[] }])
  fields := #[{ name := "E", type := .double, accessFlags := 25, slot := 0, constantValue := 0 }, { name := "PI", type := .double, accessFlags := 25, slot := 1, constantValue := 0 }, { name := "TAU", type := .double, accessFlags := 25, slot := 2, constantValue := 0 }, { name := "DEGREES_TO_RADIANS", type := .double, accessFlags := 26, slot := 3, constantValue := 0 }, { name := "RADIANS_TO_DEGREES", type := .double, accessFlags := 26, slot := 4, constantValue := 0 }, { name := "negativeZeroFloatBits", type := .long, accessFlags := 26, slot := 5, constantValue := 0 }, { name := "negativeZeroDoubleBits", type := .long, accessFlags := 26, slot := 6, constantValue := 0 }, { name := "twoToTheDoubleScaleUp", type := .double, accessFlags := 8, slot := 7, constantValue := 0 }, { name := "twoToTheDoubleScaleDown", type := .double, accessFlags := 8, slot := 8, constantValue := 0 }, { name := "$assertionsDisabled", type := .boolean, accessFlags := 4120, slot := 9, constantValue := 0 }]
  methods := #[k4m0, k4m1, k4m2]
  instanceTypes := #[]
  staticTypes := #[.double, .double, .double, .double, .double, .long, .long, .double, .double, .boolean]
  resolved := Array.replicate 460 none
  statics := none }

def pool5 : Array CpInfo := pool [(1, u "java/lang/Cloneable"), (0, .class_ 1), (0, u "java/lang/Object"), (0, .class_ 3)] 3

/-- java/lang/Cloneable -/
def k5 : Class := { plain "java/lang/Cloneable" (some 0) with
  accessFlags := 1537
  interfaces := #[]
  cf := some (fileOf pool5 2 #[] #[] 1537 4 #[] #[])
  fields := #[]
  methods := #[]
  instanceTypes := #[]
  staticTypes := #[]
  resolved := Array.replicate 8 none
  statics := none }

def pool6 : Array CpInfo := pool [(1, u "java/io/Serializable"), (0, .class_ 1), (0, u "java/lang/Object"), (0, .class_ 3)] 3

/-- java/io/Serializable -/
def k6 : Class := { plain "java/io/Serializable" (some 0) with
  accessFlags := 1537
  interfaces := #[]
  cf := some (fileOf pool6 2 #[] #[] 1537 4 #[] #[])
  fields := #[]
  methods := #[]
  instanceTypes := #[]
  staticTypes := #[]
  resolved := Array.replicate 8 none
  statics := none }

/-- the primitive boolean -/
def k7 : Class := { plain "boolean" none with kind := .primitive 'Z', accessFlags := 0x411 }
/-- [Z -/
def k8 : Class := { plain "[Z" (some 0) with kind := .array 7 .boolean, interfaces := #[5, 6], accessFlags := 1041 }

/-- the primitive byte -/
def k9 : Class := { plain "byte" none with kind := .primitive 'B', accessFlags := 0x411 }
/-- [B -/
def k10 : Class := { plain "[B" (some 0) with kind := .array 9 .byte, interfaces := #[5, 6], accessFlags := 1041 }

/-- the primitive int -/
def k11 : Class := { plain "int" none with kind := .primitive 'I', accessFlags := 0x411 }
/-- [I -/
def k12 : Class := { plain "[I" (some 0) with kind := .array 11 .int, interfaces := #[5, 6], accessFlags := 1041 }

/-- the primitive long -/
def k13 : Class := { plain "long" none with kind := .primitive 'J', accessFlags := 0x411 }
/-- [J -/
def k14 : Class := { plain "[J" (some 0) with kind := .array 13 .long, interfaces := #[5, 6], accessFlags := 1041 }

/-- [[I -/
def k15 : Class := { plain "[[I" (some 0) with kind := .array 12 (.array .int), interfaces := #[5, 6], accessFlags := 1041 }

def heap : Heap := #[]
def classes : Array Class := #[k0, k1, k2, k3, k4, k5, k6, k7, k8, k9, k10, k11, k12, k13, k14, k15]
def interned : List (Array UInt16 × Addr) := []
def slotsUsed : Nat := 0
def theMethod : MethodId := ⟨1, 3⟩
def args0 : Array Value := #[.int 5, .int 7, .int 9, .int 11, .int 13, .int 3]
def aboutOver (below : List Frame) : State where
  vm := { classes := classes, interned := interned.toArray }
  heap := heap
  slotsUsed := slotsUsed
  threads := #[{ frames := .invoking theMethod args0 :: below }]
def below0 : List Frame := [.native { method := ⟨0, 0⟩, args := #[] }]
def about1 : State := aboutOver below0
def p0 : Program := .bare "" "" ""
def e0 : Env := launch0.env 0 0 0
theorem w_frames : about1.frames = Frame.invoking theMethod args0 :: below0 := rfl
set_option maxRecDepth 65536 in
theorem w_args : argsFit about1.vm theMethod args0 = true := by decide +kernel
set_option maxRecDepth 65536 in
theorem w_heap : heapFits about1 = true := by decide +kernel
set_option maxRecDepth 65536 in
theorem w_runnable : about1.curStatus? = some .runnable := by decide +kernel
set_option maxRecDepth 65536 in
theorem w_alone : about1.alone = true := by decide +kernel
set_option maxRecDepth 65536 in
theorem w_named : about1.methodNamed? x = some theMethod := by decide +kernel
set_option maxRecDepth 65536 in
theorem w_hears : about1.hears theMethod below0 = true := by decide +kernel
set_option maxRecDepth 65536 in
theorem w_ripe : about1.ripe theMethod args0 below0 = true := by decide +kernel
theorem w_running : about1.status = .running := rfl
set_option maxRecDepth 65536 in
theorem w_room : about1.hasRoom e0.platform room_1 = true :=
  launch0.hasRoom_least _ room_1 (by decide +kernel) (by decide +kernel) (by decide +kernel) (by decide +kernel) (by decide +kernel) (by decide +kernel)
theorem allAtoms_all (ts : List Jvm.Cond) (a : Array Jvm.Value) (st : Jvm.State) : (allAtoms ts).before a st = ts.all (fun c => c.before a st) := by
  induction ts with
  | nil => rfl
  | cons c t ih =>
    show (Jvm.Cond.and c (allAtoms t)).before a st = _
    rw [Jvm.Cond.before_and, ih, List.all_cons]
def words1 : List Jvm.Cond := Jvm.Cond.code x code maxLocals ret :: tables_1
/-- a 'code' word, met by the world's own term for the bytes: nothing is compared byte by byte -/
theorem code_word {y : MethodName} {bytes : ByteArray} {mx : Nat} {rt : Option FieldType} {a : Array Value} {s : State} {m : MethodId} {meth : Method} {c : Code} (h1 : s.methodNamed? y = some m) (h2 : s.vm.method? m = some meth) (h3 : meth.code = some c) (h4 : c.code = bytes)
    (h5 : (c.maxLocals == mx && c.exceptionTable.isEmpty && decide (c.maxStack ≤ mostOperands) && decide (meth.sig.returnType = rt) && !meth.locks && decide (parseMethodDescriptor y.desc = some meth.sig)) = true) : (Jvm.Cond.code y bytes mx rt).before a s = true := by
  simp only [Bool.and_eq_true, beq_iff_eq, Bool.not_eq_true', decide_eq_true_eq] at h5
  obtain ⟨⟨⟨⟨⟨g1, g2⟩, g3⟩, g4⟩, g5⟩, g6⟩ := h5
  simp [Cond.before, Cond.holds, Cond.value, h1, h2, h3, h4, g1, g2, g3, g4, g5, g6]
def isCode : Jvm.Cond → Bool
  | .code _ _ _ _ => true
  | _ => false
theorem all_split {L : List Jvm.Cond} {P : Jvm.Cond → Bool} (h1 : L.all (fun c => isCode c || P c) = true) (h2 : ∀ c ∈ L.filter isCode, P c = true) : L.all P = true := by
  refine List.all_eq_true.mpr fun c hc => ?_
  have h := List.all_eq_true.mp h1 c hc
  rcases Bool.eq_false_or_eq_true (isCode c) with hi | hi
  · exact h2 c (List.mem_filter.mpr ⟨hc, hi⟩)
  · simpa [hi] using h
set_option maxRecDepth 65536 in
theorem w_c0 : (Jvm.Cond.code x code maxLocals ret).before args0 about1 = true := code_word (m := ⟨1, 3⟩) (meth := k1m3) (c := k1c3) (by decide +kernel) rfl rfl rfl (by decide +kernel)
set_option maxRecDepth 65536 in
theorem w_c1 : (Jvm.Cond.code ({ cls := "com/example/joinery/joinery/KeyGrid", name := "<init>", desc := "(IJ)V" } : Jvm.MethodName) prog_21_method_1_code (4 : Nat) (Option.none : Option Jvm.ClassFile.FieldType)).before args0 about1 = true := code_word (m := ⟨2, 0⟩) (meth := k2m0) (c := k2c0) (by decide +kernel) rfl rfl rfl (by decide +kernel)
set_option maxRecDepth 65536 in
theorem w_c2 : (Jvm.Cond.code ({ cls := "java/lang/Object", name := "<init>", desc := "()V" } : Jvm.MethodName) object_method_1_code (1 : Nat) (Option.none : Option Jvm.ClassFile.FieldType)).before args0 about1 = true := code_word (m := ⟨0, 0⟩) (meth := k0m0) (c := k0c0) (by decide +kernel) rfl rfl rfl (by decide +kernel)
set_option maxRecDepth 65536 in
theorem w_c3 : (Jvm.Cond.code ({ cls := "com/example/joinery/joinery/KeyGrid$Laid", name := "<init>", desc := "(II)V" } : Jvm.MethodName) prog_23_method_1_code (3 : Nat) (Option.none : Option Jvm.ClassFile.FieldType)).before args0 about1 = true := code_word (m := ⟨3, 0⟩) (meth := k3m0) (c := k3c0) (by decide +kernel) rfl rfl rfl (by decide +kernel)
set_option maxRecDepth 65536 in
theorem w_c4 : (Jvm.Cond.code ({ cls := "java/lang/Math", name := "toIntExact", desc := "(J)I" } : Jvm.MethodName) jdk_29_method_43_code (2 : Nat) (Option.some Jvm.ClassFile.FieldType.int)).before args0 about1 = true := code_word (m := ⟨4, 1⟩) (meth := k4m1) (c := k4c1) (by decide +kernel) rfl rfl rfl (by decide +kernel)
set_option maxRecDepth 65536 in
theorem w_c5 : (Jvm.Cond.code ({ cls := "com/example/joinery/joinery/KeyGrid", name := "mostCells", desc := "(J)J" } : Jvm.MethodName) prog_21_method_7_code (2 : Nat) (Option.some Jvm.ClassFile.FieldType.long)).before args0 about1 = true := code_word (m := ⟨2, 1⟩) (meth := k2m1) (c := k2c1) (by decide +kernel) rfl rfl rfl (by decide +kernel)
set_option maxRecDepth 65536 in
theorem w_c6 : (Jvm.Cond.code ({ cls := "java/lang/Math", name := "min", desc := "(JJ)J" } : Jvm.MethodName) jdk_29_method_70_code (4 : Nat) (Option.some Jvm.ClassFile.FieldType.long)).before args0 about1 = true := code_word (m := ⟨4, 2⟩) (meth := k4m2) (c := k4c2) (by decide +kernel) rfl rfl rfl (by decide +kernel)
set_option maxRecDepth 65536 in
theorem w_c7 : (Jvm.Cond.code ({ cls := "com/example/joinery/joinery/KeyGridFitsPinLaw", name := "giveName", desc := "(Lcom/example/joinery/joinery/KeyGrid;II[I)V" } : Jvm.MethodName) method_2_code (4 : Nat) (Option.none : Option Jvm.ClassFile.FieldType)).before args0 about1 = true := code_word (m := ⟨1, 1⟩) (meth := k1m1) (c := k1c1) (by decide +kernel) rfl rfl rfl (by decide +kernel)
set_option maxRecDepth 65536 in
theorem w_c8 : (Jvm.Cond.code ({ cls := "com/example/joinery/joinery/KeyGrid", name := "give", desc := "(IZ[I[I)V" } : Jvm.MethodName) prog_21_method_10_code (6 : Nat) (Option.none : Option Jvm.ClassFile.FieldType)).before args0 about1 = true := code_word (m := ⟨2, 2⟩) (meth := k2m2) (c := k2c2) (by decide +kernel) rfl rfl rfl (by decide +kernel)
set_option maxRecDepth 65536 in
theorem w_c9 : (Jvm.Cond.code ({ cls := "com/example/joinery/joinery/KeyGrid", name := "lower", desc := "([I)V" } : Jvm.MethodName) prog_21_method_29_code (2 : Nat) (Option.none : Option Jvm.ClassFile.FieldType)).before args0 about1 = true := code_word (m := ⟨2, 5⟩) (meth := k2m5) (c := k2c5) (by decide +kernel) rfl rfl rfl (by decide +kernel)
set_option maxRecDepth 65536 in
theorem w_c10 : (Jvm.Cond.code ({ cls := "com/example/joinery/joinery/KeyGridFitsPinLaw", name := "radix", desc := "(II)J" } : Jvm.MethodName) method_3_code (2 : Nat) (Option.some Jvm.ClassFile.FieldType.long)).before args0 about1 = true := code_word (m := ⟨1, 2⟩) (meth := k1m2) (c := k1c2) (by decide +kernel) rfl rfl rfl (by decide +kernel)
set_option maxRecDepth 65536 in
theorem w_c11 : (Jvm.Cond.code ({ cls := "com/example/joinery/joinery/KeyGrid", name := "fits", desc := "(II)Z" } : Jvm.MethodName) prog_21_method_12_code (3 : Nat) (Option.some Jvm.ClassFile.FieldType.boolean)).before args0 about1 = true := code_word (m := ⟨2, 4⟩) (meth := k2m4) (c := k2c4) (by decide +kernel) rfl rfl rfl (by decide +kernel)
set_option maxRecDepth 65536 in
theorem w_c12 : (Jvm.Cond.code ({ cls := "com/example/joinery/joinery/KeyGrid", name := "giveApart", desc := "(I[I[I)V" } : Jvm.MethodName) prog_21_method_11_code (5 : Nat) (Option.none : Option Jvm.ClassFile.FieldType)).before args0 about1 = true := code_word (m := ⟨2, 3⟩) (meth := k2m3) (c := k2c3) (by decide +kernel) rfl rfl rfl (by decide +kernel)
def codes1 : List Jvm.Cond := [Jvm.Cond.code x code maxLocals ret, Jvm.Cond.code ({ cls := "com/example/joinery/joinery/KeyGrid", name := "<init>", desc := "(IJ)V" } : Jvm.MethodName) prog_21_method_1_code (4 : Nat) (Option.none : Option Jvm.ClassFile.FieldType), Jvm.Cond.code ({ cls := "java/lang/Object", name := "<init>", desc := "()V" } : Jvm.MethodName) object_method_1_code (1 : Nat) (Option.none : Option Jvm.ClassFile.FieldType), Jvm.Cond.code ({ cls := "com/example/joinery/joinery/KeyGrid$Laid", name := "<init>", desc := "(II)V" } : Jvm.MethodName) prog_23_method_1_code (3 : Nat) (Option.none : Option Jvm.ClassFile.FieldType), Jvm.Cond.code ({ cls := "java/lang/Math", name := "toIntExact", desc := "(J)I" } : Jvm.MethodName) jdk_29_method_43_code (2 : Nat) (Option.some Jvm.ClassFile.FieldType.int), Jvm.Cond.code ({ cls := "com/example/joinery/joinery/KeyGrid", name := "mostCells", desc := "(J)J" } : Jvm.MethodName) prog_21_method_7_code (2 : Nat) (Option.some Jvm.ClassFile.FieldType.long), Jvm.Cond.code ({ cls := "java/lang/Math", name := "min", desc := "(JJ)J" } : Jvm.MethodName) jdk_29_method_70_code (4 : Nat) (Option.some Jvm.ClassFile.FieldType.long), Jvm.Cond.code ({ cls := "com/example/joinery/joinery/KeyGridFitsPinLaw", name := "giveName", desc := "(Lcom/example/joinery/joinery/KeyGrid;II[I)V" } : Jvm.MethodName) method_2_code (4 : Nat) (Option.none : Option Jvm.ClassFile.FieldType), Jvm.Cond.code ({ cls := "com/example/joinery/joinery/KeyGrid", name := "give", desc := "(IZ[I[I)V" } : Jvm.MethodName) prog_21_method_10_code (6 : Nat) (Option.none : Option Jvm.ClassFile.FieldType), Jvm.Cond.code ({ cls := "com/example/joinery/joinery/KeyGrid", name := "lower", desc := "([I)V" } : Jvm.MethodName) prog_21_method_29_code (2 : Nat) (Option.none : Option Jvm.ClassFile.FieldType), Jvm.Cond.code ({ cls := "com/example/joinery/joinery/KeyGridFitsPinLaw", name := "radix", desc := "(II)J" } : Jvm.MethodName) method_3_code (2 : Nat) (Option.some Jvm.ClassFile.FieldType.long), Jvm.Cond.code ({ cls := "com/example/joinery/joinery/KeyGrid", name := "fits", desc := "(II)Z" } : Jvm.MethodName) prog_21_method_12_code (3 : Nat) (Option.some Jvm.ClassFile.FieldType.boolean), Jvm.Cond.code ({ cls := "com/example/joinery/joinery/KeyGrid", name := "giveApart", desc := "(I[I[I)V" } : Jvm.MethodName) prog_21_method_11_code (5 : Nat) (Option.none : Option Jvm.ClassFile.FieldType)]
set_option maxRecDepth 65536 in
theorem codes_eq : words1.filter isCode = codes1 := rfl
theorem w_codes : ∀ c ∈ words1.filter isCode, c.before args0 about1 = true := by
  rw [codes_eq]
  intro c hc
  simp only [codes1, List.mem_cons, List.not_mem_nil, or_false] at hc
  rcases hc with rfl | rfl | rfl | rfl | rfl | rfl | rfl | rfl | rfl | rfl | rfl | rfl | rfl
  · exact w_c0
  · exact w_c1
  · exact w_c2
  · exact w_c3
  · exact w_c4
  · exact w_c5
  · exact w_c6
  · exact w_c7
  · exact w_c8
  · exact w_c9
  · exact w_c10
  · exact w_c11
  · exact w_c12
set_option maxRecDepth 65536 in
theorem w_t1 : (words1.take 24).all (fun c => isCode c || c.before args0 about1) = true := by decide +kernel
set_option maxRecDepth 65536 in
theorem w_t2 : ((words1.drop 24).take 24).all (fun c => isCode c || c.before args0 about1) = true := by decide +kernel
set_option maxRecDepth 65536 in
theorem w_t3 : (((words1.drop 24).drop 24).take 24).all (fun c => isCode c || c.before args0 about1) = true := by decide +kernel
set_option maxRecDepth 65536 in
theorem w_t4 : ((((words1.drop 24).drop 24).drop 24).take 24).all (fun c => isCode c || c.before args0 about1) = true := by decide +kernel
set_option maxRecDepth 65536 in
theorem w_t5 : ((((words1.drop 24).drop 24).drop 24).drop 24).all (fun c => isCode c || c.before args0 about1) = true := by decide +kernel
theorem w_tables : (allAtoms (Jvm.Cond.code x code maxLocals ret :: tables_1)).before args0 about1 = true := by
  rw [allAtoms_all]
  show words1.all (fun c => c.before args0 about1) = true
  refine all_split ?_ w_codes
  rw [← List.take_append_drop 24 words1, List.all_append, w_t1, ← List.take_append_drop 24 (words1.drop 24), List.all_append, w_t2, ← List.take_append_drop 24 ((words1.drop 24).drop 24), List.all_append, w_t3, ← List.take_append_drop 24 (((words1.drop 24).drop 24).drop 24), List.all_append, w_t4, w_t5]
  rfl
set_option maxRecDepth 65536 in
theorem w_case : (Jvm.Cond.and given_1 narrow_1).before args0 about1 = true := by decide +kernel
theorem w_applies : (headSpec (Jvm.Cond.code x code maxLocals ret :: tables_1) room_1).applies x e0.platform about1 = true :=
  (Spec.applies_iff w_frames).mpr ⟨w_running, w_runnable, w_alone, w_named, w_hears, w_ripe, w_room, w_tables⟩
theorem atStart : AtStart classFile x code maxLocals ret World_1 tables_1 room_1 Calls_1 rest_1 Pre_1 launch0 p0 e0 about1 theMethod args0 below0 :=
  ⟨lists_1, trivial, launch0.admits_env _ _ _, launch0.least_env, fairChoices_fair.cas, fairChoices_fair.clock, w_frames, w_args, w_heap, w_applies, trivial, trivial, w_case⟩
end start1
theorem witness_1 : WitnessClaimed_1 := ⟨start1.p0, start1.e0, start1.about1, start1.theMethod, start1.args0, start1.below0, start1.atStart⟩
end Jvm.Pilot.@@N@@
