import JvmDerived
import JvmDerived.Pilot.@@N@@Statement
import JvmDerived.Pilot.@@N@@Code
set_option linter.unusedVariables false
set_option linter.unusedSimpArgs false
namespace Jvm.RoadKit
theorem own_add32 {a b : Int32} (h1 : -2147483648 ≤ a.toInt + b.toInt) (h2 : a.toInt + b.toInt < 2147483648) : (a + b).toInt = a.toInt + b.toInt := by
  rw [Int32.toInt_add]; exact Int.bmod_eq_of_le (by omega) (by omega)
theorem own_sub32 {a b : Int32} (h1 : -2147483648 ≤ a.toInt - b.toInt) (h2 : a.toInt - b.toInt < 2147483648) : (a - b).toInt = a.toInt - b.toInt := by
  rw [Int32.toInt_sub]; exact Int.bmod_eq_of_le (by omega) (by omega)
theorem own_mul32 {a b : Int32} (h1 : -2147483648 ≤ a.toInt * b.toInt) (h2 : a.toInt * b.toInt < 2147483648) : (a * b).toInt = a.toInt * b.toInt := by
  rw [Int32.toInt_mul]; exact Int.bmod_eq_of_le (by omega) (by omega)
theorem own_add64 {a b : Int64} (h1 : -9223372036854775808 ≤ a.toInt + b.toInt) (h2 : a.toInt + b.toInt < 9223372036854775808) : (a + b).toInt = a.toInt + b.toInt := by
  rw [Int64.toInt_add]; exact Int.bmod_eq_of_le (by omega) (by omega)
theorem own_sub64 {a b : Int64} (h1 : -9223372036854775808 ≤ a.toInt - b.toInt) (h2 : a.toInt - b.toInt < 9223372036854775808) : (a - b).toInt = a.toInt - b.toInt := by
  rw [Int64.toInt_sub]; exact Int.bmod_eq_of_le (by omega) (by omega)
theorem own_mul64 {a b : Int64} (h1 : -9223372036854775808 ≤ a.toInt * b.toInt) (h2 : a.toInt * b.toInt < 9223372036854775808) : (a * b).toInt = a.toInt * b.toInt := by
  rw [Int64.toInt_mul]; exact Int.bmod_eq_of_le (by omega) (by omega)
/-- a mask that isn't negative -/
theorem own_mask32 (x k : Int32) (hk : 0 ≤ k.toInt) : 0 ≤ (x &&& k).toInt ∧ (x &&& k).toInt ≤ k.toInt := by
  have hk' : k.toBitVec.toNat < 2 ^ 31 := by
    have := k.toBitVec.isLt
    have e : k.toInt = k.toBitVec.toInt := rfl
    rw [e, BitVec.toInt_eq_toNat_cond] at hk
    split at hk <;> omega
  have h1 : (x &&& k).toInt = (x.toBitVec &&& k.toBitVec).toInt := rfl
  have h2 : (x.toBitVec &&& k.toBitVec).toNat ≤ k.toBitVec.toNat := by rw [BitVec.toNat_and]; exact Nat.and_le_right
  have e : k.toInt = k.toBitVec.toInt := rfl
  rw [h1, e, BitVec.toInt_eq_toNat_of_lt (by omega), BitVec.toInt_eq_toNat_of_lt (by omega)]; omega
theorem own_mask64 (x k : Int64) (hk : 0 ≤ k.toInt) : 0 ≤ (x &&& k).toInt ∧ (x &&& k).toInt ≤ k.toInt := by
  have hk' : k.toBitVec.toNat < 2 ^ 63 := by
    have := k.toBitVec.isLt
    have e : k.toInt = k.toBitVec.toInt := rfl
    rw [e, BitVec.toInt_eq_toNat_cond] at hk
    split at hk <;> omega
  have h1 : (x &&& k).toInt = (x.toBitVec &&& k.toBitVec).toInt := rfl
  have h2 : (x.toBitVec &&& k.toBitVec).toNat ≤ k.toBitVec.toNat := by rw [BitVec.toNat_and]; exact Nat.and_le_right
  have e : k.toInt = k.toBitVec.toInt := rfl
  rw [h1, e, BitVec.toInt_eq_toNat_of_lt (by omega), BitVec.toInt_eq_toNat_of_lt (by omega)]; omega
end Jvm.RoadKit
namespace Jvm.RoadKit
open Sem ClassFile Op Lib Jvm.Stand Jvm.Free Jvm.LawKit
section Own
variable {p : Program} {l : Launch} {e : Env} {R : Room} {s : State} {m : MethodId} {args : Array Value} {below : List Frame} {meth : Method} {c : Code} {T : State} {locs : List Loc} {cells slots : Nat} {Z : State} {h h' : Heap} {a b : Addr} {ty : FieldType} {n : Nat} {f f' : Nat → Value} {sl : Nat} {v : Value} {ws : List Addr}
/-- an array of n places, place i holds f i -/
def ArF (Z : State) (h : Heap) (a : Addr) (ty : FieldType) (n : Nat) (f : Nat → Value) : Prop := ∃ c : Cell, Arr Z h a c ty ∧ c.slots.size = n ∧ n < 2 ^ 31 ∧ ∀ i, i < n → c.slots[i]? = some (f i)
theorem ArF.lt (F : ArF Z h a ty n f) : a < h.size := by obtain ⟨c, A, -⟩ := F; exact A.lt
theorem ArF.ext (F : ArF Z h a ty n f) (E : Ext h h') : ArF Z h' a ty n f := by obtain ⟨c, A, r⟩ := F; exact ⟨c, A.ext E, r⟩
theorem ArF.other (F : ArF Z h a ty n f) (W : Wr h h' b sl v) (q : a ≠ b) : ArF Z h' a ty n f := by obtain ⟨c, A, r⟩ := F; exact ⟨c, A.other W q, r⟩
theorem ArF.keep (F : ArF Z h a ty n f) (K : Keep h h' ws) (q : a ∉ ws) : ArF Z h' a ty n f := by obtain ⟨c, A, r⟩ := F; exact ⟨c, ⟨K.2.1 a c A.1 q, A.2⟩, r⟩
theorem ArF.congr (F : ArF Z h a ty n f) (q : ∀ i, i < n → f i = f' i) : ArF Z h a ty n f' := by obtain ⟨c, A, r1, r2, r3⟩ := F; exact ⟨c, A, r1, r2, fun i hi => by rw [← q i hi]; exact r3 i hi⟩
theorem ArF.new {k : ClassId} {z : Int32} {dv : Value} (A : Arr Z h a (newA k ty z) ty) (q : ¬ z < 0) (hn : z.toNatClampNeg = n) (hdv : defaultValue ty = dv := by rfl) : ArF Z h a ty n (fun _ => dv) := by
  subst hn hdv
  refine ⟨_, A, sz_new _ _ _, (back32 q).2, fun i hi => ?_⟩
  simp [newA, hi]
theorem own_clamp {j : Int32} {i : Nat} (hj : j.toInt = (i : Int)) : j.toNatClampNeg = i := by
  show j.toInt.toNat = i
  rw [hj]; rfl
theorem own_inb {c : Cell} {j : Int32} {i : Nat} (S : c.slots.size = n) (hj : j.toInt = (i : Int)) (hi : i < n) : ¬ (j < 0 ∨ c.slots.size ≤ j.toNatClampNeg) := by
  rw [own_clamp hj, S]
  rintro (q | q)
  · rw [Int32.lt_iff_toInt_lt, hj] at q
    have : (0 : Int32).toInt = 0 := by decide
    omega
  · omega
theorem ArF.setW {i : Nat} {c : Cell} (A : Arr Z h a c ty) (S : c.slots.size = n) (q3 : n < 2 ^ 31) (H : ∀ k, k < n → c.slots[k]? = some (f k)) (W : Wr h h' a i v) : ArF Z h' a ty n (fun q => if q = i then v else f q) := by
  refine ⟨_, A.same W, by rw [sz_set, S], q3, fun k hk => ?_⟩
  by_cases e : k = i
  · subst e; simp [Cell.setSlot, S, hk]
  · simp only [if_neg e, Cell.setSlot]
    rw [Array.getElem?_setIfInBounds_ne (Ne.symm e)]; exact H k hk
theorem ArF.stI (X : Stand p l e R s m args below meth c T locs cells slots) (hx : p.tables.exec = Jvm.exec) (hZ : Z.Warmed39 s.vm) (eT : T.heap = h) (F : ArF Z h a .int n f) {j x : Int32} {i : Nat} (hj : j.toInt = (i : Int)) (hi : i < n) {g : JFrame} (hg : g.method = m) {rest : List Value} (hs : g.stack = .int x :: .int j :: .ref a :: rest) (hd : decode c.code g.pc = .ok (.iastore, 1)) :
    ∃ T' h', Stand p l e R s m args below meth c T' (locs ++ [⟨a, i⟩]) cells slots ∧ T'.heap = h' ∧ Wr h h' a i (.int x) ∧ ArF Z h' a .int n (fun q => if q = i then .int x else f q) ∧ ∀ target, Steps p.tables e below (T'.setTop { g with pc := g.pc + 1, stack := rest }) target → Steps p.tables e below (T.setTop g) target := by
  obtain ⟨c, A, S, q3, H⟩ := F
  obtain ⟨T', h', X', e', W, st⟩ := Jvm.RoadKit.stI X hx hZ eT A (own_inb S hj hi) hg hs hd
  rw [own_clamp hj] at X' W
  exact ⟨T', h', X', e', W, ArF.setW A S q3 H W, st⟩
theorem ArF.stJ (X : Stand p l e R s m args below meth c T locs cells slots) (hx : p.tables.exec = Jvm.exec) (hZ : Z.Warmed39 s.vm) (eT : T.heap = h) (F : ArF Z h a .long n f) {j : Int32} {x : Int64} {i : Nat} (hj : j.toInt = (i : Int)) (hi : i < n) {g : JFrame} (hg : g.method = m) {rest : List Value} (hs : g.stack = .long x :: .int j :: .ref a :: rest) (hd : decode c.code g.pc = .ok (.lastore, 1)) :
    ∃ T' h', Stand p l e R s m args below meth c T' (locs ++ [⟨a, i⟩]) cells slots ∧ T'.heap = h' ∧ Wr h h' a i (.long x) ∧ ArF Z h' a .long n (fun q => if q = i then .long x else f q) ∧ ∀ target, Steps p.tables e below (T'.setTop { g with pc := g.pc + 1, stack := rest }) target → Steps p.tables e below (T.setTop g) target := by
  obtain ⟨c, A, S, q3, H⟩ := F
  obtain ⟨T', h', X', e', W, st⟩ := Jvm.RoadKit.stJ X hx hZ eT A (own_inb S hj hi) hg hs hd
  rw [own_clamp hj] at X' W
  exact ⟨T', h', X', e', W, ArF.setW A S q3 H W, st⟩
theorem ArF.stB (X : Stand p l e R s m args below meth c T locs cells slots) (hx : p.tables.exec = Jvm.exec) (hZ : Z.Warmed39 s.vm) (eT : T.heap = h) (F : ArF Z h a .byte n f) {j x : Int32} {i : Nat} (hj : j.toInt = (i : Int)) (hi : i < n) {g : JFrame} (hg : g.method = m) {rest : List Value} (hs : g.stack = .int x :: .int j :: .ref a :: rest) (hd : decode c.code g.pc = .ok (.bastore, 1)) :
    ∃ T' h', Stand p l e R s m args below meth c T' (locs ++ [⟨a, i⟩]) cells slots ∧ T'.heap = h' ∧ Wr h h' a i (.int (nar .byte x)) ∧ ArF Z h' a .byte n (fun q => if q = i then .int (nar .byte x) else f q) ∧ ∀ target, Steps p.tables e below (T'.setTop { g with pc := g.pc + 1, stack := rest }) target → Steps p.tables e below (T.setTop g) target := by
  obtain ⟨c, A, S, q3, H⟩ := F
  obtain ⟨T', h', X', e', W, st⟩ := Jvm.RoadKit.stB X hx hZ eT A (own_inb S hj hi) hg hs hd
  rw [own_clamp hj] at X' W
  exact ⟨T', h', X', e', W, ArF.setW A S q3 H W, st⟩
theorem ArF.stC (X : Stand p l e R s m args below meth c T locs cells slots) (hx : p.tables.exec = Jvm.exec) (hZ : Z.Warmed39 s.vm) (eT : T.heap = h) (F : ArF Z h a .char n f) {j x : Int32} {i : Nat} (hj : j.toInt = (i : Int)) (hi : i < n) {g : JFrame} (hg : g.method = m) {rest : List Value} (hs : g.stack = .int x :: .int j :: .ref a :: rest) (hd : decode c.code g.pc = .ok (.castore, 1)) :
    ∃ T' h', Stand p l e R s m args below meth c T' (locs ++ [⟨a, i⟩]) cells slots ∧ T'.heap = h' ∧ Wr h h' a i (.int (nar .char x)) ∧ ArF Z h' a .char n (fun q => if q = i then .int (nar .char x) else f q) ∧ ∀ target, Steps p.tables e below (T'.setTop { g with pc := g.pc + 1, stack := rest }) target → Steps p.tables e below (T.setTop g) target := by
  obtain ⟨c, A, S, q3, H⟩ := F
  obtain ⟨T', h', X', e', W, st⟩ := Jvm.RoadKit.stC X hx hZ eT A (own_inb S hj hi) hg hs hd
  rw [own_clamp hj] at X' W
  exact ⟨T', h', X', e', W, ArF.setW A S q3 H W, st⟩
theorem ArF.stZ (X : Stand p l e R s m args below meth c T locs cells slots) (hx : p.tables.exec = Jvm.exec) (hZ : Z.Warmed39 s.vm) (eT : T.heap = h) (F : ArF Z h a .boolean n f) {j x : Int32} {i : Nat} (hj : j.toInt = (i : Int)) (hi : i < n) {g : JFrame} (hg : g.method = m) {rest : List Value} (hs : g.stack = .int x :: .int j :: .ref a :: rest) (hd : decode c.code g.pc = .ok (.bastore, 1)) :
    ∃ T' h', Stand p l e R s m args below meth c T' (locs ++ [⟨a, i⟩]) cells slots ∧ T'.heap = h' ∧ Wr h h' a i (.int (nar .boolean x)) ∧ ArF Z h' a .boolean n (fun q => if q = i then .int (nar .boolean x) else f q) ∧ ∀ target, Steps p.tables e below (T'.setTop { g with pc := g.pc + 1, stack := rest }) target → Steps p.tables e below (T.setTop g) target := by
  obtain ⟨c, A, S, q3, H⟩ := F
  obtain ⟨T', h', X', e', W, st⟩ := Jvm.RoadKit.stZ X hx hZ eT A (own_inb S hj hi) hg hs hd
  rw [own_clamp hj] at X' W
  exact ⟨T', h', X', e', W, ArF.setW A S q3 H W, st⟩
/-- an array of n references to arrays of ty, whatever it holds -/
def ArR (Z : State) (h : Heap) (a : Addr) (n : Nat) (ty : FieldType) : Prop := ∃ c : Cell, Arr Z h a c (.array ty) ∧ c.slots.size = n ∧ OvrA Z c.cls ty (FieldType.array ty).toString
theorem ArR.lt (F : ArR Z h a n ty) : a < h.size := by obtain ⟨c, A, -⟩ := F; exact A.lt
theorem ArR.ext (F : ArR Z h a n ty) (E : Ext h h') : ArR Z h' a n ty := by obtain ⟨c, A, r⟩ := F; exact ⟨c, A.ext E, r⟩
theorem ArR.other (F : ArR Z h a n ty) (W : Wr h h' b sl v) (q : a ≠ b) : ArR Z h' a n ty := by obtain ⟨c, A, r⟩ := F; exact ⟨c, A.other W q, r⟩
theorem ArR.keep (F : ArR Z h a n ty) (K : Keep h h' ws) (q : a ∉ ws) : ArR Z h' a n ty := by obtain ⟨c, A, r⟩ := F; exact ⟨c, ⟨K.2.1 a c A.1 q, A.2⟩, r⟩
theorem ArR.new {k : ClassId} {z : Int32} (A : Arr Z h a (newA k (.array ty) z) (.array ty)) (q : ¬ z < 0) (O : OvrA Z k ty (FieldType.array ty).toString) (hn : z.toNatClampNeg = n := by rfl) : ArR Z h a n ty := by
  subst hn
  exact ⟨_, A, sz_new _ _ _, O⟩
theorem ArR.st (X : Stand p l e R s m args below meth c T locs cells slots) (hx : p.tables.exec = Jvm.exec) (hZ : Z.Warmed39 s.vm) (eT : T.heap = h) (F : ArR Z h a n ty) {y : Addr} (E : Exa Z h y (FieldType.array ty).toString) {j : Int32} {i : Nat} (hj : j.toInt = (i : Int)) (hi : i < n) {g : JFrame} (hg : g.method = m) {rest : List Value} (hs : g.stack = .ref y :: .int j :: .ref a :: rest) (hd : decode c.code g.pc = .ok (.aastore, 1)) :
    ∃ T' h', Stand p l e R s m args below meth c T' (locs ++ [⟨a, i⟩]) cells slots ∧ T'.heap = h' ∧ Wr h h' a i (.ref y) ∧ ArR Z h' a n ty ∧ ∀ target, Steps p.tables e below (T'.setTop { g with pc := g.pc + 1, stack := rest }) target → Steps p.tables e below (T.setTop g) target := by
  obtain ⟨c, A, S, O⟩ := F
  obtain ⟨T', h', X', e', W, st⟩ := Jvm.RoadKit.stR X hx hZ eT A (own_inb S hj hi) rfl (Sto.ofVA A rfl O (Ins.self E)) hg hs hd
  rw [own_clamp hj] at X' W
  exact ⟨T', h', X', e', W, ⟨_, A.same W, by rw [sz_set, S], O⟩, st⟩
theorem ArF.ldI (X : Stand p l e R s m args below meth c T locs cells slots) (hx : p.tables.exec = Jvm.exec) (hZ : Z.Warmed39 s.vm) (eT : T.heap = h) (F : ArF Z h a .int n f) {j : Int32} {i : Nat} (hj : j.toInt = (i : Int)) (hi : i < n) {v : Int32} (hv : f i = .int v) {g : JFrame} (hg : g.method = m) {rest : List Value} (hs : g.stack = .int j :: .ref a :: rest) (hd : decode c.code g.pc = .ok (.iaload, 1)) :
    ∀ target, Steps p.tables e below (T.setTop { g with pc := g.pc + 1, stack := .int v :: rest }) target → Steps p.tables e below (T.setTop g) target := by
  obtain ⟨c, A, S, q3, H⟩ := F
  exact X.iaload hx (by rw [eT]; exact A.1) (State.isArrayOf_alike hZ.alike A.2.1) A.2.2 (own_inb S hj hi) (by rw [own_clamp hj, ← hv]; exact H i hi) hg hs hd
theorem ArF.ldJ (X : Stand p l e R s m args below meth c T locs cells slots) (hx : p.tables.exec = Jvm.exec) (hZ : Z.Warmed39 s.vm) (eT : T.heap = h) (F : ArF Z h a .long n f) {j : Int32} {i : Nat} (hj : j.toInt = (i : Int)) (hi : i < n) {v : Int64} (hv : f i = .long v) {g : JFrame} (hg : g.method = m) {rest : List Value} (hs : g.stack = .int j :: .ref a :: rest) (hd : decode c.code g.pc = .ok (.laload, 1)) :
    ∀ target, Steps p.tables e below (T.setTop { g with pc := g.pc + 1, stack := .long v :: rest }) target → Steps p.tables e below (T.setTop g) target := by
  obtain ⟨c, A, S, q3, H⟩ := F
  exact X.laload hx (by rw [eT]; exact A.1) (State.isArrayOf_alike hZ.alike A.2.1) A.2.2 (own_inb S hj hi) (by rw [own_clamp hj, ← hv]; exact H i hi) hg hs hd
theorem ArF.ldB (X : Stand p l e R s m args below meth c T locs cells slots) (hx : p.tables.exec = Jvm.exec) (hZ : Z.Warmed39 s.vm) (eT : T.heap = h) (F : ArF Z h a .byte n f) {j : Int32} {i : Nat} (hj : j.toInt = (i : Int)) (hi : i < n) {v : Int32} (hv : f i = .int v) {g : JFrame} (hg : g.method = m) {rest : List Value} (hs : g.stack = .int j :: .ref a :: rest) (hd : decode c.code g.pc = .ok (.baload, 1)) :
    ∀ target, Steps p.tables e below (T.setTop { g with pc := g.pc + 1, stack := .int v :: rest }) target → Steps p.tables e below (T.setTop g) target := by
  obtain ⟨c, A, S, q3, H⟩ := F
  exact X.baloadBytes hx (by rw [eT]; exact A.1) (State.isArrayOf_alike hZ.alike A.2.1) A.2.2 (own_inb S hj hi) (by rw [own_clamp hj, ← hv]; exact H i hi) hg hs hd
theorem ArF.ldC (X : Stand p l e R s m args below meth c T locs cells slots) (hx : p.tables.exec = Jvm.exec) (hZ : Z.Warmed39 s.vm) (eT : T.heap = h) (F : ArF Z h a .char n f) {j : Int32} {i : Nat} (hj : j.toInt = (i : Int)) (hi : i < n) {v : Int32} (hv : f i = .int v) {g : JFrame} (hg : g.method = m) {rest : List Value} (hs : g.stack = .int j :: .ref a :: rest) (hd : decode c.code g.pc = .ok (.caload, 1)) :
    ∀ target, Steps p.tables e below (T.setTop { g with pc := g.pc + 1, stack := .int v :: rest }) target → Steps p.tables e below (T.setTop g) target := by
  obtain ⟨c, A, S, q3, H⟩ := F
  exact X.caload hx (by rw [eT]; exact A.1) (State.isArrayOf_alike hZ.alike A.2.1) A.2.2 (own_inb S hj hi) (by rw [own_clamp hj, ← hv]; exact H i hi) hg hs hd
theorem ArF.ldA (X : Stand p l e R s m args below meth c T locs cells slots) (hx : p.tables.exec = Jvm.exec) (hZ : Z.Warmed39 s.vm) (eT : T.heap = h) (F : ArF Z h a ty n f) (hty : ty.isReference = true) {j : Int32} {i : Nat} (hj : j.toInt = (i : Int)) (hi : i < n) {v : Value} (hv : f i = v) {g : JFrame} (hg : g.method = m) {rest : List Value} (hs : g.stack = .int j :: .ref a :: rest) (hd : decode c.code g.pc = .ok (.aaload, 1)) :
    ∀ target, Steps p.tables e below (T.setTop { g with pc := g.pc + 1, stack := v :: rest }) target → Steps p.tables e below (T.setTop g) target := by
  obtain ⟨c, A, S, q3, H⟩ := F
  exact X.aaload hx (by rw [eT]; exact A.1) (State.isArrayOf_alike hZ.alike A.2.1) hty A.2.2 (own_inb S hj hi) (by rw [own_clamp hj, ← hv]; exact H i hi) hg hs hd
theorem ArF.len (X : Stand p l e R s m args below meth c T locs cells slots) (hx : p.tables.exec = Jvm.exec) (hZ : Z.Warmed39 s.vm) (eT : T.heap = h) (F : ArF Z h a ty n f) {g : JFrame} (hg : g.method = m) {rest : List Value} (hs : g.stack = .ref a :: rest) (hd : decode c.code g.pc = .ok (.arraylength, 1)) :
    ∀ target, Steps p.tables e below (T.setTop { g with pc := g.pc + 1, stack := .int (Int32.ofNat n) :: rest }) target → Steps p.tables e below (T.setTop g) target := by
  obtain ⟨c, A, S, q3, H⟩ := F
  have q := X.arraylength hx (by rw [eT]; exact A.1) (State.isArrayOf_alike hZ.alike A.2.1) hg hs hd
  rw [S] at q
  exact q
theorem own_more (X : Stand p l e R s m args below meth c T locs cells slots) {k n : Nat} (h1 : cells ≤ k) (h2 : slots ≤ n) : Stand p l e R s m args below meth c T locs k n :=
  { X with same := X.same.mono h1 h2 }
theorem own_selP {Z s : State} {a0 args : Array Value} {y : MethodName} {k : Nat} (hZ : Z.Warmed39 s.vm) (wi : (Cond.instantiable y.cls k).before a0 Z = true) (wp : (Cond.privateMethod y).before a0 Z = true) (wm : (Cond.instanceMethod y).before a0 Z = true) (hy : y.cls ≠ "java/lang/invoke/MethodHandle" ∧ y.cls ≠ "java/lang/invoke/VarHandle") : (Cond.selects y.cls y y).before args s = true := by
  have wi' : (Cond.instantiable y.cls k).before args s = true := mvT hZ wi
  obtain ⟨c, q, h1, h2, -, h4, -⟩ := Cond.instantiable_spec wi'
  simp only [Bool.or_eq_false_iff] at h4
  exact Jvm.Stand.selects_self_of_private h1 h2 h4.1 (Cond.privateMethod_at (mvP hZ wp (args := args))) (mvT hZ wm) hy
end Own
end Jvm.RoadKit
namespace Jvm.RoadKit
open Sem ClassFile Op Lib Jvm.Stand Jvm.Free Jvm.LawKit
/-- a callee that may intern, called where nothing has been interned since the case's start: its law may lean on the intern table's being the start's -/
theorem own_backOfS {p : Program} {l : Launch} {e : Env} {R : Room} {s : State} {args : Array Value} {below : List Frame} {Z : State} {a0 : Array Value} {h : Heap} {y : MethodName} {bytes : ByteArray} {maxL : Nat} {ret : Option FieldType} {rm : Room} {len W : Nat} {as' : Array Value} {Q : Option Value → Heap → List Loc → Prop}
    (hM : MetFree l y (head1 [Cond.code y bytes maxL ret] rm) (fun a U => a = as' ∧ Z.Warmed39 U.vm ∧ U.heap = h ∧ U.vm.interned = Z.vm.interned) (fun _ _ _ _ _ => True) (fun _ U o U' => ∃ v L, o = .returned v ∧ Q v U'.heap L ∧ ReturnedEndW U o U' L rm.cells rm.slots))
    (hZ : Z.Warmed39 s.vm) (hI : s.vm.interned = Z.vm.interned) (wc : (Cond.code y bytes maxL ret).before a0 Z = true) (wz : (Cond.initialized y.cls).before a0 Z = true) (hf : rm.frames + 1 ≤ R.frames) (hl : W + (maxL + 11) + rm.locals ≤ R.locals) :
    BackS l R p e below s args y len W (fun A a => a = as' ∧ A.U.heap = h ∧ A.cells + rm.cells ≤ R.cells ∧ A.slots + rm.slots ≤ R.slots) (fun A _ v B => ∃ L, Q v B.U.heap L ∧ B.locs = A.locs ++ L ∧ B.cells = A.cells + rm.cells ∧ B.slots = A.slots + rm.slots) := by
  refine BackS.of_freeW (bytes := bytes) (maxL := maxL) (ret := ret) (E := fun _ _ o t L k n => (k = rm.cells ∧ n = rm.slots) ∧ ∃ v, o = .returned v ∧ Q v t.heap L) hM hf hl ?_ ?_ (fun _ _ _ _ _ _ _ _ _ => trivial) ?_ ?_
  · intro m meth c A a Y hp
    have hU : Z.Warmed39 A.U.vm := wtrans hZ Y.warmed
    have h1 : (Cond.code y bytes maxL ret).before a A.U = true := mv hU wc
    refine ⟨?_, h1, mv hU wz, hp.2.2.1, hp.2.2.2⟩
    show (Cond.and _ .tt).before a A.U = true
    rw [Cond.before_and, h1]; rfl
  · intro m meth c A a g mk Y hp
    exact ⟨hp.1, wtrans hZ Y.warmed, hp.2.1, Y.warmed.interned_eq.trans hI⟩
  · intro a first o t hq
    obtain ⟨v, L, h1, h2, h3⟩ := hq
    exact ⟨L, rm.cells, rm.slots, h3, ⟨rfl, rfl⟩, v, h1, h2⟩
  · intro m meth c A a g mk v t L k n Y hp hq hr he
    obtain ⟨⟨rfl, rfl⟩, v', e1, e2⟩ := he
    cases e1
    exact ⟨L, e2, rfl, rfl, rfl⟩
theorem own_fld_ne {Z : State} {h : Heap} {x a : Addr} {C n d : String} {v w : Value} (F : Fld Z h x C n d v) (G : Fld Z h a C n d w) (hv : v ≠ w) : x ≠ a := fun q => by
  subst q
  obtain ⟨cell, cf, k, i, f, h1, h2, -, -, -, -, h7⟩ := F
  obtain ⟨cell', cf', k', i', f', g1, g2, -, -, -, -, g7⟩ := G
  cases h1.symm.trans g1
  cases h2.symm.trans g2
  exact hv (Option.some.inj (h7.symm.trans g7))
theorem own_c255 (x : Int32) : ¬ (255 : Int32) < (x &&& 255).toUInt32.toUInt16.toUInt32.toInt32 := by
  rw [i2c_mask, Int32.lt_iff_toInt_lt]
  have m := own_mask32 x 255 (by decide)
  rw [show (255 : Int32).toInt = 255 by decide] at m ⊢
  omega
theorem own_n255 (x : Int32) : ¬ (255 : Int32) < nar .char ((x &&& 255).toUInt32.toUInt16.toUInt32.toInt32) := by
  rw [show nar .char ((x &&& 255).toUInt32.toUInt16.toUInt32.toInt32) = x &&& 255 from by simp only [nar, i2c_mask], ← i2c_mask]
  exact own_c255 x
end Jvm.RoadKit
namespace Jvm.Pilot.@@N@@
open Jvm Jvm.ClassFile Sem Op Lib Jvm.Free Jvm.Stand Jvm.LawKit Jvm.RoadKit Bundle Jvm.Pilot.@@N@@.Jvm.D
theorem d1_0 : decode method_2_code 0 = .ok (.iload_n 0, 1) := by decide +kernel
theorem d1_1 : decode method_2_code 1 = .ok (.sipush 255, 3) := by decide +kernel
theorem d1_4 : decode method_2_code 4 = .ok (.iand, 1) := by decide +kernel
theorem d1_5 : decode method_2_code 5 = .ok (.i2c, 1) := by decide +kernel
theorem d1_6 : decode method_2_code 6 = .ok (.istore_n 2, 1) := by decide +kernel
theorem d1_7 : decode method_2_code 7 = .ok (.iload_n 0, 1) := by decide +kernel
theorem d1_8 : decode method_2_code 8 = .ok (.bipush 8, 2) := by decide +kernel
theorem d1_10 : decode method_2_code 10 = .ok (.iushr, 1) := by decide +kernel
theorem d1_11 : decode method_2_code 11 = .ok (.sipush 255, 3) := by decide +kernel
theorem d1_14 : decode method_2_code 14 = .ok (.iand, 1) := by decide +kernel
theorem d1_15 : decode method_2_code 15 = .ok (.i2c, 1) := by decide +kernel
theorem d1_16 : decode method_2_code 16 = .ok (.istore_n 3, 1) := by decide +kernel
theorem d1_17 : decode method_2_code 17 = .ok (.iload_n 0, 1) := by decide +kernel
theorem d1_18 : decode method_2_code 18 = .ok (.bipush 16, 2) := by decide +kernel
theorem d1_20 : decode method_2_code 20 = .ok (.iushr, 1) := by decide +kernel
theorem d1_21 : decode method_2_code 21 = .ok (.sipush 255, 3) := by decide +kernel
theorem d1_24 : decode method_2_code 24 = .ok (.iand, 1) := by decide +kernel
theorem d1_25 : decode method_2_code 25 = .ok (.i2c, 1) := by decide +kernel
theorem d1_26 : decode method_2_code 26 = .ok (.istore 4, 2) := by decide +kernel
theorem d1_28 : decode method_2_code 28 = .ok (.iload_n 1, 1) := by decide +kernel
theorem d1_29 : decode method_2_code 29 = .ok (.iconst 3, 1) := by decide +kernel
theorem d1_30 : decode method_2_code 30 = .ok (.iand, 1) := by decide +kernel
theorem d1_31 : decode method_2_code 31 = .ok (.istore 5, 2) := by decide +kernel
theorem d1_33 : decode method_2_code 33 = .ok (.iload 5, 2) := by decide +kernel
theorem d1_35 : decode method_2_code 35 = .ok (.ifCond .ne 14, 3) := by decide +kernel
theorem d1_38 : decode method_2_code 38 = .ok (.new 7, 3) := by decide +kernel
theorem d1_41 : decode method_2_code 41 = .ok (.dup, 1) := by decide +kernel
theorem d1_42 : decode method_2_code 42 = .ok (.iconst 0, 1) := by decide +kernel
theorem d1_43 : decode method_2_code 43 = .ok (.newarray .char, 2) := by decide +kernel
theorem d1_45 : decode method_2_code 45 = .ok (.invokespecial 9, 3) := by decide +kernel
theorem d1_48 : decode method_2_code 48 = .ok (.areturn, 1) := by decide +kernel
theorem d1_49 : decode method_2_code 49 = .ok (.iload 5, 2) := by decide +kernel
theorem d1_51 : decode method_2_code 51 = .ok (.iconst 1, 1) := by decide +kernel
theorem d1_52 : decode method_2_code 52 = .ok (.if_icmp .ne 8, 3) := by decide +kernel
theorem d1_55 : decode method_2_code 55 = .ok (.iload_n 2, 1) := by decide +kernel
theorem d1_56 : decode method_2_code 56 = .ok (.invokestatic 12, 3) := by decide +kernel
theorem d1_59 : decode method_2_code 59 = .ok (.areturn, 1) := by decide +kernel
theorem d1_60 : decode method_2_code 60 = .ok (.iload 5, 2) := by decide +kernel
theorem d1_62 : decode method_2_code 62 = .ok (.iconst 2, 1) := by decide +kernel
theorem d1_63 : decode method_2_code 63 = .ok (.if_icmp .ne 28, 3) := by decide +kernel
theorem d1_66 : decode method_2_code 66 = .ok (.iconst 2, 1) := by decide +kernel
theorem d1_67 : decode method_2_code 67 = .ok (.newarray .char, 2) := by decide +kernel
theorem d1_69 : decode method_2_code 69 = .ok (.astore 6, 2) := by decide +kernel
theorem d1_71 : decode method_2_code 71 = .ok (.aload 6, 2) := by decide +kernel
theorem d1_73 : decode method_2_code 73 = .ok (.iconst 0, 1) := by decide +kernel
theorem d1_74 : decode method_2_code 74 = .ok (.iload_n 2, 1) := by decide +kernel
theorem d1_75 : decode method_2_code 75 = .ok (.castore, 1) := by decide +kernel
theorem d1_76 : decode method_2_code 76 = .ok (.aload 6, 2) := by decide +kernel
theorem d1_78 : decode method_2_code 78 = .ok (.iconst 1, 1) := by decide +kernel
theorem d1_79 : decode method_2_code 79 = .ok (.iload_n 3, 1) := by decide +kernel
theorem d1_80 : decode method_2_code 80 = .ok (.castore, 1) := by decide +kernel
theorem d1_81 : decode method_2_code 81 = .ok (.new 7, 3) := by decide +kernel
theorem d1_84 : decode method_2_code 84 = .ok (.dup, 1) := by decide +kernel
theorem d1_85 : decode method_2_code 85 = .ok (.aload 6, 2) := by decide +kernel
theorem d1_87 : decode method_2_code 87 = .ok (.invokespecial 9, 3) := by decide +kernel
theorem d1_90 : decode method_2_code 90 = .ok (.areturn, 1) := by decide +kernel
theorem d1_91 : decode method_2_code 91 = .ok (.iconst 3, 1) := by decide +kernel
theorem d1_92 : decode method_2_code 92 = .ok (.newarray .char, 2) := by decide +kernel
theorem d1_94 : decode method_2_code 94 = .ok (.astore 6, 2) := by decide +kernel
theorem d1_96 : decode method_2_code 96 = .ok (.aload 6, 2) := by decide +kernel
theorem d1_98 : decode method_2_code 98 = .ok (.iconst 0, 1) := by decide +kernel
theorem d1_99 : decode method_2_code 99 = .ok (.iload_n 2, 1) := by decide +kernel
theorem d1_100 : decode method_2_code 100 = .ok (.castore, 1) := by decide +kernel
theorem d1_101 : decode method_2_code 101 = .ok (.aload 6, 2) := by decide +kernel
theorem d1_103 : decode method_2_code 103 = .ok (.iconst 1, 1) := by decide +kernel
theorem d1_104 : decode method_2_code 104 = .ok (.iload_n 3, 1) := by decide +kernel
theorem d1_105 : decode method_2_code 105 = .ok (.castore, 1) := by decide +kernel
theorem d1_106 : decode method_2_code 106 = .ok (.aload 6, 2) := by decide +kernel
theorem d1_108 : decode method_2_code 108 = .ok (.iconst 2, 1) := by decide +kernel
theorem d1_109 : decode method_2_code 109 = .ok (.iload 4, 2) := by decide +kernel
theorem d1_111 : decode method_2_code 111 = .ok (.castore, 1) := by decide +kernel
theorem d1_112 : decode method_2_code 112 = .ok (.new 7, 3) := by decide +kernel
theorem d1_115 : decode method_2_code 115 = .ok (.dup, 1) := by decide +kernel
theorem d1_116 : decode method_2_code 116 = .ok (.aload 6, 2) := by decide +kernel
theorem d1_118 : decode method_2_code 118 = .ok (.invokespecial 9, 3) := by decide +kernel
theorem d1_121 : decode method_2_code 121 = .ok (.areturn, 1) := by decide +kernel
theorem d2_0 : decode jdk_42_method_3_code 0 = .ok (.aload_n 0, 1) := by decide +kernel
theorem d2_1 : decode jdk_42_method_3_code 1 = .ok (.aload_n 1, 1) := by decide +kernel
theorem d2_2 : decode jdk_42_method_3_code 2 = .ok (.iconst 0, 1) := by decide +kernel
theorem d2_3 : decode jdk_42_method_3_code 3 = .ok (.aload_n 1, 1) := by decide +kernel
theorem d2_4 : decode jdk_42_method_3_code 4 = .ok (.arraylength, 1) := by decide +kernel
theorem d2_5 : decode jdk_42_method_3_code 5 = .ok (.aconst_null, 1) := by decide +kernel
theorem d2_6 : decode jdk_42_method_3_code 6 = .ok (.invokespecial 27, 3) := by decide +kernel
theorem d2_9 : decode jdk_42_method_3_code 9 = .ok (.return_, 1) := by decide +kernel
theorem d3_0 : decode jdk_42_method_149_code 0 = .ok (.aload_n 0, 1) := by decide +kernel
theorem d3_1 : decode jdk_42_method_149_code 1 = .ok (.invokespecial 1, 3) := by decide +kernel
theorem d3_4 : decode jdk_42_method_149_code 4 = .ok (.iload_n 3, 1) := by decide +kernel
theorem d3_5 : decode jdk_42_method_149_code 5 = .ok (.ifCond .ne 22, 3) := by decide +kernel
theorem d3_8 : decode jdk_42_method_149_code 8 = .ok (.aload_n 0, 1) := by decide +kernel
theorem d3_9 : decode jdk_42_method_149_code 9 = .ok (.ldc 7, 2) := by decide +kernel
theorem d3_11 : decode jdk_42_method_149_code 11 = .ok (.getfield 9, 3) := by decide +kernel
theorem d3_14 : decode jdk_42_method_149_code 14 = .ok (.putfield 9, 3) := by decide +kernel
theorem d3_17 : decode jdk_42_method_149_code 17 = .ok (.aload_n 0, 1) := by decide +kernel
theorem d3_18 : decode jdk_42_method_149_code 18 = .ok (.ldc 7, 2) := by decide +kernel
theorem d3_20 : decode jdk_42_method_149_code 20 = .ok (.getfield 15, 3) := by decide +kernel
theorem d3_23 : decode jdk_42_method_149_code 23 = .ok (.putfield 15, 3) := by decide +kernel
theorem d3_26 : decode jdk_42_method_149_code 26 = .ok (.return_, 1) := by decide +kernel
theorem d3_27 : decode jdk_42_method_149_code 27 = .ok (.getstatic 38, 3) := by decide +kernel
theorem d3_30 : decode jdk_42_method_149_code 30 = .ok (.ifCond .eq 28, 3) := by decide +kernel
theorem d3_33 : decode jdk_42_method_149_code 33 = .ok (.aload_n 1, 1) := by decide +kernel
theorem d3_34 : decode jdk_42_method_149_code 34 = .ok (.iload_n 2, 1) := by decide +kernel
theorem d3_35 : decode jdk_42_method_149_code 35 = .ok (.iload_n 3, 1) := by decide +kernel
theorem d3_36 : decode jdk_42_method_149_code 36 = .ok (.invokestatic 177, 3) := by decide +kernel
theorem d3_39 : decode jdk_42_method_149_code 39 = .ok (.astore 5, 2) := by decide +kernel
theorem d3_41 : decode jdk_42_method_149_code 41 = .ok (.aload_n 0, 1) := by decide +kernel
theorem d3_42 : decode jdk_42_method_149_code 42 = .ok (.aload 5, 2) := by decide +kernel
theorem d3_44 : decode jdk_42_method_149_code 44 = .ok (.iload_n 3, 1) := by decide +kernel
theorem d3_45 : decode jdk_42_method_149_code 45 = .ok (.invokestatic 47, 3) := by decide +kernel
theorem d3_48 : decode jdk_42_method_149_code 48 = .ok (.putfield 15, 3) := by decide +kernel
theorem d3_51 : decode jdk_42_method_149_code 51 = .ok (.aload_n 0, 1) := by decide +kernel
theorem d3_52 : decode jdk_42_method_149_code 52 = .ok (.aload 5, 2) := by decide +kernel
theorem d3_54 : decode jdk_42_method_149_code 54 = .ok (.putfield 9, 3) := by decide +kernel
theorem d3_57 : decode jdk_42_method_149_code 57 = .ok (.return_, 1) := by decide +kernel
theorem d5_0 : decode jdk_52_method_16_code 0 = .ok (.iload_n 2, 1) := by decide +kernel
theorem d5_1 : decode jdk_52_method_16_code 1 = .ok (.newarray .byte, 2) := by decide +kernel
theorem d5_3 : decode jdk_52_method_16_code 3 = .ok (.astore_n 3, 1) := by decide +kernel
theorem d5_4 : decode jdk_52_method_16_code 4 = .ok (.aload_n 0, 1) := by decide +kernel
theorem d5_5 : decode jdk_52_method_16_code 5 = .ok (.iload_n 1, 1) := by decide +kernel
theorem d5_6 : decode jdk_52_method_16_code 6 = .ok (.aload_n 3, 1) := by decide +kernel
theorem d5_7 : decode jdk_52_method_16_code 7 = .ok (.iconst 0, 1) := by decide +kernel
theorem d5_8 : decode jdk_52_method_16_code 8 = .ok (.iload_n 2, 1) := by decide +kernel
theorem d5_9 : decode jdk_52_method_16_code 9 = .ok (.invokestatic 115, 3) := by decide +kernel
theorem d5_12 : decode jdk_52_method_16_code 12 = .ok (.istore 4, 2) := by decide +kernel
theorem d5_14 : decode jdk_52_method_16_code 14 = .ok (.iload 4, 2) := by decide +kernel
theorem d5_16 : decode jdk_52_method_16_code 16 = .ok (.iload_n 2, 1) := by decide +kernel
theorem d5_17 : decode jdk_52_method_16_code 17 = .ok (.if_icmp .eq 40, 3) := by decide +kernel
theorem d5_57 : decode jdk_52_method_16_code 57 = .ok (.aload_n 3, 1) := by decide +kernel
theorem d5_58 : decode jdk_52_method_16_code 58 = .ok (.areturn, 1) := by decide +kernel
theorem d6_0 : decode jdk_52_method_21_code 0 = .ok (.iconst 0, 1) := by decide +kernel
theorem d6_1 : decode jdk_52_method_21_code 1 = .ok (.istore 5, 2) := by decide +kernel
theorem d6_3 : decode jdk_52_method_21_code 3 = .ok (.iload 5, 2) := by decide +kernel
theorem d6_5 : decode jdk_52_method_21_code 5 = .ok (.iload 4, 2) := by decide +kernel
theorem d6_7 : decode jdk_52_method_21_code 7 = .ok (.if_icmp .ge 37, 3) := by decide +kernel
theorem d6_10 : decode jdk_52_method_21_code 10 = .ok (.aload_n 0, 1) := by decide +kernel
theorem d6_11 : decode jdk_52_method_21_code 11 = .ok (.iload_n 1, 1) := by decide +kernel
theorem d6_12 : decode jdk_52_method_21_code 12 = .ok (.caload, 1) := by decide +kernel
theorem d6_13 : decode jdk_52_method_21_code 13 = .ok (.istore 6, 2) := by decide +kernel
theorem d6_15 : decode jdk_52_method_21_code 15 = .ok (.iload 6, 2) := by decide +kernel
theorem d6_17 : decode jdk_52_method_21_code 17 = .ok (.sipush 255, 3) := by decide +kernel
theorem d6_20 : decode jdk_52_method_21_code 20 = .ok (.if_icmp .le 6, 3) := by decide +kernel
theorem d6_26 : decode jdk_52_method_21_code 26 = .ok (.aload_n 2, 1) := by decide +kernel
theorem d6_27 : decode jdk_52_method_21_code 27 = .ok (.iload_n 3, 1) := by decide +kernel
theorem d6_28 : decode jdk_52_method_21_code 28 = .ok (.iload 6, 2) := by decide +kernel
theorem d6_30 : decode jdk_52_method_21_code 30 = .ok (.i2b, 1) := by decide +kernel
theorem d6_31 : decode jdk_52_method_21_code 31 = .ok (.bastore, 1) := by decide +kernel
theorem d6_32 : decode jdk_52_method_21_code 32 = .ok (.iinc 1 1, 3) := by decide +kernel
theorem d6_35 : decode jdk_52_method_21_code 35 = .ok (.iinc 3 1, 3) := by decide +kernel
theorem d6_38 : decode jdk_52_method_21_code 38 = .ok (.iinc 5 1, 3) := by decide +kernel
theorem d6_41 : decode jdk_52_method_21_code 41 = .ok (.goto (-38), 3) := by decide +kernel
theorem d6_44 : decode jdk_52_method_21_code 44 = .ok (.iload 4, 2) := by decide +kernel
theorem d6_46 : decode jdk_52_method_21_code 46 = .ok (.ireturn, 1) := by decide +kernel
theorem d7_0 : decode jdk_52_method_15_code 0 = .ok (.iload_n 1, 1) := by decide +kernel
theorem d7_1 : decode jdk_52_method_15_code 1 = .ok (.aload_n 0, 1) := by decide +kernel
theorem d7_2 : decode jdk_52_method_15_code 2 = .ok (.arraylength, 1) := by decide +kernel
theorem d7_3 : decode jdk_52_method_15_code 3 = .ok (.isub, 1) := by decide +kernel
theorem d7_4 : decode jdk_52_method_15_code 4 = .ok (.bipush 31, 2) := by decide +kernel
theorem d7_6 : decode jdk_52_method_15_code 6 = .ok (.iushr, 1) := by decide +kernel
theorem d7_7 : decode jdk_52_method_15_code 7 = .ok (.i2b, 1) := by decide +kernel
theorem d7_8 : decode jdk_52_method_15_code 8 = .ok (.ireturn, 1) := by decide +kernel
theorem d8_0 : decode prog_27_method_1_code 0 = .ok (.aload_n 0, 1) := by decide +kernel
theorem d8_1 : decode prog_27_method_1_code 1 = .ok (.invokespecial 1, 3) := by decide +kernel
theorem d8_4 : decode prog_27_method_1_code 4 = .ok (.aload_n 0, 1) := by decide +kernel
theorem d8_5 : decode prog_27_method_1_code 5 = .ok (.aload_n 1, 1) := by decide +kernel
theorem d8_6 : decode prog_27_method_1_code 6 = .ok (.putfield 7, 3) := by decide +kernel
theorem d8_9 : decode prog_27_method_1_code 9 = .ok (.aload_n 0, 1) := by decide +kernel
theorem d8_10 : decode prog_27_method_1_code 10 = .ok (.iload_n 2, 1) := by decide +kernel
theorem d8_11 : decode prog_27_method_1_code 11 = .ok (.putfield 13, 3) := by decide +kernel
theorem d8_14 : decode prog_27_method_1_code 14 = .ok (.return_, 1) := by decide +kernel
theorem d9_0 : decode jdk_30_method_1_code 0 = .ok (.aload_n 0, 1) := by decide +kernel
theorem d9_1 : decode jdk_30_method_1_code 1 = .ok (.invokespecial 1, 3) := by decide +kernel
theorem d9_4 : decode jdk_30_method_1_code 4 = .ok (.return_, 1) := by decide +kernel
theorem d10_0 : decode prog_27_method_3_code 0 = .ok (.new 8, 3) := by decide +kernel
theorem d10_3 : decode prog_27_method_3_code 3 = .ok (.dup, 1) := by decide +kernel
theorem d10_4 : decode prog_27_method_3_code 4 = .ok (.aload_n 0, 1) := by decide +kernel
theorem d10_5 : decode prog_27_method_3_code 5 = .ok (.getfield 7, 3) := by decide +kernel
theorem d10_8 : decode prog_27_method_3_code 8 = .ok (.iload_n 1, 1) := by decide +kernel
theorem d10_9 : decode prog_27_method_3_code 9 = .ok (.invokespecial 76, 3) := by decide +kernel
theorem d10_12 : decode prog_27_method_3_code 12 = .ok (.areturn, 1) := by decide +kernel
theorem d11_0 : decode prog_27_method_7_code 0 = .ok (.aload_n 0, 1) := by decide +kernel
theorem d11_1 : decode prog_27_method_7_code 1 = .ok (.getfield 7, 3) := by decide +kernel
theorem d11_4 : decode prog_27_method_7_code 4 = .ok (.areturn, 1) := by decide +kernel
theorem d12_0 : decode jdk_42_method_66_code 0 = .ok (.aload_n 0, 1) := by decide +kernel
theorem d12_1 : decode jdk_42_method_66_code 1 = .ok (.aload_n 1, 1) := by decide +kernel
theorem d12_2 : decode jdk_42_method_66_code 2 = .ok (.if_acmp .ne 5, 3) := by decide +kernel
theorem d12_5 : decode jdk_42_method_66_code 5 = .ok (.iconst 1, 1) := by decide +kernel
theorem d12_6 : decode jdk_42_method_66_code 6 = .ok (.ireturn, 1) := by decide +kernel
theorem d13_0 : decode prog_27_method_8_code 0 = .ok (.aload_n 0, 1) := by decide +kernel
theorem d13_1 : decode prog_27_method_8_code 1 = .ok (.getfield 13, 3) := by decide +kernel
theorem d13_4 : decode prog_27_method_8_code 4 = .ok (.ireturn, 1) := by decide +kernel
theorem d14_0 : decode jdk_42_method_139_code 0 = .ok (.getstatic 38, 3) := by decide +kernel
theorem d14_3 : decode jdk_42_method_139_code 3 = .ok (.ifCond .eq 23, 3) := by decide +kernel
theorem d14_6 : decode jdk_42_method_139_code 6 = .ok (.iload_n 0, 1) := by decide +kernel
theorem d14_7 : decode jdk_42_method_139_code 7 = .ok (.invokestatic 1015, 3) := by decide +kernel
theorem d14_10 : decode jdk_42_method_139_code 10 = .ok (.ifCond .eq 16, 3) := by decide +kernel
theorem d14_13 : decode jdk_42_method_139_code 13 = .ok (.new 10, 3) := by decide +kernel
theorem d14_16 : decode jdk_42_method_139_code 16 = .ok (.dup, 1) := by decide +kernel
theorem d14_17 : decode jdk_42_method_139_code 17 = .ok (.iload_n 0, 1) := by decide +kernel
theorem d14_18 : decode jdk_42_method_139_code 18 = .ok (.invokestatic 1018, 3) := by decide +kernel
theorem d14_21 : decode jdk_42_method_139_code 21 = .ok (.iconst 0, 1) := by decide +kernel
theorem d14_22 : decode jdk_42_method_139_code 22 = .ok (.invokespecial 209, 3) := by decide +kernel
theorem d14_25 : decode jdk_42_method_139_code 25 = .ok (.areturn, 1) := by decide +kernel
theorem d15_0 : decode jdk_43_method_3_code 0 = .ok (.iload_n 0, 1) := by decide +kernel
theorem d15_1 : decode jdk_43_method_3_code 1 = .ok (.sipush 255, 3) := by decide +kernel
theorem d15_4 : decode jdk_43_method_3_code 4 = .ok (.if_icmp .gt 7, 3) := by decide +kernel
theorem d15_7 : decode jdk_43_method_3_code 7 = .ok (.iconst 1, 1) := by decide +kernel
theorem d15_8 : decode jdk_43_method_3_code 8 = .ok (.goto 4, 3) := by decide +kernel
theorem d15_12 : decode jdk_43_method_3_code 12 = .ok (.ireturn, 1) := by decide +kernel
theorem d16_0 : decode jdk_43_method_46_code 0 = .ok (.iconst 1, 1) := by decide +kernel
theorem d16_1 : decode jdk_43_method_46_code 1 = .ok (.newarray .byte, 2) := by decide +kernel
theorem d16_3 : decode jdk_43_method_46_code 3 = .ok (.dup, 1) := by decide +kernel
theorem d16_4 : decode jdk_43_method_46_code 4 = .ok (.iconst 0, 1) := by decide +kernel
theorem d16_5 : decode jdk_43_method_46_code 5 = .ok (.iload_n 0, 1) := by decide +kernel
theorem d16_6 : decode jdk_43_method_46_code 6 = .ok (.i2b, 1) := by decide +kernel
theorem d16_7 : decode jdk_43_method_46_code 7 = .ok (.bastore, 1) := by decide +kernel
theorem d16_8 : decode jdk_43_method_46_code 8 = .ok (.areturn, 1) := by decide +kernel
theorem d17_0 : decode jdk_42_method_151_code 0 = .ok (.aload_n 0, 1) := by decide +kernel
theorem d17_1 : decode jdk_42_method_151_code 1 = .ok (.invokespecial 1, 3) := by decide +kernel
theorem d17_4 : decode jdk_42_method_151_code 4 = .ok (.aload_n 0, 1) := by decide +kernel
theorem d17_5 : decode jdk_42_method_151_code 5 = .ok (.aload_n 1, 1) := by decide +kernel
theorem d17_6 : decode jdk_42_method_151_code 6 = .ok (.putfield 9, 3) := by decide +kernel
theorem d17_9 : decode jdk_42_method_151_code 9 = .ok (.aload_n 0, 1) := by decide +kernel
theorem d17_10 : decode jdk_42_method_151_code 10 = .ok (.iload_n 2, 1) := by decide +kernel
theorem d17_11 : decode jdk_42_method_151_code 11 = .ok (.putfield 15, 3) := by decide +kernel
theorem d17_14 : decode jdk_42_method_151_code 14 = .ok (.return_, 1) := by decide +kernel
theorem pn_0 : plainName "java/lang/Record" = true := by first | (simp [plainName, overriddenIn]; done) | decide +kernel
theorem pn_1 : plainName "com/example/portcullis/portcullis/util/HostPort" = true := by first | (simp [plainName, overriddenIn]; done) | decide +kernel
theorem pn_2 : plainName "java/lang/String" = true := by first | (simp [plainName, overriddenIn]; done) | decide +kernel
theorem pn_3 : plainName "java/lang/StringLatin1" = true := by first | (simp [plainName, overriddenIn]; done) | decide +kernel
theorem pn_4 : plainName "java/lang/StringUTF16" = true := by first | (simp [plainName, overriddenIn]; done) | decide +kernel
theorem pn_5 : plainName "com/example/portcullis/portcullis/util/HostPortWithPortPinLaw" = true := by first | (simp [plainName, overriddenIn]; done) | decide +kernel
theorem pd_0 : parseMethodDescriptor "()V" = some ⟨[], none⟩ := by decide +kernel
theorem pd_1 : parseMethodDescriptor "(Ljava/lang/String;I)V" = some ⟨[(.object "java/lang/String"), .int], none⟩ := by decide +kernel
theorem pd_2 : parseMethodDescriptor "(C)Z" = some ⟨[.char], some .boolean⟩ := by decide +kernel
theorem pd_3 : parseMethodDescriptor "(C)[B" = some ⟨[.char], some (.array .byte)⟩ := by decide +kernel
theorem pd_4 : parseMethodDescriptor "([BB)V" = some ⟨[(.array .byte), .byte], none⟩ := by decide +kernel
theorem pd_5 : parseMethodDescriptor "([CI[BII)I" = some ⟨[(.array .char), .int, (.array .byte), .int, .int], some .int⟩ := by decide +kernel
theorem pd_6 : parseMethodDescriptor "([CII)[B" = some ⟨[(.array .char), .int, .int], some (.array .byte)⟩ := by decide +kernel
theorem pd_7 : parseMethodDescriptor "([BI)B" = some ⟨[(.array .byte), .int], some .byte⟩ := by decide +kernel
theorem pd_8 : parseMethodDescriptor "([CIILjava/lang/Void;)V" = some ⟨[(.array .char), .int, .int, (.object "java/lang/Void")], none⟩ := by decide +kernel
theorem pd_9 : parseMethodDescriptor "([C)V" = some ⟨[(.array .char)], none⟩ := by decide +kernel
theorem pd_10 : parseMethodDescriptor "(C)Ljava/lang/String;" = some ⟨[.char], some (.object "java/lang/String")⟩ := by decide +kernel
theorem pd_11 : parseMethodDescriptor "(II)Ljava/lang/String;" = some ⟨[.int, .int], some (.object "java/lang/String")⟩ := by decide +kernel
theorem pd_12 : parseMethodDescriptor "(I)Lcom/example/portcullis/portcullis/util/HostPort;" = some ⟨[.int], some (.object "com/example/portcullis/portcullis/util/HostPort")⟩ := by decide +kernel
theorem pd_13 : parseMethodDescriptor "()Ljava/lang/String;" = some ⟨[], some (.object "java/lang/String")⟩ := by decide +kernel
theorem pd_14 : parseMethodDescriptor "(Ljava/lang/Object;)Z" = some ⟨[(.object "java/lang/Object")], some .boolean⟩ := by decide +kernel
theorem pd_15 : parseMethodDescriptor "()I" = some ⟨[], some .int⟩ := by decide +kernel

/-- the chars laid by the law's helper -/
def own_cs (a b d : Int32) (q : Nat) : Int32 := if q = 0 then nar .char a else if q = 1 then nar .char b else nar .char d
theorem ef_rm9 (m : MethodId) (x0 : Addr) : entryFrame m #[(.ref x0)] 1 = mkF m 0 #[.val (.ref x0)] [] := by first | (simp [entryFrame, mkF, argsToLocals, Value.category]; done) | rfl
def Q_rm9 (Z : State) (a1 : Addr) (h0 : Heap) (n0 : Nat) (v : Option Value) (h : Heap) (L : List Loc) : Prop := v = none ∧ Fr n0 L ∧ h = h0
set_option maxRecDepth 65536 in
set_option maxHeartbeats 40000000 in
theorem rm9 (l : Launch) (Z : State) (a0 : Array Value) (hw : ∀ d ∈ tables_1, d.before a0 Z = true) (ws : List Jvm.Cond) (a1 : Addr) (h0 : Heap) (n0 : Nat) (Z0 : n0 ≤ h0.size)  :
    MetFree l (⟨"java/lang/Record", "<init>", "()V"⟩ : MethodName) (head1 (Jvm.Cond.code (⟨"java/lang/Record", "<init>", "()V"⟩ : MethodName) jdk_30_method_1_code 1 none :: ws) ({ frames := 1, cells := 0, slots := 0, locals := 12 } : Room)) (fun a U => a = #[(.ref a1)] ∧ Z.Warmed39 U.vm ∧ U.heap = h0) (fun _ _ _ _ _ => True) (fun _ U o U' => ∃ v L, o = .returned v ∧ Q_rm9 Z a1 h0 n0 v U'.heap L ∧ FrameEnd U o U' L ({ frames := 1, cells := 0, slots := 0, locals := 12 } : Room).cells ({ frames := 1, cells := 0, slots := 0, locals := 12 } : Room).slots) := by
  refine MetFree.of_bodySF (plainFor_of_name pn_0) hisR ?_
  intro p e s m args below meth c s₁ Bd hml0 hP hK
  obtain ⟨rfl, hZ, hh⟩ := hP
  have hx := Bd.exec
  have hby := Bd.bytes
  have hml : c.maxLocals = 1 := hml0
  have hown : s.vm.findClass "java/lang/Record" = some m.cls := findClass_of_methodNamed Bd.named
  have hnm := (name_of_methodNamed Bd.named Bd.method).1
  have X0 : Stand p l e ({ frames := 1, cells := 0, slots := 0, locals := 12 } : Room) s m #[(.ref a1)] below meth c s₁ [] 0 0 := Stand.of_body Bd
  have e0 : s₁.heap = h0 := by rw [← hh, Bd.state]; rfl
  have N0 := Fr.nil n0
  have pre0 : ∀ t, Steps p.tables e below (s₁.setTop (mkF m 0 #[.val (.ref a1)] [])) t → Steps p.tables e below (s₁.setTop (entryFrame m #[(.ref a1)] 1)) t := fun t k => castTop (ef_rm9 m a1) k
  have S1 : ∀ t, Steps p.tables e below (s₁.setTop (mkF m 1 #[.val (.ref a1)] [(.ref a1)])) t → Steps p.tables e below (s₁.setTop (mkF m 0 #[.val (.ref a1)] [])) t := by
    intro t kt
    show Steps p.tables e below (s₁.setTop (mkF m 0 #[.val (.ref a1)] [])) _
    refine XS.aloadN X0.here hx rfl (hb hby d9_0) rfl rfl ?_
    exact kt
  obtain ⟨T2, X2, e2, st2⟩ := initO X0 hx hZ hown (hw _ (List.mem_of_getElem? (i := 46) rfl)) (hw _ (List.mem_of_getElem? (i := 16) rfl)) (hw _ (List.mem_of_getElem? (i := 17) rfl)) e0 (g := (mkF m 1 #[.val (.ref a1)] [(.ref a1)])) rfl (by rw [hml]; rfl) rfl (hb hby d9_1) (by decide) (W := 0) (by show 2 * 0 + _ ≤ _; exact Nat.le_of_eq rfl) (by decide)
  have C3 : ∀ t, Steps p.tables e below (T2.setTop (mkF m 4 #[.val (.ref a1)] [])) t → Steps p.tables e below (s₁.setTop (mkF m 0 #[.val (.ref a1)] [])) t := (fun t k => (S1 t (st2 t k)))
  obtain ⟨fs, hr, hrun, hended, hW, hsame⟩ := X2.leave (v := none) (fun _ => rfl)
  refine ⟨_, _, pre0 _ (C3 _ ?_), hrun, hended, _, _, rfl, ?_, ⟨_, rfl⟩, hW, hsame.mono (by decide) (by decide)⟩
  · exact X2.returnOut hx Bd.returns (hb hby d9_4) hr
  · show Q_rm9 Z a1 h0 n0 _ T2.heap _
    rw [e2]
    exact ⟨rfl, N0, rfl⟩
theorem ef_rm8 (m : MethodId) (x0 : Addr) (x1 : Addr) (x2 : Int32) : entryFrame m #[(.ref x0), (.ref x1), (.int x2)] 3 = mkF m 0 #[.val (.ref x0), .val (.ref x1), .val (.int x2)] [] := by first | (simp [entryFrame, mkF, argsToLocals, Value.category]; done) | rfl
def Q_rm8 (Z : State) (a1 : Addr) (t1 : Addr) (p1 : Int32) (h0 : Heap) (n0 : Nat) (v : Option Value) (h : Heap) (L : List Loc) : Prop := v = none ∧ Fr n0 L ∧ Keep h0 h [a1] ∧ Fld Z h a1 "com/example/portcullis/portcullis/util/HostPort" "host" "Ljava/lang/String;" (.ref t1) ∧ Fld Z h a1 "com/example/portcullis/portcullis/util/HostPort" "port" "I" (.int p1)
set_option maxRecDepth 65536 in
set_option maxHeartbeats 40000000 in
theorem rm8 (l : Launch) (Z : State) (a0 : Array Value) (hw : ∀ d ∈ tables_1, d.before a0 Z = true) (ws : List Jvm.Cond) (a1 : Addr) (t1 : Addr) (p1 : Int32) (h0 : Heap) (n0 : Nat) (Z0 : n0 ≤ h0.size) (F4 : Exa Z h0 a1 "com/example/portcullis/portcullis/util/HostPort") (F5 : Fld Z h0 a1 "com/example/portcullis/portcullis/util/HostPort" "host" "Ljava/lang/String;" .null) (F6 : Fld Z h0 a1 "com/example/portcullis/portcullis/util/HostPort" "port" "I" (.int (0 : Int32))) (g_a1 : n0 ≤ a1) :
    MetFree l (⟨"com/example/portcullis/portcullis/util/HostPort", "<init>", "(Ljava/lang/String;I)V"⟩ : MethodName) (head1 (Jvm.Cond.code (⟨"com/example/portcullis/portcullis/util/HostPort", "<init>", "(Ljava/lang/String;I)V"⟩ : MethodName) prog_27_method_1_code 3 none :: ws) ({ frames := 2, cells := 0, slots := 0, locals := 24 } : Room)) (fun a U => a = #[(.ref a1), (.ref t1), (.int p1)] ∧ Z.Warmed39 U.vm ∧ U.heap = h0) (fun _ _ _ _ _ => True) (fun _ U o U' => ∃ v L, o = .returned v ∧ Q_rm8 Z a1 t1 p1 h0 n0 v U'.heap L ∧ FrameEnd U o U' L ({ frames := 2, cells := 0, slots := 0, locals := 24 } : Room).cells ({ frames := 2, cells := 0, slots := 0, locals := 24 } : Room).slots) := by
  refine MetFree.of_bodySF (plainFor_of_name pn_1) hisR ?_
  intro p e s m args below meth c s₁ Bd hml0 hP hK
  obtain ⟨rfl, hZ, hh⟩ := hP
  have hx := Bd.exec
  have hby := Bd.bytes
  have hml : c.maxLocals = 3 := hml0
  have hown : s.vm.findClass "com/example/portcullis/portcullis/util/HostPort" = some m.cls := findClass_of_methodNamed Bd.named
  have hnm := (name_of_methodNamed Bd.named Bd.method).1
  have X0 : Stand p l e ({ frames := 2, cells := 0, slots := 0, locals := 24 } : Room) s m #[(.ref a1), (.ref t1), (.int p1)] below meth c s₁ [] 0 0 := Stand.of_body Bd
  have e0 : s₁.heap = h0 := by rw [← hh, Bd.state]; rfl
  have N0 := Fr.nil n0
  have pre0 : ∀ t, Steps p.tables e below (s₁.setTop (mkF m 0 #[.val (.ref a1), .val (.ref t1), .val (.int p1)] [])) t → Steps p.tables e below (s₁.setTop (entryFrame m #[(.ref a1), (.ref t1), (.int p1)] 3)) t := fun t k => castTop (ef_rm8 m a1 t1 p1) k
  have S7 : ∀ t, Steps p.tables e below (s₁.setTop (mkF m 1 #[.val (.ref a1), .val (.ref t1), .val (.int p1)] [(.ref a1)])) t → Steps p.tables e below (s₁.setTop (mkF m 0 #[.val (.ref a1), .val (.ref t1), .val (.int p1)] [])) t := by
    intro t kt
    show Steps p.tables e below (s₁.setTop (mkF m 0 #[.val (.ref a1), .val (.ref t1), .val (.int p1)] [])) _
    refine XS.aloadN X0.here hx rfl (hb hby d8_0) rfl rfl ?_
    exact kt
  obtain ⟨_, _, ⟨T8, L8, k8, n8⟩, -, X8, ⟨Lc8, hQ8, l8, y8, z8⟩, st8⟩ := X0.specialBack hx (y := (⟨"java/lang/Record", "<init>", "()V"⟩ : MethodName)) rfl hown (mvT hZ (hw _ (List.mem_of_getElem? (i := 41) rfl))) (mvT hZ (hw _ (List.mem_of_getElem? (i := 42) rfl))) (mvT hZ (hw _ (List.mem_of_getElem? (i := 45) rfl))) (by decide) (backOf (W := 0) (rm9 l Z a0 hw [] a1 h0 n0 Z0 ) hZ (hw _ (List.mem_of_getElem? (i := 45) rfl)) (hw _ (List.mem_of_getElem? (i := 44) rfl)) (by decide) (by decide)) (g := (mkF m 1 #[.val (.ref a1), .val (.ref t1), .val (.int p1)] [(.ref a1)])) rfl (by rw [hml]; rfl) (Steps.refl _) (a := a1) (argsL := []) (rest := []) (lenOf pd_0 rfl) rfl (by show 2 * 0 + _ ≤ _; exact Nat.le_of_eq rfl) (hb hby d8_1) (fun _ _ => ⟨rfl, e0, (by decide : 0 + 0 ≤ _), (by decide : 0 + 0 ≤ _)⟩)
  dsimp only [Pt.U, Pt.locs, Pt.cells, Pt.slots] at X8 l8 y8 z8 st8 hQ8
  subst l8 y8 z8
  obtain ⟨rfl, N8q, e8⟩ := hQ8
  have N8 := Fr.app N0 N8q
  have S9 : ∀ t, Steps p.tables e below (T8.setTop (mkF m 6 #[.val (.ref a1), .val (.ref t1), .val (.int p1)] [(.ref t1), (.ref a1)])) t → Steps p.tables e below (T8.setTop (mkF m 4 #[.val (.ref a1), .val (.ref t1), .val (.int p1)] [])) t := by
    intro t kt
    show Steps p.tables e below (T8.setTop (mkF m 4 #[.val (.ref a1), .val (.ref t1), .val (.int p1)] [])) _
    refine XS.aloadN X8.here hx rfl (hb hby d8_4) rfl rfl ?_
    show Steps p.tables e below (T8.setTop (mkF m 5 #[.val (.ref a1), .val (.ref t1), .val (.int p1)] [(.ref a1)])) _
    refine XS.aloadN X8.here hx rfl (hb hby d8_5) rfl rfl ?_
    exact kt
  obtain ⟨T10, h10, X10, e10, W10, st10⟩ := putF X8 hx hZ hown (host := "") (Or.inl (hw _ (List.mem_of_getElem? (i := 47) rfl))) Via.refl e8 F5 F4 (Or.inr ⟨(hw _ (List.mem_of_getElem? (i := 48) rfl)), rfl, hnm⟩) (hw _ (List.mem_of_getElem? (i := 36) rfl)) (ty := (.object "java/lang/String")) (by decide) rfl rfl (g := (mkF m 6 #[.val (.ref a1), .val (.ref t1), .val (.int p1)] [(.ref t1), (.ref a1)])) rfl rfl (hb hby d8_6)
  have z11 : n0 ≤ h10.size := Nat.le_trans Z0 (Keep.of_wr W10).1
  have N12 := Fr.snoc X10 N8 g_a1
  have Fw10 := F5.same W10
  have S13 : ∀ t, Steps p.tables e below (T10.setTop (mkF m 11 #[.val (.ref a1), .val (.ref t1), .val (.int p1)] [(.int p1), (.ref a1)])) t → Steps p.tables e below (T10.setTop (mkF m 9 #[.val (.ref a1), .val (.ref t1), .val (.int p1)] [])) t := by
    intro t kt
    show Steps p.tables e below (T10.setTop (mkF m 9 #[.val (.ref a1), .val (.ref t1), .val (.int p1)] [])) _
    refine XS.aloadN X10.here hx rfl (hb hby d8_9) rfl rfl ?_
    show Steps p.tables e below (T10.setTop (mkF m 10 #[.val (.ref a1), .val (.ref t1), .val (.int p1)] [(.ref a1)])) _
    refine XS.iloadN X10.here hx rfl (hb hby d8_10) rfl ?_
    exact kt
  have f14 := (F6.other W10 (Or.inr (slot_ne (Or.inr (hw _ (List.mem_of_getElem? (i := 50) rfl))) (Or.inr (hw _ (List.mem_of_getElem? (i := 48) rfl))) (by decide) (t := .int) (t' := (.object "java/lang/String")) (by decide) (by decide))))
  have f15 := (F4.wr W10)
  obtain ⟨T16, h16, X16, e16, W16, st16⟩ := putF X10 hx hZ hown (host := "") (Or.inl (hw _ (List.mem_of_getElem? (i := 49) rfl))) Via.refl e10 f14 f15 (Or.inr ⟨(hw _ (List.mem_of_getElem? (i := 50) rfl)), rfl, hnm⟩) (hw _ (List.mem_of_getElem? (i := 36) rfl)) (ty := .int) (by decide) rfl rfl (g := (mkF m 11 #[.val (.ref a1), .val (.ref t1), .val (.int p1)] [(.int p1), (.ref a1)])) rfl rfl (hb hby d8_11)
  have z17 : n0 ≤ h16.size := Nat.le_trans z11 (Keep.of_wr W16).1
  have N18 := Fr.snoc X16 N12 g_a1
  have Fw16 := f14.same W16
  have C19 : ∀ t, Steps p.tables e below (T16.setTop (mkF m 14 #[.val (.ref a1), .val (.ref t1), .val (.int p1)] [])) t → Steps p.tables e below (s₁.setTop (mkF m 0 #[.val (.ref a1), .val (.ref t1), .val (.int p1)] [])) t := (fun t k => (S7 t (st8.trans (S9 t (st10 t (S13 t (st16 t k)))))))
  obtain ⟨fs, hr, hrun, hended, hW, hsame⟩ := X16.leave (v := none) (fun _ => rfl)
  refine ⟨_, _, pre0 _ (C19 _ ?_), hrun, hended, _, _, rfl, ?_, ⟨_, rfl⟩, hW, hsame.mono (by decide) (by decide)⟩
  · exact X16.returnOut hx Bd.returns (hb hby d8_14) hr
  · show Q_rm8 Z a1 t1 p1 h0 n0 _ T16.heap _
    rw [e16]
    have f20 := (Fw10.other W16 (Or.inr (slot_ne (Or.inr (hw _ (List.mem_of_getElem? (i := 48) rfl))) (Or.inr (hw _ (List.mem_of_getElem? (i := 50) rfl))) (by decide) (t := (.object "java/lang/String")) (t' := .int) (by decide) (by decide))))
    exact ⟨rfl, N18, (((Keep.refl h0 [a1]).wr W10 (Or.inl (List.mem_of_getElem? (i := 0) rfl))).wr W16 (Or.inl (List.mem_of_getElem? (i := 0) rfl))), f20, Fw16⟩
theorem ef_rm10 (m : MethodId) (x0 : Addr) (x1 : Int32) : entryFrame m #[(.ref x0), (.int x1)] 2 = mkF m 0 #[.val (.ref x0), .val (.int x1)] [] := by first | (simp [entryFrame, mkF, argsToLocals, Value.category]; done) | rfl
def Q_rm10 (Z : State) (a1 : Addr) (t1 : Addr) (p1 : Int32) (h0 : Heap) (n0 : Nat) (v : Option Value) (h : Heap) (L : List Loc) : Prop := ∃ b : Addr, v = some (.ref b) ∧ Fr n0 L ∧ Keep h0 h [] ∧ Exa Z h b "com/example/portcullis/portcullis/util/HostPort" ∧ Fld Z h b "com/example/portcullis/portcullis/util/HostPort" "host" "Ljava/lang/String;" (.ref t1) ∧ Fld Z h b "com/example/portcullis/portcullis/util/HostPort" "port" "I" (.int p1)
set_option maxRecDepth 65536 in
set_option maxHeartbeats 40000000 in
theorem rm10 (l : Launch) (Z : State) (a0 : Array Value) (hw : ∀ d ∈ tables_1, d.before a0 Z = true) (ws : List Jvm.Cond) (a1 : Addr) (t1 : Addr) (p1 : Int32) (h0 : Heap) (n0 : Nat) (Z0 : n0 ≤ h0.size) (F21 : Fld Z h0 a1 "com/example/portcullis/portcullis/util/HostPort" "host" "Ljava/lang/String;" (.ref t1)) :
    MetFree l (⟨"com/example/portcullis/portcullis/util/HostPort", "withPort", "(I)Lcom/example/portcullis/portcullis/util/HostPort;"⟩ : MethodName) (head1 (Jvm.Cond.code (⟨"com/example/portcullis/portcullis/util/HostPort", "withPort", "(I)Lcom/example/portcullis/portcullis/util/HostPort;"⟩ : MethodName) prog_27_method_3_code 2 (some (.object "com/example/portcullis/portcullis/util/HostPort")) :: ws) ({ frames := 3, cells := 1, slots := 2, locals := 39 } : Room)) (fun a U => a = #[(.ref a1), (.int p1)] ∧ Z.Warmed39 U.vm ∧ U.heap = h0) (fun _ _ _ _ _ => True) (fun _ U o U' => ∃ v L, o = .returned v ∧ Q_rm10 Z a1 t1 p1 h0 n0 v U'.heap L ∧ FrameEnd U o U' L ({ frames := 3, cells := 1, slots := 2, locals := 39 } : Room).cells ({ frames := 3, cells := 1, slots := 2, locals := 39 } : Room).slots) := by
  refine MetFree.of_bodySF (plainFor_of_name pn_1) hisR ?_
  intro p e s m args below meth c s₁ Bd hml0 hP hK
  obtain ⟨rfl, hZ, hh⟩ := hP
  have hx := Bd.exec
  have hby := Bd.bytes
  have hml : c.maxLocals = 2 := hml0
  have hown : s.vm.findClass "com/example/portcullis/portcullis/util/HostPort" = some m.cls := findClass_of_methodNamed Bd.named
  have hnm := (name_of_methodNamed Bd.named Bd.method).1
  have X0 : Stand p l e ({ frames := 3, cells := 1, slots := 2, locals := 39 } : Room) s m #[(.ref a1), (.int p1)] below meth c s₁ [] 0 0 := Stand.of_body Bd
  have e0 : s₁.heap = h0 := by rw [← hh, Bd.state]; rfl
  have N0 := Fr.nil n0
  have pre0 : ∀ t, Steps p.tables e below (s₁.setTop (mkF m 0 #[.val (.ref a1), .val (.int p1)] [])) t → Steps p.tables e below (s₁.setTop (entryFrame m #[(.ref a1), (.int p1)] 2)) t := fun t k => castTop (ef_rm10 m a1 p1) k
  obtain ⟨T22, h22, X22, e22, E22, A22, D22, -, st22⟩ := newO X0 hx hZ hown (hw _ (List.mem_of_getElem? (i := 56) rfl)) (hw _ (List.mem_of_getElem? (i := 36) rfl)) (hw _ (List.mem_of_getElem? (i := 37) rfl)) e0 (g := (mkF m 0 #[.val (.ref a1), .val (.int p1)] [])) rfl (hb hby d10_0) (by decide) (by decide)
  obtain ⟨b22, g22⟩ : ∃ z, z = h0.size := ⟨_, rfl⟩
  rw [← g22] at A22 D22 st22
  have g_b22 : n0 ≤ b22 := Nat.le_trans Z0 (Nat.le_of_eq g22.symm)
  have K23 := (Keep.refl h0 [])
  have sz_b22 : h0.size ≤ b22 := Nat.le_trans K23.1 (Nat.le_of_eq g22.symm)
  have ne_a1_b22 : a1 ≠ b22 := Nat.ne_of_lt (Nat.lt_of_lt_of_le F21.lt (Nat.le_of_eq g22.symm))
  have z24 : n0 ≤ h22.size := Nat.le_trans Z0 E22.1
  have F25 : Fld Z h22 b22 "com/example/portcullis/portcullis/util/HostPort" "host" "Ljava/lang/String;" .null := D22 (Or.inr (hw _ (List.mem_of_getElem? (i := 48) rfl))) (ty := (.object "java/lang/String")) (by decide)
  have F26 : Fld Z h22 b22 "com/example/portcullis/portcullis/util/HostPort" "port" "I" (.int (0 : Int32)) := D22 (Or.inr (hw _ (List.mem_of_getElem? (i := 50) rfl))) (ty := .int) (by decide)
  have S27 : ∀ t, Steps p.tables e below (T22.setTop (mkF m 5 #[.val (.ref a1), .val (.int p1)] [(.ref a1), (.ref b22), (.ref b22)])) t → Steps p.tables e below (T22.setTop (mkF m 3 #[.val (.ref a1), .val (.int p1)] [(.ref b22)])) t := by
    intro t kt
    show Steps p.tables e below (T22.setTop (mkF m 3 #[.val (.ref a1), .val (.int p1)] [(.ref b22)])) _
    refine XS.dup X22.here hx rfl (hb hby d10_3) rfl rfl ?_
    show Steps p.tables e below (T22.setTop (mkF m 4 #[.val (.ref a1), .val (.int p1)] [(.ref b22), (.ref b22)])) _
    refine XS.aloadN X22.here hx rfl (hb hby d10_4) rfl rfl ?_
    exact kt
  have f28 := (F21.ext E22)
  obtain ⟨T29, X29, e29, st29⟩ := getF X22 hx hZ hown (host := "") (Or.inl (hw _ (List.mem_of_getElem? (i := 47) rfl))) Via.refl e22 f28 (g := (mkF m 5 #[.val (.ref a1), .val (.int p1)] [(.ref a1), (.ref b22), (.ref b22)])) rfl rfl (hb hby d10_5)
  have S30 : ∀ t, Steps p.tables e below (T29.setTop (mkF m 9 #[.val (.ref a1), .val (.int p1)] [(.int p1), (.ref t1), (.ref b22), (.ref b22)])) t → Steps p.tables e below (T29.setTop (mkF m 8 #[.val (.ref a1), .val (.int p1)] [(.ref t1), (.ref b22), (.ref b22)])) t := by
    intro t kt
    show Steps p.tables e below (T29.setTop (mkF m 8 #[.val (.ref a1), .val (.int p1)] [(.ref t1), (.ref b22), (.ref b22)])) _
    refine XS.iloadN X29.here hx rfl (hb hby d10_8) rfl ?_
    exact kt
  obtain ⟨_, _, ⟨T31, L31, k31, n31⟩, -, X31, ⟨Lc31, hQ31, l31, y31, z31⟩, st31⟩ := X29.specialBack hx (y := (⟨"com/example/portcullis/portcullis/util/HostPort", "<init>", "(Ljava/lang/String;I)V"⟩ : MethodName)) rfl hown (mvT hZ (hw _ (List.mem_of_getElem? (i := 57) rfl))) (mvT hZ (hw _ (List.mem_of_getElem? (i := 39) rfl))) (mvT hZ (hw _ (List.mem_of_getElem? (i := 40) rfl))) (by decide) (backOf (W := 1) (rm8 l Z a0 hw [] b22 t1 p1 h22 n0 z24 A22 F25 F26 g_b22) hZ (hw _ (List.mem_of_getElem? (i := 40) rfl)) (hw _ (List.mem_of_getElem? (i := 37) rfl)) (by decide) (by decide)) (g := (mkF m 9 #[.val (.ref a1), .val (.int p1)] [(.int p1), (.ref t1), (.ref b22), (.ref b22)])) rfl (by rw [hml]; rfl) (Steps.refl _) (a := b22) (argsL := [(.ref t1), (.int p1)]) (rest := [(.ref b22)]) (lenOf pd_1 rfl) rfl (by show 2 * 0 + _ ≤ _; exact Nat.le_of_eq rfl) (hb hby d10_9) (fun _ _ => ⟨rfl, e29, (by decide : 1 + 0 ≤ _), (by decide : 2 + 0 ≤ _)⟩)
  dsimp only [Pt.U, Pt.locs, Pt.cells, Pt.slots] at X31 l31 y31 z31 st31 hQ31
  subst l31 y31 z31
  obtain ⟨h31, e31⟩ : ∃ z, T31.heap = z := ⟨_, rfl⟩
  rw [e31] at hQ31
  obtain ⟨rfl, N31q, K31q, F32, F33⟩ := hQ31
  have z34 : n0 ≤ h31.size := Nat.le_trans z24 K31q.1
  have N31 := Fr.app N0 N31q
  have C35 : ∀ t, Steps p.tables e below (T31.setTop (mkF m 12 #[.val (.ref a1), .val (.int p1)] [(.ref b22)])) t → Steps p.tables e below (s₁.setTop (mkF m 0 #[.val (.ref a1), .val (.int p1)] [])) t := (fun t k => (st22 t (S27 t (st29 t (S30 t (st31.trans k))))))
  obtain ⟨fs, hr, hrun, hended, hW, hsame⟩ := X31.leave (v := some (.ref b22)) (fun h => by rw [Bd.returns] at h; cases h)
  refine ⟨_, _, pre0 _ (C35 _ ?_), hrun, hended, _, _, rfl, ?_, ⟨_, rfl⟩, hW, hsame.mono (by decide) (by decide)⟩
  · exact retOut X31 hx Bd.returns rfl (Or.inr (Or.inr (Or.inr (Or.inr ⟨rfl, rfl, rfl⟩)))) (hb hby d10_12) hr
  · show Q_rm10 Z a1 t1 p1 h0 n0 _ T31.heap _
    rw [e31]
    have f36 := (A22.keep K31q)
    exact ⟨_, rfl, N31, ((K23.ext E22).trans K31q (allS (Or.inr sz_b22) all0)), f36, F32, F33⟩
theorem ef_rm11 (m : MethodId) (x0 : Addr) : entryFrame m #[(.ref x0)] 1 = mkF m 0 #[.val (.ref x0)] [] := by first | (simp [entryFrame, mkF, argsToLocals, Value.category]; done) | rfl
def Q_rm11 (Z : State) (a1 : Addr) (t1 : Addr) (h0 : Heap) (n0 : Nat) (v : Option Value) (h : Heap) (L : List Loc) : Prop := v = some (.ref t1) ∧ Fr n0 L ∧ h = h0
set_option maxRecDepth 65536 in
set_option maxHeartbeats 40000000 in
theorem rm11 (l : Launch) (Z : State) (a0 : Array Value) (hw : ∀ d ∈ tables_1, d.before a0 Z = true) (ws : List Jvm.Cond) (a1 : Addr) (t1 : Addr) (h0 : Heap) (n0 : Nat) (Z0 : n0 ≤ h0.size) (F37 : Fld Z h0 a1 "com/example/portcullis/portcullis/util/HostPort" "host" "Ljava/lang/String;" (.ref t1)) :
    MetFree l (⟨"com/example/portcullis/portcullis/util/HostPort", "host", "()Ljava/lang/String;"⟩ : MethodName) (head1 (Jvm.Cond.code (⟨"com/example/portcullis/portcullis/util/HostPort", "host", "()Ljava/lang/String;"⟩ : MethodName) prog_27_method_7_code 1 (some (.object "java/lang/String")) :: ws) ({ frames := 0, cells := 0, slots := 0, locals := 0 } : Room)) (fun a U => a = #[(.ref a1)] ∧ Z.Warmed39 U.vm ∧ U.heap = h0) (fun _ _ _ _ _ => True) (fun _ U o U' => ∃ v L, o = .returned v ∧ Q_rm11 Z a1 t1 h0 n0 v U'.heap L ∧ FrameEnd U o U' L ({ frames := 0, cells := 0, slots := 0, locals := 0 } : Room).cells ({ frames := 0, cells := 0, slots := 0, locals := 0 } : Room).slots) := by
  refine MetFree.of_bodySF (plainFor_of_name pn_1) hisR ?_
  intro p e s m args below meth c s₁ Bd hml0 hP hK
  obtain ⟨rfl, hZ, hh⟩ := hP
  have hx := Bd.exec
  have hby := Bd.bytes
  have hml : c.maxLocals = 1 := hml0
  have hown : s.vm.findClass "com/example/portcullis/portcullis/util/HostPort" = some m.cls := findClass_of_methodNamed Bd.named
  have hnm := (name_of_methodNamed Bd.named Bd.method).1
  have X0 : Stand p l e ({ frames := 0, cells := 0, slots := 0, locals := 0 } : Room) s m #[(.ref a1)] below meth c s₁ [] 0 0 := Stand.of_body Bd
  have e0 : s₁.heap = h0 := by rw [← hh, Bd.state]; rfl
  have N0 := Fr.nil n0
  have pre0 : ∀ t, Steps p.tables e below (s₁.setTop (mkF m 0 #[.val (.ref a1)] [])) t → Steps p.tables e below (s₁.setTop (entryFrame m #[(.ref a1)] 1)) t := fun t k => castTop (ef_rm11 m a1) k
  have S38 : ∀ t, Steps p.tables e below (s₁.setTop (mkF m 1 #[.val (.ref a1)] [(.ref a1)])) t → Steps p.tables e below (s₁.setTop (mkF m 0 #[.val (.ref a1)] [])) t := by
    intro t kt
    show Steps p.tables e below (s₁.setTop (mkF m 0 #[.val (.ref a1)] [])) _
    refine XS.aloadN X0.here hx rfl (hb hby d11_0) rfl rfl ?_
    exact kt
  obtain ⟨T39, X39, e39, st39⟩ := getF X0 hx hZ hown (host := "") (Or.inl (hw _ (List.mem_of_getElem? (i := 47) rfl))) Via.refl e0 F37 (g := (mkF m 1 #[.val (.ref a1)] [(.ref a1)])) rfl rfl (hb hby d11_1)
  have C40 : ∀ t, Steps p.tables e below (T39.setTop (mkF m 4 #[.val (.ref a1)] [(.ref t1)])) t → Steps p.tables e below (s₁.setTop (mkF m 0 #[.val (.ref a1)] [])) t := (fun t k => (S38 t (st39 t k)))
  obtain ⟨fs, hr, hrun, hended, hW, hsame⟩ := X39.leave (v := some (.ref t1)) (fun h => by rw [Bd.returns] at h; cases h)
  refine ⟨_, _, pre0 _ (C40 _ ?_), hrun, hended, _, _, rfl, ?_, ⟨_, rfl⟩, hW, hsame.mono (by decide) (by decide)⟩
  · exact retOut X39 hx Bd.returns rfl (Or.inr (Or.inr (Or.inr (Or.inr ⟨rfl, rfl, rfl⟩)))) (hb hby d11_4) hr
  · show Q_rm11 Z a1 t1 h0 n0 _ T39.heap _
    rw [e39]
    exact ⟨rfl, N0, rfl⟩
theorem ef_rm13 (m : MethodId) (x0 : Addr) : entryFrame m #[(.ref x0)] 1 = mkF m 0 #[.val (.ref x0)] [] := by first | (simp [entryFrame, mkF, argsToLocals, Value.category]; done) | rfl
def Q_rm13 (Z : State) (a1 : Addr) (p1 : Int32) (h0 : Heap) (n0 : Nat) (v : Option Value) (h : Heap) (L : List Loc) : Prop := v = some (.int p1) ∧ Fr n0 L ∧ h = h0
set_option maxRecDepth 65536 in
set_option maxHeartbeats 40000000 in
theorem rm13 (l : Launch) (Z : State) (a0 : Array Value) (hw : ∀ d ∈ tables_1, d.before a0 Z = true) (ws : List Jvm.Cond) (a1 : Addr) (p1 : Int32) (h0 : Heap) (n0 : Nat) (Z0 : n0 ≤ h0.size) (F41 : Fld Z h0 a1 "com/example/portcullis/portcullis/util/HostPort" "port" "I" (.int p1)) :
    MetFree l (⟨"com/example/portcullis/portcullis/util/HostPort", "port", "()I"⟩ : MethodName) (head1 (Jvm.Cond.code (⟨"com/example/portcullis/portcullis/util/HostPort", "port", "()I"⟩ : MethodName) prog_27_method_8_code 1 (some .int) :: ws) ({ frames := 0, cells := 0, slots := 0, locals := 0 } : Room)) (fun a U => a = #[(.ref a1)] ∧ Z.Warmed39 U.vm ∧ U.heap = h0) (fun _ _ _ _ _ => True) (fun _ U o U' => ∃ v L, o = .returned v ∧ Q_rm13 Z a1 p1 h0 n0 v U'.heap L ∧ FrameEnd U o U' L ({ frames := 0, cells := 0, slots := 0, locals := 0 } : Room).cells ({ frames := 0, cells := 0, slots := 0, locals := 0 } : Room).slots) := by
  refine MetFree.of_bodySF (plainFor_of_name pn_1) hisR ?_
  intro p e s m args below meth c s₁ Bd hml0 hP hK
  obtain ⟨rfl, hZ, hh⟩ := hP
  have hx := Bd.exec
  have hby := Bd.bytes
  have hml : c.maxLocals = 1 := hml0
  have hown : s.vm.findClass "com/example/portcullis/portcullis/util/HostPort" = some m.cls := findClass_of_methodNamed Bd.named
  have hnm := (name_of_methodNamed Bd.named Bd.method).1
  have X0 : Stand p l e ({ frames := 0, cells := 0, slots := 0, locals := 0 } : Room) s m #[(.ref a1)] below meth c s₁ [] 0 0 := Stand.of_body Bd
  have e0 : s₁.heap = h0 := by rw [← hh, Bd.state]; rfl
  have N0 := Fr.nil n0
  have pre0 : ∀ t, Steps p.tables e below (s₁.setTop (mkF m 0 #[.val (.ref a1)] [])) t → Steps p.tables e below (s₁.setTop (entryFrame m #[(.ref a1)] 1)) t := fun t k => castTop (ef_rm13 m a1) k
  have S42 : ∀ t, Steps p.tables e below (s₁.setTop (mkF m 1 #[.val (.ref a1)] [(.ref a1)])) t → Steps p.tables e below (s₁.setTop (mkF m 0 #[.val (.ref a1)] [])) t := by
    intro t kt
    show Steps p.tables e below (s₁.setTop (mkF m 0 #[.val (.ref a1)] [])) _
    refine XS.aloadN X0.here hx rfl (hb hby d13_0) rfl rfl ?_
    exact kt
  obtain ⟨T43, X43, e43, st43⟩ := getF X0 hx hZ hown (host := "") (Or.inl (hw _ (List.mem_of_getElem? (i := 49) rfl))) Via.refl e0 F41 (g := (mkF m 1 #[.val (.ref a1)] [(.ref a1)])) rfl rfl (hb hby d13_1)
  have C44 : ∀ t, Steps p.tables e below (T43.setTop (mkF m 4 #[.val (.ref a1)] [(.int p1)])) t → Steps p.tables e below (s₁.setTop (mkF m 0 #[.val (.ref a1)] [])) t := (fun t k => (S42 t (st43 t k)))
  obtain ⟨fs, hr, hrun, hended, hW, hsame⟩ := X43.leave (v := some (.int p1)) (fun h => by rw [Bd.returns] at h; cases h)
  refine ⟨_, _, pre0 _ (C44 _ ?_), hrun, hended, _, _, rfl, ?_, ⟨_, rfl⟩, hW, hsame.mono (by decide) (by decide)⟩
  · exact retOut X43 hx (t := .int) Bd.returns rfl (Or.inl ⟨rfl, Or.inl rfl, _, rfl⟩) (hb hby d13_4) hr
  · show Q_rm13 Z a1 p1 h0 n0 _ T43.heap _
    rw [e43]
    exact ⟨rfl, N0, rfl⟩
theorem ef_rm12 (m : MethodId) (x0 : Addr) (x1 : Addr) : entryFrame m #[(.ref x0), (.ref x1)] 3 = mkF m 0 #[.val (.ref x0), .val (.ref x1), .unset] [] := by first | (simp [entryFrame, mkF, argsToLocals, Value.category]; done) | rfl
def Q_rm12 (Z : State) (a1 : Addr) (h0 : Heap) (n0 : Nat) (v : Option Value) (h : Heap) (L : List Loc) : Prop := v = some (.int 1) ∧ Fr n0 L ∧ h = h0
set_option maxRecDepth 65536 in
set_option maxHeartbeats 40000000 in
theorem rm12 (l : Launch) (Z : State) (a0 : Array Value) (hw : ∀ d ∈ tables_1, d.before a0 Z = true) (ws : List Jvm.Cond) (a1 : Addr) (h0 : Heap) (n0 : Nat) (Z0 : n0 ≤ h0.size)  :
    MetFree l (⟨"java/lang/String", "equals", "(Ljava/lang/Object;)Z"⟩ : MethodName) (head1 (Jvm.Cond.code (⟨"java/lang/String", "equals", "(Ljava/lang/Object;)Z"⟩ : MethodName) jdk_42_method_66_code 3 (some .boolean) :: ws) ({ frames := 0, cells := 0, slots := 0, locals := 0 } : Room)) (fun a U => a = #[(.ref a1), (.ref a1)] ∧ Z.Warmed39 U.vm ∧ U.heap = h0) (fun _ _ _ _ _ => True) (fun _ U o U' => ∃ v L, o = .returned v ∧ Q_rm12 Z a1 h0 n0 v U'.heap L ∧ FrameEnd U o U' L ({ frames := 0, cells := 0, slots := 0, locals := 0 } : Room).cells ({ frames := 0, cells := 0, slots := 0, locals := 0 } : Room).slots) := by
  refine MetFree.of_bodySF (plainFor_of_name pn_2) hisR ?_
  intro p e s m args below meth c s₁ Bd hml0 hP hK
  obtain ⟨rfl, hZ, hh⟩ := hP
  have hx := Bd.exec
  have hby := Bd.bytes
  have hml : c.maxLocals = 3 := hml0
  have hown : s.vm.findClass "java/lang/String" = some m.cls := findClass_of_methodNamed Bd.named
  have hnm := (name_of_methodNamed Bd.named Bd.method).1
  have X0 : Stand p l e ({ frames := 0, cells := 0, slots := 0, locals := 0 } : Room) s m #[(.ref a1), (.ref a1)] below meth c s₁ [] 0 0 := Stand.of_body Bd
  have e0 : s₁.heap = h0 := by rw [← hh, Bd.state]; rfl
  have N0 := Fr.nil n0
  have pre0 : ∀ t, Steps p.tables e below (s₁.setTop (mkF m 0 #[.val (.ref a1), .val (.ref a1), .unset] [])) t → Steps p.tables e below (s₁.setTop (entryFrame m #[(.ref a1), (.ref a1)] 3)) t := fun t k => castTop (ef_rm12 m a1 a1) k
  have S45 : ∀ t, Steps p.tables e below (s₁.setTop (mkF m 6 #[.val (.ref a1), .val (.ref a1), .unset] [(.int (1 : Int32))])) t → Steps p.tables e below (s₁.setTop (mkF m 0 #[.val (.ref a1), .val (.ref a1), .unset] [])) t := by
    intro t kt
    show Steps p.tables e below (s₁.setTop (mkF m 0 #[.val (.ref a1), .val (.ref a1), .unset] [])) _
    refine XS.aloadN X0.here hx rfl (hb hby d12_0) rfl rfl ?_
    show Steps p.tables e below (s₁.setTop (mkF m 1 #[.val (.ref a1), .val (.ref a1), .unset] [(.ref a1)])) _
    refine XS.aloadN X0.here hx rfl (hb hby d12_1) rfl rfl ?_
    show Steps p.tables e below (s₁.setTop (mkF m 2 #[.val (.ref a1), .val (.ref a1), .unset] [(.ref a1), (.ref a1)])) _
    refine Jvm.RoadKit.acmp (g := (mkF m 2 #[.val (.ref a1), .val (.ref a1), .unset] [(.ref a1), (.ref a1)])) X0 hx rfl rfl rfl (pc0 := 2) (pc' := 5) (same := true) rfl (hb hby d12_2) rfl (decide_eq_true rfl) (by decide) (by decide) ?_
    show Steps p.tables e below (s₁.setTop (mkF m 5 #[.val (.ref a1), .val (.ref a1), .unset] [])) _
    refine XS.iconst X0.here hx rfl (hb hby d12_5) ?_
    exact kt
  have C46 : ∀ t, Steps p.tables e below (s₁.setTop (mkF m 6 #[.val (.ref a1), .val (.ref a1), .unset] [(.int (1 : Int32))])) t → Steps p.tables e below (s₁.setTop (mkF m 0 #[.val (.ref a1), .val (.ref a1), .unset] [])) t := (fun t k => (S45 t k))
  obtain ⟨fs, hr, hrun, hended, hW, hsame⟩ := X0.leave (v := some (.int (1 : Int32))) (fun h => by rw [Bd.returns] at h; cases h)
  refine ⟨_, _, pre0 _ (C46 _ ?_), hrun, hended, _, _, rfl, ?_, ⟨_, rfl⟩, hW, hsame.mono (by decide) (by decide)⟩
  · exact retN X0 hx (t := .boolean) Bd.returns (by simp) (hb hby d12_6) hr
  · show Q_rm12 Z a1 h0 n0 _ s₁.heap _
    rw [e0]
    exact ⟨rfl, N0, rfl⟩
theorem ef_rm15 (m : MethodId) (x0 : Int32) : entryFrame m #[(.int x0)] 1 = mkF m 0 #[.val (.int x0)] [] := by first | (simp [entryFrame, mkF, argsToLocals, Value.category]; done) | rfl
def Q_rm15 (Z : State) (c1 : Int32) (h0 : Heap) (n0 : Nat) (v : Option Value) (h : Heap) (L : List Loc) : Prop := v = some (.int 1) ∧ Fr n0 L ∧ h = h0
set_option maxRecDepth 65536 in
set_option maxHeartbeats 40000000 in
theorem rm15 (l : Launch) (Z : State) (a0 : Array Value) (hw : ∀ d ∈ tables_1, d.before a0 Z = true) (ws : List Jvm.Cond) (c1 : Int32) (h0 : Heap) (n0 : Nat) (Z0 : n0 ≤ h0.size) (hc : ¬ (255 : Int32) < c1) :
    MetFree l (⟨"java/lang/StringLatin1", "canEncode", "(C)Z"⟩ : MethodName) (head1 (Jvm.Cond.code (⟨"java/lang/StringLatin1", "canEncode", "(C)Z"⟩ : MethodName) jdk_43_method_3_code 1 (some .boolean) :: ws) ({ frames := 0, cells := 0, slots := 0, locals := 0 } : Room)) (fun a U => a = #[(.int c1)] ∧ Z.Warmed39 U.vm ∧ U.heap = h0) (fun _ _ _ _ _ => True) (fun _ U o U' => ∃ v L, o = .returned v ∧ Q_rm15 Z c1 h0 n0 v U'.heap L ∧ FrameEnd U o U' L ({ frames := 0, cells := 0, slots := 0, locals := 0 } : Room).cells ({ frames := 0, cells := 0, slots := 0, locals := 0 } : Room).slots) := by
  refine MetFree.of_bodySF (plainFor_of_name pn_3) hisR ?_
  intro p e s m args below meth c s₁ Bd hml0 hP hK
  obtain ⟨rfl, hZ, hh⟩ := hP
  have hx := Bd.exec
  have hby := Bd.bytes
  have hml : c.maxLocals = 1 := hml0
  have hown : s.vm.findClass "java/lang/StringLatin1" = some m.cls := findClass_of_methodNamed Bd.named
  have hnm := (name_of_methodNamed Bd.named Bd.method).1
  have X0 : Stand p l e ({ frames := 0, cells := 0, slots := 0, locals := 0 } : Room) s m #[(.int c1)] below meth c s₁ [] 0 0 := Stand.of_body Bd
  have e0 : s₁.heap = h0 := by rw [← hh, Bd.state]; rfl
  have N0 := Fr.nil n0
  have pre0 : ∀ t, Steps p.tables e below (s₁.setTop (mkF m 0 #[.val (.int c1)] [])) t → Steps p.tables e below (s₁.setTop (entryFrame m #[(.int c1)] 1)) t := fun t k => castTop (ef_rm15 m c1) k
  have S47 : ∀ t, Steps p.tables e below (s₁.setTop (mkF m 12 #[.val (.int c1)] [(.int (1 : Int32))])) t → Steps p.tables e below (s₁.setTop (mkF m 0 #[.val (.int c1)] [])) t := by
    intro t kt
    show Steps p.tables e below (s₁.setTop (mkF m 0 #[.val (.int c1)] [])) _
    refine XS.iloadN X0.here hx rfl (hb hby d15_0) rfl ?_
    show Steps p.tables e below (s₁.setTop (mkF m 1 #[.val (.int c1)] [(.int c1)])) _
    refine XS.sipush X0.here hx rfl (hb hby d15_1) ?_
    show Steps p.tables e below (s₁.setTop (mkF m 4 #[.val (.int c1)] [(.int (255 : Int32)), (.int c1)])) _
    refine XS.icmpNo X0.here hx rfl (hb hby d15_4) rfl (flt hc).2.2.1 ?_
    show Steps p.tables e below (s₁.setTop (mkF m 7 #[.val (.int c1)] [])) _
    refine XS.iconst X0.here hx rfl (hb hby d15_7) ?_
    show Steps p.tables e below (s₁.setTop (mkF m 8 #[.val (.int c1)] [(.int (1 : Int32))])) _
    refine XS.goto X0.here hx rfl (pc0 := 8) (pc' := 12) rfl (hb hby d15_8) (by decide) (by decide) ?_
    exact kt
  have C48 : ∀ t, Steps p.tables e below (s₁.setTop (mkF m 12 #[.val (.int c1)] [(.int (1 : Int32))])) t → Steps p.tables e below (s₁.setTop (mkF m 0 #[.val (.int c1)] [])) t := (fun t k => (S47 t k))
  obtain ⟨fs, hr, hrun, hended, hW, hsame⟩ := X0.leave (v := some (.int (1 : Int32))) (fun h => by rw [Bd.returns] at h; cases h)
  refine ⟨_, _, pre0 _ (C48 _ ?_), hrun, hended, _, _, rfl, ?_, ⟨_, rfl⟩, hW, hsame.mono (by decide) (by decide)⟩
  · exact retN X0 hx (t := .boolean) Bd.returns (by simp) (hb hby d15_12) hr
  · show Q_rm15 Z c1 h0 n0 _ s₁.heap _
    rw [e0]
    exact ⟨rfl, N0, rfl⟩
theorem ef_rm16 (m : MethodId) (x0 : Int32) : entryFrame m #[(.int x0)] 1 = mkF m 0 #[.val (.int x0)] [] := by first | (simp [entryFrame, mkF, argsToLocals, Value.category]; done) | rfl
def Q_rm16 (Z : State) (c1 : Int32) (h0 : Heap) (n0 : Nat) (v : Option Value) (h : Heap) (L : List Loc) : Prop := ∃ b : Addr, v = some (.ref b) ∧ Fr n0 L ∧ Keep h0 h []
set_option maxRecDepth 65536 in
set_option maxHeartbeats 40000000 in
theorem rm16 (l : Launch) (Z : State) (a0 : Array Value) (hw : ∀ d ∈ tables_1, d.before a0 Z = true) (ws : List Jvm.Cond) (c1 : Int32) (h0 : Heap) (n0 : Nat) (Z0 : n0 ≤ h0.size)  :
    MetFree l (⟨"java/lang/StringLatin1", "toBytes", "(C)[B"⟩ : MethodName) (head1 (Jvm.Cond.code (⟨"java/lang/StringLatin1", "toBytes", "(C)[B"⟩ : MethodName) jdk_43_method_46_code 1 (some (.array .byte)) :: ws) ({ frames := 0, cells := 1, slots := 1, locals := 0 } : Room)) (fun a U => a = #[(.int c1)] ∧ Z.Warmed39 U.vm ∧ U.heap = h0) (fun _ _ _ _ _ => True) (fun _ U o U' => ∃ v L, o = .returned v ∧ Q_rm16 Z c1 h0 n0 v U'.heap L ∧ FrameEnd U o U' L ({ frames := 0, cells := 1, slots := 1, locals := 0 } : Room).cells ({ frames := 0, cells := 1, slots := 1, locals := 0 } : Room).slots) := by
  refine MetFree.of_bodySF (plainFor_of_name pn_3) hisR ?_
  intro p e s m args below meth c s₁ Bd hml0 hP hK
  obtain ⟨rfl, hZ, hh⟩ := hP
  have hx := Bd.exec
  have hby := Bd.bytes
  have hml : c.maxLocals = 1 := hml0
  have hown : s.vm.findClass "java/lang/StringLatin1" = some m.cls := findClass_of_methodNamed Bd.named
  have hnm := (name_of_methodNamed Bd.named Bd.method).1
  have X0 : Stand p l e ({ frames := 0, cells := 1, slots := 1, locals := 0 } : Room) s m #[(.int c1)] below meth c s₁ [] 0 0 := Stand.of_body Bd
  have e0 : s₁.heap = h0 := by rw [← hh, Bd.state]; rfl
  have N0 := Fr.nil n0
  have pre0 : ∀ t, Steps p.tables e below (s₁.setTop (mkF m 0 #[.val (.int c1)] [])) t → Steps p.tables e below (s₁.setTop (entryFrame m #[(.int c1)] 1)) t := fun t k => castTop (ef_rm16 m c1) k
  have S49 : ∀ t, Steps p.tables e below (s₁.setTop (mkF m 1 #[.val (.int c1)] [(.int (1 : Int32))])) t → Steps p.tables e below (s₁.setTop (mkF m 0 #[.val (.int c1)] [])) t := by
    intro t kt
    show Steps p.tables e below (s₁.setTop (mkF m 0 #[.val (.int c1)] [])) _
    refine XS.iconst X0.here hx rfl (hb hby d16_0) ?_
    exact kt
  obtain ⟨T50, h50, k50, X50, e50, E50, A50, st50⟩ := newP X0 hx hZ (hw _ (List.mem_of_getElem? (i := 23) rfl)) e0 (g := (mkF m 1 #[.val (.int c1)] [(.int (1 : Int32))])) rfl (hb hby d16_1) rfl (by decide) (cap := 1) (by decide) (by decide) (by decide) (by decide)
  obtain ⟨b50, g50⟩ : ∃ z, z = h0.size := ⟨_, rfl⟩
  rw [← g50] at A50 st50
  have g_b50 : n0 ≤ b50 := Nat.le_trans Z0 (Nat.le_of_eq g50.symm)
  have K51 := (Keep.refl h0 [])
  have sz_b50 : h0.size ≤ b50 := Nat.le_trans K51.1 (Nat.le_of_eq g50.symm)
  have z52 : n0 ≤ h50.size := Nat.le_trans Z0 E50.1
  have V50 : ArF Z h50 b50 .byte 1 (fun _ => (.int (0 : Int32))) := ArF.new A50 (by decide) rfl
  have S53 : ∀ t, Steps p.tables e below (T50.setTop (mkF m 7 #[.val (.int c1)] [(.int (c1.toInt8.toInt32)), (.int (0 : Int32)), (.ref b50), (.ref b50)])) t → Steps p.tables e below (T50.setTop (mkF m 3 #[.val (.int c1)] [(.ref b50)])) t := by
    intro t kt
    show Steps p.tables e below (T50.setTop (mkF m 3 #[.val (.int c1)] [(.ref b50)])) _
    refine XS.dup X50.here hx rfl (hb hby d16_3) rfl rfl ?_
    show Steps p.tables e below (T50.setTop (mkF m 4 #[.val (.int c1)] [(.ref b50), (.ref b50)])) _
    refine XS.iconst X50.here hx rfl (hb hby d16_4) ?_
    show Steps p.tables e below (T50.setTop (mkF m 5 #[.val (.int c1)] [(.int (0 : Int32)), (.ref b50), (.ref b50)])) _
    refine XS.iloadN X50.here hx rfl (hb hby d16_5) rfl ?_
    show Steps p.tables e below (T50.setTop (mkF m 6 #[.val (.int c1)] [(.int c1), (.int (0 : Int32)), (.ref b50), (.ref b50)])) _
    refine XS.i2b X50.here hx rfl (hb hby d16_6) rfl ?_
    exact kt
  obtain ⟨T54, h54, X54, e54, W54, V54, st54⟩ := ArF.stB X50 hx hZ e50 V50 (i := 0) (by decide) (by decide) (g := (mkF m 7 #[.val (.int c1)] [(.int (c1.toInt8.toInt32)), (.int (0 : Int32)), (.ref b50), (.ref b50)])) rfl rfl (hb hby d16_7)
  have z55 : n0 ≤ h54.size := Nat.le_trans z52 (Keep.of_wr W54).1
  have N56 := Fr.snoc X54 N0 g_b50
  have C57 : ∀ t, Steps p.tables e below (T54.setTop (mkF m 8 #[.val (.int c1)] [(.ref b50)])) t → Steps p.tables e below (s₁.setTop (mkF m 0 #[.val (.int c1)] [])) t := (fun t k => (S49 t (st50 t (S53 t (st54 t k)))))
  obtain ⟨fs, hr, hrun, hended, hW, hsame⟩ := X54.leave (v := some (.ref b50)) (fun h => by rw [Bd.returns] at h; cases h)
  refine ⟨_, _, pre0 _ (C57 _ ?_), hrun, hended, _, _, rfl, ?_, ⟨_, rfl⟩, hW, hsame.mono (by decide) (by decide)⟩
  · exact retOut X54 hx Bd.returns rfl (Or.inr (Or.inr (Or.inr (Or.inr ⟨rfl, rfl, rfl⟩)))) (hb hby d16_8) hr
  · show Q_rm16 Z c1 h0 n0 _ T54.heap _
    rw [e54]
    exact ⟨_, rfl, N56, ((K51.ext E50).wr W54 (Or.inr sz_b50))⟩
theorem ef_rm17 (m : MethodId) (x0 : Addr) (x1 : Addr) (x2 : Int32) : entryFrame m #[(.ref x0), (.ref x1), (.int x2)] 3 = mkF m 0 #[.val (.ref x0), .val (.ref x1), .val (.int x2)] [] := by first | (simp [entryFrame, mkF, argsToLocals, Value.category]; done) | rfl
def Q_rm17 (Z : State) (a1 : Addr) (t1 : Addr) (h0 : Heap) (n0 : Nat) (v : Option Value) (h : Heap) (L : List Loc) : Prop := v = none ∧ Fr n0 L ∧ Keep h0 h [a1]
set_option maxRecDepth 65536 in
set_option maxHeartbeats 40000000 in
theorem rm17 (l : Launch) (Z : State) (a0 : Array Value) (hw : ∀ d ∈ tables_1, d.before a0 Z = true) (ws : List Jvm.Cond) (a1 : Addr) (t1 : Addr) (h0 : Heap) (n0 : Nat) (Z0 : n0 ≤ h0.size) (F58 : Exa Z h0 a1 "java/lang/String") (F59 : Fld Z h0 a1 "java/lang/String" "value" "[B" .null) (F60 : Fld Z h0 a1 "java/lang/String" "coder" "B" (.int (0 : Int32))) (g_a1 : n0 ≤ a1) :
    MetFree l (⟨"java/lang/String", "<init>", "([BB)V"⟩ : MethodName) (head1 (Jvm.Cond.code (⟨"java/lang/String", "<init>", "([BB)V"⟩ : MethodName) jdk_42_method_151_code 3 none :: ws) ({ frames := 1, cells := 0, slots := 0, locals := 12 } : Room)) (fun a U => a = #[(.ref a1), (.ref t1), (.int (0 : Int32))] ∧ Z.Warmed39 U.vm ∧ U.heap = h0) (fun _ _ _ _ _ => True) (fun _ U o U' => ∃ v L, o = .returned v ∧ Q_rm17 Z a1 t1 h0 n0 v U'.heap L ∧ FrameEnd U o U' L ({ frames := 1, cells := 0, slots := 0, locals := 12 } : Room).cells ({ frames := 1, cells := 0, slots := 0, locals := 12 } : Room).slots) := by
  refine MetFree.of_bodySF (plainFor_of_name pn_2) hisR ?_
  intro p e s m args below meth c s₁ Bd hml0 hP hK
  obtain ⟨rfl, hZ, hh⟩ := hP
  have hx := Bd.exec
  have hby := Bd.bytes
  have hml : c.maxLocals = 3 := hml0
  have hown : s.vm.findClass "java/lang/String" = some m.cls := findClass_of_methodNamed Bd.named
  have hnm := (name_of_methodNamed Bd.named Bd.method).1
  have X0 : Stand p l e ({ frames := 1, cells := 0, slots := 0, locals := 12 } : Room) s m #[(.ref a1), (.ref t1), (.int (0 : Int32))] below meth c s₁ [] 0 0 := Stand.of_body Bd
  have e0 : s₁.heap = h0 := by rw [← hh, Bd.state]; rfl
  have N0 := Fr.nil n0
  have pre0 : ∀ t, Steps p.tables e below (s₁.setTop (mkF m 0 #[.val (.ref a1), .val (.ref t1), .val (.int (0 : Int32))] [])) t → Steps p.tables e below (s₁.setTop (entryFrame m #[(.ref a1), (.ref t1), (.int (0 : Int32))] 3)) t := fun t k => castTop (ef_rm17 m a1 t1 (0 : Int32)) k
  have S61 : ∀ t, Steps p.tables e below (s₁.setTop (mkF m 1 #[.val (.ref a1), .val (.ref t1), .val (.int (0 : Int32))] [(.ref a1)])) t → Steps p.tables e below (s₁.setTop (mkF m 0 #[.val (.ref a1), .val (.ref t1), .val (.int (0 : Int32))] [])) t := by
    intro t kt
    show Steps p.tables e below (s₁.setTop (mkF m 0 #[.val (.ref a1), .val (.ref t1), .val (.int (0 : Int32))] [])) _
    refine XS.aloadN X0.here hx rfl (hb hby d17_0) rfl rfl ?_
    exact kt
  obtain ⟨T62, X62, e62, st62⟩ := initO X0 hx hZ hown (hw _ (List.mem_of_getElem? (i := 15) rfl)) (hw _ (List.mem_of_getElem? (i := 16) rfl)) (hw _ (List.mem_of_getElem? (i := 17) rfl)) e0 (g := (mkF m 1 #[.val (.ref a1), .val (.ref t1), .val (.int (0 : Int32))] [(.ref a1)])) rfl (by rw [hml]; rfl) rfl (hb hby d17_1) (by decide) (W := 0) (by show 2 * 0 + _ ≤ _; exact Nat.le_of_eq rfl) (by decide)
  have S63 : ∀ t, Steps p.tables e below (T62.setTop (mkF m 6 #[.val (.ref a1), .val (.ref t1), .val (.int (0 : Int32))] [(.ref t1), (.ref a1)])) t → Steps p.tables e below (T62.setTop (mkF m 4 #[.val (.ref a1), .val (.ref t1), .val (.int (0 : Int32))] [])) t := by
    intro t kt
    show Steps p.tables e below (T62.setTop (mkF m 4 #[.val (.ref a1), .val (.ref t1), .val (.int (0 : Int32))] [])) _
    refine XS.aloadN X62.here hx rfl (hb hby d17_4) rfl rfl ?_
    show Steps p.tables e below (T62.setTop (mkF m 5 #[.val (.ref a1), .val (.ref t1), .val (.int (0 : Int32))] [(.ref a1)])) _
    refine XS.aloadN X62.here hx rfl (hb hby d17_5) rfl rfl ?_
    exact kt
  obtain ⟨T64, h64, X64, e64, W64, st64⟩ := putF X62 hx hZ hown (host := "") (Or.inl (hw _ (List.mem_of_getElem? (i := 32) rfl))) Via.refl e62 F59 F58 (Or.inr ⟨(hw _ (List.mem_of_getElem? (i := 33) rfl)), rfl, hnm⟩) (hw _ (List.mem_of_getElem? (i := 6) rfl)) (ty := (.array .byte)) (by decide) rfl rfl (g := (mkF m 6 #[.val (.ref a1), .val (.ref t1), .val (.int (0 : Int32))] [(.ref t1), (.ref a1)])) rfl rfl (hb hby d17_6)
  have z65 : n0 ≤ h64.size := Nat.le_trans Z0 (Keep.of_wr W64).1
  have N66 := Fr.snoc X64 N0 g_a1
  have Fw64 := F59.same W64
  have S67 : ∀ t, Steps p.tables e below (T64.setTop (mkF m 11 #[.val (.ref a1), .val (.ref t1), .val (.int (0 : Int32))] [(.int (0 : Int32)), (.ref a1)])) t → Steps p.tables e below (T64.setTop (mkF m 9 #[.val (.ref a1), .val (.ref t1), .val (.int (0 : Int32))] [])) t := by
    intro t kt
    show Steps p.tables e below (T64.setTop (mkF m 9 #[.val (.ref a1), .val (.ref t1), .val (.int (0 : Int32))] [])) _
    refine XS.aloadN X64.here hx rfl (hb hby d17_9) rfl rfl ?_
    show Steps p.tables e below (T64.setTop (mkF m 10 #[.val (.ref a1), .val (.ref t1), .val (.int (0 : Int32))] [(.ref a1)])) _
    refine XS.iloadN X64.here hx rfl (hb hby d17_10) rfl ?_
    exact kt
  have f68 := (F60.other W64 (Or.inr (slot_ne (Or.inr (hw _ (List.mem_of_getElem? (i := 31) rfl))) (Or.inr (hw _ (List.mem_of_getElem? (i := 33) rfl))) (by decide) (t := .byte) (t' := (.array .byte)) (by decide) (by decide))))
  have f69 := (F58.wr W64)
  obtain ⟨T70, h70, X70, e70, W70, st70⟩ := putFN X64 hx hZ hown (hw _ (List.mem_of_getElem? (i := 30) rfl)) Via.refl e64 f68 f69 (Or.inr ⟨(hw _ (List.mem_of_getElem? (i := 31) rfl)), rfl, hnm⟩) (hw _ (List.mem_of_getElem? (i := 6) rfl)) (ty := .byte) (v' := (.int (0 : Int32))) (by decide) rfl rfl (g := (mkF m 11 #[.val (.ref a1), .val (.ref t1), .val (.int (0 : Int32))] [(.int (0 : Int32)), (.ref a1)])) rfl rfl (hb hby d17_11)
  have z71 : n0 ≤ h70.size := Nat.le_trans z65 (Keep.of_wr W70).1
  have N72 := Fr.snoc X70 N66 g_a1
  have Fw70 := f68.same W70
  have C73 : ∀ t, Steps p.tables e below (T70.setTop (mkF m 14 #[.val (.ref a1), .val (.ref t1), .val (.int (0 : Int32))] [])) t → Steps p.tables e below (s₁.setTop (mkF m 0 #[.val (.ref a1), .val (.ref t1), .val (.int (0 : Int32))] [])) t := (fun t k => (S61 t (st62 t (S63 t (st64 t (S67 t (st70 t k)))))))
  obtain ⟨fs, hr, hrun, hended, hW, hsame⟩ := X70.leave (v := none) (fun _ => rfl)
  refine ⟨_, _, pre0 _ (C73 _ ?_), hrun, hended, _, _, rfl, ?_, ⟨_, rfl⟩, hW, hsame.mono (by decide) (by decide)⟩
  · exact X70.returnOut hx Bd.returns (hb hby d17_14) hr
  · show Q_rm17 Z a1 t1 h0 n0 _ T70.heap _
    rw [e70]
    exact ⟨rfl, N72, (((Keep.refl h0 [a1]).wr W64 (Or.inl (List.mem_of_getElem? (i := 0) rfl))).wr W70 (Or.inl (List.mem_of_getElem? (i := 0) rfl)))⟩
theorem ef_rm14 (m : MethodId) (x0 : Int32) : entryFrame m #[(.int x0)] 1 = mkF m 0 #[.val (.int x0)] [] := by first | (simp [entryFrame, mkF, argsToLocals, Value.category]; done) | rfl
def Q_rm14 (Z : State) (c1 : Int32) (zc : Int32) (h0 : Heap) (n0 : Nat) (v : Option Value) (h : Heap) (L : List Loc) : Prop := ∃ b : Addr, v = some (.ref b) ∧ Fr n0 L ∧ Keep h0 h [] ∧ Exa Z h b "java/lang/String"
set_option maxRecDepth 65536 in
set_option maxHeartbeats 40000000 in
theorem rm14 (l : Launch) (Z : State) (a0 : Array Value) (hw : ∀ d ∈ tables_1, d.before a0 Z = true) (ws : List Jvm.Cond) (c1 : Int32) (zc : Int32) (h0 : Heap) (n0 : Nat) (Z0 : n0 ≤ h0.size) (O : Old Z n0 h0) (HS : Sta Z Z.heap "java/lang/String" "COMPACT_STRINGS" "Z" (.int zc)) (hzc : ¬ zc = (0 : Int32)) (hc : ¬ (255 : Int32) < c1) :
    MetFree l (⟨"java/lang/String", "valueOf", "(C)Ljava/lang/String;"⟩ : MethodName) (head1 (Jvm.Cond.code (⟨"java/lang/String", "valueOf", "(C)Ljava/lang/String;"⟩ : MethodName) jdk_42_method_139_code 1 (some (.object "java/lang/String")) :: ws) ({ frames := 2, cells := 2, slots := 5, locals := 27 } : Room)) (fun a U => a = #[(.int c1)] ∧ Z.Warmed39 U.vm ∧ U.heap = h0) (fun _ _ _ _ _ => True) (fun _ U o U' => ∃ v L, o = .returned v ∧ Q_rm14 Z c1 zc h0 n0 v U'.heap L ∧ FrameEnd U o U' L ({ frames := 2, cells := 2, slots := 5, locals := 27 } : Room).cells ({ frames := 2, cells := 2, slots := 5, locals := 27 } : Room).slots) := by
  refine MetFree.of_bodySF (plainFor_of_name pn_2) hisR ?_
  intro p e s m args below meth c s₁ Bd hml0 hP hK
  obtain ⟨rfl, hZ, hh⟩ := hP
  have hx := Bd.exec
  have hby := Bd.bytes
  have hml : c.maxLocals = 1 := hml0
  have hown : s.vm.findClass "java/lang/String" = some m.cls := findClass_of_methodNamed Bd.named
  have hnm := (name_of_methodNamed Bd.named Bd.method).1
  have X0 : Stand p l e ({ frames := 2, cells := 2, slots := 5, locals := 27 } : Room) s m #[(.int c1)] below meth c s₁ [] 0 0 := Stand.of_body Bd
  have e0 : s₁.heap = h0 := by rw [← hh, Bd.state]; rfl
  have N0 := Fr.nil n0
  have pre0 : ∀ t, Steps p.tables e below (s₁.setTop (mkF m 0 #[.val (.int c1)] [])) t → Steps p.tables e below (s₁.setTop (entryFrame m #[(.int c1)] 1)) t := fun t k => castTop (ef_rm14 m c1) k
  have hS0 := Sta.ext O.2 HS
  obtain ⟨T75, X75, e75, st75⟩ := getS2 X0 hx hZ hown (host := "") (Or.inl (hw _ (List.mem_of_getElem? (i := 18) rfl))) Via.refl e0 hS0 (g := (mkF m 0 #[.val (.int c1)] [])) rfl (hb hby d14_0)
  have S76 : ∀ t, Steps p.tables e below (T75.setTop (mkF m 7 #[.val (.int c1)] [(.int c1)])) t → Steps p.tables e below (T75.setTop (mkF m 3 #[.val (.int c1)] [(.int zc)])) t := by
    intro t kt
    show Steps p.tables e below (T75.setTop (mkF m 3 #[.val (.int c1)] [(.int zc)])) _
    refine XS.ifNo X75.here hx rfl (hb hby d14_3) rfl ((if0 _ _).trans (feq hzc).1) ?_
    show Steps p.tables e below (T75.setTop (mkF m 6 #[.val (.int c1)] [])) _
    refine XS.iloadN X75.here hx rfl (hb hby d14_6) rfl ?_
    exact kt
  obtain ⟨_, _, ⟨T77, L77, k77, n77⟩, -, X77, ⟨Lc77, hQ77, l77, y77, z77⟩, st77⟩ := Jvm.LawKit.callS X75 hx (y := (⟨"java/lang/StringLatin1", "canEncode", "(C)Z"⟩ : MethodName)) hown (mvT hZ (hw _ (List.mem_of_getElem? (i := 79) rfl))) (mvT hZ (hw _ (List.mem_of_getElem? (i := 80) rfl))) (mvT hZ (hw _ (List.mem_of_getElem? (i := 81) rfl))) (mvT hZ (hw _ (List.mem_of_getElem? (i := 82) rfl))) (by decide) (backOf (W := 0) (rm15 l Z a0 hw [] c1 h0 n0 Z0 hc) hZ (hw _ (List.mem_of_getElem? (i := 82) rfl)) (hw _ (List.mem_of_getElem? (i := 81) rfl)) (by decide) (by decide)) (g := (mkF m 7 #[.val (.int c1)] [(.int c1)])) rfl (by rw [hml]; rfl) (argsL := [(.int c1)]) (rest := []) (lenOf pd_2 rfl) rfl (by show 2 * 0 + _ ≤ _; exact Nat.le_of_eq rfl) (hb hby d14_7) (fun _ _ => ⟨rfl, e75, (by decide : 0 + 0 ≤ _), (by decide : 0 + 0 ≤ _)⟩)
  dsimp only [Pt.U, Pt.locs, Pt.cells, Pt.slots] at X77 l77 y77 z77 st77 hQ77
  subst l77 y77 z77
  obtain ⟨rfl, N77q, e77⟩ := hQ77
  have N77 := Fr.app N0 N77q
  have S78 : ∀ t, Steps p.tables e below (T77.setTop (mkF m 13 #[.val (.int c1)] [])) t → Steps p.tables e below (T77.setTop (mkF m 10 #[.val (.int c1)] [(.int (1 : Int32))])) t := by
    intro t kt
    show Steps p.tables e below (T77.setTop (mkF m 10 #[.val (.int c1)] [(.int (1 : Int32))])) _
    refine XS.ifNo X77.here hx rfl (hb hby d14_10) rfl ((if0 _ _).trans (feq (by decide)).1) ?_
    exact kt
  obtain ⟨T79, h79, X79, e79, E79, A79, D79, -, st79⟩ := newO X77 hx hZ hown (hw _ (List.mem_of_getElem? (i := 83) rfl)) (hw _ (List.mem_of_getElem? (i := 6) rfl)) (hw _ (List.mem_of_getElem? (i := 7) rfl)) e77 (g := (mkF m 13 #[.val (.int c1)] [])) rfl (hb hby d14_13) (by decide) (by decide)
  obtain ⟨b79, g79⟩ : ∃ z, z = h0.size := ⟨_, rfl⟩
  rw [← g79] at A79 D79 st79
  have g_b79 : n0 ≤ b79 := Nat.le_trans Z0 (Nat.le_of_eq g79.symm)
  have K80 := (Keep.refl h0 [])
  have sz_b79 : h0.size ≤ b79 := Nat.le_trans K80.1 (Nat.le_of_eq g79.symm)
  have z81 : n0 ≤ h79.size := Nat.le_trans Z0 E79.1
  have F82 : Fld Z h79 b79 "java/lang/String" "coder" "B" (.int (0 : Int32)) := D79 (Or.inr (hw _ (List.mem_of_getElem? (i := 31) rfl))) (ty := .byte) (by decide)
  have F83 : Fld Z h79 b79 "java/lang/String" "value" "[B" .null := D79 (Or.inr (hw _ (List.mem_of_getElem? (i := 33) rfl))) (ty := (.array .byte)) (by decide)
  have S84 : ∀ t, Steps p.tables e below (T79.setTop (mkF m 18 #[.val (.int c1)] [(.int c1), (.ref b79), (.ref b79)])) t → Steps p.tables e below (T79.setTop (mkF m 16 #[.val (.int c1)] [(.ref b79)])) t := by
    intro t kt
    show Steps p.tables e below (T79.setTop (mkF m 16 #[.val (.int c1)] [(.ref b79)])) _
    refine XS.dup X79.here hx rfl (hb hby d14_16) rfl rfl ?_
    show Steps p.tables e below (T79.setTop (mkF m 17 #[.val (.int c1)] [(.ref b79), (.ref b79)])) _
    refine XS.iloadN X79.here hx rfl (hb hby d14_17) rfl ?_
    exact kt
  obtain ⟨_, _, ⟨T85, L85, k85, n85⟩, -, X85, ⟨Lc85, hQ85, l85, y85, z85⟩, st85⟩ := Jvm.LawKit.callS X79 hx (y := (⟨"java/lang/StringLatin1", "toBytes", "(C)[B"⟩ : MethodName)) hown (mvT hZ (hw _ (List.mem_of_getElem? (i := 84) rfl))) (mvT hZ (hw _ (List.mem_of_getElem? (i := 85) rfl))) (mvT hZ (hw _ (List.mem_of_getElem? (i := 81) rfl))) (mvT hZ (hw _ (List.mem_of_getElem? (i := 86) rfl))) (by decide) (backOf (W := 2) (rm16 l Z a0 hw [] c1 h79 n0 z81 ) hZ (hw _ (List.mem_of_getElem? (i := 86) rfl)) (hw _ (List.mem_of_getElem? (i := 81) rfl)) (by decide) (by decide)) (g := (mkF m 18 #[.val (.int c1)] [(.int c1), (.ref b79), (.ref b79)])) rfl (by rw [hml]; rfl) (argsL := [(.int c1)]) (rest := [(.ref b79), (.ref b79)]) (lenOf pd_3 rfl) rfl (by show 2 * 0 + _ ≤ _; exact Nat.le_of_eq rfl) (hb hby d14_18) (fun _ _ => ⟨rfl, e79, (by decide : 1 + 1 ≤ _), (by decide : 4 + 1 ≤ _)⟩)
  dsimp only [Pt.U, Pt.locs, Pt.cells, Pt.slots] at X85 l85 y85 z85 st85 hQ85
  subst l85 y85 z85
  obtain ⟨h85, e85⟩ : ∃ z, T85.heap = z := ⟨_, rfl⟩
  rw [e85] at hQ85
  obtain ⟨b74, rfl, N85q, K85q⟩ := hQ85
  have z86 : n0 ≤ h85.size := Nat.le_trans z81 K85q.1
  have N85 := Fr.app N77 N85q
  have f87 := (A79.keep K85q)
  have f88 := (F83.keep K85q nin0)
  have f89 := (F82.keep K85q nin0)
  have S90 : ∀ t, Steps p.tables e below (T85.setTop (mkF m 22 #[.val (.int c1)] [(.int (0 : Int32)), (.ref b74), (.ref b79), (.ref b79)])) t → Steps p.tables e below (T85.setTop (mkF m 21 #[.val (.int c1)] [(.ref b74), (.ref b79), (.ref b79)])) t := by
    intro t kt
    show Steps p.tables e below (T85.setTop (mkF m 21 #[.val (.int c1)] [(.ref b74), (.ref b79), (.ref b79)])) _
    refine XS.iconst X85.here hx rfl (hb hby d14_21) ?_
    exact kt
  obtain ⟨_, _, ⟨T91, L91, k91, n91⟩, -, X91, ⟨Lc91, hQ91, l91, y91, z91⟩, st91⟩ := X85.specialBack hx (y := (⟨"java/lang/String", "<init>", "([BB)V"⟩ : MethodName)) rfl hown (mvT hZ (hw _ (List.mem_of_getElem? (i := 87) rfl))) (mvT hZ (hw _ (List.mem_of_getElem? (i := 88) rfl))) (mvT hZ (hw _ (List.mem_of_getElem? (i := 89) rfl))) (by decide) (backOf (W := 1) (rm17 l Z a0 hw [] b79 b74 h85 n0 z86 f87 f88 f89 g_b79) hZ (hw _ (List.mem_of_getElem? (i := 89) rfl)) (hw _ (List.mem_of_getElem? (i := 7) rfl)) (by decide) (by decide)) (g := (mkF m 22 #[.val (.int c1)] [(.int (0 : Int32)), (.ref b74), (.ref b79), (.ref b79)])) rfl (by rw [hml]; rfl) (Steps.refl _) (a := b79) (argsL := [(.ref b74), (.int (0 : Int32))]) (rest := [(.ref b79)]) (lenOf pd_4 rfl) rfl (by show 2 * 0 + _ ≤ _; exact Nat.le_of_eq rfl) (hb hby d14_22) (fun _ _ => ⟨rfl, e85, (by decide : 2 + 0 ≤ _), (by decide : 5 + 0 ≤ _)⟩)
  dsimp only [Pt.U, Pt.locs, Pt.cells, Pt.slots] at X91 l91 y91 z91 st91 hQ91
  subst l91 y91 z91
  obtain ⟨h91, e91⟩ : ∃ z, T91.heap = z := ⟨_, rfl⟩
  rw [e91] at hQ91
  obtain ⟨rfl, N91q, K91q⟩ := hQ91
  have z92 : n0 ≤ h91.size := Nat.le_trans z86 K91q.1
  have N91 := Fr.app N85 N91q
  have C93 : ∀ t, Steps p.tables e below (T91.setTop (mkF m 25 #[.val (.int c1)] [(.ref b79)])) t → Steps p.tables e below (s₁.setTop (mkF m 0 #[.val (.int c1)] [])) t := (fun t k => (st75 t (S76 t (st77 t (S78 t (st79 t (S84 t (st85 t (S90 t (st91.trans k))))))))))
  obtain ⟨fs, hr, hrun, hended, hW, hsame⟩ := X91.leave (v := some (.ref b79)) (fun h => by rw [Bd.returns] at h; cases h)
  refine ⟨_, _, pre0 _ (C93 _ ?_), hrun, hended, _, _, rfl, ?_, ⟨_, rfl⟩, hW, hsame.mono (by decide) (by decide)⟩
  · exact retOut X91 hx Bd.returns rfl (Or.inr (Or.inr (Or.inr (Or.inr ⟨rfl, rfl, rfl⟩)))) (hb hby d14_25) hr
  · show Q_rm14 Z c1 zc h0 n0 _ T91.heap _
    rw [e91]
    have f94 := (f87.keep K91q)
    exact ⟨_, rfl, N91, (((K80.ext E79).trans K85q all0).trans K91q (allS (Or.inr sz_b79) all0)), f94⟩
theorem ef_rm_k1_2 (m : MethodId) (x0 : Addr) (x1 : Int32) (x2 : Addr) (x3 : Int32) (x4 : Int32) : entryFrame m #[(.ref x0), (.int x1), (.ref x2), (.int x3), (.int x4)] 7 = mkF m 0 #[.val (.ref x0), .val (.int x1), .val (.ref x2), .val (.int x3), .val (.int x4), .unset, .unset] [] := by first | (simp [entryFrame, mkF, argsToLocals, Value.category]; done) | rfl
def Q_rm_k1_2 (Z : State) (t1 : Addr) (d1 : Addr) (cf : Nat → Int32) (df : Nat → Value) (h0 : Heap) (n0 : Nat) (v : Option Value) (h : Heap) (L : List Loc) : Prop := v = some (.int 2) ∧ Fr n0 L ∧ Keep h0 h [d1] ∧ ∃ g, ArF Z h d1 .byte 2 g
set_option maxRecDepth 65536 in
set_option maxHeartbeats 40000000 in
theorem rm_k1_2 (l : Launch) (Z : State) (a0 : Array Value) (hw : ∀ d ∈ tables_1, d.before a0 Z = true) (ws : List Jvm.Cond) (t1 : Addr) (d1 : Addr) (cf : Nat → Int32) (df : Nat → Value) (h0 : Heap) (n0 : Nat) (Z0 : n0 ≤ h0.size) (F95 : ArF Z h0 t1 .char 2 (fun q => (.int (cf q)))) (F96 : ArF Z h0 d1 .byte 2 df) (g_d1 : n0 ≤ d1) (ne_t1_d1 : t1 ≠ d1) (hcf : ∀ q, ¬ (255 : Int32) < cf q) :
    MetFree l (⟨"java/lang/StringUTF16", "compress", "([CI[BII)I"⟩ : MethodName) (head1 (Jvm.Cond.code (⟨"java/lang/StringUTF16", "compress", "([CI[BII)I"⟩ : MethodName) jdk_52_method_21_code 7 (some .int) :: ws) ({ frames := 0, cells := 0, slots := 0, locals := 0 } : Room)) (fun a U => a = #[(.ref t1), (.int (0 : Int32)), (.ref d1), (.int (0 : Int32)), (.int (2 : Int32))] ∧ Z.Warmed39 U.vm ∧ U.heap = h0) (fun _ _ _ _ _ => True) (fun _ U o U' => ∃ v L, o = .returned v ∧ Q_rm_k1_2 Z t1 d1 cf df h0 n0 v U'.heap L ∧ FrameEnd U o U' L ({ frames := 0, cells := 0, slots := 0, locals := 0 } : Room).cells ({ frames := 0, cells := 0, slots := 0, locals := 0 } : Room).slots) := by
  refine MetFree.of_bodySF (plainFor_of_name pn_4) hisR ?_
  intro p e s m args below meth c s₁ Bd hml0 hP hK
  obtain ⟨rfl, hZ, hh⟩ := hP
  have hx := Bd.exec
  have hby := Bd.bytes
  have hml : c.maxLocals = 7 := hml0
  have hown : s.vm.findClass "java/lang/StringUTF16" = some m.cls := findClass_of_methodNamed Bd.named
  have hnm := (name_of_methodNamed Bd.named Bd.method).1
  have X0 : Stand p l e ({ frames := 0, cells := 0, slots := 0, locals := 0 } : Room) s m #[(.ref t1), (.int (0 : Int32)), (.ref d1), (.int (0 : Int32)), (.int (2 : Int32))] below meth c s₁ [] 0 0 := Stand.of_body Bd
  have e0 : s₁.heap = h0 := by rw [← hh, Bd.state]; rfl
  have N0 := Fr.nil n0
  have pre0 : ∀ t, Steps p.tables e below (s₁.setTop (mkF m 0 #[.val (.ref t1), .val (.int (0 : Int32)), .val (.ref d1), .val (.int (0 : Int32)), .val (.int (2 : Int32)), .unset, .unset] [])) t → Steps p.tables e below (s₁.setTop (entryFrame m #[(.ref t1), (.int (0 : Int32)), (.ref d1), (.int (0 : Int32)), (.int (2 : Int32))] 7)) t := fun t k => castTop (ef_rm_k1_2 m t1 (0 : Int32) d1 (0 : Int32) (2 : Int32)) k
  have S97 : ∀ t, Steps p.tables e below (s₁.setTop (mkF m 31 #[.val (.ref t1), .val (.int (0 : Int32)), .val (.ref d1), .val (.int (0 : Int32)), .val (.int (2 : Int32)), .val (.int (0 : Int32)), .val (.int (cf 0))] [(.int ((cf 0).toInt8.toInt32)), (.int (0 : Int32)), (.ref d1)])) t → Steps p.tables e below (s₁.setTop (mkF m 0 #[.val (.ref t1), .val (.int (0 : Int32)), .val (.ref d1), .val (.int (0 : Int32)), .val (.int (2 : Int32)), .unset, .unset] [])) t := by
    intro t kt
    show Steps p.tables e below (s₁.setTop (mkF m 0 #[.val (.ref t1), .val (.int (0 : Int32)), .val (.ref d1), .val (.int (0 : Int32)), .val (.int (2 : Int32)), .unset, .unset] [])) _
    refine XS.iconst X0.here hx rfl (hb hby d6_0) ?_
    show Steps p.tables e below (s₁.setTop (mkF m 1 #[.val (.ref t1), .val (.int (0 : Int32)), .val (.ref d1), .val (.int (0 : Int32)), .val (.int (2 : Int32)), .unset, .unset] [(.int (0 : Int32))])) _
    refine XS.istore X0.here hx rfl (hb hby d6_1) rfl (l' := #[.val (.ref t1), .val (.int (0 : Int32)), .val (.ref d1), .val (.int (0 : Int32)), .val (.int (2 : Int32)), .val (.int (0 : Int32)), .unset]) rfl ?_
    show Steps p.tables e below (s₁.setTop (mkF m 3 #[.val (.ref t1), .val (.int (0 : Int32)), .val (.ref d1), .val (.int (0 : Int32)), .val (.int (2 : Int32)), .val (.int (0 : Int32)), .unset] [])) _
    refine XS.iload X0.here hx rfl (hb hby d6_3) rfl ?_
    show Steps p.tables e below (s₁.setTop (mkF m 5 #[.val (.ref t1), .val (.int (0 : Int32)), .val (.ref d1), .val (.int (0 : Int32)), .val (.int (2 : Int32)), .val (.int (0 : Int32)), .unset] [(.int (0 : Int32))])) _
    refine XS.iload X0.here hx rfl (hb hby d6_5) rfl ?_
    show Steps p.tables e below (s₁.setTop (mkF m 7 #[.val (.ref t1), .val (.int (0 : Int32)), .val (.ref d1), .val (.int (0 : Int32)), .val (.int (2 : Int32)), .val (.int (0 : Int32)), .unset] [(.int (2 : Int32)), (.int (0 : Int32))])) _
    refine XS.icmpNo X0.here hx rfl (hb hby d6_7) rfl (tlt (by decide)).2.1 ?_
    show Steps p.tables e below (s₁.setTop (mkF m 10 #[.val (.ref t1), .val (.int (0 : Int32)), .val (.ref d1), .val (.int (0 : Int32)), .val (.int (2 : Int32)), .val (.int (0 : Int32)), .unset] [])) _
    refine XS.aloadN X0.here hx rfl (hb hby d6_10) rfl rfl ?_
    show Steps p.tables e below (s₁.setTop (mkF m 11 #[.val (.ref t1), .val (.int (0 : Int32)), .val (.ref d1), .val (.int (0 : Int32)), .val (.int (2 : Int32)), .val (.int (0 : Int32)), .unset] [(.ref t1)])) _
    refine XS.iloadN X0.here hx rfl (hb hby d6_11) rfl ?_
    show Steps p.tables e below (s₁.setTop (mkF m 12 #[.val (.ref t1), .val (.int (0 : Int32)), .val (.ref d1), .val (.int (0 : Int32)), .val (.int (2 : Int32)), .val (.int (0 : Int32)), .unset] [(.int (0 : Int32)), (.ref t1)])) _
    refine ArF.ldC X0 hx hZ e0 F95 (i := 0) (by decide) (by decide) (v := (cf 0)) rfl (g := (mkF m 12 #[.val (.ref t1), .val (.int (0 : Int32)), .val (.ref d1), .val (.int (0 : Int32)), .val (.int (2 : Int32)), .val (.int (0 : Int32)), .unset] [(.int (0 : Int32)), (.ref t1)])) rfl rfl (hb hby d6_12) _ ?_
    show Steps p.tables e below (s₁.setTop (mkF m 13 #[.val (.ref t1), .val (.int (0 : Int32)), .val (.ref d1), .val (.int (0 : Int32)), .val (.int (2 : Int32)), .val (.int (0 : Int32)), .unset] [(.int (cf 0))])) _
    refine XS.istore X0.here hx rfl (hb hby d6_13) rfl (l' := #[.val (.ref t1), .val (.int (0 : Int32)), .val (.ref d1), .val (.int (0 : Int32)), .val (.int (2 : Int32)), .val (.int (0 : Int32)), .val (.int (cf 0))]) rfl ?_
    show Steps p.tables e below (s₁.setTop (mkF m 15 #[.val (.ref t1), .val (.int (0 : Int32)), .val (.ref d1), .val (.int (0 : Int32)), .val (.int (2 : Int32)), .val (.int (0 : Int32)), .val (.int (cf 0))] [])) _
    refine XS.iload X0.here hx rfl (hb hby d6_15) rfl ?_
    show Steps p.tables e below (s₁.setTop (mkF m 17 #[.val (.ref t1), .val (.int (0 : Int32)), .val (.ref d1), .val (.int (0 : Int32)), .val (.int (2 : Int32)), .val (.int (0 : Int32)), .val (.int (cf 0))] [(.int (cf 0))])) _
    refine XS.sipush X0.here hx rfl (hb hby d6_17) ?_
    show Steps p.tables e below (s₁.setTop (mkF m 20 #[.val (.ref t1), .val (.int (0 : Int32)), .val (.ref d1), .val (.int (0 : Int32)), .val (.int (2 : Int32)), .val (.int (0 : Int32)), .val (.int (cf 0))] [(.int (255 : Int32)), (.int (cf 0))])) _
    refine XS.icmpYes X0.here hx rfl (pc0 := 20) (pc' := 26) rfl (hb hby d6_20) rfl (flt (hcf _)).2.2.2 (by decide) (by decide) ?_
    show Steps p.tables e below (s₁.setTop (mkF m 26 #[.val (.ref t1), .val (.int (0 : Int32)), .val (.ref d1), .val (.int (0 : Int32)), .val (.int (2 : Int32)), .val (.int (0 : Int32)), .val (.int (cf 0))] [])) _
    refine XS.aloadN X0.here hx rfl (hb hby d6_26) rfl rfl ?_
    show Steps p.tables e below (s₁.setTop (mkF m 27 #[.val (.ref t1), .val (.int (0 : Int32)), .val (.ref d1), .val (.int (0 : Int32)), .val (.int (2 : Int32)), .val (.int (0 : Int32)), .val (.int (cf 0))] [(.ref d1)])) _
    refine XS.iloadN X0.here hx rfl (hb hby d6_27) rfl ?_
    show Steps p.tables e below (s₁.setTop (mkF m 28 #[.val (.ref t1), .val (.int (0 : Int32)), .val (.ref d1), .val (.int (0 : Int32)), .val (.int (2 : Int32)), .val (.int (0 : Int32)), .val (.int (cf 0))] [(.int (0 : Int32)), (.ref d1)])) _
    refine XS.iload X0.here hx rfl (hb hby d6_28) rfl ?_
    show Steps p.tables e below (s₁.setTop (mkF m 30 #[.val (.ref t1), .val (.int (0 : Int32)), .val (.ref d1), .val (.int (0 : Int32)), .val (.int (2 : Int32)), .val (.int (0 : Int32)), .val (.int (cf 0))] [(.int (cf 0)), (.int (0 : Int32)), (.ref d1)])) _
    refine XS.i2b X0.here hx rfl (hb hby d6_30) rfl ?_
    exact kt
  obtain ⟨T98, h98, X98, e98, W98, V98, st98⟩ := ArF.stB X0 hx hZ e0 F96 (i := 0) (by decide) (by decide) (g := (mkF m 31 #[.val (.ref t1), .val (.int (0 : Int32)), .val (.ref d1), .val (.int (0 : Int32)), .val (.int (2 : Int32)), .val (.int (0 : Int32)), .val (.int (cf 0))] [(.int ((cf 0).toInt8.toInt32)), (.int (0 : Int32)), (.ref d1)])) rfl rfl (hb hby d6_31)
  have z99 : n0 ≤ h98.size := Nat.le_trans Z0 (Keep.of_wr W98).1
  have N100 := Fr.snoc X98 N0 g_d1
  have S101 : ∀ t, Steps p.tables e below (T98.setTop (mkF m 12 #[.val (.ref t1), .val (.int (1 : Int32)), .val (.ref d1), .val (.int (1 : Int32)), .val (.int (2 : Int32)), .val (.int (1 : Int32)), .val (.int (cf 0))] [(.int (1 : Int32)), (.ref t1)])) t → Steps p.tables e below (T98.setTop (mkF m 32 #[.val (.ref t1), .val (.int (0 : Int32)), .val (.ref d1), .val (.int (0 : Int32)), .val (.int (2 : Int32)), .val (.int (0 : Int32)), .val (.int (cf 0))] [])) t := by
    intro t kt
    show Steps p.tables e below (T98.setTop (mkF m 32 #[.val (.ref t1), .val (.int (0 : Int32)), .val (.ref d1), .val (.int (0 : Int32)), .val (.int (2 : Int32)), .val (.int (0 : Int32)), .val (.int (cf 0))] [])) _
    refine XS.iinc X98.here hx rfl (hb hby d6_32) rfl (l' := #[.val (.ref t1), .val (.int (1 : Int32)), .val (.ref d1), .val (.int (0 : Int32)), .val (.int (2 : Int32)), .val (.int (0 : Int32)), .val (.int (cf 0))]) rfl ?_
    show Steps p.tables e below (T98.setTop (mkF m 35 #[.val (.ref t1), .val (.int (1 : Int32)), .val (.ref d1), .val (.int (0 : Int32)), .val (.int (2 : Int32)), .val (.int (0 : Int32)), .val (.int (cf 0))] [])) _
    refine XS.iinc X98.here hx rfl (hb hby d6_35) rfl (l' := #[.val (.ref t1), .val (.int (1 : Int32)), .val (.ref d1), .val (.int (1 : Int32)), .val (.int (2 : Int32)), .val (.int (0 : Int32)), .val (.int (cf 0))]) rfl ?_
    show Steps p.tables e below (T98.setTop (mkF m 38 #[.val (.ref t1), .val (.int (1 : Int32)), .val (.ref d1), .val (.int (1 : Int32)), .val (.int (2 : Int32)), .val (.int (0 : Int32)), .val (.int (cf 0))] [])) _
    refine XS.iinc X98.here hx rfl (hb hby d6_38) rfl (l' := #[.val (.ref t1), .val (.int (1 : Int32)), .val (.ref d1), .val (.int (1 : Int32)), .val (.int (2 : Int32)), .val (.int (1 : Int32)), .val (.int (cf 0))]) rfl ?_
    show Steps p.tables e below (T98.setTop (mkF m 41 #[.val (.ref t1), .val (.int (1 : Int32)), .val (.ref d1), .val (.int (1 : Int32)), .val (.int (2 : Int32)), .val (.int (1 : Int32)), .val (.int (cf 0))] [])) _
    refine XS.goto X98.here hx rfl (pc0 := 41) (pc' := 3) rfl (hb hby d6_41) (by decide) (by decide) ?_
    show Steps p.tables e below (T98.setTop (mkF m 3 #[.val (.ref t1), .val (.int (1 : Int32)), .val (.ref d1), .val (.int (1 : Int32)), .val (.int (2 : Int32)), .val (.int (1 : Int32)), .val (.int (cf 0))] [])) _
    refine XS.iload X98.here hx rfl (hb hby d6_3) rfl ?_
    show Steps p.tables e below (T98.setTop (mkF m 5 #[.val (.ref t1), .val (.int (1 : Int32)), .val (.ref d1), .val (.int (1 : Int32)), .val (.int (2 : Int32)), .val (.int (1 : Int32)), .val (.int (cf 0))] [(.int (1 : Int32))])) _
    refine XS.iload X98.here hx rfl (hb hby d6_5) rfl ?_
    show Steps p.tables e below (T98.setTop (mkF m 7 #[.val (.ref t1), .val (.int (1 : Int32)), .val (.ref d1), .val (.int (1 : Int32)), .val (.int (2 : Int32)), .val (.int (1 : Int32)), .val (.int (cf 0))] [(.int (2 : Int32)), (.int (1 : Int32))])) _
    refine XS.icmpNo X98.here hx rfl (hb hby d6_7) rfl (tlt (by decide)).2.1 ?_
    show Steps p.tables e below (T98.setTop (mkF m 10 #[.val (.ref t1), .val (.int (1 : Int32)), .val (.ref d1), .val (.int (1 : Int32)), .val (.int (2 : Int32)), .val (.int (1 : Int32)), .val (.int (cf 0))] [])) _
    refine XS.aloadN X98.here hx rfl (hb hby d6_10) rfl rfl ?_
    show Steps p.tables e below (T98.setTop (mkF m 11 #[.val (.ref t1), .val (.int (1 : Int32)), .val (.ref d1), .val (.int (1 : Int32)), .val (.int (2 : Int32)), .val (.int (1 : Int32)), .val (.int (cf 0))] [(.ref t1)])) _
    refine XS.iloadN X98.here hx rfl (hb hby d6_11) rfl ?_
    exact kt
  have f102 := (F95.other W98 ne_t1_d1)
  have S103 : ∀ t, Steps p.tables e below (T98.setTop (mkF m 31 #[.val (.ref t1), .val (.int (1 : Int32)), .val (.ref d1), .val (.int (1 : Int32)), .val (.int (2 : Int32)), .val (.int (1 : Int32)), .val (.int (cf 1))] [(.int ((cf 1).toInt8.toInt32)), (.int (1 : Int32)), (.ref d1)])) t → Steps p.tables e below (T98.setTop (mkF m 12 #[.val (.ref t1), .val (.int (1 : Int32)), .val (.ref d1), .val (.int (1 : Int32)), .val (.int (2 : Int32)), .val (.int (1 : Int32)), .val (.int (cf 0))] [(.int (1 : Int32)), (.ref t1)])) t := by
    intro t kt
    show Steps p.tables e below (T98.setTop (mkF m 12 #[.val (.ref t1), .val (.int (1 : Int32)), .val (.ref d1), .val (.int (1 : Int32)), .val (.int (2 : Int32)), .val (.int (1 : Int32)), .val (.int (cf 0))] [(.int (1 : Int32)), (.ref t1)])) _
    refine ArF.ldC X98 hx hZ e98 f102 (i := 1) (by decide) (by decide) (v := (cf 1)) rfl (g := (mkF m 12 #[.val (.ref t1), .val (.int (1 : Int32)), .val (.ref d1), .val (.int (1 : Int32)), .val (.int (2 : Int32)), .val (.int (1 : Int32)), .val (.int (cf 0))] [(.int (1 : Int32)), (.ref t1)])) rfl rfl (hb hby d6_12) _ ?_
    show Steps p.tables e below (T98.setTop (mkF m 13 #[.val (.ref t1), .val (.int (1 : Int32)), .val (.ref d1), .val (.int (1 : Int32)), .val (.int (2 : Int32)), .val (.int (1 : Int32)), .val (.int (cf 0))] [(.int (cf 1))])) _
    refine XS.istore X98.here hx rfl (hb hby d6_13) rfl (l' := #[.val (.ref t1), .val (.int (1 : Int32)), .val (.ref d1), .val (.int (1 : Int32)), .val (.int (2 : Int32)), .val (.int (1 : Int32)), .val (.int (cf 1))]) rfl ?_
    show Steps p.tables e below (T98.setTop (mkF m 15 #[.val (.ref t1), .val (.int (1 : Int32)), .val (.ref d1), .val (.int (1 : Int32)), .val (.int (2 : Int32)), .val (.int (1 : Int32)), .val (.int (cf 1))] [])) _
    refine XS.iload X98.here hx rfl (hb hby d6_15) rfl ?_
    show Steps p.tables e below (T98.setTop (mkF m 17 #[.val (.ref t1), .val (.int (1 : Int32)), .val (.ref d1), .val (.int (1 : Int32)), .val (.int (2 : Int32)), .val (.int (1 : Int32)), .val (.int (cf 1))] [(.int (cf 1))])) _
    refine XS.sipush X98.here hx rfl (hb hby d6_17) ?_
    show Steps p.tables e below (T98.setTop (mkF m 20 #[.val (.ref t1), .val (.int (1 : Int32)), .val (.ref d1), .val (.int (1 : Int32)), .val (.int (2 : Int32)), .val (.int (1 : Int32)), .val (.int (cf 1))] [(.int (255 : Int32)), (.int (cf 1))])) _
    refine XS.icmpYes X98.here hx rfl (pc0 := 20) (pc' := 26) rfl (hb hby d6_20) rfl (flt (hcf _)).2.2.2 (by decide) (by decide) ?_
    show Steps p.tables e below (T98.setTop (mkF m 26 #[.val (.ref t1), .val (.int (1 : Int32)), .val (.ref d1), .val (.int (1 : Int32)), .val (.int (2 : Int32)), .val (.int (1 : Int32)), .val (.int (cf 1))] [])) _
    refine XS.aloadN X98.here hx rfl (hb hby d6_26) rfl rfl ?_
    show Steps p.tables e below (T98.setTop (mkF m 27 #[.val (.ref t1), .val (.int (1 : Int32)), .val (.ref d1), .val (.int (1 : Int32)), .val (.int (2 : Int32)), .val (.int (1 : Int32)), .val (.int (cf 1))] [(.ref d1)])) _
    refine XS.iloadN X98.here hx rfl (hb hby d6_27) rfl ?_
    show Steps p.tables e below (T98.setTop (mkF m 28 #[.val (.ref t1), .val (.int (1 : Int32)), .val (.ref d1), .val (.int (1 : Int32)), .val (.int (2 : Int32)), .val (.int (1 : Int32)), .val (.int (cf 1))] [(.int (1 : Int32)), (.ref d1)])) _
    refine XS.iload X98.here hx rfl (hb hby d6_28) rfl ?_
    show Steps p.tables e below (T98.setTop (mkF m 30 #[.val (.ref t1), .val (.int (1 : Int32)), .val (.ref d1), .val (.int (1 : Int32)), .val (.int (2 : Int32)), .val (.int (1 : Int32)), .val (.int (cf 1))] [(.int (cf 1)), (.int (1 : Int32)), (.ref d1)])) _
    refine XS.i2b X98.here hx rfl (hb hby d6_30) rfl ?_
    exact kt
  obtain ⟨T104, h104, X104, e104, W104, V104, st104⟩ := ArF.stB X98 hx hZ e98 V98 (i := 1) (by decide) (by decide) (g := (mkF m 31 #[.val (.ref t1), .val (.int (1 : Int32)), .val (.ref d1), .val (.int (1 : Int32)), .val (.int (2 : Int32)), .val (.int (1 : Int32)), .val (.int (cf 1))] [(.int ((cf 1).toInt8.toInt32)), (.int (1 : Int32)), (.ref d1)])) rfl rfl (hb hby d6_31)
  have z105 : n0 ≤ h104.size := Nat.le_trans z99 (Keep.of_wr W104).1
  have N106 := Fr.snoc X104 N100 g_d1
  have S107 : ∀ t, Steps p.tables e below (T104.setTop (mkF m 46 #[.val (.ref t1), .val (.int (2 : Int32)), .val (.ref d1), .val (.int (2 : Int32)), .val (.int (2 : Int32)), .val (.int (2 : Int32)), .val (.int (cf 1))] [(.int (2 : Int32))])) t → Steps p.tables e below (T104.setTop (mkF m 32 #[.val (.ref t1), .val (.int (1 : Int32)), .val (.ref d1), .val (.int (1 : Int32)), .val (.int (2 : Int32)), .val (.int (1 : Int32)), .val (.int (cf 1))] [])) t := by
    intro t kt
    show Steps p.tables e below (T104.setTop (mkF m 32 #[.val (.ref t1), .val (.int (1 : Int32)), .val (.ref d1), .val (.int (1 : Int32)), .val (.int (2 : Int32)), .val (.int (1 : Int32)), .val (.int (cf 1))] [])) _
    refine XS.iinc X104.here hx rfl (hb hby d6_32) rfl (l' := #[.val (.ref t1), .val (.int (2 : Int32)), .val (.ref d1), .val (.int (1 : Int32)), .val (.int (2 : Int32)), .val (.int (1 : Int32)), .val (.int (cf 1))]) rfl ?_
    show Steps p.tables e below (T104.setTop (mkF m 35 #[.val (.ref t1), .val (.int (2 : Int32)), .val (.ref d1), .val (.int (1 : Int32)), .val (.int (2 : Int32)), .val (.int (1 : Int32)), .val (.int (cf 1))] [])) _
    refine XS.iinc X104.here hx rfl (hb hby d6_35) rfl (l' := #[.val (.ref t1), .val (.int (2 : Int32)), .val (.ref d1), .val (.int (2 : Int32)), .val (.int (2 : Int32)), .val (.int (1 : Int32)), .val (.int (cf 1))]) rfl ?_
    show Steps p.tables e below (T104.setTop (mkF m 38 #[.val (.ref t1), .val (.int (2 : Int32)), .val (.ref d1), .val (.int (2 : Int32)), .val (.int (2 : Int32)), .val (.int (1 : Int32)), .val (.int (cf 1))] [])) _
    refine XS.iinc X104.here hx rfl (hb hby d6_38) rfl (l' := #[.val (.ref t1), .val (.int (2 : Int32)), .val (.ref d1), .val (.int (2 : Int32)), .val (.int (2 : Int32)), .val (.int (2 : Int32)), .val (.int (cf 1))]) rfl ?_
    show Steps p.tables e below (T104.setTop (mkF m 41 #[.val (.ref t1), .val (.int (2 : Int32)), .val (.ref d1), .val (.int (2 : Int32)), .val (.int (2 : Int32)), .val (.int (2 : Int32)), .val (.int (cf 1))] [])) _
    refine XS.goto X104.here hx rfl (pc0 := 41) (pc' := 3) rfl (hb hby d6_41) (by decide) (by decide) ?_
    show Steps p.tables e below (T104.setTop (mkF m 3 #[.val (.ref t1), .val (.int (2 : Int32)), .val (.ref d1), .val (.int (2 : Int32)), .val (.int (2 : Int32)), .val (.int (2 : Int32)), .val (.int (cf 1))] [])) _
    refine XS.iload X104.here hx rfl (hb hby d6_3) rfl ?_
    show Steps p.tables e below (T104.setTop (mkF m 5 #[.val (.ref t1), .val (.int (2 : Int32)), .val (.ref d1), .val (.int (2 : Int32)), .val (.int (2 : Int32)), .val (.int (2 : Int32)), .val (.int (cf 1))] [(.int (2 : Int32))])) _
    refine XS.iload X104.here hx rfl (hb hby d6_5) rfl ?_
    show Steps p.tables e below (T104.setTop (mkF m 7 #[.val (.ref t1), .val (.int (2 : Int32)), .val (.ref d1), .val (.int (2 : Int32)), .val (.int (2 : Int32)), .val (.int (2 : Int32)), .val (.int (cf 1))] [(.int (2 : Int32)), (.int (2 : Int32))])) _
    refine XS.icmpYes X104.here hx rfl (pc0 := 7) (pc' := 44) rfl (hb hby d6_7) rfl (flt (by decide)).2.1 (by decide) (by decide) ?_
    show Steps p.tables e below (T104.setTop (mkF m 44 #[.val (.ref t1), .val (.int (2 : Int32)), .val (.ref d1), .val (.int (2 : Int32)), .val (.int (2 : Int32)), .val (.int (2 : Int32)), .val (.int (cf 1))] [])) _
    refine XS.iload X104.here hx rfl (hb hby d6_44) rfl ?_
    exact kt
  have C108 : ∀ t, Steps p.tables e below (T104.setTop (mkF m 46 #[.val (.ref t1), .val (.int (2 : Int32)), .val (.ref d1), .val (.int (2 : Int32)), .val (.int (2 : Int32)), .val (.int (2 : Int32)), .val (.int (cf 1))] [(.int (2 : Int32))])) t → Steps p.tables e below (s₁.setTop (mkF m 0 #[.val (.ref t1), .val (.int (0 : Int32)), .val (.ref d1), .val (.int (0 : Int32)), .val (.int (2 : Int32)), .unset, .unset] [])) t := (fun t k => (S97 t (st98 t (S101 t (S103 t (st104 t (S107 t k)))))))
  obtain ⟨fs, hr, hrun, hended, hW, hsame⟩ := X104.leave (v := some (.int (2 : Int32))) (fun h => by rw [Bd.returns] at h; cases h)
  refine ⟨_, _, pre0 _ (C108 _ ?_), hrun, hended, _, _, rfl, ?_, ⟨_, rfl⟩, hW, hsame.mono (by decide) (by decide)⟩
  · exact retOut X104 hx (t := .int) Bd.returns rfl (Or.inl ⟨rfl, Or.inl rfl, _, rfl⟩) (hb hby d6_46) hr
  · show Q_rm_k1_2 Z t1 d1 cf df h0 n0 _ T104.heap _
    rw [e104]
    exact ⟨rfl, N106, (((Keep.refl h0 [d1]).wr W98 (Or.inl (List.mem_of_getElem? (i := 0) rfl))).wr W104 (Or.inl (List.mem_of_getElem? (i := 0) rfl))), _, V104⟩
theorem ef_rm_k2_2 (m : MethodId) (x0 : Addr) (x1 : Int32) (x2 : Int32) : entryFrame m #[(.ref x0), (.int x1), (.int x2)] 6 = mkF m 0 #[.val (.ref x0), .val (.int x1), .val (.int x2), .unset, .unset, .unset] [] := by first | (simp [entryFrame, mkF, argsToLocals, Value.category]; done) | rfl
def Q_rm_k2_2 (Z : State) (t1 : Addr) (cf : Nat → Int32) (h0 : Heap) (n0 : Nat) (v : Option Value) (h : Heap) (L : List Loc) : Prop := ∃ (b : Addr) (g : Nat → Value), v = some (.ref b) ∧ Fr n0 L ∧ Keep h0 h [] ∧ ArF Z h b .byte 2 g
set_option maxRecDepth 65536 in
set_option maxHeartbeats 40000000 in
theorem rm_k2_2 (l : Launch) (Z : State) (a0 : Array Value) (hw : ∀ d ∈ tables_1, d.before a0 Z = true) (ws : List Jvm.Cond) (t1 : Addr) (cf : Nat → Int32) (h0 : Heap) (n0 : Nat) (Z0 : n0 ≤ h0.size) (F109 : ArF Z h0 t1 .char 2 (fun q => (.int (cf q)))) (hcf : ∀ q, ¬ (255 : Int32) < cf q) :
    MetFree l (⟨"java/lang/StringUTF16", "compress", "([CII)[B"⟩ : MethodName) (head1 (Jvm.Cond.code (⟨"java/lang/StringUTF16", "compress", "([CII)[B"⟩ : MethodName) jdk_52_method_16_code 6 (some (.array .byte)) :: ws) ({ frames := 1, cells := 1, slots := 2, locals := 18 } : Room)) (fun a U => a = #[(.ref t1), (.int (0 : Int32)), (.int (2 : Int32))] ∧ Z.Warmed39 U.vm ∧ U.heap = h0) (fun _ _ _ _ _ => True) (fun _ U o U' => ∃ v L, o = .returned v ∧ Q_rm_k2_2 Z t1 cf h0 n0 v U'.heap L ∧ FrameEnd U o U' L ({ frames := 1, cells := 1, slots := 2, locals := 18 } : Room).cells ({ frames := 1, cells := 1, slots := 2, locals := 18 } : Room).slots) := by
  refine MetFree.of_bodySF (plainFor_of_name pn_4) hisR ?_
  intro p e s m args below meth c s₁ Bd hml0 hP hK
  obtain ⟨rfl, hZ, hh⟩ := hP
  have hx := Bd.exec
  have hby := Bd.bytes
  have hml : c.maxLocals = 6 := hml0
  have hown : s.vm.findClass "java/lang/StringUTF16" = some m.cls := findClass_of_methodNamed Bd.named
  have hnm := (name_of_methodNamed Bd.named Bd.method).1
  have X0 : Stand p l e ({ frames := 1, cells := 1, slots := 2, locals := 18 } : Room) s m #[(.ref t1), (.int (0 : Int32)), (.int (2 : Int32))] below meth c s₁ [] 0 0 := Stand.of_body Bd
  have e0 : s₁.heap = h0 := by rw [← hh, Bd.state]; rfl
  have N0 := Fr.nil n0
  have pre0 : ∀ t, Steps p.tables e below (s₁.setTop (mkF m 0 #[.val (.ref t1), .val (.int (0 : Int32)), .val (.int (2 : Int32)), .unset, .unset, .unset] [])) t → Steps p.tables e below (s₁.setTop (entryFrame m #[(.ref t1), (.int (0 : Int32)), (.int (2 : Int32))] 6)) t := fun t k => castTop (ef_rm_k2_2 m t1 (0 : Int32) (2 : Int32)) k
  have S110 : ∀ t, Steps p.tables e below (s₁.setTop (mkF m 1 #[.val (.ref t1), .val (.int (0 : Int32)), .val (.int (2 : Int32)), .unset, .unset, .unset] [(.int (2 : Int32))])) t → Steps p.tables e below (s₁.setTop (mkF m 0 #[.val (.ref t1), .val (.int (0 : Int32)), .val (.int (2 : Int32)), .unset, .unset, .unset] [])) t := by
    intro t kt
    show Steps p.tables e below (s₁.setTop (mkF m 0 #[.val (.ref t1), .val (.int (0 : Int32)), .val (.int (2 : Int32)), .unset, .unset, .unset] [])) _
    refine XS.iloadN X0.here hx rfl (hb hby d5_0) rfl ?_
    exact kt
  obtain ⟨T111, h111, k111, X111, e111, E111, A111, st111⟩ := newP X0 hx hZ (hw _ (List.mem_of_getElem? (i := 23) rfl)) e0 (g := (mkF m 1 #[.val (.ref t1), .val (.int (0 : Int32)), .val (.int (2 : Int32)), .unset, .unset, .unset] [(.int (2 : Int32))])) rfl (hb hby d5_1) rfl (by decide) (cap := 2) (by decide) (by decide) (by decide) (by decide)
  obtain ⟨b111, g111⟩ : ∃ z, z = h0.size := ⟨_, rfl⟩
  rw [← g111] at A111 st111
  have g_b111 : n0 ≤ b111 := Nat.le_trans Z0 (Nat.le_of_eq g111.symm)
  have K112 := (Keep.refl h0 [])
  have sz_b111 : h0.size ≤ b111 := Nat.le_trans K112.1 (Nat.le_of_eq g111.symm)
  have ne_t1_b111 : t1 ≠ b111 := Nat.ne_of_lt (Nat.lt_of_lt_of_le F109.lt (Nat.le_of_eq g111.symm))
  have z113 : n0 ≤ h111.size := Nat.le_trans Z0 E111.1
  have V111 : ArF Z h111 b111 .byte 2 (fun _ => (.int (0 : Int32))) := ArF.new A111 (by decide) rfl
  have f116 := (F109.ext E111)
  have S117 : ∀ t, Steps p.tables e below (T111.setTop (mkF m 9 #[.val (.ref t1), .val (.int (0 : Int32)), .val (.int (2 : Int32)), .val (.ref b111), .unset, .unset] [(.int (2 : Int32)), (.int (0 : Int32)), (.ref b111), (.int (0 : Int32)), (.ref t1)])) t → Steps p.tables e below (T111.setTop (mkF m 3 #[.val (.ref t1), .val (.int (0 : Int32)), .val (.int (2 : Int32)), .unset, .unset, .unset] [(.ref b111)])) t := by
    intro t kt
    show Steps p.tables e below (T111.setTop (mkF m 3 #[.val (.ref t1), .val (.int (0 : Int32)), .val (.int (2 : Int32)), .unset, .unset, .unset] [(.ref b111)])) _
    refine XS.astoreN X111.here hx rfl (hb hby d5_3) rfl rfl (l' := #[.val (.ref t1), .val (.int (0 : Int32)), .val (.int (2 : Int32)), .val (.ref b111), .unset, .unset]) rfl ?_
    show Steps p.tables e below (T111.setTop (mkF m 4 #[.val (.ref t1), .val (.int (0 : Int32)), .val (.int (2 : Int32)), .val (.ref b111), .unset, .unset] [])) _
    refine XS.aloadN X111.here hx rfl (hb hby d5_4) rfl rfl ?_
    show Steps p.tables e below (T111.setTop (mkF m 5 #[.val (.ref t1), .val (.int (0 : Int32)), .val (.int (2 : Int32)), .val (.ref b111), .unset, .unset] [(.ref t1)])) _
    refine XS.iloadN X111.here hx rfl (hb hby d5_5) rfl ?_
    show Steps p.tables e below (T111.setTop (mkF m 6 #[.val (.ref t1), .val (.int (0 : Int32)), .val (.int (2 : Int32)), .val (.ref b111), .unset, .unset] [(.int (0 : Int32)), (.ref t1)])) _
    refine XS.aloadN X111.here hx rfl (hb hby d5_6) rfl rfl ?_
    show Steps p.tables e below (T111.setTop (mkF m 7 #[.val (.ref t1), .val (.int (0 : Int32)), .val (.int (2 : Int32)), .val (.ref b111), .unset, .unset] [(.ref b111), (.int (0 : Int32)), (.ref t1)])) _
    refine XS.iconst X111.here hx rfl (hb hby d5_7) ?_
    show Steps p.tables e below (T111.setTop (mkF m 8 #[.val (.ref t1), .val (.int (0 : Int32)), .val (.int (2 : Int32)), .val (.ref b111), .unset, .unset] [(.int (0 : Int32)), (.ref b111), (.int (0 : Int32)), (.ref t1)])) _
    refine XS.iloadN X111.here hx rfl (hb hby d5_8) rfl ?_
    exact kt
  obtain ⟨_, _, ⟨T118, L118, k118, n118⟩, -, X118, ⟨Lc118, hQ118, l118, y118, z118⟩, st118⟩ := Jvm.LawKit.callS X111 hx (y := (⟨"java/lang/StringUTF16", "compress", "([CI[BII)I"⟩ : MethodName)) hown (mvT hZ (hw _ (List.mem_of_getElem? (i := 24) rfl))) (mvT hZ (hw _ (List.mem_of_getElem? (i := 25) rfl))) (mvT hZ (hw _ (List.mem_of_getElem? (i := 21) rfl))) (mvT hZ (hw _ (List.mem_of_getElem? (i := 26) rfl))) (by decide) (backOf (W := 0) (rm_k1_2 l Z a0 hw [] t1 b111 cf (fun _ => (.int (0 : Int32))) h111 n0 z113 f116 V111 g_b111 ne_t1_b111 hcf) hZ (hw _ (List.mem_of_getElem? (i := 26) rfl)) (hw _ (List.mem_of_getElem? (i := 21) rfl)) (by decide) (by decide)) (g := (mkF m 9 #[.val (.ref t1), .val (.int (0 : Int32)), .val (.int (2 : Int32)), .val (.ref b111), .unset, .unset] [(.int (2 : Int32)), (.int (0 : Int32)), (.ref b111), (.int (0 : Int32)), (.ref t1)])) rfl (by rw [hml]; rfl) (argsL := [(.ref t1), (.int (0 : Int32)), (.ref b111), (.int (0 : Int32)), (.int (2 : Int32))]) (rest := []) (lenOf pd_5 rfl) rfl (by show 2 * 0 + _ ≤ _; exact Nat.le_of_eq rfl) (hb hby d5_9) (fun _ _ => ⟨rfl, e111, (by decide : 1 + 0 ≤ _), (by decide : 2 + 0 ≤ _)⟩)
  dsimp only [Pt.U, Pt.locs, Pt.cells, Pt.slots] at X118 l118 y118 z118 st118 hQ118
  subst l118 y118 z118
  obtain ⟨h118, e118⟩ : ∃ z, T118.heap = z := ⟨_, rfl⟩
  rw [e118] at hQ118
  obtain ⟨rfl, N118q, K118q, ⟨g114, F115⟩⟩ := hQ118
  have z119 : n0 ≤ h118.size := Nat.le_trans z113 K118q.1
  have N118 := Fr.app N0 N118q
  have S120 : ∀ t, Steps p.tables e below (T118.setTop (mkF m 58 #[.val (.ref t1), .val (.int (0 : Int32)), .val (.int (2 : Int32)), .val (.ref b111), .val (.int (2 : Int32)), .unset] [(.ref b111)])) t → Steps p.tables e below (T118.setTop (mkF m 12 #[.val (.ref t1), .val (.int (0 : Int32)), .val (.int (2 : Int32)), .val (.ref b111), .unset, .unset] [(.int (2 : Int32))])) t := by
    intro t kt
    show Steps p.tables e below (T118.setTop (mkF m 12 #[.val (.ref t1), .val (.int (0 : Int32)), .val (.int (2 : Int32)), .val (.ref b111), .unset, .unset] [(.int (2 : Int32))])) _
    refine XS.istore X118.here hx rfl (hb hby d5_12) rfl (l' := #[.val (.ref t1), .val (.int (0 : Int32)), .val (.int (2 : Int32)), .val (.ref b111), .val (.int (2 : Int32)), .unset]) rfl ?_
    show Steps p.tables e below (T118.setTop (mkF m 14 #[.val (.ref t1), .val (.int (0 : Int32)), .val (.int (2 : Int32)), .val (.ref b111), .val (.int (2 : Int32)), .unset] [])) _
    refine XS.iload X118.here hx rfl (hb hby d5_14) rfl ?_
    show Steps p.tables e below (T118.setTop (mkF m 16 #[.val (.ref t1), .val (.int (0 : Int32)), .val (.int (2 : Int32)), .val (.ref b111), .val (.int (2 : Int32)), .unset] [(.int (2 : Int32))])) _
    refine XS.iloadN X118.here hx rfl (hb hby d5_16) rfl ?_
    show Steps p.tables e below (T118.setTop (mkF m 17 #[.val (.ref t1), .val (.int (0 : Int32)), .val (.int (2 : Int32)), .val (.ref b111), .val (.int (2 : Int32)), .unset] [(.int (2 : Int32)), (.int (2 : Int32))])) _
    refine XS.icmpYes X118.here hx rfl (pc0 := 17) (pc' := 57) rfl (hb hby d5_17) rfl (teq rfl).1 (by decide) (by decide) ?_
    show Steps p.tables e below (T118.setTop (mkF m 57 #[.val (.ref t1), .val (.int (0 : Int32)), .val (.int (2 : Int32)), .val (.ref b111), .val (.int (2 : Int32)), .unset] [])) _
    refine XS.aloadN X118.here hx rfl (hb hby d5_57) rfl rfl ?_
    exact kt
  have C121 : ∀ t, Steps p.tables e below (T118.setTop (mkF m 58 #[.val (.ref t1), .val (.int (0 : Int32)), .val (.int (2 : Int32)), .val (.ref b111), .val (.int (2 : Int32)), .unset] [(.ref b111)])) t → Steps p.tables e below (s₁.setTop (mkF m 0 #[.val (.ref t1), .val (.int (0 : Int32)), .val (.int (2 : Int32)), .unset, .unset, .unset] [])) t := (fun t k => (S110 t (st111 t (S117 t (st118 t (S120 t k))))))
  obtain ⟨fs, hr, hrun, hended, hW, hsame⟩ := X118.leave (v := some (.ref b111)) (fun h => by rw [Bd.returns] at h; cases h)
  refine ⟨_, _, pre0 _ (C121 _ ?_), hrun, hended, _, _, rfl, ?_, ⟨_, rfl⟩, hW, hsame.mono (by decide) (by decide)⟩
  · exact retOut X118 hx Bd.returns rfl (Or.inr (Or.inr (Or.inr (Or.inr ⟨rfl, rfl, rfl⟩)))) (hb hby d5_58) hr
  · show Q_rm_k2_2 Z t1 cf h0 n0 _ T118.heap _
    rw [e118]
    exact ⟨_, _, rfl, N118, ((K112.ext E111).trans K118q (allS (Or.inr sz_b111) all0)), F115⟩
theorem ef_rm_k3_2 (m : MethodId) (x0 : Addr) (x1 : Int32) : entryFrame m #[(.ref x0), (.int x1)] 2 = mkF m 0 #[.val (.ref x0), .val (.int x1)] [] := by first | (simp [entryFrame, mkF, argsToLocals, Value.category]; done) | rfl
def Q_rm_k3_2 (Z : State) (d1 : Addr) (df : Nat → Value) (h0 : Heap) (n0 : Nat) (v : Option Value) (h : Heap) (L : List Loc) : Prop := v = some (.int 0) ∧ Fr n0 L ∧ h = h0
set_option maxRecDepth 65536 in
set_option maxHeartbeats 40000000 in
theorem rm_k3_2 (l : Launch) (Z : State) (a0 : Array Value) (hw : ∀ d ∈ tables_1, d.before a0 Z = true) (ws : List Jvm.Cond) (d1 : Addr) (df : Nat → Value) (h0 : Heap) (n0 : Nat) (Z0 : n0 ≤ h0.size) (F122 : ArF Z h0 d1 .byte 2 df) :
    MetFree l (⟨"java/lang/StringUTF16", "coderFromArrayLen", "([BI)B"⟩ : MethodName) (head1 (Jvm.Cond.code (⟨"java/lang/StringUTF16", "coderFromArrayLen", "([BI)B"⟩ : MethodName) jdk_52_method_15_code 2 (some .byte) :: ws) ({ frames := 0, cells := 0, slots := 0, locals := 0 } : Room)) (fun a U => a = #[(.ref d1), (.int (2 : Int32))] ∧ Z.Warmed39 U.vm ∧ U.heap = h0) (fun _ _ _ _ _ => True) (fun _ U o U' => ∃ v L, o = .returned v ∧ Q_rm_k3_2 Z d1 df h0 n0 v U'.heap L ∧ FrameEnd U o U' L ({ frames := 0, cells := 0, slots := 0, locals := 0 } : Room).cells ({ frames := 0, cells := 0, slots := 0, locals := 0 } : Room).slots) := by
  refine MetFree.of_bodySF (plainFor_of_name pn_4) hisR ?_
  intro p e s m args below meth c s₁ Bd hml0 hP hK
  obtain ⟨rfl, hZ, hh⟩ := hP
  have hx := Bd.exec
  have hby := Bd.bytes
  have hml : c.maxLocals = 2 := hml0
  have hown : s.vm.findClass "java/lang/StringUTF16" = some m.cls := findClass_of_methodNamed Bd.named
  have hnm := (name_of_methodNamed Bd.named Bd.method).1
  have X0 : Stand p l e ({ frames := 0, cells := 0, slots := 0, locals := 0 } : Room) s m #[(.ref d1), (.int (2 : Int32))] below meth c s₁ [] 0 0 := Stand.of_body Bd
  have e0 : s₁.heap = h0 := by rw [← hh, Bd.state]; rfl
  have N0 := Fr.nil n0
  have pre0 : ∀ t, Steps p.tables e below (s₁.setTop (mkF m 0 #[.val (.ref d1), .val (.int (2 : Int32))] [])) t → Steps p.tables e below (s₁.setTop (entryFrame m #[(.ref d1), (.int (2 : Int32))] 2)) t := fun t k => castTop (ef_rm_k3_2 m d1 (2 : Int32)) k
  have S123 : ∀ t, Steps p.tables e below (s₁.setTop (mkF m 8 #[.val (.ref d1), .val (.int (2 : Int32))] [(.int (((((2 : Int32) - (2 : Int32)).toUInt32 >>> ((31 : Int32) &&& 31).toUInt32).toInt32).toInt8.toInt32))])) t → Steps p.tables e below (s₁.setTop (mkF m 0 #[.val (.ref d1), .val (.int (2 : Int32))] [])) t := by
    intro t kt
    show Steps p.tables e below (s₁.setTop (mkF m 0 #[.val (.ref d1), .val (.int (2 : Int32))] [])) _
    refine XS.iloadN X0.here hx rfl (hb hby d7_0) rfl ?_
    show Steps p.tables e below (s₁.setTop (mkF m 1 #[.val (.ref d1), .val (.int (2 : Int32))] [(.int (2 : Int32))])) _
    refine XS.aloadN X0.here hx rfl (hb hby d7_1) rfl rfl ?_
    show Steps p.tables e below (s₁.setTop (mkF m 2 #[.val (.ref d1), .val (.int (2 : Int32))] [(.ref d1), (.int (2 : Int32))])) _
    refine ArF.len X0 hx hZ e0 F122 (g := (mkF m 2 #[.val (.ref d1), .val (.int (2 : Int32))] [(.ref d1), (.int (2 : Int32))])) rfl rfl (hb hby d7_2) _ ?_
    show Steps p.tables e below (s₁.setTop (mkF m 3 #[.val (.ref d1), .val (.int (2 : Int32))] [(.int (2 : Int32)), (.int (2 : Int32))])) _
    refine XS.isub X0.here hx rfl (hb hby d7_3) rfl ?_
    show Steps p.tables e below (s₁.setTop (mkF m 4 #[.val (.ref d1), .val (.int (2 : Int32))] [(.int ((2 : Int32) - (2 : Int32)))])) _
    refine XS.bipush X0.here hx rfl (hb hby d7_4) ?_
    show Steps p.tables e below (s₁.setTop (mkF m 6 #[.val (.ref d1), .val (.int (2 : Int32))] [(.int (31 : Int32)), (.int ((2 : Int32) - (2 : Int32)))])) _
    refine XS.iushr X0.here hx rfl (hb hby d7_6) rfl ?_
    show Steps p.tables e below (s₁.setTop (mkF m 7 #[.val (.ref d1), .val (.int (2 : Int32))] [(.int ((((2 : Int32) - (2 : Int32)).toUInt32 >>> ((31 : Int32) &&& 31).toUInt32).toInt32))])) _
    refine XS.i2b X0.here hx rfl (hb hby d7_7) rfl ?_
    exact kt
  have S124 : ∀ t, Steps p.tables e below (s₁.setTop (mkF m 8 #[.val (.ref d1), .val (.int (2 : Int32))] [(.int (0 : Int32))])) t → Steps p.tables e below (s₁.setTop (mkF m 8 #[.val (.ref d1), .val (.int (2 : Int32))] [(.int (((((2 : Int32) - (2 : Int32)).toUInt32 >>> ((31 : Int32) &&& 31).toUInt32).toInt32).toInt8.toInt32))])) t := fun t k => by rw [(show (((((2 : Int32) - (2 : Int32)).toUInt32 >>> ((31 : Int32) &&& 31).toUInt32).toInt32).toInt8.toInt32) = (0 : Int32) by decide)]; exact k
  have C125 : ∀ t, Steps p.tables e below (s₁.setTop (mkF m 8 #[.val (.ref d1), .val (.int (2 : Int32))] [(.int (0 : Int32))])) t → Steps p.tables e below (s₁.setTop (mkF m 0 #[.val (.ref d1), .val (.int (2 : Int32))] [])) t := (fun t k => (S123 t (S124 t k)))
  obtain ⟨fs, hr, hrun, hended, hW, hsame⟩ := X0.leave (v := some (.int (0 : Int32))) (fun h => by rw [Bd.returns] at h; cases h)
  refine ⟨_, _, pre0 _ (C125 _ ?_), hrun, hended, _, _, rfl, ?_, ⟨_, rfl⟩, hW, hsame.mono (by decide) (by decide)⟩
  · exact retN X0 hx (t := .byte) Bd.returns (by simp) (hb hby d7_8) hr
  · show Q_rm_k3_2 Z d1 df h0 n0 _ s₁.heap _
    rw [e0]
    exact ⟨rfl, N0, rfl⟩
theorem ef_rm_k4_2 (m : MethodId) (x0 : Addr) (x1 : Addr) (x2 : Int32) (x3 : Int32) : entryFrame m #[(.ref x0), (.ref x1), (.int x2), (.int x3), .null] 6 = mkF m 0 #[.val (.ref x0), .val (.ref x1), .val (.int x2), .val (.int x3), .val .null, .unset] [] := by first | (simp [entryFrame, mkF, argsToLocals, Value.category]; done) | rfl
def Q_rm_k4_2 (Z : State) (a1 : Addr) (t1 : Addr) (cf : Nat → Int32) (zc : Int32) (h0 : Heap) (n0 : Nat) (v : Option Value) (h : Heap) (L : List Loc) : Prop := v = none ∧ Fr n0 L ∧ Keep h0 h [a1]
set_option maxRecDepth 65536 in
set_option maxHeartbeats 40000000 in
theorem rm_k4_2 (l : Launch) (Z : State) (a0 : Array Value) (hw : ∀ d ∈ tables_1, d.before a0 Z = true) (ws : List Jvm.Cond) (a1 : Addr) (t1 : Addr) (cf : Nat → Int32) (zc : Int32) (h0 : Heap) (n0 : Nat) (Z0 : n0 ≤ h0.size) (F126 : Exa Z h0 a1 "java/lang/String") (F127 : Fld Z h0 a1 "java/lang/String" "value" "[B" .null) (F128 : Fld Z h0 a1 "java/lang/String" "coder" "B" (.int (0 : Int32))) (F129 : ArF Z h0 t1 .char 2 (fun q => (.int (cf q)))) (g_a1 : n0 ≤ a1) (hcf : ∀ q, ¬ (255 : Int32) < cf q) (O : Old Z n0 h0) (HS : Sta Z Z.heap "java/lang/String" "COMPACT_STRINGS" "Z" (.int zc)) (hzc : ¬ zc = (0 : Int32)) :
    MetFree l (⟨"java/lang/String", "<init>", "([CIILjava/lang/Void;)V"⟩ : MethodName) (head1 (Jvm.Cond.code (⟨"java/lang/String", "<init>", "([CIILjava/lang/Void;)V"⟩ : MethodName) jdk_42_method_149_code 6 none :: ws) ({ frames := 2, cells := 1, slots := 2, locals := 35 } : Room)) (fun a U => a = #[(.ref a1), (.ref t1), (.int (0 : Int32)), (.int (2 : Int32)), .null] ∧ Z.Warmed39 U.vm ∧ U.heap = h0) (fun _ _ _ _ _ => True) (fun _ U o U' => ∃ v L, o = .returned v ∧ Q_rm_k4_2 Z a1 t1 cf zc h0 n0 v U'.heap L ∧ FrameEnd U o U' L ({ frames := 2, cells := 1, slots := 2, locals := 35 } : Room).cells ({ frames := 2, cells := 1, slots := 2, locals := 35 } : Room).slots) := by
  refine MetFree.of_bodySF (plainFor_of_name pn_2) hisR ?_
  intro p e s m args below meth c s₁ Bd hml0 hP hK
  obtain ⟨rfl, hZ, hh⟩ := hP
  have hx := Bd.exec
  have hby := Bd.bytes
  have hml : c.maxLocals = 6 := hml0
  have hown : s.vm.findClass "java/lang/String" = some m.cls := findClass_of_methodNamed Bd.named
  have hnm := (name_of_methodNamed Bd.named Bd.method).1
  have X0 : Stand p l e ({ frames := 2, cells := 1, slots := 2, locals := 35 } : Room) s m #[(.ref a1), (.ref t1), (.int (0 : Int32)), (.int (2 : Int32)), .null] below meth c s₁ [] 0 0 := Stand.of_body Bd
  have e0 : s₁.heap = h0 := by rw [← hh, Bd.state]; rfl
  have N0 := Fr.nil n0
  have pre0 : ∀ t, Steps p.tables e below (s₁.setTop (mkF m 0 #[.val (.ref a1), .val (.ref t1), .val (.int (0 : Int32)), .val (.int (2 : Int32)), .val .null, .unset] [])) t → Steps p.tables e below (s₁.setTop (entryFrame m #[(.ref a1), (.ref t1), (.int (0 : Int32)), (.int (2 : Int32)), .null] 6)) t := fun t k => castTop (ef_rm_k4_2 m a1 t1 (0 : Int32) (2 : Int32)) k
  have hS0 := Sta.ext O.2 HS
  have S132 : ∀ t, Steps p.tables e below (s₁.setTop (mkF m 1 #[.val (.ref a1), .val (.ref t1), .val (.int (0 : Int32)), .val (.int (2 : Int32)), .val .null, .unset] [(.ref a1)])) t → Steps p.tables e below (s₁.setTop (mkF m 0 #[.val (.ref a1), .val (.ref t1), .val (.int (0 : Int32)), .val (.int (2 : Int32)), .val .null, .unset] [])) t := by
    intro t kt
    show Steps p.tables e below (s₁.setTop (mkF m 0 #[.val (.ref a1), .val (.ref t1), .val (.int (0 : Int32)), .val (.int (2 : Int32)), .val .null, .unset] [])) _
    refine XS.aloadN X0.here hx rfl (hb hby d3_0) rfl rfl ?_
    exact kt
  obtain ⟨T133, X133, e133, st133⟩ := initO X0 hx hZ hown (hw _ (List.mem_of_getElem? (i := 15) rfl)) (hw _ (List.mem_of_getElem? (i := 16) rfl)) (hw _ (List.mem_of_getElem? (i := 17) rfl)) e0 (g := (mkF m 1 #[.val (.ref a1), .val (.ref t1), .val (.int (0 : Int32)), .val (.int (2 : Int32)), .val .null, .unset] [(.ref a1)])) rfl (by rw [hml]; rfl) rfl (hb hby d3_1) (by decide) (W := 0) (by show 2 * 0 + _ ≤ _; exact Nat.le_of_eq rfl) (by decide)
  have S134 : ∀ t, Steps p.tables e below (T133.setTop (mkF m 27 #[.val (.ref a1), .val (.ref t1), .val (.int (0 : Int32)), .val (.int (2 : Int32)), .val .null, .unset] [])) t → Steps p.tables e below (T133.setTop (mkF m 4 #[.val (.ref a1), .val (.ref t1), .val (.int (0 : Int32)), .val (.int (2 : Int32)), .val .null, .unset] [])) t := by
    intro t kt
    show Steps p.tables e below (T133.setTop (mkF m 4 #[.val (.ref a1), .val (.ref t1), .val (.int (0 : Int32)), .val (.int (2 : Int32)), .val .null, .unset] [])) _
    refine XS.iloadN X133.here hx rfl (hb hby d3_4) rfl ?_
    show Steps p.tables e below (T133.setTop (mkF m 5 #[.val (.ref a1), .val (.ref t1), .val (.int (0 : Int32)), .val (.int (2 : Int32)), .val .null, .unset] [(.int (2 : Int32))])) _
    refine XS.ifYes X133.here hx rfl (pc0 := 5) (pc' := 27) rfl (hb hby d3_5) rfl ((if0 _ _).trans (feq (by decide)).2) (by decide) (by decide) ?_
    exact kt
  obtain ⟨T135, X135, e135, st135⟩ := getS2 X133 hx hZ hown (host := "") (Or.inl (hw _ (List.mem_of_getElem? (i := 18) rfl))) Via.refl e133 hS0 (g := (mkF m 27 #[.val (.ref a1), .val (.ref t1), .val (.int (0 : Int32)), .val (.int (2 : Int32)), .val .null, .unset] [])) rfl (hb hby d3_27)
  have S136 : ∀ t, Steps p.tables e below (T135.setTop (mkF m 36 #[.val (.ref a1), .val (.ref t1), .val (.int (0 : Int32)), .val (.int (2 : Int32)), .val .null, .unset] [(.int (2 : Int32)), (.int (0 : Int32)), (.ref t1)])) t → Steps p.tables e below (T135.setTop (mkF m 30 #[.val (.ref a1), .val (.ref t1), .val (.int (0 : Int32)), .val (.int (2 : Int32)), .val .null, .unset] [(.int zc)])) t := by
    intro t kt
    show Steps p.tables e below (T135.setTop (mkF m 30 #[.val (.ref a1), .val (.ref t1), .val (.int (0 : Int32)), .val (.int (2 : Int32)), .val .null, .unset] [(.int zc)])) _
    refine XS.ifNo X135.here hx rfl (hb hby d3_30) rfl ((if0 _ _).trans (feq hzc).1) ?_
    show Steps p.tables e below (T135.setTop (mkF m 33 #[.val (.ref a1), .val (.ref t1), .val (.int (0 : Int32)), .val (.int (2 : Int32)), .val .null, .unset] [])) _
    refine XS.aloadN X135.here hx rfl (hb hby d3_33) rfl rfl ?_
    show Steps p.tables e below (T135.setTop (mkF m 34 #[.val (.ref a1), .val (.ref t1), .val (.int (0 : Int32)), .val (.int (2 : Int32)), .val .null, .unset] [(.ref t1)])) _
    refine XS.iloadN X135.here hx rfl (hb hby d3_34) rfl ?_
    show Steps p.tables e below (T135.setTop (mkF m 35 #[.val (.ref a1), .val (.ref t1), .val (.int (0 : Int32)), .val (.int (2 : Int32)), .val .null, .unset] [(.int (0 : Int32)), (.ref t1)])) _
    refine XS.iloadN X135.here hx rfl (hb hby d3_35) rfl ?_
    exact kt
  obtain ⟨_, _, ⟨T137, L137, k137, n137⟩, -, X137, ⟨Lc137, hQ137, l137, y137, z137⟩, st137⟩ := Jvm.LawKit.callS X135 hx (y := (⟨"java/lang/StringUTF16", "compress", "([CII)[B"⟩ : MethodName)) hown (mvT hZ (hw _ (List.mem_of_getElem? (i := 19) rfl))) (mvT hZ (hw _ (List.mem_of_getElem? (i := 20) rfl))) (mvT hZ (hw _ (List.mem_of_getElem? (i := 21) rfl))) (mvT hZ (hw _ (List.mem_of_getElem? (i := 22) rfl))) (by decide) (backOf (W := 0) (rm_k2_2 l Z a0 hw [] t1 cf h0 n0 Z0 F129 hcf) hZ (hw _ (List.mem_of_getElem? (i := 22) rfl)) (hw _ (List.mem_of_getElem? (i := 21) rfl)) (by decide) (by decide)) (g := (mkF m 36 #[.val (.ref a1), .val (.ref t1), .val (.int (0 : Int32)), .val (.int (2 : Int32)), .val .null, .unset] [(.int (2 : Int32)), (.int (0 : Int32)), (.ref t1)])) rfl (by rw [hml]; rfl) (argsL := [(.ref t1), (.int (0 : Int32)), (.int (2 : Int32))]) (rest := []) (lenOf pd_6 rfl) rfl (by show 2 * 0 + _ ≤ _; exact Nat.le_of_eq rfl) (hb hby d3_36) (fun _ _ => ⟨rfl, e135, (by decide : 0 + 1 ≤ _), (by decide : 0 + 2 ≤ _)⟩)
  dsimp only [Pt.U, Pt.locs, Pt.cells, Pt.slots] at X137 l137 y137 z137 st137 hQ137
  subst l137 y137 z137
  obtain ⟨h137, e137⟩ : ∃ z, T137.heap = z := ⟨_, rfl⟩
  rw [e137] at hQ137
  obtain ⟨b130, g131, rfl, N137q, K137q, F138⟩ := hQ137
  have z139 : n0 ≤ h137.size := Nat.le_trans Z0 K137q.1
  have N137 := Fr.app N0 N137q
  have S140 : ∀ t, Steps p.tables e below (T137.setTop (mkF m 45 #[.val (.ref a1), .val (.ref t1), .val (.int (0 : Int32)), .val (.int (2 : Int32)), .val .null, .val (.ref b130)] [(.int (2 : Int32)), (.ref b130), (.ref a1)])) t → Steps p.tables e below (T137.setTop (mkF m 39 #[.val (.ref a1), .val (.ref t1), .val (.int (0 : Int32)), .val (.int (2 : Int32)), .val .null, .unset] [(.ref b130)])) t := by
    intro t kt
    show Steps p.tables e below (T137.setTop (mkF m 39 #[.val (.ref a1), .val (.ref t1), .val (.int (0 : Int32)), .val (.int (2 : Int32)), .val .null, .unset] [(.ref b130)])) _
    refine XS.astore X137.here hx rfl (hb hby d3_39) rfl rfl (l' := #[.val (.ref a1), .val (.ref t1), .val (.int (0 : Int32)), .val (.int (2 : Int32)), .val .null, .val (.ref b130)]) rfl ?_
    show Steps p.tables e below (T137.setTop (mkF m 41 #[.val (.ref a1), .val (.ref t1), .val (.int (0 : Int32)), .val (.int (2 : Int32)), .val .null, .val (.ref b130)] [])) _
    refine XS.aloadN X137.here hx rfl (hb hby d3_41) rfl rfl ?_
    show Steps p.tables e below (T137.setTop (mkF m 42 #[.val (.ref a1), .val (.ref t1), .val (.int (0 : Int32)), .val (.int (2 : Int32)), .val .null, .val (.ref b130)] [(.ref a1)])) _
    refine XS.aload X137.here hx rfl (hb hby d3_42) rfl rfl ?_
    show Steps p.tables e below (T137.setTop (mkF m 44 #[.val (.ref a1), .val (.ref t1), .val (.int (0 : Int32)), .val (.int (2 : Int32)), .val .null, .val (.ref b130)] [(.ref b130), (.ref a1)])) _
    refine XS.iloadN X137.here hx rfl (hb hby d3_44) rfl ?_
    exact kt
  obtain ⟨_, _, ⟨T141, L141, k141, n141⟩, -, X141, ⟨Lc141, hQ141, l141, y141, z141⟩, st141⟩ := Jvm.LawKit.callS X137 hx (y := (⟨"java/lang/StringUTF16", "coderFromArrayLen", "([BI)B"⟩ : MethodName)) hown (mvT hZ (hw _ (List.mem_of_getElem? (i := 27) rfl))) (mvT hZ (hw _ (List.mem_of_getElem? (i := 28) rfl))) (mvT hZ (hw _ (List.mem_of_getElem? (i := 21) rfl))) (mvT hZ (hw _ (List.mem_of_getElem? (i := 29) rfl))) (by decide) (backOf (W := 1) (rm_k3_2 l Z a0 hw [] b130 g131 h137 n0 z139 F138) hZ (hw _ (List.mem_of_getElem? (i := 29) rfl)) (hw _ (List.mem_of_getElem? (i := 21) rfl)) (by decide) (by decide)) (g := (mkF m 45 #[.val (.ref a1), .val (.ref t1), .val (.int (0 : Int32)), .val (.int (2 : Int32)), .val .null, .val (.ref b130)] [(.int (2 : Int32)), (.ref b130), (.ref a1)])) rfl (by rw [hml]; rfl) (argsL := [(.ref b130), (.int (2 : Int32))]) (rest := [(.ref a1)]) (lenOf pd_7 rfl) rfl (by show 2 * 0 + _ ≤ _; exact Nat.le_of_eq rfl) (hb hby d3_45) (fun _ _ => ⟨rfl, e137, (by decide : 1 + 0 ≤ _), (by decide : 2 + 0 ≤ _)⟩)
  dsimp only [Pt.U, Pt.locs, Pt.cells, Pt.slots] at X141 l141 y141 z141 st141 hQ141
  subst l141 y141 z141
  obtain ⟨rfl, N141q, e141⟩ := hQ141
  have N141 := Fr.app N137 N141q
  have f142 := (F128.keep K137q nin0)
  have f143 := (F126.keep K137q)
  obtain ⟨T144, h144, X144, e144, W144, st144⟩ := putFN X141 hx hZ hown (hw _ (List.mem_of_getElem? (i := 30) rfl)) Via.refl e141 f142 f143 (Or.inr ⟨(hw _ (List.mem_of_getElem? (i := 31) rfl)), rfl, hnm⟩) (hw _ (List.mem_of_getElem? (i := 6) rfl)) (ty := .byte) (v' := (.int (0 : Int32))) (by decide) rfl rfl (g := (mkF m 48 #[.val (.ref a1), .val (.ref t1), .val (.int (0 : Int32)), .val (.int (2 : Int32)), .val .null, .val (.ref b130)] [(.int (0 : Int32)), (.ref a1)])) rfl rfl (hb hby d3_48)
  have z145 : n0 ≤ h144.size := Nat.le_trans z139 (Keep.of_wr W144).1
  have N146 := Fr.snoc X144 N141 g_a1
  have Fw144 := f142.same W144
  have S147 : ∀ t, Steps p.tables e below (T144.setTop (mkF m 54 #[.val (.ref a1), .val (.ref t1), .val (.int (0 : Int32)), .val (.int (2 : Int32)), .val .null, .val (.ref b130)] [(.ref b130), (.ref a1)])) t → Steps p.tables e below (T144.setTop (mkF m 51 #[.val (.ref a1), .val (.ref t1), .val (.int (0 : Int32)), .val (.int (2 : Int32)), .val .null, .val (.ref b130)] [])) t := by
    intro t kt
    show Steps p.tables e below (T144.setTop (mkF m 51 #[.val (.ref a1), .val (.ref t1), .val (.int (0 : Int32)), .val (.int (2 : Int32)), .val .null, .val (.ref b130)] [])) _
    refine XS.aloadN X144.here hx rfl (hb hby d3_51) rfl rfl ?_
    show Steps p.tables e below (T144.setTop (mkF m 52 #[.val (.ref a1), .val (.ref t1), .val (.int (0 : Int32)), .val (.int (2 : Int32)), .val .null, .val (.ref b130)] [(.ref a1)])) _
    refine XS.aload X144.here hx rfl (hb hby d3_52) rfl rfl ?_
    exact kt
  have f148 := ((F127.keep K137q nin0).other W144 (Or.inr (slot_ne (Or.inr (hw _ (List.mem_of_getElem? (i := 33) rfl))) (Or.inr (hw _ (List.mem_of_getElem? (i := 31) rfl))) (by decide) (t := (.array .byte)) (t' := .byte) (by decide) (by decide))))
  have f149 := (f143.wr W144)
  obtain ⟨T150, h150, X150, e150, W150, st150⟩ := putF X144 hx hZ hown (host := "") (Or.inl (hw _ (List.mem_of_getElem? (i := 32) rfl))) Via.refl e144 f148 f149 (Or.inr ⟨(hw _ (List.mem_of_getElem? (i := 33) rfl)), rfl, hnm⟩) (hw _ (List.mem_of_getElem? (i := 6) rfl)) (ty := (.array .byte)) (by decide) rfl rfl (g := (mkF m 54 #[.val (.ref a1), .val (.ref t1), .val (.int (0 : Int32)), .val (.int (2 : Int32)), .val .null, .val (.ref b130)] [(.ref b130), (.ref a1)])) rfl rfl (hb hby d3_54)
  have z151 : n0 ≤ h150.size := Nat.le_trans z145 (Keep.of_wr W150).1
  have N152 := Fr.snoc X150 N146 g_a1
  have Fw150 := f148.same W150
  have C153 : ∀ t, Steps p.tables e below (T150.setTop (mkF m 57 #[.val (.ref a1), .val (.ref t1), .val (.int (0 : Int32)), .val (.int (2 : Int32)), .val .null, .val (.ref b130)] [])) t → Steps p.tables e below (s₁.setTop (mkF m 0 #[.val (.ref a1), .val (.ref t1), .val (.int (0 : Int32)), .val (.int (2 : Int32)), .val .null, .unset] [])) t := (fun t k => (S132 t (st133 t (S134 t (st135 t (S136 t (st137 t (S140 t (st141 t (st144 t (S147 t (st150 t k))))))))))))
  obtain ⟨fs, hr, hrun, hended, hW, hsame⟩ := X150.leave (v := none) (fun _ => rfl)
  refine ⟨_, _, pre0 _ (C153 _ ?_), hrun, hended, _, _, rfl, ?_, ⟨_, rfl⟩, hW, hsame.mono (by decide) (by decide)⟩
  · exact X150.returnOut hx Bd.returns (hb hby d3_57) hr
  · show Q_rm_k4_2 Z a1 t1 cf zc h0 n0 _ T150.heap _
    rw [e150]
    exact ⟨rfl, N152, ((((Keep.refl h0 [a1]).trans K137q all0).wr W144 (Or.inl (List.mem_of_getElem? (i := 0) rfl))).wr W150 (Or.inl (List.mem_of_getElem? (i := 0) rfl)))⟩
theorem ef_rm_k5_2 (m : MethodId) (x0 : Addr) (x1 : Addr) : entryFrame m #[(.ref x0), (.ref x1)] 2 = mkF m 0 #[.val (.ref x0), .val (.ref x1)] [] := by first | (simp [entryFrame, mkF, argsToLocals, Value.category]; done) | rfl
def Q_rm_k5_2 (Z : State) (a1 : Addr) (t1 : Addr) (cf : Nat → Int32) (zc : Int32) (h0 : Heap) (n0 : Nat) (v : Option Value) (h : Heap) (L : List Loc) : Prop := v = none ∧ Fr n0 L ∧ Keep h0 h [a1]
set_option maxRecDepth 65536 in
set_option maxHeartbeats 40000000 in
theorem rm_k5_2 (l : Launch) (Z : State) (a0 : Array Value) (hw : ∀ d ∈ tables_1, d.before a0 Z = true) (ws : List Jvm.Cond) (a1 : Addr) (t1 : Addr) (cf : Nat → Int32) (zc : Int32) (h0 : Heap) (n0 : Nat) (Z0 : n0 ≤ h0.size) (F154 : Exa Z h0 a1 "java/lang/String") (F155 : Fld Z h0 a1 "java/lang/String" "value" "[B" .null) (F156 : Fld Z h0 a1 "java/lang/String" "coder" "B" (.int (0 : Int32))) (F157 : ArF Z h0 t1 .char 2 (fun q => (.int (cf q)))) (g_a1 : n0 ≤ a1) (hcf : ∀ q, ¬ (255 : Int32) < cf q) (O : Old Z n0 h0) (HS : Sta Z Z.heap "java/lang/String" "COMPACT_STRINGS" "Z" (.int zc)) (hzc : ¬ zc = (0 : Int32)) :
    MetFree l (⟨"java/lang/String", "<init>", "([C)V"⟩ : MethodName) (head1 (Jvm.Cond.code (⟨"java/lang/String", "<init>", "([C)V"⟩ : MethodName) jdk_42_method_3_code 2 none :: ws) ({ frames := 3, cells := 1, slots := 2, locals := 52 } : Room)) (fun a U => a = #[(.ref a1), (.ref t1)] ∧ Z.Warmed39 U.vm ∧ U.heap = h0) (fun _ _ _ _ _ => True) (fun _ U o U' => ∃ v L, o = .returned v ∧ Q_rm_k5_2 Z a1 t1 cf zc h0 n0 v U'.heap L ∧ FrameEnd U o U' L ({ frames := 3, cells := 1, slots := 2, locals := 52 } : Room).cells ({ frames := 3, cells := 1, slots := 2, locals := 52 } : Room).slots) := by
  refine MetFree.of_bodySF (plainFor_of_name pn_2) hisR ?_
  intro p e s m args below meth c s₁ Bd hml0 hP hK
  obtain ⟨rfl, hZ, hh⟩ := hP
  have hx := Bd.exec
  have hby := Bd.bytes
  have hml : c.maxLocals = 2 := hml0
  have hown : s.vm.findClass "java/lang/String" = some m.cls := findClass_of_methodNamed Bd.named
  have hnm := (name_of_methodNamed Bd.named Bd.method).1
  have X0 : Stand p l e ({ frames := 3, cells := 1, slots := 2, locals := 52 } : Room) s m #[(.ref a1), (.ref t1)] below meth c s₁ [] 0 0 := Stand.of_body Bd
  have e0 : s₁.heap = h0 := by rw [← hh, Bd.state]; rfl
  have N0 := Fr.nil n0
  have pre0 : ∀ t, Steps p.tables e below (s₁.setTop (mkF m 0 #[.val (.ref a1), .val (.ref t1)] [])) t → Steps p.tables e below (s₁.setTop (entryFrame m #[(.ref a1), (.ref t1)] 2)) t := fun t k => castTop (ef_rm_k5_2 m a1 t1) k
  have S158 : ∀ t, Steps p.tables e below (s₁.setTop (mkF m 6 #[.val (.ref a1), .val (.ref t1)] [.null, (.int (2 : Int32)), (.int (0 : Int32)), (.ref t1), (.ref a1)])) t → Steps p.tables e below (s₁.setTop (mkF m 0 #[.val (.ref a1), .val (.ref t1)] [])) t := by
    intro t kt
    show Steps p.tables e below (s₁.setTop (mkF m 0 #[.val (.ref a1), .val (.ref t1)] [])) _
    refine XS.aloadN X0.here hx rfl (hb hby d2_0) rfl rfl ?_
    show Steps p.tables e below (s₁.setTop (mkF m 1 #[.val (.ref a1), .val (.ref t1)] [(.ref a1)])) _
    refine XS.aloadN X0.here hx rfl (hb hby d2_1) rfl rfl ?_
    show Steps p.tables e below (s₁.setTop (mkF m 2 #[.val (.ref a1), .val (.ref t1)] [(.ref t1), (.ref a1)])) _
    refine XS.iconst X0.here hx rfl (hb hby d2_2) ?_
    show Steps p.tables e below (s₁.setTop (mkF m 3 #[.val (.ref a1), .val (.ref t1)] [(.int (0 : Int32)), (.ref t1), (.ref a1)])) _
    refine XS.aloadN X0.here hx rfl (hb hby d2_3) rfl rfl ?_
    show Steps p.tables e below (s₁.setTop (mkF m 4 #[.val (.ref a1), .val (.ref t1)] [(.ref t1), (.int (0 : Int32)), (.ref t1), (.ref a1)])) _
    refine ArF.len X0 hx hZ e0 F157 (g := (mkF m 4 #[.val (.ref a1), .val (.ref t1)] [(.ref t1), (.int (0 : Int32)), (.ref t1), (.ref a1)])) rfl rfl (hb hby d2_4) _ ?_
    show Steps p.tables e below (s₁.setTop (mkF m 5 #[.val (.ref a1), .val (.ref t1)] [(.int (2 : Int32)), (.int (0 : Int32)), (.ref t1), (.ref a1)])) _
    refine XS.aconstNull X0.here hx rfl (hb hby d2_5) ?_
    exact kt
  obtain ⟨_, _, ⟨T159, L159, k159, n159⟩, -, X159, ⟨Lc159, hQ159, l159, y159, z159⟩, st159⟩ := X0.specialBack hx (y := (⟨"java/lang/String", "<init>", "([CIILjava/lang/Void;)V"⟩ : MethodName)) rfl hown (mvT hZ (hw _ (List.mem_of_getElem? (i := 11) rfl))) (mvT hZ (hw _ (List.mem_of_getElem? (i := 12) rfl))) (mvT hZ (hw _ (List.mem_of_getElem? (i := 14) rfl))) (by decide) (backOf (W := 0) (rm_k4_2 l Z a0 hw [] a1 t1 cf zc h0 n0 Z0 F154 F155 F156 F157 g_a1 hcf O HS hzc) hZ (hw _ (List.mem_of_getElem? (i := 14) rfl)) (hw _ (List.mem_of_getElem? (i := 7) rfl)) (by decide) (by decide)) (g := (mkF m 6 #[.val (.ref a1), .val (.ref t1)] [.null, (.int (2 : Int32)), (.int (0 : Int32)), (.ref t1), (.ref a1)])) rfl (by rw [hml]; rfl) (Steps.refl _) (a := a1) (argsL := [(.ref t1), (.int (0 : Int32)), (.int (2 : Int32)), .null]) (rest := []) (lenOf pd_8 rfl) rfl (by show 2 * 0 + _ ≤ _; exact Nat.le_of_eq rfl) (hb hby d2_6) (fun _ _ => ⟨rfl, e0, (by decide : 0 + 1 ≤ _), (by decide : 0 + 2 ≤ _)⟩)
  dsimp only [Pt.U, Pt.locs, Pt.cells, Pt.slots] at X159 l159 y159 z159 st159 hQ159
  subst l159 y159 z159
  obtain ⟨h159, e159⟩ : ∃ z, T159.heap = z := ⟨_, rfl⟩
  rw [e159] at hQ159
  obtain ⟨rfl, N159q, K159q⟩ := hQ159
  have z160 : n0 ≤ h159.size := Nat.le_trans Z0 K159q.1
  have N159 := Fr.app N0 N159q
  have C161 : ∀ t, Steps p.tables e below (T159.setTop (mkF m 9 #[.val (.ref a1), .val (.ref t1)] [])) t → Steps p.tables e below (s₁.setTop (mkF m 0 #[.val (.ref a1), .val (.ref t1)] [])) t := (fun t k => (S158 t (st159.trans k)))
  obtain ⟨fs, hr, hrun, hended, hW, hsame⟩ := X159.leave (v := none) (fun _ => rfl)
  refine ⟨_, _, pre0 _ (C161 _ ?_), hrun, hended, _, _, rfl, ?_, ⟨_, rfl⟩, hW, hsame.mono (by decide) (by decide)⟩
  · exact X159.returnOut hx Bd.returns (hb hby d2_9) hr
  · show Q_rm_k5_2 Z a1 t1 cf zc h0 n0 _ T159.heap _
    rw [e159]
    exact ⟨rfl, N159, ((Keep.refl h0 [a1]).trans K159q (allS (Or.inl (List.mem_of_getElem? (i := 0) rfl)) all0))⟩
theorem ef_rm_k1_3 (m : MethodId) (x0 : Addr) (x1 : Int32) (x2 : Addr) (x3 : Int32) (x4 : Int32) : entryFrame m #[(.ref x0), (.int x1), (.ref x2), (.int x3), (.int x4)] 7 = mkF m 0 #[.val (.ref x0), .val (.int x1), .val (.ref x2), .val (.int x3), .val (.int x4), .unset, .unset] [] := by first | (simp [entryFrame, mkF, argsToLocals, Value.category]; done) | rfl
def Q_rm_k1_3 (Z : State) (t1 : Addr) (d1 : Addr) (cf : Nat → Int32) (df : Nat → Value) (h0 : Heap) (n0 : Nat) (v : Option Value) (h : Heap) (L : List Loc) : Prop := v = some (.int 3) ∧ Fr n0 L ∧ Keep h0 h [d1] ∧ ∃ g, ArF Z h d1 .byte 3 g
set_option maxRecDepth 65536 in
set_option maxHeartbeats 40000000 in
theorem rm_k1_3 (l : Launch) (Z : State) (a0 : Array Value) (hw : ∀ d ∈ tables_1, d.before a0 Z = true) (ws : List Jvm.Cond) (t1 : Addr) (d1 : Addr) (cf : Nat → Int32) (df : Nat → Value) (h0 : Heap) (n0 : Nat) (Z0 : n0 ≤ h0.size) (F162 : ArF Z h0 t1 .char 3 (fun q => (.int (cf q)))) (F163 : ArF Z h0 d1 .byte 3 df) (g_d1 : n0 ≤ d1) (ne_t1_d1 : t1 ≠ d1) (hcf : ∀ q, ¬ (255 : Int32) < cf q) :
    MetFree l (⟨"java/lang/StringUTF16", "compress", "([CI[BII)I"⟩ : MethodName) (head1 (Jvm.Cond.code (⟨"java/lang/StringUTF16", "compress", "([CI[BII)I"⟩ : MethodName) jdk_52_method_21_code 7 (some .int) :: ws) ({ frames := 0, cells := 0, slots := 0, locals := 0 } : Room)) (fun a U => a = #[(.ref t1), (.int (0 : Int32)), (.ref d1), (.int (0 : Int32)), (.int (3 : Int32))] ∧ Z.Warmed39 U.vm ∧ U.heap = h0) (fun _ _ _ _ _ => True) (fun _ U o U' => ∃ v L, o = .returned v ∧ Q_rm_k1_3 Z t1 d1 cf df h0 n0 v U'.heap L ∧ FrameEnd U o U' L ({ frames := 0, cells := 0, slots := 0, locals := 0 } : Room).cells ({ frames := 0, cells := 0, slots := 0, locals := 0 } : Room).slots) := by
  refine MetFree.of_bodySF (plainFor_of_name pn_4) hisR ?_
  intro p e s m args below meth c s₁ Bd hml0 hP hK
  obtain ⟨rfl, hZ, hh⟩ := hP
  have hx := Bd.exec
  have hby := Bd.bytes
  have hml : c.maxLocals = 7 := hml0
  have hown : s.vm.findClass "java/lang/StringUTF16" = some m.cls := findClass_of_methodNamed Bd.named
  have hnm := (name_of_methodNamed Bd.named Bd.method).1
  have X0 : Stand p l e ({ frames := 0, cells := 0, slots := 0, locals := 0 } : Room) s m #[(.ref t1), (.int (0 : Int32)), (.ref d1), (.int (0 : Int32)), (.int (3 : Int32))] below meth c s₁ [] 0 0 := Stand.of_body Bd
  have e0 : s₁.heap = h0 := by rw [← hh, Bd.state]; rfl
  have N0 := Fr.nil n0
  have pre0 : ∀ t, Steps p.tables e below (s₁.setTop (mkF m 0 #[.val (.ref t1), .val (.int (0 : Int32)), .val (.ref d1), .val (.int (0 : Int32)), .val (.int (3 : Int32)), .unset, .unset] [])) t → Steps p.tables e below (s₁.setTop (entryFrame m #[(.ref t1), (.int (0 : Int32)), (.ref d1), (.int (0 : Int32)), (.int (3 : Int32))] 7)) t := fun t k => castTop (ef_rm_k1_3 m t1 (0 : Int32) d1 (0 : Int32) (3 : Int32)) k
  have S164 : ∀ t, Steps p.tables e below (s₁.setTop (mkF m 31 #[.val (.ref t1), .val (.int (0 : Int32)), .val (.ref d1), .val (.int (0 : Int32)), .val (.int (3 : Int32)), .val (.int (0 : Int32)), .val (.int (cf 0))] [(.int ((cf 0).toInt8.toInt32)), (.int (0 : Int32)), (.ref d1)])) t → Steps p.tables e below (s₁.setTop (mkF m 0 #[.val (.ref t1), .val (.int (0 : Int32)), .val (.ref d1), .val (.int (0 : Int32)), .val (.int (3 : Int32)), .unset, .unset] [])) t := by
    intro t kt
    show Steps p.tables e below (s₁.setTop (mkF m 0 #[.val (.ref t1), .val (.int (0 : Int32)), .val (.ref d1), .val (.int (0 : Int32)), .val (.int (3 : Int32)), .unset, .unset] [])) _
    refine XS.iconst X0.here hx rfl (hb hby d6_0) ?_
    show Steps p.tables e below (s₁.setTop (mkF m 1 #[.val (.ref t1), .val (.int (0 : Int32)), .val (.ref d1), .val (.int (0 : Int32)), .val (.int (3 : Int32)), .unset, .unset] [(.int (0 : Int32))])) _
    refine XS.istore X0.here hx rfl (hb hby d6_1) rfl (l' := #[.val (.ref t1), .val (.int (0 : Int32)), .val (.ref d1), .val (.int (0 : Int32)), .val (.int (3 : Int32)), .val (.int (0 : Int32)), .unset]) rfl ?_
    show Steps p.tables e below (s₁.setTop (mkF m 3 #[.val (.ref t1), .val (.int (0 : Int32)), .val (.ref d1), .val (.int (0 : Int32)), .val (.int (3 : Int32)), .val (.int (0 : Int32)), .unset] [])) _
    refine XS.iload X0.here hx rfl (hb hby d6_3) rfl ?_
    show Steps p.tables e below (s₁.setTop (mkF m 5 #[.val (.ref t1), .val (.int (0 : Int32)), .val (.ref d1), .val (.int (0 : Int32)), .val (.int (3 : Int32)), .val (.int (0 : Int32)), .unset] [(.int (0 : Int32))])) _
    refine XS.iload X0.here hx rfl (hb hby d6_5) rfl ?_
    show Steps p.tables e below (s₁.setTop (mkF m 7 #[.val (.ref t1), .val (.int (0 : Int32)), .val (.ref d1), .val (.int (0 : Int32)), .val (.int (3 : Int32)), .val (.int (0 : Int32)), .unset] [(.int (3 : Int32)), (.int (0 : Int32))])) _
    refine XS.icmpNo X0.here hx rfl (hb hby d6_7) rfl (tlt (by decide)).2.1 ?_
    show Steps p.tables e below (s₁.setTop (mkF m 10 #[.val (.ref t1), .val (.int (0 : Int32)), .val (.ref d1), .val (.int (0 : Int32)), .val (.int (3 : Int32)), .val (.int (0 : Int32)), .unset] [])) _
    refine XS.aloadN X0.here hx rfl (hb hby d6_10) rfl rfl ?_
    show Steps p.tables e below (s₁.setTop (mkF m 11 #[.val (.ref t1), .val (.int (0 : Int32)), .val (.ref d1), .val (.int (0 : Int32)), .val (.int (3 : Int32)), .val (.int (0 : Int32)), .unset] [(.ref t1)])) _
    refine XS.iloadN X0.here hx rfl (hb hby d6_11) rfl ?_
    show Steps p.tables e below (s₁.setTop (mkF m 12 #[.val (.ref t1), .val (.int (0 : Int32)), .val (.ref d1), .val (.int (0 : Int32)), .val (.int (3 : Int32)), .val (.int (0 : Int32)), .unset] [(.int (0 : Int32)), (.ref t1)])) _
    refine ArF.ldC X0 hx hZ e0 F162 (i := 0) (by decide) (by decide) (v := (cf 0)) rfl (g := (mkF m 12 #[.val (.ref t1), .val (.int (0 : Int32)), .val (.ref d1), .val (.int (0 : Int32)), .val (.int (3 : Int32)), .val (.int (0 : Int32)), .unset] [(.int (0 : Int32)), (.ref t1)])) rfl rfl (hb hby d6_12) _ ?_
    show Steps p.tables e below (s₁.setTop (mkF m 13 #[.val (.ref t1), .val (.int (0 : Int32)), .val (.ref d1), .val (.int (0 : Int32)), .val (.int (3 : Int32)), .val (.int (0 : Int32)), .unset] [(.int (cf 0))])) _
    refine XS.istore X0.here hx rfl (hb hby d6_13) rfl (l' := #[.val (.ref t1), .val (.int (0 : Int32)), .val (.ref d1), .val (.int (0 : Int32)), .val (.int (3 : Int32)), .val (.int (0 : Int32)), .val (.int (cf 0))]) rfl ?_
    show Steps p.tables e below (s₁.setTop (mkF m 15 #[.val (.ref t1), .val (.int (0 : Int32)), .val (.ref d1), .val (.int (0 : Int32)), .val (.int (3 : Int32)), .val (.int (0 : Int32)), .val (.int (cf 0))] [])) _
    refine XS.iload X0.here hx rfl (hb hby d6_15) rfl ?_
    show Steps p.tables e below (s₁.setTop (mkF m 17 #[.val (.ref t1), .val (.int (0 : Int32)), .val (.ref d1), .val (.int (0 : Int32)), .val (.int (3 : Int32)), .val (.int (0 : Int32)), .val (.int (cf 0))] [(.int (cf 0))])) _
    refine XS.sipush X0.here hx rfl (hb hby d6_17) ?_
    show Steps p.tables e below (s₁.setTop (mkF m 20 #[.val (.ref t1), .val (.int (0 : Int32)), .val (.ref d1), .val (.int (0 : Int32)), .val (.int (3 : Int32)), .val (.int (0 : Int32)), .val (.int (cf 0))] [(.int (255 : Int32)), (.int (cf 0))])) _
    refine XS.icmpYes X0.here hx rfl (pc0 := 20) (pc' := 26) rfl (hb hby d6_20) rfl (flt (hcf _)).2.2.2 (by decide) (by decide) ?_
    show Steps p.tables e below (s₁.setTop (mkF m 26 #[.val (.ref t1), .val (.int (0 : Int32)), .val (.ref d1), .val (.int (0 : Int32)), .val (.int (3 : Int32)), .val (.int (0 : Int32)), .val (.int (cf 0))] [])) _
    refine XS.aloadN X0.here hx rfl (hb hby d6_26) rfl rfl ?_
    show Steps p.tables e below (s₁.setTop (mkF m 27 #[.val (.ref t1), .val (.int (0 : Int32)), .val (.ref d1), .val (.int (0 : Int32)), .val (.int (3 : Int32)), .val (.int (0 : Int32)), .val (.int (cf 0))] [(.ref d1)])) _
    refine XS.iloadN X0.here hx rfl (hb hby d6_27) rfl ?_
    show Steps p.tables e below (s₁.setTop (mkF m 28 #[.val (.ref t1), .val (.int (0 : Int32)), .val (.ref d1), .val (.int (0 : Int32)), .val (.int (3 : Int32)), .val (.int (0 : Int32)), .val (.int (cf 0))] [(.int (0 : Int32)), (.ref d1)])) _
    refine XS.iload X0.here hx rfl (hb hby d6_28) rfl ?_
    show Steps p.tables e below (s₁.setTop (mkF m 30 #[.val (.ref t1), .val (.int (0 : Int32)), .val (.ref d1), .val (.int (0 : Int32)), .val (.int (3 : Int32)), .val (.int (0 : Int32)), .val (.int (cf 0))] [(.int (cf 0)), (.int (0 : Int32)), (.ref d1)])) _
    refine XS.i2b X0.here hx rfl (hb hby d6_30) rfl ?_
    exact kt
  obtain ⟨T165, h165, X165, e165, W165, V165, st165⟩ := ArF.stB X0 hx hZ e0 F163 (i := 0) (by decide) (by decide) (g := (mkF m 31 #[.val (.ref t1), .val (.int (0 : Int32)), .val (.ref d1), .val (.int (0 : Int32)), .val (.int (3 : Int32)), .val (.int (0 : Int32)), .val (.int (cf 0))] [(.int ((cf 0).toInt8.toInt32)), (.int (0 : Int32)), (.ref d1)])) rfl rfl (hb hby d6_31)
  have z166 : n0 ≤ h165.size := Nat.le_trans Z0 (Keep.of_wr W165).1
  have N167 := Fr.snoc X165 N0 g_d1
  have S168 : ∀ t, Steps p.tables e below (T165.setTop (mkF m 12 #[.val (.ref t1), .val (.int (1 : Int32)), .val (.ref d1), .val (.int (1 : Int32)), .val (.int (3 : Int32)), .val (.int (1 : Int32)), .val (.int (cf 0))] [(.int (1 : Int32)), (.ref t1)])) t → Steps p.tables e below (T165.setTop (mkF m 32 #[.val (.ref t1), .val (.int (0 : Int32)), .val (.ref d1), .val (.int (0 : Int32)), .val (.int (3 : Int32)), .val (.int (0 : Int32)), .val (.int (cf 0))] [])) t := by
    intro t kt
    show Steps p.tables e below (T165.setTop (mkF m 32 #[.val (.ref t1), .val (.int (0 : Int32)), .val (.ref d1), .val (.int (0 : Int32)), .val (.int (3 : Int32)), .val (.int (0 : Int32)), .val (.int (cf 0))] [])) _
    refine XS.iinc X165.here hx rfl (hb hby d6_32) rfl (l' := #[.val (.ref t1), .val (.int (1 : Int32)), .val (.ref d1), .val (.int (0 : Int32)), .val (.int (3 : Int32)), .val (.int (0 : Int32)), .val (.int (cf 0))]) rfl ?_
    show Steps p.tables e below (T165.setTop (mkF m 35 #[.val (.ref t1), .val (.int (1 : Int32)), .val (.ref d1), .val (.int (0 : Int32)), .val (.int (3 : Int32)), .val (.int (0 : Int32)), .val (.int (cf 0))] [])) _
    refine XS.iinc X165.here hx rfl (hb hby d6_35) rfl (l' := #[.val (.ref t1), .val (.int (1 : Int32)), .val (.ref d1), .val (.int (1 : Int32)), .val (.int (3 : Int32)), .val (.int (0 : Int32)), .val (.int (cf 0))]) rfl ?_
    show Steps p.tables e below (T165.setTop (mkF m 38 #[.val (.ref t1), .val (.int (1 : Int32)), .val (.ref d1), .val (.int (1 : Int32)), .val (.int (3 : Int32)), .val (.int (0 : Int32)), .val (.int (cf 0))] [])) _
    refine XS.iinc X165.here hx rfl (hb hby d6_38) rfl (l' := #[.val (.ref t1), .val (.int (1 : Int32)), .val (.ref d1), .val (.int (1 : Int32)), .val (.int (3 : Int32)), .val (.int (1 : Int32)), .val (.int (cf 0))]) rfl ?_
    show Steps p.tables e below (T165.setTop (mkF m 41 #[.val (.ref t1), .val (.int (1 : Int32)), .val (.ref d1), .val (.int (1 : Int32)), .val (.int (3 : Int32)), .val (.int (1 : Int32)), .val (.int (cf 0))] [])) _
    refine XS.goto X165.here hx rfl (pc0 := 41) (pc' := 3) rfl (hb hby d6_41) (by decide) (by decide) ?_
    show Steps p.tables e below (T165.setTop (mkF m 3 #[.val (.ref t1), .val (.int (1 : Int32)), .val (.ref d1), .val (.int (1 : Int32)), .val (.int (3 : Int32)), .val (.int (1 : Int32)), .val (.int (cf 0))] [])) _
    refine XS.iload X165.here hx rfl (hb hby d6_3) rfl ?_
    show Steps p.tables e below (T165.setTop (mkF m 5 #[.val (.ref t1), .val (.int (1 : Int32)), .val (.ref d1), .val (.int (1 : Int32)), .val (.int (3 : Int32)), .val (.int (1 : Int32)), .val (.int (cf 0))] [(.int (1 : Int32))])) _
    refine XS.iload X165.here hx rfl (hb hby d6_5) rfl ?_
    show Steps p.tables e below (T165.setTop (mkF m 7 #[.val (.ref t1), .val (.int (1 : Int32)), .val (.ref d1), .val (.int (1 : Int32)), .val (.int (3 : Int32)), .val (.int (1 : Int32)), .val (.int (cf 0))] [(.int (3 : Int32)), (.int (1 : Int32))])) _
    refine XS.icmpNo X165.here hx rfl (hb hby d6_7) rfl (tlt (by decide)).2.1 ?_
    show Steps p.tables e below (T165.setTop (mkF m 10 #[.val (.ref t1), .val (.int (1 : Int32)), .val (.ref d1), .val (.int (1 : Int32)), .val (.int (3 : Int32)), .val (.int (1 : Int32)), .val (.int (cf 0))] [])) _
    refine XS.aloadN X165.here hx rfl (hb hby d6_10) rfl rfl ?_
    show Steps p.tables e below (T165.setTop (mkF m 11 #[.val (.ref t1), .val (.int (1 : Int32)), .val (.ref d1), .val (.int (1 : Int32)), .val (.int (3 : Int32)), .val (.int (1 : Int32)), .val (.int (cf 0))] [(.ref t1)])) _
    refine XS.iloadN X165.here hx rfl (hb hby d6_11) rfl ?_
    exact kt
  have f169 := (F162.other W165 ne_t1_d1)
  have S170 : ∀ t, Steps p.tables e below (T165.setTop (mkF m 31 #[.val (.ref t1), .val (.int (1 : Int32)), .val (.ref d1), .val (.int (1 : Int32)), .val (.int (3 : Int32)), .val (.int (1 : Int32)), .val (.int (cf 1))] [(.int ((cf 1).toInt8.toInt32)), (.int (1 : Int32)), (.ref d1)])) t → Steps p.tables e below (T165.setTop (mkF m 12 #[.val (.ref t1), .val (.int (1 : Int32)), .val (.ref d1), .val (.int (1 : Int32)), .val (.int (3 : Int32)), .val (.int (1 : Int32)), .val (.int (cf 0))] [(.int (1 : Int32)), (.ref t1)])) t := by
    intro t kt
    show Steps p.tables e below (T165.setTop (mkF m 12 #[.val (.ref t1), .val (.int (1 : Int32)), .val (.ref d1), .val (.int (1 : Int32)), .val (.int (3 : Int32)), .val (.int (1 : Int32)), .val (.int (cf 0))] [(.int (1 : Int32)), (.ref t1)])) _
    refine ArF.ldC X165 hx hZ e165 f169 (i := 1) (by decide) (by decide) (v := (cf 1)) rfl (g := (mkF m 12 #[.val (.ref t1), .val (.int (1 : Int32)), .val (.ref d1), .val (.int (1 : Int32)), .val (.int (3 : Int32)), .val (.int (1 : Int32)), .val (.int (cf 0))] [(.int (1 : Int32)), (.ref t1)])) rfl rfl (hb hby d6_12) _ ?_
    show Steps p.tables e below (T165.setTop (mkF m 13 #[.val (.ref t1), .val (.int (1 : Int32)), .val (.ref d1), .val (.int (1 : Int32)), .val (.int (3 : Int32)), .val (.int (1 : Int32)), .val (.int (cf 0))] [(.int (cf 1))])) _
    refine XS.istore X165.here hx rfl (hb hby d6_13) rfl (l' := #[.val (.ref t1), .val (.int (1 : Int32)), .val (.ref d1), .val (.int (1 : Int32)), .val (.int (3 : Int32)), .val (.int (1 : Int32)), .val (.int (cf 1))]) rfl ?_
    show Steps p.tables e below (T165.setTop (mkF m 15 #[.val (.ref t1), .val (.int (1 : Int32)), .val (.ref d1), .val (.int (1 : Int32)), .val (.int (3 : Int32)), .val (.int (1 : Int32)), .val (.int (cf 1))] [])) _
    refine XS.iload X165.here hx rfl (hb hby d6_15) rfl ?_
    show Steps p.tables e below (T165.setTop (mkF m 17 #[.val (.ref t1), .val (.int (1 : Int32)), .val (.ref d1), .val (.int (1 : Int32)), .val (.int (3 : Int32)), .val (.int (1 : Int32)), .val (.int (cf 1))] [(.int (cf 1))])) _
    refine XS.sipush X165.here hx rfl (hb hby d6_17) ?_
    show Steps p.tables e below (T165.setTop (mkF m 20 #[.val (.ref t1), .val (.int (1 : Int32)), .val (.ref d1), .val (.int (1 : Int32)), .val (.int (3 : Int32)), .val (.int (1 : Int32)), .val (.int (cf 1))] [(.int (255 : Int32)), (.int (cf 1))])) _
    refine XS.icmpYes X165.here hx rfl (pc0 := 20) (pc' := 26) rfl (hb hby d6_20) rfl (flt (hcf _)).2.2.2 (by decide) (by decide) ?_
    show Steps p.tables e below (T165.setTop (mkF m 26 #[.val (.ref t1), .val (.int (1 : Int32)), .val (.ref d1), .val (.int (1 : Int32)), .val (.int (3 : Int32)), .val (.int (1 : Int32)), .val (.int (cf 1))] [])) _
    refine XS.aloadN X165.here hx rfl (hb hby d6_26) rfl rfl ?_
    show Steps p.tables e below (T165.setTop (mkF m 27 #[.val (.ref t1), .val (.int (1 : Int32)), .val (.ref d1), .val (.int (1 : Int32)), .val (.int (3 : Int32)), .val (.int (1 : Int32)), .val (.int (cf 1))] [(.ref d1)])) _
    refine XS.iloadN X165.here hx rfl (hb hby d6_27) rfl ?_
    show Steps p.tables e below (T165.setTop (mkF m 28 #[.val (.ref t1), .val (.int (1 : Int32)), .val (.ref d1), .val (.int (1 : Int32)), .val (.int (3 : Int32)), .val (.int (1 : Int32)), .val (.int (cf 1))] [(.int (1 : Int32)), (.ref d1)])) _
    refine XS.iload X165.here hx rfl (hb hby d6_28) rfl ?_
    show Steps p.tables e below (T165.setTop (mkF m 30 #[.val (.ref t1), .val (.int (1 : Int32)), .val (.ref d1), .val (.int (1 : Int32)), .val (.int (3 : Int32)), .val (.int (1 : Int32)), .val (.int (cf 1))] [(.int (cf 1)), (.int (1 : Int32)), (.ref d1)])) _
    refine XS.i2b X165.here hx rfl (hb hby d6_30) rfl ?_
    exact kt
  obtain ⟨T171, h171, X171, e171, W171, V171, st171⟩ := ArF.stB X165 hx hZ e165 V165 (i := 1) (by decide) (by decide) (g := (mkF m 31 #[.val (.ref t1), .val (.int (1 : Int32)), .val (.ref d1), .val (.int (1 : Int32)), .val (.int (3 : Int32)), .val (.int (1 : Int32)), .val (.int (cf 1))] [(.int ((cf 1).toInt8.toInt32)), (.int (1 : Int32)), (.ref d1)])) rfl rfl (hb hby d6_31)
  have z172 : n0 ≤ h171.size := Nat.le_trans z166 (Keep.of_wr W171).1
  have N173 := Fr.snoc X171 N167 g_d1
  have S174 : ∀ t, Steps p.tables e below (T171.setTop (mkF m 12 #[.val (.ref t1), .val (.int (2 : Int32)), .val (.ref d1), .val (.int (2 : Int32)), .val (.int (3 : Int32)), .val (.int (2 : Int32)), .val (.int (cf 1))] [(.int (2 : Int32)), (.ref t1)])) t → Steps p.tables e below (T171.setTop (mkF m 32 #[.val (.ref t1), .val (.int (1 : Int32)), .val (.ref d1), .val (.int (1 : Int32)), .val (.int (3 : Int32)), .val (.int (1 : Int32)), .val (.int (cf 1))] [])) t := by
    intro t kt
    show Steps p.tables e below (T171.setTop (mkF m 32 #[.val (.ref t1), .val (.int (1 : Int32)), .val (.ref d1), .val (.int (1 : Int32)), .val (.int (3 : Int32)), .val (.int (1 : Int32)), .val (.int (cf 1))] [])) _
    refine XS.iinc X171.here hx rfl (hb hby d6_32) rfl (l' := #[.val (.ref t1), .val (.int (2 : Int32)), .val (.ref d1), .val (.int (1 : Int32)), .val (.int (3 : Int32)), .val (.int (1 : Int32)), .val (.int (cf 1))]) rfl ?_
    show Steps p.tables e below (T171.setTop (mkF m 35 #[.val (.ref t1), .val (.int (2 : Int32)), .val (.ref d1), .val (.int (1 : Int32)), .val (.int (3 : Int32)), .val (.int (1 : Int32)), .val (.int (cf 1))] [])) _
    refine XS.iinc X171.here hx rfl (hb hby d6_35) rfl (l' := #[.val (.ref t1), .val (.int (2 : Int32)), .val (.ref d1), .val (.int (2 : Int32)), .val (.int (3 : Int32)), .val (.int (1 : Int32)), .val (.int (cf 1))]) rfl ?_
    show Steps p.tables e below (T171.setTop (mkF m 38 #[.val (.ref t1), .val (.int (2 : Int32)), .val (.ref d1), .val (.int (2 : Int32)), .val (.int (3 : Int32)), .val (.int (1 : Int32)), .val (.int (cf 1))] [])) _
    refine XS.iinc X171.here hx rfl (hb hby d6_38) rfl (l' := #[.val (.ref t1), .val (.int (2 : Int32)), .val (.ref d1), .val (.int (2 : Int32)), .val (.int (3 : Int32)), .val (.int (2 : Int32)), .val (.int (cf 1))]) rfl ?_
    show Steps p.tables e below (T171.setTop (mkF m 41 #[.val (.ref t1), .val (.int (2 : Int32)), .val (.ref d1), .val (.int (2 : Int32)), .val (.int (3 : Int32)), .val (.int (2 : Int32)), .val (.int (cf 1))] [])) _
    refine XS.goto X171.here hx rfl (pc0 := 41) (pc' := 3) rfl (hb hby d6_41) (by decide) (by decide) ?_
    show Steps p.tables e below (T171.setTop (mkF m 3 #[.val (.ref t1), .val (.int (2 : Int32)), .val (.ref d1), .val (.int (2 : Int32)), .val (.int (3 : Int32)), .val (.int (2 : Int32)), .val (.int (cf 1))] [])) _
    refine XS.iload X171.here hx rfl (hb hby d6_3) rfl ?_
    show Steps p.tables e below (T171.setTop (mkF m 5 #[.val (.ref t1), .val (.int (2 : Int32)), .val (.ref d1), .val (.int (2 : Int32)), .val (.int (3 : Int32)), .val (.int (2 : Int32)), .val (.int (cf 1))] [(.int (2 : Int32))])) _
    refine XS.iload X171.here hx rfl (hb hby d6_5) rfl ?_
    show Steps p.tables e below (T171.setTop (mkF m 7 #[.val (.ref t1), .val (.int (2 : Int32)), .val (.ref d1), .val (.int (2 : Int32)), .val (.int (3 : Int32)), .val (.int (2 : Int32)), .val (.int (cf 1))] [(.int (3 : Int32)), (.int (2 : Int32))])) _
    refine XS.icmpNo X171.here hx rfl (hb hby d6_7) rfl (tlt (by decide)).2.1 ?_
    show Steps p.tables e below (T171.setTop (mkF m 10 #[.val (.ref t1), .val (.int (2 : Int32)), .val (.ref d1), .val (.int (2 : Int32)), .val (.int (3 : Int32)), .val (.int (2 : Int32)), .val (.int (cf 1))] [])) _
    refine XS.aloadN X171.here hx rfl (hb hby d6_10) rfl rfl ?_
    show Steps p.tables e below (T171.setTop (mkF m 11 #[.val (.ref t1), .val (.int (2 : Int32)), .val (.ref d1), .val (.int (2 : Int32)), .val (.int (3 : Int32)), .val (.int (2 : Int32)), .val (.int (cf 1))] [(.ref t1)])) _
    refine XS.iloadN X171.here hx rfl (hb hby d6_11) rfl ?_
    exact kt
  have f175 := (f169.other W171 ne_t1_d1)
  have S176 : ∀ t, Steps p.tables e below (T171.setTop (mkF m 31 #[.val (.ref t1), .val (.int (2 : Int32)), .val (.ref d1), .val (.int (2 : Int32)), .val (.int (3 : Int32)), .val (.int (2 : Int32)), .val (.int (cf 2))] [(.int ((cf 2).toInt8.toInt32)), (.int (2 : Int32)), (.ref d1)])) t → Steps p.tables e below (T171.setTop (mkF m 12 #[.val (.ref t1), .val (.int (2 : Int32)), .val (.ref d1), .val (.int (2 : Int32)), .val (.int (3 : Int32)), .val (.int (2 : Int32)), .val (.int (cf 1))] [(.int (2 : Int32)), (.ref t1)])) t := by
    intro t kt
    show Steps p.tables e below (T171.setTop (mkF m 12 #[.val (.ref t1), .val (.int (2 : Int32)), .val (.ref d1), .val (.int (2 : Int32)), .val (.int (3 : Int32)), .val (.int (2 : Int32)), .val (.int (cf 1))] [(.int (2 : Int32)), (.ref t1)])) _
    refine ArF.ldC X171 hx hZ e171 f175 (i := 2) (by decide) (by decide) (v := (cf 2)) rfl (g := (mkF m 12 #[.val (.ref t1), .val (.int (2 : Int32)), .val (.ref d1), .val (.int (2 : Int32)), .val (.int (3 : Int32)), .val (.int (2 : Int32)), .val (.int (cf 1))] [(.int (2 : Int32)), (.ref t1)])) rfl rfl (hb hby d6_12) _ ?_
    show Steps p.tables e below (T171.setTop (mkF m 13 #[.val (.ref t1), .val (.int (2 : Int32)), .val (.ref d1), .val (.int (2 : Int32)), .val (.int (3 : Int32)), .val (.int (2 : Int32)), .val (.int (cf 1))] [(.int (cf 2))])) _
    refine XS.istore X171.here hx rfl (hb hby d6_13) rfl (l' := #[.val (.ref t1), .val (.int (2 : Int32)), .val (.ref d1), .val (.int (2 : Int32)), .val (.int (3 : Int32)), .val (.int (2 : Int32)), .val (.int (cf 2))]) rfl ?_
    show Steps p.tables e below (T171.setTop (mkF m 15 #[.val (.ref t1), .val (.int (2 : Int32)), .val (.ref d1), .val (.int (2 : Int32)), .val (.int (3 : Int32)), .val (.int (2 : Int32)), .val (.int (cf 2))] [])) _
    refine XS.iload X171.here hx rfl (hb hby d6_15) rfl ?_
    show Steps p.tables e below (T171.setTop (mkF m 17 #[.val (.ref t1), .val (.int (2 : Int32)), .val (.ref d1), .val (.int (2 : Int32)), .val (.int (3 : Int32)), .val (.int (2 : Int32)), .val (.int (cf 2))] [(.int (cf 2))])) _
    refine XS.sipush X171.here hx rfl (hb hby d6_17) ?_
    show Steps p.tables e below (T171.setTop (mkF m 20 #[.val (.ref t1), .val (.int (2 : Int32)), .val (.ref d1), .val (.int (2 : Int32)), .val (.int (3 : Int32)), .val (.int (2 : Int32)), .val (.int (cf 2))] [(.int (255 : Int32)), (.int (cf 2))])) _
    refine XS.icmpYes X171.here hx rfl (pc0 := 20) (pc' := 26) rfl (hb hby d6_20) rfl (flt (hcf _)).2.2.2 (by decide) (by decide) ?_
    show Steps p.tables e below (T171.setTop (mkF m 26 #[.val (.ref t1), .val (.int (2 : Int32)), .val (.ref d1), .val (.int (2 : Int32)), .val (.int (3 : Int32)), .val (.int (2 : Int32)), .val (.int (cf 2))] [])) _
    refine XS.aloadN X171.here hx rfl (hb hby d6_26) rfl rfl ?_
    show Steps p.tables e below (T171.setTop (mkF m 27 #[.val (.ref t1), .val (.int (2 : Int32)), .val (.ref d1), .val (.int (2 : Int32)), .val (.int (3 : Int32)), .val (.int (2 : Int32)), .val (.int (cf 2))] [(.ref d1)])) _
    refine XS.iloadN X171.here hx rfl (hb hby d6_27) rfl ?_
    show Steps p.tables e below (T171.setTop (mkF m 28 #[.val (.ref t1), .val (.int (2 : Int32)), .val (.ref d1), .val (.int (2 : Int32)), .val (.int (3 : Int32)), .val (.int (2 : Int32)), .val (.int (cf 2))] [(.int (2 : Int32)), (.ref d1)])) _
    refine XS.iload X171.here hx rfl (hb hby d6_28) rfl ?_
    show Steps p.tables e below (T171.setTop (mkF m 30 #[.val (.ref t1), .val (.int (2 : Int32)), .val (.ref d1), .val (.int (2 : Int32)), .val (.int (3 : Int32)), .val (.int (2 : Int32)), .val (.int (cf 2))] [(.int (cf 2)), (.int (2 : Int32)), (.ref d1)])) _
    refine XS.i2b X171.here hx rfl (hb hby d6_30) rfl ?_
    exact kt
  obtain ⟨T177, h177, X177, e177, W177, V177, st177⟩ := ArF.stB X171 hx hZ e171 V171 (i := 2) (by decide) (by decide) (g := (mkF m 31 #[.val (.ref t1), .val (.int (2 : Int32)), .val (.ref d1), .val (.int (2 : Int32)), .val (.int (3 : Int32)), .val (.int (2 : Int32)), .val (.int (cf 2))] [(.int ((cf 2).toInt8.toInt32)), (.int (2 : Int32)), (.ref d1)])) rfl rfl (hb hby d6_31)
  have z178 : n0 ≤ h177.size := Nat.le_trans z172 (Keep.of_wr W177).1
  have N179 := Fr.snoc X177 N173 g_d1
  have S180 : ∀ t, Steps p.tables e below (T177.setTop (mkF m 46 #[.val (.ref t1), .val (.int (3 : Int32)), .val (.ref d1), .val (.int (3 : Int32)), .val (.int (3 : Int32)), .val (.int (3 : Int32)), .val (.int (cf 2))] [(.int (3 : Int32))])) t → Steps p.tables e below (T177.setTop (mkF m 32 #[.val (.ref t1), .val (.int (2 : Int32)), .val (.ref d1), .val (.int (2 : Int32)), .val (.int (3 : Int32)), .val (.int (2 : Int32)), .val (.int (cf 2))] [])) t := by
    intro t kt
    show Steps p.tables e below (T177.setTop (mkF m 32 #[.val (.ref t1), .val (.int (2 : Int32)), .val (.ref d1), .val (.int (2 : Int32)), .val (.int (3 : Int32)), .val (.int (2 : Int32)), .val (.int (cf 2))] [])) _
    refine XS.iinc X177.here hx rfl (hb hby d6_32) rfl (l' := #[.val (.ref t1), .val (.int (3 : Int32)), .val (.ref d1), .val (.int (2 : Int32)), .val (.int (3 : Int32)), .val (.int (2 : Int32)), .val (.int (cf 2))]) rfl ?_
    show Steps p.tables e below (T177.setTop (mkF m 35 #[.val (.ref t1), .val (.int (3 : Int32)), .val (.ref d1), .val (.int (2 : Int32)), .val (.int (3 : Int32)), .val (.int (2 : Int32)), .val (.int (cf 2))] [])) _
    refine XS.iinc X177.here hx rfl (hb hby d6_35) rfl (l' := #[.val (.ref t1), .val (.int (3 : Int32)), .val (.ref d1), .val (.int (3 : Int32)), .val (.int (3 : Int32)), .val (.int (2 : Int32)), .val (.int (cf 2))]) rfl ?_
    show Steps p.tables e below (T177.setTop (mkF m 38 #[.val (.ref t1), .val (.int (3 : Int32)), .val (.ref d1), .val (.int (3 : Int32)), .val (.int (3 : Int32)), .val (.int (2 : Int32)), .val (.int (cf 2))] [])) _
    refine XS.iinc X177.here hx rfl (hb hby d6_38) rfl (l' := #[.val (.ref t1), .val (.int (3 : Int32)), .val (.ref d1), .val (.int (3 : Int32)), .val (.int (3 : Int32)), .val (.int (3 : Int32)), .val (.int (cf 2))]) rfl ?_
    show Steps p.tables e below (T177.setTop (mkF m 41 #[.val (.ref t1), .val (.int (3 : Int32)), .val (.ref d1), .val (.int (3 : Int32)), .val (.int (3 : Int32)), .val (.int (3 : Int32)), .val (.int (cf 2))] [])) _
    refine XS.goto X177.here hx rfl (pc0 := 41) (pc' := 3) rfl (hb hby d6_41) (by decide) (by decide) ?_
    show Steps p.tables e below (T177.setTop (mkF m 3 #[.val (.ref t1), .val (.int (3 : Int32)), .val (.ref d1), .val (.int (3 : Int32)), .val (.int (3 : Int32)), .val (.int (3 : Int32)), .val (.int (cf 2))] [])) _
    refine XS.iload X177.here hx rfl (hb hby d6_3) rfl ?_
    show Steps p.tables e below (T177.setTop (mkF m 5 #[.val (.ref t1), .val (.int (3 : Int32)), .val (.ref d1), .val (.int (3 : Int32)), .val (.int (3 : Int32)), .val (.int (3 : Int32)), .val (.int (cf 2))] [(.int (3 : Int32))])) _
    refine XS.iload X177.here hx rfl (hb hby d6_5) rfl ?_
    show Steps p.tables e below (T177.setTop (mkF m 7 #[.val (.ref t1), .val (.int (3 : Int32)), .val (.ref d1), .val (.int (3 : Int32)), .val (.int (3 : Int32)), .val (.int (3 : Int32)), .val (.int (cf 2))] [(.int (3 : Int32)), (.int (3 : Int32))])) _
    refine XS.icmpYes X177.here hx rfl (pc0 := 7) (pc' := 44) rfl (hb hby d6_7) rfl (flt (by decide)).2.1 (by decide) (by decide) ?_
    show Steps p.tables e below (T177.setTop (mkF m 44 #[.val (.ref t1), .val (.int (3 : Int32)), .val (.ref d1), .val (.int (3 : Int32)), .val (.int (3 : Int32)), .val (.int (3 : Int32)), .val (.int (cf 2))] [])) _
    refine XS.iload X177.here hx rfl (hb hby d6_44) rfl ?_
    exact kt
  have C181 : ∀ t, Steps p.tables e below (T177.setTop (mkF m 46 #[.val (.ref t1), .val (.int (3 : Int32)), .val (.ref d1), .val (.int (3 : Int32)), .val (.int (3 : Int32)), .val (.int (3 : Int32)), .val (.int (cf 2))] [(.int (3 : Int32))])) t → Steps p.tables e below (s₁.setTop (mkF m 0 #[.val (.ref t1), .val (.int (0 : Int32)), .val (.ref d1), .val (.int (0 : Int32)), .val (.int (3 : Int32)), .unset, .unset] [])) t := (fun t k => (S164 t (st165 t (S168 t (S170 t (st171 t (S174 t (S176 t (st177 t (S180 t k))))))))))
  obtain ⟨fs, hr, hrun, hended, hW, hsame⟩ := X177.leave (v := some (.int (3 : Int32))) (fun h => by rw [Bd.returns] at h; cases h)
  refine ⟨_, _, pre0 _ (C181 _ ?_), hrun, hended, _, _, rfl, ?_, ⟨_, rfl⟩, hW, hsame.mono (by decide) (by decide)⟩
  · exact retOut X177 hx (t := .int) Bd.returns rfl (Or.inl ⟨rfl, Or.inl rfl, _, rfl⟩) (hb hby d6_46) hr
  · show Q_rm_k1_3 Z t1 d1 cf df h0 n0 _ T177.heap _
    rw [e177]
    exact ⟨rfl, N179, ((((Keep.refl h0 [d1]).wr W165 (Or.inl (List.mem_of_getElem? (i := 0) rfl))).wr W171 (Or.inl (List.mem_of_getElem? (i := 0) rfl))).wr W177 (Or.inl (List.mem_of_getElem? (i := 0) rfl))), _, V177⟩
theorem ef_rm_k2_3 (m : MethodId) (x0 : Addr) (x1 : Int32) (x2 : Int32) : entryFrame m #[(.ref x0), (.int x1), (.int x2)] 6 = mkF m 0 #[.val (.ref x0), .val (.int x1), .val (.int x2), .unset, .unset, .unset] [] := by first | (simp [entryFrame, mkF, argsToLocals, Value.category]; done) | rfl
def Q_rm_k2_3 (Z : State) (t1 : Addr) (cf : Nat → Int32) (h0 : Heap) (n0 : Nat) (v : Option Value) (h : Heap) (L : List Loc) : Prop := ∃ (b : Addr) (g : Nat → Value), v = some (.ref b) ∧ Fr n0 L ∧ Keep h0 h [] ∧ ArF Z h b .byte 3 g
set_option maxRecDepth 65536 in
set_option maxHeartbeats 40000000 in
theorem rm_k2_3 (l : Launch) (Z : State) (a0 : Array Value) (hw : ∀ d ∈ tables_1, d.before a0 Z = true) (ws : List Jvm.Cond) (t1 : Addr) (cf : Nat → Int32) (h0 : Heap) (n0 : Nat) (Z0 : n0 ≤ h0.size) (F182 : ArF Z h0 t1 .char 3 (fun q => (.int (cf q)))) (hcf : ∀ q, ¬ (255 : Int32) < cf q) :
    MetFree l (⟨"java/lang/StringUTF16", "compress", "([CII)[B"⟩ : MethodName) (head1 (Jvm.Cond.code (⟨"java/lang/StringUTF16", "compress", "([CII)[B"⟩ : MethodName) jdk_52_method_16_code 6 (some (.array .byte)) :: ws) ({ frames := 1, cells := 1, slots := 3, locals := 18 } : Room)) (fun a U => a = #[(.ref t1), (.int (0 : Int32)), (.int (3 : Int32))] ∧ Z.Warmed39 U.vm ∧ U.heap = h0) (fun _ _ _ _ _ => True) (fun _ U o U' => ∃ v L, o = .returned v ∧ Q_rm_k2_3 Z t1 cf h0 n0 v U'.heap L ∧ FrameEnd U o U' L ({ frames := 1, cells := 1, slots := 3, locals := 18 } : Room).cells ({ frames := 1, cells := 1, slots := 3, locals := 18 } : Room).slots) := by
  refine MetFree.of_bodySF (plainFor_of_name pn_4) hisR ?_
  intro p e s m args below meth c s₁ Bd hml0 hP hK
  obtain ⟨rfl, hZ, hh⟩ := hP
  have hx := Bd.exec
  have hby := Bd.bytes
  have hml : c.maxLocals = 6 := hml0
  have hown : s.vm.findClass "java/lang/StringUTF16" = some m.cls := findClass_of_methodNamed Bd.named
  have hnm := (name_of_methodNamed Bd.named Bd.method).1
  have X0 : Stand p l e ({ frames := 1, cells := 1, slots := 3, locals := 18 } : Room) s m #[(.ref t1), (.int (0 : Int32)), (.int (3 : Int32))] below meth c s₁ [] 0 0 := Stand.of_body Bd
  have e0 : s₁.heap = h0 := by rw [← hh, Bd.state]; rfl
  have N0 := Fr.nil n0
  have pre0 : ∀ t, Steps p.tables e below (s₁.setTop (mkF m 0 #[.val (.ref t1), .val (.int (0 : Int32)), .val (.int (3 : Int32)), .unset, .unset, .unset] [])) t → Steps p.tables e below (s₁.setTop (entryFrame m #[(.ref t1), (.int (0 : Int32)), (.int (3 : Int32))] 6)) t := fun t k => castTop (ef_rm_k2_3 m t1 (0 : Int32) (3 : Int32)) k
  have S183 : ∀ t, Steps p.tables e below (s₁.setTop (mkF m 1 #[.val (.ref t1), .val (.int (0 : Int32)), .val (.int (3 : Int32)), .unset, .unset, .unset] [(.int (3 : Int32))])) t → Steps p.tables e below (s₁.setTop (mkF m 0 #[.val (.ref t1), .val (.int (0 : Int32)), .val (.int (3 : Int32)), .unset, .unset, .unset] [])) t := by
    intro t kt
    show Steps p.tables e below (s₁.setTop (mkF m 0 #[.val (.ref t1), .val (.int (0 : Int32)), .val (.int (3 : Int32)), .unset, .unset, .unset] [])) _
    refine XS.iloadN X0.here hx rfl (hb hby d5_0) rfl ?_
    exact kt
  obtain ⟨T184, h184, k184, X184, e184, E184, A184, st184⟩ := newP X0 hx hZ (hw _ (List.mem_of_getElem? (i := 23) rfl)) e0 (g := (mkF m 1 #[.val (.ref t1), .val (.int (0 : Int32)), .val (.int (3 : Int32)), .unset, .unset, .unset] [(.int (3 : Int32))])) rfl (hb hby d5_1) rfl (by decide) (cap := 3) (by decide) (by decide) (by decide) (by decide)
  obtain ⟨b184, g184⟩ : ∃ z, z = h0.size := ⟨_, rfl⟩
  rw [← g184] at A184 st184
  have g_b184 : n0 ≤ b184 := Nat.le_trans Z0 (Nat.le_of_eq g184.symm)
  have K185 := (Keep.refl h0 [])
  have sz_b184 : h0.size ≤ b184 := Nat.le_trans K185.1 (Nat.le_of_eq g184.symm)
  have ne_t1_b184 : t1 ≠ b184 := Nat.ne_of_lt (Nat.lt_of_lt_of_le F182.lt (Nat.le_of_eq g184.symm))
  have z186 : n0 ≤ h184.size := Nat.le_trans Z0 E184.1
  have V184 : ArF Z h184 b184 .byte 3 (fun _ => (.int (0 : Int32))) := ArF.new A184 (by decide) rfl
  have f189 := (F182.ext E184)
  have S190 : ∀ t, Steps p.tables e below (T184.setTop (mkF m 9 #[.val (.ref t1), .val (.int (0 : Int32)), .val (.int (3 : Int32)), .val (.ref b184), .unset, .unset] [(.int (3 : Int32)), (.int (0 : Int32)), (.ref b184), (.int (0 : Int32)), (.ref t1)])) t → Steps p.tables e below (T184.setTop (mkF m 3 #[.val (.ref t1), .val (.int (0 : Int32)), .val (.int (3 : Int32)), .unset, .unset, .unset] [(.ref b184)])) t := by
    intro t kt
    show Steps p.tables e below (T184.setTop (mkF m 3 #[.val (.ref t1), .val (.int (0 : Int32)), .val (.int (3 : Int32)), .unset, .unset, .unset] [(.ref b184)])) _
    refine XS.astoreN X184.here hx rfl (hb hby d5_3) rfl rfl (l' := #[.val (.ref t1), .val (.int (0 : Int32)), .val (.int (3 : Int32)), .val (.ref b184), .unset, .unset]) rfl ?_
    show Steps p.tables e below (T184.setTop (mkF m 4 #[.val (.ref t1), .val (.int (0 : Int32)), .val (.int (3 : Int32)), .val (.ref b184), .unset, .unset] [])) _
    refine XS.aloadN X184.here hx rfl (hb hby d5_4) rfl rfl ?_
    show Steps p.tables e below (T184.setTop (mkF m 5 #[.val (.ref t1), .val (.int (0 : Int32)), .val (.int (3 : Int32)), .val (.ref b184), .unset, .unset] [(.ref t1)])) _
    refine XS.iloadN X184.here hx rfl (hb hby d5_5) rfl ?_
    show Steps p.tables e below (T184.setTop (mkF m 6 #[.val (.ref t1), .val (.int (0 : Int32)), .val (.int (3 : Int32)), .val (.ref b184), .unset, .unset] [(.int (0 : Int32)), (.ref t1)])) _
    refine XS.aloadN X184.here hx rfl (hb hby d5_6) rfl rfl ?_
    show Steps p.tables e below (T184.setTop (mkF m 7 #[.val (.ref t1), .val (.int (0 : Int32)), .val (.int (3 : Int32)), .val (.ref b184), .unset, .unset] [(.ref b184), (.int (0 : Int32)), (.ref t1)])) _
    refine XS.iconst X184.here hx rfl (hb hby d5_7) ?_
    show Steps p.tables e below (T184.setTop (mkF m 8 #[.val (.ref t1), .val (.int (0 : Int32)), .val (.int (3 : Int32)), .val (.ref b184), .unset, .unset] [(.int (0 : Int32)), (.ref b184), (.int (0 : Int32)), (.ref t1)])) _
    refine XS.iloadN X184.here hx rfl (hb hby d5_8) rfl ?_
    exact kt
  obtain ⟨_, _, ⟨T191, L191, k191, n191⟩, -, X191, ⟨Lc191, hQ191, l191, y191, z191⟩, st191⟩ := Jvm.LawKit.callS X184 hx (y := (⟨"java/lang/StringUTF16", "compress", "([CI[BII)I"⟩ : MethodName)) hown (mvT hZ (hw _ (List.mem_of_getElem? (i := 24) rfl))) (mvT hZ (hw _ (List.mem_of_getElem? (i := 25) rfl))) (mvT hZ (hw _ (List.mem_of_getElem? (i := 21) rfl))) (mvT hZ (hw _ (List.mem_of_getElem? (i := 26) rfl))) (by decide) (backOf (W := 0) (rm_k1_3 l Z a0 hw [] t1 b184 cf (fun _ => (.int (0 : Int32))) h184 n0 z186 f189 V184 g_b184 ne_t1_b184 hcf) hZ (hw _ (List.mem_of_getElem? (i := 26) rfl)) (hw _ (List.mem_of_getElem? (i := 21) rfl)) (by decide) (by decide)) (g := (mkF m 9 #[.val (.ref t1), .val (.int (0 : Int32)), .val (.int (3 : Int32)), .val (.ref b184), .unset, .unset] [(.int (3 : Int32)), (.int (0 : Int32)), (.ref b184), (.int (0 : Int32)), (.ref t1)])) rfl (by rw [hml]; rfl) (argsL := [(.ref t1), (.int (0 : Int32)), (.ref b184), (.int (0 : Int32)), (.int (3 : Int32))]) (rest := []) (lenOf pd_5 rfl) rfl (by show 2 * 0 + _ ≤ _; exact Nat.le_of_eq rfl) (hb hby d5_9) (fun _ _ => ⟨rfl, e184, (by decide : 1 + 0 ≤ _), (by decide : 3 + 0 ≤ _)⟩)
  dsimp only [Pt.U, Pt.locs, Pt.cells, Pt.slots] at X191 l191 y191 z191 st191 hQ191
  subst l191 y191 z191
  obtain ⟨h191, e191⟩ : ∃ z, T191.heap = z := ⟨_, rfl⟩
  rw [e191] at hQ191
  obtain ⟨rfl, N191q, K191q, ⟨g187, F188⟩⟩ := hQ191
  have z192 : n0 ≤ h191.size := Nat.le_trans z186 K191q.1
  have N191 := Fr.app N0 N191q
  have S193 : ∀ t, Steps p.tables e below (T191.setTop (mkF m 58 #[.val (.ref t1), .val (.int (0 : Int32)), .val (.int (3 : Int32)), .val (.ref b184), .val (.int (3 : Int32)), .unset] [(.ref b184)])) t → Steps p.tables e below (T191.setTop (mkF m 12 #[.val (.ref t1), .val (.int (0 : Int32)), .val (.int (3 : Int32)), .val (.ref b184), .unset, .unset] [(.int (3 : Int32))])) t := by
    intro t kt
    show Steps p.tables e below (T191.setTop (mkF m 12 #[.val (.ref t1), .val (.int (0 : Int32)), .val (.int (3 : Int32)), .val (.ref b184), .unset, .unset] [(.int (3 : Int32))])) _
    refine XS.istore X191.here hx rfl (hb hby d5_12) rfl (l' := #[.val (.ref t1), .val (.int (0 : Int32)), .val (.int (3 : Int32)), .val (.ref b184), .val (.int (3 : Int32)), .unset]) rfl ?_
    show Steps p.tables e below (T191.setTop (mkF m 14 #[.val (.ref t1), .val (.int (0 : Int32)), .val (.int (3 : Int32)), .val (.ref b184), .val (.int (3 : Int32)), .unset] [])) _
    refine XS.iload X191.here hx rfl (hb hby d5_14) rfl ?_
    show Steps p.tables e below (T191.setTop (mkF m 16 #[.val (.ref t1), .val (.int (0 : Int32)), .val (.int (3 : Int32)), .val (.ref b184), .val (.int (3 : Int32)), .unset] [(.int (3 : Int32))])) _
    refine XS.iloadN X191.here hx rfl (hb hby d5_16) rfl ?_
    show Steps p.tables e below (T191.setTop (mkF m 17 #[.val (.ref t1), .val (.int (0 : Int32)), .val (.int (3 : Int32)), .val (.ref b184), .val (.int (3 : Int32)), .unset] [(.int (3 : Int32)), (.int (3 : Int32))])) _
    refine XS.icmpYes X191.here hx rfl (pc0 := 17) (pc' := 57) rfl (hb hby d5_17) rfl (teq rfl).1 (by decide) (by decide) ?_
    show Steps p.tables e below (T191.setTop (mkF m 57 #[.val (.ref t1), .val (.int (0 : Int32)), .val (.int (3 : Int32)), .val (.ref b184), .val (.int (3 : Int32)), .unset] [])) _
    refine XS.aloadN X191.here hx rfl (hb hby d5_57) rfl rfl ?_
    exact kt
  have C194 : ∀ t, Steps p.tables e below (T191.setTop (mkF m 58 #[.val (.ref t1), .val (.int (0 : Int32)), .val (.int (3 : Int32)), .val (.ref b184), .val (.int (3 : Int32)), .unset] [(.ref b184)])) t → Steps p.tables e below (s₁.setTop (mkF m 0 #[.val (.ref t1), .val (.int (0 : Int32)), .val (.int (3 : Int32)), .unset, .unset, .unset] [])) t := (fun t k => (S183 t (st184 t (S190 t (st191 t (S193 t k))))))
  obtain ⟨fs, hr, hrun, hended, hW, hsame⟩ := X191.leave (v := some (.ref b184)) (fun h => by rw [Bd.returns] at h; cases h)
  refine ⟨_, _, pre0 _ (C194 _ ?_), hrun, hended, _, _, rfl, ?_, ⟨_, rfl⟩, hW, hsame.mono (by decide) (by decide)⟩
  · exact retOut X191 hx Bd.returns rfl (Or.inr (Or.inr (Or.inr (Or.inr ⟨rfl, rfl, rfl⟩)))) (hb hby d5_58) hr
  · show Q_rm_k2_3 Z t1 cf h0 n0 _ T191.heap _
    rw [e191]
    exact ⟨_, _, rfl, N191, ((K185.ext E184).trans K191q (allS (Or.inr sz_b184) all0)), F188⟩
theorem ef_rm_k3_3 (m : MethodId) (x0 : Addr) (x1 : Int32) : entryFrame m #[(.ref x0), (.int x1)] 2 = mkF m 0 #[.val (.ref x0), .val (.int x1)] [] := by first | (simp [entryFrame, mkF, argsToLocals, Value.category]; done) | rfl
def Q_rm_k3_3 (Z : State) (d1 : Addr) (df : Nat → Value) (h0 : Heap) (n0 : Nat) (v : Option Value) (h : Heap) (L : List Loc) : Prop := v = some (.int 0) ∧ Fr n0 L ∧ h = h0
set_option maxRecDepth 65536 in
set_option maxHeartbeats 40000000 in
theorem rm_k3_3 (l : Launch) (Z : State) (a0 : Array Value) (hw : ∀ d ∈ tables_1, d.before a0 Z = true) (ws : List Jvm.Cond) (d1 : Addr) (df : Nat → Value) (h0 : Heap) (n0 : Nat) (Z0 : n0 ≤ h0.size) (F195 : ArF Z h0 d1 .byte 3 df) :
    MetFree l (⟨"java/lang/StringUTF16", "coderFromArrayLen", "([BI)B"⟩ : MethodName) (head1 (Jvm.Cond.code (⟨"java/lang/StringUTF16", "coderFromArrayLen", "([BI)B"⟩ : MethodName) jdk_52_method_15_code 2 (some .byte) :: ws) ({ frames := 0, cells := 0, slots := 0, locals := 0 } : Room)) (fun a U => a = #[(.ref d1), (.int (3 : Int32))] ∧ Z.Warmed39 U.vm ∧ U.heap = h0) (fun _ _ _ _ _ => True) (fun _ U o U' => ∃ v L, o = .returned v ∧ Q_rm_k3_3 Z d1 df h0 n0 v U'.heap L ∧ FrameEnd U o U' L ({ frames := 0, cells := 0, slots := 0, locals := 0 } : Room).cells ({ frames := 0, cells := 0, slots := 0, locals := 0 } : Room).slots) := by
  refine MetFree.of_bodySF (plainFor_of_name pn_4) hisR ?_
  intro p e s m args below meth c s₁ Bd hml0 hP hK
  obtain ⟨rfl, hZ, hh⟩ := hP
  have hx := Bd.exec
  have hby := Bd.bytes
  have hml : c.maxLocals = 2 := hml0
  have hown : s.vm.findClass "java/lang/StringUTF16" = some m.cls := findClass_of_methodNamed Bd.named
  have hnm := (name_of_methodNamed Bd.named Bd.method).1
  have X0 : Stand p l e ({ frames := 0, cells := 0, slots := 0, locals := 0 } : Room) s m #[(.ref d1), (.int (3 : Int32))] below meth c s₁ [] 0 0 := Stand.of_body Bd
  have e0 : s₁.heap = h0 := by rw [← hh, Bd.state]; rfl
  have N0 := Fr.nil n0
  have pre0 : ∀ t, Steps p.tables e below (s₁.setTop (mkF m 0 #[.val (.ref d1), .val (.int (3 : Int32))] [])) t → Steps p.tables e below (s₁.setTop (entryFrame m #[(.ref d1), (.int (3 : Int32))] 2)) t := fun t k => castTop (ef_rm_k3_3 m d1 (3 : Int32)) k
  have S196 : ∀ t, Steps p.tables e below (s₁.setTop (mkF m 8 #[.val (.ref d1), .val (.int (3 : Int32))] [(.int (((((3 : Int32) - (3 : Int32)).toUInt32 >>> ((31 : Int32) &&& 31).toUInt32).toInt32).toInt8.toInt32))])) t → Steps p.tables e below (s₁.setTop (mkF m 0 #[.val (.ref d1), .val (.int (3 : Int32))] [])) t := by
    intro t kt
    show Steps p.tables e below (s₁.setTop (mkF m 0 #[.val (.ref d1), .val (.int (3 : Int32))] [])) _
    refine XS.iloadN X0.here hx rfl (hb hby d7_0) rfl ?_
    show Steps p.tables e below (s₁.setTop (mkF m 1 #[.val (.ref d1), .val (.int (3 : Int32))] [(.int (3 : Int32))])) _
    refine XS.aloadN X0.here hx rfl (hb hby d7_1) rfl rfl ?_
    show Steps p.tables e below (s₁.setTop (mkF m 2 #[.val (.ref d1), .val (.int (3 : Int32))] [(.ref d1), (.int (3 : Int32))])) _
    refine ArF.len X0 hx hZ e0 F195 (g := (mkF m 2 #[.val (.ref d1), .val (.int (3 : Int32))] [(.ref d1), (.int (3 : Int32))])) rfl rfl (hb hby d7_2) _ ?_
    show Steps p.tables e below (s₁.setTop (mkF m 3 #[.val (.ref d1), .val (.int (3 : Int32))] [(.int (3 : Int32)), (.int (3 : Int32))])) _
    refine XS.isub X0.here hx rfl (hb hby d7_3) rfl ?_
    show Steps p.tables e below (s₁.setTop (mkF m 4 #[.val (.ref d1), .val (.int (3 : Int32))] [(.int ((3 : Int32) - (3 : Int32)))])) _
    refine XS.bipush X0.here hx rfl (hb hby d7_4) ?_
    show Steps p.tables e below (s₁.setTop (mkF m 6 #[.val (.ref d1), .val (.int (3 : Int32))] [(.int (31 : Int32)), (.int ((3 : Int32) - (3 : Int32)))])) _
    refine XS.iushr X0.here hx rfl (hb hby d7_6) rfl ?_
    show Steps p.tables e below (s₁.setTop (mkF m 7 #[.val (.ref d1), .val (.int (3 : Int32))] [(.int ((((3 : Int32) - (3 : Int32)).toUInt32 >>> ((31 : Int32) &&& 31).toUInt32).toInt32))])) _
    refine XS.i2b X0.here hx rfl (hb hby d7_7) rfl ?_
    exact kt
  have S197 : ∀ t, Steps p.tables e below (s₁.setTop (mkF m 8 #[.val (.ref d1), .val (.int (3 : Int32))] [(.int (0 : Int32))])) t → Steps p.tables e below (s₁.setTop (mkF m 8 #[.val (.ref d1), .val (.int (3 : Int32))] [(.int (((((3 : Int32) - (3 : Int32)).toUInt32 >>> ((31 : Int32) &&& 31).toUInt32).toInt32).toInt8.toInt32))])) t := fun t k => by rw [(show (((((3 : Int32) - (3 : Int32)).toUInt32 >>> ((31 : Int32) &&& 31).toUInt32).toInt32).toInt8.toInt32) = (0 : Int32) by decide)]; exact k
  have C198 : ∀ t, Steps p.tables e below (s₁.setTop (mkF m 8 #[.val (.ref d1), .val (.int (3 : Int32))] [(.int (0 : Int32))])) t → Steps p.tables e below (s₁.setTop (mkF m 0 #[.val (.ref d1), .val (.int (3 : Int32))] [])) t := (fun t k => (S196 t (S197 t k)))
  obtain ⟨fs, hr, hrun, hended, hW, hsame⟩ := X0.leave (v := some (.int (0 : Int32))) (fun h => by rw [Bd.returns] at h; cases h)
  refine ⟨_, _, pre0 _ (C198 _ ?_), hrun, hended, _, _, rfl, ?_, ⟨_, rfl⟩, hW, hsame.mono (by decide) (by decide)⟩
  · exact retN X0 hx (t := .byte) Bd.returns (by simp) (hb hby d7_8) hr
  · show Q_rm_k3_3 Z d1 df h0 n0 _ s₁.heap _
    rw [e0]
    exact ⟨rfl, N0, rfl⟩
theorem ef_rm_k4_3 (m : MethodId) (x0 : Addr) (x1 : Addr) (x2 : Int32) (x3 : Int32) : entryFrame m #[(.ref x0), (.ref x1), (.int x2), (.int x3), .null] 6 = mkF m 0 #[.val (.ref x0), .val (.ref x1), .val (.int x2), .val (.int x3), .val .null, .unset] [] := by first | (simp [entryFrame, mkF, argsToLocals, Value.category]; done) | rfl
def Q_rm_k4_3 (Z : State) (a1 : Addr) (t1 : Addr) (cf : Nat → Int32) (zc : Int32) (h0 : Heap) (n0 : Nat) (v : Option Value) (h : Heap) (L : List Loc) : Prop := v = none ∧ Fr n0 L ∧ Keep h0 h [a1]
set_option maxRecDepth 65536 in
set_option maxHeartbeats 40000000 in
theorem rm_k4_3 (l : Launch) (Z : State) (a0 : Array Value) (hw : ∀ d ∈ tables_1, d.before a0 Z = true) (ws : List Jvm.Cond) (a1 : Addr) (t1 : Addr) (cf : Nat → Int32) (zc : Int32) (h0 : Heap) (n0 : Nat) (Z0 : n0 ≤ h0.size) (F199 : Exa Z h0 a1 "java/lang/String") (F200 : Fld Z h0 a1 "java/lang/String" "value" "[B" .null) (F201 : Fld Z h0 a1 "java/lang/String" "coder" "B" (.int (0 : Int32))) (F202 : ArF Z h0 t1 .char 3 (fun q => (.int (cf q)))) (g_a1 : n0 ≤ a1) (hcf : ∀ q, ¬ (255 : Int32) < cf q) (O : Old Z n0 h0) (HS : Sta Z Z.heap "java/lang/String" "COMPACT_STRINGS" "Z" (.int zc)) (hzc : ¬ zc = (0 : Int32)) :
    MetFree l (⟨"java/lang/String", "<init>", "([CIILjava/lang/Void;)V"⟩ : MethodName) (head1 (Jvm.Cond.code (⟨"java/lang/String", "<init>", "([CIILjava/lang/Void;)V"⟩ : MethodName) jdk_42_method_149_code 6 none :: ws) ({ frames := 2, cells := 1, slots := 3, locals := 35 } : Room)) (fun a U => a = #[(.ref a1), (.ref t1), (.int (0 : Int32)), (.int (3 : Int32)), .null] ∧ Z.Warmed39 U.vm ∧ U.heap = h0) (fun _ _ _ _ _ => True) (fun _ U o U' => ∃ v L, o = .returned v ∧ Q_rm_k4_3 Z a1 t1 cf zc h0 n0 v U'.heap L ∧ FrameEnd U o U' L ({ frames := 2, cells := 1, slots := 3, locals := 35 } : Room).cells ({ frames := 2, cells := 1, slots := 3, locals := 35 } : Room).slots) := by
  refine MetFree.of_bodySF (plainFor_of_name pn_2) hisR ?_
  intro p e s m args below meth c s₁ Bd hml0 hP hK
  obtain ⟨rfl, hZ, hh⟩ := hP
  have hx := Bd.exec
  have hby := Bd.bytes
  have hml : c.maxLocals = 6 := hml0
  have hown : s.vm.findClass "java/lang/String" = some m.cls := findClass_of_methodNamed Bd.named
  have hnm := (name_of_methodNamed Bd.named Bd.method).1
  have X0 : Stand p l e ({ frames := 2, cells := 1, slots := 3, locals := 35 } : Room) s m #[(.ref a1), (.ref t1), (.int (0 : Int32)), (.int (3 : Int32)), .null] below meth c s₁ [] 0 0 := Stand.of_body Bd
  have e0 : s₁.heap = h0 := by rw [← hh, Bd.state]; rfl
  have N0 := Fr.nil n0
  have pre0 : ∀ t, Steps p.tables e below (s₁.setTop (mkF m 0 #[.val (.ref a1), .val (.ref t1), .val (.int (0 : Int32)), .val (.int (3 : Int32)), .val .null, .unset] [])) t → Steps p.tables e below (s₁.setTop (entryFrame m #[(.ref a1), (.ref t1), (.int (0 : Int32)), (.int (3 : Int32)), .null] 6)) t := fun t k => castTop (ef_rm_k4_3 m a1 t1 (0 : Int32) (3 : Int32)) k
  have hS0 := Sta.ext O.2 HS
  have S205 : ∀ t, Steps p.tables e below (s₁.setTop (mkF m 1 #[.val (.ref a1), .val (.ref t1), .val (.int (0 : Int32)), .val (.int (3 : Int32)), .val .null, .unset] [(.ref a1)])) t → Steps p.tables e below (s₁.setTop (mkF m 0 #[.val (.ref a1), .val (.ref t1), .val (.int (0 : Int32)), .val (.int (3 : Int32)), .val .null, .unset] [])) t := by
    intro t kt
    show Steps p.tables e below (s₁.setTop (mkF m 0 #[.val (.ref a1), .val (.ref t1), .val (.int (0 : Int32)), .val (.int (3 : Int32)), .val .null, .unset] [])) _
    refine XS.aloadN X0.here hx rfl (hb hby d3_0) rfl rfl ?_
    exact kt
  obtain ⟨T206, X206, e206, st206⟩ := initO X0 hx hZ hown (hw _ (List.mem_of_getElem? (i := 15) rfl)) (hw _ (List.mem_of_getElem? (i := 16) rfl)) (hw _ (List.mem_of_getElem? (i := 17) rfl)) e0 (g := (mkF m 1 #[.val (.ref a1), .val (.ref t1), .val (.int (0 : Int32)), .val (.int (3 : Int32)), .val .null, .unset] [(.ref a1)])) rfl (by rw [hml]; rfl) rfl (hb hby d3_1) (by decide) (W := 0) (by show 2 * 0 + _ ≤ _; exact Nat.le_of_eq rfl) (by decide)
  have S207 : ∀ t, Steps p.tables e below (T206.setTop (mkF m 27 #[.val (.ref a1), .val (.ref t1), .val (.int (0 : Int32)), .val (.int (3 : Int32)), .val .null, .unset] [])) t → Steps p.tables e below (T206.setTop (mkF m 4 #[.val (.ref a1), .val (.ref t1), .val (.int (0 : Int32)), .val (.int (3 : Int32)), .val .null, .unset] [])) t := by
    intro t kt
    show Steps p.tables e below (T206.setTop (mkF m 4 #[.val (.ref a1), .val (.ref t1), .val (.int (0 : Int32)), .val (.int (3 : Int32)), .val .null, .unset] [])) _
    refine XS.iloadN X206.here hx rfl (hb hby d3_4) rfl ?_
    show Steps p.tables e below (T206.setTop (mkF m 5 #[.val (.ref a1), .val (.ref t1), .val (.int (0 : Int32)), .val (.int (3 : Int32)), .val .null, .unset] [(.int (3 : Int32))])) _
    refine XS.ifYes X206.here hx rfl (pc0 := 5) (pc' := 27) rfl (hb hby d3_5) rfl ((if0 _ _).trans (feq (by decide)).2) (by decide) (by decide) ?_
    exact kt
  obtain ⟨T208, X208, e208, st208⟩ := getS2 X206 hx hZ hown (host := "") (Or.inl (hw _ (List.mem_of_getElem? (i := 18) rfl))) Via.refl e206 hS0 (g := (mkF m 27 #[.val (.ref a1), .val (.ref t1), .val (.int (0 : Int32)), .val (.int (3 : Int32)), .val .null, .unset] [])) rfl (hb hby d3_27)
  have S209 : ∀ t, Steps p.tables e below (T208.setTop (mkF m 36 #[.val (.ref a1), .val (.ref t1), .val (.int (0 : Int32)), .val (.int (3 : Int32)), .val .null, .unset] [(.int (3 : Int32)), (.int (0 : Int32)), (.ref t1)])) t → Steps p.tables e below (T208.setTop (mkF m 30 #[.val (.ref a1), .val (.ref t1), .val (.int (0 : Int32)), .val (.int (3 : Int32)), .val .null, .unset] [(.int zc)])) t := by
    intro t kt
    show Steps p.tables e below (T208.setTop (mkF m 30 #[.val (.ref a1), .val (.ref t1), .val (.int (0 : Int32)), .val (.int (3 : Int32)), .val .null, .unset] [(.int zc)])) _
    refine XS.ifNo X208.here hx rfl (hb hby d3_30) rfl ((if0 _ _).trans (feq hzc).1) ?_
    show Steps p.tables e below (T208.setTop (mkF m 33 #[.val (.ref a1), .val (.ref t1), .val (.int (0 : Int32)), .val (.int (3 : Int32)), .val .null, .unset] [])) _
    refine XS.aloadN X208.here hx rfl (hb hby d3_33) rfl rfl ?_
    show Steps p.tables e below (T208.setTop (mkF m 34 #[.val (.ref a1), .val (.ref t1), .val (.int (0 : Int32)), .val (.int (3 : Int32)), .val .null, .unset] [(.ref t1)])) _
    refine XS.iloadN X208.here hx rfl (hb hby d3_34) rfl ?_
    show Steps p.tables e below (T208.setTop (mkF m 35 #[.val (.ref a1), .val (.ref t1), .val (.int (0 : Int32)), .val (.int (3 : Int32)), .val .null, .unset] [(.int (0 : Int32)), (.ref t1)])) _
    refine XS.iloadN X208.here hx rfl (hb hby d3_35) rfl ?_
    exact kt
  obtain ⟨_, _, ⟨T210, L210, k210, n210⟩, -, X210, ⟨Lc210, hQ210, l210, y210, z210⟩, st210⟩ := Jvm.LawKit.callS X208 hx (y := (⟨"java/lang/StringUTF16", "compress", "([CII)[B"⟩ : MethodName)) hown (mvT hZ (hw _ (List.mem_of_getElem? (i := 19) rfl))) (mvT hZ (hw _ (List.mem_of_getElem? (i := 20) rfl))) (mvT hZ (hw _ (List.mem_of_getElem? (i := 21) rfl))) (mvT hZ (hw _ (List.mem_of_getElem? (i := 22) rfl))) (by decide) (backOf (W := 0) (rm_k2_3 l Z a0 hw [] t1 cf h0 n0 Z0 F202 hcf) hZ (hw _ (List.mem_of_getElem? (i := 22) rfl)) (hw _ (List.mem_of_getElem? (i := 21) rfl)) (by decide) (by decide)) (g := (mkF m 36 #[.val (.ref a1), .val (.ref t1), .val (.int (0 : Int32)), .val (.int (3 : Int32)), .val .null, .unset] [(.int (3 : Int32)), (.int (0 : Int32)), (.ref t1)])) rfl (by rw [hml]; rfl) (argsL := [(.ref t1), (.int (0 : Int32)), (.int (3 : Int32))]) (rest := []) (lenOf pd_6 rfl) rfl (by show 2 * 0 + _ ≤ _; exact Nat.le_of_eq rfl) (hb hby d3_36) (fun _ _ => ⟨rfl, e208, (by decide : 0 + 1 ≤ _), (by decide : 0 + 3 ≤ _)⟩)
  dsimp only [Pt.U, Pt.locs, Pt.cells, Pt.slots] at X210 l210 y210 z210 st210 hQ210
  subst l210 y210 z210
  obtain ⟨h210, e210⟩ : ∃ z, T210.heap = z := ⟨_, rfl⟩
  rw [e210] at hQ210
  obtain ⟨b203, g204, rfl, N210q, K210q, F211⟩ := hQ210
  have z212 : n0 ≤ h210.size := Nat.le_trans Z0 K210q.1
  have N210 := Fr.app N0 N210q
  have S213 : ∀ t, Steps p.tables e below (T210.setTop (mkF m 45 #[.val (.ref a1), .val (.ref t1), .val (.int (0 : Int32)), .val (.int (3 : Int32)), .val .null, .val (.ref b203)] [(.int (3 : Int32)), (.ref b203), (.ref a1)])) t → Steps p.tables e below (T210.setTop (mkF m 39 #[.val (.ref a1), .val (.ref t1), .val (.int (0 : Int32)), .val (.int (3 : Int32)), .val .null, .unset] [(.ref b203)])) t := by
    intro t kt
    show Steps p.tables e below (T210.setTop (mkF m 39 #[.val (.ref a1), .val (.ref t1), .val (.int (0 : Int32)), .val (.int (3 : Int32)), .val .null, .unset] [(.ref b203)])) _
    refine XS.astore X210.here hx rfl (hb hby d3_39) rfl rfl (l' := #[.val (.ref a1), .val (.ref t1), .val (.int (0 : Int32)), .val (.int (3 : Int32)), .val .null, .val (.ref b203)]) rfl ?_
    show Steps p.tables e below (T210.setTop (mkF m 41 #[.val (.ref a1), .val (.ref t1), .val (.int (0 : Int32)), .val (.int (3 : Int32)), .val .null, .val (.ref b203)] [])) _
    refine XS.aloadN X210.here hx rfl (hb hby d3_41) rfl rfl ?_
    show Steps p.tables e below (T210.setTop (mkF m 42 #[.val (.ref a1), .val (.ref t1), .val (.int (0 : Int32)), .val (.int (3 : Int32)), .val .null, .val (.ref b203)] [(.ref a1)])) _
    refine XS.aload X210.here hx rfl (hb hby d3_42) rfl rfl ?_
    show Steps p.tables e below (T210.setTop (mkF m 44 #[.val (.ref a1), .val (.ref t1), .val (.int (0 : Int32)), .val (.int (3 : Int32)), .val .null, .val (.ref b203)] [(.ref b203), (.ref a1)])) _
    refine XS.iloadN X210.here hx rfl (hb hby d3_44) rfl ?_
    exact kt
  obtain ⟨_, _, ⟨T214, L214, k214, n214⟩, -, X214, ⟨Lc214, hQ214, l214, y214, z214⟩, st214⟩ := Jvm.LawKit.callS X210 hx (y := (⟨"java/lang/StringUTF16", "coderFromArrayLen", "([BI)B"⟩ : MethodName)) hown (mvT hZ (hw _ (List.mem_of_getElem? (i := 27) rfl))) (mvT hZ (hw _ (List.mem_of_getElem? (i := 28) rfl))) (mvT hZ (hw _ (List.mem_of_getElem? (i := 21) rfl))) (mvT hZ (hw _ (List.mem_of_getElem? (i := 29) rfl))) (by decide) (backOf (W := 1) (rm_k3_3 l Z a0 hw [] b203 g204 h210 n0 z212 F211) hZ (hw _ (List.mem_of_getElem? (i := 29) rfl)) (hw _ (List.mem_of_getElem? (i := 21) rfl)) (by decide) (by decide)) (g := (mkF m 45 #[.val (.ref a1), .val (.ref t1), .val (.int (0 : Int32)), .val (.int (3 : Int32)), .val .null, .val (.ref b203)] [(.int (3 : Int32)), (.ref b203), (.ref a1)])) rfl (by rw [hml]; rfl) (argsL := [(.ref b203), (.int (3 : Int32))]) (rest := [(.ref a1)]) (lenOf pd_7 rfl) rfl (by show 2 * 0 + _ ≤ _; exact Nat.le_of_eq rfl) (hb hby d3_45) (fun _ _ => ⟨rfl, e210, (by decide : 1 + 0 ≤ _), (by decide : 3 + 0 ≤ _)⟩)
  dsimp only [Pt.U, Pt.locs, Pt.cells, Pt.slots] at X214 l214 y214 z214 st214 hQ214
  subst l214 y214 z214
  obtain ⟨rfl, N214q, e214⟩ := hQ214
  have N214 := Fr.app N210 N214q
  have f215 := (F201.keep K210q nin0)
  have f216 := (F199.keep K210q)
  obtain ⟨T217, h217, X217, e217, W217, st217⟩ := putFN X214 hx hZ hown (hw _ (List.mem_of_getElem? (i := 30) rfl)) Via.refl e214 f215 f216 (Or.inr ⟨(hw _ (List.mem_of_getElem? (i := 31) rfl)), rfl, hnm⟩) (hw _ (List.mem_of_getElem? (i := 6) rfl)) (ty := .byte) (v' := (.int (0 : Int32))) (by decide) rfl rfl (g := (mkF m 48 #[.val (.ref a1), .val (.ref t1), .val (.int (0 : Int32)), .val (.int (3 : Int32)), .val .null, .val (.ref b203)] [(.int (0 : Int32)), (.ref a1)])) rfl rfl (hb hby d3_48)
  have z218 : n0 ≤ h217.size := Nat.le_trans z212 (Keep.of_wr W217).1
  have N219 := Fr.snoc X217 N214 g_a1
  have Fw217 := f215.same W217
  have S220 : ∀ t, Steps p.tables e below (T217.setTop (mkF m 54 #[.val (.ref a1), .val (.ref t1), .val (.int (0 : Int32)), .val (.int (3 : Int32)), .val .null, .val (.ref b203)] [(.ref b203), (.ref a1)])) t → Steps p.tables e below (T217.setTop (mkF m 51 #[.val (.ref a1), .val (.ref t1), .val (.int (0 : Int32)), .val (.int (3 : Int32)), .val .null, .val (.ref b203)] [])) t := by
    intro t kt
    show Steps p.tables e below (T217.setTop (mkF m 51 #[.val (.ref a1), .val (.ref t1), .val (.int (0 : Int32)), .val (.int (3 : Int32)), .val .null, .val (.ref b203)] [])) _
    refine XS.aloadN X217.here hx rfl (hb hby d3_51) rfl rfl ?_
    show Steps p.tables e below (T217.setTop (mkF m 52 #[.val (.ref a1), .val (.ref t1), .val (.int (0 : Int32)), .val (.int (3 : Int32)), .val .null, .val (.ref b203)] [(.ref a1)])) _
    refine XS.aload X217.here hx rfl (hb hby d3_52) rfl rfl ?_
    exact kt
  have f221 := ((F200.keep K210q nin0).other W217 (Or.inr (slot_ne (Or.inr (hw _ (List.mem_of_getElem? (i := 33) rfl))) (Or.inr (hw _ (List.mem_of_getElem? (i := 31) rfl))) (by decide) (t := (.array .byte)) (t' := .byte) (by decide) (by decide))))
  have f222 := (f216.wr W217)
  obtain ⟨T223, h223, X223, e223, W223, st223⟩ := putF X217 hx hZ hown (host := "") (Or.inl (hw _ (List.mem_of_getElem? (i := 32) rfl))) Via.refl e217 f221 f222 (Or.inr ⟨(hw _ (List.mem_of_getElem? (i := 33) rfl)), rfl, hnm⟩) (hw _ (List.mem_of_getElem? (i := 6) rfl)) (ty := (.array .byte)) (by decide) rfl rfl (g := (mkF m 54 #[.val (.ref a1), .val (.ref t1), .val (.int (0 : Int32)), .val (.int (3 : Int32)), .val .null, .val (.ref b203)] [(.ref b203), (.ref a1)])) rfl rfl (hb hby d3_54)
  have z224 : n0 ≤ h223.size := Nat.le_trans z218 (Keep.of_wr W223).1
  have N225 := Fr.snoc X223 N219 g_a1
  have Fw223 := f221.same W223
  have C226 : ∀ t, Steps p.tables e below (T223.setTop (mkF m 57 #[.val (.ref a1), .val (.ref t1), .val (.int (0 : Int32)), .val (.int (3 : Int32)), .val .null, .val (.ref b203)] [])) t → Steps p.tables e below (s₁.setTop (mkF m 0 #[.val (.ref a1), .val (.ref t1), .val (.int (0 : Int32)), .val (.int (3 : Int32)), .val .null, .unset] [])) t := (fun t k => (S205 t (st206 t (S207 t (st208 t (S209 t (st210 t (S213 t (st214 t (st217 t (S220 t (st223 t k))))))))))))
  obtain ⟨fs, hr, hrun, hended, hW, hsame⟩ := X223.leave (v := none) (fun _ => rfl)
  refine ⟨_, _, pre0 _ (C226 _ ?_), hrun, hended, _, _, rfl, ?_, ⟨_, rfl⟩, hW, hsame.mono (by decide) (by decide)⟩
  · exact X223.returnOut hx Bd.returns (hb hby d3_57) hr
  · show Q_rm_k4_3 Z a1 t1 cf zc h0 n0 _ T223.heap _
    rw [e223]
    exact ⟨rfl, N225, ((((Keep.refl h0 [a1]).trans K210q all0).wr W217 (Or.inl (List.mem_of_getElem? (i := 0) rfl))).wr W223 (Or.inl (List.mem_of_getElem? (i := 0) rfl)))⟩
theorem ef_rm_k5_3 (m : MethodId) (x0 : Addr) (x1 : Addr) : entryFrame m #[(.ref x0), (.ref x1)] 2 = mkF m 0 #[.val (.ref x0), .val (.ref x1)] [] := by first | (simp [entryFrame, mkF, argsToLocals, Value.category]; done) | rfl
def Q_rm_k5_3 (Z : State) (a1 : Addr) (t1 : Addr) (cf : Nat → Int32) (zc : Int32) (h0 : Heap) (n0 : Nat) (v : Option Value) (h : Heap) (L : List Loc) : Prop := v = none ∧ Fr n0 L ∧ Keep h0 h [a1]
set_option maxRecDepth 65536 in
set_option maxHeartbeats 40000000 in
theorem rm_k5_3 (l : Launch) (Z : State) (a0 : Array Value) (hw : ∀ d ∈ tables_1, d.before a0 Z = true) (ws : List Jvm.Cond) (a1 : Addr) (t1 : Addr) (cf : Nat → Int32) (zc : Int32) (h0 : Heap) (n0 : Nat) (Z0 : n0 ≤ h0.size) (F227 : Exa Z h0 a1 "java/lang/String") (F228 : Fld Z h0 a1 "java/lang/String" "value" "[B" .null) (F229 : Fld Z h0 a1 "java/lang/String" "coder" "B" (.int (0 : Int32))) (F230 : ArF Z h0 t1 .char 3 (fun q => (.int (cf q)))) (g_a1 : n0 ≤ a1) (hcf : ∀ q, ¬ (255 : Int32) < cf q) (O : Old Z n0 h0) (HS : Sta Z Z.heap "java/lang/String" "COMPACT_STRINGS" "Z" (.int zc)) (hzc : ¬ zc = (0 : Int32)) :
    MetFree l (⟨"java/lang/String", "<init>", "([C)V"⟩ : MethodName) (head1 (Jvm.Cond.code (⟨"java/lang/String", "<init>", "([C)V"⟩ : MethodName) jdk_42_method_3_code 2 none :: ws) ({ frames := 3, cells := 1, slots := 3, locals := 52 } : Room)) (fun a U => a = #[(.ref a1), (.ref t1)] ∧ Z.Warmed39 U.vm ∧ U.heap = h0) (fun _ _ _ _ _ => True) (fun _ U o U' => ∃ v L, o = .returned v ∧ Q_rm_k5_3 Z a1 t1 cf zc h0 n0 v U'.heap L ∧ FrameEnd U o U' L ({ frames := 3, cells := 1, slots := 3, locals := 52 } : Room).cells ({ frames := 3, cells := 1, slots := 3, locals := 52 } : Room).slots) := by
  refine MetFree.of_bodySF (plainFor_of_name pn_2) hisR ?_
  intro p e s m args below meth c s₁ Bd hml0 hP hK
  obtain ⟨rfl, hZ, hh⟩ := hP
  have hx := Bd.exec
  have hby := Bd.bytes
  have hml : c.maxLocals = 2 := hml0
  have hown : s.vm.findClass "java/lang/String" = some m.cls := findClass_of_methodNamed Bd.named
  have hnm := (name_of_methodNamed Bd.named Bd.method).1
  have X0 : Stand p l e ({ frames := 3, cells := 1, slots := 3, locals := 52 } : Room) s m #[(.ref a1), (.ref t1)] below meth c s₁ [] 0 0 := Stand.of_body Bd
  have e0 : s₁.heap = h0 := by rw [← hh, Bd.state]; rfl
  have N0 := Fr.nil n0
  have pre0 : ∀ t, Steps p.tables e below (s₁.setTop (mkF m 0 #[.val (.ref a1), .val (.ref t1)] [])) t → Steps p.tables e below (s₁.setTop (entryFrame m #[(.ref a1), (.ref t1)] 2)) t := fun t k => castTop (ef_rm_k5_3 m a1 t1) k
  have S231 : ∀ t, Steps p.tables e below (s₁.setTop (mkF m 6 #[.val (.ref a1), .val (.ref t1)] [.null, (.int (3 : Int32)), (.int (0 : Int32)), (.ref t1), (.ref a1)])) t → Steps p.tables e below (s₁.setTop (mkF m 0 #[.val (.ref a1), .val (.ref t1)] [])) t := by
    intro t kt
    show Steps p.tables e below (s₁.setTop (mkF m 0 #[.val (.ref a1), .val (.ref t1)] [])) _
    refine XS.aloadN X0.here hx rfl (hb hby d2_0) rfl rfl ?_
    show Steps p.tables e below (s₁.setTop (mkF m 1 #[.val (.ref a1), .val (.ref t1)] [(.ref a1)])) _
    refine XS.aloadN X0.here hx rfl (hb hby d2_1) rfl rfl ?_
    show Steps p.tables e below (s₁.setTop (mkF m 2 #[.val (.ref a1), .val (.ref t1)] [(.ref t1), (.ref a1)])) _
    refine XS.iconst X0.here hx rfl (hb hby d2_2) ?_
    show Steps p.tables e below (s₁.setTop (mkF m 3 #[.val (.ref a1), .val (.ref t1)] [(.int (0 : Int32)), (.ref t1), (.ref a1)])) _
    refine XS.aloadN X0.here hx rfl (hb hby d2_3) rfl rfl ?_
    show Steps p.tables e below (s₁.setTop (mkF m 4 #[.val (.ref a1), .val (.ref t1)] [(.ref t1), (.int (0 : Int32)), (.ref t1), (.ref a1)])) _
    refine ArF.len X0 hx hZ e0 F230 (g := (mkF m 4 #[.val (.ref a1), .val (.ref t1)] [(.ref t1), (.int (0 : Int32)), (.ref t1), (.ref a1)])) rfl rfl (hb hby d2_4) _ ?_
    show Steps p.tables e below (s₁.setTop (mkF m 5 #[.val (.ref a1), .val (.ref t1)] [(.int (3 : Int32)), (.int (0 : Int32)), (.ref t1), (.ref a1)])) _
    refine XS.aconstNull X0.here hx rfl (hb hby d2_5) ?_
    exact kt
  obtain ⟨_, _, ⟨T232, L232, k232, n232⟩, -, X232, ⟨Lc232, hQ232, l232, y232, z232⟩, st232⟩ := X0.specialBack hx (y := (⟨"java/lang/String", "<init>", "([CIILjava/lang/Void;)V"⟩ : MethodName)) rfl hown (mvT hZ (hw _ (List.mem_of_getElem? (i := 11) rfl))) (mvT hZ (hw _ (List.mem_of_getElem? (i := 12) rfl))) (mvT hZ (hw _ (List.mem_of_getElem? (i := 14) rfl))) (by decide) (backOf (W := 0) (rm_k4_3 l Z a0 hw [] a1 t1 cf zc h0 n0 Z0 F227 F228 F229 F230 g_a1 hcf O HS hzc) hZ (hw _ (List.mem_of_getElem? (i := 14) rfl)) (hw _ (List.mem_of_getElem? (i := 7) rfl)) (by decide) (by decide)) (g := (mkF m 6 #[.val (.ref a1), .val (.ref t1)] [.null, (.int (3 : Int32)), (.int (0 : Int32)), (.ref t1), (.ref a1)])) rfl (by rw [hml]; rfl) (Steps.refl _) (a := a1) (argsL := [(.ref t1), (.int (0 : Int32)), (.int (3 : Int32)), .null]) (rest := []) (lenOf pd_8 rfl) rfl (by show 2 * 0 + _ ≤ _; exact Nat.le_of_eq rfl) (hb hby d2_6) (fun _ _ => ⟨rfl, e0, (by decide : 0 + 1 ≤ _), (by decide : 0 + 3 ≤ _)⟩)
  dsimp only [Pt.U, Pt.locs, Pt.cells, Pt.slots] at X232 l232 y232 z232 st232 hQ232
  subst l232 y232 z232
  obtain ⟨h232, e232⟩ : ∃ z, T232.heap = z := ⟨_, rfl⟩
  rw [e232] at hQ232
  obtain ⟨rfl, N232q, K232q⟩ := hQ232
  have z233 : n0 ≤ h232.size := Nat.le_trans Z0 K232q.1
  have N232 := Fr.app N0 N232q
  have C234 : ∀ t, Steps p.tables e below (T232.setTop (mkF m 9 #[.val (.ref a1), .val (.ref t1)] [])) t → Steps p.tables e below (s₁.setTop (mkF m 0 #[.val (.ref a1), .val (.ref t1)] [])) t := (fun t k => (S231 t (st232.trans k)))
  obtain ⟨fs, hr, hrun, hended, hW, hsame⟩ := X232.leave (v := none) (fun _ => rfl)
  refine ⟨_, _, pre0 _ (C234 _ ?_), hrun, hended, _, _, rfl, ?_, ⟨_, rfl⟩, hW, hsame.mono (by decide) (by decide)⟩
  · exact X232.returnOut hx Bd.returns (hb hby d2_9) hr
  · show Q_rm_k5_3 Z a1 t1 cf zc h0 n0 _ T232.heap _
    rw [e232]
    exact ⟨rfl, N232, ((Keep.refl h0 [a1]).trans K232q (allS (Or.inl (List.mem_of_getElem? (i := 0) rfl)) all0))⟩
theorem ef_rm_k4_0 (m : MethodId) (x0 : Addr) (x1 : Addr) (x2 : Int32) (x3 : Int32) : entryFrame m #[(.ref x0), (.ref x1), (.int x2), (.int x3), .null] 6 = mkF m 0 #[.val (.ref x0), .val (.ref x1), .val (.int x2), .val (.int x3), .val .null, .unset] [] := by first | (simp [entryFrame, mkF, argsToLocals, Value.category]; done) | rfl
def Q_rm_k4_0 (Z : State) (a1 : Addr) (t1 : Addr) (h0 : Heap) (n0 : Nat) (v : Option Value) (h : Heap) (L : List Loc) : Prop := v = none ∧ Fr n0 L ∧ Keep h0 h [a1]
set_option maxRecDepth 65536 in
set_option maxHeartbeats 40000000 in
theorem rm_k4_0 (l : Launch) (Z : State) (a0 : Array Value) (hw : ∀ d ∈ tables_1, d.before a0 Z = true) (ws : List Jvm.Cond) (a1 : Addr) (t1 : Addr) (h0 : Heap) (n0 : Nat) (Z0 : n0 ≤ h0.size) (F235 : Exa Z h0 a1 "java/lang/String") (F236 : Fld Z h0 a1 "java/lang/String" "value" "[B" .null) (F237 : Fld Z h0 a1 "java/lang/String" "coder" "B" (.int (0 : Int32))) (g_a1 : n0 ≤ a1) (O : Old Z n0 h0) (HC : Jvm.Lit.constHeld Z "java/lang/String" 7) (HW : Jvm.Lit.compactW.before a0 Z = true) :
    MetFree l (⟨"java/lang/String", "<init>", "([CIILjava/lang/Void;)V"⟩ : MethodName) (head1 (Jvm.Cond.code (⟨"java/lang/String", "<init>", "([CIILjava/lang/Void;)V"⟩ : MethodName) jdk_42_method_149_code 6 none :: ws) ({ frames := 1, cells := 2, slots := 4, locals := 12 } : Room)) (fun a U => a = #[(.ref a1), (.ref t1), (.int (0 : Int32)), (.int (0 : Int32)), .null] ∧ Z.Warmed39 U.vm ∧ U.heap = h0 ∧ U.vm.interned = Z.vm.interned) (fun _ _ _ _ _ => True) (fun _ U o U' => ∃ v L, o = .returned v ∧ Q_rm_k4_0 Z a1 t1 h0 n0 v U'.heap L ∧ ReturnedEndW U o U' L ({ frames := 1, cells := 2, slots := 4, locals := 12 } : Room).cells ({ frames := 1, cells := 2, slots := 4, locals := 12 } : Room).slots) := by
  refine MetFree.of_bodySF (plainFor_of_name pn_2) hisR ?_
  intro p e s m args below meth c s₁ Bd hml0 hP hK
  obtain ⟨rfl, hZ, hh, hI⟩ := hP
  have hx := Bd.exec
  have hby := Bd.bytes
  have hml : c.maxLocals = 6 := hml0
  have hown : s.vm.findClass "java/lang/String" = some m.cls := findClass_of_methodNamed Bd.named
  have hnm := (name_of_methodNamed Bd.named Bd.method).1
  have X0 : Stand p l e ({ frames := 1, cells := 2, slots := 4, locals := 12 } : Room) s m #[(.ref a1), (.ref t1), (.int (0 : Int32)), (.int (0 : Int32)), .null] below meth c s₁ [] 0 0 := Stand.of_body Bd
  have e0 : s₁.heap = h0 := by rw [← hh, Bd.state]; rfl
  have N0 := Fr.nil n0
  have pre0 : ∀ t, Steps p.tables e below (s₁.setTop (mkF m 0 #[.val (.ref a1), .val (.ref t1), .val (.int (0 : Int32)), .val (.int (0 : Int32)), .val .null, .unset] [])) t → Steps p.tables e below (s₁.setTop (entryFrame m #[(.ref a1), (.ref t1), (.int (0 : Int32)), (.int (0 : Int32)), .null] 6)) t := fun t k => castTop (ef_rm_k4_0 m a1 t1 (0 : Int32) (0 : Int32)) k
  have S238 : ∀ t, Steps p.tables e below (s₁.setTop (mkF m 1 #[.val (.ref a1), .val (.ref t1), .val (.int (0 : Int32)), .val (.int (0 : Int32)), .val .null, .unset] [(.ref a1)])) t → Steps p.tables e below (s₁.setTop (mkF m 0 #[.val (.ref a1), .val (.ref t1), .val (.int (0 : Int32)), .val (.int (0 : Int32)), .val .null, .unset] [])) t := by
    intro t kt
    show Steps p.tables e below (s₁.setTop (mkF m 0 #[.val (.ref a1), .val (.ref t1), .val (.int (0 : Int32)), .val (.int (0 : Int32)), .val .null, .unset] [])) _
    refine XS.aloadN X0.here hx rfl (hb hby d3_0) rfl rfl ?_
    exact kt
  obtain ⟨T239, X239, e239, st239⟩ := initO X0 hx hZ hown (hw _ (List.mem_of_getElem? (i := 15) rfl)) (hw _ (List.mem_of_getElem? (i := 16) rfl)) (hw _ (List.mem_of_getElem? (i := 17) rfl)) e0 (g := (mkF m 1 #[.val (.ref a1), .val (.ref t1), .val (.int (0 : Int32)), .val (.int (0 : Int32)), .val .null, .unset] [(.ref a1)])) rfl (by rw [hml]; rfl) rfl (hb hby d3_1) (by decide) (W := 0) (by show 2 * 0 + _ ≤ _; exact Nat.le_of_eq rfl) (by decide)
  have S240 : ∀ t, Steps p.tables e below (T239.setTop (mkF m 9 #[.val (.ref a1), .val (.ref t1), .val (.int (0 : Int32)), .val (.int (0 : Int32)), .val .null, .unset] [(.ref a1)])) t → Steps p.tables e below (T239.setTop (mkF m 4 #[.val (.ref a1), .val (.ref t1), .val (.int (0 : Int32)), .val (.int (0 : Int32)), .val .null, .unset] [])) t := by
    intro t kt
    show Steps p.tables e below (T239.setTop (mkF m 4 #[.val (.ref a1), .val (.ref t1), .val (.int (0 : Int32)), .val (.int (0 : Int32)), .val .null, .unset] [])) _
    refine XS.iloadN X239.here hx rfl (hb hby d3_4) rfl ?_
    show Steps p.tables e below (T239.setTop (mkF m 5 #[.val (.ref a1), .val (.ref t1), .val (.int (0 : Int32)), .val (.int (0 : Int32)), .val .null, .unset] [(.int (0 : Int32))])) _
    refine XS.ifNo X239.here hx rfl (hb hby d3_5) rfl ((if0 _ _).trans (teq rfl).2) ?_
    show Steps p.tables e below (T239.setTop (mkF m 8 #[.val (.ref a1), .val (.ref t1), .val (.int (0 : Int32)), .val (.int (0 : Int32)), .val .null, .unset] [])) _
    refine XS.aloadN X239.here hx rfl (hb hby d3_8) rfl rfl ?_
    exact kt
  have wS241 : ∀ d ∈ Bundle.stringAtoms, d.before a0 Z = true := by
    intro d hd
    simp only [Bundle.stringAtoms, List.mem_cons, List.not_mem_nil, or_false] at hd
    rcases hd with rfl | rfl | rfl | rfl | rfl | rfl | rfl
    · exact (hw _ (List.mem_of_getElem? (i := 7) rfl))
    · exact (hw _ (List.mem_of_getElem? (i := 6) rfl))
    · exact (hw _ (List.mem_of_getElem? (i := 23) rfl))
    · exact (hw _ (List.mem_of_getElem? (i := 33) rfl))
    · exact (hw _ (List.mem_of_getElem? (i := 31) rfl))
    · exact (hw _ (List.mem_of_getElem? (i := 74) rfl))
    · exact (hw _ (List.mem_of_getElem? (i := 75) rfl))
  obtain ⟨b241, T241, h241, k241, bl241, kl241, X241, e241, E241, hS241, hk241, hZ, hown, A241, Fc241, Fv241, -, -, -, -, hL241, st241⟩ := ldcSVL (s := s) (vm0 := s.vm) X239 hx hZ hown (hw _ (List.mem_of_getElem? (i := 73) rfl)) wS241 e239 ((State.WarmedH.refl s).since 0) (Nat.zero_le _) (Fr.nil _) (fun b cl q => by rw [hh]; exact O.2.2 b cl q) (⟨#[], by rw [hI, Array.append_empty], fun q hq => by simp at hq⟩ : IB Z s.vm []) (by simp) HC HW (vs := []) (z := 0) ⟨by decide, by rfl⟩ (by decide) rfl (g := (mkF m 9 #[.val (.ref a1), .val (.ref t1), .val (.int (0 : Int32)), .val (.int (0 : Int32)), .val .null, .unset] [(.ref a1)])) rfl (hb hby d3_9) (n := 0) (by decide) (by decide) (by decide) (by decide)
  have z242 : n0 ≤ h241.size := Nat.le_trans Z0 E241.1
  have f243 := (F236.ext E241)
  have ne_a1_b241 : a1 ≠ b241 := own_fld_ne f243 Fv241 (by simp)
  obtain ⟨T244, X244, e244, st244⟩ := getF X241 hx hZ hown (host := "") (Or.inl (hw _ (List.mem_of_getElem? (i := 32) rfl))) Via.refl e241 Fv241 (g := (mkF m 11 #[.val (.ref a1), .val (.ref t1), .val (.int (0 : Int32)), .val (.int (0 : Int32)), .val .null, .unset] [(.ref b241), (.ref a1)])) rfl rfl (hb hby d3_11)
  have f245 := (F235.ext E241)
  obtain ⟨T246, h246, X246, e246, W246, st246⟩ := putF X244 hx hZ hown (host := "") (Or.inl (hw _ (List.mem_of_getElem? (i := 32) rfl))) Via.refl e244 f243 f245 (Or.inr ⟨(hw _ (List.mem_of_getElem? (i := 33) rfl)), rfl, hnm⟩) (hw _ (List.mem_of_getElem? (i := 6) rfl)) (ty := (.array .byte)) (by decide) rfl rfl (g := (mkF m 14 #[.val (.ref a1), .val (.ref t1), .val (.int (0 : Int32)), .val (.int (0 : Int32)), .val .null, .unset] [(.ref bl241), (.ref a1)])) rfl rfl (hb hby d3_14)
  have z247 : n0 ≤ h246.size := Nat.le_trans z242 (Keep.of_wr W246).1
  have wk248 : k241 ≤ h246.size := Nat.le_trans hk241 (Keep.of_wr W246).1
  have N249 := Fr.snoc X246 N0 g_a1
  have Fw246 := f243.same W246
  have S250 : ∀ t, Steps p.tables e below (T246.setTop (mkF m 18 #[.val (.ref a1), .val (.ref t1), .val (.int (0 : Int32)), .val (.int (0 : Int32)), .val .null, .unset] [(.ref a1)])) t → Steps p.tables e below (T246.setTop (mkF m 17 #[.val (.ref a1), .val (.ref t1), .val (.int (0 : Int32)), .val (.int (0 : Int32)), .val .null, .unset] [])) t := by
    intro t kt
    show Steps p.tables e below (T246.setTop (mkF m 17 #[.val (.ref a1), .val (.ref t1), .val (.int (0 : Int32)), .val (.int (0 : Int32)), .val .null, .unset] [])) _
    refine XS.aloadN X246.here hx rfl (hb hby d3_17) rfl rfl ?_
    exact kt
  have st251 := ldcAgain (s := s) (vm0 := T241.vm) X246 hx hZ hown (hw _ (List.mem_of_getElem? (i := 73) rfl)) hL241 (g := (mkF m 18 #[.val (.ref a1), .val (.ref t1), .val (.int (0 : Int32)), .val (.int (0 : Int32)), .val .null, .unset] [(.ref a1)])) rfl (hb hby d3_18)
  have f252 := (Fc241.other W246 (Or.inl (Ne.symm ne_a1_b241)))
  obtain ⟨T253, X253, e253, st253⟩ := getF X246 hx hZ hown (host := "") (Or.inl (hw _ (List.mem_of_getElem? (i := 30) rfl))) Via.refl e246 f252 (g := (mkF m 20 #[.val (.ref a1), .val (.ref t1), .val (.int (0 : Int32)), .val (.int (0 : Int32)), .val .null, .unset] [(.ref b241), (.ref a1)])) rfl rfl (hb hby d3_20)
  have f254 := ((F237.ext E241).other W246 (Or.inr (slot_ne (Or.inr (hw _ (List.mem_of_getElem? (i := 31) rfl))) (Or.inr (hw _ (List.mem_of_getElem? (i := 33) rfl))) (by decide) (t := .byte) (t' := (.array .byte)) (by decide) (by decide))))
  have f255 := (f245.wr W246)
  obtain ⟨T256, h256, X256, e256, W256, st256⟩ := putFN X253 hx hZ hown (hw _ (List.mem_of_getElem? (i := 30) rfl)) Via.refl e253 f254 f255 (Or.inr ⟨(hw _ (List.mem_of_getElem? (i := 31) rfl)), rfl, hnm⟩) (hw _ (List.mem_of_getElem? (i := 6) rfl)) (ty := .byte) (v' := (.int (0 : Int32))) (by decide) rfl rfl (g := (mkF m 23 #[.val (.ref a1), .val (.ref t1), .val (.int (0 : Int32)), .val (.int (0 : Int32)), .val .null, .unset] [(.int (0 : Int32)), (.ref a1)])) rfl rfl (hb hby d3_23)
  have z257 : n0 ≤ h256.size := Nat.le_trans z247 (Keep.of_wr W256).1
  have wk258 : k241 ≤ h256.size := Nat.le_trans wk248 (Keep.of_wr W256).1
  have N259 := Fr.snoc X256 N249 g_a1
  have Fw256 := f254.same W256
  have C260 : ∀ t, Steps p.tables e below (T256.setTop (mkF m 26 #[.val (.ref a1), .val (.ref t1), .val (.int (0 : Int32)), .val (.int (0 : Int32)), .val .null, .unset] [])) t → Steps p.tables e below (s₁.setTop (mkF m 0 #[.val (.ref a1), .val (.ref t1), .val (.int (0 : Int32)), .val (.int (0 : Int32)), .val .null, .unset] [])) t := (fun t k => (S238 t (st239 t (S240 t (st241 t (st244 t (st246 t (S250 t (st251 t (st253 t (st256 t k)))))))))))
  obtain ⟨fs, hr, hrun, hended, hRE⟩ := Stand.leaveW (s := s) (vm₁ := T241.vm) X256 hS241 (Nat.le_trans wk258 (Nat.le_of_eq (congrArg Array.size e256.symm))) (v := none) (fun _ => rfl)
  refine ⟨_, _, pre0 _ (C260 _ ?_), hrun, hended, _, _, rfl, ?_, hRE.1, hRE.2.1, hRE.2.2.1, hRE.2.2.2.mono (by decide) (by decide)⟩
  · exact X256.returnOut hx Bd.returns (hb hby d3_26) hr
  · show Q_rm_k4_0 Z a1 t1 h0 n0 _ T256.heap _
    rw [e256]
    exact ⟨rfl, N259, ((((Keep.refl h0 [a1]).ext E241).wr W246 (Or.inl (List.mem_of_getElem? (i := 0) rfl))).wr W256 (Or.inl (List.mem_of_getElem? (i := 0) rfl)))⟩
theorem ef_rm_k5_0 (m : MethodId) (x0 : Addr) (x1 : Addr) : entryFrame m #[(.ref x0), (.ref x1)] 2 = mkF m 0 #[.val (.ref x0), .val (.ref x1)] [] := by first | (simp [entryFrame, mkF, argsToLocals, Value.category]; done) | rfl
def Q_rm_k5_0 (Z : State) (a1 : Addr) (t1 : Addr) (tf : Nat → Value) (h0 : Heap) (n0 : Nat) (v : Option Value) (h : Heap) (L : List Loc) : Prop := v = none ∧ Fr n0 L ∧ Keep h0 h [a1]
set_option maxRecDepth 65536 in
set_option maxHeartbeats 40000000 in
theorem rm_k5_0 (l : Launch) (Z : State) (a0 : Array Value) (hw : ∀ d ∈ tables_1, d.before a0 Z = true) (ws : List Jvm.Cond) (a1 : Addr) (t1 : Addr) (tf : Nat → Value) (h0 : Heap) (n0 : Nat) (Z0 : n0 ≤ h0.size) (F261 : Exa Z h0 a1 "java/lang/String") (F262 : Fld Z h0 a1 "java/lang/String" "value" "[B" .null) (F263 : Fld Z h0 a1 "java/lang/String" "coder" "B" (.int (0 : Int32))) (F264 : ArF Z h0 t1 .char 0 tf) (g_a1 : n0 ≤ a1) (O : Old Z n0 h0) (HC : Jvm.Lit.constHeld Z "java/lang/String" 7) (HW : Jvm.Lit.compactW.before a0 Z = true) :
    MetFree l (⟨"java/lang/String", "<init>", "([C)V"⟩ : MethodName) (head1 (Jvm.Cond.code (⟨"java/lang/String", "<init>", "([C)V"⟩ : MethodName) jdk_42_method_3_code 2 none :: ws) ({ frames := 2, cells := 2, slots := 4, locals := 29 } : Room)) (fun a U => a = #[(.ref a1), (.ref t1)] ∧ Z.Warmed39 U.vm ∧ U.heap = h0 ∧ U.vm.interned = Z.vm.interned) (fun _ _ _ _ _ => True) (fun _ U o U' => ∃ v L, o = .returned v ∧ Q_rm_k5_0 Z a1 t1 tf h0 n0 v U'.heap L ∧ ReturnedEndW U o U' L ({ frames := 2, cells := 2, slots := 4, locals := 29 } : Room).cells ({ frames := 2, cells := 2, slots := 4, locals := 29 } : Room).slots) := by
  refine MetFree.of_bodySF (plainFor_of_name pn_2) hisR ?_
  intro p e s m args below meth c s₁ Bd hml0 hP hK
  obtain ⟨rfl, hZ, hh, hI⟩ := hP
  have hx := Bd.exec
  have hby := Bd.bytes
  have hml : c.maxLocals = 2 := hml0
  have hown : s.vm.findClass "java/lang/String" = some m.cls := findClass_of_methodNamed Bd.named
  have hnm := (name_of_methodNamed Bd.named Bd.method).1
  have X0 : Stand p l e ({ frames := 2, cells := 2, slots := 4, locals := 29 } : Room) s m #[(.ref a1), (.ref t1)] below meth c s₁ [] 0 0 := Stand.of_body Bd
  have e0 : s₁.heap = h0 := by rw [← hh, Bd.state]; rfl
  have N0 := Fr.nil n0
  have pre0 : ∀ t, Steps p.tables e below (s₁.setTop (mkF m 0 #[.val (.ref a1), .val (.ref t1)] [])) t → Steps p.tables e below (s₁.setTop (entryFrame m #[(.ref a1), (.ref t1)] 2)) t := fun t k => castTop (ef_rm_k5_0 m a1 t1) k
  have S265 : ∀ t, Steps p.tables e below (s₁.setTop (mkF m 6 #[.val (.ref a1), .val (.ref t1)] [.null, (.int (0 : Int32)), (.int (0 : Int32)), (.ref t1), (.ref a1)])) t → Steps p.tables e below (s₁.setTop (mkF m 0 #[.val (.ref a1), .val (.ref t1)] [])) t := by
    intro t kt
    show Steps p.tables e below (s₁.setTop (mkF m 0 #[.val (.ref a1), .val (.ref t1)] [])) _
    refine XS.aloadN X0.here hx rfl (hb hby d2_0) rfl rfl ?_
    show Steps p.tables e below (s₁.setTop (mkF m 1 #[.val (.ref a1), .val (.ref t1)] [(.ref a1)])) _
    refine XS.aloadN X0.here hx rfl (hb hby d2_1) rfl rfl ?_
    show Steps p.tables e below (s₁.setTop (mkF m 2 #[.val (.ref a1), .val (.ref t1)] [(.ref t1), (.ref a1)])) _
    refine XS.iconst X0.here hx rfl (hb hby d2_2) ?_
    show Steps p.tables e below (s₁.setTop (mkF m 3 #[.val (.ref a1), .val (.ref t1)] [(.int (0 : Int32)), (.ref t1), (.ref a1)])) _
    refine XS.aloadN X0.here hx rfl (hb hby d2_3) rfl rfl ?_
    show Steps p.tables e below (s₁.setTop (mkF m 4 #[.val (.ref a1), .val (.ref t1)] [(.ref t1), (.int (0 : Int32)), (.ref t1), (.ref a1)])) _
    refine ArF.len X0 hx hZ e0 F264 (g := (mkF m 4 #[.val (.ref a1), .val (.ref t1)] [(.ref t1), (.int (0 : Int32)), (.ref t1), (.ref a1)])) rfl rfl (hb hby d2_4) _ ?_
    show Steps p.tables e below (s₁.setTop (mkF m 5 #[.val (.ref a1), .val (.ref t1)] [(.int (0 : Int32)), (.int (0 : Int32)), (.ref t1), (.ref a1)])) _
    refine XS.aconstNull X0.here hx rfl (hb hby d2_5) ?_
    exact kt
  obtain ⟨_, _, ⟨T266, L266, k266, n266⟩, -, X266, hS266, hg266, ⟨Lc266, hQ266, l266, y266, z266⟩, st266⟩ := X0.specialBackS hx (y := (⟨"java/lang/String", "<init>", "([CIILjava/lang/Void;)V"⟩ : MethodName)) rfl hown (mvT hZ (hw _ (List.mem_of_getElem? (i := 11) rfl))) (mvT hZ (hw _ (List.mem_of_getElem? (i := 12) rfl))) (mvT hZ (hw _ (List.mem_of_getElem? (i := 14) rfl))) (by decide) (own_backOfS (W := 0) (rm_k4_0 l Z a0 hw [] a1 t1 h0 n0 Z0 F261 F262 F263 g_a1 O HC HW) hZ hI (hw _ (List.mem_of_getElem? (i := 14) rfl)) (hw _ (List.mem_of_getElem? (i := 7) rfl)) (by decide) (by decide)) (g := (mkF m 6 #[.val (.ref a1), .val (.ref t1)] [.null, (.int (0 : Int32)), (.int (0 : Int32)), (.ref t1), (.ref a1)])) rfl (by rw [hml]; rfl) (Steps.refl _) (a := a1) (argsL := [(.ref t1), (.int (0 : Int32)), (.int (0 : Int32)), .null]) (rest := []) (lenOf pd_8 rfl) rfl (by show 2 * 0 + _ ≤ _; exact Nat.le_of_eq rfl) (hb hby d2_6) (fun _ _ => ⟨rfl, e0, (by decide : 0 + 2 ≤ _), (by decide : 0 + 4 ≤ _)⟩)
  dsimp only [Pt.U, Pt.locs, Pt.cells, Pt.slots] at X266 l266 y266 z266 st266 hQ266 hS266
  subst l266 y266 z266
  obtain ⟨h266, e266⟩ : ∃ z, T266.heap = z := ⟨_, rfl⟩
  rw [e266] at hQ266 hS266
  obtain ⟨rfl, N266q, K266q⟩ := hQ266
  have hZ : Z.Warmed39 (s.setVm T266.vm).vm := State.Warmed39.trans (t := s) hZ hS266.1
  have hown : (s.setVm T266.vm).vm.findClass "java/lang/String" = some m.cls := by rw [show (s.setVm T266.vm).vm = T266.vm from rfl, hS266.1.alike.findClass]; exact hown
  have z267 : n0 ≤ h266.size := Nat.le_trans Z0 K266q.1
  have N266 := Fr.app N0 N266q
  have C268 : ∀ t, Steps p.tables e below (T266.setTop (mkF m 9 #[.val (.ref a1), .val (.ref t1)] [])) t → Steps p.tables e below (s₁.setTop (mkF m 0 #[.val (.ref a1), .val (.ref t1)] [])) t := (fun t k => (S265 t (st266.trans k)))
  obtain ⟨fs, hr, hrun, hended, hRE⟩ := Stand.leaveW (s := s) (vm₁ := T266.vm) X266 hS266 (Nat.le_trans (Nat.le_refl _) (Nat.le_of_eq (congrArg Array.size e266.symm))) (v := none) (fun _ => rfl)
  refine ⟨_, _, pre0 _ (C268 _ ?_), hrun, hended, _, _, rfl, ?_, hRE.1, hRE.2.1, hRE.2.2.1, hRE.2.2.2.mono (by decide) (by decide)⟩
  · exact X266.returnOut hx Bd.returns (hb hby d2_9) hr
  · show Q_rm_k5_0 Z a1 t1 tf h0 n0 _ T266.heap _
    rw [e266]
    exact ⟨rfl, N266, ((Keep.refl h0 [a1]).trans K266q (allS (Or.inl (List.mem_of_getElem? (i := 0) rfl)) all0))⟩
theorem ef_rm1 (m : MethodId) (x0 : Int32) (x1 : Int32) : entryFrame m #[(.int x0), (.int x1)] 7 = mkF m 0 #[.val (.int x0), .val (.int x1), .unset, .unset, .unset, .unset, .unset] [] := by first | (simp [entryFrame, mkF, argsToLocals, Value.category]; done) | rfl
def Q_rm1 (Z : State) (x1 : Int32) (x2 : Int32) (zc : Int32) (h0 : Heap) (n0 : Nat) (v : Option Value) (h : Heap) (L : List Loc) : Prop := ∃ b : Addr, v = some (.ref b) ∧ Fr n0 L ∧ Keep h0 h [] ∧ Exa Z h b "java/lang/String"
set_option maxRecDepth 65536 in
set_option maxHeartbeats 40000000 in
theorem rm1 (l : Launch) (Z : State) (a0 : Array Value) (hw : ∀ d ∈ tables_1, d.before a0 Z = true) (ws : List Jvm.Cond) (x1 : Int32) (x2 : Int32) (zc : Int32) (h0 : Heap) (n0 : Nat) (Z0 : n0 ≤ h0.size) (O : Old Z n0 h0) (HS : Sta Z Z.heap "java/lang/String" "COMPACT_STRINGS" "Z" (.int zc)) (hzc : ¬ zc = (0 : Int32)) (HC : Jvm.Lit.constHeld Z "java/lang/String" 7) (HW : Jvm.Lit.compactW.before a0 Z = true) :
    MetFree l (⟨"com/example/portcullis/portcullis/util/HostPortWithPortPinLaw", "host", "(II)Ljava/lang/String;"⟩ : MethodName) (head1 (Jvm.Cond.code (⟨"com/example/portcullis/portcullis/util/HostPortWithPortPinLaw", "host", "(II)Ljava/lang/String;"⟩ : MethodName) method_2_code 7 (some (.object "java/lang/String")) :: ws) ({ frames := 4, cells := 4, slots := 10, locals := 66 } : Room)) (fun a U => a = #[(.int x1), (.int x2)] ∧ Z.Warmed39 U.vm ∧ U.heap = h0 ∧ U.vm.interned = Z.vm.interned) (fun _ _ _ _ _ => True) (fun _ U o U' => ∃ v L, o = .returned v ∧ Q_rm1 Z x1 x2 zc h0 n0 v U'.heap L ∧ ReturnedEndW U o U' L ({ frames := 4, cells := 4, slots := 10, locals := 66 } : Room).cells ({ frames := 4, cells := 4, slots := 10, locals := 66 } : Room).slots) := by
  refine MetFree.of_bodySF (plainFor_of_name pn_5) hisR ?_
  intro p e s m args below meth c s₁ Bd hml0 hP hK
  obtain ⟨rfl, hZ, hh, hI⟩ := hP
  have hx := Bd.exec
  have hby := Bd.bytes
  have hml : c.maxLocals = 7 := hml0
  have hown : s.vm.findClass "com/example/portcullis/portcullis/util/HostPortWithPortPinLaw" = some m.cls := findClass_of_methodNamed Bd.named
  have hnm := (name_of_methodNamed Bd.named Bd.method).1
  have X0 : Stand p l e ({ frames := 4, cells := 4, slots := 10, locals := 66 } : Room) s m #[(.int x1), (.int x2)] below meth c s₁ [] 0 0 := Stand.of_body Bd
  have e0 : s₁.heap = h0 := by rw [← hh, Bd.state]; rfl
  have N0 := Fr.nil n0
  have pre0 : ∀ t, Steps p.tables e below (s₁.setTop (mkF m 0 #[.val (.int x1), .val (.int x2), .unset, .unset, .unset, .unset, .unset] [])) t → Steps p.tables e below (s₁.setTop (entryFrame m #[(.int x1), (.int x2)] 7)) t := fun t k => castTop (ef_rm1 m x1 x2) k
  have S270 : ∀ t, Steps p.tables e below (s₁.setTop (mkF m 6 #[.val (.int x1), .val (.int x2), .unset, .unset, .unset, .unset, .unset] [(.int ((x1 &&& (255 : Int32)).toUInt32.toUInt16.toUInt32.toInt32))])) t → Steps p.tables e below (s₁.setTop (mkF m 0 #[.val (.int x1), .val (.int x2), .unset, .unset, .unset, .unset, .unset] [])) t := by
    intro t kt
    show Steps p.tables e below (s₁.setTop (mkF m 0 #[.val (.int x1), .val (.int x2), .unset, .unset, .unset, .unset, .unset] [])) _
    refine XS.iloadN X0.here hx rfl (hb hby d1_0) rfl ?_
    show Steps p.tables e below (s₁.setTop (mkF m 1 #[.val (.int x1), .val (.int x2), .unset, .unset, .unset, .unset, .unset] [(.int x1)])) _
    refine XS.sipush X0.here hx rfl (hb hby d1_1) ?_
    show Steps p.tables e below (s₁.setTop (mkF m 4 #[.val (.int x1), .val (.int x2), .unset, .unset, .unset, .unset, .unset] [(.int (255 : Int32)), (.int x1)])) _
    refine XS.iand X0.here hx rfl (hb hby d1_4) rfl ?_
    show Steps p.tables e below (s₁.setTop (mkF m 5 #[.val (.int x1), .val (.int x2), .unset, .unset, .unset, .unset, .unset] [(.int (x1 &&& (255 : Int32)))])) _
    refine XS.i2c X0.here hx rfl (hb hby d1_5) rfl ?_
    exact kt
  obtain ⟨v269, hv269⟩ : ∃ z : Int32, z = ((x1 &&& (255 : Int32)).toUInt32.toUInt16.toUInt32.toInt32) := ⟨_, rfl⟩
  have S271 : ∀ t, Steps p.tables e below (s₁.setTop (mkF m 6 #[.val (.int x1), .val (.int x2), .unset, .unset, .unset, .unset, .unset] [(.int v269)])) t → Steps p.tables e below (s₁.setTop (mkF m 6 #[.val (.int x1), .val (.int x2), .unset, .unset, .unset, .unset, .unset] [(.int ((x1 &&& (255 : Int32)).toUInt32.toUInt16.toUInt32.toInt32))])) t := fun t k => by rw [hv269.symm]; exact k
  have hcv269 : ¬ (255 : Int32) < v269 := by rw [hv269]; exact own_c255 _
  have hnv269 : ¬ (255 : Int32) < nar .char v269 := by rw [hv269]; exact own_n255 _
  have S273 : ∀ t, Steps p.tables e below (s₁.setTop (mkF m 16 #[.val (.int x1), .val (.int x2), .val (.int v269), .unset, .unset, .unset, .unset] [(.int ((((x1.toUInt32 >>> ((8 : Int32) &&& 31).toUInt32).toInt32) &&& (255 : Int32)).toUInt32.toUInt16.toUInt32.toInt32))])) t → Steps p.tables e below (s₁.setTop (mkF m 6 #[.val (.int x1), .val (.int x2), .unset, .unset, .unset, .unset, .unset] [(.int v269)])) t := by
    intro t kt
    show Steps p.tables e below (s₁.setTop (mkF m 6 #[.val (.int x1), .val (.int x2), .unset, .unset, .unset, .unset, .unset] [(.int v269)])) _
    refine XS.istoreN X0.here hx rfl (hb hby d1_6) rfl (l' := #[.val (.int x1), .val (.int x2), .val (.int v269), .unset, .unset, .unset, .unset]) rfl ?_
    show Steps p.tables e below (s₁.setTop (mkF m 7 #[.val (.int x1), .val (.int x2), .val (.int v269), .unset, .unset, .unset, .unset] [])) _
    refine XS.iloadN X0.here hx rfl (hb hby d1_7) rfl ?_
    show Steps p.tables e below (s₁.setTop (mkF m 8 #[.val (.int x1), .val (.int x2), .val (.int v269), .unset, .unset, .unset, .unset] [(.int x1)])) _
    refine XS.bipush X0.here hx rfl (hb hby d1_8) ?_
    show Steps p.tables e below (s₁.setTop (mkF m 10 #[.val (.int x1), .val (.int x2), .val (.int v269), .unset, .unset, .unset, .unset] [(.int (8 : Int32)), (.int x1)])) _
    refine XS.iushr X0.here hx rfl (hb hby d1_10) rfl ?_
    show Steps p.tables e below (s₁.setTop (mkF m 11 #[.val (.int x1), .val (.int x2), .val (.int v269), .unset, .unset, .unset, .unset] [(.int ((x1.toUInt32 >>> ((8 : Int32) &&& 31).toUInt32).toInt32))])) _
    refine XS.sipush X0.here hx rfl (hb hby d1_11) ?_
    show Steps p.tables e below (s₁.setTop (mkF m 14 #[.val (.int x1), .val (.int x2), .val (.int v269), .unset, .unset, .unset, .unset] [(.int (255 : Int32)), (.int ((x1.toUInt32 >>> ((8 : Int32) &&& 31).toUInt32).toInt32))])) _
    refine XS.iand X0.here hx rfl (hb hby d1_14) rfl ?_
    show Steps p.tables e below (s₁.setTop (mkF m 15 #[.val (.int x1), .val (.int x2), .val (.int v269), .unset, .unset, .unset, .unset] [(.int (((x1.toUInt32 >>> ((8 : Int32) &&& 31).toUInt32).toInt32) &&& (255 : Int32)))])) _
    refine XS.i2c X0.here hx rfl (hb hby d1_15) rfl ?_
    exact kt
  obtain ⟨v272, hv272⟩ : ∃ z : Int32, z = ((((x1.toUInt32 >>> ((8 : Int32) &&& 31).toUInt32).toInt32) &&& (255 : Int32)).toUInt32.toUInt16.toUInt32.toInt32) := ⟨_, rfl⟩
  have S274 : ∀ t, Steps p.tables e below (s₁.setTop (mkF m 16 #[.val (.int x1), .val (.int x2), .val (.int v269), .unset, .unset, .unset, .unset] [(.int v272)])) t → Steps p.tables e below (s₁.setTop (mkF m 16 #[.val (.int x1), .val (.int x2), .val (.int v269), .unset, .unset, .unset, .unset] [(.int ((((x1.toUInt32 >>> ((8 : Int32) &&& 31).toUInt32).toInt32) &&& (255 : Int32)).toUInt32.toUInt16.toUInt32.toInt32))])) t := fun t k => by rw [hv272.symm]; exact k
  have hcv272 : ¬ (255 : Int32) < v272 := by rw [hv272]; exact own_c255 _
  have hnv272 : ¬ (255 : Int32) < nar .char v272 := by rw [hv272]; exact own_n255 _
  have S276 : ∀ t, Steps p.tables e below (s₁.setTop (mkF m 26 #[.val (.int x1), .val (.int x2), .val (.int v269), .val (.int v272), .unset, .unset, .unset] [(.int ((((x1.toUInt32 >>> ((16 : Int32) &&& 31).toUInt32).toInt32) &&& (255 : Int32)).toUInt32.toUInt16.toUInt32.toInt32))])) t → Steps p.tables e below (s₁.setTop (mkF m 16 #[.val (.int x1), .val (.int x2), .val (.int v269), .unset, .unset, .unset, .unset] [(.int v272)])) t := by
    intro t kt
    show Steps p.tables e below (s₁.setTop (mkF m 16 #[.val (.int x1), .val (.int x2), .val (.int v269), .unset, .unset, .unset, .unset] [(.int v272)])) _
    refine XS.istoreN X0.here hx rfl (hb hby d1_16) rfl (l' := #[.val (.int x1), .val (.int x2), .val (.int v269), .val (.int v272), .unset, .unset, .unset]) rfl ?_
    show Steps p.tables e below (s₁.setTop (mkF m 17 #[.val (.int x1), .val (.int x2), .val (.int v269), .val (.int v272), .unset, .unset, .unset] [])) _
    refine XS.iloadN X0.here hx rfl (hb hby d1_17) rfl ?_
    show Steps p.tables e below (s₁.setTop (mkF m 18 #[.val (.int x1), .val (.int x2), .val (.int v269), .val (.int v272), .unset, .unset, .unset] [(.int x1)])) _
    refine XS.bipush X0.here hx rfl (hb hby d1_18) ?_
    show Steps p.tables e below (s₁.setTop (mkF m 20 #[.val (.int x1), .val (.int x2), .val (.int v269), .val (.int v272), .unset, .unset, .unset] [(.int (16 : Int32)), (.int x1)])) _
    refine XS.iushr X0.here hx rfl (hb hby d1_20) rfl ?_
    show Steps p.tables e below (s₁.setTop (mkF m 21 #[.val (.int x1), .val (.int x2), .val (.int v269), .val (.int v272), .unset, .unset, .unset] [(.int ((x1.toUInt32 >>> ((16 : Int32) &&& 31).toUInt32).toInt32))])) _
    refine XS.sipush X0.here hx rfl (hb hby d1_21) ?_
    show Steps p.tables e below (s₁.setTop (mkF m 24 #[.val (.int x1), .val (.int x2), .val (.int v269), .val (.int v272), .unset, .unset, .unset] [(.int (255 : Int32)), (.int ((x1.toUInt32 >>> ((16 : Int32) &&& 31).toUInt32).toInt32))])) _
    refine XS.iand X0.here hx rfl (hb hby d1_24) rfl ?_
    show Steps p.tables e below (s₁.setTop (mkF m 25 #[.val (.int x1), .val (.int x2), .val (.int v269), .val (.int v272), .unset, .unset, .unset] [(.int (((x1.toUInt32 >>> ((16 : Int32) &&& 31).toUInt32).toInt32) &&& (255 : Int32)))])) _
    refine XS.i2c X0.here hx rfl (hb hby d1_25) rfl ?_
    exact kt
  obtain ⟨v275, hv275⟩ : ∃ z : Int32, z = ((((x1.toUInt32 >>> ((16 : Int32) &&& 31).toUInt32).toInt32) &&& (255 : Int32)).toUInt32.toUInt16.toUInt32.toInt32) := ⟨_, rfl⟩
  have S277 : ∀ t, Steps p.tables e below (s₁.setTop (mkF m 26 #[.val (.int x1), .val (.int x2), .val (.int v269), .val (.int v272), .unset, .unset, .unset] [(.int v275)])) t → Steps p.tables e below (s₁.setTop (mkF m 26 #[.val (.int x1), .val (.int x2), .val (.int v269), .val (.int v272), .unset, .unset, .unset] [(.int ((((x1.toUInt32 >>> ((16 : Int32) &&& 31).toUInt32).toInt32) &&& (255 : Int32)).toUInt32.toUInt16.toUInt32.toInt32))])) t := fun t k => by rw [hv275.symm]; exact k
  have hcv275 : ¬ (255 : Int32) < v275 := by rw [hv275]; exact own_c255 _
  have hnv275 : ¬ (255 : Int32) < nar .char v275 := by rw [hv275]; exact own_n255 _
  have hcf : ∀ q, ¬ (255 : Int32) < own_cs v269 v272 v275 q := by
    intro q; unfold own_cs; split; · exact hnv269
    split; · exact hnv272
    exact hnv275
  have S279 : ∀ t, Steps p.tables e below (s₁.setTop (mkF m 31 #[.val (.int x1), .val (.int x2), .val (.int v269), .val (.int v272), .val (.int v275), .unset, .unset] [(.int (x2 &&& (3 : Int32)))])) t → Steps p.tables e below (s₁.setTop (mkF m 26 #[.val (.int x1), .val (.int x2), .val (.int v269), .val (.int v272), .unset, .unset, .unset] [(.int v275)])) t := by
    intro t kt
    show Steps p.tables e below (s₁.setTop (mkF m 26 #[.val (.int x1), .val (.int x2), .val (.int v269), .val (.int v272), .unset, .unset, .unset] [(.int v275)])) _
    refine XS.istore X0.here hx rfl (hb hby d1_26) rfl (l' := #[.val (.int x1), .val (.int x2), .val (.int v269), .val (.int v272), .val (.int v275), .unset, .unset]) rfl ?_
    show Steps p.tables e below (s₁.setTop (mkF m 28 #[.val (.int x1), .val (.int x2), .val (.int v269), .val (.int v272), .val (.int v275), .unset, .unset] [])) _
    refine XS.iloadN X0.here hx rfl (hb hby d1_28) rfl ?_
    show Steps p.tables e below (s₁.setTop (mkF m 29 #[.val (.int x1), .val (.int x2), .val (.int v269), .val (.int v272), .val (.int v275), .unset, .unset] [(.int x2)])) _
    refine XS.iconst X0.here hx rfl (hb hby d1_29) ?_
    show Steps p.tables e below (s₁.setTop (mkF m 30 #[.val (.int x1), .val (.int x2), .val (.int v269), .val (.int v272), .val (.int v275), .unset, .unset] [(.int (3 : Int32)), (.int x2)])) _
    refine XS.iand X0.here hx rfl (hb hby d1_30) rfl ?_
    exact kt
  obtain ⟨v278, hv278⟩ : ∃ z : Int32, z = (x2 &&& (3 : Int32)) := ⟨_, rfl⟩
  have S280 : ∀ t, Steps p.tables e below (s₁.setTop (mkF m 31 #[.val (.int x1), .val (.int x2), .val (.int v269), .val (.int v272), .val (.int v275), .unset, .unset] [(.int v278)])) t → Steps p.tables e below (s₁.setTop (mkF m 31 #[.val (.int x1), .val (.int x2), .val (.int v269), .val (.int v272), .val (.int v275), .unset, .unset] [(.int (x2 &&& (3 : Int32)))])) t := fun t k => by rw [hv278.symm]; exact k
  have S281 : ∀ t, Steps p.tables e below (s₁.setTop (mkF m 35 #[.val (.int x1), .val (.int x2), .val (.int v269), .val (.int v272), .val (.int v275), .val (.int v278), .unset] [(.int v278)])) t → Steps p.tables e below (s₁.setTop (mkF m 31 #[.val (.int x1), .val (.int x2), .val (.int v269), .val (.int v272), .val (.int v275), .unset, .unset] [(.int v278)])) t := by
    intro t kt
    show Steps p.tables e below (s₁.setTop (mkF m 31 #[.val (.int x1), .val (.int x2), .val (.int v269), .val (.int v272), .val (.int v275), .unset, .unset] [(.int v278)])) _
    refine XS.istore X0.here hx rfl (hb hby d1_31) rfl (l' := #[.val (.int x1), .val (.int x2), .val (.int v269), .val (.int v272), .val (.int v275), .val (.int v278), .unset]) rfl ?_
    show Steps p.tables e below (s₁.setTop (mkF m 33 #[.val (.int x1), .val (.int x2), .val (.int v269), .val (.int v272), .val (.int v275), .val (.int v278), .unset] [])) _
    refine XS.iload X0.here hx rfl (hb hby d1_33) rfl ?_
    exact kt
  by_cases hc282 : v278 = (0 : Int32)
  · have S283 : ∀ t, Steps p.tables e below (s₁.setTop (mkF m 38 #[.val (.int x1), .val (.int x2), .val (.int v269), .val (.int v272), .val (.int v275), .val (.int v278), .unset] [])) t → Steps p.tables e below (s₁.setTop (mkF m 35 #[.val (.int x1), .val (.int x2), .val (.int v269), .val (.int v272), .val (.int v275), .val (.int v278), .unset] [(.int v278)])) t := by
      intro t kt
      show Steps p.tables e below (s₁.setTop (mkF m 35 #[.val (.int x1), .val (.int x2), .val (.int v269), .val (.int v272), .val (.int v275), .val (.int v278), .unset] [(.int v278)])) _
      refine XS.ifNo X0.here hx rfl (hb hby d1_35) rfl ((if0 _ _).trans (teq hc282).2) ?_
      exact kt
    obtain ⟨T284, h284, X284, e284, E284, A284, D284, -, st284⟩ := newO X0 hx hZ hown (hw _ (List.mem_of_getElem? (i := 5) rfl)) (hw _ (List.mem_of_getElem? (i := 6) rfl)) (hw _ (List.mem_of_getElem? (i := 7) rfl)) e0 (g := (mkF m 38 #[.val (.int x1), .val (.int x2), .val (.int v269), .val (.int v272), .val (.int v275), .val (.int v278), .unset] [])) rfl (hb hby d1_38) (by decide) (by decide)
    obtain ⟨b284, g284⟩ : ∃ z, z = h0.size := ⟨_, rfl⟩
    rw [← g284] at A284 D284 st284
    have g_b284 : n0 ≤ b284 := Nat.le_trans Z0 (Nat.le_of_eq g284.symm)
    have K285 := (Keep.refl h0 [])
    have sz_b284 : h0.size ≤ b284 := Nat.le_trans K285.1 (Nat.le_of_eq g284.symm)
    have z286 : n0 ≤ h284.size := Nat.le_trans Z0 E284.1
    have F287 : Fld Z h284 b284 "java/lang/String" "coder" "B" (.int (0 : Int32)) := D284 (Or.inr (hw _ (List.mem_of_getElem? (i := 31) rfl))) (ty := .byte) (by decide)
    have F288 : Fld Z h284 b284 "java/lang/String" "value" "[B" .null := D284 (Or.inr (hw _ (List.mem_of_getElem? (i := 33) rfl))) (ty := (.array .byte)) (by decide)
    have S289 : ∀ t, Steps p.tables e below (T284.setTop (mkF m 43 #[.val (.int x1), .val (.int x2), .val (.int v269), .val (.int v272), .val (.int v275), .val (.int v278), .unset] [(.int (0 : Int32)), (.ref b284), (.ref b284)])) t → Steps p.tables e below (T284.setTop (mkF m 41 #[.val (.int x1), .val (.int x2), .val (.int v269), .val (.int v272), .val (.int v275), .val (.int v278), .unset] [(.ref b284)])) t := by
      intro t kt
      show Steps p.tables e below (T284.setTop (mkF m 41 #[.val (.int x1), .val (.int x2), .val (.int v269), .val (.int v272), .val (.int v275), .val (.int v278), .unset] [(.ref b284)])) _
      refine XS.dup X284.here hx rfl (hb hby d1_41) rfl rfl ?_
      show Steps p.tables e below (T284.setTop (mkF m 42 #[.val (.int x1), .val (.int x2), .val (.int v269), .val (.int v272), .val (.int v275), .val (.int v278), .unset] [(.ref b284), (.ref b284)])) _
      refine XS.iconst X284.here hx rfl (hb hby d1_42) ?_
      exact kt
    obtain ⟨T290, h290, k290, X290, e290, E290, A290, st290⟩ := newP X284 hx hZ (hw _ (List.mem_of_getElem? (i := 4) rfl)) e284 (g := (mkF m 43 #[.val (.int x1), .val (.int x2), .val (.int v269), .val (.int v272), .val (.int v275), .val (.int v278), .unset] [(.int (0 : Int32)), (.ref b284), (.ref b284)])) rfl (hb hby d1_43) rfl (by decide) (cap := 0) (by decide) (by decide) (by decide) (by decide)
    obtain ⟨b290, g290⟩ : ∃ z, z = h284.size := ⟨_, rfl⟩
    rw [← g290] at A290 st290
    have g_b290 : n0 ≤ b290 := Nat.le_trans z286 (Nat.le_of_eq g290.symm)
    have K291 := (K285.ext E284)
    have sz_b290 : h0.size ≤ b290 := Nat.le_trans K291.1 (Nat.le_of_eq g290.symm)
    have ne_b284_b290 : b284 ≠ b290 := Nat.ne_of_lt (Nat.lt_of_lt_of_le A284.lt (Nat.le_of_eq g290.symm))
    have z292 : n0 ≤ h290.size := Nat.le_trans z286 E290.1
    have V290 : ArF Z h290 b290 .char 0 (fun _ => (.int (0 : Int32))) := ArF.new A290 (by decide) rfl
    have f293 := (A284.ext E290)
    have f294 := (F288.ext E290)
    have f295 := (F287.ext E290)
    have f296 := ((O.ext E284).ext E290)
    obtain ⟨_, _, ⟨T297, L297, k297, n297⟩, -, X297, hS297, hg297, ⟨Lc297, hQ297, l297, y297, z297⟩, st297⟩ := X290.specialBackS hx (y := (⟨"java/lang/String", "<init>", "([C)V"⟩ : MethodName)) rfl hown (mvT hZ (hw _ (List.mem_of_getElem? (i := 8) rfl))) (mvT hZ (hw _ (List.mem_of_getElem? (i := 9) rfl))) (mvT hZ (hw _ (List.mem_of_getElem? (i := 10) rfl))) (by decide) (own_backOfS (W := 1) (rm_k5_0 l Z a0 hw [] b284 b290 (fun _ => (.int (0 : Int32))) h290 n0 z292 f293 f294 f295 V290 g_b284 f296 HC HW) hZ hI (hw _ (List.mem_of_getElem? (i := 10) rfl)) (hw _ (List.mem_of_getElem? (i := 7) rfl)) (by decide) (by decide)) (g := (mkF m 45 #[.val (.int x1), .val (.int x2), .val (.int v269), .val (.int v272), .val (.int v275), .val (.int v278), .unset] [(.ref b290), (.ref b284), (.ref b284)])) rfl (by rw [hml]; rfl) (Steps.refl _) (a := b284) (argsL := [(.ref b290)]) (rest := [(.ref b284)]) (lenOf pd_9 rfl) rfl (by show 2 * 0 + _ ≤ _; exact Nat.le_of_eq rfl) (hb hby d1_45) (fun _ _ => ⟨rfl, e290, (by decide : 2 + 2 ≤ _), (by decide : 4 + 4 ≤ _)⟩)
    dsimp only [Pt.U, Pt.locs, Pt.cells, Pt.slots] at X297 l297 y297 z297 st297 hQ297 hS297
    subst l297 y297 z297
    obtain ⟨h297, e297⟩ : ∃ z, T297.heap = z := ⟨_, rfl⟩
    rw [e297] at hQ297 hS297
    obtain ⟨rfl, N297q, K297q⟩ := hQ297
    have hZ : Z.Warmed39 (s.setVm T297.vm).vm := State.Warmed39.trans (t := s) hZ hS297.1
    have hown : (s.setVm T297.vm).vm.findClass "com/example/portcullis/portcullis/util/HostPortWithPortPinLaw" = some m.cls := by rw [show (s.setVm T297.vm).vm = T297.vm from rfl, hS297.1.alike.findClass]; exact hown
    have z298 : n0 ≤ h297.size := Nat.le_trans z292 K297q.1
    have N297 := Fr.app N0 N297q
    have C299 : ∀ t, Steps p.tables e below (T297.setTop (mkF m 48 #[.val (.int x1), .val (.int x2), .val (.int v269), .val (.int v272), .val (.int v275), .val (.int v278), .unset] [(.ref b284)])) t → Steps p.tables e below (s₁.setTop (mkF m 0 #[.val (.int x1), .val (.int x2), .unset, .unset, .unset, .unset, .unset] [])) t := (fun t k => (S270 t (S271 t (S273 t (S274 t (S276 t (S277 t (S279 t (S280 t (S281 t (S283 t (st284 t (S289 t (st290 t (st297.trans k)))))))))))))))
    obtain ⟨fs, hr, hrun, hended, hRE⟩ := Stand.leaveW (s := s) (vm₁ := T297.vm) X297 hS297 (Nat.le_trans (Nat.le_refl _) (Nat.le_of_eq (congrArg Array.size e297.symm))) (v := some (.ref b284)) (fun h => by rw [Bd.returns] at h; cases h)
    refine ⟨_, _, pre0 _ (C299 _ ?_), hrun, hended, _, _, rfl, ?_, hRE.1, hRE.2.1, hRE.2.2.1, hRE.2.2.2.mono (by decide) (by decide)⟩
    · exact retOut X297 hx Bd.returns rfl (Or.inr (Or.inr (Or.inr (Or.inr ⟨rfl, rfl, rfl⟩)))) (hb hby d1_48) hr
    · show Q_rm1 Z x1 x2 zc h0 n0 _ T297.heap _
      rw [e297]
      have f300 := (f293.keep K297q)
      exact ⟨_, rfl, N297, ((K291.ext E290).trans K297q (allS (Or.inr sz_b284) all0)), f300⟩
  · have S301 : ∀ t, Steps p.tables e below (s₁.setTop (mkF m 52 #[.val (.int x1), .val (.int x2), .val (.int v269), .val (.int v272), .val (.int v275), .val (.int v278), .unset] [(.int (1 : Int32)), (.int v278)])) t → Steps p.tables e below (s₁.setTop (mkF m 35 #[.val (.int x1), .val (.int x2), .val (.int v269), .val (.int v272), .val (.int v275), .val (.int v278), .unset] [(.int v278)])) t := by
      intro t kt
      show Steps p.tables e below (s₁.setTop (mkF m 35 #[.val (.int x1), .val (.int x2), .val (.int v269), .val (.int v272), .val (.int v275), .val (.int v278), .unset] [(.int v278)])) _
      refine XS.ifYes X0.here hx rfl (pc0 := 35) (pc' := 49) rfl (hb hby d1_35) rfl ((if0 _ _).trans (feq hc282).2) (by decide) (by decide) ?_
      show Steps p.tables e below (s₁.setTop (mkF m 49 #[.val (.int x1), .val (.int x2), .val (.int v269), .val (.int v272), .val (.int v275), .val (.int v278), .unset] [])) _
      refine XS.iload X0.here hx rfl (hb hby d1_49) rfl ?_
      show Steps p.tables e below (s₁.setTop (mkF m 51 #[.val (.int x1), .val (.int x2), .val (.int v269), .val (.int v272), .val (.int v275), .val (.int v278), .unset] [(.int v278)])) _
      refine XS.iconst X0.here hx rfl (hb hby d1_51) ?_
      exact kt
    by_cases hc302 : v278 = (1 : Int32)
    · have S304 : ∀ t, Steps p.tables e below (s₁.setTop (mkF m 56 #[.val (.int x1), .val (.int x2), .val (.int v269), .val (.int v272), .val (.int v275), .val (.int v278), .unset] [(.int v269)])) t → Steps p.tables e below (s₁.setTop (mkF m 52 #[.val (.int x1), .val (.int x2), .val (.int v269), .val (.int v272), .val (.int v275), .val (.int v278), .unset] [(.int (1 : Int32)), (.int v278)])) t := by
        intro t kt
        show Steps p.tables e below (s₁.setTop (mkF m 52 #[.val (.int x1), .val (.int x2), .val (.int v269), .val (.int v272), .val (.int v275), .val (.int v278), .unset] [(.int (1 : Int32)), (.int v278)])) _
        refine XS.icmpNo X0.here hx rfl (hb hby d1_52) rfl (teq hc302).2 ?_
        show Steps p.tables e below (s₁.setTop (mkF m 55 #[.val (.int x1), .val (.int x2), .val (.int v269), .val (.int v272), .val (.int v275), .val (.int v278), .unset] [])) _
        refine XS.iloadN X0.here hx rfl (hb hby d1_55) rfl ?_
        exact kt
      obtain ⟨_, _, ⟨T305, L305, k305, n305⟩, -, X305, ⟨Lc305, hQ305, l305, y305, z305⟩, st305⟩ := Jvm.LawKit.callS X0 hx (y := (⟨"java/lang/String", "valueOf", "(C)Ljava/lang/String;"⟩ : MethodName)) hown (mvT hZ (hw _ (List.mem_of_getElem? (i := 76) rfl))) (mvT hZ (hw _ (List.mem_of_getElem? (i := 77) rfl))) (mvT hZ (hw _ (List.mem_of_getElem? (i := 7) rfl))) (mvT hZ (hw _ (List.mem_of_getElem? (i := 78) rfl))) (by decide) (backOf (W := 0) (rm14 l Z a0 hw [] v269 zc h0 n0 Z0 O HS hzc hcv269) hZ (hw _ (List.mem_of_getElem? (i := 78) rfl)) (hw _ (List.mem_of_getElem? (i := 7) rfl)) (by decide) (by decide)) (g := (mkF m 56 #[.val (.int x1), .val (.int x2), .val (.int v269), .val (.int v272), .val (.int v275), .val (.int v278), .unset] [(.int v269)])) rfl (by rw [hml]; rfl) (argsL := [(.int v269)]) (rest := []) (lenOf pd_10 rfl) rfl (by show 2 * 0 + _ ≤ _; exact Nat.le_of_eq rfl) (hb hby d1_56) (fun _ _ => ⟨rfl, e0, (by decide : 0 + 2 ≤ _), (by decide : 0 + 5 ≤ _)⟩)
      dsimp only [Pt.U, Pt.locs, Pt.cells, Pt.slots] at X305 l305 y305 z305 st305 hQ305
      subst l305 y305 z305
      obtain ⟨h305, e305⟩ : ∃ z, T305.heap = z := ⟨_, rfl⟩
      rw [e305] at hQ305
      obtain ⟨b303, rfl, N305q, K305q, F306⟩ := hQ305
      have z307 : n0 ≤ h305.size := Nat.le_trans Z0 K305q.1
      have N305 := Fr.app N0 N305q
      have C308 : ∀ t, Steps p.tables e below (T305.setTop (mkF m 59 #[.val (.int x1), .val (.int x2), .val (.int v269), .val (.int v272), .val (.int v275), .val (.int v278), .unset] [(.ref b303)])) t → Steps p.tables e below (s₁.setTop (mkF m 0 #[.val (.int x1), .val (.int x2), .unset, .unset, .unset, .unset, .unset] [])) t := (fun t k => (S270 t (S271 t (S273 t (S274 t (S276 t (S277 t (S279 t (S280 t (S281 t (S301 t (S304 t (st305 t k)))))))))))))
      obtain ⟨fs, hr, hrun, hended, hW, hsame⟩ := X305.leave (v := some (.ref b303)) (fun h => by rw [Bd.returns] at h; cases h)
      refine ⟨_, _, pre0 _ (C308 _ ?_), hrun, hended, _, _, rfl, ?_, ReturnedEndW.of_narrow ⟨_, rfl⟩ hW (hsame.mono (by decide) (by decide))⟩
      · exact retOut X305 hx Bd.returns rfl (Or.inr (Or.inr (Or.inr (Or.inr ⟨rfl, rfl, rfl⟩)))) (hb hby d1_59) hr
      · show Q_rm1 Z x1 x2 zc h0 n0 _ T305.heap _
        rw [e305]
        exact ⟨_, rfl, N305, ((Keep.refl h0 []).trans K305q all0), F306⟩
    · have S309 : ∀ t, Steps p.tables e below (s₁.setTop (mkF m 63 #[.val (.int x1), .val (.int x2), .val (.int v269), .val (.int v272), .val (.int v275), .val (.int v278), .unset] [(.int (2 : Int32)), (.int v278)])) t → Steps p.tables e below (s₁.setTop (mkF m 52 #[.val (.int x1), .val (.int x2), .val (.int v269), .val (.int v272), .val (.int v275), .val (.int v278), .unset] [(.int (1 : Int32)), (.int v278)])) t := by
        intro t kt
        show Steps p.tables e below (s₁.setTop (mkF m 52 #[.val (.int x1), .val (.int x2), .val (.int v269), .val (.int v272), .val (.int v275), .val (.int v278), .unset] [(.int (1 : Int32)), (.int v278)])) _
        refine XS.icmpYes X0.here hx rfl (pc0 := 52) (pc' := 60) rfl (hb hby d1_52) rfl (feq hc302).2 (by decide) (by decide) ?_
        show Steps p.tables e below (s₁.setTop (mkF m 60 #[.val (.int x1), .val (.int x2), .val (.int v269), .val (.int v272), .val (.int v275), .val (.int v278), .unset] [])) _
        refine XS.iload X0.here hx rfl (hb hby d1_60) rfl ?_
        show Steps p.tables e below (s₁.setTop (mkF m 62 #[.val (.int x1), .val (.int x2), .val (.int v269), .val (.int v272), .val (.int v275), .val (.int v278), .unset] [(.int v278)])) _
        refine XS.iconst X0.here hx rfl (hb hby d1_62) ?_
        exact kt
      by_cases hc310 : v278 = (2 : Int32)
      · have S311 : ∀ t, Steps p.tables e below (s₁.setTop (mkF m 67 #[.val (.int x1), .val (.int x2), .val (.int v269), .val (.int v272), .val (.int v275), .val (.int v278), .unset] [(.int (2 : Int32))])) t → Steps p.tables e below (s₁.setTop (mkF m 63 #[.val (.int x1), .val (.int x2), .val (.int v269), .val (.int v272), .val (.int v275), .val (.int v278), .unset] [(.int (2 : Int32)), (.int v278)])) t := by
          intro t kt
          show Steps p.tables e below (s₁.setTop (mkF m 63 #[.val (.int x1), .val (.int x2), .val (.int v269), .val (.int v272), .val (.int v275), .val (.int v278), .unset] [(.int (2 : Int32)), (.int v278)])) _
          refine XS.icmpNo X0.here hx rfl (hb hby d1_63) rfl (teq hc310).2 ?_
          show Steps p.tables e below (s₁.setTop (mkF m 66 #[.val (.int x1), .val (.int x2), .val (.int v269), .val (.int v272), .val (.int v275), .val (.int v278), .unset] [])) _
          refine XS.iconst X0.here hx rfl (hb hby d1_66) ?_
          exact kt
        obtain ⟨T312, h312, k312, X312, e312, E312, A312, st312⟩ := newP X0 hx hZ (hw _ (List.mem_of_getElem? (i := 4) rfl)) e0 (g := (mkF m 67 #[.val (.int x1), .val (.int x2), .val (.int v269), .val (.int v272), .val (.int v275), .val (.int v278), .unset] [(.int (2 : Int32))])) rfl (hb hby d1_67) rfl (by decide) (cap := 2) (by decide) (by decide) (by decide) (by decide)
        obtain ⟨b312, g312⟩ : ∃ z, z = h0.size := ⟨_, rfl⟩
        rw [← g312] at A312 st312
        have g_b312 : n0 ≤ b312 := Nat.le_trans Z0 (Nat.le_of_eq g312.symm)
        have K313 := (Keep.refl h0 [])
        have sz_b312 : h0.size ≤ b312 := Nat.le_trans K313.1 (Nat.le_of_eq g312.symm)
        have z314 : n0 ≤ h312.size := Nat.le_trans Z0 E312.1
        have V312 : ArF Z h312 b312 .char 2 (fun _ => (.int (0 : Int32))) := ArF.new A312 (by decide) rfl
        have S315 : ∀ t, Steps p.tables e below (T312.setTop (mkF m 75 #[.val (.int x1), .val (.int x2), .val (.int v269), .val (.int v272), .val (.int v275), .val (.int v278), .val (.ref b312)] [(.int v269), (.int (0 : Int32)), (.ref b312)])) t → Steps p.tables e below (T312.setTop (mkF m 69 #[.val (.int x1), .val (.int x2), .val (.int v269), .val (.int v272), .val (.int v275), .val (.int v278), .unset] [(.ref b312)])) t := by
          intro t kt
          show Steps p.tables e below (T312.setTop (mkF m 69 #[.val (.int x1), .val (.int x2), .val (.int v269), .val (.int v272), .val (.int v275), .val (.int v278), .unset] [(.ref b312)])) _
          refine XS.astore X312.here hx rfl (hb hby d1_69) rfl rfl (l' := #[.val (.int x1), .val (.int x2), .val (.int v269), .val (.int v272), .val (.int v275), .val (.int v278), .val (.ref b312)]) rfl ?_
          show Steps p.tables e below (T312.setTop (mkF m 71 #[.val (.int x1), .val (.int x2), .val (.int v269), .val (.int v272), .val (.int v275), .val (.int v278), .val (.ref b312)] [])) _
          refine XS.aload X312.here hx rfl (hb hby d1_71) rfl rfl ?_
          show Steps p.tables e below (T312.setTop (mkF m 73 #[.val (.int x1), .val (.int x2), .val (.int v269), .val (.int v272), .val (.int v275), .val (.int v278), .val (.ref b312)] [(.ref b312)])) _
          refine XS.iconst X312.here hx rfl (hb hby d1_73) ?_
          show Steps p.tables e below (T312.setTop (mkF m 74 #[.val (.int x1), .val (.int x2), .val (.int v269), .val (.int v272), .val (.int v275), .val (.int v278), .val (.ref b312)] [(.int (0 : Int32)), (.ref b312)])) _
          refine XS.iloadN X312.here hx rfl (hb hby d1_74) rfl ?_
          exact kt
        obtain ⟨T316, h316, X316, e316, W316, V316, st316⟩ := ArF.stC X312 hx hZ e312 V312 (i := 0) (by decide) (by decide) (g := (mkF m 75 #[.val (.int x1), .val (.int x2), .val (.int v269), .val (.int v272), .val (.int v275), .val (.int v278), .val (.ref b312)] [(.int v269), (.int (0 : Int32)), (.ref b312)])) rfl rfl (hb hby d1_75)
        have z317 : n0 ≤ h316.size := Nat.le_trans z314 (Keep.of_wr W316).1
        have N318 := Fr.snoc X316 N0 g_b312
        have S319 : ∀ t, Steps p.tables e below (T316.setTop (mkF m 80 #[.val (.int x1), .val (.int x2), .val (.int v269), .val (.int v272), .val (.int v275), .val (.int v278), .val (.ref b312)] [(.int v272), (.int (1 : Int32)), (.ref b312)])) t → Steps p.tables e below (T316.setTop (mkF m 76 #[.val (.int x1), .val (.int x2), .val (.int v269), .val (.int v272), .val (.int v275), .val (.int v278), .val (.ref b312)] [])) t := by
          intro t kt
          show Steps p.tables e below (T316.setTop (mkF m 76 #[.val (.int x1), .val (.int x2), .val (.int v269), .val (.int v272), .val (.int v275), .val (.int v278), .val (.ref b312)] [])) _
          refine XS.aload X316.here hx rfl (hb hby d1_76) rfl rfl ?_
          show Steps p.tables e below (T316.setTop (mkF m 78 #[.val (.int x1), .val (.int x2), .val (.int v269), .val (.int v272), .val (.int v275), .val (.int v278), .val (.ref b312)] [(.ref b312)])) _
          refine XS.iconst X316.here hx rfl (hb hby d1_78) ?_
          show Steps p.tables e below (T316.setTop (mkF m 79 #[.val (.int x1), .val (.int x2), .val (.int v269), .val (.int v272), .val (.int v275), .val (.int v278), .val (.ref b312)] [(.int (1 : Int32)), (.ref b312)])) _
          refine XS.iloadN X316.here hx rfl (hb hby d1_79) rfl ?_
          exact kt
        obtain ⟨T320, h320, X320, e320, W320, V320, st320⟩ := ArF.stC X316 hx hZ e316 V316 (i := 1) (by decide) (by decide) (g := (mkF m 80 #[.val (.int x1), .val (.int x2), .val (.int v269), .val (.int v272), .val (.int v275), .val (.int v278), .val (.ref b312)] [(.int v272), (.int (1 : Int32)), (.ref b312)])) rfl rfl (hb hby d1_80)
        have z321 : n0 ≤ h320.size := Nat.le_trans z317 (Keep.of_wr W320).1
        have N322 := Fr.snoc X320 N318 g_b312
        obtain ⟨T323, h323, X323, e323, E323, A323, D323, -, st323⟩ := newO X320 hx hZ hown (hw _ (List.mem_of_getElem? (i := 5) rfl)) (hw _ (List.mem_of_getElem? (i := 6) rfl)) (hw _ (List.mem_of_getElem? (i := 7) rfl)) e320 (g := (mkF m 81 #[.val (.int x1), .val (.int x2), .val (.int v269), .val (.int v272), .val (.int v275), .val (.int v278), .val (.ref b312)] [])) rfl (hb hby d1_81) (by decide) (by decide)
        obtain ⟨b323, g323⟩ : ∃ z, z = h320.size := ⟨_, rfl⟩
        rw [← g323] at A323 D323 st323
        have g_b323 : n0 ≤ b323 := Nat.le_trans z321 (Nat.le_of_eq g323.symm)
        have K324 := (((K313.ext E312).wr W316 (Or.inr sz_b312)).wr W320 (Or.inr sz_b312))
        have sz_b323 : h0.size ≤ b323 := Nat.le_trans K324.1 (Nat.le_of_eq g323.symm)
        have ne_b312_b323 : b312 ≠ b323 := Nat.ne_of_lt (Nat.lt_of_lt_of_le V320.lt (Nat.le_of_eq g323.symm))
        have z325 : n0 ≤ h323.size := Nat.le_trans z321 E323.1
        have F326 : Fld Z h323 b323 "java/lang/String" "coder" "B" (.int (0 : Int32)) := D323 (Or.inr (hw _ (List.mem_of_getElem? (i := 31) rfl))) (ty := .byte) (by decide)
        have F327 : Fld Z h323 b323 "java/lang/String" "value" "[B" .null := D323 (Or.inr (hw _ (List.mem_of_getElem? (i := 33) rfl))) (ty := (.array .byte)) (by decide)
        have f328 := (V320.ext E323)
        have F329 : ArF Z h323 b312 .char 2 (fun q => (.int (own_cs v269 v272 v275 q))) := f328.congr (fun i hi => by match i, hi with | 0, _ => rfl | 1, _ => rfl)
        have f330 := ((((O.ext E312).wr W316 g_b312).wr W320 g_b312).ext E323)
        have S331 : ∀ t, Steps p.tables e below (T323.setTop (mkF m 87 #[.val (.int x1), .val (.int x2), .val (.int v269), .val (.int v272), .val (.int v275), .val (.int v278), .val (.ref b312)] [(.ref b312), (.ref b323), (.ref b323)])) t → Steps p.tables e below (T323.setTop (mkF m 84 #[.val (.int x1), .val (.int x2), .val (.int v269), .val (.int v272), .val (.int v275), .val (.int v278), .val (.ref b312)] [(.ref b323)])) t := by
          intro t kt
          show Steps p.tables e below (T323.setTop (mkF m 84 #[.val (.int x1), .val (.int x2), .val (.int v269), .val (.int v272), .val (.int v275), .val (.int v278), .val (.ref b312)] [(.ref b323)])) _
          refine XS.dup X323.here hx rfl (hb hby d1_84) rfl rfl ?_
          show Steps p.tables e below (T323.setTop (mkF m 85 #[.val (.int x1), .val (.int x2), .val (.int v269), .val (.int v272), .val (.int v275), .val (.int v278), .val (.ref b312)] [(.ref b323), (.ref b323)])) _
          refine XS.aload X323.here hx rfl (hb hby d1_85) rfl rfl ?_
          exact kt
        obtain ⟨_, _, ⟨T332, L332, k332, n332⟩, -, X332, ⟨Lc332, hQ332, l332, y332, z332⟩, st332⟩ := X323.specialBack hx (y := (⟨"java/lang/String", "<init>", "([C)V"⟩ : MethodName)) rfl hown (mvT hZ (hw _ (List.mem_of_getElem? (i := 8) rfl))) (mvT hZ (hw _ (List.mem_of_getElem? (i := 9) rfl))) (mvT hZ (hw _ (List.mem_of_getElem? (i := 10) rfl))) (by decide) (backOf (W := 1) (rm_k5_2 l Z a0 hw [] b323 b312 (own_cs v269 v272 v275) zc h323 n0 z325 A323 F327 F326 F329 g_b323 hcf f330 HS hzc) hZ (hw _ (List.mem_of_getElem? (i := 10) rfl)) (hw _ (List.mem_of_getElem? (i := 7) rfl)) (by decide) (by decide)) (g := (mkF m 87 #[.val (.int x1), .val (.int x2), .val (.int v269), .val (.int v272), .val (.int v275), .val (.int v278), .val (.ref b312)] [(.ref b312), (.ref b323), (.ref b323)])) rfl (by rw [hml]; rfl) (Steps.refl _) (a := b323) (argsL := [(.ref b312)]) (rest := [(.ref b323)]) (lenOf pd_9 rfl) rfl (by show 2 * 0 + _ ≤ _; exact Nat.le_of_eq rfl) (hb hby d1_87) (fun _ _ => ⟨rfl, e323, (by decide : 2 + 1 ≤ _), (by decide : 6 + 2 ≤ _)⟩)
        dsimp only [Pt.U, Pt.locs, Pt.cells, Pt.slots] at X332 l332 y332 z332 st332 hQ332
        subst l332 y332 z332
        obtain ⟨h332, e332⟩ : ∃ z, T332.heap = z := ⟨_, rfl⟩
        rw [e332] at hQ332
        obtain ⟨rfl, N332q, K332q⟩ := hQ332
        have z333 : n0 ≤ h332.size := Nat.le_trans z325 K332q.1
        have N332 := Fr.app N322 N332q
        have C334 : ∀ t, Steps p.tables e below (T332.setTop (mkF m 90 #[.val (.int x1), .val (.int x2), .val (.int v269), .val (.int v272), .val (.int v275), .val (.int v278), .val (.ref b312)] [(.ref b323)])) t → Steps p.tables e below (s₁.setTop (mkF m 0 #[.val (.int x1), .val (.int x2), .unset, .unset, .unset, .unset, .unset] [])) t := (fun t k => (S270 t (S271 t (S273 t (S274 t (S276 t (S277 t (S279 t (S280 t (S281 t (S301 t (S309 t (S311 t (st312 t (S315 t (st316 t (S319 t (st320 t (st323 t (S331 t (st332.trans k)))))))))))))))))))))
        obtain ⟨fs, hr, hrun, hended, hW, hsame⟩ := X332.leave (v := some (.ref b323)) (fun h => by rw [Bd.returns] at h; cases h)
        refine ⟨_, _, pre0 _ (C334 _ ?_), hrun, hended, _, _, rfl, ?_, ReturnedEndW.of_narrow ⟨_, rfl⟩ hW (hsame.mono (by decide) (by decide))⟩
        · exact retOut X332 hx Bd.returns rfl (Or.inr (Or.inr (Or.inr (Or.inr ⟨rfl, rfl, rfl⟩)))) (hb hby d1_90) hr
        · show Q_rm1 Z x1 x2 zc h0 n0 _ T332.heap _
          rw [e332]
          have f335 := (A323.keep K332q)
          exact ⟨_, rfl, N332, ((K324.ext E323).trans K332q (allS (Or.inr sz_b323) all0)), f335⟩
      · have S336 : ∀ t, Steps p.tables e below (s₁.setTop (mkF m 92 #[.val (.int x1), .val (.int x2), .val (.int v269), .val (.int v272), .val (.int v275), .val (.int v278), .unset] [(.int (3 : Int32))])) t → Steps p.tables e below (s₁.setTop (mkF m 63 #[.val (.int x1), .val (.int x2), .val (.int v269), .val (.int v272), .val (.int v275), .val (.int v278), .unset] [(.int (2 : Int32)), (.int v278)])) t := by
          intro t kt
          show Steps p.tables e below (s₁.setTop (mkF m 63 #[.val (.int x1), .val (.int x2), .val (.int v269), .val (.int v272), .val (.int v275), .val (.int v278), .unset] [(.int (2 : Int32)), (.int v278)])) _
          refine XS.icmpYes X0.here hx rfl (pc0 := 63) (pc' := 91) rfl (hb hby d1_63) rfl (feq hc310).2 (by decide) (by decide) ?_
          show Steps p.tables e below (s₁.setTop (mkF m 91 #[.val (.int x1), .val (.int x2), .val (.int v269), .val (.int v272), .val (.int v275), .val (.int v278), .unset] [])) _
          refine XS.iconst X0.here hx rfl (hb hby d1_91) ?_
          exact kt
        obtain ⟨T337, h337, k337, X337, e337, E337, A337, st337⟩ := newP X0 hx hZ (hw _ (List.mem_of_getElem? (i := 4) rfl)) e0 (g := (mkF m 92 #[.val (.int x1), .val (.int x2), .val (.int v269), .val (.int v272), .val (.int v275), .val (.int v278), .unset] [(.int (3 : Int32))])) rfl (hb hby d1_92) rfl (by decide) (cap := 3) (by decide) (by decide) (by decide) (by decide)
        obtain ⟨b337, g337⟩ : ∃ z, z = h0.size := ⟨_, rfl⟩
        rw [← g337] at A337 st337
        have g_b337 : n0 ≤ b337 := Nat.le_trans Z0 (Nat.le_of_eq g337.symm)
        have K338 := (Keep.refl h0 [])
        have sz_b337 : h0.size ≤ b337 := Nat.le_trans K338.1 (Nat.le_of_eq g337.symm)
        have z339 : n0 ≤ h337.size := Nat.le_trans Z0 E337.1
        have V337 : ArF Z h337 b337 .char 3 (fun _ => (.int (0 : Int32))) := ArF.new A337 (by decide) rfl
        have S340 : ∀ t, Steps p.tables e below (T337.setTop (mkF m 100 #[.val (.int x1), .val (.int x2), .val (.int v269), .val (.int v272), .val (.int v275), .val (.int v278), .val (.ref b337)] [(.int v269), (.int (0 : Int32)), (.ref b337)])) t → Steps p.tables e below (T337.setTop (mkF m 94 #[.val (.int x1), .val (.int x2), .val (.int v269), .val (.int v272), .val (.int v275), .val (.int v278), .unset] [(.ref b337)])) t := by
          intro t kt
          show Steps p.tables e below (T337.setTop (mkF m 94 #[.val (.int x1), .val (.int x2), .val (.int v269), .val (.int v272), .val (.int v275), .val (.int v278), .unset] [(.ref b337)])) _
          refine XS.astore X337.here hx rfl (hb hby d1_94) rfl rfl (l' := #[.val (.int x1), .val (.int x2), .val (.int v269), .val (.int v272), .val (.int v275), .val (.int v278), .val (.ref b337)]) rfl ?_
          show Steps p.tables e below (T337.setTop (mkF m 96 #[.val (.int x1), .val (.int x2), .val (.int v269), .val (.int v272), .val (.int v275), .val (.int v278), .val (.ref b337)] [])) _
          refine XS.aload X337.here hx rfl (hb hby d1_96) rfl rfl ?_
          show Steps p.tables e below (T337.setTop (mkF m 98 #[.val (.int x1), .val (.int x2), .val (.int v269), .val (.int v272), .val (.int v275), .val (.int v278), .val (.ref b337)] [(.ref b337)])) _
          refine XS.iconst X337.here hx rfl (hb hby d1_98) ?_
          show Steps p.tables e below (T337.setTop (mkF m 99 #[.val (.int x1), .val (.int x2), .val (.int v269), .val (.int v272), .val (.int v275), .val (.int v278), .val (.ref b337)] [(.int (0 : Int32)), (.ref b337)])) _
          refine XS.iloadN X337.here hx rfl (hb hby d1_99) rfl ?_
          exact kt
        obtain ⟨T341, h341, X341, e341, W341, V341, st341⟩ := ArF.stC X337 hx hZ e337 V337 (i := 0) (by decide) (by decide) (g := (mkF m 100 #[.val (.int x1), .val (.int x2), .val (.int v269), .val (.int v272), .val (.int v275), .val (.int v278), .val (.ref b337)] [(.int v269), (.int (0 : Int32)), (.ref b337)])) rfl rfl (hb hby d1_100)
        have z342 : n0 ≤ h341.size := Nat.le_trans z339 (Keep.of_wr W341).1
        have N343 := Fr.snoc X341 N0 g_b337
        have S344 : ∀ t, Steps p.tables e below (T341.setTop (mkF m 105 #[.val (.int x1), .val (.int x2), .val (.int v269), .val (.int v272), .val (.int v275), .val (.int v278), .val (.ref b337)] [(.int v272), (.int (1 : Int32)), (.ref b337)])) t → Steps p.tables e below (T341.setTop (mkF m 101 #[.val (.int x1), .val (.int x2), .val (.int v269), .val (.int v272), .val (.int v275), .val (.int v278), .val (.ref b337)] [])) t := by
          intro t kt
          show Steps p.tables e below (T341.setTop (mkF m 101 #[.val (.int x1), .val (.int x2), .val (.int v269), .val (.int v272), .val (.int v275), .val (.int v278), .val (.ref b337)] [])) _
          refine XS.aload X341.here hx rfl (hb hby d1_101) rfl rfl ?_
          show Steps p.tables e below (T341.setTop (mkF m 103 #[.val (.int x1), .val (.int x2), .val (.int v269), .val (.int v272), .val (.int v275), .val (.int v278), .val (.ref b337)] [(.ref b337)])) _
          refine XS.iconst X341.here hx rfl (hb hby d1_103) ?_
          show Steps p.tables e below (T341.setTop (mkF m 104 #[.val (.int x1), .val (.int x2), .val (.int v269), .val (.int v272), .val (.int v275), .val (.int v278), .val (.ref b337)] [(.int (1 : Int32)), (.ref b337)])) _
          refine XS.iloadN X341.here hx rfl (hb hby d1_104) rfl ?_
          exact kt
        obtain ⟨T345, h345, X345, e345, W345, V345, st345⟩ := ArF.stC X341 hx hZ e341 V341 (i := 1) (by decide) (by decide) (g := (mkF m 105 #[.val (.int x1), .val (.int x2), .val (.int v269), .val (.int v272), .val (.int v275), .val (.int v278), .val (.ref b337)] [(.int v272), (.int (1 : Int32)), (.ref b337)])) rfl rfl (hb hby d1_105)
        have z346 : n0 ≤ h345.size := Nat.le_trans z342 (Keep.of_wr W345).1
        have N347 := Fr.snoc X345 N343 g_b337
        have S348 : ∀ t, Steps p.tables e below (T345.setTop (mkF m 111 #[.val (.int x1), .val (.int x2), .val (.int v269), .val (.int v272), .val (.int v275), .val (.int v278), .val (.ref b337)] [(.int v275), (.int (2 : Int32)), (.ref b337)])) t → Steps p.tables e below (T345.setTop (mkF m 106 #[.val (.int x1), .val (.int x2), .val (.int v269), .val (.int v272), .val (.int v275), .val (.int v278), .val (.ref b337)] [])) t := by
          intro t kt
          show Steps p.tables e below (T345.setTop (mkF m 106 #[.val (.int x1), .val (.int x2), .val (.int v269), .val (.int v272), .val (.int v275), .val (.int v278), .val (.ref b337)] [])) _
          refine XS.aload X345.here hx rfl (hb hby d1_106) rfl rfl ?_
          show Steps p.tables e below (T345.setTop (mkF m 108 #[.val (.int x1), .val (.int x2), .val (.int v269), .val (.int v272), .val (.int v275), .val (.int v278), .val (.ref b337)] [(.ref b337)])) _
          refine XS.iconst X345.here hx rfl (hb hby d1_108) ?_
          show Steps p.tables e below (T345.setTop (mkF m 109 #[.val (.int x1), .val (.int x2), .val (.int v269), .val (.int v272), .val (.int v275), .val (.int v278), .val (.ref b337)] [(.int (2 : Int32)), (.ref b337)])) _
          refine XS.iload X345.here hx rfl (hb hby d1_109) rfl ?_
          exact kt
        obtain ⟨T349, h349, X349, e349, W349, V349, st349⟩ := ArF.stC X345 hx hZ e345 V345 (i := 2) (by decide) (by decide) (g := (mkF m 111 #[.val (.int x1), .val (.int x2), .val (.int v269), .val (.int v272), .val (.int v275), .val (.int v278), .val (.ref b337)] [(.int v275), (.int (2 : Int32)), (.ref b337)])) rfl rfl (hb hby d1_111)
        have z350 : n0 ≤ h349.size := Nat.le_trans z346 (Keep.of_wr W349).1
        have N351 := Fr.snoc X349 N347 g_b337
        obtain ⟨T352, h352, X352, e352, E352, A352, D352, -, st352⟩ := newO X349 hx hZ hown (hw _ (List.mem_of_getElem? (i := 5) rfl)) (hw _ (List.mem_of_getElem? (i := 6) rfl)) (hw _ (List.mem_of_getElem? (i := 7) rfl)) e349 (g := (mkF m 112 #[.val (.int x1), .val (.int x2), .val (.int v269), .val (.int v272), .val (.int v275), .val (.int v278), .val (.ref b337)] [])) rfl (hb hby d1_112) (by decide) (by decide)
        obtain ⟨b352, g352⟩ : ∃ z, z = h349.size := ⟨_, rfl⟩
        rw [← g352] at A352 D352 st352
        have g_b352 : n0 ≤ b352 := Nat.le_trans z350 (Nat.le_of_eq g352.symm)
        have K353 := ((((K338.ext E337).wr W341 (Or.inr sz_b337)).wr W345 (Or.inr sz_b337)).wr W349 (Or.inr sz_b337))
        have sz_b352 : h0.size ≤ b352 := Nat.le_trans K353.1 (Nat.le_of_eq g352.symm)
        have ne_b337_b352 : b337 ≠ b352 := Nat.ne_of_lt (Nat.lt_of_lt_of_le V349.lt (Nat.le_of_eq g352.symm))
        have z354 : n0 ≤ h352.size := Nat.le_trans z350 E352.1
        have F355 : Fld Z h352 b352 "java/lang/String" "coder" "B" (.int (0 : Int32)) := D352 (Or.inr (hw _ (List.mem_of_getElem? (i := 31) rfl))) (ty := .byte) (by decide)
        have F356 : Fld Z h352 b352 "java/lang/String" "value" "[B" .null := D352 (Or.inr (hw _ (List.mem_of_getElem? (i := 33) rfl))) (ty := (.array .byte)) (by decide)
        have f357 := (V349.ext E352)
        have F358 : ArF Z h352 b337 .char 3 (fun q => (.int (own_cs v269 v272 v275 q))) := f357.congr (fun i hi => by match i, hi with | 0, _ => rfl | 1, _ => rfl | 2, _ => rfl)
        have f359 := (((((O.ext E337).wr W341 g_b337).wr W345 g_b337).wr W349 g_b337).ext E352)
        have S360 : ∀ t, Steps p.tables e below (T352.setTop (mkF m 118 #[.val (.int x1), .val (.int x2), .val (.int v269), .val (.int v272), .val (.int v275), .val (.int v278), .val (.ref b337)] [(.ref b337), (.ref b352), (.ref b352)])) t → Steps p.tables e below (T352.setTop (mkF m 115 #[.val (.int x1), .val (.int x2), .val (.int v269), .val (.int v272), .val (.int v275), .val (.int v278), .val (.ref b337)] [(.ref b352)])) t := by
          intro t kt
          show Steps p.tables e below (T352.setTop (mkF m 115 #[.val (.int x1), .val (.int x2), .val (.int v269), .val (.int v272), .val (.int v275), .val (.int v278), .val (.ref b337)] [(.ref b352)])) _
          refine XS.dup X352.here hx rfl (hb hby d1_115) rfl rfl ?_
          show Steps p.tables e below (T352.setTop (mkF m 116 #[.val (.int x1), .val (.int x2), .val (.int v269), .val (.int v272), .val (.int v275), .val (.int v278), .val (.ref b337)] [(.ref b352), (.ref b352)])) _
          refine XS.aload X352.here hx rfl (hb hby d1_116) rfl rfl ?_
          exact kt
        obtain ⟨_, _, ⟨T361, L361, k361, n361⟩, -, X361, ⟨Lc361, hQ361, l361, y361, z361⟩, st361⟩ := X352.specialBack hx (y := (⟨"java/lang/String", "<init>", "([C)V"⟩ : MethodName)) rfl hown (mvT hZ (hw _ (List.mem_of_getElem? (i := 8) rfl))) (mvT hZ (hw _ (List.mem_of_getElem? (i := 9) rfl))) (mvT hZ (hw _ (List.mem_of_getElem? (i := 10) rfl))) (by decide) (backOf (W := 1) (rm_k5_3 l Z a0 hw [] b352 b337 (own_cs v269 v272 v275) zc h352 n0 z354 A352 F356 F355 F358 g_b352 hcf f359 HS hzc) hZ (hw _ (List.mem_of_getElem? (i := 10) rfl)) (hw _ (List.mem_of_getElem? (i := 7) rfl)) (by decide) (by decide)) (g := (mkF m 118 #[.val (.int x1), .val (.int x2), .val (.int v269), .val (.int v272), .val (.int v275), .val (.int v278), .val (.ref b337)] [(.ref b337), (.ref b352), (.ref b352)])) rfl (by rw [hml]; rfl) (Steps.refl _) (a := b352) (argsL := [(.ref b337)]) (rest := [(.ref b352)]) (lenOf pd_9 rfl) rfl (by show 2 * 0 + _ ≤ _; exact Nat.le_of_eq rfl) (hb hby d1_118) (fun _ _ => ⟨rfl, e352, (by decide : 2 + 1 ≤ _), (by decide : 7 + 3 ≤ _)⟩)
        dsimp only [Pt.U, Pt.locs, Pt.cells, Pt.slots] at X361 l361 y361 z361 st361 hQ361
        subst l361 y361 z361
        obtain ⟨h361, e361⟩ : ∃ z, T361.heap = z := ⟨_, rfl⟩
        rw [e361] at hQ361
        obtain ⟨rfl, N361q, K361q⟩ := hQ361
        have z362 : n0 ≤ h361.size := Nat.le_trans z354 K361q.1
        have N361 := Fr.app N351 N361q
        have C363 : ∀ t, Steps p.tables e below (T361.setTop (mkF m 121 #[.val (.int x1), .val (.int x2), .val (.int v269), .val (.int v272), .val (.int v275), .val (.int v278), .val (.ref b337)] [(.ref b352)])) t → Steps p.tables e below (s₁.setTop (mkF m 0 #[.val (.int x1), .val (.int x2), .unset, .unset, .unset, .unset, .unset] [])) t := (fun t k => (S270 t (S271 t (S273 t (S274 t (S276 t (S277 t (S279 t (S280 t (S281 t (S301 t (S309 t (S336 t (st337 t (S340 t (st341 t (S344 t (st345 t (S348 t (st349 t (st352 t (S360 t (st361.trans k)))))))))))))))))))))))
        obtain ⟨fs, hr, hrun, hended, hW, hsame⟩ := X361.leave (v := some (.ref b352)) (fun h => by rw [Bd.returns] at h; cases h)
        refine ⟨_, _, pre0 _ (C363 _ ?_), hrun, hended, _, _, rfl, ?_, ReturnedEndW.of_narrow ⟨_, rfl⟩ hW (hsame.mono (by decide) (by decide))⟩
        · exact retOut X361 hx Bd.returns rfl (Or.inr (Or.inr (Or.inr (Or.inr ⟨rfl, rfl, rfl⟩)))) (hb hby d1_121) hr
        · show Q_rm1 Z x1 x2 zc h0 n0 _ T361.heap _
          rw [e361]
          have f364 := (A352.keep K361q)
          exact ⟨_, rfl, N361, ((K353.ext E352).trans K361q (allS (Or.inr sz_b352) all0)), f364⟩
theorem ef_rm0 (m : MethodId) (x0 : Int32) (x1 : Int32) (x2 : Int32) (x3 : Int32) : entryFrame m #[(.int x0), (.int x1), (.int x2), (.int x3)] maxLocals = mkF m 0 #[.val (.int x0), .val (.int x1), .val (.int x2), .val (.int x3), .unset, .unset, .unset, .unset, .unset, .unset, .unset] [] := by first | (simp [entryFrame, mkF, argsToLocals, Value.category, maxLocals]; done) | rfl
def Q_rm0 (Z : State) (x1 : Int32) (x2 : Int32) (x3 : Int32) (x4 : Int32) (zc : Int32) (h0 : Heap) (n0 : Nat) (v : Option Value) (h : Heap) (L : List Loc) : Prop := v = some (.int 1) ∧ Fr n0 L
set_option maxRecDepth 65536 in
set_option maxHeartbeats 40000000 in
theorem rm0 (l : Launch) (Z : State) (a0 : Array Value) (hw : ∀ d ∈ tables_1, d.before a0 Z = true) (ws : List Jvm.Cond) (x1 : Int32) (x2 : Int32) (x3 : Int32) (x4 : Int32) (zc : Int32) (h0 : Heap) (n0 : Nat) (Z0 : n0 ≤ h0.size) (O : Old Z n0 h0) (HS : Sta Z Z.heap "java/lang/String" "COMPACT_STRINGS" "Z" (.int zc)) (hzc : ¬ zc = (0 : Int32)) (HC : Jvm.Lit.constHeld Z "java/lang/String" 7) (HW : Jvm.Lit.compactW.before a0 Z = true) :
    MetFree l x (head1 (Jvm.Cond.code x code maxLocals ret :: ws) room_1) (fun a U => a = #[(.int x1), (.int x2), (.int x3), (.int x4)] ∧ Z.Warmed39 U.vm ∧ U.heap = h0 ∧ U.vm.interned = Z.vm.interned) (fun _ _ _ _ _ => True) (fun _ U o U' => ∃ v L, o = .returned v ∧ Q_rm0 Z x1 x2 x3 x4 zc h0 n0 v U'.heap L ∧ ReturnedEndW U o U' L room_1.cells room_1.slots) := by
  refine MetFree.of_bodySF (plainFor_of_name pn_5) hisR ?_
  intro p e s m args below meth c s₁ Bd hml0 hP hK
  obtain ⟨rfl, hZ, hh, hI⟩ := hP
  have hx := Bd.exec
  have hby := Bd.bytes
  have hml : c.maxLocals = 11 := hml0
  have hown : s.vm.findClass "com/example/portcullis/portcullis/util/HostPortWithPortPinLaw" = some m.cls := findClass_of_methodNamed Bd.named
  have hnm := (name_of_methodNamed Bd.named Bd.method).1
  have X0 : Stand p l e room_1 s m #[(.int x1), (.int x2), (.int x3), (.int x4)] below meth c s₁ [] 0 0 := Stand.of_body Bd
  have e0 : s₁.heap = h0 := by rw [← hh, Bd.state]; rfl
  have N0 := Fr.nil n0
  have pre0 : ∀ t, Steps p.tables e below (s₁.setTop (mkF m 0 #[.val (.int x1), .val (.int x2), .val (.int x3), .val (.int x4), .unset, .unset, .unset, .unset, .unset, .unset, .unset] [])) t → Steps p.tables e below (s₁.setTop (entryFrame m #[(.int x1), (.int x2), (.int x3), (.int x4)] maxLocals)) t := fun t k => castTop (ef_rm0 m x1 x2 x3 x4) k
  have S367 : ∀ t, Steps p.tables e below (s₁.setTop (mkF m 2 #[.val (.int x1), .val (.int x2), .val (.int x3), .val (.int x4), .unset, .unset, .unset, .unset, .unset, .unset, .unset] [(.int x2), (.int x1)])) t → Steps p.tables e below (s₁.setTop (mkF m 0 #[.val (.int x1), .val (.int x2), .val (.int x3), .val (.int x4), .unset, .unset, .unset, .unset, .unset, .unset, .unset] [])) t := by
    intro t kt
    show Steps p.tables e below (s₁.setTop (mkF m 0 #[.val (.int x1), .val (.int x2), .val (.int x3), .val (.int x4), .unset, .unset, .unset, .unset, .unset, .unset, .unset] [])) _
    refine XS.iloadN X0.here hx rfl (hb hby at_0) rfl ?_
    show Steps p.tables e below (s₁.setTop (mkF m 1 #[.val (.int x1), .val (.int x2), .val (.int x3), .val (.int x4), .unset, .unset, .unset, .unset, .unset, .unset, .unset] [(.int x1)])) _
    refine XS.iloadN X0.here hx rfl (hb hby at_1) rfl ?_
    exact kt
  obtain ⟨_, _, ⟨T368, L368, k368, n368⟩, -, X368, hS368, hg368, ⟨Lc368, hQ368, l368, y368, z368⟩, st368⟩ := callSS X0 hx (y := (⟨"com/example/portcullis/portcullis/util/HostPortWithPortPinLaw", "host", "(II)Ljava/lang/String;"⟩ : MethodName)) hown (mvT hZ (hw _ (List.mem_of_getElem? (i := 0) rfl))) (mvT hZ (hw _ (List.mem_of_getElem? (i := 1) rfl))) (mvT hZ (hw _ (List.mem_of_getElem? (i := 2) rfl))) (mvT hZ (hw _ (List.mem_of_getElem? (i := 3) rfl))) (by decide) (own_backOfS (W := 0) (rm1 l Z a0 hw [] x1 x2 zc h0 n0 Z0 O HS hzc HC HW) hZ hI (hw _ (List.mem_of_getElem? (i := 3) rfl)) (hw _ (List.mem_of_getElem? (i := 2) rfl)) (by decide) (by decide)) (g := (mkF m 2 #[.val (.int x1), .val (.int x2), .val (.int x3), .val (.int x4), .unset, .unset, .unset, .unset, .unset, .unset, .unset] [(.int x2), (.int x1)])) rfl (by rw [hml]; rfl) (argsL := [(.int x1), (.int x2)]) (rest := []) (lenOf pd_11 rfl) rfl (by show 2 * 0 + _ ≤ _; exact Nat.le_of_eq rfl) (hb hby at_2) (fun _ _ => ⟨rfl, e0, (by decide : 0 + 4 ≤ _), (by decide : 0 + 10 ≤ _)⟩)
  dsimp only [Pt.U, Pt.locs, Pt.cells, Pt.slots] at X368 l368 y368 z368 st368 hQ368 hS368
  subst l368 y368 z368
  obtain ⟨h368, e368⟩ : ∃ z, T368.heap = z := ⟨_, rfl⟩
  rw [e368] at hQ368 hS368
  obtain ⟨b365, rfl, N368q, K368q, F369⟩ := hQ368
  have hZ : Z.Warmed39 (s.setVm T368.vm).vm := State.Warmed39.trans (t := s) hZ hS368.1
  have hown : (s.setVm T368.vm).vm.findClass "com/example/portcullis/portcullis/util/HostPortWithPortPinLaw" = some m.cls := by rw [show (s.setVm T368.vm).vm = T368.vm from rfl, hS368.1.alike.findClass]; exact hown
  have z370 : n0 ≤ h368.size := Nat.le_trans Z0 K368q.1
  have N368 := Fr.app N0 N368q
  have S371 : ∀ t, Steps p.tables e below (T368.setTop (mkF m 19 #[.val (.int x1), .val (.int x2), .val (.int x3), .val (.int x4), .val (.ref b365), .val (.int (x3 &&& (65535 : Int32))), .val (.int (x4 &&& (65535 : Int32))), .unset, .unset, .unset, .unset] [])) t → Steps p.tables e below (T368.setTop (mkF m 5 #[.val (.int x1), .val (.int x2), .val (.int x3), .val (.int x4), .unset, .unset, .unset, .unset, .unset, .unset, .unset] [(.ref b365)])) t := by
    intro t kt
    show Steps p.tables e below (T368.setTop (mkF m 5 #[.val (.int x1), .val (.int x2), .val (.int x3), .val (.int x4), .unset, .unset, .unset, .unset, .unset, .unset, .unset] [(.ref b365)])) _
    refine XS.astore X368.here hx rfl (hb hby at_5) rfl rfl (l' := #[.val (.int x1), .val (.int x2), .val (.int x3), .val (.int x4), .val (.ref b365), .unset, .unset, .unset, .unset, .unset, .unset]) rfl ?_
    show Steps p.tables e below (T368.setTop (mkF m 7 #[.val (.int x1), .val (.int x2), .val (.int x3), .val (.int x4), .val (.ref b365), .unset, .unset, .unset, .unset, .unset, .unset] [])) _
    refine XS.iloadN X368.here hx rfl (hb hby at_7) rfl ?_
    show Steps p.tables e below (T368.setTop (mkF m 8 #[.val (.int x1), .val (.int x2), .val (.int x3), .val (.int x4), .val (.ref b365), .unset, .unset, .unset, .unset, .unset, .unset] [(.int x3)])) _
    refine X368.ldcInt hx hown (mvT hZ (hw _ (List.mem_of_getElem? (i := 34) rfl))) (g := (mkF m 8 #[.val (.int x1), .val (.int x2), .val (.int x3), .val (.int x4), .val (.ref b365), .unset, .unset, .unset, .unset, .unset, .unset] [(.int x3)])) rfl (hb hby at_8) _ ?_
    show Steps p.tables e below (T368.setTop (mkF m 10 #[.val (.int x1), .val (.int x2), .val (.int x3), .val (.int x4), .val (.ref b365), .unset, .unset, .unset, .unset, .unset, .unset] [(.int (65535 : Int32)), (.int x3)])) _
    refine XS.iand X368.here hx rfl (hb hby at_10) rfl ?_
    show Steps p.tables e below (T368.setTop (mkF m 11 #[.val (.int x1), .val (.int x2), .val (.int x3), .val (.int x4), .val (.ref b365), .unset, .unset, .unset, .unset, .unset, .unset] [(.int (x3 &&& (65535 : Int32)))])) _
    refine XS.istore X368.here hx rfl (hb hby at_11) rfl (l' := #[.val (.int x1), .val (.int x2), .val (.int x3), .val (.int x4), .val (.ref b365), .val (.int (x3 &&& (65535 : Int32))), .unset, .unset, .unset, .unset, .unset]) rfl ?_
    show Steps p.tables e below (T368.setTop (mkF m 13 #[.val (.int x1), .val (.int x2), .val (.int x3), .val (.int x4), .val (.ref b365), .val (.int (x3 &&& (65535 : Int32))), .unset, .unset, .unset, .unset, .unset] [])) _
    refine XS.iloadN X368.here hx rfl (hb hby at_13) rfl ?_
    show Steps p.tables e below (T368.setTop (mkF m 14 #[.val (.int x1), .val (.int x2), .val (.int x3), .val (.int x4), .val (.ref b365), .val (.int (x3 &&& (65535 : Int32))), .unset, .unset, .unset, .unset, .unset] [(.int x4)])) _
    refine X368.ldcInt hx hown (mvT hZ (hw _ (List.mem_of_getElem? (i := 34) rfl))) (g := (mkF m 14 #[.val (.int x1), .val (.int x2), .val (.int x3), .val (.int x4), .val (.ref b365), .val (.int (x3 &&& (65535 : Int32))), .unset, .unset, .unset, .unset, .unset] [(.int x4)])) rfl (hb hby at_14) _ ?_
    show Steps p.tables e below (T368.setTop (mkF m 16 #[.val (.int x1), .val (.int x2), .val (.int x3), .val (.int x4), .val (.ref b365), .val (.int (x3 &&& (65535 : Int32))), .unset, .unset, .unset, .unset, .unset] [(.int (65535 : Int32)), (.int x4)])) _
    refine XS.iand X368.here hx rfl (hb hby at_16) rfl ?_
    show Steps p.tables e below (T368.setTop (mkF m 17 #[.val (.int x1), .val (.int x2), .val (.int x3), .val (.int x4), .val (.ref b365), .val (.int (x3 &&& (65535 : Int32))), .unset, .unset, .unset, .unset, .unset] [(.int (x4 &&& (65535 : Int32)))])) _
    refine XS.istore X368.here hx rfl (hb hby at_17) rfl (l' := #[.val (.int x1), .val (.int x2), .val (.int x3), .val (.int x4), .val (.ref b365), .val (.int (x3 &&& (65535 : Int32))), .val (.int (x4 &&& (65535 : Int32))), .unset, .unset, .unset, .unset]) rfl ?_
    exact kt
  obtain ⟨T372, h372, X372, e372, E372, A372, D372, -, st372⟩ := newO X368 hx hZ hown (hw _ (List.mem_of_getElem? (i := 35) rfl)) (hw _ (List.mem_of_getElem? (i := 36) rfl)) (hw _ (List.mem_of_getElem? (i := 37) rfl)) e368 (g := (mkF m 19 #[.val (.int x1), .val (.int x2), .val (.int x3), .val (.int x4), .val (.ref b365), .val (.int (x3 &&& (65535 : Int32))), .val (.int (x4 &&& (65535 : Int32))), .unset, .unset, .unset, .unset] [])) rfl (hb hby at_19) (by decide) (by decide)
  obtain ⟨b372, g372⟩ : ∃ z, z = h368.size := ⟨_, rfl⟩
  rw [← g372] at A372 D372 st372
  have g_b372 : n0 ≤ b372 := Nat.le_trans z370 (Nat.le_of_eq g372.symm)
  have K373 := ((Keep.refl h0 []).trans K368q all0)
  have sz_b372 : h0.size ≤ b372 := Nat.le_trans K373.1 (Nat.le_of_eq g372.symm)
  have ne_b365_b372 : b365 ≠ b372 := Nat.ne_of_lt (Nat.lt_of_lt_of_le F369.lt (Nat.le_of_eq g372.symm))
  have z374 : n0 ≤ h372.size := Nat.le_trans z370 E372.1
  have wk375 : h368.size ≤ h372.size := Nat.le_trans (Nat.le_refl _) E372.1
  have F376 : Fld Z h372 b372 "com/example/portcullis/portcullis/util/HostPort" "host" "Ljava/lang/String;" .null := D372 (Or.inr (hw _ (List.mem_of_getElem? (i := 48) rfl))) (ty := (.object "java/lang/String")) (by decide)
  have F377 : Fld Z h372 b372 "com/example/portcullis/portcullis/util/HostPort" "port" "I" (.int (0 : Int32)) := D372 (Or.inr (hw _ (List.mem_of_getElem? (i := 50) rfl))) (ty := .int) (by decide)
  have S378 : ∀ t, Steps p.tables e below (T372.setTop (mkF m 27 #[.val (.int x1), .val (.int x2), .val (.int x3), .val (.int x4), .val (.ref b365), .val (.int (x3 &&& (65535 : Int32))), .val (.int (x4 &&& (65535 : Int32))), .unset, .unset, .unset, .unset] [(.int (x3 &&& (65535 : Int32))), (.ref b365), (.ref b372), (.ref b372)])) t → Steps p.tables e below (T372.setTop (mkF m 22 #[.val (.int x1), .val (.int x2), .val (.int x3), .val (.int x4), .val (.ref b365), .val (.int (x3 &&& (65535 : Int32))), .val (.int (x4 &&& (65535 : Int32))), .unset, .unset, .unset, .unset] [(.ref b372)])) t := by
    intro t kt
    show Steps p.tables e below (T372.setTop (mkF m 22 #[.val (.int x1), .val (.int x2), .val (.int x3), .val (.int x4), .val (.ref b365), .val (.int (x3 &&& (65535 : Int32))), .val (.int (x4 &&& (65535 : Int32))), .unset, .unset, .unset, .unset] [(.ref b372)])) _
    refine XS.dup X372.here hx rfl (hb hby at_22) rfl rfl ?_
    show Steps p.tables e below (T372.setTop (mkF m 23 #[.val (.int x1), .val (.int x2), .val (.int x3), .val (.int x4), .val (.ref b365), .val (.int (x3 &&& (65535 : Int32))), .val (.int (x4 &&& (65535 : Int32))), .unset, .unset, .unset, .unset] [(.ref b372), (.ref b372)])) _
    refine XS.aload X372.here hx rfl (hb hby at_23) rfl rfl ?_
    show Steps p.tables e below (T372.setTop (mkF m 25 #[.val (.int x1), .val (.int x2), .val (.int x3), .val (.int x4), .val (.ref b365), .val (.int (x3 &&& (65535 : Int32))), .val (.int (x4 &&& (65535 : Int32))), .unset, .unset, .unset, .unset] [(.ref b365), (.ref b372), (.ref b372)])) _
    refine XS.iload X372.here hx rfl (hb hby at_25) rfl ?_
    exact kt
  obtain ⟨_, _, ⟨T379, L379, k379, n379⟩, -, X379, ⟨Lc379, hQ379, l379, y379, z379⟩, st379⟩ := X372.specialBack hx (y := (⟨"com/example/portcullis/portcullis/util/HostPort", "<init>", "(Ljava/lang/String;I)V"⟩ : MethodName)) rfl hown (mvT hZ (hw _ (List.mem_of_getElem? (i := 38) rfl))) (mvT hZ (hw _ (List.mem_of_getElem? (i := 39) rfl))) (mvT hZ (hw _ (List.mem_of_getElem? (i := 40) rfl))) (by decide) (backOf (W := 1) (rm8 l Z a0 hw [] b372 b365 (x3 &&& (65535 : Int32)) h372 n0 z374 A372 F376 F377 g_b372) hZ (hw _ (List.mem_of_getElem? (i := 40) rfl)) (hw _ (List.mem_of_getElem? (i := 37) rfl)) (by decide) (by decide)) (g := (mkF m 27 #[.val (.int x1), .val (.int x2), .val (.int x3), .val (.int x4), .val (.ref b365), .val (.int (x3 &&& (65535 : Int32))), .val (.int (x4 &&& (65535 : Int32))), .unset, .unset, .unset, .unset] [(.int (x3 &&& (65535 : Int32))), (.ref b365), (.ref b372), (.ref b372)])) rfl (by rw [hml]; rfl) (Steps.refl _) (a := b372) (argsL := [(.ref b365), (.int (x3 &&& (65535 : Int32)))]) (rest := [(.ref b372)]) (lenOf pd_1 rfl) rfl (by show 2 * 0 + _ ≤ _; exact Nat.le_of_eq rfl) (hb hby at_27) (fun _ _ => ⟨rfl, e372, (by decide : 5 + 0 ≤ _), (by decide : 12 + 0 ≤ _)⟩)
  dsimp only [Pt.U, Pt.locs, Pt.cells, Pt.slots] at X379 l379 y379 z379 st379 hQ379
  subst l379 y379 z379
  obtain ⟨h379, e379⟩ : ∃ z, T379.heap = z := ⟨_, rfl⟩
  rw [e379] at hQ379
  obtain ⟨rfl, N379q, K379q, F380, F381⟩ := hQ379
  have wk382 : h368.size ≤ h379.size := Nat.le_trans wk375 K379q.1
  have z383 : n0 ≤ h379.size := Nat.le_trans z374 K379q.1
  have N379 := Fr.app N368 N379q
  have S384 : ∀ t, Steps p.tables e below (T379.setTop (mkF m 36 #[.val (.int x1), .val (.int x2), .val (.int x3), .val (.int x4), .val (.ref b365), .val (.int (x3 &&& (65535 : Int32))), .val (.int (x4 &&& (65535 : Int32))), .val (.ref b372), .unset, .unset, .unset] [(.int (x4 &&& (65535 : Int32))), (.ref b372)])) t → Steps p.tables e below (T379.setTop (mkF m 30 #[.val (.int x1), .val (.int x2), .val (.int x3), .val (.int x4), .val (.ref b365), .val (.int (x3 &&& (65535 : Int32))), .val (.int (x4 &&& (65535 : Int32))), .unset, .unset, .unset, .unset] [(.ref b372)])) t := by
    intro t kt
    show Steps p.tables e below (T379.setTop (mkF m 30 #[.val (.int x1), .val (.int x2), .val (.int x3), .val (.int x4), .val (.ref b365), .val (.int (x3 &&& (65535 : Int32))), .val (.int (x4 &&& (65535 : Int32))), .unset, .unset, .unset, .unset] [(.ref b372)])) _
    refine XS.astore X379.here hx rfl (hb hby at_30) rfl rfl (l' := #[.val (.int x1), .val (.int x2), .val (.int x3), .val (.int x4), .val (.ref b365), .val (.int (x3 &&& (65535 : Int32))), .val (.int (x4 &&& (65535 : Int32))), .val (.ref b372), .unset, .unset, .unset]) rfl ?_
    show Steps p.tables e below (T379.setTop (mkF m 32 #[.val (.int x1), .val (.int x2), .val (.int x3), .val (.int x4), .val (.ref b365), .val (.int (x3 &&& (65535 : Int32))), .val (.int (x4 &&& (65535 : Int32))), .val (.ref b372), .unset, .unset, .unset] [])) _
    refine XS.aload X379.here hx rfl (hb hby at_32) rfl rfl ?_
    show Steps p.tables e below (T379.setTop (mkF m 34 #[.val (.int x1), .val (.int x2), .val (.int x3), .val (.int x4), .val (.ref b365), .val (.int (x3 &&& (65535 : Int32))), .val (.int (x4 &&& (65535 : Int32))), .val (.ref b372), .unset, .unset, .unset] [(.ref b372)])) _
    refine XS.iload X379.here hx rfl (hb hby at_34) rfl ?_
    exact kt
  have f386 := (A372.keep K379q)
  obtain ⟨cq385, kq385, q385a, q385b, q385c⟩ := isOf hZ e379 f386
  obtain ⟨_, _, ⟨T385, L385, k385, n385⟩, -, X385, ⟨Lc385, hQ385, l385, y385, z385⟩, st385⟩ := X379.virtualBack hx (y := (⟨"com/example/portcullis/portcullis/util/HostPort", "withPort", "(I)Lcom/example/portcullis/portcullis/util/HostPort;"⟩ : MethodName)) (z := (⟨"com/example/portcullis/portcullis/util/HostPort", "withPort", "(I)Lcom/example/portcullis/portcullis/util/HostPort;"⟩ : MethodName)) hown (mvT hZ (hw _ (List.mem_of_getElem? (i := 51) rfl))) (mvT hZ (hw _ (List.mem_of_getElem? (i := 52) rfl))) (notFace_of_selects (args := #[]) (mvT hZ (hw _ (List.mem_of_getElem? (i := 54) rfl)))) (mvT hZ (hw _ (List.mem_of_getElem? (i := 54) rfl))) (mvT hZ (hw _ (List.mem_of_getElem? (i := 53) rfl))) (by decide) (backOf (W := 0) (rm10 l Z a0 hw [] b372 b365 (x4 &&& (65535 : Int32)) h379 n0 z383 F380) hZ (hw _ (List.mem_of_getElem? (i := 55) rfl)) (hw _ (List.mem_of_getElem? (i := 37) rfl)) (by decide) (by decide)) q385a q385c (g := (mkF m 36 #[.val (.int x1), .val (.int x2), .val (.int x3), .val (.int x4), .val (.ref b365), .val (.int (x3 &&& (65535 : Int32))), .val (.int (x4 &&& (65535 : Int32))), .val (.ref b372), .unset, .unset, .unset] [(.int (x4 &&& (65535 : Int32))), (.ref b372)])) rfl (by rw [hml]; rfl) (Steps.refl _) (argsL := [(.int (x4 &&& (65535 : Int32)))]) (rest := []) (lenOf pd_12 rfl) rfl (by show 2 * 0 + _ ≤ _; exact Nat.le_of_eq rfl) (hb hby at_36) (fun _ _ => ⟨rfl, e379, (by decide : 5 + 1 ≤ _), (by decide : 12 + 2 ≤ _)⟩)
  dsimp only [Pt.U, Pt.locs, Pt.cells, Pt.slots] at X385 l385 y385 z385 st385 hQ385
  subst l385 y385 z385
  obtain ⟨h385, e385⟩ : ∃ z, T385.heap = z := ⟨_, rfl⟩
  rw [e385] at hQ385
  obtain ⟨b366, rfl, N385q, K385q, F387, F388, F389⟩ := hQ385
  have wk390 : h368.size ≤ h385.size := Nat.le_trans wk382 K385q.1
  have z391 : n0 ≤ h385.size := Nat.le_trans z383 K385q.1
  have N385 := Fr.app N379 N385q
  have S392 : ∀ t, Steps p.tables e below (T385.setTop (mkF m 50 #[.val (.int x1), .val (.int x2), .val (.int x3), .val (.int x4), .val (.ref b365), .val (.int (x3 &&& (65535 : Int32))), .val (.int (x4 &&& (65535 : Int32))), .val (.ref b372), .val (.ref b366), .unset, .unset] [(.ref b366)])) t → Steps p.tables e below (T385.setTop (mkF m 39 #[.val (.int x1), .val (.int x2), .val (.int x3), .val (.int x4), .val (.ref b365), .val (.int (x3 &&& (65535 : Int32))), .val (.int (x4 &&& (65535 : Int32))), .val (.ref b372), .unset, .unset, .unset] [(.ref b366)])) t := by
    intro t kt
    show Steps p.tables e below (T385.setTop (mkF m 39 #[.val (.int x1), .val (.int x2), .val (.int x3), .val (.int x4), .val (.ref b365), .val (.int (x3 &&& (65535 : Int32))), .val (.int (x4 &&& (65535 : Int32))), .val (.ref b372), .unset, .unset, .unset] [(.ref b366)])) _
    refine XS.astore X385.here hx rfl (hb hby at_39) rfl rfl (l' := #[.val (.int x1), .val (.int x2), .val (.int x3), .val (.int x4), .val (.ref b365), .val (.int (x3 &&& (65535 : Int32))), .val (.int (x4 &&& (65535 : Int32))), .val (.ref b372), .val (.ref b366), .unset, .unset]) rfl ?_
    show Steps p.tables e below (T385.setTop (mkF m 41 #[.val (.int x1), .val (.int x2), .val (.int x3), .val (.int x4), .val (.ref b365), .val (.int (x3 &&& (65535 : Int32))), .val (.int (x4 &&& (65535 : Int32))), .val (.ref b372), .val (.ref b366), .unset, .unset] [])) _
    refine XS.aload X385.here hx rfl (hb hby at_41) rfl rfl ?_
    show Steps p.tables e below (T385.setTop (mkF m 43 #[.val (.int x1), .val (.int x2), .val (.int x3), .val (.int x4), .val (.ref b365), .val (.int (x3 &&& (65535 : Int32))), .val (.int (x4 &&& (65535 : Int32))), .val (.ref b372), .val (.ref b366), .unset, .unset] [(.ref b366)])) _
    refine XS.ifnonnullYes X385.here hx rfl (pc0 := 43) (pc' := 48) rfl (hb hby at_43) rfl (by decide) (by decide) ?_
    show Steps p.tables e below (T385.setTop (mkF m 48 #[.val (.int x1), .val (.int x2), .val (.int x3), .val (.int x4), .val (.ref b365), .val (.int (x3 &&& (65535 : Int32))), .val (.int (x4 &&& (65535 : Int32))), .val (.ref b372), .val (.ref b366), .unset, .unset] [])) _
    refine XS.aload X385.here hx rfl (hb hby at_48) rfl rfl ?_
    exact kt
  obtain ⟨cq393, kq393, q393a, q393b, q393c⟩ := isOf hZ e385 F387
  obtain ⟨_, _, ⟨T393, L393, k393, n393⟩, -, X393, ⟨Lc393, hQ393, l393, y393, z393⟩, st393⟩ := X385.virtualBack hx (y := (⟨"com/example/portcullis/portcullis/util/HostPort", "host", "()Ljava/lang/String;"⟩ : MethodName)) (z := (⟨"com/example/portcullis/portcullis/util/HostPort", "host", "()Ljava/lang/String;"⟩ : MethodName)) hown (mvT hZ (hw _ (List.mem_of_getElem? (i := 58) rfl))) (mvT hZ (hw _ (List.mem_of_getElem? (i := 59) rfl))) (notFace_of_selects (args := #[]) (mvT hZ (hw _ (List.mem_of_getElem? (i := 61) rfl)))) (mvT hZ (hw _ (List.mem_of_getElem? (i := 61) rfl))) (mvT hZ (hw _ (List.mem_of_getElem? (i := 60) rfl))) (by decide) (backOf (W := 0) (rm11 l Z a0 hw [] b366 b365 h385 n0 z391 F388) hZ (hw _ (List.mem_of_getElem? (i := 62) rfl)) (hw _ (List.mem_of_getElem? (i := 37) rfl)) (by decide) (by decide)) q393a q393c (g := (mkF m 50 #[.val (.int x1), .val (.int x2), .val (.int x3), .val (.int x4), .val (.ref b365), .val (.int (x3 &&& (65535 : Int32))), .val (.int (x4 &&& (65535 : Int32))), .val (.ref b372), .val (.ref b366), .unset, .unset] [(.ref b366)])) rfl (by rw [hml]; rfl) (Steps.refl _) (argsL := []) (rest := []) (lenOf pd_13 rfl) rfl (by show 2 * 0 + _ ≤ _; exact Nat.le_of_eq rfl) (hb hby at_50) (fun _ _ => ⟨rfl, e385, (by decide : 6 + 0 ≤ _), (by decide : 14 + 0 ≤ _)⟩)
  dsimp only [Pt.U, Pt.locs, Pt.cells, Pt.slots] at X393 l393 y393 z393 st393 hQ393
  subst l393 y393 z393
  obtain ⟨rfl, N393q, e393⟩ := hQ393
  have N393 := Fr.app N385 N393q
  have S394 : ∀ t, Steps p.tables e below (T393.setTop (mkF m 64 #[.val (.int x1), .val (.int x2), .val (.int x3), .val (.int x4), .val (.ref b365), .val (.int (x3 &&& (65535 : Int32))), .val (.int (x4 &&& (65535 : Int32))), .val (.ref b372), .val (.ref b366), .val (.ref b365), .unset] [(.ref b365), (.ref b365)])) t → Steps p.tables e below (T393.setTop (mkF m 53 #[.val (.int x1), .val (.int x2), .val (.int x3), .val (.int x4), .val (.ref b365), .val (.int (x3 &&& (65535 : Int32))), .val (.int (x4 &&& (65535 : Int32))), .val (.ref b372), .val (.ref b366), .unset, .unset] [(.ref b365)])) t := by
    intro t kt
    show Steps p.tables e below (T393.setTop (mkF m 53 #[.val (.int x1), .val (.int x2), .val (.int x3), .val (.int x4), .val (.ref b365), .val (.int (x3 &&& (65535 : Int32))), .val (.int (x4 &&& (65535 : Int32))), .val (.ref b372), .val (.ref b366), .unset, .unset] [(.ref b365)])) _
    refine XS.astore X393.here hx rfl (hb hby at_53) rfl rfl (l' := #[.val (.int x1), .val (.int x2), .val (.int x3), .val (.int x4), .val (.ref b365), .val (.int (x3 &&& (65535 : Int32))), .val (.int (x4 &&& (65535 : Int32))), .val (.ref b372), .val (.ref b366), .val (.ref b365), .unset]) rfl ?_
    show Steps p.tables e below (T393.setTop (mkF m 55 #[.val (.int x1), .val (.int x2), .val (.int x3), .val (.int x4), .val (.ref b365), .val (.int (x3 &&& (65535 : Int32))), .val (.int (x4 &&& (65535 : Int32))), .val (.ref b372), .val (.ref b366), .val (.ref b365), .unset] [])) _
    refine XS.aload X393.here hx rfl (hb hby at_55) rfl rfl ?_
    show Steps p.tables e below (T393.setTop (mkF m 57 #[.val (.int x1), .val (.int x2), .val (.int x3), .val (.int x4), .val (.ref b365), .val (.int (x3 &&& (65535 : Int32))), .val (.int (x4 &&& (65535 : Int32))), .val (.ref b372), .val (.ref b366), .val (.ref b365), .unset] [(.ref b365)])) _
    refine XS.ifnullNo X393.here hx rfl (hb hby at_57) rfl ?_
    show Steps p.tables e below (T393.setTop (mkF m 60 #[.val (.int x1), .val (.int x2), .val (.int x3), .val (.int x4), .val (.ref b365), .val (.int (x3 &&& (65535 : Int32))), .val (.int (x4 &&& (65535 : Int32))), .val (.ref b372), .val (.ref b366), .val (.ref b365), .unset] [])) _
    refine XS.aload X393.here hx rfl (hb hby at_60) rfl rfl ?_
    show Steps p.tables e below (T393.setTop (mkF m 62 #[.val (.int x1), .val (.int x2), .val (.int x3), .val (.int x4), .val (.ref b365), .val (.int (x3 &&& (65535 : Int32))), .val (.int (x4 &&& (65535 : Int32))), .val (.ref b372), .val (.ref b366), .val (.ref b365), .unset] [(.ref b365)])) _
    refine XS.aload X393.here hx rfl (hb hby at_62) rfl rfl ?_
    exact kt
  have f396 := (((F369.ext E372).keep K379q).keep K385q)
  obtain ⟨cq395, kq395, q395a, q395b, q395c⟩ := isOf hZ e393 f396
  obtain ⟨_, _, ⟨T395, L395, k395, n395⟩, -, X395, ⟨Lc395, hQ395, l395, y395, z395⟩, st395⟩ := X393.virtualBack hx (y := (⟨"java/lang/String", "equals", "(Ljava/lang/Object;)Z"⟩ : MethodName)) (z := (⟨"java/lang/String", "equals", "(Ljava/lang/Object;)Z"⟩ : MethodName)) hown (mvT hZ (hw _ (List.mem_of_getElem? (i := 63) rfl))) (mvT hZ (hw _ (List.mem_of_getElem? (i := 64) rfl))) (notFace_of_selects (args := #[]) (mvT hZ (hw _ (List.mem_of_getElem? (i := 66) rfl)))) (mvT hZ (hw _ (List.mem_of_getElem? (i := 66) rfl))) (mvT hZ (hw _ (List.mem_of_getElem? (i := 65) rfl))) (by decide) (backOf (W := 0) (rm12 l Z a0 hw [] b365 h385 n0 z391 ) hZ (hw _ (List.mem_of_getElem? (i := 67) rfl)) (hw _ (List.mem_of_getElem? (i := 7) rfl)) (by decide) (by decide)) q395a q395c (g := (mkF m 64 #[.val (.int x1), .val (.int x2), .val (.int x3), .val (.int x4), .val (.ref b365), .val (.int (x3 &&& (65535 : Int32))), .val (.int (x4 &&& (65535 : Int32))), .val (.ref b372), .val (.ref b366), .val (.ref b365), .unset] [(.ref b365), (.ref b365)])) rfl (by rw [hml]; rfl) (Steps.refl _) (argsL := [(.ref b365)]) (rest := []) (lenOf pd_14 rfl) rfl (by show 2 * 0 + _ ≤ _; exact Nat.le_of_eq rfl) (hb hby at_64) (fun _ _ => ⟨rfl, e393, (by decide : 6 + 0 ≤ _), (by decide : 14 + 0 ≤ _)⟩)
  dsimp only [Pt.U, Pt.locs, Pt.cells, Pt.slots] at X395 l395 y395 z395 st395 hQ395
  subst l395 y395 z395
  obtain ⟨rfl, N395q, e395⟩ := hQ395
  have N395 := Fr.app N393 N395q
  have S397 : ∀ t, Steps p.tables e below (T395.setTop (mkF m 74 #[.val (.int x1), .val (.int x2), .val (.int x3), .val (.int x4), .val (.ref b365), .val (.int (x3 &&& (65535 : Int32))), .val (.int (x4 &&& (65535 : Int32))), .val (.ref b372), .val (.ref b366), .val (.ref b365), .unset] [(.ref b366)])) t → Steps p.tables e below (T395.setTop (mkF m 67 #[.val (.int x1), .val (.int x2), .val (.int x3), .val (.int x4), .val (.ref b365), .val (.int (x3 &&& (65535 : Int32))), .val (.int (x4 &&& (65535 : Int32))), .val (.ref b372), .val (.ref b366), .val (.ref b365), .unset] [(.int (1 : Int32))])) t := by
    intro t kt
    show Steps p.tables e below (T395.setTop (mkF m 67 #[.val (.int x1), .val (.int x2), .val (.int x3), .val (.int x4), .val (.ref b365), .val (.int (x3 &&& (65535 : Int32))), .val (.int (x4 &&& (65535 : Int32))), .val (.ref b372), .val (.ref b366), .val (.ref b365), .unset] [(.int (1 : Int32))])) _
    refine XS.ifYes X395.here hx rfl (pc0 := 67) (pc' := 72) rfl (hb hby at_67) rfl ((if0 _ _).trans (feq (by decide)).2) (by decide) (by decide) ?_
    show Steps p.tables e below (T395.setTop (mkF m 72 #[.val (.int x1), .val (.int x2), .val (.int x3), .val (.int x4), .val (.ref b365), .val (.int (x3 &&& (65535 : Int32))), .val (.int (x4 &&& (65535 : Int32))), .val (.ref b372), .val (.ref b366), .val (.ref b365), .unset] [])) _
    refine XS.aload X395.here hx rfl (hb hby at_72) rfl rfl ?_
    exact kt
  obtain ⟨cq398, kq398, q398a, q398b, q398c⟩ := isOf hZ e395 F387
  obtain ⟨_, _, ⟨T398, L398, k398, n398⟩, -, X398, ⟨Lc398, hQ398, l398, y398, z398⟩, st398⟩ := X395.virtualBack hx (y := (⟨"com/example/portcullis/portcullis/util/HostPort", "port", "()I"⟩ : MethodName)) (z := (⟨"com/example/portcullis/portcullis/util/HostPort", "port", "()I"⟩ : MethodName)) hown (mvT hZ (hw _ (List.mem_of_getElem? (i := 68) rfl))) (mvT hZ (hw _ (List.mem_of_getElem? (i := 69) rfl))) (notFace_of_selects (args := #[]) (mvT hZ (hw _ (List.mem_of_getElem? (i := 71) rfl)))) (mvT hZ (hw _ (List.mem_of_getElem? (i := 71) rfl))) (mvT hZ (hw _ (List.mem_of_getElem? (i := 70) rfl))) (by decide) (backOf (W := 0) (rm13 l Z a0 hw [] b366 (x4 &&& (65535 : Int32)) h385 n0 z391 F389) hZ (hw _ (List.mem_of_getElem? (i := 72) rfl)) (hw _ (List.mem_of_getElem? (i := 37) rfl)) (by decide) (by decide)) q398a q398c (g := (mkF m 74 #[.val (.int x1), .val (.int x2), .val (.int x3), .val (.int x4), .val (.ref b365), .val (.int (x3 &&& (65535 : Int32))), .val (.int (x4 &&& (65535 : Int32))), .val (.ref b372), .val (.ref b366), .val (.ref b365), .unset] [(.ref b366)])) rfl (by rw [hml]; rfl) (Steps.refl _) (argsL := []) (rest := []) (lenOf pd_15 rfl) rfl (by show 2 * 0 + _ ≤ _; exact Nat.le_of_eq rfl) (hb hby at_74) (fun _ _ => ⟨rfl, e395, (by decide : 6 + 0 ≤ _), (by decide : 14 + 0 ≤ _)⟩)
  dsimp only [Pt.U, Pt.locs, Pt.cells, Pt.slots] at X398 l398 y398 z398 st398 hQ398
  subst l398 y398 z398
  obtain ⟨rfl, N398q, e398⟩ := hQ398
  have N398 := Fr.app N395 N398q
  have f399 := (F380.keep K385q nin0)
  have S400 : ∀ t, Steps p.tables e below (T398.setTop (mkF m 86 #[.val (.int x1), .val (.int x2), .val (.int x3), .val (.int x4), .val (.ref b365), .val (.int (x3 &&& (65535 : Int32))), .val (.int (x4 &&& (65535 : Int32))), .val (.ref b372), .val (.ref b366), .val (.ref b365), .unset] [(.ref b372)])) t → Steps p.tables e below (T398.setTop (mkF m 77 #[.val (.int x1), .val (.int x2), .val (.int x3), .val (.int x4), .val (.ref b365), .val (.int (x3 &&& (65535 : Int32))), .val (.int (x4 &&& (65535 : Int32))), .val (.ref b372), .val (.ref b366), .val (.ref b365), .unset] [(.int (x4 &&& (65535 : Int32)))])) t := by
    intro t kt
    show Steps p.tables e below (T398.setTop (mkF m 77 #[.val (.int x1), .val (.int x2), .val (.int x3), .val (.int x4), .val (.ref b365), .val (.int (x3 &&& (65535 : Int32))), .val (.int (x4 &&& (65535 : Int32))), .val (.ref b372), .val (.ref b366), .val (.ref b365), .unset] [(.int (x4 &&& (65535 : Int32)))])) _
    refine XS.iload X398.here hx rfl (hb hby at_77) rfl ?_
    show Steps p.tables e below (T398.setTop (mkF m 79 #[.val (.int x1), .val (.int x2), .val (.int x3), .val (.int x4), .val (.ref b365), .val (.int (x3 &&& (65535 : Int32))), .val (.int (x4 &&& (65535 : Int32))), .val (.ref b372), .val (.ref b366), .val (.ref b365), .unset] [(.int (x4 &&& (65535 : Int32))), (.int (x4 &&& (65535 : Int32)))])) _
    refine XS.icmpYes X398.here hx rfl (pc0 := 79) (pc' := 84) rfl (hb hby at_79) rfl (teq rfl).1 (by decide) (by decide) ?_
    show Steps p.tables e below (T398.setTop (mkF m 84 #[.val (.int x1), .val (.int x2), .val (.int x3), .val (.int x4), .val (.ref b365), .val (.int (x3 &&& (65535 : Int32))), .val (.int (x4 &&& (65535 : Int32))), .val (.ref b372), .val (.ref b366), .val (.ref b365), .unset] [])) _
    refine XS.aload X398.here hx rfl (hb hby at_84) rfl rfl ?_
    exact kt
  have f402 := (f386.keep K385q)
  obtain ⟨cq401, kq401, q401a, q401b, q401c⟩ := isOf hZ e398 f402
  obtain ⟨_, _, ⟨T401, L401, k401, n401⟩, -, X401, ⟨Lc401, hQ401, l401, y401, z401⟩, st401⟩ := X398.virtualBack hx (y := (⟨"com/example/portcullis/portcullis/util/HostPort", "host", "()Ljava/lang/String;"⟩ : MethodName)) (z := (⟨"com/example/portcullis/portcullis/util/HostPort", "host", "()Ljava/lang/String;"⟩ : MethodName)) hown (mvT hZ (hw _ (List.mem_of_getElem? (i := 58) rfl))) (mvT hZ (hw _ (List.mem_of_getElem? (i := 59) rfl))) (notFace_of_selects (args := #[]) (mvT hZ (hw _ (List.mem_of_getElem? (i := 61) rfl)))) (mvT hZ (hw _ (List.mem_of_getElem? (i := 61) rfl))) (mvT hZ (hw _ (List.mem_of_getElem? (i := 60) rfl))) (by decide) (backOf (W := 0) (rm11 l Z a0 hw [] b372 b365 h385 n0 z391 f399) hZ (hw _ (List.mem_of_getElem? (i := 62) rfl)) (hw _ (List.mem_of_getElem? (i := 37) rfl)) (by decide) (by decide)) q401a q401c (g := (mkF m 86 #[.val (.int x1), .val (.int x2), .val (.int x3), .val (.int x4), .val (.ref b365), .val (.int (x3 &&& (65535 : Int32))), .val (.int (x4 &&& (65535 : Int32))), .val (.ref b372), .val (.ref b366), .val (.ref b365), .unset] [(.ref b372)])) rfl (by rw [hml]; rfl) (Steps.refl _) (argsL := []) (rest := []) (lenOf pd_13 rfl) rfl (by show 2 * 0 + _ ≤ _; exact Nat.le_of_eq rfl) (hb hby at_86) (fun _ _ => ⟨rfl, e398, (by decide : 6 + 0 ≤ _), (by decide : 14 + 0 ≤ _)⟩)
  dsimp only [Pt.U, Pt.locs, Pt.cells, Pt.slots] at X401 l401 y401 z401 st401 hQ401
  subst l401 y401 z401
  obtain ⟨rfl, N401q, e401⟩ := hQ401
  have N401 := Fr.app N398 N401q
  have S403 : ∀ t, Steps p.tables e below (T401.setTop (mkF m 100 #[.val (.int x1), .val (.int x2), .val (.int x3), .val (.int x4), .val (.ref b365), .val (.int (x3 &&& (65535 : Int32))), .val (.int (x4 &&& (65535 : Int32))), .val (.ref b372), .val (.ref b366), .val (.ref b365), .val (.ref b365)] [(.ref b365), (.ref b365)])) t → Steps p.tables e below (T401.setTop (mkF m 89 #[.val (.int x1), .val (.int x2), .val (.int x3), .val (.int x4), .val (.ref b365), .val (.int (x3 &&& (65535 : Int32))), .val (.int (x4 &&& (65535 : Int32))), .val (.ref b372), .val (.ref b366), .val (.ref b365), .unset] [(.ref b365)])) t := by
    intro t kt
    show Steps p.tables e below (T401.setTop (mkF m 89 #[.val (.int x1), .val (.int x2), .val (.int x3), .val (.int x4), .val (.ref b365), .val (.int (x3 &&& (65535 : Int32))), .val (.int (x4 &&& (65535 : Int32))), .val (.ref b372), .val (.ref b366), .val (.ref b365), .unset] [(.ref b365)])) _
    refine XS.astore X401.here hx rfl (hb hby at_89) rfl rfl (l' := #[.val (.int x1), .val (.int x2), .val (.int x3), .val (.int x4), .val (.ref b365), .val (.int (x3 &&& (65535 : Int32))), .val (.int (x4 &&& (65535 : Int32))), .val (.ref b372), .val (.ref b366), .val (.ref b365), .val (.ref b365)]) rfl ?_
    show Steps p.tables e below (T401.setTop (mkF m 91 #[.val (.int x1), .val (.int x2), .val (.int x3), .val (.int x4), .val (.ref b365), .val (.int (x3 &&& (65535 : Int32))), .val (.int (x4 &&& (65535 : Int32))), .val (.ref b372), .val (.ref b366), .val (.ref b365), .val (.ref b365)] [])) _
    refine XS.aload X401.here hx rfl (hb hby at_91) rfl rfl ?_
    show Steps p.tables e below (T401.setTop (mkF m 93 #[.val (.int x1), .val (.int x2), .val (.int x3), .val (.int x4), .val (.ref b365), .val (.int (x3 &&& (65535 : Int32))), .val (.int (x4 &&& (65535 : Int32))), .val (.ref b372), .val (.ref b366), .val (.ref b365), .val (.ref b365)] [(.ref b365)])) _
    refine XS.ifnullNo X401.here hx rfl (hb hby at_93) rfl ?_
    show Steps p.tables e below (T401.setTop (mkF m 96 #[.val (.int x1), .val (.int x2), .val (.int x3), .val (.int x4), .val (.ref b365), .val (.int (x3 &&& (65535 : Int32))), .val (.int (x4 &&& (65535 : Int32))), .val (.ref b372), .val (.ref b366), .val (.ref b365), .val (.ref b365)] [])) _
    refine XS.aload X401.here hx rfl (hb hby at_96) rfl rfl ?_
    show Steps p.tables e below (T401.setTop (mkF m 98 #[.val (.int x1), .val (.int x2), .val (.int x3), .val (.int x4), .val (.ref b365), .val (.int (x3 &&& (65535 : Int32))), .val (.int (x4 &&& (65535 : Int32))), .val (.ref b372), .val (.ref b366), .val (.ref b365), .val (.ref b365)] [(.ref b365)])) _
    refine XS.aload X401.here hx rfl (hb hby at_98) rfl rfl ?_
    exact kt
  obtain ⟨cq404, kq404, q404a, q404b, q404c⟩ := isOf hZ e401 f396
  obtain ⟨_, _, ⟨T404, L404, k404, n404⟩, -, X404, ⟨Lc404, hQ404, l404, y404, z404⟩, st404⟩ := X401.virtualBack hx (y := (⟨"java/lang/String", "equals", "(Ljava/lang/Object;)Z"⟩ : MethodName)) (z := (⟨"java/lang/String", "equals", "(Ljava/lang/Object;)Z"⟩ : MethodName)) hown (mvT hZ (hw _ (List.mem_of_getElem? (i := 63) rfl))) (mvT hZ (hw _ (List.mem_of_getElem? (i := 64) rfl))) (notFace_of_selects (args := #[]) (mvT hZ (hw _ (List.mem_of_getElem? (i := 66) rfl)))) (mvT hZ (hw _ (List.mem_of_getElem? (i := 66) rfl))) (mvT hZ (hw _ (List.mem_of_getElem? (i := 65) rfl))) (by decide) (backOf (W := 0) (rm12 l Z a0 hw [] b365 h385 n0 z391 ) hZ (hw _ (List.mem_of_getElem? (i := 67) rfl)) (hw _ (List.mem_of_getElem? (i := 7) rfl)) (by decide) (by decide)) q404a q404c (g := (mkF m 100 #[.val (.int x1), .val (.int x2), .val (.int x3), .val (.int x4), .val (.ref b365), .val (.int (x3 &&& (65535 : Int32))), .val (.int (x4 &&& (65535 : Int32))), .val (.ref b372), .val (.ref b366), .val (.ref b365), .val (.ref b365)] [(.ref b365), (.ref b365)])) rfl (by rw [hml]; rfl) (Steps.refl _) (argsL := [(.ref b365)]) (rest := []) (lenOf pd_14 rfl) rfl (by show 2 * 0 + _ ≤ _; exact Nat.le_of_eq rfl) (hb hby at_100) (fun _ _ => ⟨rfl, e401, (by decide : 6 + 0 ≤ _), (by decide : 14 + 0 ≤ _)⟩)
  dsimp only [Pt.U, Pt.locs, Pt.cells, Pt.slots] at X404 l404 y404 z404 st404 hQ404
  subst l404 y404 z404
  obtain ⟨rfl, N404q, e404⟩ := hQ404
  have N404 := Fr.app N401 N404q
  have f405 := (F381.keep K385q nin0)
  have S406 : ∀ t, Steps p.tables e below (T404.setTop (mkF m 110 #[.val (.int x1), .val (.int x2), .val (.int x3), .val (.int x4), .val (.ref b365), .val (.int (x3 &&& (65535 : Int32))), .val (.int (x4 &&& (65535 : Int32))), .val (.ref b372), .val (.ref b366), .val (.ref b365), .val (.ref b365)] [(.ref b372)])) t → Steps p.tables e below (T404.setTop (mkF m 103 #[.val (.int x1), .val (.int x2), .val (.int x3), .val (.int x4), .val (.ref b365), .val (.int (x3 &&& (65535 : Int32))), .val (.int (x4 &&& (65535 : Int32))), .val (.ref b372), .val (.ref b366), .val (.ref b365), .val (.ref b365)] [(.int (1 : Int32))])) t := by
    intro t kt
    show Steps p.tables e below (T404.setTop (mkF m 103 #[.val (.int x1), .val (.int x2), .val (.int x3), .val (.int x4), .val (.ref b365), .val (.int (x3 &&& (65535 : Int32))), .val (.int (x4 &&& (65535 : Int32))), .val (.ref b372), .val (.ref b366), .val (.ref b365), .val (.ref b365)] [(.int (1 : Int32))])) _
    refine XS.ifYes X404.here hx rfl (pc0 := 103) (pc' := 108) rfl (hb hby at_103) rfl ((if0 _ _).trans (feq (by decide)).2) (by decide) (by decide) ?_
    show Steps p.tables e below (T404.setTop (mkF m 108 #[.val (.int x1), .val (.int x2), .val (.int x3), .val (.int x4), .val (.ref b365), .val (.int (x3 &&& (65535 : Int32))), .val (.int (x4 &&& (65535 : Int32))), .val (.ref b372), .val (.ref b366), .val (.ref b365), .val (.ref b365)] [])) _
    refine XS.aload X404.here hx rfl (hb hby at_108) rfl rfl ?_
    exact kt
  obtain ⟨cq407, kq407, q407a, q407b, q407c⟩ := isOf hZ e404 f402
  obtain ⟨_, _, ⟨T407, L407, k407, n407⟩, -, X407, ⟨Lc407, hQ407, l407, y407, z407⟩, st407⟩ := X404.virtualBack hx (y := (⟨"com/example/portcullis/portcullis/util/HostPort", "port", "()I"⟩ : MethodName)) (z := (⟨"com/example/portcullis/portcullis/util/HostPort", "port", "()I"⟩ : MethodName)) hown (mvT hZ (hw _ (List.mem_of_getElem? (i := 68) rfl))) (mvT hZ (hw _ (List.mem_of_getElem? (i := 69) rfl))) (notFace_of_selects (args := #[]) (mvT hZ (hw _ (List.mem_of_getElem? (i := 71) rfl)))) (mvT hZ (hw _ (List.mem_of_getElem? (i := 71) rfl))) (mvT hZ (hw _ (List.mem_of_getElem? (i := 70) rfl))) (by decide) (backOf (W := 0) (rm13 l Z a0 hw [] b372 (x3 &&& (65535 : Int32)) h385 n0 z391 f405) hZ (hw _ (List.mem_of_getElem? (i := 72) rfl)) (hw _ (List.mem_of_getElem? (i := 37) rfl)) (by decide) (by decide)) q407a q407c (g := (mkF m 110 #[.val (.int x1), .val (.int x2), .val (.int x3), .val (.int x4), .val (.ref b365), .val (.int (x3 &&& (65535 : Int32))), .val (.int (x4 &&& (65535 : Int32))), .val (.ref b372), .val (.ref b366), .val (.ref b365), .val (.ref b365)] [(.ref b372)])) rfl (by rw [hml]; rfl) (Steps.refl _) (argsL := []) (rest := []) (lenOf pd_15 rfl) rfl (by show 2 * 0 + _ ≤ _; exact Nat.le_of_eq rfl) (hb hby at_110) (fun _ _ => ⟨rfl, e404, (by decide : 6 + 0 ≤ _), (by decide : 14 + 0 ≤ _)⟩)
  dsimp only [Pt.U, Pt.locs, Pt.cells, Pt.slots] at X407 l407 y407 z407 st407 hQ407
  subst l407 y407 z407
  obtain ⟨rfl, N407q, e407⟩ := hQ407
  have N407 := Fr.app N404 N407q
  have S408 : ∀ t, Steps p.tables e below (T407.setTop (mkF m 123 #[.val (.int x1), .val (.int x2), .val (.int x3), .val (.int x4), .val (.ref b365), .val (.int (x3 &&& (65535 : Int32))), .val (.int (x4 &&& (65535 : Int32))), .val (.ref b372), .val (.ref b366), .val (.ref b365), .val (.ref b365)] [(.int (1 : Int32))])) t → Steps p.tables e below (T407.setTop (mkF m 113 #[.val (.int x1), .val (.int x2), .val (.int x3), .val (.int x4), .val (.ref b365), .val (.int (x3 &&& (65535 : Int32))), .val (.int (x4 &&& (65535 : Int32))), .val (.ref b372), .val (.ref b366), .val (.ref b365), .val (.ref b365)] [(.int (x3 &&& (65535 : Int32)))])) t := by
    intro t kt
    show Steps p.tables e below (T407.setTop (mkF m 113 #[.val (.int x1), .val (.int x2), .val (.int x3), .val (.int x4), .val (.ref b365), .val (.int (x3 &&& (65535 : Int32))), .val (.int (x4 &&& (65535 : Int32))), .val (.ref b372), .val (.ref b366), .val (.ref b365), .val (.ref b365)] [(.int (x3 &&& (65535 : Int32)))])) _
    refine XS.iload X407.here hx rfl (hb hby at_113) rfl ?_
    show Steps p.tables e below (T407.setTop (mkF m 115 #[.val (.int x1), .val (.int x2), .val (.int x3), .val (.int x4), .val (.ref b365), .val (.int (x3 &&& (65535 : Int32))), .val (.int (x4 &&& (65535 : Int32))), .val (.ref b372), .val (.ref b366), .val (.ref b365), .val (.ref b365)] [(.int (x3 &&& (65535 : Int32))), (.int (x3 &&& (65535 : Int32)))])) _
    refine XS.icmpNo X407.here hx rfl (hb hby at_115) rfl (teq rfl).2 ?_
    show Steps p.tables e below (T407.setTop (mkF m 118 #[.val (.int x1), .val (.int x2), .val (.int x3), .val (.int x4), .val (.ref b365), .val (.int (x3 &&& (65535 : Int32))), .val (.int (x4 &&& (65535 : Int32))), .val (.ref b372), .val (.ref b366), .val (.ref b365), .val (.ref b365)] [])) _
    refine XS.iconst X407.here hx rfl (hb hby at_118) ?_
    show Steps p.tables e below (T407.setTop (mkF m 119 #[.val (.int x1), .val (.int x2), .val (.int x3), .val (.int x4), .val (.ref b365), .val (.int (x3 &&& (65535 : Int32))), .val (.int (x4 &&& (65535 : Int32))), .val (.ref b372), .val (.ref b366), .val (.ref b365), .val (.ref b365)] [(.int (1 : Int32))])) _
    refine XS.goto X407.here hx rfl (pc0 := 119) (pc' := 123) rfl (hb hby at_119) (by decide) (by decide) ?_
    exact kt
  have C409 : ∀ t, Steps p.tables e below (T407.setTop (mkF m 123 #[.val (.int x1), .val (.int x2), .val (.int x3), .val (.int x4), .val (.ref b365), .val (.int (x3 &&& (65535 : Int32))), .val (.int (x4 &&& (65535 : Int32))), .val (.ref b372), .val (.ref b366), .val (.ref b365), .val (.ref b365)] [(.int (1 : Int32))])) t → Steps p.tables e below (s₁.setTop (mkF m 0 #[.val (.int x1), .val (.int x2), .val (.int x3), .val (.int x4), .unset, .unset, .unset, .unset, .unset, .unset, .unset] [])) t := (fun t k => (S367 t (st368.trans (S371 t (st372 t (S378 t (st379.trans (S384 t (st385.trans (S392 t (st393.trans (S394 t (st395.trans (S397 t (st398.trans (S400 t (st401.trans (S403 t (st404.trans (S406 t (st407.trans (S408 t k))))))))))))))))))))))
  obtain ⟨fs, hr, hrun, hended, hRE⟩ := Stand.leaveW (s := s) (vm₁ := T368.vm) X407 hS368 (Nat.le_trans wk390 (Nat.le_of_eq (congrArg Array.size e407.symm))) (v := some (.int (1 : Int32))) (fun h => by rw [Bd.returns] at h; cases h)
  refine ⟨_, _, pre0 _ (C409 _ ?_), hrun, hended, _, _, rfl, ?_, hRE.1, hRE.2.1, hRE.2.2.1, hRE.2.2.2.mono (by decide) (by decide)⟩
  · exact retN X407 hx (t := .boolean) Bd.returns (by simp) (hb hby at_123) hr
  · show Q_rm0 Z x1 x2 x3 x4 zc h0 n0 _ T407.heap _
    rw [e407]
    exact ⟨rfl, N407⟩

theorem own_not0 {args : Array Value} {first s : State} {o : Option Outcome} {idx : List Nat} {a : Term} {z : Int32} (h : (Cond.not (Cond.eq a (Term.int 0))).value args first o s idx = some true) (ha : a.eval args first o idx s = some (.int z)) : ¬ z = (0 : Int32) := by
  rintro rfl
  simp [Cond.value, ha, Term.eval] at h
set_option maxRecDepth 65536 in
set_option maxHeartbeats 40000000 in
theorem comes_1 {Post : Tables → Env → Array Value → State → Outcome → State → Prop} (hpost : ∀ tb e args s v u, (limb_1_1.after args s (.returned v) u = true ∧ limb_1_2.after args s (.returned v) u = true ∧ True) → Jvm.D.FramedW s (.returned v) u (Jvm.fieldLocs frame_1_writes args s ++ Jvm.arrayLocs frame_1_arrays args s ++ Jvm.staticLocs frame_1_statics s) 24 1152 → Post tb e args s (.returned v) u) :
    ArmFor flags0 classFile x code maxLocals ret World_1 tables_1 room_1 Calls_1 rest_1 Pre_1 Post := by
  intro l hfl _ _ p e ha hc hk s m args below hf hA hF happ hP
  obtain ⟨hcalls, hrest, hpre⟩ := hP
  obtain ⟨-, -, -, hnamed, -, -, -, hat⟩ := (Spec.applies_iff hf).mp happ
  obtain ⟨hg, hn⟩ := and_e (Cond.before_iff.mp (show (Jvm.Cond.and given_1 narrow_1).before args s = true from hpre))
  obtain ⟨gg1, gg2⟩ := and_e hg
  obtain ⟨gg3, gg4⟩ := and_e gg2
  obtain ⟨gg5, gg6⟩ := and_e gg4
  obtain ⟨gg7, gg8⟩ := and_e gg6
  obtain ⟨w0, w1, w2, w3, rfl⟩ : ∃ w0 w1 w2 w3 : Value, args = #[w0, w1, w2, w3] := by
    have hs : args.size = 4 := by simpa [Cond.value, given_1] using gg1
    obtain ⟨L⟩ := args
    match L, hs with
    | [w0, w1, w2, w3], _ => exact ⟨w0, w1, w2, w3, rfl⟩
  have hw := fun d (hd : d ∈ tables_1) => atoms_spec (ws := Jvm.Cond.code x code maxLocals ret :: tables_1) hat d (List.mem_cons_of_mem _ hd)
  have hfit : Fit s := fun {y c} hc i hi => by
    obtain ⟨ha, rfl⟩ := Array.getElem?_eq_some_iff.mp hc
    have q := List.all_eq_true.mp ((Array.all_eq_true_iff_forall_mem.mp hF) _ (Array.getElem_mem ha)) i (List.mem_range.mpr hi)
    simpa [Array.getElem?_eq_getElem hi] using q
  obtain ⟨hsets, hown0⟩ := atoms_of _ (rest_1_c_eq ▸ (show rest_1_c.before _ s = true from hrest))
  have hr0 := Cond.before_iff.mp hown0
  obtain ⟨i0, ei0⟩ := is_v gg3
  obtain rfl : w0 = (.int i0) := Option.some.inj ei0
  obtain ⟨i1, ei1⟩ := is_v gg5
  obtain rfl : w1 = (.int i1) := Option.some.inj ei1
  obtain ⟨i2, ei2⟩ := is_v gg7
  obtain rfl : w2 = (.int i2) := Option.some.inj ei2
  obtain ⟨i3, ei3⟩ := is_v gg8
  obtain rfl : w3 = (.int i3) := Option.some.inj ei3
  have hc2 := hsets _ (List.mem_of_getElem? (i := 2) rfl)
  obtain ⟨zc, ezc⟩ := is_v (Cond.before_iff.mp (hsets _ (List.mem_of_getElem? (i := 1) rfl)))
  have HS := Sta.start ezc (Or.inl (hsets _ (List.mem_of_getElem? (i := 0) rfl)))
  have hzc := own_not0 (Cond.before_iff.mp hc2) ezc
  have HC : Jvm.Lit.constHeld s "java/lang/String" 7 := hcalls.1 _ (List.mem_cons_self ..)
  obtain ⟨n, o, h1, h2, h3, _, L, rfl, ⟨rfl, N⟩, hq⟩ := rm0 l s _ hw tables_1 i0 i1 i2 i3 zc s.heap s.heap.size (Nat.le_refl _) (Old.start s) HS hzc HC hc2 p e ha hc hk s m _ below hf ((Spec.applies_iff_loose hf).mp happ).1 ⟨rfl, State.Warmed39.refl s, rfl, rfl⟩ trivial
  refine ⟨n, _, h1, h2, h3, hpost _ _ _ _ _ _ ⟨Cond.after_iff.mpr rfl, Cond.after_iff.mpr (eq_i res_at (Term.int_eval (1)) rfl), trivial⟩ ⟨hq.1, hq.2.1, hq.2.2.1, (hq.2.2.2.sift fun y hy => Or.inr (N y hy)).mono (by decide) (by decide)⟩⟩
theorem main_1_1 : Claimed_1_1 := comes_1 fun _ _ _ _ _ _ h hF => ⟨h.1, hF⟩
theorem main_1_2 : Claimed_1_2 := comes_1 fun _ _ _ _ _ _ h hF => ⟨h.2.1, hF⟩
end Jvm.Pilot.@@N@@
namespace Jvm.Pilot.@@N@@
open Jvm Jvm.ClassFile Sem Op Lib Jvm.Free Jvm.Stand Jvm.Pilot.@@N@@.Jvm.D
/-! MADE BY PROGRAM (witnessworld.py) out of the Statement's table words and the real class files: 21 classes; the members and pool entries that the words name. The judged class is class 1, her method 2. -/
namespace start1
open Jvm.ClassFile
def u (s : String) : CpInfo := .utf8 (stringToUtf16 s)
/-- a pool by its gaps: so many unusable entries, then the entry; so many at the end -/
def gap : Nat → List CpInfo → List CpInfo
  | 0, r => r
  | n + 1, r => .unusable :: gap n r
def poolList (es : List (Nat × CpInfo)) (last : Nat) : List CpInfo := es.foldr (fun e r => gap e.1 (e.2 :: r)) (gap last [])
def pool (es : List (Nat × CpInfo)) (last : Nat) : Array CpInfo := ⟨poolList es last⟩
def fileOf (pool : Array CpInfo) (this : Nat) (attrs : Array Attribute := #[]) (ms : Array MethodInfo := #[]) (fl : Nat := 33) (sup : Nat := 0) (ifs : Array Nat := #[]) (fds : Array FieldInfo := #[]) : ClassFile where
  minorVersion := 0
  majorVersion := 65
  constantPool := pool
  accessFlags := fl
  thisClass := this
  superClass := sup
  interfaces := ifs
  fields := fds
  methods := ms
  attributes := attrs
def plain (name : String) (sup : Option ClassId) : Class where
  name := name
  kind := .ordinary
  loader := none
  accessFlags := 33
  super := sup
  interfaces := #[]
  cf := none
  fields := #[]
  methods := #[]
  instanceTypes := #[]
  staticTypes := #[]
  resolved := #[]
  callSites := []
  init := .initialized
  statics := none
  mirror := none

def pool0 : Array CpInfo := pool [(5, u "<init>"), (0, u "()V"), (1, .class_ 10), (1, u "java/lang/Object")] 113

def k0c0 : Code := { maxStack := 0, maxLocals := 1, code := object_method_1_code, exceptionTable := #[], attributes := #[] }
def k0m0 : Method := { name := "<init>", desc := "()V", sig := { parameters := [], returnType := none }, accessFlags := 1, code := some k0c0 }
/-- java/lang/Object -/
def k0 : Class := { plain "java/lang/Object" none with
  accessFlags := 33
  interfaces := #[]
  cf := some (fileOf pool0 8 #[] #[{ accessFlags := 1, nameIndex := 5, descriptorIndex := 6, attributes := #[] }] 33 0 #[] #[])
  fields := #[]
  methods := #[k0m0]
  instanceTypes := #[]
  staticTypes := #[]
  resolved := Array.replicate 124 none
  statics := none }

def pool1 : Array CpInfo := pool [(2, .class_ 4), (1, u "java/lang/Object"), (0, u "<init>"), (0, u "()V"), (0, .class_ 8), (0, u "java/lang/String"), (0, .methodref 7 10), (0, .nameAndType 5 11), (0, u "([C)V"), (0, .methodref 7 13), (0, .nameAndType 14 15), (0, u "valueOf"), (0, u "(C)Ljava/lang/String;"), (0, .methodref 17 18), (0, .class_ 19), (0, .nameAndType 20 21), (0, u "com/example/portcullis/portcullis/util/HostPortWithPortPinLaw"), (0, u "host"), (0, u "(II)Ljava/lang/String;"), (0, .integer 65535), (0, .class_ 24), (0, u "com/example/portcullis/portcullis/util/HostPort"), (0, .methodref 23 26), (0, .nameAndType 5 27), (0, u "(Ljava/lang/String;I)V"), (0, .methodref 23 29), (0, .nameAndType 30 31), (0, u "withPort"), (0, u "(I)Lcom/example/portcullis/portcullis/util/HostPort;"), (0, .methodref 23 33), (0, .nameAndType 20 34), (0, u "()Ljava/lang/String;"), (0, .methodref 7 36), (0, .nameAndType 37 38), (0, u "equals"), (0, u "(Ljava/lang/Object;)Z"), (0, .methodref 23 40), (0, .nameAndType 41 42), (0, u "port"), (0, u "()I"), (3, u "law"), (0, u "(IIII)Z")] 2

def k1m0 : Method := { name := "<init>", desc := "()V", sig := { parameters := [], returnType := none }, accessFlags := 1, code := none }
def k1c1 : Code := { maxStack := 3, maxLocals := 7, code := method_2_code, exceptionTable := #[], attributes := #[] }
def k1m1 : Method := { name := "host", desc := "(II)Ljava/lang/String;", sig := { parameters := [.int, .int], returnType := some (.object "java/lang/String") }, accessFlags := 10, code := some k1c1 }
def k1c2 : Code := { maxStack := 4, maxLocals := 11, code := code, exceptionTable := #[], attributes := #[] }
def k1m2 : Method := { name := "law", desc := "(IIII)Z", sig := { parameters := [.int, .int, .int, .int], returnType := some .boolean }, accessFlags := 9, code := some k1c2 }
/-- com/example/portcullis/portcullis/util/HostPortWithPortPinLaw -/
def k1 : Class := { plain "com/example/portcullis/portcullis/util/HostPortWithPortPinLaw" (some 0) with
  accessFlags := 49
  interfaces := #[]
  cf := some (fileOf pool1 17 #[] #[{ accessFlags := 1, nameIndex := 5, descriptorIndex := 6, attributes := #[] }, { accessFlags := 10, nameIndex := 20, descriptorIndex := 21, attributes := #[] }, { accessFlags := 9, nameIndex := 46, descriptorIndex := 47, attributes := #[] }] 49 2 #[] #[])
  fields := #[]
  methods := #[k1m0, k1m1, k1m2]
  instanceTypes := #[]
  staticTypes := #[]
  resolved := Array.replicate 50 none
  statics := none }

def pool2 : Array CpInfo := pool [(1, .class_ 2), (0, u "java/io/Serializable"), (0, .class_ 4), (0, u "java/lang/Object")] 2

/-- java/io/Serializable -/
def k2 : Class := { plain "java/io/Serializable" (some 0) with
  accessFlags := 1537
  interfaces := #[]
  cf := some (fileOf pool2 1 #[] #[] 1537 3 #[] #[])
  fields := #[]
  methods := #[]
  instanceTypes := #[]
  staticTypes := #[]
  resolved := Array.replicate 7 none
  statics := none }

def pool3 : Array CpInfo := pool [(1, .class_ 2), (0, u "java/lang/Comparable"), (0, .class_ 4), (0, u "java/lang/Object")] 7

/-- java/lang/Comparable -/
def k3 : Class := { plain "java/lang/Comparable" (some 0) with
  accessFlags := 1537
  interfaces := #[]
  cf := some (fileOf pool3 1 #[] #[] 1537 3 #[] #[])
  fields := #[]
  methods := #[]
  instanceTypes := #[]
  staticTypes := #[]
  resolved := Array.replicate 12 none
  statics := none }

def pool4 : Array CpInfo := pool [(2, .class_ 4), (1, u "java/lang/CharSequence"), (42, .class_ 48), (0, u "java/lang/CharSequence$1CodePointIterator"), (10, .class_ 60), (0, u "java/lang/CharSequence$1CharIterator"), (5, .class_ 67), (0, u "java/lang/Object")] 63

/-- java/lang/CharSequence -/
def k4 : Class := { plain "java/lang/CharSequence" (some 0) with
  accessFlags := 1537
  interfaces := #[]
  cf := some (fileOf pool4 2 #[.nestMembers #[47, 59]] #[] 1537 66 #[] #[])
  fields := #[]
  methods := #[]
  instanceTypes := #[]
  staticTypes := #[]
  resolved := Array.replicate 131 none
  statics := none }

def pool5 : Array CpInfo := pool [(1, .class_ 2), (0, u "java/lang/constant/Constable"), (0, .class_ 4), (0, u "java/lang/Object")] 6

/-- java/lang/constant/Constable -/
def k5 : Class := { plain "java/lang/constant/Constable" (some 0) with
  accessFlags := 1537
  interfaces := #[]
  cf := some (fileOf pool5 1 #[] #[] 1537 3 #[] #[])
  fields := #[]
  methods := #[]
  instanceTypes := #[]
  staticTypes := #[]
  resolved := Array.replicate 11 none
  statics := none }

def pool6 : Array CpInfo := pool [(1, .class_ 2), (0, u "java/lang/constant/ConstantDesc"), (0, .class_ 4), (0, u "java/lang/Object")] 32

/-- java/lang/constant/ConstantDesc -/
def k6 : Class := { plain "java/lang/constant/ConstantDesc" (some 0) with
  accessFlags := 1537
  interfaces := #[]
  cf := some (fileOf pool6 1 #[] #[] 1537 3 #[] #[])
  fields := #[]
  methods := #[]
  instanceTypes := #[]
  staticTypes := #[]
  resolved := Array.replicate 37 none
  statics := none }

def pool7 : Array CpInfo := pool [(1, .methodref 2 3), (0, .class_ 4), (0, .nameAndType 5 6), (0, u "java/lang/Object"), (0, u "<init>"), (0, u "()V"), (0, .string 8), (0, u ""), (0, .fieldref 10 11), (0, .class_ 12), (0, .nameAndType 13 14), (0, u "java/lang/String"), (0, u "value"), (0, u "[B"), (0, .fieldref 10 16), (0, .nameAndType 17 18), (0, u "coder"), (0, u "B"), (2, u "hash"), (0, u "I"), (2, u "hashIsZero"), (0, u "Z"), (0, .methodref 10 28), (0, .nameAndType 5 29), (0, u "([CIILjava/lang/Void;)V"), (8, .fieldref 10 39), (0, .nameAndType 40 26), (0, u "COMPACT_STRINGS"), (1, .class_ 44), (1, u "java/lang/StringUTF16"), (0, u "compress"), (1, .methodref 42 48), (0, .nameAndType 49 50), (0, u "coderFromArrayLen"), (0, u "([BI)B"), (2, u "toBytes"), (53, .class_ 109), (1, u "java/lang/StringLatin1"), (67, .methodref 42 178), (0, .nameAndType 45 179), (0, u "([CII)[B"), (29, .methodref 10 210), (0, .nameAndType 5 211), (0, u "([BB)V"), (157, u "(C)Z"), (173, u "equals"), (29, u "(Ljava/lang/Object;)Z"), (1, .class_ 576), (0, u "java/lang/CharSequence"), (22, u "CASE_INSENSITIVE_ORDER"), (0, u "Ljava/util/Comparator;"), (181, u "valueOf"), (0, u "(C)Ljava/lang/String;"), (226, u "([C)V"), (4, .methodref 107 1016), (0, .nameAndType 1017 369), (0, u "canEncode"), (0, .methodref 107 1019), (0, .nameAndType 53 1020), (0, u "(C)[B"), (80, u "serialPersistentFields"), (0, u "[Ljava/io/ObjectStreamField;"), (0, .class_ 1104), (0, u "java/lang/String$CaseInsensitiveComparator"), (1, .class_ 1107), (0, u "java/io/Serializable"), (0, .class_ 1109), (0, u "java/lang/Comparable"), (0, .class_ 1111), (0, u "java/lang/constant/Constable"), (0, .class_ 1113), (0, u "java/lang/constant/ConstantDesc"), (2, u "serialVersionUID"), (0, u "J"), (3, u "REPL"), (0, u "C"), (2, u "LATIN1"), (1, u "UTF16")] 323

def k7m0 : Method := { name := "<init>", desc := "()V", sig := { parameters := [], returnType := none }, accessFlags := 1, code := none }
def k7c1 : Code := { maxStack := 5, maxLocals := 2, code := jdk_42_method_3_code, exceptionTable := #[], attributes := #[] }
def k7m1 : Method := { name := "<init>", desc := "([C)V", sig := { parameters := [(.array .char)], returnType := none }, accessFlags := 1, code := some k7c1 }
def k7c2 : Code := { maxStack := 2, maxLocals := 3, code := jdk_42_method_66_code, exceptionTable := #[], attributes := #[] }
def k7m2 : Method := { name := "equals", desc := "(Ljava/lang/Object;)Z", sig := { parameters := [(.object "java/lang/Object")], returnType := some .boolean }, accessFlags := 1, code := some k7c2 }
def k7c3 : Code := { maxStack := 4, maxLocals := 1, code := jdk_42_method_139_code, exceptionTable := #[], attributes := #[] }
def k7m3 : Method := { name := "valueOf", desc := "(C)Ljava/lang/String;", sig := { parameters := [.char], returnType := some (.object "java/lang/String") }, accessFlags := 9, code := some k7c3 }
def k7c4 : Code := { maxStack := 4, maxLocals := 6, code := jdk_42_method_149_code, exceptionTable := #[], attributes := #[] }
def k7m4 : Method := { name := "<init>", desc := "([CIILjava/lang/Void;)V", sig := { parameters := [(.array .char), .int, .int, (.object "java/lang/Void")], returnType := none }, accessFlags := 2, code := some k7c4 }
def k7c5 : Code := { maxStack := 2, maxLocals := 3, code := jdk_42_method_151_code, exceptionTable := #[], attributes := #[] }
def k7m5 : Method := { name := "<init>", desc := "([BB)V", sig := { parameters := [(.array .byte), .byte], returnType := none }, accessFlags := 0, code := some k7c5 }
/-- java/lang/String -/
def k7 : Class := { plain "java/lang/String" (some 0) with
  accessFlags := 49
  interfaces := #[2, 3, 4, 5, 6]
  cf := some (fileOf pool7 10 #[.nestMembers #[1103]] #[{ accessFlags := 1, nameIndex := 5, descriptorIndex := 6, attributes := #[] }, { accessFlags := 1, nameIndex := 5, descriptorIndex := 1010, attributes := #[] }, { accessFlags := 1, nameIndex := 543, descriptorIndex := 573, attributes := #[] }, { accessFlags := 9, nameIndex := 782, descriptorIndex := 783, attributes := #[] }, { accessFlags := 2, nameIndex := 5, descriptorIndex := 29, attributes := #[] }, { accessFlags := 0, nameIndex := 5, descriptorIndex := 211, attributes := #[] }] 49 2 #[1106, 1108, 575, 1110, 1112] #[{ accessFlags := 18, nameIndex := 13, descriptorIndex := 14, attributes := #[] }, { accessFlags := 18, nameIndex := 17, descriptorIndex := 18, attributes := #[] }, { accessFlags := 2, nameIndex := 21, descriptorIndex := 22, attributes := #[] }, { accessFlags := 2, nameIndex := 25, descriptorIndex := 26, attributes := #[] }, { accessFlags := 26, nameIndex := 1116, descriptorIndex := 1117, attributes := #[] }, { accessFlags := 24, nameIndex := 40, descriptorIndex := 26, attributes := #[] }, { accessFlags := 26, nameIndex := 1101, descriptorIndex := 1102, attributes := #[] }, { accessFlags := 26, nameIndex := 1121, descriptorIndex := 1122, attributes := #[] }, { accessFlags := 25, nameIndex := 599, descriptorIndex := 600, attributes := #[] }, { accessFlags := 24, nameIndex := 1125, descriptorIndex := 18, attributes := #[] }, { accessFlags := 24, nameIndex := 1127, descriptorIndex := 18, attributes := #[] }])
  fields := #[{ name := "value", type := (.array .byte), accessFlags := 18, slot := 0, constantValue := 0 }, { name := "coder", type := .byte, accessFlags := 18, slot := 1, constantValue := 0 }, { name := "hash", type := .int, accessFlags := 2, slot := 2, constantValue := 0 }, { name := "hashIsZero", type := .boolean, accessFlags := 2, slot := 3, constantValue := 0 }, { name := "serialVersionUID", type := .long, accessFlags := 26, slot := 0, constantValue := 0 }, { name := "COMPACT_STRINGS", type := .boolean, accessFlags := 24, slot := 1, constantValue := 0 }, { name := "serialPersistentFields", type := (.array (.object "java/io/ObjectStreamField")), accessFlags := 26, slot := 2, constantValue := 0 }, { name := "REPL", type := .char, accessFlags := 26, slot := 3, constantValue := 0 }, { name := "CASE_INSENSITIVE_ORDER", type := (.object "java/util/Comparator"), accessFlags := 25, slot := 4, constantValue := 0 }, { name := "LATIN1", type := .byte, accessFlags := 24, slot := 5, constantValue := 0 }, { name := "UTF16", type := .byte, accessFlags := 24, slot := 6, constantValue := 0 }]
  methods := #[k7m0, k7m1, k7m2, k7m3, k7m4, k7m5]
  instanceTypes := #[(.array .byte), .byte, .int, .boolean]
  staticTypes := #[.long, .boolean, (.array (.object "java/io/ObjectStreamField")), .char, (.object "java/util/Comparator"), .byte, .byte]
  resolved := Array.replicate 1451 none
  statics := some 0 }

def pool8 : Array CpInfo := pool [(6, .class_ 8), (1, u "java/lang/Object"), (0, u "<init>"), (0, u "()V"), (1, .class_ 14), (1, u "java/lang/StringUTF16"), (31, u "$assertionsDisabled"), (0, u "Z"), (13, u "HI_BYTE_SHIFT"), (0, u "I"), (2, u "LO_BYTE_SHIFT"), (49, .methodref 12 116), (0, .nameAndType 117 118), (0, u "compress"), (0, u "([CI[BII)I"), (3, u "([CII)[B"), (138, u "coderFromArrayLen"), (0, u "([BI)B"), (106, .class_ 371), (1, u "java/lang/StringUTF16$LinesSpliterator"), (58, u "MAX_LENGTH"), (196, .class_ 628), (0, u "java/lang/StringUTF16$CodePointsSpliterator"), (0, .class_ 630), (0, u "java/lang/StringUTF16$CharsSpliterator")] 4

def k8m0 : Method := { name := "<init>", desc := "()V", sig := { parameters := [], returnType := none }, accessFlags := 0, code := none }
def k8c1 : Code := { maxStack := 2, maxLocals := 2, code := jdk_52_method_15_code, exceptionTable := #[], attributes := #[] }
def k8m1 : Method := { name := "coderFromArrayLen", desc := "([BI)B", sig := { parameters := [(.array .byte), .int], returnType := some .byte }, accessFlags := 8, code := some k8c1 }
def k8c2 : Code := { maxStack := 5, maxLocals := 6, code := jdk_52_method_16_code, exceptionTable := #[], attributes := #[] }
def k8m2 : Method := { name := "compress", desc := "([CII)[B", sig := { parameters := [(.array .char), .int, .int], returnType := some (.array .byte) }, accessFlags := 9, code := some k8c2 }
def k8c3 : Code := { maxStack := 3, maxLocals := 7, code := jdk_52_method_21_code, exceptionTable := #[], attributes := #[] }
def k8m3 : Method := { name := "compress", desc := "([CI[BII)I", sig := { parameters := [(.array .char), .int, (.array .byte), .int, .int], returnType := some .int }, accessFlags := 9, code := some k8c3 }
/-- java/lang/StringUTF16 -/
def k8 : Class := { plain "java/lang/StringUTF16" (some 0) with
  accessFlags := 48
  interfaces := #[]
  cf := some (fileOf pool8 12 #[.nestMembers #[627, 629, 369]] #[{ accessFlags := 0, nameIndex := 9, descriptorIndex := 10, attributes := #[] }, { accessFlags := 8, nameIndex := 261, descriptorIndex := 262, attributes := #[] }, { accessFlags := 9, nameIndex := 117, descriptorIndex := 122, attributes := #[] }, { accessFlags := 9, nameIndex := 117, descriptorIndex := 118, attributes := #[] }] 48 6 #[] #[{ accessFlags := 26, nameIndex := 61, descriptorIndex := 62, attributes := #[] }, { accessFlags := 26, nameIndex := 65, descriptorIndex := 62, attributes := #[] }, { accessFlags := 24, nameIndex := 430, descriptorIndex := 62, attributes := #[] }, { accessFlags := 4120, nameIndex := 46, descriptorIndex := 47, attributes := #[] }])
  fields := #[{ name := "HI_BYTE_SHIFT", type := .int, accessFlags := 26, slot := 0, constantValue := 0 }, { name := "LO_BYTE_SHIFT", type := .int, accessFlags := 26, slot := 1, constantValue := 0 }, { name := "MAX_LENGTH", type := .int, accessFlags := 24, slot := 2, constantValue := 0 }, { name := "$assertionsDisabled", type := .boolean, accessFlags := 4120, slot := 3, constantValue := 0 }]
  methods := #[k8m0, k8m1, k8m2, k8m3]
  instanceTypes := #[]
  staticTypes := #[.int, .int, .int, .boolean]
  resolved := Array.replicate 635 none
  statics := none }

def pool9 : Array CpInfo := pool [(1, .methodref 2 3), (0, .class_ 4), (0, .nameAndType 5 6), (0, u "java/lang/Object"), (0, u "<init>"), (0, u "()V"), (0, .class_ 8), (0, u "java/lang/Record")] 13

def k9c0 : Code := { maxStack := 1, maxLocals := 1, code := jdk_30_method_1_code, exceptionTable := #[], attributes := #[] }
def k9m0 : Method := { name := "<init>", desc := "()V", sig := { parameters := [], returnType := none }, accessFlags := 4, code := some k9c0 }
/-- java/lang/Record -/
def k9 : Class := { plain "java/lang/Record" (some 0) with
  accessFlags := 1057
  interfaces := #[]
  cf := some (fileOf pool9 7 #[] #[{ accessFlags := 4, nameIndex := 5, descriptorIndex := 6, attributes := #[] }] 1057 2 #[] #[])
  fields := #[]
  methods := #[k9m0]
  instanceTypes := #[]
  staticTypes := #[]
  resolved := Array.replicate 22 none
  statics := none }

def pool10 : Array CpInfo := pool [(1, .methodref 2 3), (0, .class_ 4), (0, .nameAndType 5 6), (0, u "java/lang/Record"), (0, u "<init>"), (0, u "()V"), (0, .fieldref 8 9), (0, .class_ 10), (0, .nameAndType 11 12), (0, u "com/example/portcullis/portcullis/util/HostPort"), (0, u "host"), (0, u "Ljava/lang/String;"), (0, .fieldref 8 14), (0, .nameAndType 15 16), (0, u "port"), (0, u "I"), (31, u "()I"), (27, .methodref 8 77), (0, .nameAndType 5 78), (0, u "(Ljava/lang/String;I)V"), (21, u "withPort"), (0, u "(I)Lcom/example/portcullis/portcullis/util/HostPort;"), (1, u "()Ljava/lang/String;")] 32

def k10c0 : Code := { maxStack := 2, maxLocals := 3, code := prog_27_method_1_code, exceptionTable := #[], attributes := #[] }
def k10m0 : Method := { name := "<init>", desc := "(Ljava/lang/String;I)V", sig := { parameters := [(.object "java/lang/String"), .int], returnType := none }, accessFlags := 1, code := some k10c0 }
def k10c1 : Code := { maxStack := 4, maxLocals := 2, code := prog_27_method_3_code, exceptionTable := #[], attributes := #[] }
def k10m1 : Method := { name := "withPort", desc := "(I)Lcom/example/portcullis/portcullis/util/HostPort;", sig := { parameters := [.int], returnType := some (.object "com/example/portcullis/portcullis/util/HostPort") }, accessFlags := 1, code := some k10c1 }
def k10c2 : Code := { maxStack := 1, maxLocals := 1, code := prog_27_method_7_code, exceptionTable := #[], attributes := #[] }
def k10m2 : Method := { name := "host", desc := "()Ljava/lang/String;", sig := { parameters := [], returnType := some (.object "java/lang/String") }, accessFlags := 1, code := some k10c2 }
def k10c3 : Code := { maxStack := 1, maxLocals := 1, code := prog_27_method_8_code, exceptionTable := #[], attributes := #[] }
def k10m3 : Method := { name := "port", desc := "()I", sig := { parameters := [], returnType := some .int }, accessFlags := 1, code := some k10c3 }
/-- com/example/portcullis/portcullis/util/HostPort -/
def k10 : Class := { plain "com/example/portcullis/portcullis/util/HostPort" (some 9) with
  accessFlags := 49
  interfaces := #[]
  cf := some (fileOf pool10 8 #[] #[{ accessFlags := 1, nameIndex := 5, descriptorIndex := 78, attributes := #[] }, { accessFlags := 1, nameIndex := 100, descriptorIndex := 101, attributes := #[] }, { accessFlags := 1, nameIndex := 11, descriptorIndex := 103, attributes := #[] }, { accessFlags := 1, nameIndex := 15, descriptorIndex := 48, attributes := #[] }] 49 2 #[] #[{ accessFlags := 18, nameIndex := 11, descriptorIndex := 12, attributes := #[] }, { accessFlags := 18, nameIndex := 15, descriptorIndex := 16, attributes := #[] }])
  fields := #[{ name := "host", type := (.object "java/lang/String"), accessFlags := 18, slot := 0, constantValue := 0 }, { name := "port", type := .int, accessFlags := 18, slot := 1, constantValue := 0 }]
  methods := #[k10m0, k10m1, k10m2, k10m3]
  instanceTypes := #[(.object "java/lang/String"), .int]
  staticTypes := #[]
  resolved := Array.replicate 136 none
  statics := none }

def pool11 : Array CpInfo := pool [(4, .class_ 6), (1, u "java/lang/Object"), (0, u "<init>"), (0, u "()V"), (5, .class_ 16), (1, u "java/lang/StringLatin1"), (73, u "canEncode"), (14, u "(C)Z"), (15, u "$assertionsDisabled"), (0, u "Z"), (98, .class_ 223), (1, u "java/lang/StringLatin1$LinesSpliterator"), (156, u "toBytes"), (1, u "(C)[B"), (7, .class_ 391), (0, u "java/lang/StringLatin1$CharsSpliterator")] 3

def k11m0 : Method := { name := "<init>", desc := "()V", sig := { parameters := [], returnType := none }, accessFlags := 0, code := none }
def k11c1 : Code := { maxStack := 2, maxLocals := 1, code := jdk_43_method_3_code, exceptionTable := #[], attributes := #[] }
def k11m1 : Method := { name := "canEncode", desc := "(C)Z", sig := { parameters := [.char], returnType := some .boolean }, accessFlags := 9, code := some k11c1 }
def k11c2 : Code := { maxStack := 4, maxLocals := 1, code := jdk_43_method_46_code, exceptionTable := #[], attributes := #[] }
def k11m2 : Method := { name := "toBytes", desc := "(C)[B", sig := { parameters := [.char], returnType := some (.array .byte) }, accessFlags := 9, code := some k11c2 }
/-- java/lang/StringLatin1 -/
def k11 : Class := { plain "java/lang/StringLatin1" (some 0) with
  accessFlags := 48
  interfaces := #[]
  cf := some (fileOf pool11 14 #[.nestMembers #[390, 221]] #[{ accessFlags := 0, nameIndex := 7, descriptorIndex := 8, attributes := #[] }, { accessFlags := 9, nameIndex := 90, descriptorIndex := 105, attributes := #[] }, { accessFlags := 9, nameIndex := 380, descriptorIndex := 382, attributes := #[] }] 48 4 #[] #[{ accessFlags := 4120, nameIndex := 121, descriptorIndex := 122, attributes := #[] }])
  fields := #[{ name := "$assertionsDisabled", type := .boolean, accessFlags := 4120, slot := 0, constantValue := 0 }]
  methods := #[k11m0, k11m1, k11m2]
  instanceTypes := #[]
  staticTypes := #[.boolean]
  resolved := Array.replicate 395 none
  statics := none }

def pool12 : Array CpInfo := pool [(2, .class_ 4), (1, u "java/lang/Object"), (0, u "<init>"), (0, u "()V"), (17, .class_ 26), (1, u "jdk/internal/util/Preconditions"), (28, .class_ 56), (0, u "jdk/internal/util/Preconditions$4"), (57, .class_ 115), (0, u "jdk/internal/util/Preconditions$1"), (7, u "SIOOBE_FORMATTER"), (0, u "Ljava/util/function/BiFunction;"), (0, .class_ 126), (0, u "jdk/internal/util/Preconditions$2"), (3, u "AIOOBE_FORMATTER"), (0, .class_ 132), (0, u "jdk/internal/util/Preconditions$3"), (3, u "IOOBE_FORMATTER")] 57

def k12m0 : Method := { name := "<init>", desc := "()V", sig := { parameters := [], returnType := none }, accessFlags := 1, code := none }
/-- jdk/internal/util/Preconditions -/
def k12 : Class := { plain "jdk/internal/util/Preconditions" (some 0) with
  accessFlags := 33
  interfaces := #[]
  cf := some (fileOf pool12 24 #[.nestMembers #[55, 131, 125, 114]] #[{ accessFlags := 1, nameIndex := 5, descriptorIndex := 6, attributes := #[] }] 33 2 #[] #[{ accessFlags := 25, nameIndex := 123, descriptorIndex := 124, attributes := #[] }, { accessFlags := 25, nameIndex := 130, descriptorIndex := 124, attributes := #[] }, { accessFlags := 25, nameIndex := 136, descriptorIndex := 124, attributes := #[] }])
  fields := #[{ name := "SIOOBE_FORMATTER", type := (.object "java/util/function/BiFunction"), accessFlags := 25, slot := 0, constantValue := 0 }, { name := "AIOOBE_FORMATTER", type := (.object "java/util/function/BiFunction"), accessFlags := 25, slot := 1, constantValue := 0 }, { name := "IOOBE_FORMATTER", type := (.object "java/util/function/BiFunction"), accessFlags := 25, slot := 2, constantValue := 0 }]
  methods := #[k12m0]
  instanceTypes := #[]
  staticTypes := #[(.object "java/util/function/BiFunction"), (.object "java/util/function/BiFunction"), (.object "java/util/function/BiFunction")]
  resolved := Array.replicate 194 none
  statics := some 1 }

def pool13 : Array CpInfo := pool [(9, u "<init>"), (6, .class_ 18), (1, u "java/lang/Object"), (0, u "()V"), (1, .class_ 23), (1, u "jdk/internal/util/ArraysSupport"), (0, u "LOG2_ARRAY_LONG_INDEX_SCALE"), (0, u "I"), (2, u "U"), (0, u "Ljdk/internal/misc/Unsafe;"), (8, u "BIG_ENDIAN"), (0, u "Z"), (8, u "LOG2_BYTE_BIT_SIZE"), (4, u "LOG2_ARRAY_INT_INDEX_SCALE"), (54, u "JLA"), (0, u "Ljdk/internal/access/JavaLangAccess;"), (11, u "LOG2_ARRAY_BOOLEAN_INDEX_SCALE"), (9, u "LOG2_ARRAY_BYTE_INDEX_SCALE"), (5, u "LOG2_ARRAY_CHAR_INDEX_SCALE"), (5, u "LOG2_ARRAY_SHORT_INDEX_SCALE"), (18, u "LOG2_ARRAY_FLOAT_INDEX_SCALE"), (24, u "LOG2_ARRAY_DOUBLE_INDEX_SCALE"), (89, u "T_BOOLEAN"), (2, u "T_CHAR"), (1, u "T_FLOAT"), (1, u "T_DOUBLE"), (1, u "T_BYTE"), (1, u "T_SHORT"), (1, u "T_INT"), (1, u "T_LONG"), (1, u "SOFT_MAX_ARRAY_LENGTH")] 83

def k13m0 : Method := { name := "<init>", desc := "()V", sig := { parameters := [], returnType := none }, accessFlags := 2, code := none }
/-- jdk/internal/util/ArraysSupport -/
def k13 : Class := { plain "jdk/internal/util/ArraysSupport" (some 0) with
  accessFlags := 33
  interfaces := #[]
  cf := some (fileOf pool13 21 #[] #[{ accessFlags := 2, nameIndex := 9, descriptorIndex := 19, attributes := #[] }] 33 16 #[] #[{ accessFlags := 24, nameIndex := 28, descriptorIndex := 29, attributes := #[] }, { accessFlags := 26, nameIndex := 38, descriptorIndex := 39, attributes := #[] }, { accessFlags := 25, nameIndex := 121, descriptorIndex := 25, attributes := #[] }, { accessFlags := 25, nameIndex := 131, descriptorIndex := 25, attributes := #[] }, { accessFlags := 25, nameIndex := 137, descriptorIndex := 25, attributes := #[] }, { accessFlags := 25, nameIndex := 143, descriptorIndex := 25, attributes := #[] }, { accessFlags := 25, nameIndex := 53, descriptorIndex := 25, attributes := #[] }, { accessFlags := 25, nameIndex := 24, descriptorIndex := 25, attributes := #[] }, { accessFlags := 25, nameIndex := 162, descriptorIndex := 25, attributes := #[] }, { accessFlags := 25, nameIndex := 187, descriptorIndex := 25, attributes := #[] }, { accessFlags := 26, nameIndex := 48, descriptorIndex := 25, attributes := #[] }, { accessFlags := 25, nameIndex := 277, descriptorIndex := 25, attributes := #[] }, { accessFlags := 25, nameIndex := 280, descriptorIndex := 25, attributes := #[] }, { accessFlags := 25, nameIndex := 282, descriptorIndex := 25, attributes := #[] }, { accessFlags := 25, nameIndex := 284, descriptorIndex := 25, attributes := #[] }, { accessFlags := 25, nameIndex := 286, descriptorIndex := 25, attributes := #[] }, { accessFlags := 25, nameIndex := 288, descriptorIndex := 25, attributes := #[] }, { accessFlags := 25, nameIndex := 290, descriptorIndex := 25, attributes := #[] }, { accessFlags := 25, nameIndex := 292, descriptorIndex := 25, attributes := #[] }, { accessFlags := 26, nameIndex := 108, descriptorIndex := 109, attributes := #[] }, { accessFlags := 25, nameIndex := 294, descriptorIndex := 25, attributes := #[] }])
  fields := #[{ name := "U", type := (.object "jdk/internal/misc/Unsafe"), accessFlags := 24, slot := 0, constantValue := 0 }, { name := "BIG_ENDIAN", type := .boolean, accessFlags := 26, slot := 1, constantValue := 0 }, { name := "LOG2_ARRAY_BOOLEAN_INDEX_SCALE", type := .int, accessFlags := 25, slot := 2, constantValue := 0 }, { name := "LOG2_ARRAY_BYTE_INDEX_SCALE", type := .int, accessFlags := 25, slot := 3, constantValue := 0 }, { name := "LOG2_ARRAY_CHAR_INDEX_SCALE", type := .int, accessFlags := 25, slot := 4, constantValue := 0 }, { name := "LOG2_ARRAY_SHORT_INDEX_SCALE", type := .int, accessFlags := 25, slot := 5, constantValue := 0 }, { name := "LOG2_ARRAY_INT_INDEX_SCALE", type := .int, accessFlags := 25, slot := 6, constantValue := 0 }, { name := "LOG2_ARRAY_LONG_INDEX_SCALE", type := .int, accessFlags := 25, slot := 7, constantValue := 0 }, { name := "LOG2_ARRAY_FLOAT_INDEX_SCALE", type := .int, accessFlags := 25, slot := 8, constantValue := 0 }, { name := "LOG2_ARRAY_DOUBLE_INDEX_SCALE", type := .int, accessFlags := 25, slot := 9, constantValue := 0 }, { name := "LOG2_BYTE_BIT_SIZE", type := .int, accessFlags := 26, slot := 10, constantValue := 0 }, { name := "T_BOOLEAN", type := .int, accessFlags := 25, slot := 11, constantValue := 0 }, { name := "T_CHAR", type := .int, accessFlags := 25, slot := 12, constantValue := 0 }, { name := "T_FLOAT", type := .int, accessFlags := 25, slot := 13, constantValue := 0 }, { name := "T_DOUBLE", type := .int, accessFlags := 25, slot := 14, constantValue := 0 }, { name := "T_BYTE", type := .int, accessFlags := 25, slot := 15, constantValue := 0 }, { name := "T_SHORT", type := .int, accessFlags := 25, slot := 16, constantValue := 0 }, { name := "T_INT", type := .int, accessFlags := 25, slot := 17, constantValue := 0 }, { name := "T_LONG", type := .int, accessFlags := 25, slot := 18, constantValue := 0 }, { name := "JLA", type := (.object "jdk/internal/access/JavaLangAccess"), accessFlags := 26, slot := 19, constantValue := 0 }, { name := "SOFT_MAX_ARRAY_LENGTH", type := .int, accessFlags := 25, slot := 20, constantValue := 0 }]
  methods := #[k13m0]
  instanceTypes := #[]
  staticTypes := #[(.object "jdk/internal/misc/Unsafe"), .boolean, .int, .int, .int, .int, .int, .int, .int, .int, .int, .int, .int, .int, .int, .int, .int, .int, .int, (.object "jdk/internal/access/JavaLangAccess"), .int]
  resolved := Array.replicate 378 none
  statics := none }

def pool14 : Array CpInfo := pool [(1, u "java/lang/Cloneable"), (0, .class_ 1), (0, u "java/lang/Object"), (0, .class_ 3)] 3

/-- java/lang/Cloneable -/
def k14 : Class := { plain "java/lang/Cloneable" (some 0) with
  accessFlags := 1537
  interfaces := #[]
  cf := some (fileOf pool14 2 #[] #[] 1537 4 #[] #[])
  fields := #[]
  methods := #[]
  instanceTypes := #[]
  staticTypes := #[]
  resolved := Array.replicate 8 none
  statics := none }

/-- the primitive byte -/
def k15 : Class := { plain "byte" none with kind := .primitive 'B', accessFlags := 0x411 }
/-- [B -/
def k16 : Class := { plain "[B" (some 0) with kind := .array 15 .byte, interfaces := #[14, 2], accessFlags := 1041 }

/-- the primitive char -/
def k17 : Class := { plain "char" none with kind := .primitive 'C', accessFlags := 0x411 }
/-- [C -/
def k18 : Class := { plain "[C" (some 0) with kind := .array 17 .char, interfaces := #[14, 2], accessFlags := 1041 }

/-- the primitive int -/
def k19 : Class := { plain "int" none with kind := .primitive 'I', accessFlags := 0x411 }
/-- [I -/
def k20 : Class := { plain "[I" (some 0) with kind := .array 19 .int, interfaces := #[14, 2], accessFlags := 1041 }

def heap : Heap := #[{ cls := 7, slots := #[.long 0, .int 1, .null, .int 0, .null, .int 0, .int 0], vm := .statics 7 },
  { cls := 12, slots := #[.null, .null, .null], vm := .statics 12 }]
def classes : Array Class := #[k0, k1, k2, k3, k4, k5, k6, k7, k8, k9, k10, k11, k12, k13, k14, k15, k16, k17, k18, k19, k20]
def interned : List (Array UInt16 × Addr) := []
def slotsUsed : Nat := 10
def theMethod : MethodId := ⟨1, 2⟩
def args0 : Array Value := #[.int 5, .int 0, .int 7, .int 9]
def aboutOver (below : List Frame) : State where
  vm := { classes := classes, interned := interned.toArray }
  heap := heap
  slotsUsed := slotsUsed
  threads := #[{ frames := .invoking theMethod args0 :: below }]
def below0 : List Frame := [.native { method := ⟨0, 0⟩, args := #[] }]
def about1 : State := aboutOver below0
def p0 : Program := .bare "" "" ""
def e0 : Env := launch0.env 0 0 0
theorem w_frames : about1.frames = Frame.invoking theMethod args0 :: below0 := rfl
set_option maxRecDepth 65536 in
theorem w_args : argsFit about1.vm theMethod args0 = true := by decide +kernel
set_option maxRecDepth 65536 in
theorem w_heap : heapFits about1 = true := by decide +kernel
set_option maxRecDepth 65536 in
theorem w_runnable : about1.curStatus? = some .runnable := by decide +kernel
set_option maxRecDepth 65536 in
theorem w_alone : about1.alone = true := by decide +kernel
set_option maxRecDepth 65536 in
theorem w_named : about1.methodNamed? x = some theMethod := by decide +kernel
set_option maxRecDepth 65536 in
theorem w_hears : about1.hears theMethod below0 = true := by decide +kernel
set_option maxRecDepth 65536 in
theorem w_ripe : about1.ripe theMethod args0 below0 = true := by decide +kernel
theorem w_running : about1.status = .running := rfl
set_option maxRecDepth 65536 in
theorem w_room : about1.hasRoom e0.platform room_1 = true :=
  launch0.hasRoom_least _ room_1 (by decide +kernel) (by decide +kernel) (by decide +kernel) (by decide +kernel) (by decide +kernel) (by decide +kernel)
theorem allAtoms_all (ts : List Jvm.Cond) (a : Array Jvm.Value) (st : Jvm.State) : (allAtoms ts).before a st = ts.all (fun c => c.before a st) := by
  induction ts with
  | nil => rfl
  | cons c t ih =>
    show (Jvm.Cond.and c (allAtoms t)).before a st = _
    rw [Jvm.Cond.before_and, ih, List.all_cons]
def words1 : List Jvm.Cond := Jvm.Cond.code x code maxLocals ret :: tables_1
/-- a 'code' word, met by the world's own term for the bytes: nothing is compared byte by byte -/
theorem code_word {y : MethodName} {bytes : ByteArray} {mx : Nat} {rt : Option FieldType} {a : Array Value} {s : State} {m : MethodId} {meth : Method} {c : Code} (h1 : s.methodNamed? y = some m) (h2 : s.vm.method? m = some meth) (h3 : meth.code = some c) (h4 : c.code = bytes)
    (h5 : (c.maxLocals == mx && c.exceptionTable.isEmpty && decide (c.maxStack ≤ mostOperands) && decide (meth.sig.returnType = rt) && !meth.locks && decide (parseMethodDescriptor y.desc = some meth.sig)) = true) : (Jvm.Cond.code y bytes mx rt).before a s = true := by
  simp only [Bool.and_eq_true, beq_iff_eq, Bool.not_eq_true', decide_eq_true_eq] at h5
  obtain ⟨⟨⟨⟨⟨g1, g2⟩, g3⟩, g4⟩, g5⟩, g6⟩ := h5
  simp [Cond.before, Cond.holds, Cond.value, h1, h2, h3, h4, g1, g2, g3, g4, g5, g6]
def isCode : Jvm.Cond → Bool
  | .code _ _ _ _ => true
  | _ => false
theorem all_split {L : List Jvm.Cond} {P : Jvm.Cond → Bool} (h1 : L.all (fun c => isCode c || P c) = true) (h2 : ∀ c ∈ L.filter isCode, P c = true) : L.all P = true := by
  refine List.all_eq_true.mpr fun c hc => ?_
  have h := List.all_eq_true.mp h1 c hc
  rcases Bool.eq_false_or_eq_true (isCode c) with hi | hi
  · exact h2 c (List.mem_filter.mpr ⟨hc, hi⟩)
  · simpa [hi] using h
set_option maxRecDepth 65536 in
theorem w_c0 : (Jvm.Cond.code x code maxLocals ret).before args0 about1 = true := code_word (m := ⟨1, 2⟩) (meth := k1m2) (c := k1c2) (by decide +kernel) rfl rfl rfl (by decide +kernel)
set_option maxRecDepth 65536 in
theorem w_c1 : (Jvm.Cond.code ({ cls := "com/example/portcullis/portcullis/util/HostPortWithPortPinLaw", name := "host", desc := "(II)Ljava/lang/String;" } : Jvm.MethodName) method_2_code (7 : Nat) (Option.some (Jvm.ClassFile.FieldType.object "java/lang/String"))).before args0 about1 = true := code_word (m := ⟨1, 1⟩) (meth := k1m1) (c := k1c1) (by decide +kernel) rfl rfl rfl (by decide +kernel)
set_option maxRecDepth 65536 in
theorem w_c2 : (Jvm.Cond.code ({ cls := "java/lang/String", name := "<init>", desc := "([C)V" } : Jvm.MethodName) jdk_42_method_3_code (2 : Nat) (Option.none : Option Jvm.ClassFile.FieldType)).before args0 about1 = true := code_word (m := ⟨7, 1⟩) (meth := k7m1) (c := k7c1) (by decide +kernel) rfl rfl rfl (by decide +kernel)
set_option maxRecDepth 65536 in
theorem w_c3 : (Jvm.Cond.code ({ cls := "java/lang/String", name := "<init>", desc := "([CIILjava/lang/Void;)V" } : Jvm.MethodName) jdk_42_method_149_code (6 : Nat) (Option.none : Option Jvm.ClassFile.FieldType)).before args0 about1 = true := code_word (m := ⟨7, 4⟩) (meth := k7m4) (c := k7c4) (by decide +kernel) rfl rfl rfl (by decide +kernel)
set_option maxRecDepth 65536 in
theorem w_c4 : (Jvm.Cond.code ({ cls := "java/lang/Object", name := "<init>", desc := "()V" } : Jvm.MethodName) object_method_1_code (1 : Nat) (Option.none : Option Jvm.ClassFile.FieldType)).before args0 about1 = true := code_word (m := ⟨0, 0⟩) (meth := k0m0) (c := k0c0) (by decide +kernel) rfl rfl rfl (by decide +kernel)
set_option maxRecDepth 65536 in
theorem w_c5 : (Jvm.Cond.code ({ cls := "java/lang/StringUTF16", name := "compress", desc := "([CII)[B" } : Jvm.MethodName) jdk_52_method_16_code (6 : Nat) (Option.some (Jvm.ClassFile.FieldType.array Jvm.ClassFile.FieldType.byte))).before args0 about1 = true := code_word (m := ⟨8, 2⟩) (meth := k8m2) (c := k8c2) (by decide +kernel) rfl rfl rfl (by decide +kernel)
set_option maxRecDepth 65536 in
theorem w_c6 : (Jvm.Cond.code ({ cls := "java/lang/StringUTF16", name := "compress", desc := "([CI[BII)I" } : Jvm.MethodName) jdk_52_method_21_code (7 : Nat) (Option.some Jvm.ClassFile.FieldType.int)).before args0 about1 = true := code_word (m := ⟨8, 3⟩) (meth := k8m3) (c := k8c3) (by decide +kernel) rfl rfl rfl (by decide +kernel)
set_option maxRecDepth 65536 in
theorem w_c7 : (Jvm.Cond.code ({ cls := "java/lang/StringUTF16", name := "coderFromArrayLen", desc := "([BI)B" } : Jvm.MethodName) jdk_52_method_15_code (2 : Nat) (Option.some Jvm.ClassFile.FieldType.byte)).before args0 about1 = true := code_word (m := ⟨8, 1⟩) (meth := k8m1) (c := k8c1) (by decide +kernel) rfl rfl rfl (by decide +kernel)
set_option maxRecDepth 65536 in
theorem w_c8 : (Jvm.Cond.code ({ cls := "com/example/portcullis/portcullis/util/HostPort", name := "<init>", desc := "(Ljava/lang/String;I)V" } : Jvm.MethodName) prog_27_method_1_code (3 : Nat) (Option.none : Option Jvm.ClassFile.FieldType)).before args0 about1 = true := code_word (m := ⟨10, 0⟩) (meth := k10m0) (c := k10c0) (by decide +kernel) rfl rfl rfl (by decide +kernel)
set_option maxRecDepth 65536 in
theorem w_c9 : (Jvm.Cond.code ({ cls := "java/lang/Record", name := "<init>", desc := "()V" } : Jvm.MethodName) jdk_30_method_1_code (1 : Nat) (Option.none : Option Jvm.ClassFile.FieldType)).before args0 about1 = true := code_word (m := ⟨9, 0⟩) (meth := k9m0) (c := k9c0) (by decide +kernel) rfl rfl rfl (by decide +kernel)
set_option maxRecDepth 65536 in
theorem w_c10 : (Jvm.Cond.code ({ cls := "com/example/portcullis/portcullis/util/HostPort", name := "withPort", desc := "(I)Lcom/example/portcullis/portcullis/util/HostPort;" } : Jvm.MethodName) prog_27_method_3_code (2 : Nat) (Option.some (Jvm.ClassFile.FieldType.object "com/example/portcullis/portcullis/util/HostPort"))).before args0 about1 = true := code_word (m := ⟨10, 1⟩) (meth := k10m1) (c := k10c1) (by decide +kernel) rfl rfl rfl (by decide +kernel)
set_option maxRecDepth 65536 in
theorem w_c11 : (Jvm.Cond.code ({ cls := "com/example/portcullis/portcullis/util/HostPort", name := "host", desc := "()Ljava/lang/String;" } : Jvm.MethodName) prog_27_method_7_code (1 : Nat) (Option.some (Jvm.ClassFile.FieldType.object "java/lang/String"))).before args0 about1 = true := code_word (m := ⟨10, 2⟩) (meth := k10m2) (c := k10c2) (by decide +kernel) rfl rfl rfl (by decide +kernel)
set_option maxRecDepth 65536 in
theorem w_c12 : (Jvm.Cond.code ({ cls := "java/lang/String", name := "equals", desc := "(Ljava/lang/Object;)Z" } : Jvm.MethodName) jdk_42_method_66_code (3 : Nat) (Option.some Jvm.ClassFile.FieldType.boolean)).before args0 about1 = true := code_word (m := ⟨7, 2⟩) (meth := k7m2) (c := k7c2) (by decide +kernel) rfl rfl rfl (by decide +kernel)
set_option maxRecDepth 65536 in
theorem w_c13 : (Jvm.Cond.code ({ cls := "com/example/portcullis/portcullis/util/HostPort", name := "port", desc := "()I" } : Jvm.MethodName) prog_27_method_8_code (1 : Nat) (Option.some Jvm.ClassFile.FieldType.int)).before args0 about1 = true := code_word (m := ⟨10, 3⟩) (meth := k10m3) (c := k10c3) (by decide +kernel) rfl rfl rfl (by decide +kernel)
set_option maxRecDepth 65536 in
theorem w_c14 : (Jvm.Cond.code ({ cls := "java/lang/String", name := "valueOf", desc := "(C)Ljava/lang/String;" } : Jvm.MethodName) jdk_42_method_139_code (1 : Nat) (Option.some (Jvm.ClassFile.FieldType.object "java/lang/String"))).before args0 about1 = true := code_word (m := ⟨7, 3⟩) (meth := k7m3) (c := k7c3) (by decide +kernel) rfl rfl rfl (by decide +kernel)
set_option maxRecDepth 65536 in
theorem w_c15 : (Jvm.Cond.code ({ cls := "java/lang/StringLatin1", name := "canEncode", desc := "(C)Z" } : Jvm.MethodName) jdk_43_method_3_code (1 : Nat) (Option.some Jvm.ClassFile.FieldType.boolean)).before args0 about1 = true := code_word (m := ⟨11, 1⟩) (meth := k11m1) (c := k11c1) (by decide +kernel) rfl rfl rfl (by decide +kernel)
set_option maxRecDepth 65536 in
theorem w_c16 : (Jvm.Cond.code ({ cls := "java/lang/StringLatin1", name := "toBytes", desc := "(C)[B" } : Jvm.MethodName) jdk_43_method_46_code (1 : Nat) (Option.some (Jvm.ClassFile.FieldType.array Jvm.ClassFile.FieldType.byte))).before args0 about1 = true := code_word (m := ⟨11, 2⟩) (meth := k11m2) (c := k11c2) (by decide +kernel) rfl rfl rfl (by decide +kernel)
set_option maxRecDepth 65536 in
theorem w_c17 : (Jvm.Cond.code ({ cls := "java/lang/String", name := "<init>", desc := "([BB)V" } : Jvm.MethodName) jdk_42_method_151_code (3 : Nat) (Option.none : Option Jvm.ClassFile.FieldType)).before args0 about1 = true := code_word (m := ⟨7, 5⟩) (meth := k7m5) (c := k7c5) (by decide +kernel) rfl rfl rfl (by decide +kernel)
def codes1 : List Jvm.Cond := [Jvm.Cond.code x code maxLocals ret, Jvm.Cond.code ({ cls := "com/example/portcullis/portcullis/util/HostPortWithPortPinLaw", name := "host", desc := "(II)Ljava/lang/String;" } : Jvm.MethodName) method_2_code (7 : Nat) (Option.some (Jvm.ClassFile.FieldType.object "java/lang/String")), Jvm.Cond.code ({ cls := "java/lang/String", name := "<init>", desc := "([C)V" } : Jvm.MethodName) jdk_42_method_3_code (2 : Nat) (Option.none : Option Jvm.ClassFile.FieldType), Jvm.Cond.code ({ cls := "java/lang/String", name := "<init>", desc := "([CIILjava/lang/Void;)V" } : Jvm.MethodName) jdk_42_method_149_code (6 : Nat) (Option.none : Option Jvm.ClassFile.FieldType), Jvm.Cond.code ({ cls := "java/lang/Object", name := "<init>", desc := "()V" } : Jvm.MethodName) object_method_1_code (1 : Nat) (Option.none : Option Jvm.ClassFile.FieldType), Jvm.Cond.code ({ cls := "java/lang/StringUTF16", name := "compress", desc := "([CII)[B" } : Jvm.MethodName) jdk_52_method_16_code (6 : Nat) (Option.some (Jvm.ClassFile.FieldType.array Jvm.ClassFile.FieldType.byte)), Jvm.Cond.code ({ cls := "java/lang/StringUTF16", name := "compress", desc := "([CI[BII)I" } : Jvm.MethodName) jdk_52_method_21_code (7 : Nat) (Option.some Jvm.ClassFile.FieldType.int), Jvm.Cond.code ({ cls := "java/lang/StringUTF16", name := "coderFromArrayLen", desc := "([BI)B" } : Jvm.MethodName) jdk_52_method_15_code (2 : Nat) (Option.some Jvm.ClassFile.FieldType.byte), Jvm.Cond.code ({ cls := "com/example/portcullis/portcullis/util/HostPort", name := "<init>", desc := "(Ljava/lang/String;I)V" } : Jvm.MethodName) prog_27_method_1_code (3 : Nat) (Option.none : Option Jvm.ClassFile.FieldType), Jvm.Cond.code ({ cls := "java/lang/Record", name := "<init>", desc := "()V" } : Jvm.MethodName) jdk_30_method_1_code (1 : Nat) (Option.none : Option Jvm.ClassFile.FieldType), Jvm.Cond.code ({ cls := "com/example/portcullis/portcullis/util/HostPort", name := "withPort", desc := "(I)Lcom/example/portcullis/portcullis/util/HostPort;" } : Jvm.MethodName) prog_27_method_3_code (2 : Nat) (Option.some (Jvm.ClassFile.FieldType.object "com/example/portcullis/portcullis/util/HostPort")), Jvm.Cond.code ({ cls := "com/example/portcullis/portcullis/util/HostPort", name := "host", desc := "()Ljava/lang/String;" } : Jvm.MethodName) prog_27_method_7_code (1 : Nat) (Option.some (Jvm.ClassFile.FieldType.object "java/lang/String")), Jvm.Cond.code ({ cls := "java/lang/String", name := "equals", desc := "(Ljava/lang/Object;)Z" } : Jvm.MethodName) jdk_42_method_66_code (3 : Nat) (Option.some Jvm.ClassFile.FieldType.boolean), Jvm.Cond.code ({ cls := "com/example/portcullis/portcullis/util/HostPort", name := "port", desc := "()I" } : Jvm.MethodName) prog_27_method_8_code (1 : Nat) (Option.some Jvm.ClassFile.FieldType.int), Jvm.Cond.code ({ cls := "java/lang/String", name := "valueOf", desc := "(C)Ljava/lang/String;" } : Jvm.MethodName) jdk_42_method_139_code (1 : Nat) (Option.some (Jvm.ClassFile.FieldType.object "java/lang/String")), Jvm.Cond.code ({ cls := "java/lang/StringLatin1", name := "canEncode", desc := "(C)Z" } : Jvm.MethodName) jdk_43_method_3_code (1 : Nat) (Option.some Jvm.ClassFile.FieldType.boolean), Jvm.Cond.code ({ cls := "java/lang/StringLatin1", name := "toBytes", desc := "(C)[B" } : Jvm.MethodName) jdk_43_method_46_code (1 : Nat) (Option.some (Jvm.ClassFile.FieldType.array Jvm.ClassFile.FieldType.byte)), Jvm.Cond.code ({ cls := "java/lang/String", name := "<init>", desc := "([BB)V" } : Jvm.MethodName) jdk_42_method_151_code (3 : Nat) (Option.none : Option Jvm.ClassFile.FieldType)]
set_option maxRecDepth 65536 in
theorem codes_eq : words1.filter isCode = codes1 := rfl
theorem w_codes : ∀ c ∈ words1.filter isCode, c.before args0 about1 = true := by
  rw [codes_eq]
  intro c hc
  simp only [codes1, List.mem_cons, List.not_mem_nil, or_false] at hc
  rcases hc with rfl | rfl | rfl | rfl | rfl | rfl | rfl | rfl | rfl | rfl | rfl | rfl | rfl | rfl | rfl | rfl | rfl | rfl
  · exact w_c0
  · exact w_c1
  · exact w_c2
  · exact w_c3
  · exact w_c4
  · exact w_c5
  · exact w_c6
  · exact w_c7
  · exact w_c8
  · exact w_c9
  · exact w_c10
  · exact w_c11
  · exact w_c12
  · exact w_c13
  · exact w_c14
  · exact w_c15
  · exact w_c16
  · exact w_c17
set_option maxRecDepth 65536 in
theorem w_t1 : (words1.take 24).all (fun c => isCode c || c.before args0 about1) = true := by decide +kernel
set_option maxRecDepth 65536 in
theorem w_t2 : ((words1.drop 24).take 24).all (fun c => isCode c || c.before args0 about1) = true := by decide +kernel
set_option maxRecDepth 65536 in
theorem w_t3 : (((words1.drop 24).drop 24).take 24).all (fun c => isCode c || c.before args0 about1) = true := by decide +kernel
set_option maxRecDepth 65536 in
theorem w_t4 : (((words1.drop 24).drop 24).drop 24).all (fun c => isCode c || c.before args0 about1) = true := by decide +kernel
theorem w_tables : (allAtoms (Jvm.Cond.code x code maxLocals ret :: tables_1)).before args0 about1 = true := by
  rw [allAtoms_all]
  show words1.all (fun c => c.before args0 about1) = true
  refine all_split ?_ w_codes
  rw [← List.take_append_drop 24 words1, List.all_append, w_t1, ← List.take_append_drop 24 (words1.drop 24), List.all_append, w_t2, ← List.take_append_drop 24 ((words1.drop 24).drop 24), List.all_append, w_t3, w_t4]
  rfl
set_option maxRecDepth 65536 in
theorem w_rest : rest_1_c.before args0 about1 = true := by decide +kernel
set_option maxRecDepth 65536 in
theorem w_case : (Jvm.Cond.and given_1 narrow_1).before args0 about1 = true := by decide +kernel
set_option maxRecDepth 65536 in
theorem w_consts : constsHeld consts_1 about1 := Jvm.Lit.constsHeldB_iff.mp (by decide +kernel)
theorem w_applies : (headSpec (Jvm.Cond.code x code maxLocals ret :: tables_1) room_1).applies x e0.platform about1 = true :=
  (Spec.applies_iff w_frames).mpr ⟨w_running, w_runnable, w_alone, w_named, w_hears, w_ripe, w_room, w_tables⟩
theorem atStart : AtStart classFile x code maxLocals ret World_1 tables_1 room_1 Calls_1 rest_1 Pre_1 launch0 p0 e0 about1 theMethod args0 below0 :=
  ⟨lists_1, trivial, launch0.admits_env _ _ _, launch0.least_env, fairChoices_fair.cas, fairChoices_fair.clock, w_frames, w_args, w_heap, w_applies, ⟨w_consts, trivial⟩, w_rest, w_case⟩
end start1
theorem witness_1 : WitnessClaimed_1 := ⟨start1.p0, start1.e0, start1.about1, start1.theMethod, start1.args0, start1.below0, start1.atStart⟩
end Jvm.Pilot.@@N@@
