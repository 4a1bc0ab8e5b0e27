import JvmDerived
import JvmDerived.Pilot.@@N@@Statement
import JvmDerived.Pilot.@@N@@Code
set_option linter.unusedVariables false
set_option linter.unusedSimpArgs false
namespace Jvm.RoadKit
theorem own_add32 {a b : Int32} (h1 : -2147483648 ≤ a.toInt + b.toInt) (h2 : a.toInt + b.toInt < 2147483648) : (a + b).toInt = a.toInt + b.toInt := by
  rw [Int32.toInt_add]; exact Int.bmod_eq_of_le (by omega) (by omega)
theorem own_sub32 {a b : Int32} (h1 : -2147483648 ≤ a.toInt - b.toInt) (h2 : a.toInt - b.toInt < 2147483648) : (a - b).toInt = a.toInt - b.toInt := by
  rw [Int32.toInt_sub]; exact Int.bmod_eq_of_le (by omega) (by omega)
theorem own_mul32 {a b : Int32} (h1 : -2147483648 ≤ a.toInt * b.toInt) (h2 : a.toInt * b.toInt < 2147483648) : (a * b).toInt = a.toInt * b.toInt := by
  rw [Int32.toInt_mul]; exact Int.bmod_eq_of_le (by omega) (by omega)
theorem own_add64 {a b : Int64} (h1 : -9223372036854775808 ≤ a.toInt + b.toInt) (h2 : a.toInt + b.toInt < 9223372036854775808) : (a + b).toInt = a.toInt + b.toInt := by
  rw [Int64.toInt_add]; exact Int.bmod_eq_of_le (by omega) (by omega)
theorem own_sub64 {a b : Int64} (h1 : -9223372036854775808 ≤ a.toInt - b.toInt) (h2 : a.toInt - b.toInt < 9223372036854775808) : (a - b).toInt = a.toInt - b.toInt := by
  rw [Int64.toInt_sub]; exact Int.bmod_eq_of_le (by omega) (by omega)
theorem own_mul64 {a b : Int64} (h1 : -9223372036854775808 ≤ a.toInt * b.toInt) (h2 : a.toInt * b.toInt < 9223372036854775808) : (a * b).toInt = a.toInt * b.toInt := by
  rw [Int64.toInt_mul]; exact Int.bmod_eq_of_le (by omega) (by omega)
/-- a mask that isn't negative -/
theorem own_mask32 (x k : Int32) (hk : 0 ≤ k.toInt) : 0 ≤ (x &&& k).toInt ∧ (x &&& k).toInt ≤ k.toInt := by
  have hk' : k.toBitVec.toNat < 2 ^ 31 := by
    have := k.toBitVec.isLt
    have e : k.toInt = k.toBitVec.toInt := rfl
    rw [e, BitVec.toInt_eq_toNat_cond] at hk
    split at hk <;> omega
  have h1 : (x &&& k).toInt = (x.toBitVec &&& k.toBitVec).toInt := rfl
  have h2 : (x.toBitVec &&& k.toBitVec).toNat ≤ k.toBitVec.toNat := by rw [BitVec.toNat_and]; exact Nat.and_le_right
  have e : k.toInt = k.toBitVec.toInt := rfl
  rw [h1, e, BitVec.toInt_eq_toNat_of_lt (by omega), BitVec.toInt_eq_toNat_of_lt (by omega)]; omega
theorem own_mask64 (x k : Int64) (hk : 0 ≤ k.toInt) : 0 ≤ (x &&& k).toInt ∧ (x &&& k).toInt ≤ k.toInt := by
  have hk' : k.toBitVec.toNat < 2 ^ 63 := by
    have := k.toBitVec.isLt
    have e : k.toInt = k.toBitVec.toInt := rfl
    rw [e, BitVec.toInt_eq_toNat_cond] at hk
    split at hk <;> omega
  have h1 : (x &&& k).toInt = (x.toBitVec &&& k.toBitVec).toInt := rfl
  have h2 : (x.toBitVec &&& k.toBitVec).toNat ≤ k.toBitVec.toNat := by rw [BitVec.toNat_and]; exact Nat.and_le_right
  have e : k.toInt = k.toBitVec.toInt := rfl
  rw [h1, e, BitVec.toInt_eq_toNat_of_lt (by omega), BitVec.toInt_eq_toNat_of_lt (by omega)]; omega
end Jvm.RoadKit
namespace Jvm.RoadKit
open Sem ClassFile Op Lib Jvm.Stand Jvm.Free Jvm.LawKit
section Own
variable {p : Program} {l : Launch} {e : Env} {R : Room} {s : State} {m : MethodId} {args : Array Value} {below : List Frame} {meth : Method} {c : Code} {T : State} {locs : List Loc} {cells slots : Nat} {Z : State} {h h' : Heap} {a b : Addr} {ty : FieldType} {n : Nat} {f f' : Nat → Value} {sl : Nat} {v : Value} {ws : List Addr}
/-- an array of n places, place i holds f i -/
def ArF (Z : State) (h : Heap) (a : Addr) (ty : FieldType) (n : Nat) (f : Nat → Value) : Prop := ∃ c : Cell, Arr Z h a c ty ∧ c.slots.size = n ∧ n < 2 ^ 31 ∧ ∀ i, i < n → c.slots[i]? = some (f i)
theorem ArF.lt (F : ArF Z h a ty n f) : a < h.size := by obtain ⟨c, A, -⟩ := F; exact A.lt
theorem ArF.ext (F : ArF Z h a ty n f) (E : Ext h h') : ArF Z h' a ty n f := by obtain ⟨c, A, r⟩ := F; exact ⟨c, A.ext E, r⟩
theorem ArF.other (F : ArF Z h a ty n f) (W : Wr h h' b sl v) (q : a ≠ b) : ArF Z h' a ty n f := by obtain ⟨c, A, r⟩ := F; exact ⟨c, A.other W q, r⟩
theorem ArF.keep (F : ArF Z h a ty n f) (K : Keep h h' ws) (q : a ∉ ws) : ArF Z h' a ty n f := by obtain ⟨c, A, r⟩ := F; exact ⟨c, ⟨K.2.1 a c A.1 q, A.2⟩, r⟩
theorem ArF.congr (F : ArF Z h a ty n f) (q : ∀ i, i < n → f i = f' i) : ArF Z h a ty n f' := by obtain ⟨c, A, r1, r2, r3⟩ := F; exact ⟨c, A, r1, r2, fun i hi => by rw [← q i hi]; exact r3 i hi⟩
theorem ArF.new {k : ClassId} {z : Int32} {dv : Value} (A : Arr Z h a (newA k ty z) ty) (q : ¬ z < 0) (hn : z.toNatClampNeg = n) (hdv : defaultValue ty = dv := by rfl) : ArF Z h a ty n (fun _ => dv) := by
  subst hn hdv
  refine ⟨_, A, sz_new _ _ _, (back32 q).2, fun i hi => ?_⟩
  simp [newA, hi]
theorem own_clamp {j : Int32} {i : Nat} (hj : j.toInt = (i : Int)) : j.toNatClampNeg = i := by
  show j.toInt.toNat = i
  rw [hj]; rfl
theorem own_inb {c : Cell} {j : Int32} {i : Nat} (S : c.slots.size = n) (hj : j.toInt = (i : Int)) (hi : i < n) : ¬ (j < 0 ∨ c.slots.size ≤ j.toNatClampNeg) := by
  rw [own_clamp hj, S]
  rintro (q | q)
  · rw [Int32.lt_iff_toInt_lt, hj] at q
    have : (0 : Int32).toInt = 0 := by decide
    omega
  · omega
theorem ArF.setW {i : Nat} {c : Cell} (A : Arr Z h a c ty) (S : c.slots.size = n) (q3 : n < 2 ^ 31) (H : ∀ k, k < n → c.slots[k]? = some (f k)) (W : Wr h h' a i v) : ArF Z h' a ty n (fun q => if q = i then v else f q) := by
  refine ⟨_, A.same W, by rw [sz_set, S], q3, fun k hk => ?_⟩
  by_cases e : k = i
  · subst e; simp [Cell.setSlot, S, hk]
  · simp only [if_neg e, Cell.setSlot]
    rw [Array.getElem?_setIfInBounds_ne (Ne.symm e)]; exact H k hk
theorem ArF.stI (X : Stand p l e R s m args below meth c T locs cells slots) (hx : p.tables.exec = Jvm.exec) (hZ : Z.Warmed39 s.vm) (eT : T.heap = h) (F : ArF Z h a .int n f) {j x : Int32} {i : Nat} (hj : j.toInt = (i : Int)) (hi : i < n) {g : JFrame} (hg : g.method = m) {rest : List Value} (hs : g.stack = .int x :: .int j :: .ref a :: rest) (hd : decode c.code g.pc = .ok (.iastore, 1)) :
    ∃ T' h', Stand p l e R s m args below meth c T' (locs ++ [⟨a, i⟩]) cells slots ∧ T'.heap = h' ∧ Wr h h' a i (.int x) ∧ ArF Z h' a .int n (fun q => if q = i then .int x else f q) ∧ ∀ target, Steps p.tables e below (T'.setTop { g with pc := g.pc + 1, stack := rest }) target → Steps p.tables e below (T.setTop g) target := by
  obtain ⟨c, A, S, q3, H⟩ := F
  obtain ⟨T', h', X', e', W, st⟩ := Jvm.RoadKit.stI X hx hZ eT A (own_inb S hj hi) hg hs hd
  rw [own_clamp hj] at X' W
  exact ⟨T', h', X', e', W, ArF.setW A S q3 H W, st⟩
theorem ArF.stJ (X : Stand p l e R s m args below meth c T locs cells slots) (hx : p.tables.exec = Jvm.exec) (hZ : Z.Warmed39 s.vm) (eT : T.heap = h) (F : ArF Z h a .long n f) {j : Int32} {x : Int64} {i : Nat} (hj : j.toInt = (i : Int)) (hi : i < n) {g : JFrame} (hg : g.method = m) {rest : List Value} (hs : g.stack = .long x :: .int j :: .ref a :: rest) (hd : decode c.code g.pc = .ok (.lastore, 1)) :
    ∃ T' h', Stand p l e R s m args below meth c T' (locs ++ [⟨a, i⟩]) cells slots ∧ T'.heap = h' ∧ Wr h h' a i (.long x) ∧ ArF Z h' a .long n (fun q => if q = i then .long x else f q) ∧ ∀ target, Steps p.tables e below (T'.setTop { g with pc := g.pc + 1, stack := rest }) target → Steps p.tables e below (T.setTop g) target := by
  obtain ⟨c, A, S, q3, H⟩ := F
  obtain ⟨T', h', X', e', W, st⟩ := Jvm.RoadKit.stJ X hx hZ eT A (own_inb S hj hi) hg hs hd
  rw [own_clamp hj] at X' W
  exact ⟨T', h', X', e', W, ArF.setW A S q3 H W, st⟩
theorem ArF.stB (X : Stand p l e R s m args below meth c T locs cells slots) (hx : p.tables.exec = Jvm.exec) (hZ : Z.Warmed39 s.vm) (eT : T.heap = h) (F : ArF Z h a .byte n f) {j x : Int32} {i : Nat} (hj : j.toInt = (i : Int)) (hi : i < n) {g : JFrame} (hg : g.method = m) {rest : List Value} (hs : g.stack = .int x :: .int j :: .ref a :: rest) (hd : decode c.code g.pc = .ok (.bastore, 1)) :
    ∃ T' h', Stand p l e R s m args below meth c T' (locs ++ [⟨a, i⟩]) cells slots ∧ T'.heap = h' ∧ Wr h h' a i (.int (nar .byte x)) ∧ ArF Z h' a .byte n (fun q => if q = i then .int (nar .byte x) else f q) ∧ ∀ target, Steps p.tables e below (T'.setTop { g with pc := g.pc + 1, stack := rest }) target → Steps p.tables e below (T.setTop g) target := by
  obtain ⟨c, A, S, q3, H⟩ := F
  obtain ⟨T', h', X', e', W, st⟩ := Jvm.RoadKit.stB X hx hZ eT A (own_inb S hj hi) hg hs hd
  rw [own_clamp hj] at X' W
  exact ⟨T', h', X', e', W, ArF.setW A S q3 H W, st⟩
theorem ArF.stC (X : Stand p l e R s m args below meth c T locs cells slots) (hx : p.tables.exec = Jvm.exec) (hZ : Z.Warmed39 s.vm) (eT : T.heap = h) (F : ArF Z h a .char n f) {j x : Int32} {i : Nat} (hj : j.toInt = (i : Int)) (hi : i < n) {g : JFrame} (hg : g.method = m) {rest : List Value} (hs : g.stack = .int x :: .int j :: .ref a :: rest) (hd : decode c.code g.pc = .ok (.castore, 1)) :
    ∃ T' h', Stand p l e R s m args below meth c T' (locs ++ [⟨a, i⟩]) cells slots ∧ T'.heap = h' ∧ Wr h h' a i (.int (nar .char x)) ∧ ArF Z h' a .char n (fun q => if q = i then .int (nar .char x) else f q) ∧ ∀ target, Steps p.tables e below (T'.setTop { g with pc := g.pc + 1, stack := rest }) target → Steps p.tables e below (T.setTop g) target := by
  obtain ⟨c, A, S, q3, H⟩ := F
  obtain ⟨T', h', X', e', W, st⟩ := Jvm.RoadKit.stC X hx hZ eT A (own_inb S hj hi) hg hs hd
  rw [own_clamp hj] at X' W
  exact ⟨T', h', X', e', W, ArF.setW A S q3 H W, st⟩
theorem ArF.ldI (X : Stand p l e R s m args below meth c T locs cells slots) (hx : p.tables.exec = Jvm.exec) (hZ : Z.Warmed39 s.vm) (eT : T.heap = h) (F : ArF Z h a .int n f) {j : Int32} {i : Nat} (hj : j.toInt = (i : Int)) (hi : i < n) {v : Int32} (hv : f i = .int v) {g : JFrame} (hg : g.method = m) {rest : List Value} (hs : g.stack = .int j :: .ref a :: rest) (hd : decode c.code g.pc = .ok (.iaload, 1)) :
    ∀ target, Steps p.tables e below (T.setTop { g with pc := g.pc + 1, stack := .int v :: rest }) target → Steps p.tables e below (T.setTop g) target := by
  obtain ⟨c, A, S, q3, H⟩ := F
  exact X.iaload hx (by rw [eT]; exact A.1) (State.isArrayOf_alike hZ.alike A.2.1) A.2.2 (own_inb S hj hi) (by rw [own_clamp hj, ← hv]; exact H i hi) hg hs hd
theorem ArF.ldJ (X : Stand p l e R s m args below meth c T locs cells slots) (hx : p.tables.exec = Jvm.exec) (hZ : Z.Warmed39 s.vm) (eT : T.heap = h) (F : ArF Z h a .long n f) {j : Int32} {i : Nat} (hj : j.toInt = (i : Int)) (hi : i < n) {v : Int64} (hv : f i = .long v) {g : JFrame} (hg : g.method = m) {rest : List Value} (hs : g.stack = .int j :: .ref a :: rest) (hd : decode c.code g.pc = .ok (.laload, 1)) :
    ∀ target, Steps p.tables e below (T.setTop { g with pc := g.pc + 1, stack := .long v :: rest }) target → Steps p.tables e below (T.setTop g) target := by
  obtain ⟨c, A, S, q3, H⟩ := F
  exact X.laload hx (by rw [eT]; exact A.1) (State.isArrayOf_alike hZ.alike A.2.1) A.2.2 (own_inb S hj hi) (by rw [own_clamp hj, ← hv]; exact H i hi) hg hs hd
theorem ArF.ldB (X : Stand p l e R s m args below meth c T locs cells slots) (hx : p.tables.exec = Jvm.exec) (hZ : Z.Warmed39 s.vm) (eT : T.heap = h) (F : ArF Z h a .byte n f) {j : Int32} {i : Nat} (hj : j.toInt = (i : Int)) (hi : i < n) {v : Int32} (hv : f i = .int v) {g : JFrame} (hg : g.method = m) {rest : List Value} (hs : g.stack = .int j :: .ref a :: rest) (hd : decode c.code g.pc = .ok (.baload, 1)) :
    ∀ target, Steps p.tables e below (T.setTop { g with pc := g.pc + 1, stack := .int v :: rest }) target → Steps p.tables e below (T.setTop g) target := by
  obtain ⟨c, A, S, q3, H⟩ := F
  exact X.baloadBytes hx (by rw [eT]; exact A.1) (State.isArrayOf_alike hZ.alike A.2.1) A.2.2 (own_inb S hj hi) (by rw [own_clamp hj, ← hv]; exact H i hi) hg hs hd
theorem ArF.ldC (X : Stand p l e R s m args below meth c T locs cells slots) (hx : p.tables.exec = Jvm.exec) (hZ : Z.Warmed39 s.vm) (eT : T.heap = h) (F : ArF Z h a .char n f) {j : Int32} {i : Nat} (hj : j.toInt = (i : Int)) (hi : i < n) {v : Int32} (hv : f i = .int v) {g : JFrame} (hg : g.method = m) {rest : List Value} (hs : g.stack = .int j :: .ref a :: rest) (hd : decode c.code g.pc = .ok (.caload, 1)) :
    ∀ target, Steps p.tables e below (T.setTop { g with pc := g.pc + 1, stack := .int v :: rest }) target → Steps p.tables e below (T.setTop g) target := by
  obtain ⟨c, A, S, q3, H⟩ := F
  exact X.caload hx (by rw [eT]; exact A.1) (State.isArrayOf_alike hZ.alike A.2.1) A.2.2 (own_inb S hj hi) (by rw [own_clamp hj, ← hv]; exact H i hi) hg hs hd
theorem ArF.len (X : Stand p l e R s m args below meth c T locs cells slots) (hx : p.tables.exec = Jvm.exec) (hZ : Z.Warmed39 s.vm) (eT : T.heap = h) (F : ArF Z h a ty n f) {g : JFrame} (hg : g.method = m) {rest : List Value} (hs : g.stack = .ref a :: rest) (hd : decode c.code g.pc = .ok (.arraylength, 1)) :
    ∀ target, Steps p.tables e below (T.setTop { g with pc := g.pc + 1, stack := .int (Int32.ofNat n) :: rest }) target → Steps p.tables e below (T.setTop g) target := by
  obtain ⟨c, A, S, q3, H⟩ := F
  have q := X.arraylength hx (by rw [eT]; exact A.1) (State.isArrayOf_alike hZ.alike A.2.1) hg hs hd
  rw [S] at q
  exact q
theorem own_more (X : Stand p l e R s m args below meth c T locs cells slots) {k n : Nat} (h1 : cells ≤ k) (h2 : slots ≤ n) : Stand p l e R s m args below meth c T locs k n :=
  { X with same := X.same.mono h1 h2 }
theorem own_selP {Z s : State} {a0 args : Array Value} {y : MethodName} {k : Nat} (hZ : Z.Warmed39 s.vm) (wi : (Cond.instantiable y.cls k).before a0 Z = true) (wp : (Cond.privateMethod y).before a0 Z = true) (wm : (Cond.instanceMethod y).before a0 Z = true) (hy : y.cls ≠ "java/lang/invoke/MethodHandle" ∧ y.cls ≠ "java/lang/invoke/VarHandle") : (Cond.selects y.cls y y).before args s = true := by
  have wi' : (Cond.instantiable y.cls k).before args s = true := mvT hZ wi
  obtain ⟨c, q, h1, h2, -, h4, -⟩ := Cond.instantiable_spec wi'
  simp only [Bool.or_eq_false_iff] at h4
  exact Jvm.Stand.selects_self_of_private h1 h2 h4.1 (Cond.privateMethod_at (mvP hZ wp (args := args))) (mvT hZ wm) hy
end Own
end Jvm.RoadKit
namespace Jvm.RoadKit
open Sem ClassFile Op Lib Jvm.Stand Jvm.Free Jvm.LawKit
/-- a constructor whose pool entry has been resolved (a 'methodRef' word in place of 'methodLink'), by its contract -/
theorem own_specialR {p : Program} {l : Launch} {e : Env} {R : Room} {s : State} {m : MethodId} {args : Array Value} {below : List Frame} {meth : Method} {c : Code} {T : State} {locs : List Loc} {cells slots : Nat} {Z : State} {a0 : Array Value}
    (X : Stand p l e R s m args below meth c T locs cells slots) (hexec : p.tables.exec = Jvm.exec) (hZ : Z.Warmed39 s.vm) {own : String} {index : Nat} {y : MethodName} (hy1 : y.name = "<init>")
    (hown : s.vm.findClass own = some m.cls) (wr : (Cond.methodRef own index y).before a0 Z = true) (wi : (Cond.instanceMethod y).before a0 Z = true)
    {bytes : ByteArray} {maxL : Nat} (wc : (Cond.code y bytes maxL none).before a0 Z = true) (hy : y.cls ≠ "java/lang/invoke/MethodHandle" ∧ y.cls ≠ "java/lang/invoke/VarHandle")
    {W : Nat} {Pre : Pt → Array Value → Prop} {Post : Pt → Array Value → Option Value → Pt → Prop} (hK : Back l R p e below s args y 3 W Pre Post)
    {g : JFrame} (hg : g.method = m) (hsize : g.locals.size = c.maxLocals) {a : Addr} {argsL rest : List Value}
    (hlen : ∀ sig, parseMethodDescriptor y.desc = some sig → argsL.length = sig.parameters.length) (hstack : g.stack = argsL.reverse ++ .ref a :: rest) (hW : 2 * g.monitorRoom + (rest.map fun v => v.category).sum ≤ W)
    (hdg : decode c.code g.pc = .ok (.invokespecial index, 3)) (hpre : ∀ vm₁, s.WarmedH vm₁ → Pre ⟨T.setVm vm₁, locs, cells, slots⟩ (.ref a :: argsL).toArray) :
    ∃ (v : Option Value) (vm₁ : Vm) (B : Pt), s.WarmedH vm₁ ∧ Stand p l e R s m args below meth c B.U B.locs B.cells B.slots ∧ Post ⟨T.setVm vm₁, locs, cells, slots⟩ (.ref a :: argsL).toArray v B ∧
      Steps p.tables e below (T.setTop g) (B.U.setTop { g with pc := g.pc + 3, stack := v.toList ++ rest }) := by
  have hU : Z.Warmed39 T.vm := wtrans hZ X.warmed
  have wi' : (Cond.instanceMethod y).before args s = true := mvT hZ wi
  have wc' : (Cond.code y bytes maxL none).before args s = true := mvT hZ wc
  obtain ⟨obj, methO, hnO, hmO, hstO, habO⟩ := Cond.instanceMethod_spec wi'
  obtain ⟨methO', cO, hmO', hcO, hbO, hlO, -, hlockO, -, hsigO⟩ := Cond.code_spec hnO wc'
  cases hmO.symm.trans hmO'
  obtain ⟨kO, hkO, hnameO⟩ := className_of_methodNamed hnO
  obtain ⟨hnameMO, hdescO⟩ := name_of_methodNamed hnO hmO
  have hnZ : Z.methodNamed? y = some obj := by
    have q := State.methodNamed?_setVm hZ.alike (x := y)
    rw [← q]; exact hnO
  have wr' := Cond.methodRef_warmed39 hU hnZ hy wr
  have hcur : (Z.setVm T.vm).vm.findClass own = some m.cls := by
    show T.vm.findClass own = some m.cls
    rw [X.warmed.alike.findClass]; exact hown
  obtain ⟨m', c', hm', hready, hfind, hnames⟩ := Cond.methodRef_named e hcur wr'
  have hnT : (Z.setVm T.vm).methodNamed? y = some obj := by rw [State.methodNamed?_setVm hU.alike]; exact hnZ
  cases (State.methodFound?_of_named hnT hy).symm.trans hm'
  cases (findClass_of_methodNamed hnT).symm.trans hfind
  obtain ⟨kO₂, hkO₂, heO₂⟩ := X.warmed.alike.2.2 _ _ hkO
  have hmO₂ : T.vm.method? obj = some methO := by rw [X.warmed.alike.method?]; exact hmO
  have hfound : lookupSpecial T.vm obj.cls "<init>" methO.desc = .method obj := by
    rw [X.warmed.alike.lookupSpecial, hdescO, ← hy1]; exact lookupSpecial_of_named hnO hmO hstO
  have hstep : ∀ target, (∀ acts, Steps p.tables e below (doInvoke e (T.setTop { g with stack := rest }) acts obj (.ref a :: argsL).toArray).1 target) → Steps p.tables e below (T.setTop g) target := by
    subst hg
    intro target hrest
    jvm_step X.here [hexec, hdg, invokespecial.wp_init (e := e) (s := T) (k := kO₂) (meth := methO) (m := obj) (a := a) (args := argsL) (rest := rest) (f := g) X.here.top hnames hready hkO₂ hmO₂ (by rw [hnameMO]; exact hy1) hstO habO hfound (hlen _ hsigO) hstack]
    exact hrest
  obtain ⟨v, B, X', hpost, hsteps⟩ := hK m meth c ⟨T.setVm T.vm, locs, cells, slots⟩ { g with stack := rest } (.invokespecial index) obj (.ref a :: argsL).toArray X hg hsize hdg hW (X.named hnO) (hpre T.vm X.warmed)
  exact ⟨v, T.vm, B, X.warmed, X', hpost, (hstep _ fun acts => by rw [doInvoke_state]; exact Steps.refl _).trans hsteps⟩
end Jvm.RoadKit
namespace Jvm.Pilot.@@N@@
open Jvm Jvm.ClassFile Sem Op Lib Jvm.Free Jvm.Stand Jvm.LawKit Jvm.RoadKit Bundle Jvm.Pilot.@@N@@.Jvm.D
theorem d1_0 : decode prog_140_method_1_code 0 = .ok (.aload_n 0, 1) := by decide +kernel
theorem d1_1 : decode prog_140_method_1_code 1 = .ok (.invokespecial 1, 3) := by decide +kernel
theorem d1_4 : decode prog_140_method_1_code 4 = .ok (.aload_n 0, 1) := by decide +kernel
theorem d1_5 : decode prog_140_method_1_code 5 = .ok (.new 7, 3) := by decide +kernel
theorem d1_8 : decode prog_140_method_1_code 8 = .ok (.dup, 1) := by decide +kernel
theorem d1_9 : decode prog_140_method_1_code 9 = .ok (.lconst 0, 1) := by decide +kernel
theorem d1_10 : decode prog_140_method_1_code 10 = .ok (.aconst_null, 1) := by decide +kernel
theorem d1_11 : decode prog_140_method_1_code 11 = .ok (.invokespecial 9, 3) := by decide +kernel
theorem d1_14 : decode prog_140_method_1_code 14 = .ok (.putfield 12, 3) := by decide +kernel
theorem d1_17 : decode prog_140_method_1_code 17 = .ok (.aload_n 0, 1) := by decide +kernel
theorem d1_18 : decode prog_140_method_1_code 18 = .ok (.aload_n 0, 1) := by decide +kernel
theorem d1_19 : decode prog_140_method_1_code 19 = .ok (.getfield 12, 3) := by decide +kernel
theorem d1_22 : decode prog_140_method_1_code 22 = .ok (.putfield 18, 3) := by decide +kernel
theorem d1_25 : decode prog_140_method_1_code 25 = .ok (.return_, 1) := by decide +kernel
theorem d3_0 : decode prog_141_method_1_code 0 = .ok (.aload_n 0, 1) := by decide +kernel
theorem d3_1 : decode prog_141_method_1_code 1 = .ok (.invokespecial 1, 3) := by decide +kernel
theorem d3_4 : decode prog_141_method_1_code 4 = .ok (.aload_n 0, 1) := by decide +kernel
theorem d3_5 : decode prog_141_method_1_code 5 = .ok (.lload_n 1, 1) := by decide +kernel
theorem d3_6 : decode prog_141_method_1_code 6 = .ok (.putfield 7, 3) := by decide +kernel
theorem d3_9 : decode prog_141_method_1_code 9 = .ok (.aload_n 0, 1) := by decide +kernel
theorem d3_10 : decode prog_141_method_1_code 10 = .ok (.aload_n 3, 1) := by decide +kernel
theorem d3_11 : decode prog_141_method_1_code 11 = .ok (.putfield 13, 3) := by decide +kernel
theorem d3_14 : decode prog_141_method_1_code 14 = .ok (.return_, 1) := by decide +kernel
theorem d4_0 : decode prog_193_method_1_code 0 = .ok (.aload_n 0, 1) := by decide +kernel
theorem d4_1 : decode prog_193_method_1_code 1 = .ok (.invokespecial 1, 3) := by decide +kernel
theorem d4_4 : decode prog_193_method_1_code 4 = .ok (.aload_n 0, 1) := by decide +kernel
theorem d4_5 : decode prog_193_method_1_code 5 = .ok (.iconst 0, 1) := by decide +kernel
theorem d4_6 : decode prog_193_method_1_code 6 = .ok (.anewarray 7, 3) := by decide +kernel
theorem d4_9 : decode prog_193_method_1_code 9 = .ok (.putfield 9, 3) := by decide +kernel
theorem d4_12 : decode prog_193_method_1_code 12 = .ok (.aload_n 0, 1) := by decide +kernel
theorem d4_13 : decode prog_193_method_1_code 13 = .ok (.iconst 0, 1) := by decide +kernel
theorem d4_14 : decode prog_193_method_1_code 14 = .ok (.anewarray 2, 3) := by decide +kernel
theorem d4_17 : decode prog_193_method_1_code 17 = .ok (.putfield 15, 3) := by decide +kernel
theorem d4_20 : decode prog_193_method_1_code 20 = .ok (.aload_n 0, 1) := by decide +kernel
theorem d4_21 : decode prog_193_method_1_code 21 = .ok (.iconst 0, 1) := by decide +kernel
theorem d4_22 : decode prog_193_method_1_code 22 = .ok (.anewarray 19, 3) := by decide +kernel
theorem d4_25 : decode prog_193_method_1_code 25 = .ok (.putfield 21, 3) := by decide +kernel
theorem d4_28 : decode prog_193_method_1_code 28 = .ok (.aload_n 0, 1) := by decide +kernel
theorem d4_29 : decode prog_193_method_1_code 29 = .ok (.new 25, 3) := by decide +kernel
theorem d4_32 : decode prog_193_method_1_code 32 = .ok (.dup, 1) := by decide +kernel
theorem d4_33 : decode prog_193_method_1_code 33 = .ok (.invokespecial 27, 3) := by decide +kernel
theorem d4_36 : decode prog_193_method_1_code 36 = .ok (.putfield 28, 3) := by decide +kernel
theorem d4_39 : decode prog_193_method_1_code 39 = .ok (.aload_n 0, 1) := by decide +kernel
theorem d4_40 : decode prog_193_method_1_code 40 = .ok (.new 25, 3) := by decide +kernel
theorem d4_43 : decode prog_193_method_1_code 43 = .ok (.dup, 1) := by decide +kernel
theorem d4_44 : decode prog_193_method_1_code 44 = .ok (.invokespecial 27, 3) := by decide +kernel
theorem d4_47 : decode prog_193_method_1_code 47 = .ok (.putfield 32, 3) := by decide +kernel
theorem d4_50 : decode prog_193_method_1_code 50 = .ok (.aload_n 0, 1) := by decide +kernel
theorem d4_51 : decode prog_193_method_1_code 51 = .ok (.new 25, 3) := by decide +kernel
theorem d4_54 : decode prog_193_method_1_code 54 = .ok (.dup, 1) := by decide +kernel
theorem d4_55 : decode prog_193_method_1_code 55 = .ok (.invokespecial 27, 3) := by decide +kernel
theorem d4_58 : decode prog_193_method_1_code 58 = .ok (.putfield 35, 3) := by decide +kernel
theorem d4_61 : decode prog_193_method_1_code 61 = .ok (.aload_n 0, 1) := by decide +kernel
theorem d4_62 : decode prog_193_method_1_code 62 = .ok (.new 25, 3) := by decide +kernel
theorem d4_65 : decode prog_193_method_1_code 65 = .ok (.dup, 1) := by decide +kernel
theorem d4_66 : decode prog_193_method_1_code 66 = .ok (.invokespecial 27, 3) := by decide +kernel
theorem d4_69 : decode prog_193_method_1_code 69 = .ok (.putfield 38, 3) := by decide +kernel
theorem d4_72 : decode prog_193_method_1_code 72 = .ok (.return_, 1) := by decide +kernel
theorem d5_0 : decode prog_196_method_1_code 0 = .ok (.aload_n 0, 1) := by decide +kernel
theorem d5_1 : decode prog_196_method_1_code 1 = .ok (.invokespecial 1, 3) := by decide +kernel
theorem d5_4 : decode prog_196_method_1_code 4 = .ok (.aload_n 0, 1) := by decide +kernel
theorem d5_5 : decode prog_196_method_1_code 5 = .ok (.iconst 0, 1) := by decide +kernel
theorem d5_6 : decode prog_196_method_1_code 6 = .ok (.newarray .int, 2) := by decide +kernel
theorem d5_8 : decode prog_196_method_1_code 8 = .ok (.putfield 7, 3) := by decide +kernel
theorem d5_11 : decode prog_196_method_1_code 11 = .ok (.return_, 1) := by decide +kernel
theorem d6_0 : decode prog_140_method_2_code 0 = .ok (.new 7, 3) := by decide +kernel
theorem d6_3 : decode prog_140_method_2_code 3 = .ok (.dup, 1) := by decide +kernel
theorem d6_4 : decode prog_140_method_2_code 4 = .ok (.lload_n 1, 1) := by decide +kernel
theorem d6_5 : decode prog_140_method_2_code 5 = .ok (.aload_n 3, 1) := by decide +kernel
theorem d6_6 : decode prog_140_method_2_code 6 = .ok (.invokespecial 9, 3) := by decide +kernel
theorem d6_9 : decode prog_140_method_2_code 9 = .ok (.astore 4, 2) := by decide +kernel
theorem d6_11 : decode prog_140_method_2_code 11 = .ok (.aload_n 0, 1) := by decide +kernel
theorem d6_12 : decode prog_140_method_2_code 12 = .ok (.getfield 12, 3) := by decide +kernel
theorem d6_15 : decode prog_140_method_2_code 15 = .ok (.aload 4, 2) := by decide +kernel
theorem d6_17 : decode prog_140_method_2_code 17 = .ok (.putfield 21, 3) := by decide +kernel
theorem d6_20 : decode prog_140_method_2_code 20 = .ok (.aload_n 0, 1) := by decide +kernel
theorem d6_21 : decode prog_140_method_2_code 21 = .ok (.aload 4, 2) := by decide +kernel
theorem d6_23 : decode prog_140_method_2_code 23 = .ok (.putfield 12, 3) := by decide +kernel
theorem d6_26 : decode prog_140_method_2_code 26 = .ok (.return_, 1) := by decide +kernel
theorem d7_0 : decode prog_140_method_4_code 0 = .ok (.aload_n 0, 1) := by decide +kernel
theorem d7_1 : decode prog_140_method_4_code 1 = .ok (.getfield 18, 3) := by decide +kernel
theorem d7_4 : decode prog_140_method_4_code 4 = .ok (.getfield 21, 3) := by decide +kernel
theorem d7_7 : decode prog_140_method_4_code 7 = .ok (.astore_n 3, 1) := by decide +kernel
theorem d7_8 : decode prog_140_method_4_code 8 = .ok (.aload_n 3, 1) := by decide +kernel
theorem d7_9 : decode prog_140_method_4_code 9 = .ok (.ifnull 12, 3) := by decide +kernel
theorem d7_12 : decode prog_140_method_4_code 12 = .ok (.aload_n 3, 1) := by decide +kernel
theorem d7_13 : decode prog_140_method_4_code 13 = .ok (.getfield 24, 3) := by decide +kernel
theorem d7_16 : decode prog_140_method_4_code 16 = .ok (.lload_n 1, 1) := by decide +kernel
theorem d7_17 : decode prog_140_method_4_code 17 = .ok (.lcmp, 1) := by decide +kernel
theorem d7_18 : decode prog_140_method_4_code 18 = .ok (.ifCond .le 5, 3) := by decide +kernel
theorem d7_21 : decode prog_140_method_4_code 21 = .ok (.aconst_null, 1) := by decide +kernel
theorem d7_22 : decode prog_140_method_4_code 22 = .ok (.areturn, 1) := by decide +kernel
theorem d7_23 : decode prog_140_method_4_code 23 = .ok (.aload_n 0, 1) := by decide +kernel
theorem d7_24 : decode prog_140_method_4_code 24 = .ok (.aload_n 3, 1) := by decide +kernel
theorem d7_25 : decode prog_140_method_4_code 25 = .ok (.putfield 18, 3) := by decide +kernel
theorem d7_28 : decode prog_140_method_4_code 28 = .ok (.aload_n 3, 1) := by decide +kernel
theorem d7_29 : decode prog_140_method_4_code 29 = .ok (.getfield 28, 3) := by decide +kernel
theorem d7_32 : decode prog_140_method_4_code 32 = .ok (.astore 4, 2) := by decide +kernel
theorem d7_34 : decode prog_140_method_4_code 34 = .ok (.aload_n 3, 1) := by decide +kernel
theorem d7_35 : decode prog_140_method_4_code 35 = .ok (.aconst_null, 1) := by decide +kernel
theorem d7_36 : decode prog_140_method_4_code 36 = .ok (.putfield 28, 3) := by decide +kernel
theorem d7_39 : decode prog_140_method_4_code 39 = .ok (.aload 4, 2) := by decide +kernel
theorem d7_41 : decode prog_140_method_4_code 41 = .ok (.areturn, 1) := by decide +kernel
theorem d8_0 : decode prog_140_method_3_code 0 = .ok (.aload_n 0, 1) := by decide +kernel
theorem d8_1 : decode prog_140_method_3_code 1 = .ok (.getfield 18, 3) := by decide +kernel
theorem d8_4 : decode prog_140_method_3_code 4 = .ok (.getfield 21, 3) := by decide +kernel
theorem d8_7 : decode prog_140_method_3_code 7 = .ok (.ifnull 7, 3) := by decide +kernel
theorem d8_10 : decode prog_140_method_3_code 10 = .ok (.iconst 1, 1) := by decide +kernel
theorem d8_11 : decode prog_140_method_3_code 11 = .ok (.goto 4, 3) := by decide +kernel
theorem d8_14 : decode prog_140_method_3_code 14 = .ok (.iconst 0, 1) := by decide +kernel
theorem d8_15 : decode prog_140_method_3_code 15 = .ok (.ireturn, 1) := by decide +kernel
theorem pn_0 : plainName "tidegate/operator/Crossings$Batch" = true := by first | (simp [plainName, overriddenIn]; done) | decide +kernel
theorem pn_1 : plainName "tidegate/operator/Crossings" = true := by first | (simp [plainName, overriddenIn]; done) | decide +kernel
theorem pn_2 : plainName "tidegate/operator/StageFunctions$Indices" = true := by first | (simp [plainName, overriddenIn]; done) | decide +kernel
theorem pn_3 : plainName "tidegate/operator/StageFunctions" = true := by first | (simp [plainName, overriddenIn]; done) | decide +kernel
theorem pn_4 : plainName "tidegate/operator/CrossingsTakePinLaw" = true := by first | (simp [plainName, overriddenIn]; done) | decide +kernel
theorem pd_0 : parseMethodDescriptor "(JLtidegate/operator/StageFunctions;)V" = some ⟨[.long, (.object "tidegate/operator/StageFunctions")], none⟩ := by decide +kernel
theorem pd_1 : parseMethodDescriptor "()V" = some ⟨[], none⟩ := by decide +kernel
theorem pd_2 : parseMethodDescriptor "(J)Ltidegate/operator/StageFunctions;" = some ⟨[.long], some (.object "tidegate/operator/StageFunctions")⟩ := by decide +kernel
theorem pd_3 : parseMethodDescriptor "()Z" = some ⟨[], some .boolean⟩ := by decide +kernel

theorem own_n4 (x v : Int32) (h : v = x &&& (3 : Int32)) : v = 0 ∨ v = 1 ∨ v = 2 ∨ v = 3 := by
  have m := own_mask32 x 3 (by decide)
  have e3 : (3 : Int32).toInt = 3 := by decide
  rw [← h, e3] at m
  have q : v.toInt = 0 ∨ v.toInt = 1 ∨ v.toInt = 2 ∨ v.toInt = 3 := by omega
  rcases q with q | q | q | q
  · exact Or.inl (Int32.toInt_inj.mp (by rw [q]; decide))
  · exact Or.inr (Or.inl (Int32.toInt_inj.mp (by rw [q]; decide)))
  · exact Or.inr (Or.inr (Or.inl (Int32.toInt_inj.mp (by rw [q]; decide))))
  · exact Or.inr (Or.inr (Or.inr (Int32.toInt_inj.mp (by rw [q]; decide))))
theorem ef_rm_bn (m : MethodId) (x0 : Addr) (x1 : Int64) : entryFrame m #[(.ref x0), (.long x1), .null] 4 = mkF m 0 #[.val (.ref x0), .val (.long x1), .second, .val .null] [] := by first | (simp [entryFrame, mkF, argsToLocals, Value.category]; done) | rfl
def Q_rm_bn (Z : State) (a1 : Addr) (q1 : Int64) (h0 : Heap) (n0 : Nat) (v : Option Value) (h : Heap) (L : List Loc) : Prop := v = none ∧ Fr n0 L ∧ Keep h0 h [a1] ∧ Fld Z h a1 "tidegate/operator/Crossings$Batch" "from" "J" (.long q1) ∧ Fld Z h a1 "tidegate/operator/Crossings$Batch" "stages" "Ltidegate/operator/StageFunctions;" .null ∧ Fld Z h a1 "tidegate/operator/Crossings$Batch" "next" "Ltidegate/operator/Crossings$Batch;" .null
set_option maxRecDepth 65536 in
set_option maxHeartbeats 40000000 in
theorem rm_bn (l : Launch) (Z : State) (a0 : Array Value) (hw : ∀ d ∈ tables_1, d.before a0 Z = true) (ws : List Jvm.Cond) (a1 : Addr) (q1 : Int64) (h0 : Heap) (n0 : Nat) (Z0 : n0 ≤ h0.size) (F1 : Exa Z h0 a1 "tidegate/operator/Crossings$Batch") (F2 : Fld Z h0 a1 "tidegate/operator/Crossings$Batch" "from" "J" (.long (0 : Int64))) (F3 : Fld Z h0 a1 "tidegate/operator/Crossings$Batch" "stages" "Ltidegate/operator/StageFunctions;" .null) (F4 : Fld Z h0 a1 "tidegate/operator/Crossings$Batch" "next" "Ltidegate/operator/Crossings$Batch;" .null) (g_a1 : n0 ≤ a1) :
    MetFree l (⟨"tidegate/operator/Crossings$Batch", "<init>", "(JLtidegate/operator/StageFunctions;)V"⟩ : MethodName) (head1 (Jvm.Cond.code (⟨"tidegate/operator/Crossings$Batch", "<init>", "(JLtidegate/operator/StageFunctions;)V"⟩ : MethodName) prog_141_method_1_code 4 none :: ws) ({ frames := 1, cells := 0, slots := 0, locals := 12 } : Room)) (fun a U => a = #[(.ref a1), (.long q1), .null] ∧ Z.Warmed39 U.vm ∧ U.heap = h0) (fun _ _ _ _ _ => True) (fun _ U o U' => ∃ v L, o = .returned v ∧ Q_rm_bn Z a1 q1 h0 n0 v U'.heap L ∧ FrameEnd U o U' L ({ frames := 1, cells := 0, slots := 0, locals := 12 } : Room).cells ({ frames := 1, cells := 0, slots := 0, locals := 12 } : Room).slots) := by
  refine MetFree.of_bodySF (plainFor_of_name pn_0) hisR ?_
  intro p e s m args below meth c s₁ Bd hml0 hP hK
  obtain ⟨rfl, hZ, hh⟩ := hP
  have hx := Bd.exec
  have hby := Bd.bytes
  have hml : c.maxLocals = 4 := hml0
  have hown : s.vm.findClass "tidegate/operator/Crossings$Batch" = some m.cls := findClass_of_methodNamed Bd.named
  have hnm := (name_of_methodNamed Bd.named Bd.method).1
  have X0 : Stand p l e ({ frames := 1, cells := 0, slots := 0, locals := 12 } : Room) s m #[(.ref a1), (.long q1), .null] below meth c s₁ [] 0 0 := Stand.of_body Bd
  have e0 : s₁.heap = h0 := by rw [← hh, Bd.state]; rfl
  have N0 := Fr.nil n0
  have pre0 : ∀ t, Steps p.tables e below (s₁.setTop (mkF m 0 #[.val (.ref a1), .val (.long q1), .second, .val .null] [])) t → Steps p.tables e below (s₁.setTop (entryFrame m #[(.ref a1), (.long q1), .null] 4)) t := fun t k => castTop (ef_rm_bn m a1 q1) k
  have S5 : ∀ t, Steps p.tables e below (s₁.setTop (mkF m 1 #[.val (.ref a1), .val (.long q1), .second, .val .null] [(.ref a1)])) t → Steps p.tables e below (s₁.setTop (mkF m 0 #[.val (.ref a1), .val (.long q1), .second, .val .null] [])) t := by
    intro t kt
    show Steps p.tables e below (s₁.setTop (mkF m 0 #[.val (.ref a1), .val (.long q1), .second, .val .null] [])) _
    refine XS.aloadN X0.here hx rfl (hb hby d3_0) rfl rfl ?_
    exact kt
  obtain ⟨T6, X6, e6, st6⟩ := initO X0 hx hZ hown (hw _ (List.mem_of_getElem? (i := 15) rfl)) (hw _ (List.mem_of_getElem? (i := 7) rfl)) (hw _ (List.mem_of_getElem? (i := 8) rfl)) e0 (g := (mkF m 1 #[.val (.ref a1), .val (.long q1), .second, .val .null] [(.ref a1)])) rfl (by rw [hml]; rfl) rfl (hb hby d3_1) (by decide) (W := 0) (by show 2 * 0 + _ ≤ _; exact Nat.le_of_eq rfl) (by decide)
  have S7 : ∀ t, Steps p.tables e below (T6.setTop (mkF m 6 #[.val (.ref a1), .val (.long q1), .second, .val .null] [(.long q1), (.ref a1)])) t → Steps p.tables e below (T6.setTop (mkF m 4 #[.val (.ref a1), .val (.long q1), .second, .val .null] [])) t := by
    intro t kt
    show Steps p.tables e below (T6.setTop (mkF m 4 #[.val (.ref a1), .val (.long q1), .second, .val .null] [])) _
    refine XS.aloadN X6.here hx rfl (hb hby d3_4) rfl rfl ?_
    show Steps p.tables e below (T6.setTop (mkF m 5 #[.val (.ref a1), .val (.long q1), .second, .val .null] [(.ref a1)])) _
    refine XS.lloadN X6.here hx rfl (hb hby d3_5) rfl ?_
    exact kt
  obtain ⟨T8, h8, X8, e8, W8, st8⟩ := putF X6 hx hZ hown (host := "") (Or.inl (hw _ (List.mem_of_getElem? (i := 16) rfl))) Via.refl e6 F2 F1 (Or.inr ⟨(hw _ (List.mem_of_getElem? (i := 17) rfl)), rfl, hnm⟩) (hw _ (List.mem_of_getElem? (i := 10) rfl)) (ty := .long) (by decide) rfl rfl (g := (mkF m 6 #[.val (.ref a1), .val (.long q1), .second, .val .null] [(.long q1), (.ref a1)])) rfl rfl (hb hby d3_6)
  have z9 : n0 ≤ h8.size := Nat.le_trans Z0 (Keep.of_wr W8).1
  have N10 := Fr.snoc X8 N0 g_a1
  have Fw8 := F2.same W8
  have S11 : ∀ t, Steps p.tables e below (T8.setTop (mkF m 11 #[.val (.ref a1), .val (.long q1), .second, .val .null] [.null, (.ref a1)])) t → Steps p.tables e below (T8.setTop (mkF m 9 #[.val (.ref a1), .val (.long q1), .second, .val .null] [])) t := by
    intro t kt
    show Steps p.tables e below (T8.setTop (mkF m 9 #[.val (.ref a1), .val (.long q1), .second, .val .null] [])) _
    refine XS.aloadN X8.here hx rfl (hb hby d3_9) rfl rfl ?_
    show Steps p.tables e below (T8.setTop (mkF m 10 #[.val (.ref a1), .val (.long q1), .second, .val .null] [(.ref a1)])) _
    refine XS.aloadN X8.here hx rfl (hb hby d3_10) rfl rfl ?_
    exact kt
  have f12 := (F3.other W8 (Or.inr (slot_ne (Or.inl (hw _ (List.mem_of_getElem? (i := 19) rfl))) (Or.inr (hw _ (List.mem_of_getElem? (i := 17) rfl))) (by decide) (t := (.object "tidegate/operator/StageFunctions")) (t' := .long) (by decide) (by decide))))
  have f13 := (F1.wr W8)
  obtain ⟨T14, h14, X14, e14, W14, st14⟩ := putF X8 hx hZ hown (host := "") (Or.inl (hw _ (List.mem_of_getElem? (i := 18) rfl))) Via.refl e8 f12 f13 (Or.inl (hw _ (List.mem_of_getElem? (i := 19) rfl))) (hw _ (List.mem_of_getElem? (i := 10) rfl)) (ty := (.object "tidegate/operator/StageFunctions")) (by decide) rfl rfl (g := (mkF m 11 #[.val (.ref a1), .val (.long q1), .second, .val .null] [.null, (.ref a1)])) rfl rfl (hb hby d3_11)
  have z15 : n0 ≤ h14.size := Nat.le_trans z9 (Keep.of_wr W14).1
  have N16 := Fr.snoc X14 N10 g_a1
  have Fw14 := f12.same W14
  have C17 : ∀ t, Steps p.tables e below (T14.setTop (mkF m 14 #[.val (.ref a1), .val (.long q1), .second, .val .null] [])) t → Steps p.tables e below (s₁.setTop (mkF m 0 #[.val (.ref a1), .val (.long q1), .second, .val .null] [])) t := (fun t k => (S5 t (st6 t (S7 t (st8 t (S11 t (st14 t k)))))))
  obtain ⟨fs, hr, hrun, hended, hW, hsame⟩ := X14.leave (v := none) (fun _ => rfl)
  refine ⟨_, _, pre0 _ (C17 _ ?_), hrun, hended, _, _, rfl, ?_, ⟨_, rfl⟩, hW, hsame.mono (by decide) (by decide)⟩
  · exact X14.returnOut hx Bd.returns (hb hby d3_14) hr
  · show Q_rm_bn Z a1 q1 h0 n0 _ T14.heap _
    rw [e14]
    have f18 := (Fw8.other W14 (Or.inr (slot_ne (Or.inr (hw _ (List.mem_of_getElem? (i := 17) rfl))) (Or.inl (hw _ (List.mem_of_getElem? (i := 19) rfl))) (by decide) (t := .long) (t' := (.object "tidegate/operator/StageFunctions")) (by decide) (by decide))))
    have f19 := ((F4.other W8 (Or.inr (slot_ne (Or.inl (hw _ (List.mem_of_getElem? (i := 67) rfl))) (Or.inr (hw _ (List.mem_of_getElem? (i := 17) rfl))) (by decide) (t := (.object "tidegate/operator/Crossings$Batch")) (t' := .long) (by decide) (by decide)))).other W14 (Or.inr (slot_ne (Or.inl (hw _ (List.mem_of_getElem? (i := 67) rfl))) (Or.inl (hw _ (List.mem_of_getElem? (i := 19) rfl))) (by decide) (t := (.object "tidegate/operator/Crossings$Batch")) (t' := (.object "tidegate/operator/StageFunctions")) (by decide) (by decide))))
    exact ⟨rfl, N16, (((Keep.refl h0 [a1]).wr W8 (Or.inl (List.mem_of_getElem? (i := 0) rfl))).wr W14 (Or.inl (List.mem_of_getElem? (i := 0) rfl))), f18, Fw14, f19⟩
theorem ef_rm_bs (m : MethodId) (x0 : Addr) (x1 : Int64) (x2 : Addr) : entryFrame m #[(.ref x0), (.long x1), (.ref x2)] 4 = mkF m 0 #[.val (.ref x0), .val (.long x1), .second, .val (.ref x2)] [] := by first | (simp [entryFrame, mkF, argsToLocals, Value.category]; done) | rfl
def Q_rm_bs (Z : State) (a1 : Addr) (q1 : Int64) (s1 : Addr) (h0 : Heap) (n0 : Nat) (v : Option Value) (h : Heap) (L : List Loc) : Prop := v = none ∧ Fr n0 L ∧ Keep h0 h [a1] ∧ Fld Z h a1 "tidegate/operator/Crossings$Batch" "from" "J" (.long q1) ∧ Fld Z h a1 "tidegate/operator/Crossings$Batch" "stages" "Ltidegate/operator/StageFunctions;" (.ref s1) ∧ Fld Z h a1 "tidegate/operator/Crossings$Batch" "next" "Ltidegate/operator/Crossings$Batch;" .null
set_option maxRecDepth 65536 in
set_option maxHeartbeats 40000000 in
theorem rm_bs (l : Launch) (Z : State) (a0 : Array Value) (hw : ∀ d ∈ tables_1, d.before a0 Z = true) (ws : List Jvm.Cond) (a1 : Addr) (q1 : Int64) (s1 : Addr) (h0 : Heap) (n0 : Nat) (Z0 : n0 ≤ h0.size) (F20 : Exa Z h0 a1 "tidegate/operator/Crossings$Batch") (F21 : Fld Z h0 a1 "tidegate/operator/Crossings$Batch" "from" "J" (.long (0 : Int64))) (F22 : Fld Z h0 a1 "tidegate/operator/Crossings$Batch" "stages" "Ltidegate/operator/StageFunctions;" .null) (F23 : Fld Z h0 a1 "tidegate/operator/Crossings$Batch" "next" "Ltidegate/operator/Crossings$Batch;" .null) (g_a1 : n0 ≤ a1) :
    MetFree l (⟨"tidegate/operator/Crossings$Batch", "<init>", "(JLtidegate/operator/StageFunctions;)V"⟩ : MethodName) (head1 (Jvm.Cond.code (⟨"tidegate/operator/Crossings$Batch", "<init>", "(JLtidegate/operator/StageFunctions;)V"⟩ : MethodName) prog_141_method_1_code 4 none :: ws) ({ frames := 1, cells := 0, slots := 0, locals := 12 } : Room)) (fun a U => a = #[(.ref a1), (.long q1), (.ref s1)] ∧ Z.Warmed39 U.vm ∧ U.heap = h0) (fun _ _ _ _ _ => True) (fun _ U o U' => ∃ v L, o = .returned v ∧ Q_rm_bs Z a1 q1 s1 h0 n0 v U'.heap L ∧ FrameEnd U o U' L ({ frames := 1, cells := 0, slots := 0, locals := 12 } : Room).cells ({ frames := 1, cells := 0, slots := 0, locals := 12 } : Room).slots) := by
  refine MetFree.of_bodySF (plainFor_of_name pn_0) hisR ?_
  intro p e s m args below meth c s₁ Bd hml0 hP hK
  obtain ⟨rfl, hZ, hh⟩ := hP
  have hx := Bd.exec
  have hby := Bd.bytes
  have hml : c.maxLocals = 4 := hml0
  have hown : s.vm.findClass "tidegate/operator/Crossings$Batch" = some m.cls := findClass_of_methodNamed Bd.named
  have hnm := (name_of_methodNamed Bd.named Bd.method).1
  have X0 : Stand p l e ({ frames := 1, cells := 0, slots := 0, locals := 12 } : Room) s m #[(.ref a1), (.long q1), (.ref s1)] below meth c s₁ [] 0 0 := Stand.of_body Bd
  have e0 : s₁.heap = h0 := by rw [← hh, Bd.state]; rfl
  have N0 := Fr.nil n0
  have pre0 : ∀ t, Steps p.tables e below (s₁.setTop (mkF m 0 #[.val (.ref a1), .val (.long q1), .second, .val (.ref s1)] [])) t → Steps p.tables e below (s₁.setTop (entryFrame m #[(.ref a1), (.long q1), (.ref s1)] 4)) t := fun t k => castTop (ef_rm_bs m a1 q1 s1) k
  have S24 : ∀ t, Steps p.tables e below (s₁.setTop (mkF m 1 #[.val (.ref a1), .val (.long q1), .second, .val (.ref s1)] [(.ref a1)])) t → Steps p.tables e below (s₁.setTop (mkF m 0 #[.val (.ref a1), .val (.long q1), .second, .val (.ref s1)] [])) t := by
    intro t kt
    show Steps p.tables e below (s₁.setTop (mkF m 0 #[.val (.ref a1), .val (.long q1), .second, .val (.ref s1)] [])) _
    refine XS.aloadN X0.here hx rfl (hb hby d3_0) rfl rfl ?_
    exact kt
  obtain ⟨T25, X25, e25, st25⟩ := initO X0 hx hZ hown (hw _ (List.mem_of_getElem? (i := 15) rfl)) (hw _ (List.mem_of_getElem? (i := 7) rfl)) (hw _ (List.mem_of_getElem? (i := 8) rfl)) e0 (g := (mkF m 1 #[.val (.ref a1), .val (.long q1), .second, .val (.ref s1)] [(.ref a1)])) rfl (by rw [hml]; rfl) rfl (hb hby d3_1) (by decide) (W := 0) (by show 2 * 0 + _ ≤ _; exact Nat.le_of_eq rfl) (by decide)
  have S26 : ∀ t, Steps p.tables e below (T25.setTop (mkF m 6 #[.val (.ref a1), .val (.long q1), .second, .val (.ref s1)] [(.long q1), (.ref a1)])) t → Steps p.tables e below (T25.setTop (mkF m 4 #[.val (.ref a1), .val (.long q1), .second, .val (.ref s1)] [])) t := by
    intro t kt
    show Steps p.tables e below (T25.setTop (mkF m 4 #[.val (.ref a1), .val (.long q1), .second, .val (.ref s1)] [])) _
    refine XS.aloadN X25.here hx rfl (hb hby d3_4) rfl rfl ?_
    show Steps p.tables e below (T25.setTop (mkF m 5 #[.val (.ref a1), .val (.long q1), .second, .val (.ref s1)] [(.ref a1)])) _
    refine XS.lloadN X25.here hx rfl (hb hby d3_5) rfl ?_
    exact kt
  obtain ⟨T27, h27, X27, e27, W27, st27⟩ := putF X25 hx hZ hown (host := "") (Or.inl (hw _ (List.mem_of_getElem? (i := 16) rfl))) Via.refl e25 F21 F20 (Or.inr ⟨(hw _ (List.mem_of_getElem? (i := 17) rfl)), rfl, hnm⟩) (hw _ (List.mem_of_getElem? (i := 10) rfl)) (ty := .long) (by decide) rfl rfl (g := (mkF m 6 #[.val (.ref a1), .val (.long q1), .second, .val (.ref s1)] [(.long q1), (.ref a1)])) rfl rfl (hb hby d3_6)
  have z28 : n0 ≤ h27.size := Nat.le_trans Z0 (Keep.of_wr W27).1
  have N29 := Fr.snoc X27 N0 g_a1
  have Fw27 := F21.same W27
  have S30 : ∀ t, Steps p.tables e below (T27.setTop (mkF m 11 #[.val (.ref a1), .val (.long q1), .second, .val (.ref s1)] [(.ref s1), (.ref a1)])) t → Steps p.tables e below (T27.setTop (mkF m 9 #[.val (.ref a1), .val (.long q1), .second, .val (.ref s1)] [])) t := by
    intro t kt
    show Steps p.tables e below (T27.setTop (mkF m 9 #[.val (.ref a1), .val (.long q1), .second, .val (.ref s1)] [])) _
    refine XS.aloadN X27.here hx rfl (hb hby d3_9) rfl rfl ?_
    show Steps p.tables e below (T27.setTop (mkF m 10 #[.val (.ref a1), .val (.long q1), .second, .val (.ref s1)] [(.ref a1)])) _
    refine XS.aloadN X27.here hx rfl (hb hby d3_10) rfl rfl ?_
    exact kt
  have f31 := (F22.other W27 (Or.inr (slot_ne (Or.inl (hw _ (List.mem_of_getElem? (i := 19) rfl))) (Or.inr (hw _ (List.mem_of_getElem? (i := 17) rfl))) (by decide) (t := (.object "tidegate/operator/StageFunctions")) (t' := .long) (by decide) (by decide))))
  have f32 := (F20.wr W27)
  obtain ⟨T33, h33, X33, e33, W33, st33⟩ := putF X27 hx hZ hown (host := "") (Or.inl (hw _ (List.mem_of_getElem? (i := 18) rfl))) Via.refl e27 f31 f32 (Or.inl (hw _ (List.mem_of_getElem? (i := 19) rfl))) (hw _ (List.mem_of_getElem? (i := 10) rfl)) (ty := (.object "tidegate/operator/StageFunctions")) (by decide) rfl rfl (g := (mkF m 11 #[.val (.ref a1), .val (.long q1), .second, .val (.ref s1)] [(.ref s1), (.ref a1)])) rfl rfl (hb hby d3_11)
  have z34 : n0 ≤ h33.size := Nat.le_trans z28 (Keep.of_wr W33).1
  have N35 := Fr.snoc X33 N29 g_a1
  have Fw33 := f31.same W33
  have C36 : ∀ t, Steps p.tables e below (T33.setTop (mkF m 14 #[.val (.ref a1), .val (.long q1), .second, .val (.ref s1)] [])) t → Steps p.tables e below (s₁.setTop (mkF m 0 #[.val (.ref a1), .val (.long q1), .second, .val (.ref s1)] [])) t := (fun t k => (S24 t (st25 t (S26 t (st27 t (S30 t (st33 t k)))))))
  obtain ⟨fs, hr, hrun, hended, hW, hsame⟩ := X33.leave (v := none) (fun _ => rfl)
  refine ⟨_, _, pre0 _ (C36 _ ?_), hrun, hended, _, _, rfl, ?_, ⟨_, rfl⟩, hW, hsame.mono (by decide) (by decide)⟩
  · exact X33.returnOut hx Bd.returns (hb hby d3_14) hr
  · show Q_rm_bs Z a1 q1 s1 h0 n0 _ T33.heap _
    rw [e33]
    have f37 := (Fw27.other W33 (Or.inr (slot_ne (Or.inr (hw _ (List.mem_of_getElem? (i := 17) rfl))) (Or.inl (hw _ (List.mem_of_getElem? (i := 19) rfl))) (by decide) (t := .long) (t' := (.object "tidegate/operator/StageFunctions")) (by decide) (by decide))))
    have f38 := ((F23.other W27 (Or.inr (slot_ne (Or.inl (hw _ (List.mem_of_getElem? (i := 67) rfl))) (Or.inr (hw _ (List.mem_of_getElem? (i := 17) rfl))) (by decide) (t := (.object "tidegate/operator/Crossings$Batch")) (t' := .long) (by decide) (by decide)))).other W33 (Or.inr (slot_ne (Or.inl (hw _ (List.mem_of_getElem? (i := 67) rfl))) (Or.inl (hw _ (List.mem_of_getElem? (i := 19) rfl))) (by decide) (t := (.object "tidegate/operator/Crossings$Batch")) (t' := (.object "tidegate/operator/StageFunctions")) (by decide) (by decide))))
    exact ⟨rfl, N35, (((Keep.refl h0 [a1]).wr W27 (Or.inl (List.mem_of_getElem? (i := 0) rfl))).wr W33 (Or.inl (List.mem_of_getElem? (i := 0) rfl))), f37, Fw33, f38⟩
theorem ef_rm1 (m : MethodId) (x0 : Addr) : entryFrame m #[(.ref x0)] 1 = mkF m 0 #[.val (.ref x0)] [] := by first | (simp [entryFrame, mkF, argsToLocals, Value.category]; done) | rfl
def Q_rm1 (Z : State) (a1 : Addr) (h0 : Heap) (n0 : Nat) (v : Option Value) (h : Heap) (L : List Loc) : Prop := ∃ b : Addr, v = none ∧ Fr n0 L ∧ Keep h0 h [a1] ∧ h0.size ≤ b ∧ Exa Z h b "tidegate/operator/Crossings$Batch" ∧ Fld Z h a1 "tidegate/operator/Crossings" "added" "Ltidegate/operator/Crossings$Batch;" (.ref b) ∧ Fld Z h a1 "tidegate/operator/Crossings" "taken" "Ltidegate/operator/Crossings$Batch;" (.ref b) ∧ ∃ (q : Int64) (u : Value), Fld Z h b "tidegate/operator/Crossings$Batch" "from" "J" (.long q) ∧ Fld Z h b "tidegate/operator/Crossings$Batch" "stages" "Ltidegate/operator/StageFunctions;" u ∧ Fld Z h b "tidegate/operator/Crossings$Batch" "next" "Ltidegate/operator/Crossings$Batch;" .null
set_option maxRecDepth 65536 in
set_option maxHeartbeats 40000000 in
theorem rm1 (l : Launch) (Z : State) (a0 : Array Value) (hw : ∀ d ∈ tables_1, d.before a0 Z = true) (ws : List Jvm.Cond) (a1 : Addr) (h0 : Heap) (n0 : Nat) (Z0 : n0 ≤ h0.size) (F39 : Exa Z h0 a1 "tidegate/operator/Crossings") (F40 : Fld Z h0 a1 "tidegate/operator/Crossings" "added" "Ltidegate/operator/Crossings$Batch;" .null) (F41 : Fld Z h0 a1 "tidegate/operator/Crossings" "taken" "Ltidegate/operator/Crossings$Batch;" .null) (g_a1 : n0 ≤ a1) :
    MetFree l (⟨"tidegate/operator/Crossings", "<init>", "()V"⟩ : MethodName) (head1 (Jvm.Cond.code (⟨"tidegate/operator/Crossings", "<init>", "()V"⟩ : MethodName) prog_140_method_1_code 1 none :: ws) ({ frames := 2, cells := 1, slots := 3, locals := 29 } : Room)) (fun a U => a = #[(.ref a1)] ∧ Z.Warmed39 U.vm ∧ U.heap = h0) (fun _ _ _ _ _ => True) (fun _ U o U' => ∃ v L, o = .returned v ∧ Q_rm1 Z a1 h0 n0 v U'.heap L ∧ FrameEnd U o U' L ({ frames := 2, cells := 1, slots := 3, locals := 29 } : Room).cells ({ frames := 2, cells := 1, slots := 3, locals := 29 } : Room).slots) := by
  refine MetFree.of_bodySF (plainFor_of_name pn_1) hisR ?_
  intro p e s m args below meth c s₁ Bd hml0 hP hK
  obtain ⟨rfl, hZ, hh⟩ := hP
  have hx := Bd.exec
  have hby := Bd.bytes
  have hml : c.maxLocals = 1 := hml0
  have hown : s.vm.findClass "tidegate/operator/Crossings" = some m.cls := findClass_of_methodNamed Bd.named
  have hnm := (name_of_methodNamed Bd.named Bd.method).1
  have X0 : Stand p l e ({ frames := 2, cells := 1, slots := 3, locals := 29 } : Room) s m #[(.ref a1)] below meth c s₁ [] 0 0 := Stand.of_body Bd
  have e0 : s₁.heap = h0 := by rw [← hh, Bd.state]; rfl
  have N0 := Fr.nil n0
  have pre0 : ∀ t, Steps p.tables e below (s₁.setTop (mkF m 0 #[.val (.ref a1)] [])) t → Steps p.tables e below (s₁.setTop (entryFrame m #[(.ref a1)] 1)) t := fun t k => castTop (ef_rm1 m a1) k
  have S42 : ∀ t, Steps p.tables e below (s₁.setTop (mkF m 1 #[.val (.ref a1)] [(.ref a1)])) t → Steps p.tables e below (s₁.setTop (mkF m 0 #[.val (.ref a1)] [])) t := by
    intro t kt
    show Steps p.tables e below (s₁.setTop (mkF m 0 #[.val (.ref a1)] [])) _
    refine XS.aloadN X0.here hx rfl (hb hby d1_0) rfl rfl ?_
    exact kt
  obtain ⟨T43, X43, e43, st43⟩ := initO X0 hx hZ hown (hw _ (List.mem_of_getElem? (i := 6) rfl)) (hw _ (List.mem_of_getElem? (i := 7) rfl)) (hw _ (List.mem_of_getElem? (i := 8) rfl)) e0 (g := (mkF m 1 #[.val (.ref a1)] [(.ref a1)])) rfl (by rw [hml]; rfl) rfl (hb hby d1_1) (by decide) (W := 0) (by show 2 * 0 + _ ≤ _; exact Nat.le_of_eq rfl) (by decide)
  have S44 : ∀ t, Steps p.tables e below (T43.setTop (mkF m 5 #[.val (.ref a1)] [(.ref a1)])) t → Steps p.tables e below (T43.setTop (mkF m 4 #[.val (.ref a1)] [])) t := by
    intro t kt
    show Steps p.tables e below (T43.setTop (mkF m 4 #[.val (.ref a1)] [])) _
    refine XS.aloadN X43.here hx rfl (hb hby d1_4) rfl rfl ?_
    exact kt
  obtain ⟨T45, h45, X45, e45, E45, A45, D45, -, st45⟩ := newO X43 hx hZ hown (hw _ (List.mem_of_getElem? (i := 9) rfl)) (hw _ (List.mem_of_getElem? (i := 10) rfl)) (hw _ (List.mem_of_getElem? (i := 11) rfl)) e43 (g := (mkF m 5 #[.val (.ref a1)] [(.ref a1)])) rfl (hb hby d1_5) (by decide) (by decide)
  obtain ⟨b45, g45⟩ : ∃ z, z = h0.size := ⟨_, rfl⟩
  rw [← g45] at A45 D45 st45
  have g_b45 : n0 ≤ b45 := Nat.le_trans Z0 (Nat.le_of_eq g45.symm)
  have K46 := (Keep.refl h0 [a1])
  have sz_b45 : h0.size ≤ b45 := Nat.le_trans K46.1 (Nat.le_of_eq g45.symm)
  have ne_a1_b45 : a1 ≠ b45 := Nat.ne_of_lt (Nat.lt_of_lt_of_le F39.lt (Nat.le_of_eq g45.symm))
  have z47 : n0 ≤ h45.size := Nat.le_trans Z0 E45.1
  have F48 : Fld Z h45 b45 "tidegate/operator/Crossings$Batch" "from" "J" (.long (0 : Int64)) := D45 (Or.inr (hw _ (List.mem_of_getElem? (i := 17) rfl))) (ty := .long) (by decide)
  have F49 : Fld Z h45 b45 "tidegate/operator/Crossings$Batch" "stages" "Ltidegate/operator/StageFunctions;" .null := D45 (Or.inl (hw _ (List.mem_of_getElem? (i := 19) rfl))) (ty := (.object "tidegate/operator/StageFunctions")) (by decide)
  have F50 : Fld Z h45 b45 "tidegate/operator/Crossings$Batch" "next" "Ltidegate/operator/Crossings$Batch;" .null := D45 (Or.inl (hw _ (List.mem_of_getElem? (i := 67) rfl))) (ty := (.object "tidegate/operator/Crossings$Batch")) (by decide)
  have S51 : ∀ t, Steps p.tables e below (T45.setTop (mkF m 11 #[.val (.ref a1)] [.null, (.long (0 : Int64)), (.ref b45), (.ref b45), (.ref a1)])) t → Steps p.tables e below (T45.setTop (mkF m 8 #[.val (.ref a1)] [(.ref b45), (.ref a1)])) t := by
    intro t kt
    show Steps p.tables e below (T45.setTop (mkF m 8 #[.val (.ref a1)] [(.ref b45), (.ref a1)])) _
    refine XS.dup X45.here hx rfl (hb hby d1_8) rfl rfl ?_
    show Steps p.tables e below (T45.setTop (mkF m 9 #[.val (.ref a1)] [(.ref b45), (.ref b45), (.ref a1)])) _
    refine XS.lconst X45.here hx rfl (hb hby d1_9) ?_
    show Steps p.tables e below (T45.setTop (mkF m 10 #[.val (.ref a1)] [(.long (0 : Int64)), (.ref b45), (.ref b45), (.ref a1)])) _
    refine XS.aconstNull X45.here hx rfl (hb hby d1_10) ?_
    exact kt
  obtain ⟨_, _, ⟨T52, L52, k52, n52⟩, -, X52, ⟨Lc52, hQ52, l52, y52, z52⟩, st52⟩ := X45.specialBack hx (y := (⟨"tidegate/operator/Crossings$Batch", "<init>", "(JLtidegate/operator/StageFunctions;)V"⟩ : MethodName)) rfl hown (mvT hZ (hw _ (List.mem_of_getElem? (i := 12) rfl))) (mvT hZ (hw _ (List.mem_of_getElem? (i := 13) rfl))) (mvT hZ (hw _ (List.mem_of_getElem? (i := 14) rfl))) (by decide) (backOf (W := 2) (rm_bn l Z a0 hw [] b45 (0 : Int64) h45 n0 z47 A45 F48 F49 F50 g_b45) hZ (hw _ (List.mem_of_getElem? (i := 14) rfl)) (hw _ (List.mem_of_getElem? (i := 11) rfl)) (by decide) (by decide)) (g := (mkF m 11 #[.val (.ref a1)] [.null, (.long (0 : Int64)), (.ref b45), (.ref b45), (.ref a1)])) rfl (by rw [hml]; rfl) (Steps.refl _) (a := b45) (argsL := [(.long (0 : Int64)), .null]) (rest := [(.ref b45), (.ref a1)]) (lenOf pd_0 rfl) rfl (by show 2 * 0 + _ ≤ _; exact Nat.le_of_eq rfl) (hb hby d1_11) (fun _ _ => ⟨rfl, e45, (by decide : 1 + 0 ≤ _), (by decide : 3 + 0 ≤ _)⟩)
  dsimp only [Pt.U, Pt.locs, Pt.cells, Pt.slots] at X52 l52 y52 z52 st52 hQ52
  subst l52 y52 z52
  obtain ⟨h52, e52⟩ : ∃ z, T52.heap = z := ⟨_, rfl⟩
  rw [e52] at hQ52
  obtain ⟨rfl, N52q, K52q, F53, F54, F55⟩ := hQ52
  have z56 : n0 ≤ h52.size := Nat.le_trans z47 K52q.1
  have N52 := Fr.app N0 N52q
  have f57 := ((F40.ext E45).keep K52q (ninS ne_a1_b45 nin0))
  have f58 := ((F39.ext E45).keep K52q)
  obtain ⟨T59, h59, X59, e59, W59, st59⟩ := putF X52 hx hZ hown (host := "") (Or.inl (hw _ (List.mem_of_getElem? (i := 20) rfl))) Via.refl e52 f57 f58 (Or.inl (hw _ (List.mem_of_getElem? (i := 21) rfl))) (hw _ (List.mem_of_getElem? (i := 1) rfl)) (ty := (.object "tidegate/operator/Crossings$Batch")) (by decide) rfl rfl (g := (mkF m 14 #[.val (.ref a1)] [(.ref b45), (.ref a1)])) rfl rfl (hb hby d1_14)
  have z60 : n0 ≤ h59.size := Nat.le_trans z56 (Keep.of_wr W59).1
  have N61 := Fr.snoc X59 N52 g_a1
  have Fw59 := f57.same W59
  have S62 : ∀ t, Steps p.tables e below (T59.setTop (mkF m 19 #[.val (.ref a1)] [(.ref a1), (.ref a1)])) t → Steps p.tables e below (T59.setTop (mkF m 17 #[.val (.ref a1)] [])) t := by
    intro t kt
    show Steps p.tables e below (T59.setTop (mkF m 17 #[.val (.ref a1)] [])) _
    refine XS.aloadN X59.here hx rfl (hb hby d1_17) rfl rfl ?_
    show Steps p.tables e below (T59.setTop (mkF m 18 #[.val (.ref a1)] [(.ref a1)])) _
    refine XS.aloadN X59.here hx rfl (hb hby d1_18) rfl rfl ?_
    exact kt
  obtain ⟨T63, X63, e63, st63⟩ := getF X59 hx hZ hown (host := "") (Or.inl (hw _ (List.mem_of_getElem? (i := 20) rfl))) Via.refl e59 Fw59 (g := (mkF m 19 #[.val (.ref a1)] [(.ref a1), (.ref a1)])) rfl rfl (hb hby d1_19)
  have f64 := (((F41.ext E45).keep K52q (ninS ne_a1_b45 nin0)).other W59 (Or.inr (slot_ne (Or.inl (hw _ (List.mem_of_getElem? (i := 23) rfl))) (Or.inl (hw _ (List.mem_of_getElem? (i := 21) rfl))) (by decide) (t := (.object "tidegate/operator/Crossings$Batch")) (t' := (.object "tidegate/operator/Crossings$Batch")) (by decide) (by decide))))
  have f65 := (f58.wr W59)
  obtain ⟨T66, h66, X66, e66, W66, st66⟩ := putF X63 hx hZ hown (host := "") (Or.inl (hw _ (List.mem_of_getElem? (i := 22) rfl))) Via.refl e63 f64 f65 (Or.inl (hw _ (List.mem_of_getElem? (i := 23) rfl))) (hw _ (List.mem_of_getElem? (i := 1) rfl)) (ty := (.object "tidegate/operator/Crossings$Batch")) (by decide) rfl rfl (g := (mkF m 22 #[.val (.ref a1)] [(.ref b45), (.ref a1)])) rfl rfl (hb hby d1_22)
  have z67 : n0 ≤ h66.size := Nat.le_trans z60 (Keep.of_wr W66).1
  have N68 := Fr.snoc X66 N61 g_a1
  have Fw66 := f64.same W66
  have C69 : ∀ t, Steps p.tables e below (T66.setTop (mkF m 25 #[.val (.ref a1)] [])) t → Steps p.tables e below (s₁.setTop (mkF m 0 #[.val (.ref a1)] [])) t := (fun t k => (S42 t (st43 t (S44 t (st45 t (S51 t (st52.trans (st59 t (S62 t (st63 t (st66 t k)))))))))))
  obtain ⟨fs, hr, hrun, hended, hW, hsame⟩ := X66.leave (v := none) (fun _ => rfl)
  refine ⟨_, _, pre0 _ (C69 _ ?_), hrun, hended, _, _, rfl, ?_, ⟨_, rfl⟩, hW, hsame.mono (by decide) (by decide)⟩
  · exact X66.returnOut hx Bd.returns (hb hby d1_25) hr
  · show Q_rm1 Z a1 h0 n0 _ T66.heap _
    rw [e66]
    have f70 := (((A45.keep K52q).wr W59).wr W66)
    have f71 := (Fw59.other W66 (Or.inr (slot_ne (Or.inl (hw _ (List.mem_of_getElem? (i := 21) rfl))) (Or.inl (hw _ (List.mem_of_getElem? (i := 23) rfl))) (by decide) (t := (.object "tidegate/operator/Crossings$Batch")) (t' := (.object "tidegate/operator/Crossings$Batch")) (by decide) (by decide))))
    have f72 := ((F53.other W59 (Or.inl (Ne.symm ne_a1_b45))).other W66 (Or.inl (Ne.symm ne_a1_b45)))
    have f73 := ((F54.other W59 (Or.inl (Ne.symm ne_a1_b45))).other W66 (Or.inl (Ne.symm ne_a1_b45)))
    have f74 := ((F55.other W59 (Or.inl (Ne.symm ne_a1_b45))).other W66 (Or.inl (Ne.symm ne_a1_b45)))
    exact ⟨b45, rfl, N68, ((((K46.ext E45).trans K52q (allS (Or.inr sz_b45) all0)).wr W59 (Or.inl (List.mem_of_getElem? (i := 0) rfl))).wr W66 (Or.inl (List.mem_of_getElem? (i := 0) rfl))), sz_b45, f70, f71, Fw66, ⟨_, _, f72, f73, f74⟩⟩
theorem ef_rm5 (m : MethodId) (x0 : Addr) : entryFrame m #[(.ref x0)] 1 = mkF m 0 #[.val (.ref x0)] [] := by first | (simp [entryFrame, mkF, argsToLocals, Value.category]; done) | rfl
def Q_rm5 (Z : State) (a1 : Addr) (h0 : Heap) (n0 : Nat) (v : Option Value) (h : Heap) (L : List Loc) : Prop := v = none ∧ Fr n0 L ∧ Keep h0 h [a1]
set_option maxRecDepth 65536 in
set_option maxHeartbeats 40000000 in
theorem rm5 (l : Launch) (Z : State) (a0 : Array Value) (hw : ∀ d ∈ tables_1, d.before a0 Z = true) (ws : List Jvm.Cond) (a1 : Addr) (h0 : Heap) (n0 : Nat) (Z0 : n0 ≤ h0.size) (F75 : Exa Z h0 a1 "tidegate/operator/StageFunctions$Indices") (F76 : Fld Z h0 a1 "tidegate/operator/StageFunctions$Indices" "at" "[I" .null) (g_a1 : n0 ≤ a1) :
    MetFree l (⟨"tidegate/operator/StageFunctions$Indices", "<init>", "()V"⟩ : MethodName) (head1 (Jvm.Cond.code (⟨"tidegate/operator/StageFunctions$Indices", "<init>", "()V"⟩ : MethodName) prog_196_method_1_code 1 none :: ws) ({ frames := 1, cells := 1, slots := 0, locals := 12 } : Room)) (fun a U => a = #[(.ref a1)] ∧ Z.Warmed39 U.vm ∧ U.heap = h0) (fun _ _ _ _ _ => True) (fun _ U o U' => ∃ v L, o = .returned v ∧ Q_rm5 Z a1 h0 n0 v U'.heap L ∧ FrameEnd U o U' L ({ frames := 1, cells := 1, slots := 0, locals := 12 } : Room).cells ({ frames := 1, cells := 1, slots := 0, locals := 12 } : Room).slots) := by
  refine MetFree.of_bodySF (plainFor_of_name pn_2) hisR ?_
  intro p e s m args below meth c s₁ Bd hml0 hP hK
  obtain ⟨rfl, hZ, hh⟩ := hP
  have hx := Bd.exec
  have hby := Bd.bytes
  have hml : c.maxLocals = 1 := hml0
  have hown : s.vm.findClass "tidegate/operator/StageFunctions$Indices" = some m.cls := findClass_of_methodNamed Bd.named
  have hnm := (name_of_methodNamed Bd.named Bd.method).1
  have X0 : Stand p l e ({ frames := 1, cells := 1, slots := 0, locals := 12 } : Room) s m #[(.ref a1)] below meth c s₁ [] 0 0 := Stand.of_body Bd
  have e0 : s₁.heap = h0 := by rw [← hh, Bd.state]; rfl
  have N0 := Fr.nil n0
  have pre0 : ∀ t, Steps p.tables e below (s₁.setTop (mkF m 0 #[.val (.ref a1)] [])) t → Steps p.tables e below (s₁.setTop (entryFrame m #[(.ref a1)] 1)) t := fun t k => castTop (ef_rm5 m a1) k
  have S77 : ∀ t, Steps p.tables e below (s₁.setTop (mkF m 1 #[.val (.ref a1)] [(.ref a1)])) t → Steps p.tables e below (s₁.setTop (mkF m 0 #[.val (.ref a1)] [])) t := by
    intro t kt
    show Steps p.tables e below (s₁.setTop (mkF m 0 #[.val (.ref a1)] [])) _
    refine XS.aloadN X0.here hx rfl (hb hby d5_0) rfl rfl ?_
    exact kt
  obtain ⟨T78, X78, e78, st78⟩ := initO X0 hx hZ hown (hw _ (List.mem_of_getElem? (i := 49) rfl)) (hw _ (List.mem_of_getElem? (i := 7) rfl)) (hw _ (List.mem_of_getElem? (i := 8) rfl)) e0 (g := (mkF m 1 #[.val (.ref a1)] [(.ref a1)])) rfl (by rw [hml]; rfl) rfl (hb hby d5_1) (by decide) (W := 0) (by show 2 * 0 + _ ≤ _; exact Nat.le_of_eq rfl) (by decide)
  have S79 : ∀ t, Steps p.tables e below (T78.setTop (mkF m 6 #[.val (.ref a1)] [(.int (0 : Int32)), (.ref a1)])) t → Steps p.tables e below (T78.setTop (mkF m 4 #[.val (.ref a1)] [])) t := by
    intro t kt
    show Steps p.tables e below (T78.setTop (mkF m 4 #[.val (.ref a1)] [])) _
    refine XS.aloadN X78.here hx rfl (hb hby d5_4) rfl rfl ?_
    show Steps p.tables e below (T78.setTop (mkF m 5 #[.val (.ref a1)] [(.ref a1)])) _
    refine XS.iconst X78.here hx rfl (hb hby d5_5) ?_
    exact kt
  obtain ⟨T80, h80, k80, X80, e80, E80, A80, st80⟩ := newP X78 hx hZ (hw _ (List.mem_of_getElem? (i := 50) rfl)) e78 (g := (mkF m 6 #[.val (.ref a1)] [(.int (0 : Int32)), (.ref a1)])) rfl (hb hby d5_6) rfl (by decide) (cap := 0) (by decide) (by decide) (by decide) (by decide)
  obtain ⟨b80, g80⟩ : ∃ z, z = h0.size := ⟨_, rfl⟩
  rw [← g80] at A80 st80
  have g_b80 : n0 ≤ b80 := Nat.le_trans Z0 (Nat.le_of_eq g80.symm)
  have K81 := (Keep.refl h0 [a1])
  have sz_b80 : h0.size ≤ b80 := Nat.le_trans K81.1 (Nat.le_of_eq g80.symm)
  have ne_a1_b80 : a1 ≠ b80 := Nat.ne_of_lt (Nat.lt_of_lt_of_le F75.lt (Nat.le_of_eq g80.symm))
  have z82 : n0 ≤ h80.size := Nat.le_trans Z0 E80.1
  have V80 : ArF Z h80 b80 .int 0 (fun _ => (.int (0 : Int32))) := ArF.new A80 (by decide) rfl
  have f83 := (F76.ext E80)
  have f84 := (F75.ext E80)
  obtain ⟨T85, h85, X85, e85, W85, st85⟩ := putF X80 hx hZ hown (host := "") (Or.inl (hw _ (List.mem_of_getElem? (i := 51) rfl))) Via.refl e80 f83 f84 (Or.inl (hw _ (List.mem_of_getElem? (i := 52) rfl))) (hw _ (List.mem_of_getElem? (i := 44) rfl)) (ty := (.array .int)) (by decide) rfl rfl (g := (mkF m 8 #[.val (.ref a1)] [(.ref b80), (.ref a1)])) rfl rfl (hb hby d5_8)
  have z86 : n0 ≤ h85.size := Nat.le_trans z82 (Keep.of_wr W85).1
  have N87 := Fr.snoc X85 N0 g_a1
  have Fw85 := f83.same W85
  have C88 : ∀ t, Steps p.tables e below (T85.setTop (mkF m 11 #[.val (.ref a1)] [])) t → Steps p.tables e below (s₁.setTop (mkF m 0 #[.val (.ref a1)] [])) t := (fun t k => (S77 t (st78 t (S79 t (st80 t (st85 t k))))))
  obtain ⟨fs, hr, hrun, hended, hW, hsame⟩ := X85.leave (v := none) (fun _ => rfl)
  refine ⟨_, _, pre0 _ (C88 _ ?_), hrun, hended, _, _, rfl, ?_, ⟨_, rfl⟩, hW, hsame.mono (by decide) (by decide)⟩
  · exact X85.returnOut hx Bd.returns (hb hby d5_11) hr
  · show Q_rm5 Z a1 h0 n0 _ T85.heap _
    rw [e85]
    exact ⟨rfl, N87, ((K81.ext E80).wr W85 (Or.inl (List.mem_of_getElem? (i := 0) rfl)))⟩
theorem ef_rm4 (m : MethodId) (x0 : Addr) : entryFrame m #[(.ref x0)] 1 = mkF m 0 #[.val (.ref x0)] [] := by first | (simp [entryFrame, mkF, argsToLocals, Value.category]; done) | rfl
def Q_rm4 (Z : State) (a1 : Addr) (h0 : Heap) (n0 : Nat) (v : Option Value) (h : Heap) (L : List Loc) : Prop := v = none ∧ Fr n0 L ∧ Keep h0 h [a1]
set_option maxRecDepth 65536 in
set_option maxHeartbeats 40000000 in
theorem rm4 (l : Launch) (Z : State) (a0 : Array Value) (hw : ∀ d ∈ tables_1, d.before a0 Z = true) (ws : List Jvm.Cond) (a1 : Addr) (h0 : Heap) (n0 : Nat) (Z0 : n0 ≤ h0.size) (F89 : Exa Z h0 a1 "tidegate/operator/StageFunctions") (F90 : Fld Z h0 a1 "tidegate/operator/StageFunctions" "kinds" "[Ltidegate/operator/OperatorPublisher$Kind;" .null) (F91 : Fld Z h0 a1 "tidegate/operator/StageFunctions" "entries" "[Ljava/lang/Object;" .null) (F92 : Fld Z h0 a1 "tidegate/operator/StageFunctions" "stages" "[Ljava/lang/String;" .null) (F93 : Fld Z h0 a1 "tidegate/operator/StageFunctions" "counting" "Ltidegate/operator/StageFunctions$Indices;" .null) (F94 : Fld Z h0 a1 "tidegate/operator/StageFunctions" "shaping" "Ltidegate/operator/StageFunctions$Indices;" .null) (F95 : Fld Z h0 a1 "tidegate/operator/StageFunctions" "producers" "Ltidegate/operator/StageFunctions$Indices;" .null) (F96 : Fld Z h0 a1 "tidegate/operator/StageFunctions" "referees" "Ltidegate/operator/StageFunctions$Indices;" .null) (g_a1 : n0 ≤ a1) :
    MetFree l (⟨"tidegate/operator/StageFunctions", "<init>", "()V"⟩ : MethodName) (head1 (Jvm.Cond.code (⟨"tidegate/operator/StageFunctions", "<init>", "()V"⟩ : MethodName) prog_193_method_1_code 1 none :: ws) ({ frames := 2, cells := 11, slots := 8, locals := 26 } : Room)) (fun a U => a = #[(.ref a1)] ∧ Z.Warmed39 U.vm ∧ U.heap = h0) (fun _ _ _ _ _ => True) (fun _ U o U' => ∃ v L, o = .returned v ∧ Q_rm4 Z a1 h0 n0 v U'.heap L ∧ FrameEnd U o U' L ({ frames := 2, cells := 11, slots := 8, locals := 26 } : Room).cells ({ frames := 2, cells := 11, slots := 8, locals := 26 } : Room).slots) := by
  refine MetFree.of_bodySF (plainFor_of_name pn_3) hisR ?_
  intro p e s m args below meth c s₁ Bd hml0 hP hK
  obtain ⟨rfl, hZ, hh⟩ := hP
  have hx := Bd.exec
  have hby := Bd.bytes
  have hml : c.maxLocals = 1 := hml0
  have hown : s.vm.findClass "tidegate/operator/StageFunctions" = some m.cls := findClass_of_methodNamed Bd.named
  have hnm := (name_of_methodNamed Bd.named Bd.method).1
  have X0 : Stand p l e ({ frames := 2, cells := 11, slots := 8, locals := 26 } : Room) s m #[(.ref a1)] below meth c s₁ [] 0 0 := Stand.of_body Bd
  have e0 : s₁.heap = h0 := by rw [← hh, Bd.state]; rfl
  have N0 := Fr.nil n0
  have pre0 : ∀ t, Steps p.tables e below (s₁.setTop (mkF m 0 #[.val (.ref a1)] [])) t → Steps p.tables e below (s₁.setTop (entryFrame m #[(.ref a1)] 1)) t := fun t k => castTop (ef_rm4 m a1) k
  have S97 : ∀ t, Steps p.tables e below (s₁.setTop (mkF m 1 #[.val (.ref a1)] [(.ref a1)])) t → Steps p.tables e below (s₁.setTop (mkF m 0 #[.val (.ref a1)] [])) t := by
    intro t kt
    show Steps p.tables e below (s₁.setTop (mkF m 0 #[.val (.ref a1)] [])) _
    refine XS.aloadN X0.here hx rfl (hb hby d4_0) rfl rfl ?_
    exact kt
  obtain ⟨T98, X98, e98, st98⟩ := initO X0 hx hZ hown (hw _ (List.mem_of_getElem? (i := 30) rfl)) (hw _ (List.mem_of_getElem? (i := 7) rfl)) (hw _ (List.mem_of_getElem? (i := 8) rfl)) e0 (g := (mkF m 1 #[.val (.ref a1)] [(.ref a1)])) rfl (by rw [hml]; rfl) rfl (hb hby d4_1) (by decide) (W := 0) (by show 2 * 0 + _ ≤ _; exact Nat.le_of_eq rfl) (by decide)
  have S99 : ∀ t, Steps p.tables e below (T98.setTop (mkF m 6 #[.val (.ref a1)] [(.int (0 : Int32)), (.ref a1)])) t → Steps p.tables e below (T98.setTop (mkF m 4 #[.val (.ref a1)] [])) t := by
    intro t kt
    show Steps p.tables e below (T98.setTop (mkF m 4 #[.val (.ref a1)] [])) _
    refine XS.aloadN X98.here hx rfl (hb hby d4_4) rfl rfl ?_
    show Steps p.tables e below (T98.setTop (mkF m 5 #[.val (.ref a1)] [(.ref a1)])) _
    refine XS.iconst X98.here hx rfl (hb hby d4_5) ?_
    exact kt
  obtain ⟨T100, h100, k100, X100, e100, E100, A100, O100, st100⟩ := newR X98 hx hZ hown (hw _ (List.mem_of_getElem? (i := 31) rfl)) (hw _ (List.mem_of_getElem? (i := 32) rfl)) e98 (g := (mkF m 6 #[.val (.ref a1)] [(.int (0 : Int32)), (.ref a1)])) rfl (hb hby d4_6) rfl (by decide) (cap := 0) (by decide) (by decide) (by decide) (by decide)
  obtain ⟨b100, g100⟩ : ∃ z, z = h0.size := ⟨_, rfl⟩
  rw [← g100] at A100 st100
  have g_b100 : n0 ≤ b100 := Nat.le_trans Z0 (Nat.le_of_eq g100.symm)
  have K101 := (Keep.refl h0 [a1])
  have sz_b100 : h0.size ≤ b100 := Nat.le_trans K101.1 (Nat.le_of_eq g100.symm)
  have ne_a1_b100 : a1 ≠ b100 := Nat.ne_of_lt (Nat.lt_of_lt_of_le F89.lt (Nat.le_of_eq g100.symm))
  have z102 : n0 ≤ h100.size := Nat.le_trans Z0 E100.1
  have f103 := (F90.ext E100)
  have f104 := (F89.ext E100)
  obtain ⟨T105, h105, X105, e105, W105, st105⟩ := putF X100 hx hZ hown (host := "") (Or.inl (hw _ (List.mem_of_getElem? (i := 33) rfl))) Via.refl e100 f103 f104 (Or.inl (hw _ (List.mem_of_getElem? (i := 34) rfl))) (hw _ (List.mem_of_getElem? (i := 25) rfl)) (ty := (.array (.object "tidegate/operator/OperatorPublisher$Kind"))) (by decide) rfl rfl (g := (mkF m 9 #[.val (.ref a1)] [(.ref b100), (.ref a1)])) rfl rfl (hb hby d4_9)
  have z106 : n0 ≤ h105.size := Nat.le_trans z102 (Keep.of_wr W105).1
  have N107 := Fr.snoc X105 N0 g_a1
  have Fw105 := f103.same W105
  have S108 : ∀ t, Steps p.tables e below (T105.setTop (mkF m 14 #[.val (.ref a1)] [(.int (0 : Int32)), (.ref a1)])) t → Steps p.tables e below (T105.setTop (mkF m 12 #[.val (.ref a1)] [])) t := by
    intro t kt
    show Steps p.tables e below (T105.setTop (mkF m 12 #[.val (.ref a1)] [])) _
    refine XS.aloadN X105.here hx rfl (hb hby d4_12) rfl rfl ?_
    show Steps p.tables e below (T105.setTop (mkF m 13 #[.val (.ref a1)] [(.ref a1)])) _
    refine XS.iconst X105.here hx rfl (hb hby d4_13) ?_
    exact kt
  obtain ⟨T109, h109, k109, X109, e109, E109, A109, O109, st109⟩ := newR X105 hx hZ hown (hw _ (List.mem_of_getElem? (i := 35) rfl)) (hw _ (List.mem_of_getElem? (i := 36) rfl)) e105 (g := (mkF m 14 #[.val (.ref a1)] [(.int (0 : Int32)), (.ref a1)])) rfl (hb hby d4_14) rfl (by decide) (cap := 0) (by decide) (by decide) (by decide) (by decide)
  obtain ⟨b109, g109⟩ : ∃ z, z = h105.size := ⟨_, rfl⟩
  rw [← g109] at A109 st109
  have g_b109 : n0 ≤ b109 := Nat.le_trans z106 (Nat.le_of_eq g109.symm)
  have K110 := ((K101.ext E100).wr W105 (Or.inl (List.mem_of_getElem? (i := 0) rfl)))
  have sz_b109 : h0.size ≤ b109 := Nat.le_trans K110.1 (Nat.le_of_eq g109.symm)
  have f111 := (f104.wr W105)
  have ne_a1_b109 : a1 ≠ b109 := Nat.ne_of_lt (Nat.lt_of_lt_of_le f111.lt (Nat.le_of_eq g109.symm))
  have z112 : n0 ≤ h109.size := Nat.le_trans z106 E109.1
  have f113 := (((F91.ext E100).other W105 (Or.inr (slot_ne (Or.inl (hw _ (List.mem_of_getElem? (i := 38) rfl))) (Or.inl (hw _ (List.mem_of_getElem? (i := 34) rfl))) (by decide) (t := (.array (.object "java/lang/Object"))) (t' := (.array (.object "tidegate/operator/OperatorPublisher$Kind"))) (by decide) (by decide)))).ext E109)
  have f114 := (f111.ext E109)
  obtain ⟨T115, h115, X115, e115, W115, st115⟩ := putF X109 hx hZ hown (host := "") (Or.inl (hw _ (List.mem_of_getElem? (i := 37) rfl))) Via.refl e109 f113 f114 (Or.inl (hw _ (List.mem_of_getElem? (i := 38) rfl))) (hw _ (List.mem_of_getElem? (i := 25) rfl)) (ty := (.array (.object "java/lang/Object"))) (by decide) rfl rfl (g := (mkF m 17 #[.val (.ref a1)] [(.ref b109), (.ref a1)])) rfl rfl (hb hby d4_17)
  have z116 : n0 ≤ h115.size := Nat.le_trans z112 (Keep.of_wr W115).1
  have N117 := Fr.snoc X115 N107 g_a1
  have Fw115 := f113.same W115
  have S118 : ∀ t, Steps p.tables e below (T115.setTop (mkF m 22 #[.val (.ref a1)] [(.int (0 : Int32)), (.ref a1)])) t → Steps p.tables e below (T115.setTop (mkF m 20 #[.val (.ref a1)] [])) t := by
    intro t kt
    show Steps p.tables e below (T115.setTop (mkF m 20 #[.val (.ref a1)] [])) _
    refine XS.aloadN X115.here hx rfl (hb hby d4_20) rfl rfl ?_
    show Steps p.tables e below (T115.setTop (mkF m 21 #[.val (.ref a1)] [(.ref a1)])) _
    refine XS.iconst X115.here hx rfl (hb hby d4_21) ?_
    exact kt
  obtain ⟨T119, h119, k119, X119, e119, E119, A119, O119, st119⟩ := newR X115 hx hZ hown (hw _ (List.mem_of_getElem? (i := 39) rfl)) (hw _ (List.mem_of_getElem? (i := 40) rfl)) e115 (g := (mkF m 22 #[.val (.ref a1)] [(.int (0 : Int32)), (.ref a1)])) rfl (hb hby d4_22) rfl (by decide) (cap := 0) (by decide) (by decide) (by decide) (by decide)
  obtain ⟨b119, g119⟩ : ∃ z, z = h115.size := ⟨_, rfl⟩
  rw [← g119] at A119 st119
  have g_b119 : n0 ≤ b119 := Nat.le_trans z116 (Nat.le_of_eq g119.symm)
  have K120 := ((K110.ext E109).wr W115 (Or.inl (List.mem_of_getElem? (i := 0) rfl)))
  have sz_b119 : h0.size ≤ b119 := Nat.le_trans K120.1 (Nat.le_of_eq g119.symm)
  have f121 := (f114.wr W115)
  have ne_a1_b119 : a1 ≠ b119 := Nat.ne_of_lt (Nat.lt_of_lt_of_le f121.lt (Nat.le_of_eq g119.symm))
  have z122 : n0 ≤ h119.size := Nat.le_trans z116 E119.1
  have f123 := (((((F92.ext E100).other W105 (Or.inr (slot_ne (Or.inl (hw _ (List.mem_of_getElem? (i := 42) rfl))) (Or.inl (hw _ (List.mem_of_getElem? (i := 34) rfl))) (by decide) (t := (.array (.object "java/lang/String"))) (t' := (.array (.object "tidegate/operator/OperatorPublisher$Kind"))) (by decide) (by decide)))).ext E109).other W115 (Or.inr (slot_ne (Or.inl (hw _ (List.mem_of_getElem? (i := 42) rfl))) (Or.inl (hw _ (List.mem_of_getElem? (i := 38) rfl))) (by decide) (t := (.array (.object "java/lang/String"))) (t' := (.array (.object "java/lang/Object"))) (by decide) (by decide)))).ext E119)
  have f124 := (f121.ext E119)
  obtain ⟨T125, h125, X125, e125, W125, st125⟩ := putF X119 hx hZ hown (host := "") (Or.inl (hw _ (List.mem_of_getElem? (i := 41) rfl))) Via.refl e119 f123 f124 (Or.inl (hw _ (List.mem_of_getElem? (i := 42) rfl))) (hw _ (List.mem_of_getElem? (i := 25) rfl)) (ty := (.array (.object "java/lang/String"))) (by decide) rfl rfl (g := (mkF m 25 #[.val (.ref a1)] [(.ref b119), (.ref a1)])) rfl rfl (hb hby d4_25)
  have z126 : n0 ≤ h125.size := Nat.le_trans z122 (Keep.of_wr W125).1
  have N127 := Fr.snoc X125 N117 g_a1
  have Fw125 := f123.same W125
  have S128 : ∀ t, Steps p.tables e below (T125.setTop (mkF m 29 #[.val (.ref a1)] [(.ref a1)])) t → Steps p.tables e below (T125.setTop (mkF m 28 #[.val (.ref a1)] [])) t := by
    intro t kt
    show Steps p.tables e below (T125.setTop (mkF m 28 #[.val (.ref a1)] [])) _
    refine XS.aloadN X125.here hx rfl (hb hby d4_28) rfl rfl ?_
    exact kt
  obtain ⟨T129, h129, X129, e129, E129, A129, D129, -, st129⟩ := newO X125 hx hZ hown (hw _ (List.mem_of_getElem? (i := 43) rfl)) (hw _ (List.mem_of_getElem? (i := 44) rfl)) (hw _ (List.mem_of_getElem? (i := 45) rfl)) e125 (g := (mkF m 29 #[.val (.ref a1)] [(.ref a1)])) rfl (hb hby d4_29) (by decide) (by decide)
  obtain ⟨b129, g129⟩ : ∃ z, z = h125.size := ⟨_, rfl⟩
  rw [← g129] at A129 D129 st129
  have g_b129 : n0 ≤ b129 := Nat.le_trans z126 (Nat.le_of_eq g129.symm)
  have K130 := ((K120.ext E119).wr W125 (Or.inl (List.mem_of_getElem? (i := 0) rfl)))
  have sz_b129 : h0.size ≤ b129 := Nat.le_trans K130.1 (Nat.le_of_eq g129.symm)
  have f131 := (f124.wr W125)
  have ne_a1_b129 : a1 ≠ b129 := Nat.ne_of_lt (Nat.lt_of_lt_of_le f131.lt (Nat.le_of_eq g129.symm))
  have z132 : n0 ≤ h129.size := Nat.le_trans z126 E129.1
  have F133 : Fld Z h129 b129 "tidegate/operator/StageFunctions$Indices" "at" "[I" .null := D129 (Or.inl (hw _ (List.mem_of_getElem? (i := 52) rfl))) (ty := (.array .int)) (by decide)
  have S134 : ∀ t, Steps p.tables e below (T129.setTop (mkF m 33 #[.val (.ref a1)] [(.ref b129), (.ref b129), (.ref a1)])) t → Steps p.tables e below (T129.setTop (mkF m 32 #[.val (.ref a1)] [(.ref b129), (.ref a1)])) t := by
    intro t kt
    show Steps p.tables e below (T129.setTop (mkF m 32 #[.val (.ref a1)] [(.ref b129), (.ref a1)])) _
    refine XS.dup X129.here hx rfl (hb hby d4_32) rfl rfl ?_
    exact kt
  obtain ⟨_, _, ⟨T135, L135, k135, n135⟩, -, X135, ⟨Lc135, hQ135, l135, y135, z135⟩, st135⟩ := own_specialR X129 hx hZ (y := (⟨"tidegate/operator/StageFunctions$Indices", "<init>", "()V"⟩ : MethodName)) rfl hown (hw _ (List.mem_of_getElem? (i := 46) rfl)) (hw _ (List.mem_of_getElem? (i := 47) rfl)) (hw _ (List.mem_of_getElem? (i := 48) rfl)) (by decide) (backOf (W := 2) (rm5 l Z a0 hw [] b129 h129 n0 z132 A129 F133 g_b129) hZ (hw _ (List.mem_of_getElem? (i := 48) rfl)) (hw _ (List.mem_of_getElem? (i := 45) rfl)) (by decide) (by decide)) (g := (mkF m 33 #[.val (.ref a1)] [(.ref b129), (.ref b129), (.ref a1)])) rfl (by rw [hml]; rfl) (a := b129) (argsL := []) (rest := [(.ref b129), (.ref a1)]) (lenOf pd_1 rfl) rfl (by show 2 * 0 + _ ≤ _; exact Nat.le_of_eq rfl) (hb hby d4_33) (fun _ _ => ⟨rfl, e129, (by decide : 4 + 1 ≤ _), (by decide : 2 + 0 ≤ _)⟩)
  dsimp only [Pt.U, Pt.locs, Pt.cells, Pt.slots] at X135 l135 y135 z135 st135 hQ135
  subst l135 y135 z135
  obtain ⟨h135, e135⟩ : ∃ z, T135.heap = z := ⟨_, rfl⟩
  rw [e135] at hQ135
  obtain ⟨rfl, N135q, K135q⟩ := hQ135
  have z136 : n0 ≤ h135.size := Nat.le_trans z132 K135q.1
  have N135 := Fr.app N127 N135q
  have f137 := ((((((((F93.ext E100).other W105 (Or.inr (slot_ne (Or.inr (hw _ (List.mem_of_getElem? (i := 54) rfl))) (Or.inl (hw _ (List.mem_of_getElem? (i := 34) rfl))) (by decide) (t := (.object "tidegate/operator/StageFunctions$Indices")) (t' := (.array (.object "tidegate/operator/OperatorPublisher$Kind"))) (by decide) (by decide)))).ext E109).other W115 (Or.inr (slot_ne (Or.inr (hw _ (List.mem_of_getElem? (i := 54) rfl))) (Or.inl (hw _ (List.mem_of_getElem? (i := 38) rfl))) (by decide) (t := (.object "tidegate/operator/StageFunctions$Indices")) (t' := (.array (.object "java/lang/Object"))) (by decide) (by decide)))).ext E119).other W125 (Or.inr (slot_ne (Or.inr (hw _ (List.mem_of_getElem? (i := 54) rfl))) (Or.inl (hw _ (List.mem_of_getElem? (i := 42) rfl))) (by decide) (t := (.object "tidegate/operator/StageFunctions$Indices")) (t' := (.array (.object "java/lang/String"))) (by decide) (by decide)))).ext E129).keep K135q (ninS ne_a1_b129 nin0))
  have f138 := ((f131.ext E129).keep K135q)
  obtain ⟨T139, h139, X139, e139, W139, st139⟩ := putF X135 hx hZ hown (host := "") (Or.inl (hw _ (List.mem_of_getElem? (i := 53) rfl))) Via.refl e135 f137 f138 (Or.inr ⟨(hw _ (List.mem_of_getElem? (i := 54) rfl)), rfl, hnm⟩) (hw _ (List.mem_of_getElem? (i := 25) rfl)) (ty := (.object "tidegate/operator/StageFunctions$Indices")) (by decide) rfl rfl (g := (mkF m 36 #[.val (.ref a1)] [(.ref b129), (.ref a1)])) rfl rfl (hb hby d4_36)
  have z140 : n0 ≤ h139.size := Nat.le_trans z136 (Keep.of_wr W139).1
  have N141 := Fr.snoc X139 N135 g_a1
  have Fw139 := f137.same W139
  have S142 : ∀ t, Steps p.tables e below (T139.setTop (mkF m 40 #[.val (.ref a1)] [(.ref a1)])) t → Steps p.tables e below (T139.setTop (mkF m 39 #[.val (.ref a1)] [])) t := by
    intro t kt
    show Steps p.tables e below (T139.setTop (mkF m 39 #[.val (.ref a1)] [])) _
    refine XS.aloadN X139.here hx rfl (hb hby d4_39) rfl rfl ?_
    exact kt
  obtain ⟨T143, h143, X143, e143, E143, A143, D143, -, st143⟩ := newO X139 hx hZ hown (hw _ (List.mem_of_getElem? (i := 43) rfl)) (hw _ (List.mem_of_getElem? (i := 44) rfl)) (hw _ (List.mem_of_getElem? (i := 45) rfl)) e139 (g := (mkF m 40 #[.val (.ref a1)] [(.ref a1)])) rfl (hb hby d4_40) (by decide) (by decide)
  obtain ⟨b143, g143⟩ : ∃ z, z = h139.size := ⟨_, rfl⟩
  rw [← g143] at A143 D143 st143
  have g_b143 : n0 ≤ b143 := Nat.le_trans z140 (Nat.le_of_eq g143.symm)
  have K144 := (((K130.ext E129).trans K135q (allS (Or.inr sz_b129) all0)).wr W139 (Or.inl (List.mem_of_getElem? (i := 0) rfl)))
  have sz_b143 : h0.size ≤ b143 := Nat.le_trans K144.1 (Nat.le_of_eq g143.symm)
  have f145 := (f138.wr W139)
  have ne_a1_b143 : a1 ≠ b143 := Nat.ne_of_lt (Nat.lt_of_lt_of_le f145.lt (Nat.le_of_eq g143.symm))
  have f146 := ((A129.keep K135q).wr W139)
  have ne_b129_b143 : b129 ≠ b143 := Nat.ne_of_lt (Nat.lt_of_lt_of_le f146.lt (Nat.le_of_eq g143.symm))
  have z147 : n0 ≤ h143.size := Nat.le_trans z140 E143.1
  have F148 : Fld Z h143 b143 "tidegate/operator/StageFunctions$Indices" "at" "[I" .null := D143 (Or.inl (hw _ (List.mem_of_getElem? (i := 52) rfl))) (ty := (.array .int)) (by decide)
  have S149 : ∀ t, Steps p.tables e below (T143.setTop (mkF m 44 #[.val (.ref a1)] [(.ref b143), (.ref b143), (.ref a1)])) t → Steps p.tables e below (T143.setTop (mkF m 43 #[.val (.ref a1)] [(.ref b143), (.ref a1)])) t := by
    intro t kt
    show Steps p.tables e below (T143.setTop (mkF m 43 #[.val (.ref a1)] [(.ref b143), (.ref a1)])) _
    refine XS.dup X143.here hx rfl (hb hby d4_43) rfl rfl ?_
    exact kt
  obtain ⟨_, _, ⟨T150, L150, k150, n150⟩, -, X150, ⟨Lc150, hQ150, l150, y150, z150⟩, st150⟩ := own_specialR X143 hx hZ (y := (⟨"tidegate/operator/StageFunctions$Indices", "<init>", "()V"⟩ : MethodName)) rfl hown (hw _ (List.mem_of_getElem? (i := 46) rfl)) (hw _ (List.mem_of_getElem? (i := 47) rfl)) (hw _ (List.mem_of_getElem? (i := 48) rfl)) (by decide) (backOf (W := 2) (rm5 l Z a0 hw [] b143 h143 n0 z147 A143 F148 g_b143) hZ (hw _ (List.mem_of_getElem? (i := 48) rfl)) (hw _ (List.mem_of_getElem? (i := 45) rfl)) (by decide) (by decide)) (g := (mkF m 44 #[.val (.ref a1)] [(.ref b143), (.ref b143), (.ref a1)])) rfl (by rw [hml]; rfl) (a := b143) (argsL := []) (rest := [(.ref b143), (.ref a1)]) (lenOf pd_1 rfl) rfl (by show 2 * 0 + _ ≤ _; exact Nat.le_of_eq rfl) (hb hby d4_44) (fun _ _ => ⟨rfl, e143, (by decide : 6 + 1 ≤ _), (by decide : 4 + 0 ≤ _)⟩)
  dsimp only [Pt.U, Pt.locs, Pt.cells, Pt.slots] at X150 l150 y150 z150 st150 hQ150
  subst l150 y150 z150
  obtain ⟨h150, e150⟩ : ∃ z, T150.heap = z := ⟨_, rfl⟩
  rw [e150] at hQ150
  obtain ⟨rfl, N150q, K150q⟩ := hQ150
  have z151 : n0 ≤ h150.size := Nat.le_trans z147 K150q.1
  have N150 := Fr.app N141 N150q
  have f152 := (((((((((((F94.ext E100).other W105 (Or.inr (slot_ne (Or.inr (hw _ (List.mem_of_getElem? (i := 56) rfl))) (Or.inl (hw _ (List.mem_of_getElem? (i := 34) rfl))) (by decide) (t := (.object "tidegate/operator/StageFunctions$Indices")) (t' := (.array (.object "tidegate/operator/OperatorPublisher$Kind"))) (by decide) (by decide)))).ext E109).other W115 (Or.inr (slot_ne (Or.inr (hw _ (List.mem_of_getElem? (i := 56) rfl))) (Or.inl (hw _ (List.mem_of_getElem? (i := 38) rfl))) (by decide) (t := (.object "tidegate/operator/StageFunctions$Indices")) (t' := (.array (.object "java/lang/Object"))) (by decide) (by decide)))).ext E119).other W125 (Or.inr (slot_ne (Or.inr (hw _ (List.mem_of_getElem? (i := 56) rfl))) (Or.inl (hw _ (List.mem_of_getElem? (i := 42) rfl))) (by decide) (t := (.object "tidegate/operator/StageFunctions$Indices")) (t' := (.array (.object "java/lang/String"))) (by decide) (by decide)))).ext E129).keep K135q (ninS ne_a1_b129 nin0)).other W139 (Or.inr (slot_ne (Or.inr (hw _ (List.mem_of_getElem? (i := 56) rfl))) (Or.inr (hw _ (List.mem_of_getElem? (i := 54) rfl))) (by decide) (t := (.object "tidegate/operator/StageFunctions$Indices")) (t' := (.object "tidegate/operator/StageFunctions$Indices")) (by decide) (by decide)))).ext E143).keep K150q (ninS ne_a1_b143 nin0))
  have f153 := ((f145.ext E143).keep K150q)
  obtain ⟨T154, h154, X154, e154, W154, st154⟩ := putF X150 hx hZ hown (host := "") (Or.inl (hw _ (List.mem_of_getElem? (i := 55) rfl))) Via.refl e150 f152 f153 (Or.inr ⟨(hw _ (List.mem_of_getElem? (i := 56) rfl)), rfl, hnm⟩) (hw _ (List.mem_of_getElem? (i := 25) rfl)) (ty := (.object "tidegate/operator/StageFunctions$Indices")) (by decide) rfl rfl (g := (mkF m 47 #[.val (.ref a1)] [(.ref b143), (.ref a1)])) rfl rfl (hb hby d4_47)
  have z155 : n0 ≤ h154.size := Nat.le_trans z151 (Keep.of_wr W154).1
  have N156 := Fr.snoc X154 N150 g_a1
  have Fw154 := f152.same W154
  have S157 : ∀ t, Steps p.tables e below (T154.setTop (mkF m 51 #[.val (.ref a1)] [(.ref a1)])) t → Steps p.tables e below (T154.setTop (mkF m 50 #[.val (.ref a1)] [])) t := by
    intro t kt
    show Steps p.tables e below (T154.setTop (mkF m 50 #[.val (.ref a1)] [])) _
    refine XS.aloadN X154.here hx rfl (hb hby d4_50) rfl rfl ?_
    exact kt
  obtain ⟨T158, h158, X158, e158, E158, A158, D158, -, st158⟩ := newO X154 hx hZ hown (hw _ (List.mem_of_getElem? (i := 43) rfl)) (hw _ (List.mem_of_getElem? (i := 44) rfl)) (hw _ (List.mem_of_getElem? (i := 45) rfl)) e154 (g := (mkF m 51 #[.val (.ref a1)] [(.ref a1)])) rfl (hb hby d4_51) (by decide) (by decide)
  obtain ⟨b158, g158⟩ : ∃ z, z = h154.size := ⟨_, rfl⟩
  rw [← g158] at A158 D158 st158
  have g_b158 : n0 ≤ b158 := Nat.le_trans z155 (Nat.le_of_eq g158.symm)
  have K159 := (((K144.ext E143).trans K150q (allS (Or.inr sz_b143) all0)).wr W154 (Or.inl (List.mem_of_getElem? (i := 0) rfl)))
  have sz_b158 : h0.size ≤ b158 := Nat.le_trans K159.1 (Nat.le_of_eq g158.symm)
  have f160 := (f153.wr W154)
  have ne_a1_b158 : a1 ≠ b158 := Nat.ne_of_lt (Nat.lt_of_lt_of_le f160.lt (Nat.le_of_eq g158.symm))
  have f161 := (((f146.ext E143).keep K150q).wr W154)
  have ne_b129_b158 : b129 ≠ b158 := Nat.ne_of_lt (Nat.lt_of_lt_of_le f161.lt (Nat.le_of_eq g158.symm))
  have f162 := ((A143.keep K150q).wr W154)
  have ne_b143_b158 : b143 ≠ b158 := Nat.ne_of_lt (Nat.lt_of_lt_of_le f162.lt (Nat.le_of_eq g158.symm))
  have z163 : n0 ≤ h158.size := Nat.le_trans z155 E158.1
  have F164 : Fld Z h158 b158 "tidegate/operator/StageFunctions$Indices" "at" "[I" .null := D158 (Or.inl (hw _ (List.mem_of_getElem? (i := 52) rfl))) (ty := (.array .int)) (by decide)
  have S165 : ∀ t, Steps p.tables e below (T158.setTop (mkF m 55 #[.val (.ref a1)] [(.ref b158), (.ref b158), (.ref a1)])) t → Steps p.tables e below (T158.setTop (mkF m 54 #[.val (.ref a1)] [(.ref b158), (.ref a1)])) t := by
    intro t kt
    show Steps p.tables e below (T158.setTop (mkF m 54 #[.val (.ref a1)] [(.ref b158), (.ref a1)])) _
    refine XS.dup X158.here hx rfl (hb hby d4_54) rfl rfl ?_
    exact kt
  obtain ⟨_, _, ⟨T166, L166, k166, n166⟩, -, X166, ⟨Lc166, hQ166, l166, y166, z166⟩, st166⟩ := own_specialR X158 hx hZ (y := (⟨"tidegate/operator/StageFunctions$Indices", "<init>", "()V"⟩ : MethodName)) rfl hown (hw _ (List.mem_of_getElem? (i := 46) rfl)) (hw _ (List.mem_of_getElem? (i := 47) rfl)) (hw _ (List.mem_of_getElem? (i := 48) rfl)) (by decide) (backOf (W := 2) (rm5 l Z a0 hw [] b158 h158 n0 z163 A158 F164 g_b158) hZ (hw _ (List.mem_of_getElem? (i := 48) rfl)) (hw _ (List.mem_of_getElem? (i := 45) rfl)) (by decide) (by decide)) (g := (mkF m 55 #[.val (.ref a1)] [(.ref b158), (.ref b158), (.ref a1)])) rfl (by rw [hml]; rfl) (a := b158) (argsL := []) (rest := [(.ref b158), (.ref a1)]) (lenOf pd_1 rfl) rfl (by show 2 * 0 + _ ≤ _; exact Nat.le_of_eq rfl) (hb hby d4_55) (fun _ _ => ⟨rfl, e158, (by decide : 8 + 1 ≤ _), (by decide : 6 + 0 ≤ _)⟩)
  dsimp only [Pt.U, Pt.locs, Pt.cells, Pt.slots] at X166 l166 y166 z166 st166 hQ166
  subst l166 y166 z166
  obtain ⟨h166, e166⟩ : ∃ z, T166.heap = z := ⟨_, rfl⟩
  rw [e166] at hQ166
  obtain ⟨rfl, N166q, K166q⟩ := hQ166
  have z167 : n0 ≤ h166.size := Nat.le_trans z163 K166q.1
  have N166 := Fr.app N156 N166q
  have f168 := ((((((((((((((F95.ext E100).other W105 (Or.inr (slot_ne (Or.inr (hw _ (List.mem_of_getElem? (i := 58) rfl))) (Or.inl (hw _ (List.mem_of_getElem? (i := 34) rfl))) (by decide) (t := (.object "tidegate/operator/StageFunctions$Indices")) (t' := (.array (.object "tidegate/operator/OperatorPublisher$Kind"))) (by decide) (by decide)))).ext E109).other W115 (Or.inr (slot_ne (Or.inr (hw _ (List.mem_of_getElem? (i := 58) rfl))) (Or.inl (hw _ (List.mem_of_getElem? (i := 38) rfl))) (by decide) (t := (.object "tidegate/operator/StageFunctions$Indices")) (t' := (.array (.object "java/lang/Object"))) (by decide) (by decide)))).ext E119).other W125 (Or.inr (slot_ne (Or.inr (hw _ (List.mem_of_getElem? (i := 58) rfl))) (Or.inl (hw _ (List.mem_of_getElem? (i := 42) rfl))) (by decide) (t := (.object "tidegate/operator/StageFunctions$Indices")) (t' := (.array (.object "java/lang/String"))) (by decide) (by decide)))).ext E129).keep K135q (ninS ne_a1_b129 nin0)).other W139 (Or.inr (slot_ne (Or.inr (hw _ (List.mem_of_getElem? (i := 58) rfl))) (Or.inr (hw _ (List.mem_of_getElem? (i := 54) rfl))) (by decide) (t := (.object "tidegate/operator/StageFunctions$Indices")) (t' := (.object "tidegate/operator/StageFunctions$Indices")) (by decide) (by decide)))).ext E143).keep K150q (ninS ne_a1_b143 nin0)).other W154 (Or.inr (slot_ne (Or.inr (hw _ (List.mem_of_getElem? (i := 58) rfl))) (Or.inr (hw _ (List.mem_of_getElem? (i := 56) rfl))) (by decide) (t := (.object "tidegate/operator/StageFunctions$Indices")) (t' := (.object "tidegate/operator/StageFunctions$Indices")) (by decide) (by decide)))).ext E158).keep K166q (ninS ne_a1_b158 nin0))
  have f169 := ((f160.ext E158).keep K166q)
  obtain ⟨T170, h170, X170, e170, W170, st170⟩ := putF X166 hx hZ hown (host := "") (Or.inl (hw _ (List.mem_of_getElem? (i := 57) rfl))) Via.refl e166 f168 f169 (Or.inr ⟨(hw _ (List.mem_of_getElem? (i := 58) rfl)), rfl, hnm⟩) (hw _ (List.mem_of_getElem? (i := 25) rfl)) (ty := (.object "tidegate/operator/StageFunctions$Indices")) (by decide) rfl rfl (g := (mkF m 58 #[.val (.ref a1)] [(.ref b158), (.ref a1)])) rfl rfl (hb hby d4_58)
  have z171 : n0 ≤ h170.size := Nat.le_trans z167 (Keep.of_wr W170).1
  have N172 := Fr.snoc X170 N166 g_a1
  have Fw170 := f168.same W170
  have S173 : ∀ t, Steps p.tables e below (T170.setTop (mkF m 62 #[.val (.ref a1)] [(.ref a1)])) t → Steps p.tables e below (T170.setTop (mkF m 61 #[.val (.ref a1)] [])) t := by
    intro t kt
    show Steps p.tables e below (T170.setTop (mkF m 61 #[.val (.ref a1)] [])) _
    refine XS.aloadN X170.here hx rfl (hb hby d4_61) rfl rfl ?_
    exact kt
  obtain ⟨T174, h174, X174, e174, E174, A174, D174, -, st174⟩ := newO X170 hx hZ hown (hw _ (List.mem_of_getElem? (i := 43) rfl)) (hw _ (List.mem_of_getElem? (i := 44) rfl)) (hw _ (List.mem_of_getElem? (i := 45) rfl)) e170 (g := (mkF m 62 #[.val (.ref a1)] [(.ref a1)])) rfl (hb hby d4_62) (by decide) (by decide)
  obtain ⟨b174, g174⟩ : ∃ z, z = h170.size := ⟨_, rfl⟩
  rw [← g174] at A174 D174 st174
  have g_b174 : n0 ≤ b174 := Nat.le_trans z171 (Nat.le_of_eq g174.symm)
  have K175 := (((K159.ext E158).trans K166q (allS (Or.inr sz_b158) all0)).wr W170 (Or.inl (List.mem_of_getElem? (i := 0) rfl)))
  have sz_b174 : h0.size ≤ b174 := Nat.le_trans K175.1 (Nat.le_of_eq g174.symm)
  have f176 := (f169.wr W170)
  have ne_a1_b174 : a1 ≠ b174 := Nat.ne_of_lt (Nat.lt_of_lt_of_le f176.lt (Nat.le_of_eq g174.symm))
  have f177 := (((f161.ext E158).keep K166q).wr W170)
  have ne_b129_b174 : b129 ≠ b174 := Nat.ne_of_lt (Nat.lt_of_lt_of_le f177.lt (Nat.le_of_eq g174.symm))
  have f178 := (((f162.ext E158).keep K166q).wr W170)
  have ne_b143_b174 : b143 ≠ b174 := Nat.ne_of_lt (Nat.lt_of_lt_of_le f178.lt (Nat.le_of_eq g174.symm))
  have f179 := ((A158.keep K166q).wr W170)
  have ne_b158_b174 : b158 ≠ b174 := Nat.ne_of_lt (Nat.lt_of_lt_of_le f179.lt (Nat.le_of_eq g174.symm))
  have z180 : n0 ≤ h174.size := Nat.le_trans z171 E174.1
  have F181 : Fld Z h174 b174 "tidegate/operator/StageFunctions$Indices" "at" "[I" .null := D174 (Or.inl (hw _ (List.mem_of_getElem? (i := 52) rfl))) (ty := (.array .int)) (by decide)
  have S182 : ∀ t, Steps p.tables e below (T174.setTop (mkF m 66 #[.val (.ref a1)] [(.ref b174), (.ref b174), (.ref a1)])) t → Steps p.tables e below (T174.setTop (mkF m 65 #[.val (.ref a1)] [(.ref b174), (.ref a1)])) t := by
    intro t kt
    show Steps p.tables e below (T174.setTop (mkF m 65 #[.val (.ref a1)] [(.ref b174), (.ref a1)])) _
    refine XS.dup X174.here hx rfl (hb hby d4_65) rfl rfl ?_
    exact kt
  obtain ⟨_, _, ⟨T183, L183, k183, n183⟩, -, X183, ⟨Lc183, hQ183, l183, y183, z183⟩, st183⟩ := own_specialR X174 hx hZ (y := (⟨"tidegate/operator/StageFunctions$Indices", "<init>", "()V"⟩ : MethodName)) rfl hown (hw _ (List.mem_of_getElem? (i := 46) rfl)) (hw _ (List.mem_of_getElem? (i := 47) rfl)) (hw _ (List.mem_of_getElem? (i := 48) rfl)) (by decide) (backOf (W := 2) (rm5 l Z a0 hw [] b174 h174 n0 z180 A174 F181 g_b174) hZ (hw _ (List.mem_of_getElem? (i := 48) rfl)) (hw _ (List.mem_of_getElem? (i := 45) rfl)) (by decide) (by decide)) (g := (mkF m 66 #[.val (.ref a1)] [(.ref b174), (.ref b174), (.ref a1)])) rfl (by rw [hml]; rfl) (a := b174) (argsL := []) (rest := [(.ref b174), (.ref a1)]) (lenOf pd_1 rfl) rfl (by show 2 * 0 + _ ≤ _; exact Nat.le_of_eq rfl) (hb hby d4_66) (fun _ _ => ⟨rfl, e174, (by decide : 10 + 1 ≤ _), (by decide : 8 + 0 ≤ _)⟩)
  dsimp only [Pt.U, Pt.locs, Pt.cells, Pt.slots] at X183 l183 y183 z183 st183 hQ183
  subst l183 y183 z183
  obtain ⟨h183, e183⟩ : ∃ z, T183.heap = z := ⟨_, rfl⟩
  rw [e183] at hQ183
  obtain ⟨rfl, N183q, K183q⟩ := hQ183
  have z184 : n0 ≤ h183.size := Nat.le_trans z180 K183q.1
  have N183 := Fr.app N172 N183q
  have f185 := (((((((((((((((((F96.ext E100).other W105 (Or.inr (slot_ne (Or.inr (hw _ (List.mem_of_getElem? (i := 60) rfl))) (Or.inl (hw _ (List.mem_of_getElem? (i := 34) rfl))) (by decide) (t := (.object "tidegate/operator/StageFunctions$Indices")) (t' := (.array (.object "tidegate/operator/OperatorPublisher$Kind"))) (by decide) (by decide)))).ext E109).other W115 (Or.inr (slot_ne (Or.inr (hw _ (List.mem_of_getElem? (i := 60) rfl))) (Or.inl (hw _ (List.mem_of_getElem? (i := 38) rfl))) (by decide) (t := (.object "tidegate/operator/StageFunctions$Indices")) (t' := (.array (.object "java/lang/Object"))) (by decide) (by decide)))).ext E119).other W125 (Or.inr (slot_ne (Or.inr (hw _ (List.mem_of_getElem? (i := 60) rfl))) (Or.inl (hw _ (List.mem_of_getElem? (i := 42) rfl))) (by decide) (t := (.object "tidegate/operator/StageFunctions$Indices")) (t' := (.array (.object "java/lang/String"))) (by decide) (by decide)))).ext E129).keep K135q (ninS ne_a1_b129 nin0)).other W139 (Or.inr (slot_ne (Or.inr (hw _ (List.mem_of_getElem? (i := 60) rfl))) (Or.inr (hw _ (List.mem_of_getElem? (i := 54) rfl))) (by decide) (t := (.object "tidegate/operator/StageFunctions$Indices")) (t' := (.object "tidegate/operator/StageFunctions$Indices")) (by decide) (by decide)))).ext E143).keep K150q (ninS ne_a1_b143 nin0)).other W154 (Or.inr (slot_ne (Or.inr (hw _ (List.mem_of_getElem? (i := 60) rfl))) (Or.inr (hw _ (List.mem_of_getElem? (i := 56) rfl))) (by decide) (t := (.object "tidegate/operator/StageFunctions$Indices")) (t' := (.object "tidegate/operator/StageFunctions$Indices")) (by decide) (by decide)))).ext E158).keep K166q (ninS ne_a1_b158 nin0)).other W170 (Or.inr (slot_ne (Or.inr (hw _ (List.mem_of_getElem? (i := 60) rfl))) (Or.inr (hw _ (List.mem_of_getElem? (i := 58) rfl))) (by decide) (t := (.object "tidegate/operator/StageFunctions$Indices")) (t' := (.object "tidegate/operator/StageFunctions$Indices")) (by decide) (by decide)))).ext E174).keep K183q (ninS ne_a1_b174 nin0))
  have f186 := ((f176.ext E174).keep K183q)
  obtain ⟨T187, h187, X187, e187, W187, st187⟩ := putF X183 hx hZ hown (host := "") (Or.inl (hw _ (List.mem_of_getElem? (i := 59) rfl))) Via.refl e183 f185 f186 (Or.inr ⟨(hw _ (List.mem_of_getElem? (i := 60) rfl)), rfl, hnm⟩) (hw _ (List.mem_of_getElem? (i := 25) rfl)) (ty := (.object "tidegate/operator/StageFunctions$Indices")) (by decide) rfl rfl (g := (mkF m 69 #[.val (.ref a1)] [(.ref b174), (.ref a1)])) rfl rfl (hb hby d4_69)
  have z188 : n0 ≤ h187.size := Nat.le_trans z184 (Keep.of_wr W187).1
  have N189 := Fr.snoc X187 N183 g_a1
  have Fw187 := f185.same W187
  have C190 : ∀ t, Steps p.tables e below (T187.setTop (mkF m 72 #[.val (.ref a1)] [])) t → Steps p.tables e below (s₁.setTop (mkF m 0 #[.val (.ref a1)] [])) t := (fun t k => (S97 t (st98 t (S99 t (st100 t (st105 t (S108 t (st109 t (st115 t (S118 t (st119 t (st125 t (S128 t (st129 t (S134 t (st135.trans (st139 t (S142 t (st143 t (S149 t (st150.trans (st154 t (S157 t (st158 t (S165 t (st166.trans (st170 t (S173 t (st174 t (S182 t (st183.trans (st187 t k))))))))))))))))))))))))))))))))
  obtain ⟨fs, hr, hrun, hended, hW, hsame⟩ := X187.leave (v := none) (fun _ => rfl)
  refine ⟨_, _, pre0 _ (C190 _ ?_), hrun, hended, _, _, rfl, ?_, ⟨_, rfl⟩, hW, hsame.mono (by decide) (by decide)⟩
  · exact X187.returnOut hx Bd.returns (hb hby d4_72) hr
  · show Q_rm4 Z a1 h0 n0 _ T187.heap _
    rw [e187]
    exact ⟨rfl, N189, (((K175.ext E174).trans K183q (allS (Or.inr sz_b174) all0)).wr W187 (Or.inl (List.mem_of_getElem? (i := 0) rfl)))⟩
theorem ef_rm6 (m : MethodId) (x0 : Addr) (x1 : Int64) (x2 : Addr) : entryFrame m #[(.ref x0), (.long x1), (.ref x2)] 5 = mkF m 0 #[.val (.ref x0), .val (.long x1), .second, .val (.ref x2), .unset] [] := by first | (simp [entryFrame, mkF, argsToLocals, Value.category]; done) | rfl
def Q_rm6 (Z : State) (a1 : Addr) (q1 : Int64) (s1 : Addr) (t1 : Addr) (k1 : Addr) (q0 : Int64) (u0 : Value) (h0 : Heap) (n0 : Nat) (v : Option Value) (h : Heap) (L : List Loc) : Prop := ∃ b : Addr, v = none ∧ Fr n0 L ∧ Keep h0 h [a1, t1] ∧ h0.size ≤ b ∧ Exa Z h b "tidegate/operator/Crossings$Batch" ∧ Fld Z h b "tidegate/operator/Crossings$Batch" "from" "J" (.long q1) ∧ Fld Z h b "tidegate/operator/Crossings$Batch" "stages" "Ltidegate/operator/StageFunctions;" (.ref s1) ∧ Fld Z h b "tidegate/operator/Crossings$Batch" "next" "Ltidegate/operator/Crossings$Batch;" .null ∧ Fld Z h a1 "tidegate/operator/Crossings" "added" "Ltidegate/operator/Crossings$Batch;" (.ref b) ∧ Fld Z h a1 "tidegate/operator/Crossings" "taken" "Ltidegate/operator/Crossings$Batch;" (.ref k1) ∧ Fld Z h t1 "tidegate/operator/Crossings$Batch" "next" "Ltidegate/operator/Crossings$Batch;" (.ref b) ∧ Fld Z h t1 "tidegate/operator/Crossings$Batch" "from" "J" (.long q0) ∧ Fld Z h t1 "tidegate/operator/Crossings$Batch" "stages" "Ltidegate/operator/StageFunctions;" u0
set_option maxRecDepth 65536 in
set_option maxHeartbeats 40000000 in
theorem rm6 (l : Launch) (Z : State) (a0 : Array Value) (hw : ∀ d ∈ tables_1, d.before a0 Z = true) (ws : List Jvm.Cond) (a1 : Addr) (q1 : Int64) (s1 : Addr) (t1 : Addr) (k1 : Addr) (q0 : Int64) (u0 : Value) (h0 : Heap) (n0 : Nat) (Z0 : n0 ≤ h0.size) (F191 : Exa Z h0 a1 "tidegate/operator/Crossings") (F192 : Fld Z h0 a1 "tidegate/operator/Crossings" "added" "Ltidegate/operator/Crossings$Batch;" (.ref t1)) (F193 : Fld Z h0 a1 "tidegate/operator/Crossings" "taken" "Ltidegate/operator/Crossings$Batch;" (.ref k1)) (F194 : Exa Z h0 t1 "tidegate/operator/Crossings$Batch") (F195 : Fld Z h0 t1 "tidegate/operator/Crossings$Batch" "next" "Ltidegate/operator/Crossings$Batch;" .null) (F196 : Fld Z h0 t1 "tidegate/operator/Crossings$Batch" "from" "J" (.long q0)) (F197 : Fld Z h0 t1 "tidegate/operator/Crossings$Batch" "stages" "Ltidegate/operator/StageFunctions;" u0) (g_a1 : n0 ≤ a1) (g_t1 : n0 ≤ t1) (ne_a1_t1 : a1 ≠ t1) :
    MetFree l (⟨"tidegate/operator/Crossings", "add", "(JLtidegate/operator/StageFunctions;)V"⟩ : MethodName) (head1 (Jvm.Cond.code (⟨"tidegate/operator/Crossings", "add", "(JLtidegate/operator/StageFunctions;)V"⟩ : MethodName) prog_140_method_2_code 5 none :: ws) ({ frames := 2, cells := 1, slots := 3, locals := 28 } : Room)) (fun a U => a = #[(.ref a1), (.long q1), (.ref s1)] ∧ Z.Warmed39 U.vm ∧ U.heap = h0) (fun _ _ _ _ _ => True) (fun _ U o U' => ∃ v L, o = .returned v ∧ Q_rm6 Z a1 q1 s1 t1 k1 q0 u0 h0 n0 v U'.heap L ∧ FrameEnd U o U' L ({ frames := 2, cells := 1, slots := 3, locals := 28 } : Room).cells ({ frames := 2, cells := 1, slots := 3, locals := 28 } : Room).slots) := by
  refine MetFree.of_bodySF (plainFor_of_name pn_1) hisR ?_
  intro p e s m args below meth c s₁ Bd hml0 hP hK
  obtain ⟨rfl, hZ, hh⟩ := hP
  have hx := Bd.exec
  have hby := Bd.bytes
  have hml : c.maxLocals = 5 := hml0
  have hown : s.vm.findClass "tidegate/operator/Crossings" = some m.cls := findClass_of_methodNamed Bd.named
  have hnm := (name_of_methodNamed Bd.named Bd.method).1
  have X0 : Stand p l e ({ frames := 2, cells := 1, slots := 3, locals := 28 } : Room) s m #[(.ref a1), (.long q1), (.ref s1)] below meth c s₁ [] 0 0 := Stand.of_body Bd
  have e0 : s₁.heap = h0 := by rw [← hh, Bd.state]; rfl
  have N0 := Fr.nil n0
  have pre0 : ∀ t, Steps p.tables e below (s₁.setTop (mkF m 0 #[.val (.ref a1), .val (.long q1), .second, .val (.ref s1), .unset] [])) t → Steps p.tables e below (s₁.setTop (entryFrame m #[(.ref a1), (.long q1), (.ref s1)] 5)) t := fun t k => castTop (ef_rm6 m a1 q1 s1) k
  obtain ⟨T198, h198, X198, e198, E198, A198, D198, -, st198⟩ := newO X0 hx hZ hown (hw _ (List.mem_of_getElem? (i := 9) rfl)) (hw _ (List.mem_of_getElem? (i := 10) rfl)) (hw _ (List.mem_of_getElem? (i := 11) rfl)) e0 (g := (mkF m 0 #[.val (.ref a1), .val (.long q1), .second, .val (.ref s1), .unset] [])) rfl (hb hby d6_0) (by decide) (by decide)
  obtain ⟨b198, g198⟩ : ∃ z, z = h0.size := ⟨_, rfl⟩
  rw [← g198] at A198 D198 st198
  have g_b198 : n0 ≤ b198 := Nat.le_trans Z0 (Nat.le_of_eq g198.symm)
  have K199 := (Keep.refl h0 [a1, t1])
  have sz_b198 : h0.size ≤ b198 := Nat.le_trans K199.1 (Nat.le_of_eq g198.symm)
  have ne_a1_b198 : a1 ≠ b198 := Nat.ne_of_lt (Nat.lt_of_lt_of_le F191.lt (Nat.le_of_eq g198.symm))
  have ne_t1_b198 : t1 ≠ b198 := Nat.ne_of_lt (Nat.lt_of_lt_of_le F194.lt (Nat.le_of_eq g198.symm))
  have z200 : n0 ≤ h198.size := Nat.le_trans Z0 E198.1
  have F201 : Fld Z h198 b198 "tidegate/operator/Crossings$Batch" "from" "J" (.long (0 : Int64)) := D198 (Or.inr (hw _ (List.mem_of_getElem? (i := 17) rfl))) (ty := .long) (by decide)
  have F202 : Fld Z h198 b198 "tidegate/operator/Crossings$Batch" "stages" "Ltidegate/operator/StageFunctions;" .null := D198 (Or.inl (hw _ (List.mem_of_getElem? (i := 19) rfl))) (ty := (.object "tidegate/operator/StageFunctions")) (by decide)
  have F203 : Fld Z h198 b198 "tidegate/operator/Crossings$Batch" "next" "Ltidegate/operator/Crossings$Batch;" .null := D198 (Or.inl (hw _ (List.mem_of_getElem? (i := 67) rfl))) (ty := (.object "tidegate/operator/Crossings$Batch")) (by decide)
  have S204 : ∀ t, Steps p.tables e below (T198.setTop (mkF m 6 #[.val (.ref a1), .val (.long q1), .second, .val (.ref s1), .unset] [(.ref s1), (.long q1), (.ref b198), (.ref b198)])) t → Steps p.tables e below (T198.setTop (mkF m 3 #[.val (.ref a1), .val (.long q1), .second, .val (.ref s1), .unset] [(.ref b198)])) t := by
    intro t kt
    show Steps p.tables e below (T198.setTop (mkF m 3 #[.val (.ref a1), .val (.long q1), .second, .val (.ref s1), .unset] [(.ref b198)])) _
    refine XS.dup X198.here hx rfl (hb hby d6_3) rfl rfl ?_
    show Steps p.tables e below (T198.setTop (mkF m 4 #[.val (.ref a1), .val (.long q1), .second, .val (.ref s1), .unset] [(.ref b198), (.ref b198)])) _
    refine XS.lloadN X198.here hx rfl (hb hby d6_4) rfl ?_
    show Steps p.tables e below (T198.setTop (mkF m 5 #[.val (.ref a1), .val (.long q1), .second, .val (.ref s1), .unset] [(.long q1), (.ref b198), (.ref b198)])) _
    refine XS.aloadN X198.here hx rfl (hb hby d6_5) rfl rfl ?_
    exact kt
  obtain ⟨_, _, ⟨T205, L205, k205, n205⟩, -, X205, ⟨Lc205, hQ205, l205, y205, z205⟩, st205⟩ := X198.specialBack hx (y := (⟨"tidegate/operator/Crossings$Batch", "<init>", "(JLtidegate/operator/StageFunctions;)V"⟩ : MethodName)) rfl hown (mvT hZ (hw _ (List.mem_of_getElem? (i := 12) rfl))) (mvT hZ (hw _ (List.mem_of_getElem? (i := 13) rfl))) (mvT hZ (hw _ (List.mem_of_getElem? (i := 14) rfl))) (by decide) (backOf (W := 1) (rm_bs l Z a0 hw [] b198 q1 s1 h198 n0 z200 A198 F201 F202 F203 g_b198) hZ (hw _ (List.mem_of_getElem? (i := 14) rfl)) (hw _ (List.mem_of_getElem? (i := 11) rfl)) (by decide) (by decide)) (g := (mkF m 6 #[.val (.ref a1), .val (.long q1), .second, .val (.ref s1), .unset] [(.ref s1), (.long q1), (.ref b198), (.ref b198)])) rfl (by rw [hml]; rfl) (Steps.refl _) (a := b198) (argsL := [(.long q1), (.ref s1)]) (rest := [(.ref b198)]) (lenOf pd_0 rfl) rfl (by show 2 * 0 + _ ≤ _; exact Nat.le_of_eq rfl) (hb hby d6_6) (fun _ _ => ⟨rfl, e198, (by decide : 1 + 0 ≤ _), (by decide : 3 + 0 ≤ _)⟩)
  dsimp only [Pt.U, Pt.locs, Pt.cells, Pt.slots] at X205 l205 y205 z205 st205 hQ205
  subst l205 y205 z205
  obtain ⟨h205, e205⟩ : ∃ z, T205.heap = z := ⟨_, rfl⟩
  rw [e205] at hQ205
  obtain ⟨rfl, N205q, K205q, F206, F207, F208⟩ := hQ205
  have z209 : n0 ≤ h205.size := Nat.le_trans z200 K205q.1
  have N205 := Fr.app N0 N205q
  have S210 : ∀ t, Steps p.tables e below (T205.setTop (mkF m 12 #[.val (.ref a1), .val (.long q1), .second, .val (.ref s1), .val (.ref b198)] [(.ref a1)])) t → Steps p.tables e below (T205.setTop (mkF m 9 #[.val (.ref a1), .val (.long q1), .second, .val (.ref s1), .unset] [(.ref b198)])) t := by
    intro t kt
    show Steps p.tables e below (T205.setTop (mkF m 9 #[.val (.ref a1), .val (.long q1), .second, .val (.ref s1), .unset] [(.ref b198)])) _
    refine XS.astore X205.here hx rfl (hb hby d6_9) rfl rfl (l' := #[.val (.ref a1), .val (.long q1), .second, .val (.ref s1), .val (.ref b198)]) rfl ?_
    show Steps p.tables e below (T205.setTop (mkF m 11 #[.val (.ref a1), .val (.long q1), .second, .val (.ref s1), .val (.ref b198)] [])) _
    refine XS.aloadN X205.here hx rfl (hb hby d6_11) rfl rfl ?_
    exact kt
  have f211 := ((F192.ext E198).keep K205q (ninS ne_a1_b198 nin0))
  obtain ⟨T212, X212, e212, st212⟩ := getF X205 hx hZ hown (host := "") (Or.inl (hw _ (List.mem_of_getElem? (i := 20) rfl))) Via.refl e205 f211 (g := (mkF m 12 #[.val (.ref a1), .val (.long q1), .second, .val (.ref s1), .val (.ref b198)] [(.ref a1)])) rfl rfl (hb hby d6_12)
  have S213 : ∀ t, Steps p.tables e below (T212.setTop (mkF m 17 #[.val (.ref a1), .val (.long q1), .second, .val (.ref s1), .val (.ref b198)] [(.ref b198), (.ref t1)])) t → Steps p.tables e below (T212.setTop (mkF m 15 #[.val (.ref a1), .val (.long q1), .second, .val (.ref s1), .val (.ref b198)] [(.ref t1)])) t := by
    intro t kt
    show Steps p.tables e below (T212.setTop (mkF m 15 #[.val (.ref a1), .val (.long q1), .second, .val (.ref s1), .val (.ref b198)] [(.ref t1)])) _
    refine XS.aload X212.here hx rfl (hb hby d6_15) rfl rfl ?_
    exact kt
  have f214 := ((F195.ext E198).keep K205q (ninS ne_t1_b198 nin0))
  have f215 := ((F194.ext E198).keep K205q)
  obtain ⟨T216, h216, X216, e216, W216, st216⟩ := putF X212 hx hZ hown (host := "") (Or.inl (hw _ (List.mem_of_getElem? (i := 66) rfl))) Via.refl e212 f214 f215 (Or.inl (hw _ (List.mem_of_getElem? (i := 67) rfl))) (hw _ (List.mem_of_getElem? (i := 10) rfl)) (ty := (.object "tidegate/operator/Crossings$Batch")) (by decide) rfl rfl (g := (mkF m 17 #[.val (.ref a1), .val (.long q1), .second, .val (.ref s1), .val (.ref b198)] [(.ref b198), (.ref t1)])) rfl rfl (hb hby d6_17)
  have z217 : n0 ≤ h216.size := Nat.le_trans z209 (Keep.of_wr W216).1
  have N218 := Fr.snoc X216 N205 g_t1
  have Fw216 := f214.same W216
  have S219 : ∀ t, Steps p.tables e below (T216.setTop (mkF m 23 #[.val (.ref a1), .val (.long q1), .second, .val (.ref s1), .val (.ref b198)] [(.ref b198), (.ref a1)])) t → Steps p.tables e below (T216.setTop (mkF m 20 #[.val (.ref a1), .val (.long q1), .second, .val (.ref s1), .val (.ref b198)] [])) t := by
    intro t kt
    show Steps p.tables e below (T216.setTop (mkF m 20 #[.val (.ref a1), .val (.long q1), .second, .val (.ref s1), .val (.ref b198)] [])) _
    refine XS.aloadN X216.here hx rfl (hb hby d6_20) rfl rfl ?_
    show Steps p.tables e below (T216.setTop (mkF m 21 #[.val (.ref a1), .val (.long q1), .second, .val (.ref s1), .val (.ref b198)] [(.ref a1)])) _
    refine XS.aload X216.here hx rfl (hb hby d6_21) rfl rfl ?_
    exact kt
  have f220 := (f211.other W216 (Or.inl ne_a1_t1))
  have f221 := (((F191.ext E198).keep K205q).wr W216)
  obtain ⟨T222, h222, X222, e222, W222, st222⟩ := putF X216 hx hZ hown (host := "") (Or.inl (hw _ (List.mem_of_getElem? (i := 20) rfl))) Via.refl e216 f220 f221 (Or.inl (hw _ (List.mem_of_getElem? (i := 21) rfl))) (hw _ (List.mem_of_getElem? (i := 1) rfl)) (ty := (.object "tidegate/operator/Crossings$Batch")) (by decide) rfl rfl (g := (mkF m 23 #[.val (.ref a1), .val (.long q1), .second, .val (.ref s1), .val (.ref b198)] [(.ref b198), (.ref a1)])) rfl rfl (hb hby d6_23)
  have z223 : n0 ≤ h222.size := Nat.le_trans z217 (Keep.of_wr W222).1
  have N224 := Fr.snoc X222 N218 g_a1
  have Fw222 := f220.same W222
  have C225 : ∀ t, Steps p.tables e below (T222.setTop (mkF m 26 #[.val (.ref a1), .val (.long q1), .second, .val (.ref s1), .val (.ref b198)] [])) t → Steps p.tables e below (s₁.setTop (mkF m 0 #[.val (.ref a1), .val (.long q1), .second, .val (.ref s1), .unset] [])) t := (fun t k => (st198 t (S204 t (st205.trans (S210 t (st212 t (S213 t (st216 t (S219 t (st222 t k))))))))))
  obtain ⟨fs, hr, hrun, hended, hW, hsame⟩ := X222.leave (v := none) (fun _ => rfl)
  refine ⟨_, _, pre0 _ (C225 _ ?_), hrun, hended, _, _, rfl, ?_, ⟨_, rfl⟩, hW, hsame.mono (by decide) (by decide)⟩
  · exact X222.returnOut hx Bd.returns (hb hby d6_26) hr
  · show Q_rm6 Z a1 q1 s1 t1 k1 q0 u0 h0 n0 _ T222.heap _
    rw [e222]
    have f226 := (((A198.keep K205q).wr W216).wr W222)
    have f227 := ((F206.other W216 (Or.inl (Ne.symm ne_t1_b198))).other W222 (Or.inl (Ne.symm ne_a1_b198)))
    have f228 := ((F207.other W216 (Or.inl (Ne.symm ne_t1_b198))).other W222 (Or.inl (Ne.symm ne_a1_b198)))
    have f229 := ((F208.other W216 (Or.inl (Ne.symm ne_t1_b198))).other W222 (Or.inl (Ne.symm ne_a1_b198)))
    have f230 := ((((F193.ext E198).keep K205q (ninS ne_a1_b198 nin0)).other W216 (Or.inl ne_a1_t1)).other W222 (Or.inr (slot_ne (Or.inl (hw _ (List.mem_of_getElem? (i := 23) rfl))) (Or.inl (hw _ (List.mem_of_getElem? (i := 21) rfl))) (by decide) (t := (.object "tidegate/operator/Crossings$Batch")) (t' := (.object "tidegate/operator/Crossings$Batch")) (by decide) (by decide))))
    have f231 := (Fw216.other W222 (Or.inl (Ne.symm ne_a1_t1)))
    have f232 := ((((F196.ext E198).keep K205q (ninS ne_t1_b198 nin0)).other W216 (Or.inr (slot_ne (Or.inr (hw _ (List.mem_of_getElem? (i := 17) rfl))) (Or.inl (hw _ (List.mem_of_getElem? (i := 67) rfl))) (by decide) (t := .long) (t' := (.object "tidegate/operator/Crossings$Batch")) (by decide) (by decide)))).other W222 (Or.inl (Ne.symm ne_a1_t1)))
    have f233 := ((((F197.ext E198).keep K205q (ninS ne_t1_b198 nin0)).other W216 (Or.inr (slot_ne (Or.inl (hw _ (List.mem_of_getElem? (i := 19) rfl))) (Or.inl (hw _ (List.mem_of_getElem? (i := 67) rfl))) (by decide) (t := (.object "tidegate/operator/StageFunctions")) (t' := (.object "tidegate/operator/Crossings$Batch")) (by decide) (by decide)))).other W222 (Or.inl (Ne.symm ne_a1_t1)))
    exact ⟨b198, rfl, N224, ((((K199.ext E198).trans K205q (allS (Or.inr sz_b198) all0)).wr W216 (Or.inl (List.mem_of_getElem? (i := 1) rfl))).wr W222 (Or.inl (List.mem_of_getElem? (i := 0) rfl))), sz_b198, f226, f227, f228, f229, Fw222, f230, f231, f232, f233⟩
theorem ef_rm_tk0 (m : MethodId) (x0 : Addr) (x1 : Int64) : entryFrame m #[(.ref x0), (.long x1)] 5 = mkF m 0 #[.val (.ref x0), .val (.long x1), .second, .unset, .unset] [] := by first | (simp [entryFrame, mkF, argsToLocals, Value.category]; done) | rfl
def Q_rm_tk0 (Z : State) (a1 : Addr) (q1 : Int64) (k1 : Addr) (h0 : Heap) (n0 : Nat) (v : Option Value) (h : Heap) (L : List Loc) : Prop := v = some .null ∧ Fr n0 L ∧ h = h0
set_option maxRecDepth 65536 in
set_option maxHeartbeats 40000000 in
theorem rm_tk0 (l : Launch) (Z : State) (a0 : Array Value) (hw : ∀ d ∈ tables_1, d.before a0 Z = true) (ws : List Jvm.Cond) (a1 : Addr) (q1 : Int64) (k1 : Addr) (h0 : Heap) (n0 : Nat) (Z0 : n0 ≤ h0.size) (F234 : Fld Z h0 a1 "tidegate/operator/Crossings" "taken" "Ltidegate/operator/Crossings$Batch;" (.ref k1)) (F235 : Fld Z h0 k1 "tidegate/operator/Crossings$Batch" "next" "Ltidegate/operator/Crossings$Batch;" .null) :
    MetFree l (⟨"tidegate/operator/Crossings", "take", "(J)Ltidegate/operator/StageFunctions;"⟩ : MethodName) (head1 (Jvm.Cond.code (⟨"tidegate/operator/Crossings", "take", "(J)Ltidegate/operator/StageFunctions;"⟩ : MethodName) prog_140_method_4_code 5 (some (.object "tidegate/operator/StageFunctions")) :: ws) ({ frames := 0, cells := 0, slots := 0, locals := 0 } : Room)) (fun a U => a = #[(.ref a1), (.long q1)] ∧ Z.Warmed39 U.vm ∧ U.heap = h0) (fun _ _ _ _ _ => True) (fun _ U o U' => ∃ v L, o = .returned v ∧ Q_rm_tk0 Z a1 q1 k1 h0 n0 v U'.heap L ∧ FrameEnd U o U' L ({ frames := 0, cells := 0, slots := 0, locals := 0 } : Room).cells ({ frames := 0, cells := 0, slots := 0, locals := 0 } : Room).slots) := by
  refine MetFree.of_bodySF (plainFor_of_name pn_1) hisR ?_
  intro p e s m args below meth c s₁ Bd hml0 hP hK
  obtain ⟨rfl, hZ, hh⟩ := hP
  have hx := Bd.exec
  have hby := Bd.bytes
  have hml : c.maxLocals = 5 := hml0
  have hown : s.vm.findClass "tidegate/operator/Crossings" = some m.cls := findClass_of_methodNamed Bd.named
  have hnm := (name_of_methodNamed Bd.named Bd.method).1
  have X0 : Stand p l e ({ frames := 0, cells := 0, slots := 0, locals := 0 } : Room) s m #[(.ref a1), (.long q1)] below meth c s₁ [] 0 0 := Stand.of_body Bd
  have e0 : s₁.heap = h0 := by rw [← hh, Bd.state]; rfl
  have N0 := Fr.nil n0
  have pre0 : ∀ t, Steps p.tables e below (s₁.setTop (mkF m 0 #[.val (.ref a1), .val (.long q1), .second, .unset, .unset] [])) t → Steps p.tables e below (s₁.setTop (entryFrame m #[(.ref a1), (.long q1)] 5)) t := fun t k => castTop (ef_rm_tk0 m a1 q1) k
  have S236 : ∀ t, Steps p.tables e below (s₁.setTop (mkF m 1 #[.val (.ref a1), .val (.long q1), .second, .unset, .unset] [(.ref a1)])) t → Steps p.tables e below (s₁.setTop (mkF m 0 #[.val (.ref a1), .val (.long q1), .second, .unset, .unset] [])) t := by
    intro t kt
    show Steps p.tables e below (s₁.setTop (mkF m 0 #[.val (.ref a1), .val (.long q1), .second, .unset, .unset] [])) _
    refine XS.aloadN X0.here hx rfl (hb hby d7_0) rfl rfl ?_
    exact kt
  obtain ⟨T237, X237, e237, st237⟩ := getF X0 hx hZ hown (host := "") (Or.inl (hw _ (List.mem_of_getElem? (i := 22) rfl))) Via.refl e0 F234 (g := (mkF m 1 #[.val (.ref a1), .val (.long q1), .second, .unset, .unset] [(.ref a1)])) rfl rfl (hb hby d7_1)
  obtain ⟨T238, X238, e238, st238⟩ := getF X237 hx hZ hown (host := "") (Or.inl (hw _ (List.mem_of_getElem? (i := 66) rfl))) Via.refl e237 F235 (g := (mkF m 4 #[.val (.ref a1), .val (.long q1), .second, .unset, .unset] [(.ref k1)])) rfl rfl (hb hby d7_4)
  have S239 : ∀ t, Steps p.tables e below (T238.setTop (mkF m 22 #[.val (.ref a1), .val (.long q1), .second, .val .null, .unset] [.null])) t → Steps p.tables e below (T238.setTop (mkF m 7 #[.val (.ref a1), .val (.long q1), .second, .unset, .unset] [.null])) t := by
    intro t kt
    show Steps p.tables e below (T238.setTop (mkF m 7 #[.val (.ref a1), .val (.long q1), .second, .unset, .unset] [.null])) _
    refine XS.astoreN X238.here hx rfl (hb hby d7_7) rfl rfl (l' := #[.val (.ref a1), .val (.long q1), .second, .val .null, .unset]) rfl ?_
    show Steps p.tables e below (T238.setTop (mkF m 8 #[.val (.ref a1), .val (.long q1), .second, .val .null, .unset] [])) _
    refine XS.aloadN X238.here hx rfl (hb hby d7_8) rfl rfl ?_
    show Steps p.tables e below (T238.setTop (mkF m 9 #[.val (.ref a1), .val (.long q1), .second, .val .null, .unset] [.null])) _
    refine XS.ifnullYes X238.here hx rfl (pc0 := 9) (pc' := 21) rfl (hb hby d7_9) rfl (by decide) (by decide) ?_
    show Steps p.tables e below (T238.setTop (mkF m 21 #[.val (.ref a1), .val (.long q1), .second, .val .null, .unset] [])) _
    refine XS.aconstNull X238.here hx rfl (hb hby d7_21) ?_
    exact kt
  have C240 : ∀ t, Steps p.tables e below (T238.setTop (mkF m 22 #[.val (.ref a1), .val (.long q1), .second, .val .null, .unset] [.null])) t → Steps p.tables e below (s₁.setTop (mkF m 0 #[.val (.ref a1), .val (.long q1), .second, .unset, .unset] [])) t := (fun t k => (S236 t (st237 t (st238 t (S239 t k)))))
  obtain ⟨fs, hr, hrun, hended, hW, hsame⟩ := X238.leave (v := some .null) (fun h => by rw [Bd.returns] at h; cases h)
  refine ⟨_, _, pre0 _ (C240 _ ?_), hrun, hended, _, _, rfl, ?_, ⟨_, rfl⟩, hW, hsame.mono (by decide) (by decide)⟩
  · exact retOut X238 hx Bd.returns rfl (Or.inr (Or.inr (Or.inr (Or.inr ⟨rfl, rfl, rfl⟩)))) (hb hby d7_22) hr
  · show Q_rm_tk0 Z a1 q1 k1 h0 n0 _ T238.heap _
    rw [e238]
    exact ⟨rfl, N0, rfl⟩
theorem ef_rm_tk1 (m : MethodId) (x0 : Addr) (x1 : Int64) : entryFrame m #[(.ref x0), (.long x1)] 5 = mkF m 0 #[.val (.ref x0), .val (.long x1), .second, .unset, .unset] [] := by first | (simp [entryFrame, mkF, argsToLocals, Value.category]; done) | rfl
def Q_rm_tk1 (Z : State) (a1 : Addr) (q1 : Int64) (k1 : Addr) (b1 : Addr) (q0 : Int64) (h0 : Heap) (n0 : Nat) (v : Option Value) (h : Heap) (L : List Loc) : Prop := v = some .null ∧ Fr n0 L ∧ h = h0
set_option maxRecDepth 65536 in
set_option maxHeartbeats 40000000 in
theorem rm_tk1 (l : Launch) (Z : State) (a0 : Array Value) (hw : ∀ d ∈ tables_1, d.before a0 Z = true) (ws : List Jvm.Cond) (a1 : Addr) (q1 : Int64) (k1 : Addr) (b1 : Addr) (q0 : Int64) (h0 : Heap) (n0 : Nat) (Z0 : n0 ≤ h0.size) (F241 : Fld Z h0 a1 "tidegate/operator/Crossings" "taken" "Ltidegate/operator/Crossings$Batch;" (.ref k1)) (F242 : Fld Z h0 k1 "tidegate/operator/Crossings$Batch" "next" "Ltidegate/operator/Crossings$Batch;" (.ref b1)) (F243 : Fld Z h0 b1 "tidegate/operator/Crossings$Batch" "from" "J" (.long q0)) (hq : q1 < q0) :
    MetFree l (⟨"tidegate/operator/Crossings", "take", "(J)Ltidegate/operator/StageFunctions;"⟩ : MethodName) (head1 (Jvm.Cond.code (⟨"tidegate/operator/Crossings", "take", "(J)Ltidegate/operator/StageFunctions;"⟩ : MethodName) prog_140_method_4_code 5 (some (.object "tidegate/operator/StageFunctions")) :: ws) ({ frames := 0, cells := 0, slots := 0, locals := 0 } : Room)) (fun a U => a = #[(.ref a1), (.long q1)] ∧ Z.Warmed39 U.vm ∧ U.heap = h0) (fun _ _ _ _ _ => True) (fun _ U o U' => ∃ v L, o = .returned v ∧ Q_rm_tk1 Z a1 q1 k1 b1 q0 h0 n0 v U'.heap L ∧ FrameEnd U o U' L ({ frames := 0, cells := 0, slots := 0, locals := 0 } : Room).cells ({ frames := 0, cells := 0, slots := 0, locals := 0 } : Room).slots) := by
  refine MetFree.of_bodySF (plainFor_of_name pn_1) hisR ?_
  intro p e s m args below meth c s₁ Bd hml0 hP hK
  obtain ⟨rfl, hZ, hh⟩ := hP
  have hx := Bd.exec
  have hby := Bd.bytes
  have hml : c.maxLocals = 5 := hml0
  have hown : s.vm.findClass "tidegate/operator/Crossings" = some m.cls := findClass_of_methodNamed Bd.named
  have hnm := (name_of_methodNamed Bd.named Bd.method).1
  have X0 : Stand p l e ({ frames := 0, cells := 0, slots := 0, locals := 0 } : Room) s m #[(.ref a1), (.long q1)] below meth c s₁ [] 0 0 := Stand.of_body Bd
  have e0 : s₁.heap = h0 := by rw [← hh, Bd.state]; rfl
  have N0 := Fr.nil n0
  have pre0 : ∀ t, Steps p.tables e below (s₁.setTop (mkF m 0 #[.val (.ref a1), .val (.long q1), .second, .unset, .unset] [])) t → Steps p.tables e below (s₁.setTop (entryFrame m #[(.ref a1), (.long q1)] 5)) t := fun t k => castTop (ef_rm_tk1 m a1 q1) k
  have S244 : ∀ t, Steps p.tables e below (s₁.setTop (mkF m 1 #[.val (.ref a1), .val (.long q1), .second, .unset, .unset] [(.ref a1)])) t → Steps p.tables e below (s₁.setTop (mkF m 0 #[.val (.ref a1), .val (.long q1), .second, .unset, .unset] [])) t := by
    intro t kt
    show Steps p.tables e below (s₁.setTop (mkF m 0 #[.val (.ref a1), .val (.long q1), .second, .unset, .unset] [])) _
    refine XS.aloadN X0.here hx rfl (hb hby d7_0) rfl rfl ?_
    exact kt
  obtain ⟨T245, X245, e245, st245⟩ := getF X0 hx hZ hown (host := "") (Or.inl (hw _ (List.mem_of_getElem? (i := 22) rfl))) Via.refl e0 F241 (g := (mkF m 1 #[.val (.ref a1), .val (.long q1), .second, .unset, .unset] [(.ref a1)])) rfl rfl (hb hby d7_1)
  obtain ⟨T246, X246, e246, st246⟩ := getF X245 hx hZ hown (host := "") (Or.inl (hw _ (List.mem_of_getElem? (i := 66) rfl))) Via.refl e245 F242 (g := (mkF m 4 #[.val (.ref a1), .val (.long q1), .second, .unset, .unset] [(.ref k1)])) rfl rfl (hb hby d7_4)
  have S247 : ∀ t, Steps p.tables e below (T246.setTop (mkF m 13 #[.val (.ref a1), .val (.long q1), .second, .val (.ref b1), .unset] [(.ref b1)])) t → Steps p.tables e below (T246.setTop (mkF m 7 #[.val (.ref a1), .val (.long q1), .second, .unset, .unset] [(.ref b1)])) t := by
    intro t kt
    show Steps p.tables e below (T246.setTop (mkF m 7 #[.val (.ref a1), .val (.long q1), .second, .unset, .unset] [(.ref b1)])) _
    refine XS.astoreN X246.here hx rfl (hb hby d7_7) rfl rfl (l' := #[.val (.ref a1), .val (.long q1), .second, .val (.ref b1), .unset]) rfl ?_
    show Steps p.tables e below (T246.setTop (mkF m 8 #[.val (.ref a1), .val (.long q1), .second, .val (.ref b1), .unset] [])) _
    refine XS.aloadN X246.here hx rfl (hb hby d7_8) rfl rfl ?_
    show Steps p.tables e below (T246.setTop (mkF m 9 #[.val (.ref a1), .val (.long q1), .second, .val (.ref b1), .unset] [(.ref b1)])) _
    refine XS.ifnullNo X246.here hx rfl (hb hby d7_9) rfl ?_
    show Steps p.tables e below (T246.setTop (mkF m 12 #[.val (.ref a1), .val (.long q1), .second, .val (.ref b1), .unset] [])) _
    refine XS.aloadN X246.here hx rfl (hb hby d7_12) rfl rfl ?_
    exact kt
  obtain ⟨T248, X248, e248, st248⟩ := getF X246 hx hZ hown (host := "") (Or.inl (hw _ (List.mem_of_getElem? (i := 73) rfl))) Via.refl e246 F243 (g := (mkF m 13 #[.val (.ref a1), .val (.long q1), .second, .val (.ref b1), .unset] [(.ref b1)])) rfl rfl (hb hby d7_13)
  have S249 : ∀ t, Steps p.tables e below (T248.setTop (mkF m 22 #[.val (.ref a1), .val (.long q1), .second, .val (.ref b1), .unset] [.null])) t → Steps p.tables e below (T248.setTop (mkF m 16 #[.val (.ref a1), .val (.long q1), .second, .val (.ref b1), .unset] [(.long q0)])) t := by
    intro t kt
    show Steps p.tables e below (T248.setTop (mkF m 16 #[.val (.ref a1), .val (.long q1), .second, .val (.ref b1), .unset] [(.long q0)])) _
    refine XS.lloadN X248.here hx rfl (hb hby d7_16) rfl ?_
    show Steps p.tables e below (T248.setTop (mkF m 17 #[.val (.ref a1), .val (.long q1), .second, .val (.ref b1), .unset] [(.long q1), (.long q0)])) _
    refine XS.lcmp X248.here hx rfl (hb hby d7_17) rfl ?_
    show Steps p.tables e below (T248.setTop (mkF m 18 #[.val (.ref a1), .val (.long q1), .second, .val (.ref b1), .unset] [(.int (lcmpW q0 q1))])) _
    refine XS.ifNo X248.here hx rfl (hb hby d7_18) rfl ((if0 _ _).trans (tlt ((lw_gt q0 q1).mpr hq)).2.2.2) ?_
    show Steps p.tables e below (T248.setTop (mkF m 21 #[.val (.ref a1), .val (.long q1), .second, .val (.ref b1), .unset] [])) _
    refine XS.aconstNull X248.here hx rfl (hb hby d7_21) ?_
    exact kt
  have C250 : ∀ t, Steps p.tables e below (T248.setTop (mkF m 22 #[.val (.ref a1), .val (.long q1), .second, .val (.ref b1), .unset] [.null])) t → Steps p.tables e below (s₁.setTop (mkF m 0 #[.val (.ref a1), .val (.long q1), .second, .unset, .unset] [])) t := (fun t k => (S244 t (st245 t (st246 t (S247 t (st248 t (S249 t k)))))))
  obtain ⟨fs, hr, hrun, hended, hW, hsame⟩ := X248.leave (v := some .null) (fun h => by rw [Bd.returns] at h; cases h)
  refine ⟨_, _, pre0 _ (C250 _ ?_), hrun, hended, _, _, rfl, ?_, ⟨_, rfl⟩, hW, hsame.mono (by decide) (by decide)⟩
  · exact retOut X248 hx Bd.returns rfl (Or.inr (Or.inr (Or.inr (Or.inr ⟨rfl, rfl, rfl⟩)))) (hb hby d7_22) hr
  · show Q_rm_tk1 Z a1 q1 k1 b1 q0 h0 n0 _ T248.heap _
    rw [e248]
    exact ⟨rfl, N0, rfl⟩
theorem ef_rm_tk2n (m : MethodId) (x0 : Addr) (x1 : Int64) : entryFrame m #[(.ref x0), (.long x1)] 5 = mkF m 0 #[.val (.ref x0), .val (.long x1), .second, .unset, .unset] [] := by first | (simp [entryFrame, mkF, argsToLocals, Value.category]; done) | rfl
def Q_rm_tk2n (Z : State) (a1 : Addr) (q1 : Int64) (k1 : Addr) (b1 : Addr) (q0 : Int64) (s1 : Addr) (d1 : Addr) (h0 : Heap) (n0 : Nat) (v : Option Value) (h : Heap) (L : List Loc) : Prop := v = some (.ref s1) ∧ Fr n0 L ∧ Keep h0 h [a1, b1] ∧ Fld Z h a1 "tidegate/operator/Crossings" "taken" "Ltidegate/operator/Crossings$Batch;" (.ref b1) ∧ Fld Z h a1 "tidegate/operator/Crossings" "added" "Ltidegate/operator/Crossings$Batch;" (.ref d1) ∧ Fld Z h b1 "tidegate/operator/Crossings$Batch" "next" "Ltidegate/operator/Crossings$Batch;" .null ∧ Fld Z h b1 "tidegate/operator/Crossings$Batch" "from" "J" (.long q0) ∧ Fld Z h b1 "tidegate/operator/Crossings$Batch" "stages" "Ltidegate/operator/StageFunctions;" .null
set_option maxRecDepth 65536 in
set_option maxHeartbeats 40000000 in
theorem rm_tk2n (l : Launch) (Z : State) (a0 : Array Value) (hw : ∀ d ∈ tables_1, d.before a0 Z = true) (ws : List Jvm.Cond) (a1 : Addr) (q1 : Int64) (k1 : Addr) (b1 : Addr) (q0 : Int64) (s1 : Addr) (d1 : Addr) (h0 : Heap) (n0 : Nat) (Z0 : n0 ≤ h0.size) (F251 : Exa Z h0 a1 "tidegate/operator/Crossings") (F252 : Fld Z h0 a1 "tidegate/operator/Crossings" "taken" "Ltidegate/operator/Crossings$Batch;" (.ref k1)) (F253 : Fld Z h0 a1 "tidegate/operator/Crossings" "added" "Ltidegate/operator/Crossings$Batch;" (.ref d1)) (F254 : Fld Z h0 k1 "tidegate/operator/Crossings$Batch" "next" "Ltidegate/operator/Crossings$Batch;" (.ref b1)) (F255 : Exa Z h0 b1 "tidegate/operator/Crossings$Batch") (F256 : Fld Z h0 b1 "tidegate/operator/Crossings$Batch" "from" "J" (.long q0)) (F257 : Fld Z h0 b1 "tidegate/operator/Crossings$Batch" "stages" "Ltidegate/operator/StageFunctions;" (.ref s1)) (F258 : Fld Z h0 b1 "tidegate/operator/Crossings$Batch" "next" "Ltidegate/operator/Crossings$Batch;" .null) (g_a1 : n0 ≤ a1) (g_b1 : n0 ≤ b1) (ne_a1_b1 : a1 ≠ b1) (ne_a1_k1 : a1 ≠ k1) (ne_k1_b1 : k1 ≠ b1) (hq : ¬ q1 < q0) :
    MetFree l (⟨"tidegate/operator/Crossings", "take", "(J)Ltidegate/operator/StageFunctions;"⟩ : MethodName) (head1 (Jvm.Cond.code (⟨"tidegate/operator/Crossings", "take", "(J)Ltidegate/operator/StageFunctions;"⟩ : MethodName) prog_140_method_4_code 5 (some (.object "tidegate/operator/StageFunctions")) :: ws) ({ frames := 0, cells := 0, slots := 0, locals := 0 } : Room)) (fun a U => a = #[(.ref a1), (.long q1)] ∧ Z.Warmed39 U.vm ∧ U.heap = h0) (fun _ _ _ _ _ => True) (fun _ U o U' => ∃ v L, o = .returned v ∧ Q_rm_tk2n Z a1 q1 k1 b1 q0 s1 d1 h0 n0 v U'.heap L ∧ FrameEnd U o U' L ({ frames := 0, cells := 0, slots := 0, locals := 0 } : Room).cells ({ frames := 0, cells := 0, slots := 0, locals := 0 } : Room).slots) := by
  refine MetFree.of_bodySF (plainFor_of_name pn_1) hisR ?_
  intro p e s m args below meth c s₁ Bd hml0 hP hK
  obtain ⟨rfl, hZ, hh⟩ := hP
  have hx := Bd.exec
  have hby := Bd.bytes
  have hml : c.maxLocals = 5 := hml0
  have hown : s.vm.findClass "tidegate/operator/Crossings" = some m.cls := findClass_of_methodNamed Bd.named
  have hnm := (name_of_methodNamed Bd.named Bd.method).1
  have X0 : Stand p l e ({ frames := 0, cells := 0, slots := 0, locals := 0 } : Room) s m #[(.ref a1), (.long q1)] below meth c s₁ [] 0 0 := Stand.of_body Bd
  have e0 : s₁.heap = h0 := by rw [← hh, Bd.state]; rfl
  have N0 := Fr.nil n0
  have pre0 : ∀ t, Steps p.tables e below (s₁.setTop (mkF m 0 #[.val (.ref a1), .val (.long q1), .second, .unset, .unset] [])) t → Steps p.tables e below (s₁.setTop (entryFrame m #[(.ref a1), (.long q1)] 5)) t := fun t k => castTop (ef_rm_tk2n m a1 q1) k
  have S259 : ∀ t, Steps p.tables e below (s₁.setTop (mkF m 1 #[.val (.ref a1), .val (.long q1), .second, .unset, .unset] [(.ref a1)])) t → Steps p.tables e below (s₁.setTop (mkF m 0 #[.val (.ref a1), .val (.long q1), .second, .unset, .unset] [])) t := by
    intro t kt
    show Steps p.tables e below (s₁.setTop (mkF m 0 #[.val (.ref a1), .val (.long q1), .second, .unset, .unset] [])) _
    refine XS.aloadN X0.here hx rfl (hb hby d7_0) rfl rfl ?_
    exact kt
  obtain ⟨T260, X260, e260, st260⟩ := getF X0 hx hZ hown (host := "") (Or.inl (hw _ (List.mem_of_getElem? (i := 22) rfl))) Via.refl e0 F252 (g := (mkF m 1 #[.val (.ref a1), .val (.long q1), .second, .unset, .unset] [(.ref a1)])) rfl rfl (hb hby d7_1)
  obtain ⟨T261, X261, e261, st261⟩ := getF X260 hx hZ hown (host := "") (Or.inl (hw _ (List.mem_of_getElem? (i := 66) rfl))) Via.refl e260 F254 (g := (mkF m 4 #[.val (.ref a1), .val (.long q1), .second, .unset, .unset] [(.ref k1)])) rfl rfl (hb hby d7_4)
  have S262 : ∀ t, Steps p.tables e below (T261.setTop (mkF m 13 #[.val (.ref a1), .val (.long q1), .second, .val (.ref b1), .unset] [(.ref b1)])) t → Steps p.tables e below (T261.setTop (mkF m 7 #[.val (.ref a1), .val (.long q1), .second, .unset, .unset] [(.ref b1)])) t := by
    intro t kt
    show Steps p.tables e below (T261.setTop (mkF m 7 #[.val (.ref a1), .val (.long q1), .second, .unset, .unset] [(.ref b1)])) _
    refine XS.astoreN X261.here hx rfl (hb hby d7_7) rfl rfl (l' := #[.val (.ref a1), .val (.long q1), .second, .val (.ref b1), .unset]) rfl ?_
    show Steps p.tables e below (T261.setTop (mkF m 8 #[.val (.ref a1), .val (.long q1), .second, .val (.ref b1), .unset] [])) _
    refine XS.aloadN X261.here hx rfl (hb hby d7_8) rfl rfl ?_
    show Steps p.tables e below (T261.setTop (mkF m 9 #[.val (.ref a1), .val (.long q1), .second, .val (.ref b1), .unset] [(.ref b1)])) _
    refine XS.ifnullNo X261.here hx rfl (hb hby d7_9) rfl ?_
    show Steps p.tables e below (T261.setTop (mkF m 12 #[.val (.ref a1), .val (.long q1), .second, .val (.ref b1), .unset] [])) _
    refine XS.aloadN X261.here hx rfl (hb hby d7_12) rfl rfl ?_
    exact kt
  obtain ⟨T263, X263, e263, st263⟩ := getF X261 hx hZ hown (host := "") (Or.inl (hw _ (List.mem_of_getElem? (i := 73) rfl))) Via.refl e261 F256 (g := (mkF m 13 #[.val (.ref a1), .val (.long q1), .second, .val (.ref b1), .unset] [(.ref b1)])) rfl rfl (hb hby d7_13)
  have S264 : ∀ t, Steps p.tables e below (T263.setTop (mkF m 25 #[.val (.ref a1), .val (.long q1), .second, .val (.ref b1), .unset] [(.ref b1), (.ref a1)])) t → Steps p.tables e below (T263.setTop (mkF m 16 #[.val (.ref a1), .val (.long q1), .second, .val (.ref b1), .unset] [(.long q0)])) t := by
    intro t kt
    show Steps p.tables e below (T263.setTop (mkF m 16 #[.val (.ref a1), .val (.long q1), .second, .val (.ref b1), .unset] [(.long q0)])) _
    refine XS.lloadN X263.here hx rfl (hb hby d7_16) rfl ?_
    show Steps p.tables e below (T263.setTop (mkF m 17 #[.val (.ref a1), .val (.long q1), .second, .val (.ref b1), .unset] [(.long q1), (.long q0)])) _
    refine XS.lcmp X263.here hx rfl (hb hby d7_17) rfl ?_
    show Steps p.tables e below (T263.setTop (mkF m 18 #[.val (.ref a1), .val (.long q1), .second, .val (.ref b1), .unset] [(.int (lcmpW q0 q1))])) _
    refine XS.ifYes X263.here hx rfl (pc0 := 18) (pc' := 23) rfl (hb hby d7_18) rfl ((if0 _ _).trans (flt (fun q => hq ((lw_gt q0 q1).mp q))).2.2.2) (by decide) (by decide) ?_
    show Steps p.tables e below (T263.setTop (mkF m 23 #[.val (.ref a1), .val (.long q1), .second, .val (.ref b1), .unset] [])) _
    refine XS.aloadN X263.here hx rfl (hb hby d7_23) rfl rfl ?_
    show Steps p.tables e below (T263.setTop (mkF m 24 #[.val (.ref a1), .val (.long q1), .second, .val (.ref b1), .unset] [(.ref a1)])) _
    refine XS.aloadN X263.here hx rfl (hb hby d7_24) rfl rfl ?_
    exact kt
  obtain ⟨T265, h265, X265, e265, W265, st265⟩ := putF X263 hx hZ hown (host := "") (Or.inl (hw _ (List.mem_of_getElem? (i := 22) rfl))) Via.refl e263 F252 F251 (Or.inl (hw _ (List.mem_of_getElem? (i := 23) rfl))) (hw _ (List.mem_of_getElem? (i := 1) rfl)) (ty := (.object "tidegate/operator/Crossings$Batch")) (by decide) rfl rfl (g := (mkF m 25 #[.val (.ref a1), .val (.long q1), .second, .val (.ref b1), .unset] [(.ref b1), (.ref a1)])) rfl rfl (hb hby d7_25)
  have z266 : n0 ≤ h265.size := Nat.le_trans Z0 (Keep.of_wr W265).1
  have N267 := Fr.snoc X265 N0 g_a1
  have Fw265 := F252.same W265
  have S268 : ∀ t, Steps p.tables e below (T265.setTop (mkF m 29 #[.val (.ref a1), .val (.long q1), .second, .val (.ref b1), .unset] [(.ref b1)])) t → Steps p.tables e below (T265.setTop (mkF m 28 #[.val (.ref a1), .val (.long q1), .second, .val (.ref b1), .unset] [])) t := by
    intro t kt
    show Steps p.tables e below (T265.setTop (mkF m 28 #[.val (.ref a1), .val (.long q1), .second, .val (.ref b1), .unset] [])) _
    refine XS.aloadN X265.here hx rfl (hb hby d7_28) rfl rfl ?_
    exact kt
  have f269 := (F257.other W265 (Or.inl (Ne.symm ne_a1_b1)))
  obtain ⟨T270, X270, e270, st270⟩ := getF X265 hx hZ hown (host := "") (Or.inl (hw _ (List.mem_of_getElem? (i := 79) rfl))) Via.refl e265 f269 (g := (mkF m 29 #[.val (.ref a1), .val (.long q1), .second, .val (.ref b1), .unset] [(.ref b1)])) rfl rfl (hb hby d7_29)
  have S271 : ∀ t, Steps p.tables e below (T270.setTop (mkF m 36 #[.val (.ref a1), .val (.long q1), .second, .val (.ref b1), .val (.ref s1)] [.null, (.ref b1)])) t → Steps p.tables e below (T270.setTop (mkF m 32 #[.val (.ref a1), .val (.long q1), .second, .val (.ref b1), .unset] [(.ref s1)])) t := by
    intro t kt
    show Steps p.tables e below (T270.setTop (mkF m 32 #[.val (.ref a1), .val (.long q1), .second, .val (.ref b1), .unset] [(.ref s1)])) _
    refine XS.astore X270.here hx rfl (hb hby d7_32) rfl rfl (l' := #[.val (.ref a1), .val (.long q1), .second, .val (.ref b1), .val (.ref s1)]) rfl ?_
    show Steps p.tables e below (T270.setTop (mkF m 34 #[.val (.ref a1), .val (.long q1), .second, .val (.ref b1), .val (.ref s1)] [])) _
    refine XS.aloadN X270.here hx rfl (hb hby d7_34) rfl rfl ?_
    show Steps p.tables e below (T270.setTop (mkF m 35 #[.val (.ref a1), .val (.long q1), .second, .val (.ref b1), .val (.ref s1)] [(.ref b1)])) _
    refine XS.aconstNull X270.here hx rfl (hb hby d7_35) ?_
    exact kt
  have f272 := (F255.wr W265)
  obtain ⟨T273, h273, X273, e273, W273, st273⟩ := putF X270 hx hZ hown (host := "") (Or.inl (hw _ (List.mem_of_getElem? (i := 79) rfl))) Via.refl e270 f269 f272 (Or.inl (hw _ (List.mem_of_getElem? (i := 19) rfl))) (hw _ (List.mem_of_getElem? (i := 10) rfl)) (ty := (.object "tidegate/operator/StageFunctions")) (by decide) rfl rfl (g := (mkF m 36 #[.val (.ref a1), .val (.long q1), .second, .val (.ref b1), .val (.ref s1)] [.null, (.ref b1)])) rfl rfl (hb hby d7_36)
  have z274 : n0 ≤ h273.size := Nat.le_trans z266 (Keep.of_wr W273).1
  have N275 := Fr.snoc X273 N267 g_b1
  have Fw273 := f269.same W273
  have S276 : ∀ t, Steps p.tables e below (T273.setTop (mkF m 41 #[.val (.ref a1), .val (.long q1), .second, .val (.ref b1), .val (.ref s1)] [(.ref s1)])) t → Steps p.tables e below (T273.setTop (mkF m 39 #[.val (.ref a1), .val (.long q1), .second, .val (.ref b1), .val (.ref s1)] [])) t := by
    intro t kt
    show Steps p.tables e below (T273.setTop (mkF m 39 #[.val (.ref a1), .val (.long q1), .second, .val (.ref b1), .val (.ref s1)] [])) _
    refine XS.aload X273.here hx rfl (hb hby d7_39) rfl rfl ?_
    exact kt
  have C277 : ∀ t, Steps p.tables e below (T273.setTop (mkF m 41 #[.val (.ref a1), .val (.long q1), .second, .val (.ref b1), .val (.ref s1)] [(.ref s1)])) t → Steps p.tables e below (s₁.setTop (mkF m 0 #[.val (.ref a1), .val (.long q1), .second, .unset, .unset] [])) t := (fun t k => (S259 t (st260 t (st261 t (S262 t (st263 t (S264 t (st265 t (S268 t (st270 t (S271 t (st273 t (S276 t k)))))))))))))
  obtain ⟨fs, hr, hrun, hended, hW, hsame⟩ := X273.leave (v := some (.ref s1)) (fun h => by rw [Bd.returns] at h; cases h)
  refine ⟨_, _, pre0 _ (C277 _ ?_), hrun, hended, _, _, rfl, ?_, ⟨_, rfl⟩, hW, hsame.mono (by decide) (by decide)⟩
  · exact retOut X273 hx Bd.returns rfl (Or.inr (Or.inr (Or.inr (Or.inr ⟨rfl, rfl, rfl⟩)))) (hb hby d7_41) hr
  · show Q_rm_tk2n Z a1 q1 k1 b1 q0 s1 d1 h0 n0 _ T273.heap _
    rw [e273]
    have f278 := (Fw265.other W273 (Or.inl ne_a1_b1))
    have f279 := ((F253.other W265 (Or.inr (slot_ne (Or.inl (hw _ (List.mem_of_getElem? (i := 21) rfl))) (Or.inl (hw _ (List.mem_of_getElem? (i := 23) rfl))) (by decide) (t := (.object "tidegate/operator/Crossings$Batch")) (t' := (.object "tidegate/operator/Crossings$Batch")) (by decide) (by decide)))).other W273 (Or.inl ne_a1_b1))
    have f280 := ((F258.other W265 (Or.inl (Ne.symm ne_a1_b1))).other W273 (Or.inr (slot_ne (Or.inl (hw _ (List.mem_of_getElem? (i := 67) rfl))) (Or.inl (hw _ (List.mem_of_getElem? (i := 19) rfl))) (by decide) (t := (.object "tidegate/operator/Crossings$Batch")) (t' := (.object "tidegate/operator/StageFunctions")) (by decide) (by decide))))
    have f281 := ((F256.other W265 (Or.inl (Ne.symm ne_a1_b1))).other W273 (Or.inr (slot_ne (Or.inr (hw _ (List.mem_of_getElem? (i := 17) rfl))) (Or.inl (hw _ (List.mem_of_getElem? (i := 19) rfl))) (by decide) (t := .long) (t' := (.object "tidegate/operator/StageFunctions")) (by decide) (by decide))))
    exact ⟨rfl, N275, (((Keep.refl h0 [a1, b1]).wr W265 (Or.inl (List.mem_of_getElem? (i := 0) rfl))).wr W273 (Or.inl (List.mem_of_getElem? (i := 1) rfl))), f278, f279, f280, f281, Fw273⟩
theorem ef_rm_tk2r (m : MethodId) (x0 : Addr) (x1 : Int64) : entryFrame m #[(.ref x0), (.long x1)] 5 = mkF m 0 #[.val (.ref x0), .val (.long x1), .second, .unset, .unset] [] := by first | (simp [entryFrame, mkF, argsToLocals, Value.category]; done) | rfl
def Q_rm_tk2r (Z : State) (a1 : Addr) (q1 : Int64) (k1 : Addr) (b1 : Addr) (q0 : Int64) (s1 : Addr) (d1 : Addr) (x1 : Addr) (h0 : Heap) (n0 : Nat) (v : Option Value) (h : Heap) (L : List Loc) : Prop := v = some (.ref s1) ∧ Fr n0 L ∧ Keep h0 h [a1, b1] ∧ Fld Z h a1 "tidegate/operator/Crossings" "taken" "Ltidegate/operator/Crossings$Batch;" (.ref b1) ∧ Fld Z h a1 "tidegate/operator/Crossings" "added" "Ltidegate/operator/Crossings$Batch;" (.ref d1) ∧ Fld Z h b1 "tidegate/operator/Crossings$Batch" "next" "Ltidegate/operator/Crossings$Batch;" (.ref x1) ∧ Fld Z h b1 "tidegate/operator/Crossings$Batch" "from" "J" (.long q0) ∧ Fld Z h b1 "tidegate/operator/Crossings$Batch" "stages" "Ltidegate/operator/StageFunctions;" .null
set_option maxRecDepth 65536 in
set_option maxHeartbeats 40000000 in
theorem rm_tk2r (l : Launch) (Z : State) (a0 : Array Value) (hw : ∀ d ∈ tables_1, d.before a0 Z = true) (ws : List Jvm.Cond) (a1 : Addr) (q1 : Int64) (k1 : Addr) (b1 : Addr) (q0 : Int64) (s1 : Addr) (d1 : Addr) (x1 : Addr) (h0 : Heap) (n0 : Nat) (Z0 : n0 ≤ h0.size) (F282 : Exa Z h0 a1 "tidegate/operator/Crossings") (F283 : Fld Z h0 a1 "tidegate/operator/Crossings" "taken" "Ltidegate/operator/Crossings$Batch;" (.ref k1)) (F284 : Fld Z h0 a1 "tidegate/operator/Crossings" "added" "Ltidegate/operator/Crossings$Batch;" (.ref d1)) (F285 : Fld Z h0 k1 "tidegate/operator/Crossings$Batch" "next" "Ltidegate/operator/Crossings$Batch;" (.ref b1)) (F286 : Exa Z h0 b1 "tidegate/operator/Crossings$Batch") (F287 : Fld Z h0 b1 "tidegate/operator/Crossings$Batch" "from" "J" (.long q0)) (F288 : Fld Z h0 b1 "tidegate/operator/Crossings$Batch" "stages" "Ltidegate/operator/StageFunctions;" (.ref s1)) (F289 : Fld Z h0 b1 "tidegate/operator/Crossings$Batch" "next" "Ltidegate/operator/Crossings$Batch;" (.ref x1)) (g_a1 : n0 ≤ a1) (g_b1 : n0 ≤ b1) (ne_a1_b1 : a1 ≠ b1) (ne_a1_k1 : a1 ≠ k1) (ne_k1_b1 : k1 ≠ b1) (hq : ¬ q1 < q0) :
    MetFree l (⟨"tidegate/operator/Crossings", "take", "(J)Ltidegate/operator/StageFunctions;"⟩ : MethodName) (head1 (Jvm.Cond.code (⟨"tidegate/operator/Crossings", "take", "(J)Ltidegate/operator/StageFunctions;"⟩ : MethodName) prog_140_method_4_code 5 (some (.object "tidegate/operator/StageFunctions")) :: ws) ({ frames := 0, cells := 0, slots := 0, locals := 0 } : Room)) (fun a U => a = #[(.ref a1), (.long q1)] ∧ Z.Warmed39 U.vm ∧ U.heap = h0) (fun _ _ _ _ _ => True) (fun _ U o U' => ∃ v L, o = .returned v ∧ Q_rm_tk2r Z a1 q1 k1 b1 q0 s1 d1 x1 h0 n0 v U'.heap L ∧ FrameEnd U o U' L ({ frames := 0, cells := 0, slots := 0, locals := 0 } : Room).cells ({ frames := 0, cells := 0, slots := 0, locals := 0 } : Room).slots) := by
  refine MetFree.of_bodySF (plainFor_of_name pn_1) hisR ?_
  intro p e s m args below meth c s₁ Bd hml0 hP hK
  obtain ⟨rfl, hZ, hh⟩ := hP
  have hx := Bd.exec
  have hby := Bd.bytes
  have hml : c.maxLocals = 5 := hml0
  have hown : s.vm.findClass "tidegate/operator/Crossings" = some m.cls := findClass_of_methodNamed Bd.named
  have hnm := (name_of_methodNamed Bd.named Bd.method).1
  have X0 : Stand p l e ({ frames := 0, cells := 0, slots := 0, locals := 0 } : Room) s m #[(.ref a1), (.long q1)] below meth c s₁ [] 0 0 := Stand.of_body Bd
  have e0 : s₁.heap = h0 := by rw [← hh, Bd.state]; rfl
  have N0 := Fr.nil n0
  have pre0 : ∀ t, Steps p.tables e below (s₁.setTop (mkF m 0 #[.val (.ref a1), .val (.long q1), .second, .unset, .unset] [])) t → Steps p.tables e below (s₁.setTop (entryFrame m #[(.ref a1), (.long q1)] 5)) t := fun t k => castTop (ef_rm_tk2r m a1 q1) k
  have S290 : ∀ t, Steps p.tables e below (s₁.setTop (mkF m 1 #[.val (.ref a1), .val (.long q1), .second, .unset, .unset] [(.ref a1)])) t → Steps p.tables e below (s₁.setTop (mkF m 0 #[.val (.ref a1), .val (.long q1), .second, .unset, .unset] [])) t := by
    intro t kt
    show Steps p.tables e below (s₁.setTop (mkF m 0 #[.val (.ref a1), .val (.long q1), .second, .unset, .unset] [])) _
    refine XS.aloadN X0.here hx rfl (hb hby d7_0) rfl rfl ?_
    exact kt
  obtain ⟨T291, X291, e291, st291⟩ := getF X0 hx hZ hown (host := "") (Or.inl (hw _ (List.mem_of_getElem? (i := 22) rfl))) Via.refl e0 F283 (g := (mkF m 1 #[.val (.ref a1), .val (.long q1), .second, .unset, .unset] [(.ref a1)])) rfl rfl (hb hby d7_1)
  obtain ⟨T292, X292, e292, st292⟩ := getF X291 hx hZ hown (host := "") (Or.inl (hw _ (List.mem_of_getElem? (i := 66) rfl))) Via.refl e291 F285 (g := (mkF m 4 #[.val (.ref a1), .val (.long q1), .second, .unset, .unset] [(.ref k1)])) rfl rfl (hb hby d7_4)
  have S293 : ∀ t, Steps p.tables e below (T292.setTop (mkF m 13 #[.val (.ref a1), .val (.long q1), .second, .val (.ref b1), .unset] [(.ref b1)])) t → Steps p.tables e below (T292.setTop (mkF m 7 #[.val (.ref a1), .val (.long q1), .second, .unset, .unset] [(.ref b1)])) t := by
    intro t kt
    show Steps p.tables e below (T292.setTop (mkF m 7 #[.val (.ref a1), .val (.long q1), .second, .unset, .unset] [(.ref b1)])) _
    refine XS.astoreN X292.here hx rfl (hb hby d7_7) rfl rfl (l' := #[.val (.ref a1), .val (.long q1), .second, .val (.ref b1), .unset]) rfl ?_
    show Steps p.tables e below (T292.setTop (mkF m 8 #[.val (.ref a1), .val (.long q1), .second, .val (.ref b1), .unset] [])) _
    refine XS.aloadN X292.here hx rfl (hb hby d7_8) rfl rfl ?_
    show Steps p.tables e below (T292.setTop (mkF m 9 #[.val (.ref a1), .val (.long q1), .second, .val (.ref b1), .unset] [(.ref b1)])) _
    refine XS.ifnullNo X292.here hx rfl (hb hby d7_9) rfl ?_
    show Steps p.tables e below (T292.setTop (mkF m 12 #[.val (.ref a1), .val (.long q1), .second, .val (.ref b1), .unset] [])) _
    refine XS.aloadN X292.here hx rfl (hb hby d7_12) rfl rfl ?_
    exact kt
  obtain ⟨T294, X294, e294, st294⟩ := getF X292 hx hZ hown (host := "") (Or.inl (hw _ (List.mem_of_getElem? (i := 73) rfl))) Via.refl e292 F287 (g := (mkF m 13 #[.val (.ref a1), .val (.long q1), .second, .val (.ref b1), .unset] [(.ref b1)])) rfl rfl (hb hby d7_13)
  have S295 : ∀ t, Steps p.tables e below (T294.setTop (mkF m 25 #[.val (.ref a1), .val (.long q1), .second, .val (.ref b1), .unset] [(.ref b1), (.ref a1)])) t → Steps p.tables e below (T294.setTop (mkF m 16 #[.val (.ref a1), .val (.long q1), .second, .val (.ref b1), .unset] [(.long q0)])) t := by
    intro t kt
    show Steps p.tables e below (T294.setTop (mkF m 16 #[.val (.ref a1), .val (.long q1), .second, .val (.ref b1), .unset] [(.long q0)])) _
    refine XS.lloadN X294.here hx rfl (hb hby d7_16) rfl ?_
    show Steps p.tables e below (T294.setTop (mkF m 17 #[.val (.ref a1), .val (.long q1), .second, .val (.ref b1), .unset] [(.long q1), (.long q0)])) _
    refine XS.lcmp X294.here hx rfl (hb hby d7_17) rfl ?_
    show Steps p.tables e below (T294.setTop (mkF m 18 #[.val (.ref a1), .val (.long q1), .second, .val (.ref b1), .unset] [(.int (lcmpW q0 q1))])) _
    refine XS.ifYes X294.here hx rfl (pc0 := 18) (pc' := 23) rfl (hb hby d7_18) rfl ((if0 _ _).trans (flt (fun q => hq ((lw_gt q0 q1).mp q))).2.2.2) (by decide) (by decide) ?_
    show Steps p.tables e below (T294.setTop (mkF m 23 #[.val (.ref a1), .val (.long q1), .second, .val (.ref b1), .unset] [])) _
    refine XS.aloadN X294.here hx rfl (hb hby d7_23) rfl rfl ?_
    show Steps p.tables e below (T294.setTop (mkF m 24 #[.val (.ref a1), .val (.long q1), .second, .val (.ref b1), .unset] [(.ref a1)])) _
    refine XS.aloadN X294.here hx rfl (hb hby d7_24) rfl rfl ?_
    exact kt
  obtain ⟨T296, h296, X296, e296, W296, st296⟩ := putF X294 hx hZ hown (host := "") (Or.inl (hw _ (List.mem_of_getElem? (i := 22) rfl))) Via.refl e294 F283 F282 (Or.inl (hw _ (List.mem_of_getElem? (i := 23) rfl))) (hw _ (List.mem_of_getElem? (i := 1) rfl)) (ty := (.object "tidegate/operator/Crossings$Batch")) (by decide) rfl rfl (g := (mkF m 25 #[.val (.ref a1), .val (.long q1), .second, .val (.ref b1), .unset] [(.ref b1), (.ref a1)])) rfl rfl (hb hby d7_25)
  have z297 : n0 ≤ h296.size := Nat.le_trans Z0 (Keep.of_wr W296).1
  have N298 := Fr.snoc X296 N0 g_a1
  have Fw296 := F283.same W296
  have S299 : ∀ t, Steps p.tables e below (T296.setTop (mkF m 29 #[.val (.ref a1), .val (.long q1), .second, .val (.ref b1), .unset] [(.ref b1)])) t → Steps p.tables e below (T296.setTop (mkF m 28 #[.val (.ref a1), .val (.long q1), .second, .val (.ref b1), .unset] [])) t := by
    intro t kt
    show Steps p.tables e below (T296.setTop (mkF m 28 #[.val (.ref a1), .val (.long q1), .second, .val (.ref b1), .unset] [])) _
    refine XS.aloadN X296.here hx rfl (hb hby d7_28) rfl rfl ?_
    exact kt
  have f300 := (F288.other W296 (Or.inl (Ne.symm ne_a1_b1)))
  obtain ⟨T301, X301, e301, st301⟩ := getF X296 hx hZ hown (host := "") (Or.inl (hw _ (List.mem_of_getElem? (i := 79) rfl))) Via.refl e296 f300 (g := (mkF m 29 #[.val (.ref a1), .val (.long q1), .second, .val (.ref b1), .unset] [(.ref b1)])) rfl rfl (hb hby d7_29)
  have S302 : ∀ t, Steps p.tables e below (T301.setTop (mkF m 36 #[.val (.ref a1), .val (.long q1), .second, .val (.ref b1), .val (.ref s1)] [.null, (.ref b1)])) t → Steps p.tables e below (T301.setTop (mkF m 32 #[.val (.ref a1), .val (.long q1), .second, .val (.ref b1), .unset] [(.ref s1)])) t := by
    intro t kt
    show Steps p.tables e below (T301.setTop (mkF m 32 #[.val (.ref a1), .val (.long q1), .second, .val (.ref b1), .unset] [(.ref s1)])) _
    refine XS.astore X301.here hx rfl (hb hby d7_32) rfl rfl (l' := #[.val (.ref a1), .val (.long q1), .second, .val (.ref b1), .val (.ref s1)]) rfl ?_
    show Steps p.tables e below (T301.setTop (mkF m 34 #[.val (.ref a1), .val (.long q1), .second, .val (.ref b1), .val (.ref s1)] [])) _
    refine XS.aloadN X301.here hx rfl (hb hby d7_34) rfl rfl ?_
    show Steps p.tables e below (T301.setTop (mkF m 35 #[.val (.ref a1), .val (.long q1), .second, .val (.ref b1), .val (.ref s1)] [(.ref b1)])) _
    refine XS.aconstNull X301.here hx rfl (hb hby d7_35) ?_
    exact kt
  have f303 := (F286.wr W296)
  obtain ⟨T304, h304, X304, e304, W304, st304⟩ := putF X301 hx hZ hown (host := "") (Or.inl (hw _ (List.mem_of_getElem? (i := 79) rfl))) Via.refl e301 f300 f303 (Or.inl (hw _ (List.mem_of_getElem? (i := 19) rfl))) (hw _ (List.mem_of_getElem? (i := 10) rfl)) (ty := (.object "tidegate/operator/StageFunctions")) (by decide) rfl rfl (g := (mkF m 36 #[.val (.ref a1), .val (.long q1), .second, .val (.ref b1), .val (.ref s1)] [.null, (.ref b1)])) rfl rfl (hb hby d7_36)
  have z305 : n0 ≤ h304.size := Nat.le_trans z297 (Keep.of_wr W304).1
  have N306 := Fr.snoc X304 N298 g_b1
  have Fw304 := f300.same W304
  have S307 : ∀ t, Steps p.tables e below (T304.setTop (mkF m 41 #[.val (.ref a1), .val (.long q1), .second, .val (.ref b1), .val (.ref s1)] [(.ref s1)])) t → Steps p.tables e below (T304.setTop (mkF m 39 #[.val (.ref a1), .val (.long q1), .second, .val (.ref b1), .val (.ref s1)] [])) t := by
    intro t kt
    show Steps p.tables e below (T304.setTop (mkF m 39 #[.val (.ref a1), .val (.long q1), .second, .val (.ref b1), .val (.ref s1)] [])) _
    refine XS.aload X304.here hx rfl (hb hby d7_39) rfl rfl ?_
    exact kt
  have C308 : ∀ t, Steps p.tables e below (T304.setTop (mkF m 41 #[.val (.ref a1), .val (.long q1), .second, .val (.ref b1), .val (.ref s1)] [(.ref s1)])) t → Steps p.tables e below (s₁.setTop (mkF m 0 #[.val (.ref a1), .val (.long q1), .second, .unset, .unset] [])) t := (fun t k => (S290 t (st291 t (st292 t (S293 t (st294 t (S295 t (st296 t (S299 t (st301 t (S302 t (st304 t (S307 t k)))))))))))))
  obtain ⟨fs, hr, hrun, hended, hW, hsame⟩ := X304.leave (v := some (.ref s1)) (fun h => by rw [Bd.returns] at h; cases h)
  refine ⟨_, _, pre0 _ (C308 _ ?_), hrun, hended, _, _, rfl, ?_, ⟨_, rfl⟩, hW, hsame.mono (by decide) (by decide)⟩
  · exact retOut X304 hx Bd.returns rfl (Or.inr (Or.inr (Or.inr (Or.inr ⟨rfl, rfl, rfl⟩)))) (hb hby d7_41) hr
  · show Q_rm_tk2r Z a1 q1 k1 b1 q0 s1 d1 x1 h0 n0 _ T304.heap _
    rw [e304]
    have f309 := (Fw296.other W304 (Or.inl ne_a1_b1))
    have f310 := ((F284.other W296 (Or.inr (slot_ne (Or.inl (hw _ (List.mem_of_getElem? (i := 21) rfl))) (Or.inl (hw _ (List.mem_of_getElem? (i := 23) rfl))) (by decide) (t := (.object "tidegate/operator/Crossings$Batch")) (t' := (.object "tidegate/operator/Crossings$Batch")) (by decide) (by decide)))).other W304 (Or.inl ne_a1_b1))
    have f311 := ((F289.other W296 (Or.inl (Ne.symm ne_a1_b1))).other W304 (Or.inr (slot_ne (Or.inl (hw _ (List.mem_of_getElem? (i := 67) rfl))) (Or.inl (hw _ (List.mem_of_getElem? (i := 19) rfl))) (by decide) (t := (.object "tidegate/operator/Crossings$Batch")) (t' := (.object "tidegate/operator/StageFunctions")) (by decide) (by decide))))
    have f312 := ((F287.other W296 (Or.inl (Ne.symm ne_a1_b1))).other W304 (Or.inr (slot_ne (Or.inr (hw _ (List.mem_of_getElem? (i := 17) rfl))) (Or.inl (hw _ (List.mem_of_getElem? (i := 19) rfl))) (by decide) (t := .long) (t' := (.object "tidegate/operator/StageFunctions")) (by decide) (by decide))))
    exact ⟨rfl, N306, (((Keep.refl h0 [a1, b1]).wr W296 (Or.inl (List.mem_of_getElem? (i := 0) rfl))).wr W304 (Or.inl (List.mem_of_getElem? (i := 1) rfl))), f309, f310, f311, f312, Fw304⟩
theorem ef_rm_wt0 (m : MethodId) (x0 : Addr) : entryFrame m #[(.ref x0)] 1 = mkF m 0 #[.val (.ref x0)] [] := by first | (simp [entryFrame, mkF, argsToLocals, Value.category]; done) | rfl
def Q_rm_wt0 (Z : State) (a1 : Addr) (k1 : Addr) (h0 : Heap) (n0 : Nat) (v : Option Value) (h : Heap) (L : List Loc) : Prop := v = some (.int 0) ∧ Fr n0 L ∧ h = h0
set_option maxRecDepth 65536 in
set_option maxHeartbeats 40000000 in
theorem rm_wt0 (l : Launch) (Z : State) (a0 : Array Value) (hw : ∀ d ∈ tables_1, d.before a0 Z = true) (ws : List Jvm.Cond) (a1 : Addr) (k1 : Addr) (h0 : Heap) (n0 : Nat) (Z0 : n0 ≤ h0.size) (F313 : Fld Z h0 a1 "tidegate/operator/Crossings" "taken" "Ltidegate/operator/Crossings$Batch;" (.ref k1)) (F314 : Fld Z h0 k1 "tidegate/operator/Crossings$Batch" "next" "Ltidegate/operator/Crossings$Batch;" .null) :
    MetFree l (⟨"tidegate/operator/Crossings", "waiting", "()Z"⟩ : MethodName) (head1 (Jvm.Cond.code (⟨"tidegate/operator/Crossings", "waiting", "()Z"⟩ : MethodName) prog_140_method_3_code 1 (some .boolean) :: ws) ({ frames := 0, cells := 0, slots := 0, locals := 0 } : Room)) (fun a U => a = #[(.ref a1)] ∧ Z.Warmed39 U.vm ∧ U.heap = h0) (fun _ _ _ _ _ => True) (fun _ U o U' => ∃ v L, o = .returned v ∧ Q_rm_wt0 Z a1 k1 h0 n0 v U'.heap L ∧ FrameEnd U o U' L ({ frames := 0, cells := 0, slots := 0, locals := 0 } : Room).cells ({ frames := 0, cells := 0, slots := 0, locals := 0 } : Room).slots) := by
  refine MetFree.of_bodySF (plainFor_of_name pn_1) hisR ?_
  intro p e s m args below meth c s₁ Bd hml0 hP hK
  obtain ⟨rfl, hZ, hh⟩ := hP
  have hx := Bd.exec
  have hby := Bd.bytes
  have hml : c.maxLocals = 1 := hml0
  have hown : s.vm.findClass "tidegate/operator/Crossings" = some m.cls := findClass_of_methodNamed Bd.named
  have hnm := (name_of_methodNamed Bd.named Bd.method).1
  have X0 : Stand p l e ({ frames := 0, cells := 0, slots := 0, locals := 0 } : Room) s m #[(.ref a1)] below meth c s₁ [] 0 0 := Stand.of_body Bd
  have e0 : s₁.heap = h0 := by rw [← hh, Bd.state]; rfl
  have N0 := Fr.nil n0
  have pre0 : ∀ t, Steps p.tables e below (s₁.setTop (mkF m 0 #[.val (.ref a1)] [])) t → Steps p.tables e below (s₁.setTop (entryFrame m #[(.ref a1)] 1)) t := fun t k => castTop (ef_rm_wt0 m a1) k
  have S315 : ∀ t, Steps p.tables e below (s₁.setTop (mkF m 1 #[.val (.ref a1)] [(.ref a1)])) t → Steps p.tables e below (s₁.setTop (mkF m 0 #[.val (.ref a1)] [])) t := by
    intro t kt
    show Steps p.tables e below (s₁.setTop (mkF m 0 #[.val (.ref a1)] [])) _
    refine XS.aloadN X0.here hx rfl (hb hby d8_0) rfl rfl ?_
    exact kt
  obtain ⟨T316, X316, e316, st316⟩ := getF X0 hx hZ hown (host := "") (Or.inl (hw _ (List.mem_of_getElem? (i := 22) rfl))) Via.refl e0 F313 (g := (mkF m 1 #[.val (.ref a1)] [(.ref a1)])) rfl rfl (hb hby d8_1)
  obtain ⟨T317, X317, e317, st317⟩ := getF X316 hx hZ hown (host := "") (Or.inl (hw _ (List.mem_of_getElem? (i := 66) rfl))) Via.refl e316 F314 (g := (mkF m 4 #[.val (.ref a1)] [(.ref k1)])) rfl rfl (hb hby d8_4)
  have S318 : ∀ t, Steps p.tables e below (T317.setTop (mkF m 15 #[.val (.ref a1)] [(.int (0 : Int32))])) t → Steps p.tables e below (T317.setTop (mkF m 7 #[.val (.ref a1)] [.null])) t := by
    intro t kt
    show Steps p.tables e below (T317.setTop (mkF m 7 #[.val (.ref a1)] [.null])) _
    refine XS.ifnullYes X317.here hx rfl (pc0 := 7) (pc' := 14) rfl (hb hby d8_7) rfl (by decide) (by decide) ?_
    show Steps p.tables e below (T317.setTop (mkF m 14 #[.val (.ref a1)] [])) _
    refine XS.iconst X317.here hx rfl (hb hby d8_14) ?_
    exact kt
  have C319 : ∀ t, Steps p.tables e below (T317.setTop (mkF m 15 #[.val (.ref a1)] [(.int (0 : Int32))])) t → Steps p.tables e below (s₁.setTop (mkF m 0 #[.val (.ref a1)] [])) t := (fun t k => (S315 t (st316 t (st317 t (S318 t k)))))
  obtain ⟨fs, hr, hrun, hended, hW, hsame⟩ := X317.leave (v := some (.int (0 : Int32))) (fun h => by rw [Bd.returns] at h; cases h)
  refine ⟨_, _, pre0 _ (C319 _ ?_), hrun, hended, _, _, rfl, ?_, ⟨_, rfl⟩, hW, hsame.mono (by decide) (by decide)⟩
  · exact retN X317 hx (t := .boolean) Bd.returns (by simp) (hb hby d8_15) hr
  · show Q_rm_wt0 Z a1 k1 h0 n0 _ T317.heap _
    rw [e317]
    exact ⟨rfl, N0, rfl⟩
theorem ef_rm_wt1 (m : MethodId) (x0 : Addr) : entryFrame m #[(.ref x0)] 1 = mkF m 0 #[.val (.ref x0)] [] := by first | (simp [entryFrame, mkF, argsToLocals, Value.category]; done) | rfl
def Q_rm_wt1 (Z : State) (a1 : Addr) (k1 : Addr) (b1 : Addr) (h0 : Heap) (n0 : Nat) (v : Option Value) (h : Heap) (L : List Loc) : Prop := v = some (.int 1) ∧ Fr n0 L ∧ h = h0
set_option maxRecDepth 65536 in
set_option maxHeartbeats 40000000 in
theorem rm_wt1 (l : Launch) (Z : State) (a0 : Array Value) (hw : ∀ d ∈ tables_1, d.before a0 Z = true) (ws : List Jvm.Cond) (a1 : Addr) (k1 : Addr) (b1 : Addr) (h0 : Heap) (n0 : Nat) (Z0 : n0 ≤ h0.size) (F320 : Fld Z h0 a1 "tidegate/operator/Crossings" "taken" "Ltidegate/operator/Crossings$Batch;" (.ref k1)) (F321 : Fld Z h0 k1 "tidegate/operator/Crossings$Batch" "next" "Ltidegate/operator/Crossings$Batch;" (.ref b1)) :
    MetFree l (⟨"tidegate/operator/Crossings", "waiting", "()Z"⟩ : MethodName) (head1 (Jvm.Cond.code (⟨"tidegate/operator/Crossings", "waiting", "()Z"⟩ : MethodName) prog_140_method_3_code 1 (some .boolean) :: ws) ({ frames := 0, cells := 0, slots := 0, locals := 0 } : Room)) (fun a U => a = #[(.ref a1)] ∧ Z.Warmed39 U.vm ∧ U.heap = h0) (fun _ _ _ _ _ => True) (fun _ U o U' => ∃ v L, o = .returned v ∧ Q_rm_wt1 Z a1 k1 b1 h0 n0 v U'.heap L ∧ FrameEnd U o U' L ({ frames := 0, cells := 0, slots := 0, locals := 0 } : Room).cells ({ frames := 0, cells := 0, slots := 0, locals := 0 } : Room).slots) := by
  refine MetFree.of_bodySF (plainFor_of_name pn_1) hisR ?_
  intro p e s m args below meth c s₁ Bd hml0 hP hK
  obtain ⟨rfl, hZ, hh⟩ := hP
  have hx := Bd.exec
  have hby := Bd.bytes
  have hml : c.maxLocals = 1 := hml0
  have hown : s.vm.findClass "tidegate/operator/Crossings" = some m.cls := findClass_of_methodNamed Bd.named
  have hnm := (name_of_methodNamed Bd.named Bd.method).1
  have X0 : Stand p l e ({ frames := 0, cells := 0, slots := 0, locals := 0 } : Room) s m #[(.ref a1)] below meth c s₁ [] 0 0 := Stand.of_body Bd
  have e0 : s₁.heap = h0 := by rw [← hh, Bd.state]; rfl
  have N0 := Fr.nil n0
  have pre0 : ∀ t, Steps p.tables e below (s₁.setTop (mkF m 0 #[.val (.ref a1)] [])) t → Steps p.tables e below (s₁.setTop (entryFrame m #[(.ref a1)] 1)) t := fun t k => castTop (ef_rm_wt1 m a1) k
  have S322 : ∀ t, Steps p.tables e below (s₁.setTop (mkF m 1 #[.val (.ref a1)] [(.ref a1)])) t → Steps p.tables e below (s₁.setTop (mkF m 0 #[.val (.ref a1)] [])) t := by
    intro t kt
    show Steps p.tables e below (s₁.setTop (mkF m 0 #[.val (.ref a1)] [])) _
    refine XS.aloadN X0.here hx rfl (hb hby d8_0) rfl rfl ?_
    exact kt
  obtain ⟨T323, X323, e323, st323⟩ := getF X0 hx hZ hown (host := "") (Or.inl (hw _ (List.mem_of_getElem? (i := 22) rfl))) Via.refl e0 F320 (g := (mkF m 1 #[.val (.ref a1)] [(.ref a1)])) rfl rfl (hb hby d8_1)
  obtain ⟨T324, X324, e324, st324⟩ := getF X323 hx hZ hown (host := "") (Or.inl (hw _ (List.mem_of_getElem? (i := 66) rfl))) Via.refl e323 F321 (g := (mkF m 4 #[.val (.ref a1)] [(.ref k1)])) rfl rfl (hb hby d8_4)
  have S325 : ∀ t, Steps p.tables e below (T324.setTop (mkF m 15 #[.val (.ref a1)] [(.int (1 : Int32))])) t → Steps p.tables e below (T324.setTop (mkF m 7 #[.val (.ref a1)] [(.ref b1)])) t := by
    intro t kt
    show Steps p.tables e below (T324.setTop (mkF m 7 #[.val (.ref a1)] [(.ref b1)])) _
    refine XS.ifnullNo X324.here hx rfl (hb hby d8_7) rfl ?_
    show Steps p.tables e below (T324.setTop (mkF m 10 #[.val (.ref a1)] [])) _
    refine XS.iconst X324.here hx rfl (hb hby d8_10) ?_
    show Steps p.tables e below (T324.setTop (mkF m 11 #[.val (.ref a1)] [(.int (1 : Int32))])) _
    refine XS.goto X324.here hx rfl (pc0 := 11) (pc' := 15) rfl (hb hby d8_11) (by decide) (by decide) ?_
    exact kt
  have C326 : ∀ t, Steps p.tables e below (T324.setTop (mkF m 15 #[.val (.ref a1)] [(.int (1 : Int32))])) t → Steps p.tables e below (s₁.setTop (mkF m 0 #[.val (.ref a1)] [])) t := (fun t k => (S322 t (st323 t (st324 t (S325 t k)))))
  obtain ⟨fs, hr, hrun, hended, hW, hsame⟩ := X324.leave (v := some (.int (1 : Int32))) (fun h => by rw [Bd.returns] at h; cases h)
  refine ⟨_, _, pre0 _ (C326 _ ?_), hrun, hended, _, _, rfl, ?_, ⟨_, rfl⟩, hW, hsame.mono (by decide) (by decide)⟩
  · exact retN X324 hx (t := .boolean) Bd.returns (by simp) (hb hby d8_15) hr
  · show Q_rm_wt1 Z a1 k1 b1 h0 n0 _ T324.heap _
    rw [e324]
    exact ⟨rfl, N0, rfl⟩
theorem ef_rm0 (m : MethodId) (x0 : Int64) (x1 : Int64) (x2 : Int64) (x3 : Int64) (x4 : Int32) : entryFrame m #[(.long x0), (.long x1), (.long x2), (.long x3), (.int x4)] maxLocals = mkF m 0 #[.val (.long x0), .second, .val (.long x1), .second, .val (.long x2), .second, .val (.long x3), .second, .val (.int x4), .unset, .unset, .unset, .unset, .unset, .unset, .unset, .unset, .unset, .unset, .unset, .unset, .unset] [] := by first | (simp [entryFrame, mkF, argsToLocals, Value.category, maxLocals]; done) | rfl
def Q_rm0 (Z : State) (f1 : Int64) (f2 : Int64) (c1 : Int64) (c2 : Int64) (fl : Int32) (h0 : Heap) (n0 : Nat) (v : Option Value) (h : Heap) (L : List Loc) : Prop := v = some (.int 1) ∧ Fr n0 L
set_option maxRecDepth 65536 in
set_option maxHeartbeats 40000000 in
theorem rm0 (l : Launch) (Z : State) (a0 : Array Value) (hw : ∀ d ∈ tables_1, d.before a0 Z = true) (ws : List Jvm.Cond) (f1 : Int64) (f2 : Int64) (c1 : Int64) (c2 : Int64) (fl : Int32) (h0 : Heap) (n0 : Nat) (Z0 : n0 ≤ h0.size)  :
    MetFree l x (head1 (Jvm.Cond.code x code maxLocals ret :: ws) room_1) (fun a U => a = #[(.long f1), (.long f2), (.long c1), (.long c2), (.int fl)] ∧ Z.Warmed39 U.vm ∧ U.heap = h0) (fun _ _ _ _ _ => True) (fun _ U o U' => ∃ v L, o = .returned v ∧ Q_rm0 Z f1 f2 c1 c2 fl h0 n0 v U'.heap L ∧ FrameEnd U o U' L room_1.cells room_1.slots) := by
  refine MetFree.of_bodySF (plainFor_of_name pn_4) hisR ?_
  intro p e s m args below meth c s₁ Bd hml0 hP hK
  obtain ⟨rfl, hZ, hh⟩ := hP
  have hx := Bd.exec
  have hby := Bd.bytes
  have hml : c.maxLocals = 22 := hml0
  have hown : s.vm.findClass "tidegate/operator/CrossingsTakePinLaw" = some m.cls := findClass_of_methodNamed Bd.named
  have hnm := (name_of_methodNamed Bd.named Bd.method).1
  have X0 : Stand p l e room_1 s m #[(.long f1), (.long f2), (.long c1), (.long c2), (.int fl)] below meth c s₁ [] 0 0 := Stand.of_body Bd
  have e0 : s₁.heap = h0 := by rw [← hh, Bd.state]; rfl
  have N0 := Fr.nil n0
  have pre0 : ∀ t, Steps p.tables e below (s₁.setTop (mkF m 0 #[.val (.long f1), .second, .val (.long f2), .second, .val (.long c1), .second, .val (.long c2), .second, .val (.int fl), .unset, .unset, .unset, .unset, .unset, .unset, .unset, .unset, .unset, .unset, .unset, .unset, .unset] [])) t → Steps p.tables e below (s₁.setTop (entryFrame m #[(.long f1), (.long f2), (.long c1), (.long c2), (.int fl)] maxLocals)) t := fun t k => castTop (ef_rm0 m f1 f2 c1 c2 fl) k
  have S328 : ∀ t, Steps p.tables e below (s₁.setTop (mkF m 4 #[.val (.long f1), .second, .val (.long f2), .second, .val (.long c1), .second, .val (.long c2), .second, .val (.int fl), .unset, .unset, .unset, .unset, .unset, .unset, .unset, .unset, .unset, .unset, .unset, .unset, .unset] [(.int (fl &&& (3 : Int32)))])) t → Steps p.tables e below (s₁.setTop (mkF m 0 #[.val (.long f1), .second, .val (.long f2), .second, .val (.long c1), .second, .val (.long c2), .second, .val (.int fl), .unset, .unset, .unset, .unset, .unset, .unset, .unset, .unset, .unset, .unset, .unset, .unset, .unset] [])) t := by
    intro t kt
    show Steps p.tables e below (s₁.setTop (mkF m 0 #[.val (.long f1), .second, .val (.long f2), .second, .val (.long c1), .second, .val (.long c2), .second, .val (.int fl), .unset, .unset, .unset, .unset, .unset, .unset, .unset, .unset, .unset, .unset, .unset, .unset, .unset] [])) _
    refine XS.iload X0.here hx rfl (hb hby at_0) rfl ?_
    refine XS.iconst X0.here hx rfl (hb hby at_2) ?_
    refine XS.iand X0.here hx rfl (hb hby at_3) rfl ?_
    exact kt
  obtain ⟨v327, hv327⟩ : ∃ z : Int32, z = (fl &&& (3 : Int32)) := ⟨_, rfl⟩
  have S329 : ∀ t, Steps p.tables e below (s₁.setTop (mkF m 4 #[.val (.long f1), .second, .val (.long f2), .second, .val (.long c1), .second, .val (.long c2), .second, .val (.int fl), .unset, .unset, .unset, .unset, .unset, .unset, .unset, .unset, .unset, .unset, .unset, .unset, .unset] [(.int v327)])) t → Steps p.tables e below (s₁.setTop (mkF m 4 #[.val (.long f1), .second, .val (.long f2), .second, .val (.long c1), .second, .val (.long c2), .second, .val (.int fl), .unset, .unset, .unset, .unset, .unset, .unset, .unset, .unset, .unset, .unset, .unset, .unset, .unset] [(.int (fl &&& (3 : Int32)))])) t := fun t k => by rw [hv327.symm]; exact k
  have C330 : ∀ t, Steps p.tables e below (s₁.setTop (mkF m 4 #[.val (.long f1), .second, .val (.long f2), .second, .val (.long c1), .second, .val (.long c2), .second, .val (.int fl), .unset, .unset, .unset, .unset, .unset, .unset, .unset, .unset, .unset, .unset, .unset, .unset, .unset] [(.int v327)])) t → Steps p.tables e below (s₁.setTop (mkF m 0 #[.val (.long f1), .second, .val (.long f2), .second, .val (.long c1), .second, .val (.long c2), .second, .val (.int fl), .unset, .unset, .unset, .unset, .unset, .unset, .unset, .unset, .unset, .unset, .unset, .unset, .unset] [])) t := (fun t k => (S328 t (S329 t k)))
  rcases own_n4 _ _ hv327 with qv327 | qv327 | qv327 | qv327
  · have S331 : ∀ t, Steps p.tables e below (s₁.setTop (mkF m 4 #[.val (.long f1), .second, .val (.long f2), .second, .val (.long c1), .second, .val (.long c2), .second, .val (.int fl), .unset, .unset, .unset, .unset, .unset, .unset, .unset, .unset, .unset, .unset, .unset, .unset, .unset] [(.int (0 : Int32))])) t → Steps p.tables e below (s₁.setTop (mkF m 4 #[.val (.long f1), .second, .val (.long f2), .second, .val (.long c1), .second, .val (.long c2), .second, .val (.int fl), .unset, .unset, .unset, .unset, .unset, .unset, .unset, .unset, .unset, .unset, .unset, .unset, .unset] [(.int v327)])) t := fun t k => by rw [qv327]; exact k
    have S332 : ∀ t, Steps p.tables e below (s₁.setTop (mkF m 33 #[.val (.long f1), .second, .val (.long f2), .second, .val (.long c1), .second, .val (.long c2), .second, .val (.int fl), .val (.int (0 : Int32)), .val (.int (0 : Int32)), .val (.int (0 : Int32)), .unset, .unset, .unset, .unset, .unset, .unset, .unset, .unset, .unset, .unset] [])) t → Steps p.tables e below (s₁.setTop (mkF m 4 #[.val (.long f1), .second, .val (.long f2), .second, .val (.long c1), .second, .val (.long c2), .second, .val (.int fl), .unset, .unset, .unset, .unset, .unset, .unset, .unset, .unset, .unset, .unset, .unset, .unset, .unset] [(.int (0 : Int32))])) t := by
      intro t kt
      show Steps p.tables e below (s₁.setTop (mkF m 4 #[.val (.long f1), .second, .val (.long f2), .second, .val (.long c1), .second, .val (.long c2), .second, .val (.int fl), .unset, .unset, .unset, .unset, .unset, .unset, .unset, .unset, .unset, .unset, .unset, .unset, .unset] [(.int (0 : Int32))])) _
      refine XS.istore X0.here hx rfl (hb hby at_4) rfl (l' := #[.val (.long f1), .second, .val (.long f2), .second, .val (.long c1), .second, .val (.long c2), .second, .val (.int fl), .val (.int (0 : Int32)), .unset, .unset, .unset, .unset, .unset, .unset, .unset, .unset, .unset, .unset, .unset, .unset]) rfl ?_
      refine XS.iload X0.here hx rfl (hb hby at_6) rfl ?_
      refine XS.iconst X0.here hx rfl (hb hby at_8) ?_
      refine XS.icmpYes X0.here hx rfl (pc0 := 9) (pc' := 16) rfl (hb hby at_9) rfl (feq (by decide)).2 (by decide) (by decide) ?_
      refine XS.iload X0.here hx rfl (hb hby at_16) rfl ?_
      refine XS.istore X0.here hx rfl (hb hby at_18) rfl (l' := #[.val (.long f1), .second, .val (.long f2), .second, .val (.long c1), .second, .val (.long c2), .second, .val (.int fl), .val (.int (0 : Int32)), .val (.int (0 : Int32)), .unset, .unset, .unset, .unset, .unset, .unset, .unset, .unset, .unset, .unset, .unset]) rfl ?_
      show Steps p.tables e below (s₁.setTop (mkF m 20 #[.val (.long f1), .second, .val (.long f2), .second, .val (.long c1), .second, .val (.long c2), .second, .val (.int fl), .val (.int (0 : Int32)), .val (.int (0 : Int32)), .unset, .unset, .unset, .unset, .unset, .unset, .unset, .unset, .unset, .unset, .unset] [])) _
      refine XS.iload X0.here hx rfl (hb hby at_20) rfl ?_
      refine XS.iconst X0.here hx rfl (hb hby at_22) ?_
      refine XS.icmpYes X0.here hx rfl (pc0 := 23) (pc' := 30) rfl (hb hby at_23) rfl (feq (by decide)).2 (by decide) (by decide) ?_
      refine XS.iconst X0.here hx rfl (hb hby at_30) ?_
      refine XS.istore X0.here hx rfl (hb hby at_31) rfl (l' := #[.val (.long f1), .second, .val (.long f2), .second, .val (.long c1), .second, .val (.long c2), .second, .val (.int fl), .val (.int (0 : Int32)), .val (.int (0 : Int32)), .val (.int (0 : Int32)), .unset, .unset, .unset, .unset, .unset, .unset, .unset, .unset, .unset, .unset]) rfl ?_
      exact kt
    obtain ⟨T333, h333, X333, e333, E333, A333, D333, -, st333⟩ := newO X0 hx hZ hown (hw _ (List.mem_of_getElem? (i := 0) rfl)) (hw _ (List.mem_of_getElem? (i := 1) rfl)) (hw _ (List.mem_of_getElem? (i := 2) rfl)) e0 (g := (mkF m 33 #[.val (.long f1), .second, .val (.long f2), .second, .val (.long c1), .second, .val (.long c2), .second, .val (.int fl), .val (.int (0 : Int32)), .val (.int (0 : Int32)), .val (.int (0 : Int32)), .unset, .unset, .unset, .unset, .unset, .unset, .unset, .unset, .unset, .unset] [])) rfl (hb hby at_33) (by decide) (by decide)
    obtain ⟨b333, g333⟩ : ∃ z, z = h0.size := ⟨_, rfl⟩
    rw [← g333] at A333 D333 st333
    have g_b333 : n0 ≤ b333 := Nat.le_trans Z0 (Nat.le_of_eq g333.symm)
    have z334 : n0 ≤ h333.size := Nat.le_trans Z0 E333.1
    have F335 : Fld Z h333 b333 "tidegate/operator/Crossings" "added" "Ltidegate/operator/Crossings$Batch;" .null := D333 (Or.inl (hw _ (List.mem_of_getElem? (i := 21) rfl))) (ty := (.object "tidegate/operator/Crossings$Batch")) (by decide)
    have F336 : Fld Z h333 b333 "tidegate/operator/Crossings" "taken" "Ltidegate/operator/Crossings$Batch;" .null := D333 (Or.inl (hw _ (List.mem_of_getElem? (i := 23) rfl))) (ty := (.object "tidegate/operator/Crossings$Batch")) (by decide)
    have S346 : ∀ t, Steps p.tables e below (T333.setTop (mkF m 37 #[.val (.long f1), .second, .val (.long f2), .second, .val (.long c1), .second, .val (.long c2), .second, .val (.int fl), .val (.int (0 : Int32)), .val (.int (0 : Int32)), .val (.int (0 : Int32)), .unset, .unset, .unset, .unset, .unset, .unset, .unset, .unset, .unset, .unset] [(.ref b333), (.ref b333)])) t → Steps p.tables e below (T333.setTop (mkF m 36 #[.val (.long f1), .second, .val (.long f2), .second, .val (.long c1), .second, .val (.long c2), .second, .val (.int fl), .val (.int (0 : Int32)), .val (.int (0 : Int32)), .val (.int (0 : Int32)), .unset, .unset, .unset, .unset, .unset, .unset, .unset, .unset, .unset, .unset] [(.ref b333)])) t := by
      intro t kt
      show Steps p.tables e below (T333.setTop (mkF m 36 #[.val (.long f1), .second, .val (.long f2), .second, .val (.long c1), .second, .val (.long c2), .second, .val (.int fl), .val (.int (0 : Int32)), .val (.int (0 : Int32)), .val (.int (0 : Int32)), .unset, .unset, .unset, .unset, .unset, .unset, .unset, .unset, .unset, .unset] [(.ref b333)])) _
      refine XS.dup X333.here hx rfl (hb hby at_36) rfl rfl ?_
      exact kt
    obtain ⟨_, _, ⟨T347, L347, k347, n347⟩, -, X347, ⟨Lc347, hQ347, l347, y347, z347⟩, st347⟩ := X333.specialBack hx (y := (⟨"tidegate/operator/Crossings", "<init>", "()V"⟩ : MethodName)) rfl hown (mvT hZ (hw _ (List.mem_of_getElem? (i := 3) rfl))) (mvT hZ (hw _ (List.mem_of_getElem? (i := 4) rfl))) (mvT hZ (hw _ (List.mem_of_getElem? (i := 5) rfl))) (by decide) (backOf (W := 1) (rm1 l Z a0 hw [] b333 h333 n0 z334 A333 F335 F336 g_b333) hZ (hw _ (List.mem_of_getElem? (i := 5) rfl)) (hw _ (List.mem_of_getElem? (i := 2) rfl)) (by decide) (by decide)) (g := (mkF m 37 #[.val (.long f1), .second, .val (.long f2), .second, .val (.long c1), .second, .val (.long c2), .second, .val (.int fl), .val (.int (0 : Int32)), .val (.int (0 : Int32)), .val (.int (0 : Int32)), .unset, .unset, .unset, .unset, .unset, .unset, .unset, .unset, .unset, .unset] [(.ref b333), (.ref b333)])) rfl (by rw [hml]; rfl) (Steps.refl _) (a := b333) (argsL := []) (rest := [(.ref b333)]) (lenOf pd_1 rfl) rfl (by show 2 * 0 + _ ≤ _; exact Nat.le_of_eq rfl) (hb hby at_37) (fun _ _ => ⟨rfl, e333, (by decide : 1 + 1 ≤ _), (by decide : 2 + 3 ≤ _)⟩)
    dsimp only [Pt.U, Pt.locs, Pt.cells, Pt.slots] at X347 l347 y347 z347 st347 hQ347
    subst l347 y347 z347
    obtain ⟨h347, e347⟩ : ∃ z, T347.heap = z := ⟨_, rfl⟩
    rw [e347] at hQ347
    obtain ⟨b337, rfl, N347q, K347q, hge338, F341, F342, F343, qq339, uu340, F348, F349, F350⟩ := hQ347
    have z351 : n0 ≤ h347.size := Nat.le_trans z334 K347q.1
    have N347 := Fr.app N0 N347q
    have g_b337 : n0 ≤ b337 := Nat.le_trans z334 hge338
    have ne_b333_b337 : b333 ≠ b337 := Nat.ne_of_lt (Nat.lt_of_lt_of_le A333.lt hge338)
    have S352 : ∀ t, Steps p.tables e below (T347.setTop (mkF m 42 #[.val (.long f1), .second, .val (.long f2), .second, .val (.long c1), .second, .val (.long c2), .second, .val (.int fl), .val (.int (0 : Int32)), .val (.int (0 : Int32)), .val (.int (0 : Int32)), .val (.ref b333), .unset, .unset, .unset, .unset, .unset, .unset, .unset, .unset, .unset] [])) t → Steps p.tables e below (T347.setTop (mkF m 40 #[.val (.long f1), .second, .val (.long f2), .second, .val (.long c1), .second, .val (.long c2), .second, .val (.int fl), .val (.int (0 : Int32)), .val (.int (0 : Int32)), .val (.int (0 : Int32)), .unset, .unset, .unset, .unset, .unset, .unset, .unset, .unset, .unset, .unset] [(.ref b333)])) t := by
      intro t kt
      show Steps p.tables e below (T347.setTop (mkF m 40 #[.val (.long f1), .second, .val (.long f2), .second, .val (.long c1), .second, .val (.long c2), .second, .val (.int fl), .val (.int (0 : Int32)), .val (.int (0 : Int32)), .val (.int (0 : Int32)), .unset, .unset, .unset, .unset, .unset, .unset, .unset, .unset, .unset, .unset] [(.ref b333)])) _
      refine XS.astore X347.here hx rfl (hb hby at_40) rfl rfl (l' := #[.val (.long f1), .second, .val (.long f2), .second, .val (.long c1), .second, .val (.long c2), .second, .val (.int fl), .val (.int (0 : Int32)), .val (.int (0 : Int32)), .val (.int (0 : Int32)), .val (.ref b333), .unset, .unset, .unset, .unset, .unset, .unset, .unset, .unset, .unset]) rfl ?_
      exact kt
    obtain ⟨T353, h353, X353, e353, E353, A353, D353, -, st353⟩ := newO X347 hx hZ hown (hw _ (List.mem_of_getElem? (i := 24) rfl)) (hw _ (List.mem_of_getElem? (i := 25) rfl)) (hw _ (List.mem_of_getElem? (i := 26) rfl)) e347 (g := (mkF m 42 #[.val (.long f1), .second, .val (.long f2), .second, .val (.long c1), .second, .val (.long c2), .second, .val (.int fl), .val (.int (0 : Int32)), .val (.int (0 : Int32)), .val (.int (0 : Int32)), .val (.ref b333), .unset, .unset, .unset, .unset, .unset, .unset, .unset, .unset, .unset] [])) rfl (hb hby at_42) (by decide) (by decide)
    obtain ⟨b353, g353⟩ : ∃ z, z = h347.size := ⟨_, rfl⟩
    rw [← g353] at A353 D353 st353
    have g_b353 : n0 ≤ b353 := Nat.le_trans z351 (Nat.le_of_eq g353.symm)
    have f354 := (A333.keep K347q)
    have ne_b333_b353 : b333 ≠ b353 := Nat.ne_of_lt (Nat.lt_of_lt_of_le f354.lt (Nat.le_of_eq g353.symm))
    have ne_b337_b353 : b337 ≠ b353 := Nat.ne_of_lt (Nat.lt_of_lt_of_le F341.lt (Nat.le_of_eq g353.symm))
    have z355 : n0 ≤ h353.size := Nat.le_trans z351 E353.1
    have F356 : Fld Z h353 b353 "tidegate/operator/StageFunctions" "kinds" "[Ltidegate/operator/OperatorPublisher$Kind;" .null := D353 (Or.inl (hw _ (List.mem_of_getElem? (i := 34) rfl))) (ty := (.array (.object "tidegate/operator/OperatorPublisher$Kind"))) (by decide)
    have F357 : Fld Z h353 b353 "tidegate/operator/StageFunctions" "entries" "[Ljava/lang/Object;" .null := D353 (Or.inl (hw _ (List.mem_of_getElem? (i := 38) rfl))) (ty := (.array (.object "java/lang/Object"))) (by decide)
    have F358 : Fld Z h353 b353 "tidegate/operator/StageFunctions" "stages" "[Ljava/lang/String;" .null := D353 (Or.inl (hw _ (List.mem_of_getElem? (i := 42) rfl))) (ty := (.array (.object "java/lang/String"))) (by decide)
    have F359 : Fld Z h353 b353 "tidegate/operator/StageFunctions" "counting" "Ltidegate/operator/StageFunctions$Indices;" .null := D353 (Or.inr (hw _ (List.mem_of_getElem? (i := 54) rfl))) (ty := (.object "tidegate/operator/StageFunctions$Indices")) (by decide)
    have F360 : Fld Z h353 b353 "tidegate/operator/StageFunctions" "shaping" "Ltidegate/operator/StageFunctions$Indices;" .null := D353 (Or.inr (hw _ (List.mem_of_getElem? (i := 56) rfl))) (ty := (.object "tidegate/operator/StageFunctions$Indices")) (by decide)
    have F361 : Fld Z h353 b353 "tidegate/operator/StageFunctions" "producers" "Ltidegate/operator/StageFunctions$Indices;" .null := D353 (Or.inr (hw _ (List.mem_of_getElem? (i := 58) rfl))) (ty := (.object "tidegate/operator/StageFunctions$Indices")) (by decide)
    have F362 : Fld Z h353 b353 "tidegate/operator/StageFunctions" "referees" "Ltidegate/operator/StageFunctions$Indices;" .null := D353 (Or.inr (hw _ (List.mem_of_getElem? (i := 60) rfl))) (ty := (.object "tidegate/operator/StageFunctions$Indices")) (by decide)
    have S363 : ∀ t, Steps p.tables e below (T353.setTop (mkF m 46 #[.val (.long f1), .second, .val (.long f2), .second, .val (.long c1), .second, .val (.long c2), .second, .val (.int fl), .val (.int (0 : Int32)), .val (.int (0 : Int32)), .val (.int (0 : Int32)), .val (.ref b333), .unset, .unset, .unset, .unset, .unset, .unset, .unset, .unset, .unset] [(.ref b353), (.ref b353)])) t → Steps p.tables e below (T353.setTop (mkF m 45 #[.val (.long f1), .second, .val (.long f2), .second, .val (.long c1), .second, .val (.long c2), .second, .val (.int fl), .val (.int (0 : Int32)), .val (.int (0 : Int32)), .val (.int (0 : Int32)), .val (.ref b333), .unset, .unset, .unset, .unset, .unset, .unset, .unset, .unset, .unset] [(.ref b353)])) t := by
      intro t kt
      show Steps p.tables e below (T353.setTop (mkF m 45 #[.val (.long f1), .second, .val (.long f2), .second, .val (.long c1), .second, .val (.long c2), .second, .val (.int fl), .val (.int (0 : Int32)), .val (.int (0 : Int32)), .val (.int (0 : Int32)), .val (.ref b333), .unset, .unset, .unset, .unset, .unset, .unset, .unset, .unset, .unset] [(.ref b353)])) _
      refine XS.dup X353.here hx rfl (hb hby at_45) rfl rfl ?_
      exact kt
    obtain ⟨_, _, ⟨T364, L364, k364, n364⟩, -, X364, ⟨Lc364, hQ364, l364, y364, z364⟩, st364⟩ := X353.specialBack hx (y := (⟨"tidegate/operator/StageFunctions", "<init>", "()V"⟩ : MethodName)) rfl hown (mvT hZ (hw _ (List.mem_of_getElem? (i := 27) rfl))) (mvT hZ (hw _ (List.mem_of_getElem? (i := 28) rfl))) (mvT hZ (hw _ (List.mem_of_getElem? (i := 29) rfl))) (by decide) (backOf (W := 1) (rm4 l Z a0 hw [] b353 h353 n0 z355 A353 F356 F357 F358 F359 F360 F361 F362 g_b353) hZ (hw _ (List.mem_of_getElem? (i := 29) rfl)) (hw _ (List.mem_of_getElem? (i := 26) rfl)) (by decide) (by decide)) (g := (mkF m 46 #[.val (.long f1), .second, .val (.long f2), .second, .val (.long c1), .second, .val (.long c2), .second, .val (.int fl), .val (.int (0 : Int32)), .val (.int (0 : Int32)), .val (.int (0 : Int32)), .val (.ref b333), .unset, .unset, .unset, .unset, .unset, .unset, .unset, .unset, .unset] [(.ref b353), (.ref b353)])) rfl (by rw [hml]; rfl) (Steps.refl _) (a := b353) (argsL := []) (rest := [(.ref b353)]) (lenOf pd_1 rfl) rfl (by show 2 * 0 + _ ≤ _; exact Nat.le_of_eq rfl) (hb hby at_46) (fun _ _ => ⟨rfl, e353, (by decide : 3 + 11 ≤ _), (by decide : 16 + 8 ≤ _)⟩)
    dsimp only [Pt.U, Pt.locs, Pt.cells, Pt.slots] at X364 l364 y364 z364 st364 hQ364
    subst l364 y364 z364
    obtain ⟨h364, e364⟩ : ∃ z, T364.heap = z := ⟨_, rfl⟩
    rw [e364] at hQ364
    obtain ⟨rfl, N364q, K364q⟩ := hQ364
    have z365 : n0 ≤ h364.size := Nat.le_trans z355 K364q.1
    have N364 := Fr.app N347 N364q
    have S366 : ∀ t, Steps p.tables e below (T364.setTop (mkF m 51 #[.val (.long f1), .second, .val (.long f2), .second, .val (.long c1), .second, .val (.long c2), .second, .val (.int fl), .val (.int (0 : Int32)), .val (.int (0 : Int32)), .val (.int (0 : Int32)), .val (.ref b333), .val (.ref b353), .unset, .unset, .unset, .unset, .unset, .unset, .unset, .unset] [])) t → Steps p.tables e below (T364.setTop (mkF m 49 #[.val (.long f1), .second, .val (.long f2), .second, .val (.long c1), .second, .val (.long c2), .second, .val (.int fl), .val (.int (0 : Int32)), .val (.int (0 : Int32)), .val (.int (0 : Int32)), .val (.ref b333), .unset, .unset, .unset, .unset, .unset, .unset, .unset, .unset, .unset] [(.ref b353)])) t := by
      intro t kt
      show Steps p.tables e below (T364.setTop (mkF m 49 #[.val (.long f1), .second, .val (.long f2), .second, .val (.long c1), .second, .val (.long c2), .second, .val (.int fl), .val (.int (0 : Int32)), .val (.int (0 : Int32)), .val (.int (0 : Int32)), .val (.ref b333), .unset, .unset, .unset, .unset, .unset, .unset, .unset, .unset, .unset] [(.ref b353)])) _
      refine XS.astore X364.here hx rfl (hb hby at_49) rfl rfl (l' := #[.val (.long f1), .second, .val (.long f2), .second, .val (.long c1), .second, .val (.long c2), .second, .val (.int fl), .val (.int (0 : Int32)), .val (.int (0 : Int32)), .val (.int (0 : Int32)), .val (.ref b333), .val (.ref b353), .unset, .unset, .unset, .unset, .unset, .unset, .unset, .unset]) rfl ?_
      exact kt
    obtain ⟨T367, h367, X367, e367, E367, A367, D367, -, st367⟩ := newO X364 hx hZ hown (hw _ (List.mem_of_getElem? (i := 24) rfl)) (hw _ (List.mem_of_getElem? (i := 25) rfl)) (hw _ (List.mem_of_getElem? (i := 26) rfl)) e364 (g := (mkF m 51 #[.val (.long f1), .second, .val (.long f2), .second, .val (.long c1), .second, .val (.long c2), .second, .val (.int fl), .val (.int (0 : Int32)), .val (.int (0 : Int32)), .val (.int (0 : Int32)), .val (.ref b333), .val (.ref b353), .unset, .unset, .unset, .unset, .unset, .unset, .unset, .unset] [])) rfl (hb hby at_51) (by decide) (by decide)
    obtain ⟨b367, g367⟩ : ∃ z, z = h364.size := ⟨_, rfl⟩
    rw [← g367] at A367 D367 st367
    have g_b367 : n0 ≤ b367 := Nat.le_trans z365 (Nat.le_of_eq g367.symm)
    have f368 := ((f354.ext E353).keep K364q)
    have ne_b333_b367 : b333 ≠ b367 := Nat.ne_of_lt (Nat.lt_of_lt_of_le f368.lt (Nat.le_of_eq g367.symm))
    have f369 := ((F341.ext E353).keep K364q)
    have ne_b337_b367 : b337 ≠ b367 := Nat.ne_of_lt (Nat.lt_of_lt_of_le f369.lt (Nat.le_of_eq g367.symm))
    have f370 := (A353.keep K364q)
    have ne_b353_b367 : b353 ≠ b367 := Nat.ne_of_lt (Nat.lt_of_lt_of_le f370.lt (Nat.le_of_eq g367.symm))
    have z371 : n0 ≤ h367.size := Nat.le_trans z365 E367.1
    have F372 : Fld Z h367 b367 "tidegate/operator/StageFunctions" "kinds" "[Ltidegate/operator/OperatorPublisher$Kind;" .null := D367 (Or.inl (hw _ (List.mem_of_getElem? (i := 34) rfl))) (ty := (.array (.object "tidegate/operator/OperatorPublisher$Kind"))) (by decide)
    have F373 : Fld Z h367 b367 "tidegate/operator/StageFunctions" "entries" "[Ljava/lang/Object;" .null := D367 (Or.inl (hw _ (List.mem_of_getElem? (i := 38) rfl))) (ty := (.array (.object "java/lang/Object"))) (by decide)
    have F374 : Fld Z h367 b367 "tidegate/operator/StageFunctions" "stages" "[Ljava/lang/String;" .null := D367 (Or.inl (hw _ (List.mem_of_getElem? (i := 42) rfl))) (ty := (.array (.object "java/lang/String"))) (by decide)
    have F375 : Fld Z h367 b367 "tidegate/operator/StageFunctions" "counting" "Ltidegate/operator/StageFunctions$Indices;" .null := D367 (Or.inr (hw _ (List.mem_of_getElem? (i := 54) rfl))) (ty := (.object "tidegate/operator/StageFunctions$Indices")) (by decide)
    have F376 : Fld Z h367 b367 "tidegate/operator/StageFunctions" "shaping" "Ltidegate/operator/StageFunctions$Indices;" .null := D367 (Or.inr (hw _ (List.mem_of_getElem? (i := 56) rfl))) (ty := (.object "tidegate/operator/StageFunctions$Indices")) (by decide)
    have F377 : Fld Z h367 b367 "tidegate/operator/StageFunctions" "producers" "Ltidegate/operator/StageFunctions$Indices;" .null := D367 (Or.inr (hw _ (List.mem_of_getElem? (i := 58) rfl))) (ty := (.object "tidegate/operator/StageFunctions$Indices")) (by decide)
    have F378 : Fld Z h367 b367 "tidegate/operator/StageFunctions" "referees" "Ltidegate/operator/StageFunctions$Indices;" .null := D367 (Or.inr (hw _ (List.mem_of_getElem? (i := 60) rfl))) (ty := (.object "tidegate/operator/StageFunctions$Indices")) (by decide)
    have S379 : ∀ t, Steps p.tables e below (T367.setTop (mkF m 55 #[.val (.long f1), .second, .val (.long f2), .second, .val (.long c1), .second, .val (.long c2), .second, .val (.int fl), .val (.int (0 : Int32)), .val (.int (0 : Int32)), .val (.int (0 : Int32)), .val (.ref b333), .val (.ref b353), .unset, .unset, .unset, .unset, .unset, .unset, .unset, .unset] [(.ref b367), (.ref b367)])) t → Steps p.tables e below (T367.setTop (mkF m 54 #[.val (.long f1), .second, .val (.long f2), .second, .val (.long c1), .second, .val (.long c2), .second, .val (.int fl), .val (.int (0 : Int32)), .val (.int (0 : Int32)), .val (.int (0 : Int32)), .val (.ref b333), .val (.ref b353), .unset, .unset, .unset, .unset, .unset, .unset, .unset, .unset] [(.ref b367)])) t := by
      intro t kt
      show Steps p.tables e below (T367.setTop (mkF m 54 #[.val (.long f1), .second, .val (.long f2), .second, .val (.long c1), .second, .val (.long c2), .second, .val (.int fl), .val (.int (0 : Int32)), .val (.int (0 : Int32)), .val (.int (0 : Int32)), .val (.ref b333), .val (.ref b353), .unset, .unset, .unset, .unset, .unset, .unset, .unset, .unset] [(.ref b367)])) _
      refine XS.dup X367.here hx rfl (hb hby at_54) rfl rfl ?_
      exact kt
    obtain ⟨_, _, ⟨T380, L380, k380, n380⟩, -, X380, ⟨Lc380, hQ380, l380, y380, z380⟩, st380⟩ := X367.specialBack hx (y := (⟨"tidegate/operator/StageFunctions", "<init>", "()V"⟩ : MethodName)) rfl hown (mvT hZ (hw _ (List.mem_of_getElem? (i := 27) rfl))) (mvT hZ (hw _ (List.mem_of_getElem? (i := 28) rfl))) (mvT hZ (hw _ (List.mem_of_getElem? (i := 29) rfl))) (by decide) (backOf (W := 1) (rm4 l Z a0 hw [] b367 h367 n0 z371 A367 F372 F373 F374 F375 F376 F377 F378 g_b367) hZ (hw _ (List.mem_of_getElem? (i := 29) rfl)) (hw _ (List.mem_of_getElem? (i := 26) rfl)) (by decide) (by decide)) (g := (mkF m 55 #[.val (.long f1), .second, .val (.long f2), .second, .val (.long c1), .second, .val (.long c2), .second, .val (.int fl), .val (.int (0 : Int32)), .val (.int (0 : Int32)), .val (.int (0 : Int32)), .val (.ref b333), .val (.ref b353), .unset, .unset, .unset, .unset, .unset, .unset, .unset, .unset] [(.ref b367), (.ref b367)])) rfl (by rw [hml]; rfl) (Steps.refl _) (a := b367) (argsL := []) (rest := [(.ref b367)]) (lenOf pd_1 rfl) rfl (by show 2 * 0 + _ ≤ _; exact Nat.le_of_eq rfl) (hb hby at_55) (fun _ _ => ⟨rfl, e367, (by decide : 15 + 11 ≤ _), (by decide : 35 + 8 ≤ _)⟩)
    dsimp only [Pt.U, Pt.locs, Pt.cells, Pt.slots] at X380 l380 y380 z380 st380 hQ380
    subst l380 y380 z380
    obtain ⟨h380, e380⟩ : ∃ z, T380.heap = z := ⟨_, rfl⟩
    rw [e380] at hQ380
    obtain ⟨rfl, N380q, K380q⟩ := hQ380
    have z381 : n0 ≤ h380.size := Nat.le_trans z371 K380q.1
    have N380 := Fr.app N364 N380q
    have f382 := ((((F343.ext E353).keep K364q (ninS ne_b333_b353 nin0)).ext E367).keep K380q (ninS ne_b333_b367 nin0))
    have f383 := ((((F350.ext E353).keep K364q (ninS ne_b337_b353 nin0)).ext E367).keep K380q (ninS ne_b337_b367 nin0))
    have S384 : ∀ t, Steps p.tables e below (T380.setTop (mkF m 100 #[.val (.long f1), .second, .val (.long f2), .second, .val (.long c1), .second, .val (.long c2), .second, .val (.int fl), .val (.int (0 : Int32)), .val (.int (0 : Int32)), .val (.int (0 : Int32)), .val (.ref b333), .val (.ref b353), .val (.ref b367), .val (.int (1 : Int32)), .unset, .unset, .unset, .unset, .unset, .unset] [(.long c1), (.ref b333)])) t → Steps p.tables e below (T380.setTop (mkF m 58 #[.val (.long f1), .second, .val (.long f2), .second, .val (.long c1), .second, .val (.long c2), .second, .val (.int fl), .val (.int (0 : Int32)), .val (.int (0 : Int32)), .val (.int (0 : Int32)), .val (.ref b333), .val (.ref b353), .unset, .unset, .unset, .unset, .unset, .unset, .unset, .unset] [(.ref b367)])) t := by
      intro t kt
      show Steps p.tables e below (T380.setTop (mkF m 58 #[.val (.long f1), .second, .val (.long f2), .second, .val (.long c1), .second, .val (.long c2), .second, .val (.int fl), .val (.int (0 : Int32)), .val (.int (0 : Int32)), .val (.int (0 : Int32)), .val (.ref b333), .val (.ref b353), .unset, .unset, .unset, .unset, .unset, .unset, .unset, .unset] [(.ref b367)])) _
      refine XS.astore X380.here hx rfl (hb hby at_58) rfl rfl (l' := #[.val (.long f1), .second, .val (.long f2), .second, .val (.long c1), .second, .val (.long c2), .second, .val (.int fl), .val (.int (0 : Int32)), .val (.int (0 : Int32)), .val (.int (0 : Int32)), .val (.ref b333), .val (.ref b353), .val (.ref b367), .unset, .unset, .unset, .unset, .unset, .unset, .unset]) rfl ?_
      refine XS.iload X380.here hx rfl (hb hby at_60) rfl ?_
      refine XS.iconst X380.here hx rfl (hb hby at_62) ?_
      refine XS.icmpYes X380.here hx rfl (pc0 := 63) (pc' := 74) rfl (hb hby at_63) rfl (tlt (by decide)).1 (by decide) (by decide) ?_
      refine XS.iload X380.here hx rfl (hb hby at_74) rfl ?_
      refine XS.iconst X380.here hx rfl (hb hby at_76) ?_
      show Steps p.tables e below (T380.setTop (mkF m 77 #[.val (.long f1), .second, .val (.long f2), .second, .val (.long c1), .second, .val (.long c2), .second, .val (.int fl), .val (.int (0 : Int32)), .val (.int (0 : Int32)), .val (.int (0 : Int32)), .val (.ref b333), .val (.ref b353), .val (.ref b367), .unset, .unset, .unset, .unset, .unset, .unset, .unset] [(.int (2 : Int32)), (.int (0 : Int32))])) _
      refine XS.icmpYes X380.here hx rfl (pc0 := 77) (pc' := 93) rfl (hb hby at_77) rfl (feq (by decide)).2 (by decide) (by decide) ?_
      refine XS.iconst X380.here hx rfl (hb hby at_93) ?_
      refine XS.istore X380.here hx rfl (hb hby at_94) rfl (l' := #[.val (.long f1), .second, .val (.long f2), .second, .val (.long c1), .second, .val (.long c2), .second, .val (.int fl), .val (.int (0 : Int32)), .val (.int (0 : Int32)), .val (.int (0 : Int32)), .val (.ref b333), .val (.ref b353), .val (.ref b367), .val (.int (1 : Int32)), .unset, .unset, .unset, .unset, .unset, .unset]) rfl ?_
      refine XS.aload X380.here hx rfl (hb hby at_96) rfl rfl ?_
      refine XS.lload X380.here hx rfl (hb hby at_98) rfl ?_
      exact kt
    have f386 := ((f368.ext E367).keep K380q)
    obtain ⟨cq385, kq385, q385a, q385b, q385c⟩ := isOf hZ e380 f386
    obtain ⟨_, _, ⟨T385, L385, k385, n385⟩, -, X385, ⟨Lc385, hQ385, l385, y385, z385⟩, st385⟩ := X380.virtualBack hx (y := (⟨"tidegate/operator/Crossings", "take", "(J)Ltidegate/operator/StageFunctions;"⟩ : MethodName)) (z := (⟨"tidegate/operator/Crossings", "take", "(J)Ltidegate/operator/StageFunctions;"⟩ : MethodName)) hown (mvT hZ (hw _ (List.mem_of_getElem? (i := 68) rfl))) (mvT hZ (hw _ (List.mem_of_getElem? (i := 69) rfl))) (notFace_of_selects (args := #[]) (mvT hZ (hw _ (List.mem_of_getElem? (i := 71) rfl)))) (mvT hZ (hw _ (List.mem_of_getElem? (i := 71) rfl))) (mvT hZ (hw _ (List.mem_of_getElem? (i := 70) rfl))) (by decide) (backOf (W := 0) (rm_tk0 l Z a0 hw [] b333 c1 b337 h380 n0 z381 f382 f383) hZ (hw _ (List.mem_of_getElem? (i := 72) rfl)) (hw _ (List.mem_of_getElem? (i := 2) rfl)) (by decide) (by decide)) q385a q385c (g := (mkF m 100 #[.val (.long f1), .second, .val (.long f2), .second, .val (.long c1), .second, .val (.long c2), .second, .val (.int fl), .val (.int (0 : Int32)), .val (.int (0 : Int32)), .val (.int (0 : Int32)), .val (.ref b333), .val (.ref b353), .val (.ref b367), .val (.int (1 : Int32)), .unset, .unset, .unset, .unset, .unset, .unset] [(.long c1), (.ref b333)])) rfl (by rw [hml]; rfl) (Steps.refl _) (argsL := [(.long c1)]) (rest := []) (lenOf pd_2 rfl) rfl (by show 2 * 0 + _ ≤ _; exact Nat.le_of_eq rfl) (hb hby at_100) (fun _ _ => ⟨rfl, e380, (by decide : 26 + 0 ≤ _), (by decide : 43 + 0 ≤ _)⟩)
    dsimp only [Pt.U, Pt.locs, Pt.cells, Pt.slots] at X385 l385 y385 z385 st385 hQ385
    subst l385 y385 z385
    obtain ⟨rfl, N385q, e385⟩ := hQ385
    have N385 := Fr.app N380 N385q
    have S387 : ∀ t, Steps p.tables e below (T385.setTop (mkF m 149 #[.val (.long f1), .second, .val (.long f2), .second, .val (.long c1), .second, .val (.long c2), .second, .val (.int fl), .val (.int (0 : Int32)), .val (.int (0 : Int32)), .val (.int (0 : Int32)), .val (.ref b333), .val (.ref b353), .val (.ref b367), .val (.int (1 : Int32)), .val .null, .val (.int (0 : Int32)), .unset, .unset, .unset, .unset] [(.int ((1 : Int32) &&& (1 : Int32)))])) t → Steps p.tables e below (T385.setTop (mkF m 103 #[.val (.long f1), .second, .val (.long f2), .second, .val (.long c1), .second, .val (.long c2), .second, .val (.int fl), .val (.int (0 : Int32)), .val (.int (0 : Int32)), .val (.int (0 : Int32)), .val (.ref b333), .val (.ref b353), .val (.ref b367), .val (.int (1 : Int32)), .unset, .unset, .unset, .unset, .unset, .unset] [.null])) t := by
      intro t kt
      show Steps p.tables e below (T385.setTop (mkF m 103 #[.val (.long f1), .second, .val (.long f2), .second, .val (.long c1), .second, .val (.long c2), .second, .val (.int fl), .val (.int (0 : Int32)), .val (.int (0 : Int32)), .val (.int (0 : Int32)), .val (.ref b333), .val (.ref b353), .val (.ref b367), .val (.int (1 : Int32)), .unset, .unset, .unset, .unset, .unset, .unset] [.null])) _
      refine XS.astore X385.here hx rfl (hb hby at_103) rfl rfl (l' := #[.val (.long f1), .second, .val (.long f2), .second, .val (.long c1), .second, .val (.long c2), .second, .val (.int fl), .val (.int (0 : Int32)), .val (.int (0 : Int32)), .val (.int (0 : Int32)), .val (.ref b333), .val (.ref b353), .val (.ref b367), .val (.int (1 : Int32)), .val .null, .unset, .unset, .unset, .unset, .unset]) rfl ?_
      refine XS.iload X385.here hx rfl (hb hby at_105) rfl ?_
      refine XS.iconst X385.here hx rfl (hb hby at_107) ?_
      refine XS.icmpYes X385.here hx rfl (pc0 := 108) (pc' := 122) rfl (hb hby at_108) rfl (tlt (by decide)).1 (by decide) (by decide) ?_
      refine XS.iconst X385.here hx rfl (hb hby at_122) ?_
      refine XS.istore X385.here hx rfl (hb hby at_123) rfl (l' := #[.val (.long f1), .second, .val (.long f2), .second, .val (.long c1), .second, .val (.long c2), .second, .val (.int fl), .val (.int (0 : Int32)), .val (.int (0 : Int32)), .val (.int (0 : Int32)), .val (.ref b333), .val (.ref b353), .val (.ref b367), .val (.int (1 : Int32)), .val .null, .val (.int (0 : Int32)), .unset, .unset, .unset, .unset]) rfl ?_
      show Steps p.tables e below (T385.setTop (mkF m 125 #[.val (.long f1), .second, .val (.long f2), .second, .val (.long c1), .second, .val (.long c2), .second, .val (.int fl), .val (.int (0 : Int32)), .val (.int (0 : Int32)), .val (.int (0 : Int32)), .val (.ref b333), .val (.ref b353), .val (.ref b367), .val (.int (1 : Int32)), .val .null, .val (.int (0 : Int32)), .unset, .unset, .unset, .unset] [])) _
      refine XS.iload X385.here hx rfl (hb hby at_125) rfl ?_
      refine XS.aload X385.here hx rfl (hb hby at_127) rfl rfl ?_
      refine XS.iload X385.here hx rfl (hb hby at_129) rfl ?_
      refine XS.ifYes X385.here hx rfl (pc0 := 131) (pc' := 139) rfl (hb hby at_131) rfl ((if0 _ _).trans (teq rfl).1) (by decide) (by decide) ?_
      refine XS.aconstNull X385.here hx rfl (hb hby at_139) ?_
      refine Jvm.RoadKit.acmp (g := (mkF m 140 #[.val (.long f1), .second, .val (.long f2), .second, .val (.long c1), .second, .val (.long c2), .second, .val (.int fl), .val (.int (0 : Int32)), .val (.int (0 : Int32)), .val (.int (0 : Int32)), .val (.ref b333), .val (.ref b353), .val (.ref b367), .val (.int (1 : Int32)), .val .null, .val (.int (0 : Int32)), .unset, .unset, .unset, .unset] [.null, .null, (.int (1 : Int32))])) X385 hx rfl rfl rfl (pc0 := 140) (pc' := 143) (same := true) rfl (hb hby at_140) rfl (decide_eq_true rfl) (by decide) (by decide) ?_
      show Steps p.tables e below (T385.setTop (mkF m 143 #[.val (.long f1), .second, .val (.long f2), .second, .val (.long c1), .second, .val (.long c2), .second, .val (.int fl), .val (.int (0 : Int32)), .val (.int (0 : Int32)), .val (.int (0 : Int32)), .val (.ref b333), .val (.ref b353), .val (.ref b367), .val (.int (1 : Int32)), .val .null, .val (.int (0 : Int32)), .unset, .unset, .unset, .unset] [(.int (1 : Int32))])) _
      refine XS.iconst X385.here hx rfl (hb hby at_143) ?_
      refine XS.goto X385.here hx rfl (pc0 := 144) (pc' := 148) rfl (hb hby at_144) (by decide) (by decide) ?_
      refine XS.iand X385.here hx rfl (hb hby at_148) rfl ?_
      exact kt
    have S388 : ∀ t, Steps p.tables e below (T385.setTop (mkF m 149 #[.val (.long f1), .second, .val (.long f2), .second, .val (.long c1), .second, .val (.long c2), .second, .val (.int fl), .val (.int (0 : Int32)), .val (.int (0 : Int32)), .val (.int (0 : Int32)), .val (.ref b333), .val (.ref b353), .val (.ref b367), .val (.int (1 : Int32)), .val .null, .val (.int (0 : Int32)), .unset, .unset, .unset, .unset] [(.int (1 : Int32))])) t → Steps p.tables e below (T385.setTop (mkF m 149 #[.val (.long f1), .second, .val (.long f2), .second, .val (.long c1), .second, .val (.long c2), .second, .val (.int fl), .val (.int (0 : Int32)), .val (.int (0 : Int32)), .val (.int (0 : Int32)), .val (.ref b333), .val (.ref b353), .val (.ref b367), .val (.int (1 : Int32)), .val .null, .val (.int (0 : Int32)), .unset, .unset, .unset, .unset] [(.int ((1 : Int32) &&& (1 : Int32)))])) t := fun t k => by rw [(show ((1 : Int32) &&& (1 : Int32)) = (1 : Int32) from by decide)]; exact k
    have S389 : ∀ t, Steps p.tables e below (T385.setTop (mkF m 180 #[.val (.long f1), .second, .val (.long f2), .second, .val (.long c1), .second, .val (.long c2), .second, .val (.int fl), .val (.int (0 : Int32)), .val (.int (0 : Int32)), .val (.int (0 : Int32)), .val (.ref b333), .val (.ref b353), .val (.ref b367), .val (.int (1 : Int32)), .val .null, .val (.int (0 : Int32)), .val (.int (0 : Int32)), .unset, .unset, .unset] [(.ref b333), (.int (1 : Int32))])) t → Steps p.tables e below (T385.setTop (mkF m 149 #[.val (.long f1), .second, .val (.long f2), .second, .val (.long c1), .second, .val (.long c2), .second, .val (.int fl), .val (.int (0 : Int32)), .val (.int (0 : Int32)), .val (.int (0 : Int32)), .val (.ref b333), .val (.ref b353), .val (.ref b367), .val (.int (1 : Int32)), .val .null, .val (.int (0 : Int32)), .unset, .unset, .unset, .unset] [(.int (1 : Int32))])) t := by
      intro t kt
      show Steps p.tables e below (T385.setTop (mkF m 149 #[.val (.long f1), .second, .val (.long f2), .second, .val (.long c1), .second, .val (.long c2), .second, .val (.int fl), .val (.int (0 : Int32)), .val (.int (0 : Int32)), .val (.int (0 : Int32)), .val (.ref b333), .val (.ref b353), .val (.ref b367), .val (.int (1 : Int32)), .val .null, .val (.int (0 : Int32)), .unset, .unset, .unset, .unset] [(.int (1 : Int32))])) _
      refine XS.istore X385.here hx rfl (hb hby at_149) rfl (l' := #[.val (.long f1), .second, .val (.long f2), .second, .val (.long c1), .second, .val (.long c2), .second, .val (.int fl), .val (.int (0 : Int32)), .val (.int (0 : Int32)), .val (.int (0 : Int32)), .val (.ref b333), .val (.ref b353), .val (.ref b367), .val (.int (1 : Int32)), .val .null, .val (.int (0 : Int32)), .unset, .unset, .unset, .unset]) rfl ?_
      refine XS.iload X385.here hx rfl (hb hby at_151) rfl ?_
      refine XS.ifYes X385.here hx rfl (pc0 := 153) (pc' := 164) rfl (hb hby at_153) rfl ((if0 _ _).trans (teq rfl).1) (by decide) (by decide) ?_
      refine XS.iload X385.here hx rfl (hb hby at_164) rfl ?_
      refine XS.ifYes X385.here hx rfl (pc0 := 166) (pc' := 173) rfl (hb hby at_166) rfl ((if0 _ _).trans (teq rfl).1) (by decide) (by decide) ?_
      refine XS.iconst X385.here hx rfl (hb hby at_173) ?_
      show Steps p.tables e below (T385.setTop (mkF m 174 #[.val (.long f1), .second, .val (.long f2), .second, .val (.long c1), .second, .val (.long c2), .second, .val (.int fl), .val (.int (0 : Int32)), .val (.int (0 : Int32)), .val (.int (0 : Int32)), .val (.ref b333), .val (.ref b353), .val (.ref b367), .val (.int (1 : Int32)), .val .null, .val (.int (0 : Int32)), .unset, .unset, .unset, .unset] [(.int (0 : Int32))])) _
      refine XS.istore X385.here hx rfl (hb hby at_174) rfl (l' := #[.val (.long f1), .second, .val (.long f2), .second, .val (.long c1), .second, .val (.long c2), .second, .val (.int fl), .val (.int (0 : Int32)), .val (.int (0 : Int32)), .val (.int (0 : Int32)), .val (.ref b333), .val (.ref b353), .val (.ref b367), .val (.int (1 : Int32)), .val .null, .val (.int (0 : Int32)), .val (.int (0 : Int32)), .unset, .unset, .unset]) rfl ?_
      refine XS.iload X385.here hx rfl (hb hby at_176) rfl ?_
      refine XS.aload X385.here hx rfl (hb hby at_178) rfl rfl ?_
      exact kt
    obtain ⟨cq390, kq390, q390a, q390b, q390c⟩ := isOf hZ e385 f386
    obtain ⟨_, _, ⟨T390, L390, k390, n390⟩, -, X390, ⟨Lc390, hQ390, l390, y390, z390⟩, st390⟩ := X385.virtualBack hx (y := (⟨"tidegate/operator/Crossings", "waiting", "()Z"⟩ : MethodName)) (z := (⟨"tidegate/operator/Crossings", "waiting", "()Z"⟩ : MethodName)) hown (mvT hZ (hw _ (List.mem_of_getElem? (i := 74) rfl))) (mvT hZ (hw _ (List.mem_of_getElem? (i := 75) rfl))) (notFace_of_selects (args := #[]) (mvT hZ (hw _ (List.mem_of_getElem? (i := 77) rfl)))) (mvT hZ (hw _ (List.mem_of_getElem? (i := 77) rfl))) (mvT hZ (hw _ (List.mem_of_getElem? (i := 76) rfl))) (by decide) (backOf (W := 1) (rm_wt0 l Z a0 hw [] b333 b337 h380 n0 z381 f382 f383) hZ (hw _ (List.mem_of_getElem? (i := 78) rfl)) (hw _ (List.mem_of_getElem? (i := 2) rfl)) (by decide) (by decide)) q390a q390c (g := (mkF m 180 #[.val (.long f1), .second, .val (.long f2), .second, .val (.long c1), .second, .val (.long c2), .second, .val (.int fl), .val (.int (0 : Int32)), .val (.int (0 : Int32)), .val (.int (0 : Int32)), .val (.ref b333), .val (.ref b353), .val (.ref b367), .val (.int (1 : Int32)), .val .null, .val (.int (0 : Int32)), .val (.int (0 : Int32)), .unset, .unset, .unset] [(.ref b333), (.int (1 : Int32))])) rfl (by rw [hml]; rfl) (Steps.refl _) (argsL := []) (rest := [(.int (1 : Int32))]) (lenOf pd_3 rfl) rfl (by show 2 * 0 + _ ≤ _; exact Nat.le_of_eq rfl) (hb hby at_180) (fun _ _ => ⟨rfl, e385, (by decide : 26 + 0 ≤ _), (by decide : 43 + 0 ≤ _)⟩)
    dsimp only [Pt.U, Pt.locs, Pt.cells, Pt.slots] at X390 l390 y390 z390 st390 hQ390
    subst l390 y390 z390
    obtain ⟨rfl, N390q, e390⟩ := hQ390
    have N390 := Fr.app N385 N390q
    have S391 : ∀ t, Steps p.tables e below (T390.setTop (mkF m 204 #[.val (.long f1), .second, .val (.long f2), .second, .val (.long c1), .second, .val (.long c2), .second, .val (.int fl), .val (.int (0 : Int32)), .val (.int (0 : Int32)), .val (.int (0 : Int32)), .val (.ref b333), .val (.ref b353), .val (.ref b367), .val (.int (1 : Int32)), .val .null, .val (.int (0 : Int32)), .val (.int (0 : Int32)), .unset, .unset, .unset] [(.int ((1 : Int32) &&& (1 : Int32)))])) t → Steps p.tables e below (T390.setTop (mkF m 183 #[.val (.long f1), .second, .val (.long f2), .second, .val (.long c1), .second, .val (.long c2), .second, .val (.int fl), .val (.int (0 : Int32)), .val (.int (0 : Int32)), .val (.int (0 : Int32)), .val (.ref b333), .val (.ref b353), .val (.ref b367), .val (.int (1 : Int32)), .val .null, .val (.int (0 : Int32)), .val (.int (0 : Int32)), .unset, .unset, .unset] [(.int (0 : Int32)), (.int (1 : Int32))])) t := by
      intro t kt
      show Steps p.tables e below (T390.setTop (mkF m 183 #[.val (.long f1), .second, .val (.long f2), .second, .val (.long c1), .second, .val (.long c2), .second, .val (.int fl), .val (.int (0 : Int32)), .val (.int (0 : Int32)), .val (.int (0 : Int32)), .val (.ref b333), .val (.ref b353), .val (.ref b367), .val (.int (1 : Int32)), .val .null, .val (.int (0 : Int32)), .val (.int (0 : Int32)), .unset, .unset, .unset] [(.int (0 : Int32)), (.int (1 : Int32))])) _
      refine XS.iload X390.here hx rfl (hb hby at_183) rfl ?_
      refine XS.iload X390.here hx rfl (hb hby at_185) rfl ?_
      refine XS.icmpYes X390.here hx rfl (pc0 := 187) (pc' := 194) rfl (hb hby at_187) rfl (flt (by decide)).2.1 (by decide) (by decide) ?_
      refine XS.iconst X390.here hx rfl (hb hby at_194) ?_
      refine XS.icmpNo X390.here hx rfl (hb hby at_195) rfl (teq rfl).2 ?_
      refine XS.iconst X390.here hx rfl (hb hby at_198) ?_
      show Steps p.tables e below (T390.setTop (mkF m 199 #[.val (.long f1), .second, .val (.long f2), .second, .val (.long c1), .second, .val (.long c2), .second, .val (.int fl), .val (.int (0 : Int32)), .val (.int (0 : Int32)), .val (.int (0 : Int32)), .val (.ref b333), .val (.ref b353), .val (.ref b367), .val (.int (1 : Int32)), .val .null, .val (.int (0 : Int32)), .val (.int (0 : Int32)), .unset, .unset, .unset] [(.int (1 : Int32)), (.int (1 : Int32))])) _
      refine XS.goto X390.here hx rfl (pc0 := 199) (pc' := 203) rfl (hb hby at_199) (by decide) (by decide) ?_
      refine XS.iand X390.here hx rfl (hb hby at_203) rfl ?_
      exact kt
    have S392 : ∀ t, Steps p.tables e below (T390.setTop (mkF m 204 #[.val (.long f1), .second, .val (.long f2), .second, .val (.long c1), .second, .val (.long c2), .second, .val (.int fl), .val (.int (0 : Int32)), .val (.int (0 : Int32)), .val (.int (0 : Int32)), .val (.ref b333), .val (.ref b353), .val (.ref b367), .val (.int (1 : Int32)), .val .null, .val (.int (0 : Int32)), .val (.int (0 : Int32)), .unset, .unset, .unset] [(.int (1 : Int32))])) t → Steps p.tables e below (T390.setTop (mkF m 204 #[.val (.long f1), .second, .val (.long f2), .second, .val (.long c1), .second, .val (.long c2), .second, .val (.int fl), .val (.int (0 : Int32)), .val (.int (0 : Int32)), .val (.int (0 : Int32)), .val (.ref b333), .val (.ref b353), .val (.ref b367), .val (.int (1 : Int32)), .val .null, .val (.int (0 : Int32)), .val (.int (0 : Int32)), .unset, .unset, .unset] [(.int ((1 : Int32) &&& (1 : Int32)))])) t := fun t k => by rw [(show ((1 : Int32) &&& (1 : Int32)) = (1 : Int32) from by decide)]; exact k
    have S393 : ∀ t, Steps p.tables e below (T390.setTop (mkF m 210 #[.val (.long f1), .second, .val (.long f2), .second, .val (.long c1), .second, .val (.long c2), .second, .val (.int fl), .val (.int (0 : Int32)), .val (.int (0 : Int32)), .val (.int (0 : Int32)), .val (.ref b333), .val (.ref b353), .val (.ref b367), .val (.int (1 : Int32)), .val .null, .val (.int (0 : Int32)), .val (.int (0 : Int32)), .unset, .unset, .unset] [(.long c2), (.ref b333)])) t → Steps p.tables e below (T390.setTop (mkF m 204 #[.val (.long f1), .second, .val (.long f2), .second, .val (.long c1), .second, .val (.long c2), .second, .val (.int fl), .val (.int (0 : Int32)), .val (.int (0 : Int32)), .val (.int (0 : Int32)), .val (.ref b333), .val (.ref b353), .val (.ref b367), .val (.int (1 : Int32)), .val .null, .val (.int (0 : Int32)), .val (.int (0 : Int32)), .unset, .unset, .unset] [(.int (1 : Int32))])) t := by
      intro t kt
      show Steps p.tables e below (T390.setTop (mkF m 204 #[.val (.long f1), .second, .val (.long f2), .second, .val (.long c1), .second, .val (.long c2), .second, .val (.int fl), .val (.int (0 : Int32)), .val (.int (0 : Int32)), .val (.int (0 : Int32)), .val (.ref b333), .val (.ref b353), .val (.ref b367), .val (.int (1 : Int32)), .val .null, .val (.int (0 : Int32)), .val (.int (0 : Int32)), .unset, .unset, .unset] [(.int (1 : Int32))])) _
      refine XS.istore X390.here hx rfl (hb hby at_204) rfl (l' := #[.val (.long f1), .second, .val (.long f2), .second, .val (.long c1), .second, .val (.long c2), .second, .val (.int fl), .val (.int (0 : Int32)), .val (.int (0 : Int32)), .val (.int (0 : Int32)), .val (.ref b333), .val (.ref b353), .val (.ref b367), .val (.int (1 : Int32)), .val .null, .val (.int (0 : Int32)), .val (.int (0 : Int32)), .unset, .unset, .unset]) rfl ?_
      refine XS.aload X390.here hx rfl (hb hby at_206) rfl rfl ?_
      refine XS.lload X390.here hx rfl (hb hby at_208) rfl ?_
      exact kt
    obtain ⟨cq394, kq394, q394a, q394b, q394c⟩ := isOf hZ e390 f386
    obtain ⟨_, _, ⟨T394, L394, k394, n394⟩, -, X394, ⟨Lc394, hQ394, l394, y394, z394⟩, st394⟩ := X390.virtualBack hx (y := (⟨"tidegate/operator/Crossings", "take", "(J)Ltidegate/operator/StageFunctions;"⟩ : MethodName)) (z := (⟨"tidegate/operator/Crossings", "take", "(J)Ltidegate/operator/StageFunctions;"⟩ : MethodName)) hown (mvT hZ (hw _ (List.mem_of_getElem? (i := 68) rfl))) (mvT hZ (hw _ (List.mem_of_getElem? (i := 69) rfl))) (notFace_of_selects (args := #[]) (mvT hZ (hw _ (List.mem_of_getElem? (i := 71) rfl)))) (mvT hZ (hw _ (List.mem_of_getElem? (i := 71) rfl))) (mvT hZ (hw _ (List.mem_of_getElem? (i := 70) rfl))) (by decide) (backOf (W := 0) (rm_tk0 l Z a0 hw [] b333 c2 b337 h380 n0 z381 f382 f383) hZ (hw _ (List.mem_of_getElem? (i := 72) rfl)) (hw _ (List.mem_of_getElem? (i := 2) rfl)) (by decide) (by decide)) q394a q394c (g := (mkF m 210 #[.val (.long f1), .second, .val (.long f2), .second, .val (.long c1), .second, .val (.long c2), .second, .val (.int fl), .val (.int (0 : Int32)), .val (.int (0 : Int32)), .val (.int (0 : Int32)), .val (.ref b333), .val (.ref b353), .val (.ref b367), .val (.int (1 : Int32)), .val .null, .val (.int (0 : Int32)), .val (.int (0 : Int32)), .unset, .unset, .unset] [(.long c2), (.ref b333)])) rfl (by rw [hml]; rfl) (Steps.refl _) (argsL := [(.long c2)]) (rest := []) (lenOf pd_2 rfl) rfl (by show 2 * 0 + _ ≤ _; exact Nat.le_of_eq rfl) (hb hby at_210) (fun _ _ => ⟨rfl, e390, (by decide : 26 + 0 ≤ _), (by decide : 43 + 0 ≤ _)⟩)
    dsimp only [Pt.U, Pt.locs, Pt.cells, Pt.slots] at X394 l394 y394 z394 st394 hQ394
    subst l394 y394 z394
    obtain ⟨rfl, N394q, e394⟩ := hQ394
    have N394 := Fr.app N390 N394q
    have S395 : ∀ t, Steps p.tables e below (T394.setTop (mkF m 280 #[.val (.long f1), .second, .val (.long f2), .second, .val (.long c1), .second, .val (.long c2), .second, .val (.int fl), .val (.int (0 : Int32)), .val (.int (0 : Int32)), .val (.int (0 : Int32)), .val (.ref b333), .val (.ref b353), .val (.ref b367), .val (.int (1 : Int32)), .val .null, .val (.int (0 : Int32)), .val (.int (0 : Int32)), .val .null, .val .null, .unset] [(.int ((1 : Int32) &&& (1 : Int32)))])) t → Steps p.tables e below (T394.setTop (mkF m 213 #[.val (.long f1), .second, .val (.long f2), .second, .val (.long c1), .second, .val (.long c2), .second, .val (.int fl), .val (.int (0 : Int32)), .val (.int (0 : Int32)), .val (.int (0 : Int32)), .val (.ref b333), .val (.ref b353), .val (.ref b367), .val (.int (1 : Int32)), .val .null, .val (.int (0 : Int32)), .val (.int (0 : Int32)), .unset, .unset, .unset] [.null])) t := by
      intro t kt
      show Steps p.tables e below (T394.setTop (mkF m 213 #[.val (.long f1), .second, .val (.long f2), .second, .val (.long c1), .second, .val (.long c2), .second, .val (.int fl), .val (.int (0 : Int32)), .val (.int (0 : Int32)), .val (.int (0 : Int32)), .val (.ref b333), .val (.ref b353), .val (.ref b367), .val (.int (1 : Int32)), .val .null, .val (.int (0 : Int32)), .val (.int (0 : Int32)), .unset, .unset, .unset] [.null])) _
      refine XS.astore X394.here hx rfl (hb hby at_213) rfl rfl (l' := #[.val (.long f1), .second, .val (.long f2), .second, .val (.long c1), .second, .val (.long c2), .second, .val (.int fl), .val (.int (0 : Int32)), .val (.int (0 : Int32)), .val (.int (0 : Int32)), .val (.ref b333), .val (.ref b353), .val (.ref b367), .val (.int (1 : Int32)), .val .null, .val (.int (0 : Int32)), .val (.int (0 : Int32)), .val .null, .unset, .unset]) rfl ?_
      refine XS.iload X394.here hx rfl (hb hby at_215) rfl ?_
      refine XS.ifYes X394.here hx rfl (pc0 := 217) (pc' := 244) rfl (hb hby at_217) rfl ((if0 _ _).trans (teq rfl).1) (by decide) (by decide) ?_
      refine XS.iload X394.here hx rfl (hb hby at_244) rfl ?_
      refine XS.iconst X394.here hx rfl (hb hby at_246) ?_
      refine XS.icmpYes X394.here hx rfl (pc0 := 247) (pc' := 262) rfl (hb hby at_247) rfl (tlt (by decide)).1 (by decide) (by decide) ?_
      show Steps p.tables e below (T394.setTop (mkF m 262 #[.val (.long f1), .second, .val (.long f2), .second, .val (.long c1), .second, .val (.long c2), .second, .val (.int fl), .val (.int (0 : Int32)), .val (.int (0 : Int32)), .val (.int (0 : Int32)), .val (.ref b333), .val (.ref b353), .val (.ref b367), .val (.int (1 : Int32)), .val .null, .val (.int (0 : Int32)), .val (.int (0 : Int32)), .val .null, .unset, .unset] [])) _
      refine XS.aconstNull X394.here hx rfl (hb hby at_262) ?_
      refine XS.astore X394.here hx rfl (hb hby at_263) rfl rfl (l' := #[.val (.long f1), .second, .val (.long f2), .second, .val (.long c1), .second, .val (.long c2), .second, .val (.int fl), .val (.int (0 : Int32)), .val (.int (0 : Int32)), .val (.int (0 : Int32)), .val (.ref b333), .val (.ref b353), .val (.ref b367), .val (.int (1 : Int32)), .val .null, .val (.int (0 : Int32)), .val (.int (0 : Int32)), .val .null, .val .null, .unset]) rfl ?_
      refine XS.iload X394.here hx rfl (hb hby at_265) rfl ?_
      refine XS.aload X394.here hx rfl (hb hby at_267) rfl rfl ?_
      refine XS.aload X394.here hx rfl (hb hby at_269) rfl rfl ?_
      refine Jvm.RoadKit.acmp (g := (mkF m 271 #[.val (.long f1), .second, .val (.long f2), .second, .val (.long c1), .second, .val (.long c2), .second, .val (.int fl), .val (.int (0 : Int32)), .val (.int (0 : Int32)), .val (.int (0 : Int32)), .val (.ref b333), .val (.ref b353), .val (.ref b367), .val (.int (1 : Int32)), .val .null, .val (.int (0 : Int32)), .val (.int (0 : Int32)), .val .null, .val .null, .unset] [.null, .null, (.int (1 : Int32))])) X394 hx rfl rfl rfl (pc0 := 271) (pc' := 274) (same := true) rfl (hb hby at_271) rfl (decide_eq_true rfl) (by decide) (by decide) ?_
      show Steps p.tables e below (T394.setTop (mkF m 274 #[.val (.long f1), .second, .val (.long f2), .second, .val (.long c1), .second, .val (.long c2), .second, .val (.int fl), .val (.int (0 : Int32)), .val (.int (0 : Int32)), .val (.int (0 : Int32)), .val (.ref b333), .val (.ref b353), .val (.ref b367), .val (.int (1 : Int32)), .val .null, .val (.int (0 : Int32)), .val (.int (0 : Int32)), .val .null, .val .null, .unset] [(.int (1 : Int32))])) _
      refine XS.iconst X394.here hx rfl (hb hby at_274) ?_
      refine XS.goto X394.here hx rfl (pc0 := 275) (pc' := 279) rfl (hb hby at_275) (by decide) (by decide) ?_
      refine XS.iand X394.here hx rfl (hb hby at_279) rfl ?_
      exact kt
    have S396 : ∀ t, Steps p.tables e below (T394.setTop (mkF m 280 #[.val (.long f1), .second, .val (.long f2), .second, .val (.long c1), .second, .val (.long c2), .second, .val (.int fl), .val (.int (0 : Int32)), .val (.int (0 : Int32)), .val (.int (0 : Int32)), .val (.ref b333), .val (.ref b353), .val (.ref b367), .val (.int (1 : Int32)), .val .null, .val (.int (0 : Int32)), .val (.int (0 : Int32)), .val .null, .val .null, .unset] [(.int (1 : Int32))])) t → Steps p.tables e below (T394.setTop (mkF m 280 #[.val (.long f1), .second, .val (.long f2), .second, .val (.long c1), .second, .val (.long c2), .second, .val (.int fl), .val (.int (0 : Int32)), .val (.int (0 : Int32)), .val (.int (0 : Int32)), .val (.ref b333), .val (.ref b353), .val (.ref b367), .val (.int (1 : Int32)), .val .null, .val (.int (0 : Int32)), .val (.int (0 : Int32)), .val .null, .val .null, .unset] [(.int ((1 : Int32) &&& (1 : Int32)))])) t := fun t k => by rw [(show ((1 : Int32) &&& (1 : Int32)) = (1 : Int32) from by decide)]; exact k
    have S397 : ∀ t, Steps p.tables e below (T394.setTop (mkF m 295 #[.val (.long f1), .second, .val (.long f2), .second, .val (.long c1), .second, .val (.long c2), .second, .val (.int fl), .val (.int (0 : Int32)), .val (.int (0 : Int32)), .val (.int (0 : Int32)), .val (.ref b333), .val (.ref b353), .val (.ref b367), .val (.int (1 : Int32)), .val .null, .val (.int (0 : Int32)), .val (.int (0 : Int32)), .val .null, .val .null, .unset] [(.int ((0 : Int32) + (0 : Int32)))])) t → Steps p.tables e below (T394.setTop (mkF m 280 #[.val (.long f1), .second, .val (.long f2), .second, .val (.long c1), .second, .val (.long c2), .second, .val (.int fl), .val (.int (0 : Int32)), .val (.int (0 : Int32)), .val (.int (0 : Int32)), .val (.ref b333), .val (.ref b353), .val (.ref b367), .val (.int (1 : Int32)), .val .null, .val (.int (0 : Int32)), .val (.int (0 : Int32)), .val .null, .val .null, .unset] [(.int (1 : Int32))])) t := by
      intro t kt
      show Steps p.tables e below (T394.setTop (mkF m 280 #[.val (.long f1), .second, .val (.long f2), .second, .val (.long c1), .second, .val (.long c2), .second, .val (.int fl), .val (.int (0 : Int32)), .val (.int (0 : Int32)), .val (.int (0 : Int32)), .val (.ref b333), .val (.ref b353), .val (.ref b367), .val (.int (1 : Int32)), .val .null, .val (.int (0 : Int32)), .val (.int (0 : Int32)), .val .null, .val .null, .unset] [(.int (1 : Int32))])) _
      refine XS.istore X394.here hx rfl (hb hby at_280) rfl (l' := #[.val (.long f1), .second, .val (.long f2), .second, .val (.long c1), .second, .val (.long c2), .second, .val (.int fl), .val (.int (0 : Int32)), .val (.int (0 : Int32)), .val (.int (0 : Int32)), .val (.ref b333), .val (.ref b353), .val (.ref b367), .val (.int (1 : Int32)), .val .null, .val (.int (0 : Int32)), .val (.int (0 : Int32)), .val .null, .val .null, .unset]) rfl ?_
      refine XS.iload X394.here hx rfl (hb hby at_282) rfl ?_
      refine XS.aload X394.here hx rfl (hb hby at_284) rfl rfl ?_
      refine XS.ifnullYes X394.here hx rfl (pc0 := 286) (pc' := 293) rfl (hb hby at_286) rfl (by decide) (by decide) ?_
      refine XS.iconst X394.here hx rfl (hb hby at_293) ?_
      refine XS.iadd X394.here hx rfl (hb hby at_294) rfl ?_
      exact kt
    have S398 : ∀ t, Steps p.tables e below (T394.setTop (mkF m 295 #[.val (.long f1), .second, .val (.long f2), .second, .val (.long c1), .second, .val (.long c2), .second, .val (.int fl), .val (.int (0 : Int32)), .val (.int (0 : Int32)), .val (.int (0 : Int32)), .val (.ref b333), .val (.ref b353), .val (.ref b367), .val (.int (1 : Int32)), .val .null, .val (.int (0 : Int32)), .val (.int (0 : Int32)), .val .null, .val .null, .unset] [(.int (0 : Int32))])) t → Steps p.tables e below (T394.setTop (mkF m 295 #[.val (.long f1), .second, .val (.long f2), .second, .val (.long c1), .second, .val (.long c2), .second, .val (.int fl), .val (.int (0 : Int32)), .val (.int (0 : Int32)), .val (.int (0 : Int32)), .val (.ref b333), .val (.ref b353), .val (.ref b367), .val (.int (1 : Int32)), .val .null, .val (.int (0 : Int32)), .val (.int (0 : Int32)), .val .null, .val .null, .unset] [(.int ((0 : Int32) + (0 : Int32)))])) t := fun t k => by rw [(show ((0 : Int32) + (0 : Int32)) = (0 : Int32) from by decide)]; exact k
    have S399 : ∀ t, Steps p.tables e below (T394.setTop (mkF m 301 #[.val (.long f1), .second, .val (.long f2), .second, .val (.long c1), .second, .val (.long c2), .second, .val (.int fl), .val (.int (0 : Int32)), .val (.int (0 : Int32)), .val (.int (0 : Int32)), .val (.ref b333), .val (.ref b353), .val (.ref b367), .val (.int (1 : Int32)), .val .null, .val (.int (0 : Int32)), .val (.int (0 : Int32)), .val .null, .val .null, .val (.int (0 : Int32))] [(.ref b333), (.int (1 : Int32))])) t → Steps p.tables e below (T394.setTop (mkF m 295 #[.val (.long f1), .second, .val (.long f2), .second, .val (.long c1), .second, .val (.long c2), .second, .val (.int fl), .val (.int (0 : Int32)), .val (.int (0 : Int32)), .val (.int (0 : Int32)), .val (.ref b333), .val (.ref b353), .val (.ref b367), .val (.int (1 : Int32)), .val .null, .val (.int (0 : Int32)), .val (.int (0 : Int32)), .val .null, .val .null, .unset] [(.int (0 : Int32))])) t := by
      intro t kt
      show Steps p.tables e below (T394.setTop (mkF m 295 #[.val (.long f1), .second, .val (.long f2), .second, .val (.long c1), .second, .val (.long c2), .second, .val (.int fl), .val (.int (0 : Int32)), .val (.int (0 : Int32)), .val (.int (0 : Int32)), .val (.ref b333), .val (.ref b353), .val (.ref b367), .val (.int (1 : Int32)), .val .null, .val (.int (0 : Int32)), .val (.int (0 : Int32)), .val .null, .val .null, .unset] [(.int (0 : Int32))])) _
      refine XS.istore X394.here hx rfl (hb hby at_295) rfl (l' := #[.val (.long f1), .second, .val (.long f2), .second, .val (.long c1), .second, .val (.long c2), .second, .val (.int fl), .val (.int (0 : Int32)), .val (.int (0 : Int32)), .val (.int (0 : Int32)), .val (.ref b333), .val (.ref b353), .val (.ref b367), .val (.int (1 : Int32)), .val .null, .val (.int (0 : Int32)), .val (.int (0 : Int32)), .val .null, .val .null, .val (.int (0 : Int32))]) rfl ?_
      refine XS.iload X394.here hx rfl (hb hby at_297) rfl ?_
      refine XS.aload X394.here hx rfl (hb hby at_299) rfl rfl ?_
      exact kt
    obtain ⟨cq400, kq400, q400a, q400b, q400c⟩ := isOf hZ e394 f386
    obtain ⟨_, _, ⟨T400, L400, k400, n400⟩, -, X400, ⟨Lc400, hQ400, l400, y400, z400⟩, st400⟩ := X394.virtualBack hx (y := (⟨"tidegate/operator/Crossings", "waiting", "()Z"⟩ : MethodName)) (z := (⟨"tidegate/operator/Crossings", "waiting", "()Z"⟩ : MethodName)) hown (mvT hZ (hw _ (List.mem_of_getElem? (i := 74) rfl))) (mvT hZ (hw _ (List.mem_of_getElem? (i := 75) rfl))) (notFace_of_selects (args := #[]) (mvT hZ (hw _ (List.mem_of_getElem? (i := 77) rfl)))) (mvT hZ (hw _ (List.mem_of_getElem? (i := 77) rfl))) (mvT hZ (hw _ (List.mem_of_getElem? (i := 76) rfl))) (by decide) (backOf (W := 1) (rm_wt0 l Z a0 hw [] b333 b337 h380 n0 z381 f382 f383) hZ (hw _ (List.mem_of_getElem? (i := 78) rfl)) (hw _ (List.mem_of_getElem? (i := 2) rfl)) (by decide) (by decide)) q400a q400c (g := (mkF m 301 #[.val (.long f1), .second, .val (.long f2), .second, .val (.long c1), .second, .val (.long c2), .second, .val (.int fl), .val (.int (0 : Int32)), .val (.int (0 : Int32)), .val (.int (0 : Int32)), .val (.ref b333), .val (.ref b353), .val (.ref b367), .val (.int (1 : Int32)), .val .null, .val (.int (0 : Int32)), .val (.int (0 : Int32)), .val .null, .val .null, .val (.int (0 : Int32))] [(.ref b333), (.int (1 : Int32))])) rfl (by rw [hml]; rfl) (Steps.refl _) (argsL := []) (rest := [(.int (1 : Int32))]) (lenOf pd_3 rfl) rfl (by show 2 * 0 + _ ≤ _; exact Nat.le_of_eq rfl) (hb hby at_301) (fun _ _ => ⟨rfl, e394, (by decide : 26 + 0 ≤ _), (by decide : 43 + 0 ≤ _)⟩)
    dsimp only [Pt.U, Pt.locs, Pt.cells, Pt.slots] at X400 l400 y400 z400 st400 hQ400
    subst l400 y400 z400
    obtain ⟨rfl, N400q, e400⟩ := hQ400
    have N400 := Fr.app N394 N400q
    have S401 : ∀ t, Steps p.tables e below (T400.setTop (mkF m 325 #[.val (.long f1), .second, .val (.long f2), .second, .val (.long c1), .second, .val (.long c2), .second, .val (.int fl), .val (.int (0 : Int32)), .val (.int (0 : Int32)), .val (.int (0 : Int32)), .val (.ref b333), .val (.ref b353), .val (.ref b367), .val (.int (1 : Int32)), .val .null, .val (.int (0 : Int32)), .val (.int (0 : Int32)), .val .null, .val .null, .val (.int (0 : Int32))] [(.int ((1 : Int32) &&& (1 : Int32)))])) t → Steps p.tables e below (T400.setTop (mkF m 304 #[.val (.long f1), .second, .val (.long f2), .second, .val (.long c1), .second, .val (.long c2), .second, .val (.int fl), .val (.int (0 : Int32)), .val (.int (0 : Int32)), .val (.int (0 : Int32)), .val (.ref b333), .val (.ref b353), .val (.ref b367), .val (.int (1 : Int32)), .val .null, .val (.int (0 : Int32)), .val (.int (0 : Int32)), .val .null, .val .null, .val (.int (0 : Int32))] [(.int (0 : Int32)), (.int (1 : Int32))])) t := by
      intro t kt
      show Steps p.tables e below (T400.setTop (mkF m 304 #[.val (.long f1), .second, .val (.long f2), .second, .val (.long c1), .second, .val (.long c2), .second, .val (.int fl), .val (.int (0 : Int32)), .val (.int (0 : Int32)), .val (.int (0 : Int32)), .val (.ref b333), .val (.ref b353), .val (.ref b367), .val (.int (1 : Int32)), .val .null, .val (.int (0 : Int32)), .val (.int (0 : Int32)), .val .null, .val .null, .val (.int (0 : Int32))] [(.int (0 : Int32)), (.int (1 : Int32))])) _
      refine XS.iload X400.here hx rfl (hb hby at_304) rfl ?_
      refine XS.iload X400.here hx rfl (hb hby at_306) rfl ?_
      refine XS.icmpYes X400.here hx rfl (pc0 := 308) (pc' := 315) rfl (hb hby at_308) rfl (flt (by decide)).2.1 (by decide) (by decide) ?_
      refine XS.iconst X400.here hx rfl (hb hby at_315) ?_
      refine XS.icmpNo X400.here hx rfl (hb hby at_316) rfl (teq rfl).2 ?_
      refine XS.iconst X400.here hx rfl (hb hby at_319) ?_
      show Steps p.tables e below (T400.setTop (mkF m 320 #[.val (.long f1), .second, .val (.long f2), .second, .val (.long c1), .second, .val (.long c2), .second, .val (.int fl), .val (.int (0 : Int32)), .val (.int (0 : Int32)), .val (.int (0 : Int32)), .val (.ref b333), .val (.ref b353), .val (.ref b367), .val (.int (1 : Int32)), .val .null, .val (.int (0 : Int32)), .val (.int (0 : Int32)), .val .null, .val .null, .val (.int (0 : Int32))] [(.int (1 : Int32)), (.int (1 : Int32))])) _
      refine XS.goto X400.here hx rfl (pc0 := 320) (pc' := 324) rfl (hb hby at_320) (by decide) (by decide) ?_
      refine XS.iand X400.here hx rfl (hb hby at_324) rfl ?_
      exact kt
    have S402 : ∀ t, Steps p.tables e below (T400.setTop (mkF m 325 #[.val (.long f1), .second, .val (.long f2), .second, .val (.long c1), .second, .val (.long c2), .second, .val (.int fl), .val (.int (0 : Int32)), .val (.int (0 : Int32)), .val (.int (0 : Int32)), .val (.ref b333), .val (.ref b353), .val (.ref b367), .val (.int (1 : Int32)), .val .null, .val (.int (0 : Int32)), .val (.int (0 : Int32)), .val .null, .val .null, .val (.int (0 : Int32))] [(.int (1 : Int32))])) t → Steps p.tables e below (T400.setTop (mkF m 325 #[.val (.long f1), .second, .val (.long f2), .second, .val (.long c1), .second, .val (.long c2), .second, .val (.int fl), .val (.int (0 : Int32)), .val (.int (0 : Int32)), .val (.int (0 : Int32)), .val (.ref b333), .val (.ref b353), .val (.ref b367), .val (.int (1 : Int32)), .val .null, .val (.int (0 : Int32)), .val (.int (0 : Int32)), .val .null, .val .null, .val (.int (0 : Int32))] [(.int ((1 : Int32) &&& (1 : Int32)))])) t := fun t k => by rw [(show ((1 : Int32) &&& (1 : Int32)) = (1 : Int32) from by decide)]; exact k
    have S403 : ∀ t, Steps p.tables e below (T400.setTop (mkF m 329 #[.val (.long f1), .second, .val (.long f2), .second, .val (.long c1), .second, .val (.long c2), .second, .val (.int fl), .val (.int (0 : Int32)), .val (.int (0 : Int32)), .val (.int (0 : Int32)), .val (.ref b333), .val (.ref b353), .val (.ref b367), .val (.int (1 : Int32)), .val .null, .val (.int (0 : Int32)), .val (.int (0 : Int32)), .val .null, .val .null, .val (.int (0 : Int32))] [(.int (1 : Int32))])) t → Steps p.tables e below (T400.setTop (mkF m 325 #[.val (.long f1), .second, .val (.long f2), .second, .val (.long c1), .second, .val (.long c2), .second, .val (.int fl), .val (.int (0 : Int32)), .val (.int (0 : Int32)), .val (.int (0 : Int32)), .val (.ref b333), .val (.ref b353), .val (.ref b367), .val (.int (1 : Int32)), .val .null, .val (.int (0 : Int32)), .val (.int (0 : Int32)), .val .null, .val .null, .val (.int (0 : Int32))] [(.int (1 : Int32))])) t := by
      intro t kt
      show Steps p.tables e below (T400.setTop (mkF m 325 #[.val (.long f1), .second, .val (.long f2), .second, .val (.long c1), .second, .val (.long c2), .second, .val (.int fl), .val (.int (0 : Int32)), .val (.int (0 : Int32)), .val (.int (0 : Int32)), .val (.ref b333), .val (.ref b353), .val (.ref b367), .val (.int (1 : Int32)), .val .null, .val (.int (0 : Int32)), .val (.int (0 : Int32)), .val .null, .val .null, .val (.int (0 : Int32))] [(.int (1 : Int32))])) _
      refine XS.istore X400.here hx rfl (hb hby at_325) rfl (l' := #[.val (.long f1), .second, .val (.long f2), .second, .val (.long c1), .second, .val (.long c2), .second, .val (.int fl), .val (.int (0 : Int32)), .val (.int (0 : Int32)), .val (.int (0 : Int32)), .val (.ref b333), .val (.ref b353), .val (.ref b367), .val (.int (1 : Int32)), .val .null, .val (.int (0 : Int32)), .val (.int (0 : Int32)), .val .null, .val .null, .val (.int (0 : Int32))]) rfl ?_
      refine XS.iload X400.here hx rfl (hb hby at_327) rfl ?_
      exact kt
    have C404 : ∀ t, Steps p.tables e below (T400.setTop (mkF m 329 #[.val (.long f1), .second, .val (.long f2), .second, .val (.long c1), .second, .val (.long c2), .second, .val (.int fl), .val (.int (0 : Int32)), .val (.int (0 : Int32)), .val (.int (0 : Int32)), .val (.ref b333), .val (.ref b353), .val (.ref b367), .val (.int (1 : Int32)), .val .null, .val (.int (0 : Int32)), .val (.int (0 : Int32)), .val .null, .val .null, .val (.int (0 : Int32))] [(.int (1 : Int32))])) t → Steps p.tables e below (s₁.setTop (mkF m 0 #[.val (.long f1), .second, .val (.long f2), .second, .val (.long c1), .second, .val (.long c2), .second, .val (.int fl), .unset, .unset, .unset, .unset, .unset, .unset, .unset, .unset, .unset, .unset, .unset, .unset, .unset] [])) t := (fun t k => (C330 t (S331 t (S332 t (st333 t (S346 t (st347.trans (S352 t (st353 t (S363 t (st364.trans (S366 t (st367 t (S379 t (st380.trans (S384 t (st385.trans (S387 t (S388 t (S389 t (st390.trans (S391 t (S392 t (S393 t (st394.trans (S395 t (S396 t (S397 t (S398 t (S399 t (st400.trans (S401 t (S402 t (S403 t k))))))))))))))))))))))))))))))))))
    obtain ⟨fs, hr, hrun, hended, hW, hsame⟩ := X400.leave (v := some (.int (1 : Int32))) (fun h => by rw [Bd.returns] at h; cases h)
    refine ⟨_, _, pre0 _ (C404 _ ?_), hrun, hended, _, _, rfl, ?_, ⟨_, rfl⟩, hW, hsame.mono (by decide) (by decide)⟩
    · exact retN X400 hx (t := .boolean) Bd.returns (by simp) (hb hby at_329) hr
    · show Q_rm0 Z f1 f2 c1 c2 fl h0 n0 _ T400.heap _
      rw [e400]
      exact ⟨rfl, N400⟩
  · have S405 : ∀ t, Steps p.tables e below (s₁.setTop (mkF m 4 #[.val (.long f1), .second, .val (.long f2), .second, .val (.long c1), .second, .val (.long c2), .second, .val (.int fl), .unset, .unset, .unset, .unset, .unset, .unset, .unset, .unset, .unset, .unset, .unset, .unset, .unset] [(.int (1 : Int32))])) t → Steps p.tables e below (s₁.setTop (mkF m 4 #[.val (.long f1), .second, .val (.long f2), .second, .val (.long c1), .second, .val (.long c2), .second, .val (.int fl), .unset, .unset, .unset, .unset, .unset, .unset, .unset, .unset, .unset, .unset, .unset, .unset, .unset] [(.int v327)])) t := fun t k => by rw [qv327]; exact k
    have S406 : ∀ t, Steps p.tables e below (s₁.setTop (mkF m 33 #[.val (.long f1), .second, .val (.long f2), .second, .val (.long c1), .second, .val (.long c2), .second, .val (.int fl), .val (.int (1 : Int32)), .val (.int (1 : Int32)), .val (.int (0 : Int32)), .unset, .unset, .unset, .unset, .unset, .unset, .unset, .unset, .unset, .unset] [])) t → Steps p.tables e below (s₁.setTop (mkF m 4 #[.val (.long f1), .second, .val (.long f2), .second, .val (.long c1), .second, .val (.long c2), .second, .val (.int fl), .unset, .unset, .unset, .unset, .unset, .unset, .unset, .unset, .unset, .unset, .unset, .unset, .unset] [(.int (1 : Int32))])) t := by
      intro t kt
      show Steps p.tables e below (s₁.setTop (mkF m 4 #[.val (.long f1), .second, .val (.long f2), .second, .val (.long c1), .second, .val (.long c2), .second, .val (.int fl), .unset, .unset, .unset, .unset, .unset, .unset, .unset, .unset, .unset, .unset, .unset, .unset, .unset] [(.int (1 : Int32))])) _
      refine XS.istore X0.here hx rfl (hb hby at_4) rfl (l' := #[.val (.long f1), .second, .val (.long f2), .second, .val (.long c1), .second, .val (.long c2), .second, .val (.int fl), .val (.int (1 : Int32)), .unset, .unset, .unset, .unset, .unset, .unset, .unset, .unset, .unset, .unset, .unset, .unset]) rfl ?_
      refine XS.iload X0.here hx rfl (hb hby at_6) rfl ?_
      refine XS.iconst X0.here hx rfl (hb hby at_8) ?_
      refine XS.icmpYes X0.here hx rfl (pc0 := 9) (pc' := 16) rfl (hb hby at_9) rfl (feq (by decide)).2 (by decide) (by decide) ?_
      refine XS.iload X0.here hx rfl (hb hby at_16) rfl ?_
      refine XS.istore X0.here hx rfl (hb hby at_18) rfl (l' := #[.val (.long f1), .second, .val (.long f2), .second, .val (.long c1), .second, .val (.long c2), .second, .val (.int fl), .val (.int (1 : Int32)), .val (.int (1 : Int32)), .unset, .unset, .unset, .unset, .unset, .unset, .unset, .unset, .unset, .unset, .unset]) rfl ?_
      show Steps p.tables e below (s₁.setTop (mkF m 20 #[.val (.long f1), .second, .val (.long f2), .second, .val (.long c1), .second, .val (.long c2), .second, .val (.int fl), .val (.int (1 : Int32)), .val (.int (1 : Int32)), .unset, .unset, .unset, .unset, .unset, .unset, .unset, .unset, .unset, .unset, .unset] [])) _
      refine XS.iload X0.here hx rfl (hb hby at_20) rfl ?_
      refine XS.iconst X0.here hx rfl (hb hby at_22) ?_
      refine XS.icmpYes X0.here hx rfl (pc0 := 23) (pc' := 30) rfl (hb hby at_23) rfl (feq (by decide)).2 (by decide) (by decide) ?_
      refine XS.iconst X0.here hx rfl (hb hby at_30) ?_
      refine XS.istore X0.here hx rfl (hb hby at_31) rfl (l' := #[.val (.long f1), .second, .val (.long f2), .second, .val (.long c1), .second, .val (.long c2), .second, .val (.int fl), .val (.int (1 : Int32)), .val (.int (1 : Int32)), .val (.int (0 : Int32)), .unset, .unset, .unset, .unset, .unset, .unset, .unset, .unset, .unset, .unset]) rfl ?_
      exact kt
    obtain ⟨T407, h407, X407, e407, E407, A407, D407, -, st407⟩ := newO X0 hx hZ hown (hw _ (List.mem_of_getElem? (i := 0) rfl)) (hw _ (List.mem_of_getElem? (i := 1) rfl)) (hw _ (List.mem_of_getElem? (i := 2) rfl)) e0 (g := (mkF m 33 #[.val (.long f1), .second, .val (.long f2), .second, .val (.long c1), .second, .val (.long c2), .second, .val (.int fl), .val (.int (1 : Int32)), .val (.int (1 : Int32)), .val (.int (0 : Int32)), .unset, .unset, .unset, .unset, .unset, .unset, .unset, .unset, .unset, .unset] [])) rfl (hb hby at_33) (by decide) (by decide)
    obtain ⟨b407, g407⟩ : ∃ z, z = h0.size := ⟨_, rfl⟩
    rw [← g407] at A407 D407 st407
    have g_b407 : n0 ≤ b407 := Nat.le_trans Z0 (Nat.le_of_eq g407.symm)
    have z408 : n0 ≤ h407.size := Nat.le_trans Z0 E407.1
    have F409 : Fld Z h407 b407 "tidegate/operator/Crossings" "added" "Ltidegate/operator/Crossings$Batch;" .null := D407 (Or.inl (hw _ (List.mem_of_getElem? (i := 21) rfl))) (ty := (.object "tidegate/operator/Crossings$Batch")) (by decide)
    have F410 : Fld Z h407 b407 "tidegate/operator/Crossings" "taken" "Ltidegate/operator/Crossings$Batch;" .null := D407 (Or.inl (hw _ (List.mem_of_getElem? (i := 23) rfl))) (ty := (.object "tidegate/operator/Crossings$Batch")) (by decide)
    have S420 : ∀ t, Steps p.tables e below (T407.setTop (mkF m 37 #[.val (.long f1), .second, .val (.long f2), .second, .val (.long c1), .second, .val (.long c2), .second, .val (.int fl), .val (.int (1 : Int32)), .val (.int (1 : Int32)), .val (.int (0 : Int32)), .unset, .unset, .unset, .unset, .unset, .unset, .unset, .unset, .unset, .unset] [(.ref b407), (.ref b407)])) t → Steps p.tables e below (T407.setTop (mkF m 36 #[.val (.long f1), .second, .val (.long f2), .second, .val (.long c1), .second, .val (.long c2), .second, .val (.int fl), .val (.int (1 : Int32)), .val (.int (1 : Int32)), .val (.int (0 : Int32)), .unset, .unset, .unset, .unset, .unset, .unset, .unset, .unset, .unset, .unset] [(.ref b407)])) t := by
      intro t kt
      show Steps p.tables e below (T407.setTop (mkF m 36 #[.val (.long f1), .second, .val (.long f2), .second, .val (.long c1), .second, .val (.long c2), .second, .val (.int fl), .val (.int (1 : Int32)), .val (.int (1 : Int32)), .val (.int (0 : Int32)), .unset, .unset, .unset, .unset, .unset, .unset, .unset, .unset, .unset, .unset] [(.ref b407)])) _
      refine XS.dup X407.here hx rfl (hb hby at_36) rfl rfl ?_
      exact kt
    obtain ⟨_, _, ⟨T421, L421, k421, n421⟩, -, X421, ⟨Lc421, hQ421, l421, y421, z421⟩, st421⟩ := X407.specialBack hx (y := (⟨"tidegate/operator/Crossings", "<init>", "()V"⟩ : MethodName)) rfl hown (mvT hZ (hw _ (List.mem_of_getElem? (i := 3) rfl))) (mvT hZ (hw _ (List.mem_of_getElem? (i := 4) rfl))) (mvT hZ (hw _ (List.mem_of_getElem? (i := 5) rfl))) (by decide) (backOf (W := 1) (rm1 l Z a0 hw [] b407 h407 n0 z408 A407 F409 F410 g_b407) hZ (hw _ (List.mem_of_getElem? (i := 5) rfl)) (hw _ (List.mem_of_getElem? (i := 2) rfl)) (by decide) (by decide)) (g := (mkF m 37 #[.val (.long f1), .second, .val (.long f2), .second, .val (.long c1), .second, .val (.long c2), .second, .val (.int fl), .val (.int (1 : Int32)), .val (.int (1 : Int32)), .val (.int (0 : Int32)), .unset, .unset, .unset, .unset, .unset, .unset, .unset, .unset, .unset, .unset] [(.ref b407), (.ref b407)])) rfl (by rw [hml]; rfl) (Steps.refl _) (a := b407) (argsL := []) (rest := [(.ref b407)]) (lenOf pd_1 rfl) rfl (by show 2 * 0 + _ ≤ _; exact Nat.le_of_eq rfl) (hb hby at_37) (fun _ _ => ⟨rfl, e407, (by decide : 1 + 1 ≤ _), (by decide : 2 + 3 ≤ _)⟩)
    dsimp only [Pt.U, Pt.locs, Pt.cells, Pt.slots] at X421 l421 y421 z421 st421 hQ421
    subst l421 y421 z421
    obtain ⟨h421, e421⟩ : ∃ z, T421.heap = z := ⟨_, rfl⟩
    rw [e421] at hQ421
    obtain ⟨b411, rfl, N421q, K421q, hge412, F415, F416, F417, qq413, uu414, F422, F423, F424⟩ := hQ421
    have z425 : n0 ≤ h421.size := Nat.le_trans z408 K421q.1
    have N421 := Fr.app N0 N421q
    have g_b411 : n0 ≤ b411 := Nat.le_trans z408 hge412
    have ne_b407_b411 : b407 ≠ b411 := Nat.ne_of_lt (Nat.lt_of_lt_of_le A407.lt hge412)
    have S426 : ∀ t, Steps p.tables e below (T421.setTop (mkF m 42 #[.val (.long f1), .second, .val (.long f2), .second, .val (.long c1), .second, .val (.long c2), .second, .val (.int fl), .val (.int (1 : Int32)), .val (.int (1 : Int32)), .val (.int (0 : Int32)), .val (.ref b407), .unset, .unset, .unset, .unset, .unset, .unset, .unset, .unset, .unset] [])) t → Steps p.tables e below (T421.setTop (mkF m 40 #[.val (.long f1), .second, .val (.long f2), .second, .val (.long c1), .second, .val (.long c2), .second, .val (.int fl), .val (.int (1 : Int32)), .val (.int (1 : Int32)), .val (.int (0 : Int32)), .unset, .unset, .unset, .unset, .unset, .unset, .unset, .unset, .unset, .unset] [(.ref b407)])) t := by
      intro t kt
      show Steps p.tables e below (T421.setTop (mkF m 40 #[.val (.long f1), .second, .val (.long f2), .second, .val (.long c1), .second, .val (.long c2), .second, .val (.int fl), .val (.int (1 : Int32)), .val (.int (1 : Int32)), .val (.int (0 : Int32)), .unset, .unset, .unset, .unset, .unset, .unset, .unset, .unset, .unset, .unset] [(.ref b407)])) _
      refine XS.astore X421.here hx rfl (hb hby at_40) rfl rfl (l' := #[.val (.long f1), .second, .val (.long f2), .second, .val (.long c1), .second, .val (.long c2), .second, .val (.int fl), .val (.int (1 : Int32)), .val (.int (1 : Int32)), .val (.int (0 : Int32)), .val (.ref b407), .unset, .unset, .unset, .unset, .unset, .unset, .unset, .unset, .unset]) rfl ?_
      exact kt
    obtain ⟨T427, h427, X427, e427, E427, A427, D427, -, st427⟩ := newO X421 hx hZ hown (hw _ (List.mem_of_getElem? (i := 24) rfl)) (hw _ (List.mem_of_getElem? (i := 25) rfl)) (hw _ (List.mem_of_getElem? (i := 26) rfl)) e421 (g := (mkF m 42 #[.val (.long f1), .second, .val (.long f2), .second, .val (.long c1), .second, .val (.long c2), .second, .val (.int fl), .val (.int (1 : Int32)), .val (.int (1 : Int32)), .val (.int (0 : Int32)), .val (.ref b407), .unset, .unset, .unset, .unset, .unset, .unset, .unset, .unset, .unset] [])) rfl (hb hby at_42) (by decide) (by decide)
    obtain ⟨b427, g427⟩ : ∃ z, z = h421.size := ⟨_, rfl⟩
    rw [← g427] at A427 D427 st427
    have g_b427 : n0 ≤ b427 := Nat.le_trans z425 (Nat.le_of_eq g427.symm)
    have f428 := (A407.keep K421q)
    have ne_b407_b427 : b407 ≠ b427 := Nat.ne_of_lt (Nat.lt_of_lt_of_le f428.lt (Nat.le_of_eq g427.symm))
    have ne_b411_b427 : b411 ≠ b427 := Nat.ne_of_lt (Nat.lt_of_lt_of_le F415.lt (Nat.le_of_eq g427.symm))
    have z429 : n0 ≤ h427.size := Nat.le_trans z425 E427.1
    have F430 : Fld Z h427 b427 "tidegate/operator/StageFunctions" "kinds" "[Ltidegate/operator/OperatorPublisher$Kind;" .null := D427 (Or.inl (hw _ (List.mem_of_getElem? (i := 34) rfl))) (ty := (.array (.object "tidegate/operator/OperatorPublisher$Kind"))) (by decide)
    have F431 : Fld Z h427 b427 "tidegate/operator/StageFunctions" "entries" "[Ljava/lang/Object;" .null := D427 (Or.inl (hw _ (List.mem_of_getElem? (i := 38) rfl))) (ty := (.array (.object "java/lang/Object"))) (by decide)
    have F432 : Fld Z h427 b427 "tidegate/operator/StageFunctions" "stages" "[Ljava/lang/String;" .null := D427 (Or.inl (hw _ (List.mem_of_getElem? (i := 42) rfl))) (ty := (.array (.object "java/lang/String"))) (by decide)
    have F433 : Fld Z h427 b427 "tidegate/operator/StageFunctions" "counting" "Ltidegate/operator/StageFunctions$Indices;" .null := D427 (Or.inr (hw _ (List.mem_of_getElem? (i := 54) rfl))) (ty := (.object "tidegate/operator/StageFunctions$Indices")) (by decide)
    have F434 : Fld Z h427 b427 "tidegate/operator/StageFunctions" "shaping" "Ltidegate/operator/StageFunctions$Indices;" .null := D427 (Or.inr (hw _ (List.mem_of_getElem? (i := 56) rfl))) (ty := (.object "tidegate/operator/StageFunctions$Indices")) (by decide)
    have F435 : Fld Z h427 b427 "tidegate/operator/StageFunctions" "producers" "Ltidegate/operator/StageFunctions$Indices;" .null := D427 (Or.inr (hw _ (List.mem_of_getElem? (i := 58) rfl))) (ty := (.object "tidegate/operator/StageFunctions$Indices")) (by decide)
    have F436 : Fld Z h427 b427 "tidegate/operator/StageFunctions" "referees" "Ltidegate/operator/StageFunctions$Indices;" .null := D427 (Or.inr (hw _ (List.mem_of_getElem? (i := 60) rfl))) (ty := (.object "tidegate/operator/StageFunctions$Indices")) (by decide)
    have S437 : ∀ t, Steps p.tables e below (T427.setTop (mkF m 46 #[.val (.long f1), .second, .val (.long f2), .second, .val (.long c1), .second, .val (.long c2), .second, .val (.int fl), .val (.int (1 : Int32)), .val (.int (1 : Int32)), .val (.int (0 : Int32)), .val (.ref b407), .unset, .unset, .unset, .unset, .unset, .unset, .unset, .unset, .unset] [(.ref b427), (.ref b427)])) t → Steps p.tables e below (T427.setTop (mkF m 45 #[.val (.long f1), .second, .val (.long f2), .second, .val (.long c1), .second, .val (.long c2), .second, .val (.int fl), .val (.int (1 : Int32)), .val (.int (1 : Int32)), .val (.int (0 : Int32)), .val (.ref b407), .unset, .unset, .unset, .unset, .unset, .unset, .unset, .unset, .unset] [(.ref b427)])) t := by
      intro t kt
      show Steps p.tables e below (T427.setTop (mkF m 45 #[.val (.long f1), .second, .val (.long f2), .second, .val (.long c1), .second, .val (.long c2), .second, .val (.int fl), .val (.int (1 : Int32)), .val (.int (1 : Int32)), .val (.int (0 : Int32)), .val (.ref b407), .unset, .unset, .unset, .unset, .unset, .unset, .unset, .unset, .unset] [(.ref b427)])) _
      refine XS.dup X427.here hx rfl (hb hby at_45) rfl rfl ?_
      exact kt
    obtain ⟨_, _, ⟨T438, L438, k438, n438⟩, -, X438, ⟨Lc438, hQ438, l438, y438, z438⟩, st438⟩ := X427.specialBack hx (y := (⟨"tidegate/operator/StageFunctions", "<init>", "()V"⟩ : MethodName)) rfl hown (mvT hZ (hw _ (List.mem_of_getElem? (i := 27) rfl))) (mvT hZ (hw _ (List.mem_of_getElem? (i := 28) rfl))) (mvT hZ (hw _ (List.mem_of_getElem? (i := 29) rfl))) (by decide) (backOf (W := 1) (rm4 l Z a0 hw [] b427 h427 n0 z429 A427 F430 F431 F432 F433 F434 F435 F436 g_b427) hZ (hw _ (List.mem_of_getElem? (i := 29) rfl)) (hw _ (List.mem_of_getElem? (i := 26) rfl)) (by decide) (by decide)) (g := (mkF m 46 #[.val (.long f1), .second, .val (.long f2), .second, .val (.long c1), .second, .val (.long c2), .second, .val (.int fl), .val (.int (1 : Int32)), .val (.int (1 : Int32)), .val (.int (0 : Int32)), .val (.ref b407), .unset, .unset, .unset, .unset, .unset, .unset, .unset, .unset, .unset] [(.ref b427), (.ref b427)])) rfl (by rw [hml]; rfl) (Steps.refl _) (a := b427) (argsL := []) (rest := [(.ref b427)]) (lenOf pd_1 rfl) rfl (by show 2 * 0 + _ ≤ _; exact Nat.le_of_eq rfl) (hb hby at_46) (fun _ _ => ⟨rfl, e427, (by decide : 3 + 11 ≤ _), (by decide : 16 + 8 ≤ _)⟩)
    dsimp only [Pt.U, Pt.locs, Pt.cells, Pt.slots] at X438 l438 y438 z438 st438 hQ438
    subst l438 y438 z438
    obtain ⟨h438, e438⟩ : ∃ z, T438.heap = z := ⟨_, rfl⟩
    rw [e438] at hQ438
    obtain ⟨rfl, N438q, K438q⟩ := hQ438
    have z439 : n0 ≤ h438.size := Nat.le_trans z429 K438q.1
    have N438 := Fr.app N421 N438q
    have S440 : ∀ t, Steps p.tables e below (T438.setTop (mkF m 51 #[.val (.long f1), .second, .val (.long f2), .second, .val (.long c1), .second, .val (.long c2), .second, .val (.int fl), .val (.int (1 : Int32)), .val (.int (1 : Int32)), .val (.int (0 : Int32)), .val (.ref b407), .val (.ref b427), .unset, .unset, .unset, .unset, .unset, .unset, .unset, .unset] [])) t → Steps p.tables e below (T438.setTop (mkF m 49 #[.val (.long f1), .second, .val (.long f2), .second, .val (.long c1), .second, .val (.long c2), .second, .val (.int fl), .val (.int (1 : Int32)), .val (.int (1 : Int32)), .val (.int (0 : Int32)), .val (.ref b407), .unset, .unset, .unset, .unset, .unset, .unset, .unset, .unset, .unset] [(.ref b427)])) t := by
      intro t kt
      show Steps p.tables e below (T438.setTop (mkF m 49 #[.val (.long f1), .second, .val (.long f2), .second, .val (.long c1), .second, .val (.long c2), .second, .val (.int fl), .val (.int (1 : Int32)), .val (.int (1 : Int32)), .val (.int (0 : Int32)), .val (.ref b407), .unset, .unset, .unset, .unset, .unset, .unset, .unset, .unset, .unset] [(.ref b427)])) _
      refine XS.astore X438.here hx rfl (hb hby at_49) rfl rfl (l' := #[.val (.long f1), .second, .val (.long f2), .second, .val (.long c1), .second, .val (.long c2), .second, .val (.int fl), .val (.int (1 : Int32)), .val (.int (1 : Int32)), .val (.int (0 : Int32)), .val (.ref b407), .val (.ref b427), .unset, .unset, .unset, .unset, .unset, .unset, .unset, .unset]) rfl ?_
      exact kt
    obtain ⟨T441, h441, X441, e441, E441, A441, D441, -, st441⟩ := newO X438 hx hZ hown (hw _ (List.mem_of_getElem? (i := 24) rfl)) (hw _ (List.mem_of_getElem? (i := 25) rfl)) (hw _ (List.mem_of_getElem? (i := 26) rfl)) e438 (g := (mkF m 51 #[.val (.long f1), .second, .val (.long f2), .second, .val (.long c1), .second, .val (.long c2), .second, .val (.int fl), .val (.int (1 : Int32)), .val (.int (1 : Int32)), .val (.int (0 : Int32)), .val (.ref b407), .val (.ref b427), .unset, .unset, .unset, .unset, .unset, .unset, .unset, .unset] [])) rfl (hb hby at_51) (by decide) (by decide)
    obtain ⟨b441, g441⟩ : ∃ z, z = h438.size := ⟨_, rfl⟩
    rw [← g441] at A441 D441 st441
    have g_b441 : n0 ≤ b441 := Nat.le_trans z439 (Nat.le_of_eq g441.symm)
    have f442 := ((f428.ext E427).keep K438q)
    have ne_b407_b441 : b407 ≠ b441 := Nat.ne_of_lt (Nat.lt_of_lt_of_le f442.lt (Nat.le_of_eq g441.symm))
    have f443 := ((F415.ext E427).keep K438q)
    have ne_b411_b441 : b411 ≠ b441 := Nat.ne_of_lt (Nat.lt_of_lt_of_le f443.lt (Nat.le_of_eq g441.symm))
    have f444 := (A427.keep K438q)
    have ne_b427_b441 : b427 ≠ b441 := Nat.ne_of_lt (Nat.lt_of_lt_of_le f444.lt (Nat.le_of_eq g441.symm))
    have z445 : n0 ≤ h441.size := Nat.le_trans z439 E441.1
    have F446 : Fld Z h441 b441 "tidegate/operator/StageFunctions" "kinds" "[Ltidegate/operator/OperatorPublisher$Kind;" .null := D441 (Or.inl (hw _ (List.mem_of_getElem? (i := 34) rfl))) (ty := (.array (.object "tidegate/operator/OperatorPublisher$Kind"))) (by decide)
    have F447 : Fld Z h441 b441 "tidegate/operator/StageFunctions" "entries" "[Ljava/lang/Object;" .null := D441 (Or.inl (hw _ (List.mem_of_getElem? (i := 38) rfl))) (ty := (.array (.object "java/lang/Object"))) (by decide)
    have F448 : Fld Z h441 b441 "tidegate/operator/StageFunctions" "stages" "[Ljava/lang/String;" .null := D441 (Or.inl (hw _ (List.mem_of_getElem? (i := 42) rfl))) (ty := (.array (.object "java/lang/String"))) (by decide)
    have F449 : Fld Z h441 b441 "tidegate/operator/StageFunctions" "counting" "Ltidegate/operator/StageFunctions$Indices;" .null := D441 (Or.inr (hw _ (List.mem_of_getElem? (i := 54) rfl))) (ty := (.object "tidegate/operator/StageFunctions$Indices")) (by decide)
    have F450 : Fld Z h441 b441 "tidegate/operator/StageFunctions" "shaping" "Ltidegate/operator/StageFunctions$Indices;" .null := D441 (Or.inr (hw _ (List.mem_of_getElem? (i := 56) rfl))) (ty := (.object "tidegate/operator/StageFunctions$Indices")) (by decide)
    have F451 : Fld Z h441 b441 "tidegate/operator/StageFunctions" "producers" "Ltidegate/operator/StageFunctions$Indices;" .null := D441 (Or.inr (hw _ (List.mem_of_getElem? (i := 58) rfl))) (ty := (.object "tidegate/operator/StageFunctions$Indices")) (by decide)
    have F452 : Fld Z h441 b441 "tidegate/operator/StageFunctions" "referees" "Ltidegate/operator/StageFunctions$Indices;" .null := D441 (Or.inr (hw _ (List.mem_of_getElem? (i := 60) rfl))) (ty := (.object "tidegate/operator/StageFunctions$Indices")) (by decide)
    have S453 : ∀ t, Steps p.tables e below (T441.setTop (mkF m 55 #[.val (.long f1), .second, .val (.long f2), .second, .val (.long c1), .second, .val (.long c2), .second, .val (.int fl), .val (.int (1 : Int32)), .val (.int (1 : Int32)), .val (.int (0 : Int32)), .val (.ref b407), .val (.ref b427), .unset, .unset, .unset, .unset, .unset, .unset, .unset, .unset] [(.ref b441), (.ref b441)])) t → Steps p.tables e below (T441.setTop (mkF m 54 #[.val (.long f1), .second, .val (.long f2), .second, .val (.long c1), .second, .val (.long c2), .second, .val (.int fl), .val (.int (1 : Int32)), .val (.int (1 : Int32)), .val (.int (0 : Int32)), .val (.ref b407), .val (.ref b427), .unset, .unset, .unset, .unset, .unset, .unset, .unset, .unset] [(.ref b441)])) t := by
      intro t kt
      show Steps p.tables e below (T441.setTop (mkF m 54 #[.val (.long f1), .second, .val (.long f2), .second, .val (.long c1), .second, .val (.long c2), .second, .val (.int fl), .val (.int (1 : Int32)), .val (.int (1 : Int32)), .val (.int (0 : Int32)), .val (.ref b407), .val (.ref b427), .unset, .unset, .unset, .unset, .unset, .unset, .unset, .unset] [(.ref b441)])) _
      refine XS.dup X441.here hx rfl (hb hby at_54) rfl rfl ?_
      exact kt
    obtain ⟨_, _, ⟨T454, L454, k454, n454⟩, -, X454, ⟨Lc454, hQ454, l454, y454, z454⟩, st454⟩ := X441.specialBack hx (y := (⟨"tidegate/operator/StageFunctions", "<init>", "()V"⟩ : MethodName)) rfl hown (mvT hZ (hw _ (List.mem_of_getElem? (i := 27) rfl))) (mvT hZ (hw _ (List.mem_of_getElem? (i := 28) rfl))) (mvT hZ (hw _ (List.mem_of_getElem? (i := 29) rfl))) (by decide) (backOf (W := 1) (rm4 l Z a0 hw [] b441 h441 n0 z445 A441 F446 F447 F448 F449 F450 F451 F452 g_b441) hZ (hw _ (List.mem_of_getElem? (i := 29) rfl)) (hw _ (List.mem_of_getElem? (i := 26) rfl)) (by decide) (by decide)) (g := (mkF m 55 #[.val (.long f1), .second, .val (.long f2), .second, .val (.long c1), .second, .val (.long c2), .second, .val (.int fl), .val (.int (1 : Int32)), .val (.int (1 : Int32)), .val (.int (0 : Int32)), .val (.ref b407), .val (.ref b427), .unset, .unset, .unset, .unset, .unset, .unset, .unset, .unset] [(.ref b441), (.ref b441)])) rfl (by rw [hml]; rfl) (Steps.refl _) (a := b441) (argsL := []) (rest := [(.ref b441)]) (lenOf pd_1 rfl) rfl (by show 2 * 0 + _ ≤ _; exact Nat.le_of_eq rfl) (hb hby at_55) (fun _ _ => ⟨rfl, e441, (by decide : 15 + 11 ≤ _), (by decide : 35 + 8 ≤ _)⟩)
    dsimp only [Pt.U, Pt.locs, Pt.cells, Pt.slots] at X454 l454 y454 z454 st454 hQ454
    subst l454 y454 z454
    obtain ⟨h454, e454⟩ : ∃ z, T454.heap = z := ⟨_, rfl⟩
    rw [e454] at hQ454
    obtain ⟨rfl, N454q, K454q⟩ := hQ454
    have z455 : n0 ≤ h454.size := Nat.le_trans z445 K454q.1
    have N454 := Fr.app N438 N454q
    have f458 := ((f442.ext E441).keep K454q)
    have f459 := ((f443.ext E441).keep K454q)
    have f460 := ((f444.ext E441).keep K454q)
    have f461 := (A441.keep K454q)
    have f462 := ((((F416.ext E427).keep K438q (ninS ne_b407_b427 nin0)).ext E441).keep K454q (ninS ne_b407_b441 nin0))
    have f463 := ((((F417.ext E427).keep K438q (ninS ne_b407_b427 nin0)).ext E441).keep K454q (ninS ne_b407_b441 nin0))
    have f464 := ((((F424.ext E427).keep K438q (ninS ne_b411_b427 nin0)).ext E441).keep K454q (ninS ne_b411_b441 nin0))
    have f465 := ((((F422.ext E427).keep K438q (ninS ne_b411_b427 nin0)).ext E441).keep K454q (ninS ne_b411_b441 nin0))
    have f466 := ((((F423.ext E427).keep K438q (ninS ne_b411_b427 nin0)).ext E441).keep K454q (ninS ne_b411_b441 nin0))
    have S467 : ∀ t, Steps p.tables e below (T454.setTop (mkF m 71 #[.val (.long f1), .second, .val (.long f2), .second, .val (.long c1), .second, .val (.long c2), .second, .val (.int fl), .val (.int (1 : Int32)), .val (.int (1 : Int32)), .val (.int (0 : Int32)), .val (.ref b407), .val (.ref b427), .val (.ref b441), .unset, .unset, .unset, .unset, .unset, .unset, .unset] [(.ref b427), (.long f1), (.ref b407)])) t → Steps p.tables e below (T454.setTop (mkF m 58 #[.val (.long f1), .second, .val (.long f2), .second, .val (.long c1), .second, .val (.long c2), .second, .val (.int fl), .val (.int (1 : Int32)), .val (.int (1 : Int32)), .val (.int (0 : Int32)), .val (.ref b407), .val (.ref b427), .unset, .unset, .unset, .unset, .unset, .unset, .unset, .unset] [(.ref b441)])) t := by
      intro t kt
      show Steps p.tables e below (T454.setTop (mkF m 58 #[.val (.long f1), .second, .val (.long f2), .second, .val (.long c1), .second, .val (.long c2), .second, .val (.int fl), .val (.int (1 : Int32)), .val (.int (1 : Int32)), .val (.int (0 : Int32)), .val (.ref b407), .val (.ref b427), .unset, .unset, .unset, .unset, .unset, .unset, .unset, .unset] [(.ref b441)])) _
      refine XS.astore X454.here hx rfl (hb hby at_58) rfl rfl (l' := #[.val (.long f1), .second, .val (.long f2), .second, .val (.long c1), .second, .val (.long c2), .second, .val (.int fl), .val (.int (1 : Int32)), .val (.int (1 : Int32)), .val (.int (0 : Int32)), .val (.ref b407), .val (.ref b427), .val (.ref b441), .unset, .unset, .unset, .unset, .unset, .unset, .unset]) rfl ?_
      refine XS.iload X454.here hx rfl (hb hby at_60) rfl ?_
      refine XS.iconst X454.here hx rfl (hb hby at_62) ?_
      refine XS.icmpNo X454.here hx rfl (hb hby at_63) rfl (flt (by decide)).1 ?_
      refine XS.aload X454.here hx rfl (hb hby at_66) rfl rfl ?_
      refine XS.lloadN X454.here hx rfl (hb hby at_68) rfl ?_
      show Steps p.tables e below (T454.setTop (mkF m 69 #[.val (.long f1), .second, .val (.long f2), .second, .val (.long c1), .second, .val (.long c2), .second, .val (.int fl), .val (.int (1 : Int32)), .val (.int (1 : Int32)), .val (.int (0 : Int32)), .val (.ref b407), .val (.ref b427), .val (.ref b441), .unset, .unset, .unset, .unset, .unset, .unset, .unset] [(.long f1), (.ref b407)])) _
      refine XS.aload X454.here hx rfl (hb hby at_69) rfl rfl ?_
      exact kt
    obtain ⟨cq468, kq468, q468a, q468b, q468c⟩ := isOf hZ e454 f458
    obtain ⟨_, _, ⟨T468, L468, k468, n468⟩, -, X468, ⟨Lc468, hQ468, l468, y468, z468⟩, st468⟩ := X454.virtualBack hx (y := (⟨"tidegate/operator/Crossings", "add", "(JLtidegate/operator/StageFunctions;)V"⟩ : MethodName)) (z := (⟨"tidegate/operator/Crossings", "add", "(JLtidegate/operator/StageFunctions;)V"⟩ : MethodName)) hown (mvT hZ (hw _ (List.mem_of_getElem? (i := 61) rfl))) (mvT hZ (hw _ (List.mem_of_getElem? (i := 62) rfl))) (notFace_of_selects (args := #[]) (mvT hZ (hw _ (List.mem_of_getElem? (i := 64) rfl)))) (mvT hZ (hw _ (List.mem_of_getElem? (i := 64) rfl))) (mvT hZ (hw _ (List.mem_of_getElem? (i := 63) rfl))) (by decide) (backOf (W := 0) (rm6 l Z a0 hw [] b407 f1 b427 b411 b411 qq413 uu414 h454 n0 z455 f458 f462 f463 f459 f464 f465 f466 g_b407 g_b411 ne_b407_b411) hZ (hw _ (List.mem_of_getElem? (i := 65) rfl)) (hw _ (List.mem_of_getElem? (i := 2) rfl)) (by decide) (by decide)) q468a q468c (g := (mkF m 71 #[.val (.long f1), .second, .val (.long f2), .second, .val (.long c1), .second, .val (.long c2), .second, .val (.int fl), .val (.int (1 : Int32)), .val (.int (1 : Int32)), .val (.int (0 : Int32)), .val (.ref b407), .val (.ref b427), .val (.ref b441), .unset, .unset, .unset, .unset, .unset, .unset, .unset] [(.ref b427), (.long f1), (.ref b407)])) rfl (by rw [hml]; rfl) (Steps.refl _) (argsL := [(.long f1), (.ref b427)]) (rest := []) (lenOf pd_0 rfl) rfl (by show 2 * 0 + _ ≤ _; exact Nat.le_of_eq rfl) (hb hby at_71) (fun _ _ => ⟨rfl, e454, (by decide : 26 + 1 ≤ _), (by decide : 43 + 3 ≤ _)⟩)
    dsimp only [Pt.U, Pt.locs, Pt.cells, Pt.slots] at X468 l468 y468 z468 st468 hQ468
    subst l468 y468 z468
    obtain ⟨h468, e468⟩ : ∃ z, T468.heap = z := ⟨_, rfl⟩
    rw [e468] at hQ468
    obtain ⟨b456, rfl, N468q, K468q, hge457, F469, F470, F471, F472, F473, F474, F475, F476, F477⟩ := hQ468
    have z478 : n0 ≤ h468.size := Nat.le_trans z455 K468q.1
    have N468 := Fr.app N454 N468q
    have g_b456 : n0 ≤ b456 := Nat.le_trans z455 hge457
    have ne_b407_b456 : b407 ≠ b456 := Nat.ne_of_lt (Nat.lt_of_lt_of_le f458.lt hge457)
    have ne_b411_b456 : b411 ≠ b456 := Nat.ne_of_lt (Nat.lt_of_lt_of_le f459.lt hge457)
    have ne_b427_b456 : b427 ≠ b456 := Nat.ne_of_lt (Nat.lt_of_lt_of_le f460.lt hge457)
    have ne_b441_b456 : b441 ≠ b456 := Nat.ne_of_lt (Nat.lt_of_lt_of_le f461.lt hge457)
    have S479 : ∀ t, Steps p.tables e below (T468.setTop (mkF m 100 #[.val (.long f1), .second, .val (.long f2), .second, .val (.long c1), .second, .val (.long c2), .second, .val (.int fl), .val (.int (1 : Int32)), .val (.int (1 : Int32)), .val (.int (0 : Int32)), .val (.ref b407), .val (.ref b427), .val (.ref b441), .val (.int (1 : Int32)), .unset, .unset, .unset, .unset, .unset, .unset] [(.long c1), (.ref b407)])) t → Steps p.tables e below (T468.setTop (mkF m 74 #[.val (.long f1), .second, .val (.long f2), .second, .val (.long c1), .second, .val (.long c2), .second, .val (.int fl), .val (.int (1 : Int32)), .val (.int (1 : Int32)), .val (.int (0 : Int32)), .val (.ref b407), .val (.ref b427), .val (.ref b441), .unset, .unset, .unset, .unset, .unset, .unset, .unset] [])) t := by
      intro t kt
      show Steps p.tables e below (T468.setTop (mkF m 74 #[.val (.long f1), .second, .val (.long f2), .second, .val (.long c1), .second, .val (.long c2), .second, .val (.int fl), .val (.int (1 : Int32)), .val (.int (1 : Int32)), .val (.int (0 : Int32)), .val (.ref b407), .val (.ref b427), .val (.ref b441), .unset, .unset, .unset, .unset, .unset, .unset, .unset] [])) _
      refine XS.iload X468.here hx rfl (hb hby at_74) rfl ?_
      refine XS.iconst X468.here hx rfl (hb hby at_76) ?_
      refine XS.icmpYes X468.here hx rfl (pc0 := 77) (pc' := 93) rfl (hb hby at_77) rfl (feq (by decide)).2 (by decide) (by decide) ?_
      refine XS.iconst X468.here hx rfl (hb hby at_93) ?_
      refine XS.istore X468.here hx rfl (hb hby at_94) rfl (l' := #[.val (.long f1), .second, .val (.long f2), .second, .val (.long c1), .second, .val (.long c2), .second, .val (.int fl), .val (.int (1 : Int32)), .val (.int (1 : Int32)), .val (.int (0 : Int32)), .val (.ref b407), .val (.ref b427), .val (.ref b441), .val (.int (1 : Int32)), .unset, .unset, .unset, .unset, .unset, .unset]) rfl ?_
      refine XS.aload X468.here hx rfl (hb hby at_96) rfl rfl ?_
      show Steps p.tables e below (T468.setTop (mkF m 98 #[.val (.long f1), .second, .val (.long f2), .second, .val (.long c1), .second, .val (.long c2), .second, .val (.int fl), .val (.int (1 : Int32)), .val (.int (1 : Int32)), .val (.int (0 : Int32)), .val (.ref b407), .val (.ref b427), .val (.ref b441), .val (.int (1 : Int32)), .unset, .unset, .unset, .unset, .unset, .unset] [(.ref b407)])) _
      refine XS.lload X468.here hx rfl (hb hby at_98) rfl ?_
      exact kt
    by_cases ht480 : c1 < f1
    · have f482 := (f458.keep K468q)
      obtain ⟨cq481, kq481, q481a, q481b, q481c⟩ := isOf hZ e468 f482
      obtain ⟨_, _, ⟨T481, L481, k481, n481⟩, -, X481, ⟨Lc481, hQ481, l481, y481, z481⟩, st481⟩ := X468.virtualBack hx (y := (⟨"tidegate/operator/Crossings", "take", "(J)Ltidegate/operator/StageFunctions;"⟩ : MethodName)) (z := (⟨"tidegate/operator/Crossings", "take", "(J)Ltidegate/operator/StageFunctions;"⟩ : MethodName)) hown (mvT hZ (hw _ (List.mem_of_getElem? (i := 68) rfl))) (mvT hZ (hw _ (List.mem_of_getElem? (i := 69) rfl))) (notFace_of_selects (args := #[]) (mvT hZ (hw _ (List.mem_of_getElem? (i := 71) rfl)))) (mvT hZ (hw _ (List.mem_of_getElem? (i := 71) rfl))) (mvT hZ (hw _ (List.mem_of_getElem? (i := 70) rfl))) (by decide) (backOf (W := 0) (rm_tk1 l Z a0 hw [] b407 c1 b411 b456 f1 h468 n0 z478 F474 F475 F470 ht480) hZ (hw _ (List.mem_of_getElem? (i := 72) rfl)) (hw _ (List.mem_of_getElem? (i := 2) rfl)) (by decide) (by decide)) q481a q481c (g := (mkF m 100 #[.val (.long f1), .second, .val (.long f2), .second, .val (.long c1), .second, .val (.long c2), .second, .val (.int fl), .val (.int (1 : Int32)), .val (.int (1 : Int32)), .val (.int (0 : Int32)), .val (.ref b407), .val (.ref b427), .val (.ref b441), .val (.int (1 : Int32)), .unset, .unset, .unset, .unset, .unset, .unset] [(.long c1), (.ref b407)])) rfl (by rw [hml]; rfl) (Steps.refl _) (argsL := [(.long c1)]) (rest := []) (lenOf pd_2 rfl) rfl (by show 2 * 0 + _ ≤ _; exact Nat.le_of_eq rfl) (hb hby at_100) (fun _ _ => ⟨rfl, e468, (by decide : 27 + 0 ≤ _), (by decide : 46 + 0 ≤ _)⟩)
      dsimp only [Pt.U, Pt.locs, Pt.cells, Pt.slots] at X481 l481 y481 z481 st481 hQ481
      subst l481 y481 z481
      obtain ⟨rfl, N481q, e481⟩ := hQ481
      have N481 := Fr.app N468 N481q
      have S483 : ∀ t, Steps p.tables e below (T481.setTop (mkF m 149 #[.val (.long f1), .second, .val (.long f2), .second, .val (.long c1), .second, .val (.long c2), .second, .val (.int fl), .val (.int (1 : Int32)), .val (.int (1 : Int32)), .val (.int (0 : Int32)), .val (.ref b407), .val (.ref b427), .val (.ref b441), .val (.int (1 : Int32)), .val .null, .val (.int (0 : Int32)), .unset, .unset, .unset, .unset] [(.int ((1 : Int32) &&& (1 : Int32)))])) t → Steps p.tables e below (T481.setTop (mkF m 103 #[.val (.long f1), .second, .val (.long f2), .second, .val (.long c1), .second, .val (.long c2), .second, .val (.int fl), .val (.int (1 : Int32)), .val (.int (1 : Int32)), .val (.int (0 : Int32)), .val (.ref b407), .val (.ref b427), .val (.ref b441), .val (.int (1 : Int32)), .unset, .unset, .unset, .unset, .unset, .unset] [.null])) t := by
        intro t kt
        show Steps p.tables e below (T481.setTop (mkF m 103 #[.val (.long f1), .second, .val (.long f2), .second, .val (.long c1), .second, .val (.long c2), .second, .val (.int fl), .val (.int (1 : Int32)), .val (.int (1 : Int32)), .val (.int (0 : Int32)), .val (.ref b407), .val (.ref b427), .val (.ref b441), .val (.int (1 : Int32)), .unset, .unset, .unset, .unset, .unset, .unset] [.null])) _
        refine XS.astore X481.here hx rfl (hb hby at_103) rfl rfl (l' := #[.val (.long f1), .second, .val (.long f2), .second, .val (.long c1), .second, .val (.long c2), .second, .val (.int fl), .val (.int (1 : Int32)), .val (.int (1 : Int32)), .val (.int (0 : Int32)), .val (.ref b407), .val (.ref b427), .val (.ref b441), .val (.int (1 : Int32)), .val .null, .unset, .unset, .unset, .unset, .unset]) rfl ?_
        refine XS.iload X481.here hx rfl (hb hby at_105) rfl ?_
        refine XS.iconst X481.here hx rfl (hb hby at_107) ?_
        refine XS.icmpNo X481.here hx rfl (hb hby at_108) rfl (flt (by decide)).1 ?_
        refine XS.lloadN X481.here hx rfl (hb hby at_111) rfl ?_
        refine XS.lload X481.here hx rfl (hb hby at_112) rfl ?_
        show Steps p.tables e below (T481.setTop (mkF m 114 #[.val (.long f1), .second, .val (.long f2), .second, .val (.long c1), .second, .val (.long c2), .second, .val (.int fl), .val (.int (1 : Int32)), .val (.int (1 : Int32)), .val (.int (0 : Int32)), .val (.ref b407), .val (.ref b427), .val (.ref b441), .val (.int (1 : Int32)), .val .null, .unset, .unset, .unset, .unset, .unset] [(.long c1), (.long f1)])) _
        refine XS.lcmp X481.here hx rfl (hb hby at_114) rfl ?_
        refine XS.ifYes X481.here hx rfl (pc0 := 115) (pc' := 122) rfl (hb hby at_115) rfl ((if0 _ _).trans (tlt ((lw_gt f1 c1).mpr ht480)).2.2.1) (by decide) (by decide) ?_
        refine XS.iconst X481.here hx rfl (hb hby at_122) ?_
        refine XS.istore X481.here hx rfl (hb hby at_123) rfl (l' := #[.val (.long f1), .second, .val (.long f2), .second, .val (.long c1), .second, .val (.long c2), .second, .val (.int fl), .val (.int (1 : Int32)), .val (.int (1 : Int32)), .val (.int (0 : Int32)), .val (.ref b407), .val (.ref b427), .val (.ref b441), .val (.int (1 : Int32)), .val .null, .val (.int (0 : Int32)), .unset, .unset, .unset, .unset]) rfl ?_
        refine XS.iload X481.here hx rfl (hb hby at_125) rfl ?_
        refine XS.aload X481.here hx rfl (hb hby at_127) rfl rfl ?_
        show Steps p.tables e below (T481.setTop (mkF m 129 #[.val (.long f1), .second, .val (.long f2), .second, .val (.long c1), .second, .val (.long c2), .second, .val (.int fl), .val (.int (1 : Int32)), .val (.int (1 : Int32)), .val (.int (0 : Int32)), .val (.ref b407), .val (.ref b427), .val (.ref b441), .val (.int (1 : Int32)), .val .null, .val (.int (0 : Int32)), .unset, .unset, .unset, .unset] [.null, (.int (1 : Int32))])) _
        refine XS.iload X481.here hx rfl (hb hby at_129) rfl ?_
        refine XS.ifYes X481.here hx rfl (pc0 := 131) (pc' := 139) rfl (hb hby at_131) rfl ((if0 _ _).trans (teq rfl).1) (by decide) (by decide) ?_
        refine XS.aconstNull X481.here hx rfl (hb hby at_139) ?_
        refine Jvm.RoadKit.acmp (g := (mkF m 140 #[.val (.long f1), .second, .val (.long f2), .second, .val (.long c1), .second, .val (.long c2), .second, .val (.int fl), .val (.int (1 : Int32)), .val (.int (1 : Int32)), .val (.int (0 : Int32)), .val (.ref b407), .val (.ref b427), .val (.ref b441), .val (.int (1 : Int32)), .val .null, .val (.int (0 : Int32)), .unset, .unset, .unset, .unset] [.null, .null, (.int (1 : Int32))])) X481 hx rfl rfl rfl (pc0 := 140) (pc' := 143) (same := true) rfl (hb hby at_140) rfl (decide_eq_true rfl) (by decide) (by decide) ?_
        refine XS.iconst X481.here hx rfl (hb hby at_143) ?_
        refine XS.goto X481.here hx rfl (pc0 := 144) (pc' := 148) rfl (hb hby at_144) (by decide) (by decide) ?_
        show Steps p.tables e below (T481.setTop (mkF m 148 #[.val (.long f1), .second, .val (.long f2), .second, .val (.long c1), .second, .val (.long c2), .second, .val (.int fl), .val (.int (1 : Int32)), .val (.int (1 : Int32)), .val (.int (0 : Int32)), .val (.ref b407), .val (.ref b427), .val (.ref b441), .val (.int (1 : Int32)), .val .null, .val (.int (0 : Int32)), .unset, .unset, .unset, .unset] [(.int (1 : Int32)), (.int (1 : Int32))])) _
        refine XS.iand X481.here hx rfl (hb hby at_148) rfl ?_
        exact kt
      have S484 : ∀ t, Steps p.tables e below (T481.setTop (mkF m 149 #[.val (.long f1), .second, .val (.long f2), .second, .val (.long c1), .second, .val (.long c2), .second, .val (.int fl), .val (.int (1 : Int32)), .val (.int (1 : Int32)), .val (.int (0 : Int32)), .val (.ref b407), .val (.ref b427), .val (.ref b441), .val (.int (1 : Int32)), .val .null, .val (.int (0 : Int32)), .unset, .unset, .unset, .unset] [(.int (1 : Int32))])) t → Steps p.tables e below (T481.setTop (mkF m 149 #[.val (.long f1), .second, .val (.long f2), .second, .val (.long c1), .second, .val (.long c2), .second, .val (.int fl), .val (.int (1 : Int32)), .val (.int (1 : Int32)), .val (.int (0 : Int32)), .val (.ref b407), .val (.ref b427), .val (.ref b441), .val (.int (1 : Int32)), .val .null, .val (.int (0 : Int32)), .unset, .unset, .unset, .unset] [(.int ((1 : Int32) &&& (1 : Int32)))])) t := fun t k => by rw [(show ((1 : Int32) &&& (1 : Int32)) = (1 : Int32) from by decide)]; exact k
      have S485 : ∀ t, Steps p.tables e below (T481.setTop (mkF m 180 #[.val (.long f1), .second, .val (.long f2), .second, .val (.long c1), .second, .val (.long c2), .second, .val (.int fl), .val (.int (1 : Int32)), .val (.int (1 : Int32)), .val (.int (0 : Int32)), .val (.ref b407), .val (.ref b427), .val (.ref b441), .val (.int (1 : Int32)), .val .null, .val (.int (0 : Int32)), .val (.int (0 : Int32)), .unset, .unset, .unset] [(.ref b407), (.int (1 : Int32))])) t → Steps p.tables e below (T481.setTop (mkF m 149 #[.val (.long f1), .second, .val (.long f2), .second, .val (.long c1), .second, .val (.long c2), .second, .val (.int fl), .val (.int (1 : Int32)), .val (.int (1 : Int32)), .val (.int (0 : Int32)), .val (.ref b407), .val (.ref b427), .val (.ref b441), .val (.int (1 : Int32)), .val .null, .val (.int (0 : Int32)), .unset, .unset, .unset, .unset] [(.int (1 : Int32))])) t := by
        intro t kt
        show Steps p.tables e below (T481.setTop (mkF m 149 #[.val (.long f1), .second, .val (.long f2), .second, .val (.long c1), .second, .val (.long c2), .second, .val (.int fl), .val (.int (1 : Int32)), .val (.int (1 : Int32)), .val (.int (0 : Int32)), .val (.ref b407), .val (.ref b427), .val (.ref b441), .val (.int (1 : Int32)), .val .null, .val (.int (0 : Int32)), .unset, .unset, .unset, .unset] [(.int (1 : Int32))])) _
        refine XS.istore X481.here hx rfl (hb hby at_149) rfl (l' := #[.val (.long f1), .second, .val (.long f2), .second, .val (.long c1), .second, .val (.long c2), .second, .val (.int fl), .val (.int (1 : Int32)), .val (.int (1 : Int32)), .val (.int (0 : Int32)), .val (.ref b407), .val (.ref b427), .val (.ref b441), .val (.int (1 : Int32)), .val .null, .val (.int (0 : Int32)), .unset, .unset, .unset, .unset]) rfl ?_
        refine XS.iload X481.here hx rfl (hb hby at_151) rfl ?_
        refine XS.ifYes X481.here hx rfl (pc0 := 153) (pc' := 164) rfl (hb hby at_153) rfl ((if0 _ _).trans (teq rfl).1) (by decide) (by decide) ?_
        refine XS.iload X481.here hx rfl (hb hby at_164) rfl ?_
        refine XS.ifYes X481.here hx rfl (pc0 := 166) (pc' := 173) rfl (hb hby at_166) rfl ((if0 _ _).trans (teq rfl).1) (by decide) (by decide) ?_
        refine XS.iconst X481.here hx rfl (hb hby at_173) ?_
        show Steps p.tables e below (T481.setTop (mkF m 174 #[.val (.long f1), .second, .val (.long f2), .second, .val (.long c1), .second, .val (.long c2), .second, .val (.int fl), .val (.int (1 : Int32)), .val (.int (1 : Int32)), .val (.int (0 : Int32)), .val (.ref b407), .val (.ref b427), .val (.ref b441), .val (.int (1 : Int32)), .val .null, .val (.int (0 : Int32)), .unset, .unset, .unset, .unset] [(.int (0 : Int32))])) _
        refine XS.istore X481.here hx rfl (hb hby at_174) rfl (l' := #[.val (.long f1), .second, .val (.long f2), .second, .val (.long c1), .second, .val (.long c2), .second, .val (.int fl), .val (.int (1 : Int32)), .val (.int (1 : Int32)), .val (.int (0 : Int32)), .val (.ref b407), .val (.ref b427), .val (.ref b441), .val (.int (1 : Int32)), .val .null, .val (.int (0 : Int32)), .val (.int (0 : Int32)), .unset, .unset, .unset]) rfl ?_
        refine XS.iload X481.here hx rfl (hb hby at_176) rfl ?_
        refine XS.aload X481.here hx rfl (hb hby at_178) rfl rfl ?_
        exact kt
      obtain ⟨cq486, kq486, q486a, q486b, q486c⟩ := isOf hZ e481 f482
      obtain ⟨_, _, ⟨T486, L486, k486, n486⟩, -, X486, ⟨Lc486, hQ486, l486, y486, z486⟩, st486⟩ := X481.virtualBack hx (y := (⟨"tidegate/operator/Crossings", "waiting", "()Z"⟩ : MethodName)) (z := (⟨"tidegate/operator/Crossings", "waiting", "()Z"⟩ : MethodName)) hown (mvT hZ (hw _ (List.mem_of_getElem? (i := 74) rfl))) (mvT hZ (hw _ (List.mem_of_getElem? (i := 75) rfl))) (notFace_of_selects (args := #[]) (mvT hZ (hw _ (List.mem_of_getElem? (i := 77) rfl)))) (mvT hZ (hw _ (List.mem_of_getElem? (i := 77) rfl))) (mvT hZ (hw _ (List.mem_of_getElem? (i := 76) rfl))) (by decide) (backOf (W := 1) (rm_wt1 l Z a0 hw [] b407 b411 b456 h468 n0 z478 F474 F475) hZ (hw _ (List.mem_of_getElem? (i := 78) rfl)) (hw _ (List.mem_of_getElem? (i := 2) rfl)) (by decide) (by decide)) q486a q486c (g := (mkF m 180 #[.val (.long f1), .second, .val (.long f2), .second, .val (.long c1), .second, .val (.long c2), .second, .val (.int fl), .val (.int (1 : Int32)), .val (.int (1 : Int32)), .val (.int (0 : Int32)), .val (.ref b407), .val (.ref b427), .val (.ref b441), .val (.int (1 : Int32)), .val .null, .val (.int (0 : Int32)), .val (.int (0 : Int32)), .unset, .unset, .unset] [(.ref b407), (.int (1 : Int32))])) rfl (by rw [hml]; rfl) (Steps.refl _) (argsL := []) (rest := [(.int (1 : Int32))]) (lenOf pd_3 rfl) rfl (by show 2 * 0 + _ ≤ _; exact Nat.le_of_eq rfl) (hb hby at_180) (fun _ _ => ⟨rfl, e481, (by decide : 27 + 0 ≤ _), (by decide : 46 + 0 ≤ _)⟩)
      dsimp only [Pt.U, Pt.locs, Pt.cells, Pt.slots] at X486 l486 y486 z486 st486 hQ486
      subst l486 y486 z486
      obtain ⟨rfl, N486q, e486⟩ := hQ486
      have N486 := Fr.app N481 N486q
      have S487 : ∀ t, Steps p.tables e below (T486.setTop (mkF m 204 #[.val (.long f1), .second, .val (.long f2), .second, .val (.long c1), .second, .val (.long c2), .second, .val (.int fl), .val (.int (1 : Int32)), .val (.int (1 : Int32)), .val (.int (0 : Int32)), .val (.ref b407), .val (.ref b427), .val (.ref b441), .val (.int (1 : Int32)), .val .null, .val (.int (0 : Int32)), .val (.int (0 : Int32)), .unset, .unset, .unset] [(.int ((1 : Int32) &&& (1 : Int32)))])) t → Steps p.tables e below (T486.setTop (mkF m 183 #[.val (.long f1), .second, .val (.long f2), .second, .val (.long c1), .second, .val (.long c2), .second, .val (.int fl), .val (.int (1 : Int32)), .val (.int (1 : Int32)), .val (.int (0 : Int32)), .val (.ref b407), .val (.ref b427), .val (.ref b441), .val (.int (1 : Int32)), .val .null, .val (.int (0 : Int32)), .val (.int (0 : Int32)), .unset, .unset, .unset] [(.int (1 : Int32)), (.int (1 : Int32))])) t := by
        intro t kt
        show Steps p.tables e below (T486.setTop (mkF m 183 #[.val (.long f1), .second, .val (.long f2), .second, .val (.long c1), .second, .val (.long c2), .second, .val (.int fl), .val (.int (1 : Int32)), .val (.int (1 : Int32)), .val (.int (0 : Int32)), .val (.ref b407), .val (.ref b427), .val (.ref b441), .val (.int (1 : Int32)), .val .null, .val (.int (0 : Int32)), .val (.int (0 : Int32)), .unset, .unset, .unset] [(.int (1 : Int32)), (.int (1 : Int32))])) _
        refine XS.iload X486.here hx rfl (hb hby at_183) rfl ?_
        refine XS.iload X486.here hx rfl (hb hby at_185) rfl ?_
        refine XS.icmpNo X486.here hx rfl (hb hby at_187) rfl (tlt (by decide)).2.1 ?_
        refine XS.iconst X486.here hx rfl (hb hby at_190) ?_
        refine XS.goto X486.here hx rfl (pc0 := 191) (pc' := 195) rfl (hb hby at_191) (by decide) (by decide) ?_
        refine XS.icmpNo X486.here hx rfl (hb hby at_195) rfl (teq rfl).2 ?_
        show Steps p.tables e below (T486.setTop (mkF m 198 #[.val (.long f1), .second, .val (.long f2), .second, .val (.long c1), .second, .val (.long c2), .second, .val (.int fl), .val (.int (1 : Int32)), .val (.int (1 : Int32)), .val (.int (0 : Int32)), .val (.ref b407), .val (.ref b427), .val (.ref b441), .val (.int (1 : Int32)), .val .null, .val (.int (0 : Int32)), .val (.int (0 : Int32)), .unset, .unset, .unset] [(.int (1 : Int32))])) _
        refine XS.iconst X486.here hx rfl (hb hby at_198) ?_
        refine XS.goto X486.here hx rfl (pc0 := 199) (pc' := 203) rfl (hb hby at_199) (by decide) (by decide) ?_
        refine XS.iand X486.here hx rfl (hb hby at_203) rfl ?_
        exact kt
      have S488 : ∀ t, Steps p.tables e below (T486.setTop (mkF m 204 #[.val (.long f1), .second, .val (.long f2), .second, .val (.long c1), .second, .val (.long c2), .second, .val (.int fl), .val (.int (1 : Int32)), .val (.int (1 : Int32)), .val (.int (0 : Int32)), .val (.ref b407), .val (.ref b427), .val (.ref b441), .val (.int (1 : Int32)), .val .null, .val (.int (0 : Int32)), .val (.int (0 : Int32)), .unset, .unset, .unset] [(.int (1 : Int32))])) t → Steps p.tables e below (T486.setTop (mkF m 204 #[.val (.long f1), .second, .val (.long f2), .second, .val (.long c1), .second, .val (.long c2), .second, .val (.int fl), .val (.int (1 : Int32)), .val (.int (1 : Int32)), .val (.int (0 : Int32)), .val (.ref b407), .val (.ref b427), .val (.ref b441), .val (.int (1 : Int32)), .val .null, .val (.int (0 : Int32)), .val (.int (0 : Int32)), .unset, .unset, .unset] [(.int ((1 : Int32) &&& (1 : Int32)))])) t := fun t k => by rw [(show ((1 : Int32) &&& (1 : Int32)) = (1 : Int32) from by decide)]; exact k
      have S489 : ∀ t, Steps p.tables e below (T486.setTop (mkF m 210 #[.val (.long f1), .second, .val (.long f2), .second, .val (.long c1), .second, .val (.long c2), .second, .val (.int fl), .val (.int (1 : Int32)), .val (.int (1 : Int32)), .val (.int (0 : Int32)), .val (.ref b407), .val (.ref b427), .val (.ref b441), .val (.int (1 : Int32)), .val .null, .val (.int (0 : Int32)), .val (.int (0 : Int32)), .unset, .unset, .unset] [(.long c2), (.ref b407)])) t → Steps p.tables e below (T486.setTop (mkF m 204 #[.val (.long f1), .second, .val (.long f2), .second, .val (.long c1), .second, .val (.long c2), .second, .val (.int fl), .val (.int (1 : Int32)), .val (.int (1 : Int32)), .val (.int (0 : Int32)), .val (.ref b407), .val (.ref b427), .val (.ref b441), .val (.int (1 : Int32)), .val .null, .val (.int (0 : Int32)), .val (.int (0 : Int32)), .unset, .unset, .unset] [(.int (1 : Int32))])) t := by
        intro t kt
        show Steps p.tables e below (T486.setTop (mkF m 204 #[.val (.long f1), .second, .val (.long f2), .second, .val (.long c1), .second, .val (.long c2), .second, .val (.int fl), .val (.int (1 : Int32)), .val (.int (1 : Int32)), .val (.int (0 : Int32)), .val (.ref b407), .val (.ref b427), .val (.ref b441), .val (.int (1 : Int32)), .val .null, .val (.int (0 : Int32)), .val (.int (0 : Int32)), .unset, .unset, .unset] [(.int (1 : Int32))])) _
        refine XS.istore X486.here hx rfl (hb hby at_204) rfl (l' := #[.val (.long f1), .second, .val (.long f2), .second, .val (.long c1), .second, .val (.long c2), .second, .val (.int fl), .val (.int (1 : Int32)), .val (.int (1 : Int32)), .val (.int (0 : Int32)), .val (.ref b407), .val (.ref b427), .val (.ref b441), .val (.int (1 : Int32)), .val .null, .val (.int (0 : Int32)), .val (.int (0 : Int32)), .unset, .unset, .unset]) rfl ?_
        refine XS.aload X486.here hx rfl (hb hby at_206) rfl rfl ?_
        refine XS.lload X486.here hx rfl (hb hby at_208) rfl ?_
        exact kt
      by_cases ht490 : c2 < f1
      · obtain ⟨cq491, kq491, q491a, q491b, q491c⟩ := isOf hZ e486 f482
        obtain ⟨_, _, ⟨T491, L491, k491, n491⟩, -, X491, ⟨Lc491, hQ491, l491, y491, z491⟩, st491⟩ := X486.virtualBack hx (y := (⟨"tidegate/operator/Crossings", "take", "(J)Ltidegate/operator/StageFunctions;"⟩ : MethodName)) (z := (⟨"tidegate/operator/Crossings", "take", "(J)Ltidegate/operator/StageFunctions;"⟩ : MethodName)) hown (mvT hZ (hw _ (List.mem_of_getElem? (i := 68) rfl))) (mvT hZ (hw _ (List.mem_of_getElem? (i := 69) rfl))) (notFace_of_selects (args := #[]) (mvT hZ (hw _ (List.mem_of_getElem? (i := 71) rfl)))) (mvT hZ (hw _ (List.mem_of_getElem? (i := 71) rfl))) (mvT hZ (hw _ (List.mem_of_getElem? (i := 70) rfl))) (by decide) (backOf (W := 0) (rm_tk1 l Z a0 hw [] b407 c2 b411 b456 f1 h468 n0 z478 F474 F475 F470 ht490) hZ (hw _ (List.mem_of_getElem? (i := 72) rfl)) (hw _ (List.mem_of_getElem? (i := 2) rfl)) (by decide) (by decide)) q491a q491c (g := (mkF m 210 #[.val (.long f1), .second, .val (.long f2), .second, .val (.long c1), .second, .val (.long c2), .second, .val (.int fl), .val (.int (1 : Int32)), .val (.int (1 : Int32)), .val (.int (0 : Int32)), .val (.ref b407), .val (.ref b427), .val (.ref b441), .val (.int (1 : Int32)), .val .null, .val (.int (0 : Int32)), .val (.int (0 : Int32)), .unset, .unset, .unset] [(.long c2), (.ref b407)])) rfl (by rw [hml]; rfl) (Steps.refl _) (argsL := [(.long c2)]) (rest := []) (lenOf pd_2 rfl) rfl (by show 2 * 0 + _ ≤ _; exact Nat.le_of_eq rfl) (hb hby at_210) (fun _ _ => ⟨rfl, e486, (by decide : 27 + 0 ≤ _), (by decide : 46 + 0 ≤ _)⟩)
        dsimp only [Pt.U, Pt.locs, Pt.cells, Pt.slots] at X491 l491 y491 z491 st491 hQ491
        subst l491 y491 z491
        obtain ⟨rfl, N491q, e491⟩ := hQ491
        have N491 := Fr.app N486 N491q
        have S492 : ∀ t, Steps p.tables e below (T491.setTop (mkF m 280 #[.val (.long f1), .second, .val (.long f2), .second, .val (.long c1), .second, .val (.long c2), .second, .val (.int fl), .val (.int (1 : Int32)), .val (.int (1 : Int32)), .val (.int (0 : Int32)), .val (.ref b407), .val (.ref b427), .val (.ref b441), .val (.int (1 : Int32)), .val .null, .val (.int (0 : Int32)), .val (.int (0 : Int32)), .val .null, .val .null, .unset] [(.int ((1 : Int32) &&& (1 : Int32)))])) t → Steps p.tables e below (T491.setTop (mkF m 213 #[.val (.long f1), .second, .val (.long f2), .second, .val (.long c1), .second, .val (.long c2), .second, .val (.int fl), .val (.int (1 : Int32)), .val (.int (1 : Int32)), .val (.int (0 : Int32)), .val (.ref b407), .val (.ref b427), .val (.ref b441), .val (.int (1 : Int32)), .val .null, .val (.int (0 : Int32)), .val (.int (0 : Int32)), .unset, .unset, .unset] [.null])) t := by
          intro t kt
          show Steps p.tables e below (T491.setTop (mkF m 213 #[.val (.long f1), .second, .val (.long f2), .second, .val (.long c1), .second, .val (.long c2), .second, .val (.int fl), .val (.int (1 : Int32)), .val (.int (1 : Int32)), .val (.int (0 : Int32)), .val (.ref b407), .val (.ref b427), .val (.ref b441), .val (.int (1 : Int32)), .val .null, .val (.int (0 : Int32)), .val (.int (0 : Int32)), .unset, .unset, .unset] [.null])) _
          refine XS.astore X491.here hx rfl (hb hby at_213) rfl rfl (l' := #[.val (.long f1), .second, .val (.long f2), .second, .val (.long c1), .second, .val (.long c2), .second, .val (.int fl), .val (.int (1 : Int32)), .val (.int (1 : Int32)), .val (.int (0 : Int32)), .val (.ref b407), .val (.ref b427), .val (.ref b441), .val (.int (1 : Int32)), .val .null, .val (.int (0 : Int32)), .val (.int (0 : Int32)), .val .null, .unset, .unset]) rfl ?_
          refine XS.iload X491.here hx rfl (hb hby at_215) rfl ?_
          refine XS.ifYes X491.here hx rfl (pc0 := 217) (pc' := 244) rfl (hb hby at_217) rfl ((if0 _ _).trans (teq rfl).1) (by decide) (by decide) ?_
          refine XS.iload X491.here hx rfl (hb hby at_244) rfl ?_
          refine XS.iconst X491.here hx rfl (hb hby at_246) ?_
          refine XS.icmpNo X491.here hx rfl (hb hby at_247) rfl (flt (by decide)).1 ?_
          show Steps p.tables e below (T491.setTop (mkF m 250 #[.val (.long f1), .second, .val (.long f2), .second, .val (.long c1), .second, .val (.long c2), .second, .val (.int fl), .val (.int (1 : Int32)), .val (.int (1 : Int32)), .val (.int (0 : Int32)), .val (.ref b407), .val (.ref b427), .val (.ref b441), .val (.int (1 : Int32)), .val .null, .val (.int (0 : Int32)), .val (.int (0 : Int32)), .val .null, .unset, .unset] [])) _
          refine XS.lloadN X491.here hx rfl (hb hby at_250) rfl ?_
          refine XS.lload X491.here hx rfl (hb hby at_251) rfl ?_
          refine XS.lcmp X491.here hx rfl (hb hby at_253) rfl ?_
          refine XS.ifYes X491.here hx rfl (pc0 := 254) (pc' := 262) rfl (hb hby at_254) rfl ((if0 _ _).trans (tlt ((lw_gt f1 c2).mpr ht490)).2.2.1) (by decide) (by decide) ?_
          refine XS.aconstNull X491.here hx rfl (hb hby at_262) ?_
          refine XS.astore X491.here hx rfl (hb hby at_263) rfl rfl (l' := #[.val (.long f1), .second, .val (.long f2), .second, .val (.long c1), .second, .val (.long c2), .second, .val (.int fl), .val (.int (1 : Int32)), .val (.int (1 : Int32)), .val (.int (0 : Int32)), .val (.ref b407), .val (.ref b427), .val (.ref b441), .val (.int (1 : Int32)), .val .null, .val (.int (0 : Int32)), .val (.int (0 : Int32)), .val .null, .val .null, .unset]) rfl ?_
          show Steps p.tables e below (T491.setTop (mkF m 265 #[.val (.long f1), .second, .val (.long f2), .second, .val (.long c1), .second, .val (.long c2), .second, .val (.int fl), .val (.int (1 : Int32)), .val (.int (1 : Int32)), .val (.int (0 : Int32)), .val (.ref b407), .val (.ref b427), .val (.ref b441), .val (.int (1 : Int32)), .val .null, .val (.int (0 : Int32)), .val (.int (0 : Int32)), .val .null, .val .null, .unset] [])) _
          refine XS.iload X491.here hx rfl (hb hby at_265) rfl ?_
          refine XS.aload X491.here hx rfl (hb hby at_267) rfl rfl ?_
          refine XS.aload X491.here hx rfl (hb hby at_269) rfl rfl ?_
          refine Jvm.RoadKit.acmp (g := (mkF m 271 #[.val (.long f1), .second, .val (.long f2), .second, .val (.long c1), .second, .val (.long c2), .second, .val (.int fl), .val (.int (1 : Int32)), .val (.int (1 : Int32)), .val (.int (0 : Int32)), .val (.ref b407), .val (.ref b427), .val (.ref b441), .val (.int (1 : Int32)), .val .null, .val (.int (0 : Int32)), .val (.int (0 : Int32)), .val .null, .val .null, .unset] [.null, .null, (.int (1 : Int32))])) X491 hx rfl rfl rfl (pc0 := 271) (pc' := 274) (same := true) rfl (hb hby at_271) rfl (decide_eq_true rfl) (by decide) (by decide) ?_
          refine XS.iconst X491.here hx rfl (hb hby at_274) ?_
          refine XS.goto X491.here hx rfl (pc0 := 275) (pc' := 279) rfl (hb hby at_275) (by decide) (by decide) ?_
          show Steps p.tables e below (T491.setTop (mkF m 279 #[.val (.long f1), .second, .val (.long f2), .second, .val (.long c1), .second, .val (.long c2), .second, .val (.int fl), .val (.int (1 : Int32)), .val (.int (1 : Int32)), .val (.int (0 : Int32)), .val (.ref b407), .val (.ref b427), .val (.ref b441), .val (.int (1 : Int32)), .val .null, .val (.int (0 : Int32)), .val (.int (0 : Int32)), .val .null, .val .null, .unset] [(.int (1 : Int32)), (.int (1 : Int32))])) _
          refine XS.iand X491.here hx rfl (hb hby at_279) rfl ?_
          exact kt
        have S493 : ∀ t, Steps p.tables e below (T491.setTop (mkF m 280 #[.val (.long f1), .second, .val (.long f2), .second, .val (.long c1), .second, .val (.long c2), .second, .val (.int fl), .val (.int (1 : Int32)), .val (.int (1 : Int32)), .val (.int (0 : Int32)), .val (.ref b407), .val (.ref b427), .val (.ref b441), .val (.int (1 : Int32)), .val .null, .val (.int (0 : Int32)), .val (.int (0 : Int32)), .val .null, .val .null, .unset] [(.int (1 : Int32))])) t → Steps p.tables e below (T491.setTop (mkF m 280 #[.val (.long f1), .second, .val (.long f2), .second, .val (.long c1), .second, .val (.long c2), .second, .val (.int fl), .val (.int (1 : Int32)), .val (.int (1 : Int32)), .val (.int (0 : Int32)), .val (.ref b407), .val (.ref b427), .val (.ref b441), .val (.int (1 : Int32)), .val .null, .val (.int (0 : Int32)), .val (.int (0 : Int32)), .val .null, .val .null, .unset] [(.int ((1 : Int32) &&& (1 : Int32)))])) t := fun t k => by rw [(show ((1 : Int32) &&& (1 : Int32)) = (1 : Int32) from by decide)]; exact k
        have S494 : ∀ t, Steps p.tables e below (T491.setTop (mkF m 295 #[.val (.long f1), .second, .val (.long f2), .second, .val (.long c1), .second, .val (.long c2), .second, .val (.int fl), .val (.int (1 : Int32)), .val (.int (1 : Int32)), .val (.int (0 : Int32)), .val (.ref b407), .val (.ref b427), .val (.ref b441), .val (.int (1 : Int32)), .val .null, .val (.int (0 : Int32)), .val (.int (0 : Int32)), .val .null, .val .null, .unset] [(.int ((0 : Int32) + (0 : Int32)))])) t → Steps p.tables e below (T491.setTop (mkF m 280 #[.val (.long f1), .second, .val (.long f2), .second, .val (.long c1), .second, .val (.long c2), .second, .val (.int fl), .val (.int (1 : Int32)), .val (.int (1 : Int32)), .val (.int (0 : Int32)), .val (.ref b407), .val (.ref b427), .val (.ref b441), .val (.int (1 : Int32)), .val .null, .val (.int (0 : Int32)), .val (.int (0 : Int32)), .val .null, .val .null, .unset] [(.int (1 : Int32))])) t := by
          intro t kt
          show Steps p.tables e below (T491.setTop (mkF m 280 #[.val (.long f1), .second, .val (.long f2), .second, .val (.long c1), .second, .val (.long c2), .second, .val (.int fl), .val (.int (1 : Int32)), .val (.int (1 : Int32)), .val (.int (0 : Int32)), .val (.ref b407), .val (.ref b427), .val (.ref b441), .val (.int (1 : Int32)), .val .null, .val (.int (0 : Int32)), .val (.int (0 : Int32)), .val .null, .val .null, .unset] [(.int (1 : Int32))])) _
          refine XS.istore X491.here hx rfl (hb hby at_280) rfl (l' := #[.val (.long f1), .second, .val (.long f2), .second, .val (.long c1), .second, .val (.long c2), .second, .val (.int fl), .val (.int (1 : Int32)), .val (.int (1 : Int32)), .val (.int (0 : Int32)), .val (.ref b407), .val (.ref b427), .val (.ref b441), .val (.int (1 : Int32)), .val .null, .val (.int (0 : Int32)), .val (.int (0 : Int32)), .val .null, .val .null, .unset]) rfl ?_
          refine XS.iload X491.here hx rfl (hb hby at_282) rfl ?_
          refine XS.aload X491.here hx rfl (hb hby at_284) rfl rfl ?_
          refine XS.ifnullYes X491.here hx rfl (pc0 := 286) (pc' := 293) rfl (hb hby at_286) rfl (by decide) (by decide) ?_
          refine XS.iconst X491.here hx rfl (hb hby at_293) ?_
          refine XS.iadd X491.here hx rfl (hb hby at_294) rfl ?_
          exact kt
        have S495 : ∀ t, Steps p.tables e below (T491.setTop (mkF m 295 #[.val (.long f1), .second, .val (.long f2), .second, .val (.long c1), .second, .val (.long c2), .second, .val (.int fl), .val (.int (1 : Int32)), .val (.int (1 : Int32)), .val (.int (0 : Int32)), .val (.ref b407), .val (.ref b427), .val (.ref b441), .val (.int (1 : Int32)), .val .null, .val (.int (0 : Int32)), .val (.int (0 : Int32)), .val .null, .val .null, .unset] [(.int (0 : Int32))])) t → Steps p.tables e below (T491.setTop (mkF m 295 #[.val (.long f1), .second, .val (.long f2), .second, .val (.long c1), .second, .val (.long c2), .second, .val (.int fl), .val (.int (1 : Int32)), .val (.int (1 : Int32)), .val (.int (0 : Int32)), .val (.ref b407), .val (.ref b427), .val (.ref b441), .val (.int (1 : Int32)), .val .null, .val (.int (0 : Int32)), .val (.int (0 : Int32)), .val .null, .val .null, .unset] [(.int ((0 : Int32) + (0 : Int32)))])) t := fun t k => by rw [(show ((0 : Int32) + (0 : Int32)) = (0 : Int32) from by decide)]; exact k
        have S496 : ∀ t, Steps p.tables e below (T491.setTop (mkF m 301 #[.val (.long f1), .second, .val (.long f2), .second, .val (.long c1), .second, .val (.long c2), .second, .val (.int fl), .val (.int (1 : Int32)), .val (.int (1 : Int32)), .val (.int (0 : Int32)), .val (.ref b407), .val (.ref b427), .val (.ref b441), .val (.int (1 : Int32)), .val .null, .val (.int (0 : Int32)), .val (.int (0 : Int32)), .val .null, .val .null, .val (.int (0 : Int32))] [(.ref b407), (.int (1 : Int32))])) t → Steps p.tables e below (T491.setTop (mkF m 295 #[.val (.long f1), .second, .val (.long f2), .second, .val (.long c1), .second, .val (.long c2), .second, .val (.int fl), .val (.int (1 : Int32)), .val (.int (1 : Int32)), .val (.int (0 : Int32)), .val (.ref b407), .val (.ref b427), .val (.ref b441), .val (.int (1 : Int32)), .val .null, .val (.int (0 : Int32)), .val (.int (0 : Int32)), .val .null, .val .null, .unset] [(.int (0 : Int32))])) t := by
          intro t kt
          show Steps p.tables e below (T491.setTop (mkF m 295 #[.val (.long f1), .second, .val (.long f2), .second, .val (.long c1), .second, .val (.long c2), .second, .val (.int fl), .val (.int (1 : Int32)), .val (.int (1 : Int32)), .val (.int (0 : Int32)), .val (.ref b407), .val (.ref b427), .val (.ref b441), .val (.int (1 : Int32)), .val .null, .val (.int (0 : Int32)), .val (.int (0 : Int32)), .val .null, .val .null, .unset] [(.int (0 : Int32))])) _
          refine XS.istore X491.here hx rfl (hb hby at_295) rfl (l' := #[.val (.long f1), .second, .val (.long f2), .second, .val (.long c1), .second, .val (.long c2), .second, .val (.int fl), .val (.int (1 : Int32)), .val (.int (1 : Int32)), .val (.int (0 : Int32)), .val (.ref b407), .val (.ref b427), .val (.ref b441), .val (.int (1 : Int32)), .val .null, .val (.int (0 : Int32)), .val (.int (0 : Int32)), .val .null, .val .null, .val (.int (0 : Int32))]) rfl ?_
          refine XS.iload X491.here hx rfl (hb hby at_297) rfl ?_
          refine XS.aload X491.here hx rfl (hb hby at_299) rfl rfl ?_
          exact kt
        obtain ⟨cq497, kq497, q497a, q497b, q497c⟩ := isOf hZ e491 f482
        obtain ⟨_, _, ⟨T497, L497, k497, n497⟩, -, X497, ⟨Lc497, hQ497, l497, y497, z497⟩, st497⟩ := X491.virtualBack hx (y := (⟨"tidegate/operator/Crossings", "waiting", "()Z"⟩ : MethodName)) (z := (⟨"tidegate/operator/Crossings", "waiting", "()Z"⟩ : MethodName)) hown (mvT hZ (hw _ (List.mem_of_getElem? (i := 74) rfl))) (mvT hZ (hw _ (List.mem_of_getElem? (i := 75) rfl))) (notFace_of_selects (args := #[]) (mvT hZ (hw _ (List.mem_of_getElem? (i := 77) rfl)))) (mvT hZ (hw _ (List.mem_of_getElem? (i := 77) rfl))) (mvT hZ (hw _ (List.mem_of_getElem? (i := 76) rfl))) (by decide) (backOf (W := 1) (rm_wt1 l Z a0 hw [] b407 b411 b456 h468 n0 z478 F474 F475) hZ (hw _ (List.mem_of_getElem? (i := 78) rfl)) (hw _ (List.mem_of_getElem? (i := 2) rfl)) (by decide) (by decide)) q497a q497c (g := (mkF m 301 #[.val (.long f1), .second, .val (.long f2), .second, .val (.long c1), .second, .val (.long c2), .second, .val (.int fl), .val (.int (1 : Int32)), .val (.int (1 : Int32)), .val (.int (0 : Int32)), .val (.ref b407), .val (.ref b427), .val (.ref b441), .val (.int (1 : Int32)), .val .null, .val (.int (0 : Int32)), .val (.int (0 : Int32)), .val .null, .val .null, .val (.int (0 : Int32))] [(.ref b407), (.int (1 : Int32))])) rfl (by rw [hml]; rfl) (Steps.refl _) (argsL := []) (rest := [(.int (1 : Int32))]) (lenOf pd_3 rfl) rfl (by show 2 * 0 + _ ≤ _; exact Nat.le_of_eq rfl) (hb hby at_301) (fun _ _ => ⟨rfl, e491, (by decide : 27 + 0 ≤ _), (by decide : 46 + 0 ≤ _)⟩)
        dsimp only [Pt.U, Pt.locs, Pt.cells, Pt.slots] at X497 l497 y497 z497 st497 hQ497
        subst l497 y497 z497
        obtain ⟨rfl, N497q, e497⟩ := hQ497
        have N497 := Fr.app N491 N497q
        have S498 : ∀ t, Steps p.tables e below (T497.setTop (mkF m 325 #[.val (.long f1), .second, .val (.long f2), .second, .val (.long c1), .second, .val (.long c2), .second, .val (.int fl), .val (.int (1 : Int32)), .val (.int (1 : Int32)), .val (.int (0 : Int32)), .val (.ref b407), .val (.ref b427), .val (.ref b441), .val (.int (1 : Int32)), .val .null, .val (.int (0 : Int32)), .val (.int (0 : Int32)), .val .null, .val .null, .val (.int (0 : Int32))] [(.int ((1 : Int32) &&& (1 : Int32)))])) t → Steps p.tables e below (T497.setTop (mkF m 304 #[.val (.long f1), .second, .val (.long f2), .second, .val (.long c1), .second, .val (.long c2), .second, .val (.int fl), .val (.int (1 : Int32)), .val (.int (1 : Int32)), .val (.int (0 : Int32)), .val (.ref b407), .val (.ref b427), .val (.ref b441), .val (.int (1 : Int32)), .val .null, .val (.int (0 : Int32)), .val (.int (0 : Int32)), .val .null, .val .null, .val (.int (0 : Int32))] [(.int (1 : Int32)), (.int (1 : Int32))])) t := by
          intro t kt
          show Steps p.tables e below (T497.setTop (mkF m 304 #[.val (.long f1), .second, .val (.long f2), .second, .val (.long c1), .second, .val (.long c2), .second, .val (.int fl), .val (.int (1 : Int32)), .val (.int (1 : Int32)), .val (.int (0 : Int32)), .val (.ref b407), .val (.ref b427), .val (.ref b441), .val (.int (1 : Int32)), .val .null, .val (.int (0 : Int32)), .val (.int (0 : Int32)), .val .null, .val .null, .val (.int (0 : Int32))] [(.int (1 : Int32)), (.int (1 : Int32))])) _
          refine XS.iload X497.here hx rfl (hb hby at_304) rfl ?_
          refine XS.iload X497.here hx rfl (hb hby at_306) rfl ?_
          refine XS.icmpNo X497.here hx rfl (hb hby at_308) rfl (tlt (by decide)).2.1 ?_
          refine XS.iconst X497.here hx rfl (hb hby at_311) ?_
          refine XS.goto X497.here hx rfl (pc0 := 312) (pc' := 316) rfl (hb hby at_312) (by decide) (by decide) ?_
          refine XS.icmpNo X497.here hx rfl (hb hby at_316) rfl (teq rfl).2 ?_
          show Steps p.tables e below (T497.setTop (mkF m 319 #[.val (.long f1), .second, .val (.long f2), .second, .val (.long c1), .second, .val (.long c2), .second, .val (.int fl), .val (.int (1 : Int32)), .val (.int (1 : Int32)), .val (.int (0 : Int32)), .val (.ref b407), .val (.ref b427), .val (.ref b441), .val (.int (1 : Int32)), .val .null, .val (.int (0 : Int32)), .val (.int (0 : Int32)), .val .null, .val .null, .val (.int (0 : Int32))] [(.int (1 : Int32))])) _
          refine XS.iconst X497.here hx rfl (hb hby at_319) ?_
          refine XS.goto X497.here hx rfl (pc0 := 320) (pc' := 324) rfl (hb hby at_320) (by decide) (by decide) ?_
          refine XS.iand X497.here hx rfl (hb hby at_324) rfl ?_
          exact kt
        have S499 : ∀ t, Steps p.tables e below (T497.setTop (mkF m 325 #[.val (.long f1), .second, .val (.long f2), .second, .val (.long c1), .second, .val (.long c2), .second, .val (.int fl), .val (.int (1 : Int32)), .val (.int (1 : Int32)), .val (.int (0 : Int32)), .val (.ref b407), .val (.ref b427), .val (.ref b441), .val (.int (1 : Int32)), .val .null, .val (.int (0 : Int32)), .val (.int (0 : Int32)), .val .null, .val .null, .val (.int (0 : Int32))] [(.int (1 : Int32))])) t → Steps p.tables e below (T497.setTop (mkF m 325 #[.val (.long f1), .second, .val (.long f2), .second, .val (.long c1), .second, .val (.long c2), .second, .val (.int fl), .val (.int (1 : Int32)), .val (.int (1 : Int32)), .val (.int (0 : Int32)), .val (.ref b407), .val (.ref b427), .val (.ref b441), .val (.int (1 : Int32)), .val .null, .val (.int (0 : Int32)), .val (.int (0 : Int32)), .val .null, .val .null, .val (.int (0 : Int32))] [(.int ((1 : Int32) &&& (1 : Int32)))])) t := fun t k => by rw [(show ((1 : Int32) &&& (1 : Int32)) = (1 : Int32) from by decide)]; exact k
        have S500 : ∀ t, Steps p.tables e below (T497.setTop (mkF m 329 #[.val (.long f1), .second, .val (.long f2), .second, .val (.long c1), .second, .val (.long c2), .second, .val (.int fl), .val (.int (1 : Int32)), .val (.int (1 : Int32)), .val (.int (0 : Int32)), .val (.ref b407), .val (.ref b427), .val (.ref b441), .val (.int (1 : Int32)), .val .null, .val (.int (0 : Int32)), .val (.int (0 : Int32)), .val .null, .val .null, .val (.int (0 : Int32))] [(.int (1 : Int32))])) t → Steps p.tables e below (T497.setTop (mkF m 325 #[.val (.long f1), .second, .val (.long f2), .second, .val (.long c1), .second, .val (.long c2), .second, .val (.int fl), .val (.int (1 : Int32)), .val (.int (1 : Int32)), .val (.int (0 : Int32)), .val (.ref b407), .val (.ref b427), .val (.ref b441), .val (.int (1 : Int32)), .val .null, .val (.int (0 : Int32)), .val (.int (0 : Int32)), .val .null, .val .null, .val (.int (0 : Int32))] [(.int (1 : Int32))])) t := by
          intro t kt
          show Steps p.tables e below (T497.setTop (mkF m 325 #[.val (.long f1), .second, .val (.long f2), .second, .val (.long c1), .second, .val (.long c2), .second, .val (.int fl), .val (.int (1 : Int32)), .val (.int (1 : Int32)), .val (.int (0 : Int32)), .val (.ref b407), .val (.ref b427), .val (.ref b441), .val (.int (1 : Int32)), .val .null, .val (.int (0 : Int32)), .val (.int (0 : Int32)), .val .null, .val .null, .val (.int (0 : Int32))] [(.int (1 : Int32))])) _
          refine XS.istore X497.here hx rfl (hb hby at_325) rfl (l' := #[.val (.long f1), .second, .val (.long f2), .second, .val (.long c1), .second, .val (.long c2), .second, .val (.int fl), .val (.int (1 : Int32)), .val (.int (1 : Int32)), .val (.int (0 : Int32)), .val (.ref b407), .val (.ref b427), .val (.ref b441), .val (.int (1 : Int32)), .val .null, .val (.int (0 : Int32)), .val (.int (0 : Int32)), .val .null, .val .null, .val (.int (0 : Int32))]) rfl ?_
          refine XS.iload X497.here hx rfl (hb hby at_327) rfl ?_
          exact kt
        have C501 : ∀ t, Steps p.tables e below (T497.setTop (mkF m 329 #[.val (.long f1), .second, .val (.long f2), .second, .val (.long c1), .second, .val (.long c2), .second, .val (.int fl), .val (.int (1 : Int32)), .val (.int (1 : Int32)), .val (.int (0 : Int32)), .val (.ref b407), .val (.ref b427), .val (.ref b441), .val (.int (1 : Int32)), .val .null, .val (.int (0 : Int32)), .val (.int (0 : Int32)), .val .null, .val .null, .val (.int (0 : Int32))] [(.int (1 : Int32))])) t → Steps p.tables e below (s₁.setTop (mkF m 0 #[.val (.long f1), .second, .val (.long f2), .second, .val (.long c1), .second, .val (.long c2), .second, .val (.int fl), .unset, .unset, .unset, .unset, .unset, .unset, .unset, .unset, .unset, .unset, .unset, .unset, .unset] [])) t := (fun t k => (C330 t (S405 t (S406 t (st407 t (S420 t (st421.trans (S426 t (st427 t (S437 t (st438.trans (S440 t (st441 t (S453 t (st454.trans (S467 t (st468.trans (S479 t (st481.trans (S483 t (S484 t (S485 t (st486.trans (S487 t (S488 t (S489 t (st491.trans (S492 t (S493 t (S494 t (S495 t (S496 t (st497.trans (S498 t (S499 t (S500 t k))))))))))))))))))))))))))))))))))))
        obtain ⟨fs, hr, hrun, hended, hW, hsame⟩ := X497.leave (v := some (.int (1 : Int32))) (fun h => by rw [Bd.returns] at h; cases h)
        refine ⟨_, _, pre0 _ (C501 _ ?_), hrun, hended, _, _, rfl, ?_, ⟨_, rfl⟩, hW, hsame.mono (by decide) (by decide)⟩
        · exact retN X497 hx (t := .boolean) Bd.returns (by simp) (hb hby at_329) hr
        · show Q_rm0 Z f1 f2 c1 c2 fl h0 n0 _ T497.heap _
          rw [e497]
          exact ⟨rfl, N497⟩
      · obtain ⟨cq502, kq502, q502a, q502b, q502c⟩ := isOf hZ e486 f482
        obtain ⟨_, _, ⟨T502, L502, k502, n502⟩, -, X502, ⟨Lc502, hQ502, l502, y502, z502⟩, st502⟩ := X486.virtualBack hx (y := (⟨"tidegate/operator/Crossings", "take", "(J)Ltidegate/operator/StageFunctions;"⟩ : MethodName)) (z := (⟨"tidegate/operator/Crossings", "take", "(J)Ltidegate/operator/StageFunctions;"⟩ : MethodName)) hown (mvT hZ (hw _ (List.mem_of_getElem? (i := 68) rfl))) (mvT hZ (hw _ (List.mem_of_getElem? (i := 69) rfl))) (notFace_of_selects (args := #[]) (mvT hZ (hw _ (List.mem_of_getElem? (i := 71) rfl)))) (mvT hZ (hw _ (List.mem_of_getElem? (i := 71) rfl))) (mvT hZ (hw _ (List.mem_of_getElem? (i := 70) rfl))) (by decide) (backOf (W := 0) (rm_tk2n l Z a0 hw [] b407 c2 b411 b456 f1 b427 b456 h468 n0 z478 f482 F474 F473 F475 F469 F470 F471 F472 g_b407 g_b456 ne_b407_b456 ne_b407_b411 ne_b411_b456 ht490) hZ (hw _ (List.mem_of_getElem? (i := 72) rfl)) (hw _ (List.mem_of_getElem? (i := 2) rfl)) (by decide) (by decide)) q502a q502c (g := (mkF m 210 #[.val (.long f1), .second, .val (.long f2), .second, .val (.long c1), .second, .val (.long c2), .second, .val (.int fl), .val (.int (1 : Int32)), .val (.int (1 : Int32)), .val (.int (0 : Int32)), .val (.ref b407), .val (.ref b427), .val (.ref b441), .val (.int (1 : Int32)), .val .null, .val (.int (0 : Int32)), .val (.int (0 : Int32)), .unset, .unset, .unset] [(.long c2), (.ref b407)])) rfl (by rw [hml]; rfl) (Steps.refl _) (argsL := [(.long c2)]) (rest := []) (lenOf pd_2 rfl) rfl (by show 2 * 0 + _ ≤ _; exact Nat.le_of_eq rfl) (hb hby at_210) (fun _ _ => ⟨rfl, e486, (by decide : 27 + 0 ≤ _), (by decide : 46 + 0 ≤ _)⟩)
        dsimp only [Pt.U, Pt.locs, Pt.cells, Pt.slots] at X502 l502 y502 z502 st502 hQ502
        subst l502 y502 z502
        obtain ⟨h502, e502⟩ : ∃ z, T502.heap = z := ⟨_, rfl⟩
        rw [e502] at hQ502
        obtain ⟨rfl, N502q, K502q, F503, F504, F505, F506, F507⟩ := hQ502
        have z508 : n0 ≤ h502.size := Nat.le_trans z478 K502q.1
        have N502 := Fr.app N486 N502q
        have S509 : ∀ t, Steps p.tables e below (T502.setTop (mkF m 280 #[.val (.long f1), .second, .val (.long f2), .second, .val (.long c1), .second, .val (.long c2), .second, .val (.int fl), .val (.int (1 : Int32)), .val (.int (1 : Int32)), .val (.int (0 : Int32)), .val (.ref b407), .val (.ref b427), .val (.ref b441), .val (.int (1 : Int32)), .val .null, .val (.int (0 : Int32)), .val (.int (0 : Int32)), .val (.ref b427), .val (.ref b427), .unset] [(.int ((1 : Int32) &&& (1 : Int32)))])) t → Steps p.tables e below (T502.setTop (mkF m 213 #[.val (.long f1), .second, .val (.long f2), .second, .val (.long c1), .second, .val (.long c2), .second, .val (.int fl), .val (.int (1 : Int32)), .val (.int (1 : Int32)), .val (.int (0 : Int32)), .val (.ref b407), .val (.ref b427), .val (.ref b441), .val (.int (1 : Int32)), .val .null, .val (.int (0 : Int32)), .val (.int (0 : Int32)), .unset, .unset, .unset] [(.ref b427)])) t := by
          intro t kt
          show Steps p.tables e below (T502.setTop (mkF m 213 #[.val (.long f1), .second, .val (.long f2), .second, .val (.long c1), .second, .val (.long c2), .second, .val (.int fl), .val (.int (1 : Int32)), .val (.int (1 : Int32)), .val (.int (0 : Int32)), .val (.ref b407), .val (.ref b427), .val (.ref b441), .val (.int (1 : Int32)), .val .null, .val (.int (0 : Int32)), .val (.int (0 : Int32)), .unset, .unset, .unset] [(.ref b427)])) _
          refine XS.astore X502.here hx rfl (hb hby at_213) rfl rfl (l' := #[.val (.long f1), .second, .val (.long f2), .second, .val (.long c1), .second, .val (.long c2), .second, .val (.int fl), .val (.int (1 : Int32)), .val (.int (1 : Int32)), .val (.int (0 : Int32)), .val (.ref b407), .val (.ref b427), .val (.ref b441), .val (.int (1 : Int32)), .val .null, .val (.int (0 : Int32)), .val (.int (0 : Int32)), .val (.ref b427), .unset, .unset]) rfl ?_
          refine XS.iload X502.here hx rfl (hb hby at_215) rfl ?_
          refine XS.ifYes X502.here hx rfl (pc0 := 217) (pc' := 244) rfl (hb hby at_217) rfl ((if0 _ _).trans (teq rfl).1) (by decide) (by decide) ?_
          refine XS.iload X502.here hx rfl (hb hby at_244) rfl ?_
          refine XS.iconst X502.here hx rfl (hb hby at_246) ?_
          refine XS.icmpNo X502.here hx rfl (hb hby at_247) rfl (flt (by decide)).1 ?_
          show Steps p.tables e below (T502.setTop (mkF m 250 #[.val (.long f1), .second, .val (.long f2), .second, .val (.long c1), .second, .val (.long c2), .second, .val (.int fl), .val (.int (1 : Int32)), .val (.int (1 : Int32)), .val (.int (0 : Int32)), .val (.ref b407), .val (.ref b427), .val (.ref b441), .val (.int (1 : Int32)), .val .null, .val (.int (0 : Int32)), .val (.int (0 : Int32)), .val (.ref b427), .unset, .unset] [])) _
          refine XS.lloadN X502.here hx rfl (hb hby at_250) rfl ?_
          refine XS.lload X502.here hx rfl (hb hby at_251) rfl ?_
          refine XS.lcmp X502.here hx rfl (hb hby at_253) rfl ?_
          refine XS.ifNo X502.here hx rfl (hb hby at_254) rfl ((if0 _ _).trans (flt (fun q => ht490 ((lw_gt f1 c2).mp q))).2.2.1) ?_
          refine XS.aload X502.here hx rfl (hb hby at_257) rfl rfl ?_
          refine XS.goto X502.here hx rfl (pc0 := 259) (pc' := 263) rfl (hb hby at_259) (by decide) (by decide) ?_
          show Steps p.tables e below (T502.setTop (mkF m 263 #[.val (.long f1), .second, .val (.long f2), .second, .val (.long c1), .second, .val (.long c2), .second, .val (.int fl), .val (.int (1 : Int32)), .val (.int (1 : Int32)), .val (.int (0 : Int32)), .val (.ref b407), .val (.ref b427), .val (.ref b441), .val (.int (1 : Int32)), .val .null, .val (.int (0 : Int32)), .val (.int (0 : Int32)), .val (.ref b427), .unset, .unset] [(.ref b427)])) _
          refine XS.astore X502.here hx rfl (hb hby at_263) rfl rfl (l' := #[.val (.long f1), .second, .val (.long f2), .second, .val (.long c1), .second, .val (.long c2), .second, .val (.int fl), .val (.int (1 : Int32)), .val (.int (1 : Int32)), .val (.int (0 : Int32)), .val (.ref b407), .val (.ref b427), .val (.ref b441), .val (.int (1 : Int32)), .val .null, .val (.int (0 : Int32)), .val (.int (0 : Int32)), .val (.ref b427), .val (.ref b427), .unset]) rfl ?_
          refine XS.iload X502.here hx rfl (hb hby at_265) rfl ?_
          refine XS.aload X502.here hx rfl (hb hby at_267) rfl rfl ?_
          refine XS.aload X502.here hx rfl (hb hby at_269) rfl rfl ?_
          refine Jvm.RoadKit.acmp (g := (mkF m 271 #[.val (.long f1), .second, .val (.long f2), .second, .val (.long c1), .second, .val (.long c2), .second, .val (.int fl), .val (.int (1 : Int32)), .val (.int (1 : Int32)), .val (.int (0 : Int32)), .val (.ref b407), .val (.ref b427), .val (.ref b441), .val (.int (1 : Int32)), .val .null, .val (.int (0 : Int32)), .val (.int (0 : Int32)), .val (.ref b427), .val (.ref b427), .unset] [(.ref b427), (.ref b427), (.int (1 : Int32))])) X502 hx rfl rfl rfl (pc0 := 271) (pc' := 274) (same := true) rfl (hb hby at_271) rfl (decide_eq_true rfl) (by decide) (by decide) ?_
          refine XS.iconst X502.here hx rfl (hb hby at_274) ?_
          show Steps p.tables e below (T502.setTop (mkF m 275 #[.val (.long f1), .second, .val (.long f2), .second, .val (.long c1), .second, .val (.long c2), .second, .val (.int fl), .val (.int (1 : Int32)), .val (.int (1 : Int32)), .val (.int (0 : Int32)), .val (.ref b407), .val (.ref b427), .val (.ref b441), .val (.int (1 : Int32)), .val .null, .val (.int (0 : Int32)), .val (.int (0 : Int32)), .val (.ref b427), .val (.ref b427), .unset] [(.int (1 : Int32)), (.int (1 : Int32))])) _
          refine XS.goto X502.here hx rfl (pc0 := 275) (pc' := 279) rfl (hb hby at_275) (by decide) (by decide) ?_
          refine XS.iand X502.here hx rfl (hb hby at_279) rfl ?_
          exact kt
        have S510 : ∀ t, Steps p.tables e below (T502.setTop (mkF m 280 #[.val (.long f1), .second, .val (.long f2), .second, .val (.long c1), .second, .val (.long c2), .second, .val (.int fl), .val (.int (1 : Int32)), .val (.int (1 : Int32)), .val (.int (0 : Int32)), .val (.ref b407), .val (.ref b427), .val (.ref b441), .val (.int (1 : Int32)), .val .null, .val (.int (0 : Int32)), .val (.int (0 : Int32)), .val (.ref b427), .val (.ref b427), .unset] [(.int (1 : Int32))])) t → Steps p.tables e below (T502.setTop (mkF m 280 #[.val (.long f1), .second, .val (.long f2), .second, .val (.long c1), .second, .val (.long c2), .second, .val (.int fl), .val (.int (1 : Int32)), .val (.int (1 : Int32)), .val (.int (0 : Int32)), .val (.ref b407), .val (.ref b427), .val (.ref b441), .val (.int (1 : Int32)), .val .null, .val (.int (0 : Int32)), .val (.int (0 : Int32)), .val (.ref b427), .val (.ref b427), .unset] [(.int ((1 : Int32) &&& (1 : Int32)))])) t := fun t k => by rw [(show ((1 : Int32) &&& (1 : Int32)) = (1 : Int32) from by decide)]; exact k
        have S511 : ∀ t, Steps p.tables e below (T502.setTop (mkF m 295 #[.val (.long f1), .second, .val (.long f2), .second, .val (.long c1), .second, .val (.long c2), .second, .val (.int fl), .val (.int (1 : Int32)), .val (.int (1 : Int32)), .val (.int (0 : Int32)), .val (.ref b407), .val (.ref b427), .val (.ref b441), .val (.int (1 : Int32)), .val .null, .val (.int (0 : Int32)), .val (.int (0 : Int32)), .val (.ref b427), .val (.ref b427), .unset] [(.int ((0 : Int32) + (1 : Int32)))])) t → Steps p.tables e below (T502.setTop (mkF m 280 #[.val (.long f1), .second, .val (.long f2), .second, .val (.long c1), .second, .val (.long c2), .second, .val (.int fl), .val (.int (1 : Int32)), .val (.int (1 : Int32)), .val (.int (0 : Int32)), .val (.ref b407), .val (.ref b427), .val (.ref b441), .val (.int (1 : Int32)), .val .null, .val (.int (0 : Int32)), .val (.int (0 : Int32)), .val (.ref b427), .val (.ref b427), .unset] [(.int (1 : Int32))])) t := by
          intro t kt
          show Steps p.tables e below (T502.setTop (mkF m 280 #[.val (.long f1), .second, .val (.long f2), .second, .val (.long c1), .second, .val (.long c2), .second, .val (.int fl), .val (.int (1 : Int32)), .val (.int (1 : Int32)), .val (.int (0 : Int32)), .val (.ref b407), .val (.ref b427), .val (.ref b441), .val (.int (1 : Int32)), .val .null, .val (.int (0 : Int32)), .val (.int (0 : Int32)), .val (.ref b427), .val (.ref b427), .unset] [(.int (1 : Int32))])) _
          refine XS.istore X502.here hx rfl (hb hby at_280) rfl (l' := #[.val (.long f1), .second, .val (.long f2), .second, .val (.long c1), .second, .val (.long c2), .second, .val (.int fl), .val (.int (1 : Int32)), .val (.int (1 : Int32)), .val (.int (0 : Int32)), .val (.ref b407), .val (.ref b427), .val (.ref b441), .val (.int (1 : Int32)), .val .null, .val (.int (0 : Int32)), .val (.int (0 : Int32)), .val (.ref b427), .val (.ref b427), .unset]) rfl ?_
          refine XS.iload X502.here hx rfl (hb hby at_282) rfl ?_
          refine XS.aload X502.here hx rfl (hb hby at_284) rfl rfl ?_
          refine XS.ifnullNo X502.here hx rfl (hb hby at_286) rfl ?_
          refine XS.iconst X502.here hx rfl (hb hby at_289) ?_
          refine XS.goto X502.here hx rfl (pc0 := 290) (pc' := 294) rfl (hb hby at_290) (by decide) (by decide) ?_
          show Steps p.tables e below (T502.setTop (mkF m 294 #[.val (.long f1), .second, .val (.long f2), .second, .val (.long c1), .second, .val (.long c2), .second, .val (.int fl), .val (.int (1 : Int32)), .val (.int (1 : Int32)), .val (.int (0 : Int32)), .val (.ref b407), .val (.ref b427), .val (.ref b441), .val (.int (1 : Int32)), .val .null, .val (.int (0 : Int32)), .val (.int (0 : Int32)), .val (.ref b427), .val (.ref b427), .unset] [(.int (1 : Int32)), (.int (0 : Int32))])) _
          refine XS.iadd X502.here hx rfl (hb hby at_294) rfl ?_
          exact kt
        have S512 : ∀ t, Steps p.tables e below (T502.setTop (mkF m 295 #[.val (.long f1), .second, .val (.long f2), .second, .val (.long c1), .second, .val (.long c2), .second, .val (.int fl), .val (.int (1 : Int32)), .val (.int (1 : Int32)), .val (.int (0 : Int32)), .val (.ref b407), .val (.ref b427), .val (.ref b441), .val (.int (1 : Int32)), .val .null, .val (.int (0 : Int32)), .val (.int (0 : Int32)), .val (.ref b427), .val (.ref b427), .unset] [(.int (1 : Int32))])) t → Steps p.tables e below (T502.setTop (mkF m 295 #[.val (.long f1), .second, .val (.long f2), .second, .val (.long c1), .second, .val (.long c2), .second, .val (.int fl), .val (.int (1 : Int32)), .val (.int (1 : Int32)), .val (.int (0 : Int32)), .val (.ref b407), .val (.ref b427), .val (.ref b441), .val (.int (1 : Int32)), .val .null, .val (.int (0 : Int32)), .val (.int (0 : Int32)), .val (.ref b427), .val (.ref b427), .unset] [(.int ((0 : Int32) + (1 : Int32)))])) t := fun t k => by rw [(show ((0 : Int32) + (1 : Int32)) = (1 : Int32) from by decide)]; exact k
        have S513 : ∀ t, Steps p.tables e below (T502.setTop (mkF m 301 #[.val (.long f1), .second, .val (.long f2), .second, .val (.long c1), .second, .val (.long c2), .second, .val (.int fl), .val (.int (1 : Int32)), .val (.int (1 : Int32)), .val (.int (0 : Int32)), .val (.ref b407), .val (.ref b427), .val (.ref b441), .val (.int (1 : Int32)), .val .null, .val (.int (0 : Int32)), .val (.int (0 : Int32)), .val (.ref b427), .val (.ref b427), .val (.int (1 : Int32))] [(.ref b407), (.int (1 : Int32))])) t → Steps p.tables e below (T502.setTop (mkF m 295 #[.val (.long f1), .second, .val (.long f2), .second, .val (.long c1), .second, .val (.long c2), .second, .val (.int fl), .val (.int (1 : Int32)), .val (.int (1 : Int32)), .val (.int (0 : Int32)), .val (.ref b407), .val (.ref b427), .val (.ref b441), .val (.int (1 : Int32)), .val .null, .val (.int (0 : Int32)), .val (.int (0 : Int32)), .val (.ref b427), .val (.ref b427), .unset] [(.int (1 : Int32))])) t := by
          intro t kt
          show Steps p.tables e below (T502.setTop (mkF m 295 #[.val (.long f1), .second, .val (.long f2), .second, .val (.long c1), .second, .val (.long c2), .second, .val (.int fl), .val (.int (1 : Int32)), .val (.int (1 : Int32)), .val (.int (0 : Int32)), .val (.ref b407), .val (.ref b427), .val (.ref b441), .val (.int (1 : Int32)), .val .null, .val (.int (0 : Int32)), .val (.int (0 : Int32)), .val (.ref b427), .val (.ref b427), .unset] [(.int (1 : Int32))])) _
          refine XS.istore X502.here hx rfl (hb hby at_295) rfl (l' := #[.val (.long f1), .second, .val (.long f2), .second, .val (.long c1), .second, .val (.long c2), .second, .val (.int fl), .val (.int (1 : Int32)), .val (.int (1 : Int32)), .val (.int (0 : Int32)), .val (.ref b407), .val (.ref b427), .val (.ref b441), .val (.int (1 : Int32)), .val .null, .val (.int (0 : Int32)), .val (.int (0 : Int32)), .val (.ref b427), .val (.ref b427), .val (.int (1 : Int32))]) rfl ?_
          refine XS.iload X502.here hx rfl (hb hby at_297) rfl ?_
          refine XS.aload X502.here hx rfl (hb hby at_299) rfl rfl ?_
          exact kt
        have f515 := (f482.keep K502q)
        obtain ⟨cq514, kq514, q514a, q514b, q514c⟩ := isOf hZ e502 f515
        obtain ⟨_, _, ⟨T514, L514, k514, n514⟩, -, X514, ⟨Lc514, hQ514, l514, y514, z514⟩, st514⟩ := X502.virtualBack hx (y := (⟨"tidegate/operator/Crossings", "waiting", "()Z"⟩ : MethodName)) (z := (⟨"tidegate/operator/Crossings", "waiting", "()Z"⟩ : MethodName)) hown (mvT hZ (hw _ (List.mem_of_getElem? (i := 74) rfl))) (mvT hZ (hw _ (List.mem_of_getElem? (i := 75) rfl))) (notFace_of_selects (args := #[]) (mvT hZ (hw _ (List.mem_of_getElem? (i := 77) rfl)))) (mvT hZ (hw _ (List.mem_of_getElem? (i := 77) rfl))) (mvT hZ (hw _ (List.mem_of_getElem? (i := 76) rfl))) (by decide) (backOf (W := 1) (rm_wt0 l Z a0 hw [] b407 b456 h502 n0 z508 F503 F505) hZ (hw _ (List.mem_of_getElem? (i := 78) rfl)) (hw _ (List.mem_of_getElem? (i := 2) rfl)) (by decide) (by decide)) q514a q514c (g := (mkF m 301 #[.val (.long f1), .second, .val (.long f2), .second, .val (.long c1), .second, .val (.long c2), .second, .val (.int fl), .val (.int (1 : Int32)), .val (.int (1 : Int32)), .val (.int (0 : Int32)), .val (.ref b407), .val (.ref b427), .val (.ref b441), .val (.int (1 : Int32)), .val .null, .val (.int (0 : Int32)), .val (.int (0 : Int32)), .val (.ref b427), .val (.ref b427), .val (.int (1 : Int32))] [(.ref b407), (.int (1 : Int32))])) rfl (by rw [hml]; rfl) (Steps.refl _) (argsL := []) (rest := [(.int (1 : Int32))]) (lenOf pd_3 rfl) rfl (by show 2 * 0 + _ ≤ _; exact Nat.le_of_eq rfl) (hb hby at_301) (fun _ _ => ⟨rfl, e502, (by decide : 27 + 0 ≤ _), (by decide : 46 + 0 ≤ _)⟩)
        dsimp only [Pt.U, Pt.locs, Pt.cells, Pt.slots] at X514 l514 y514 z514 st514 hQ514
        subst l514 y514 z514
        obtain ⟨rfl, N514q, e514⟩ := hQ514
        have N514 := Fr.app N502 N514q
        have S516 : ∀ t, Steps p.tables e below (T514.setTop (mkF m 325 #[.val (.long f1), .second, .val (.long f2), .second, .val (.long c1), .second, .val (.long c2), .second, .val (.int fl), .val (.int (1 : Int32)), .val (.int (1 : Int32)), .val (.int (0 : Int32)), .val (.ref b407), .val (.ref b427), .val (.ref b441), .val (.int (1 : Int32)), .val .null, .val (.int (0 : Int32)), .val (.int (0 : Int32)), .val (.ref b427), .val (.ref b427), .val (.int (1 : Int32))] [(.int ((1 : Int32) &&& (1 : Int32)))])) t → Steps p.tables e below (T514.setTop (mkF m 304 #[.val (.long f1), .second, .val (.long f2), .second, .val (.long c1), .second, .val (.long c2), .second, .val (.int fl), .val (.int (1 : Int32)), .val (.int (1 : Int32)), .val (.int (0 : Int32)), .val (.ref b407), .val (.ref b427), .val (.ref b441), .val (.int (1 : Int32)), .val .null, .val (.int (0 : Int32)), .val (.int (0 : Int32)), .val (.ref b427), .val (.ref b427), .val (.int (1 : Int32))] [(.int (0 : Int32)), (.int (1 : Int32))])) t := by
          intro t kt
          show Steps p.tables e below (T514.setTop (mkF m 304 #[.val (.long f1), .second, .val (.long f2), .second, .val (.long c1), .second, .val (.long c2), .second, .val (.int fl), .val (.int (1 : Int32)), .val (.int (1 : Int32)), .val (.int (0 : Int32)), .val (.ref b407), .val (.ref b427), .val (.ref b441), .val (.int (1 : Int32)), .val .null, .val (.int (0 : Int32)), .val (.int (0 : Int32)), .val (.ref b427), .val (.ref b427), .val (.int (1 : Int32))] [(.int (0 : Int32)), (.int (1 : Int32))])) _
          refine XS.iload X514.here hx rfl (hb hby at_304) rfl ?_
          refine XS.iload X514.here hx rfl (hb hby at_306) rfl ?_
          refine XS.icmpYes X514.here hx rfl (pc0 := 308) (pc' := 315) rfl (hb hby at_308) rfl (flt (by decide)).2.1 (by decide) (by decide) ?_
          refine XS.iconst X514.here hx rfl (hb hby at_315) ?_
          refine XS.icmpNo X514.here hx rfl (hb hby at_316) rfl (teq rfl).2 ?_
          refine XS.iconst X514.here hx rfl (hb hby at_319) ?_
          show Steps p.tables e below (T514.setTop (mkF m 320 #[.val (.long f1), .second, .val (.long f2), .second, .val (.long c1), .second, .val (.long c2), .second, .val (.int fl), .val (.int (1 : Int32)), .val (.int (1 : Int32)), .val (.int (0 : Int32)), .val (.ref b407), .val (.ref b427), .val (.ref b441), .val (.int (1 : Int32)), .val .null, .val (.int (0 : Int32)), .val (.int (0 : Int32)), .val (.ref b427), .val (.ref b427), .val (.int (1 : Int32))] [(.int (1 : Int32)), (.int (1 : Int32))])) _
          refine XS.goto X514.here hx rfl (pc0 := 320) (pc' := 324) rfl (hb hby at_320) (by decide) (by decide) ?_
          refine XS.iand X514.here hx rfl (hb hby at_324) rfl ?_
          exact kt
        have S517 : ∀ t, Steps p.tables e below (T514.setTop (mkF m 325 #[.val (.long f1), .second, .val (.long f2), .second, .val (.long c1), .second, .val (.long c2), .second, .val (.int fl), .val (.int (1 : Int32)), .val (.int (1 : Int32)), .val (.int (0 : Int32)), .val (.ref b407), .val (.ref b427), .val (.ref b441), .val (.int (1 : Int32)), .val .null, .val (.int (0 : Int32)), .val (.int (0 : Int32)), .val (.ref b427), .val (.ref b427), .val (.int (1 : Int32))] [(.int (1 : Int32))])) t → Steps p.tables e below (T514.setTop (mkF m 325 #[.val (.long f1), .second, .val (.long f2), .second, .val (.long c1), .second, .val (.long c2), .second, .val (.int fl), .val (.int (1 : Int32)), .val (.int (1 : Int32)), .val (.int (0 : Int32)), .val (.ref b407), .val (.ref b427), .val (.ref b441), .val (.int (1 : Int32)), .val .null, .val (.int (0 : Int32)), .val (.int (0 : Int32)), .val (.ref b427), .val (.ref b427), .val (.int (1 : Int32))] [(.int ((1 : Int32) &&& (1 : Int32)))])) t := fun t k => by rw [(show ((1 : Int32) &&& (1 : Int32)) = (1 : Int32) from by decide)]; exact k
        have S518 : ∀ t, Steps p.tables e below (T514.setTop (mkF m 329 #[.val (.long f1), .second, .val (.long f2), .second, .val (.long c1), .second, .val (.long c2), .second, .val (.int fl), .val (.int (1 : Int32)), .val (.int (1 : Int32)), .val (.int (0 : Int32)), .val (.ref b407), .val (.ref b427), .val (.ref b441), .val (.int (1 : Int32)), .val .null, .val (.int (0 : Int32)), .val (.int (0 : Int32)), .val (.ref b427), .val (.ref b427), .val (.int (1 : Int32))] [(.int (1 : Int32))])) t → Steps p.tables e below (T514.setTop (mkF m 325 #[.val (.long f1), .second, .val (.long f2), .second, .val (.long c1), .second, .val (.long c2), .second, .val (.int fl), .val (.int (1 : Int32)), .val (.int (1 : Int32)), .val (.int (0 : Int32)), .val (.ref b407), .val (.ref b427), .val (.ref b441), .val (.int (1 : Int32)), .val .null, .val (.int (0 : Int32)), .val (.int (0 : Int32)), .val (.ref b427), .val (.ref b427), .val (.int (1 : Int32))] [(.int (1 : Int32))])) t := by
          intro t kt
          show Steps p.tables e below (T514.setTop (mkF m 325 #[.val (.long f1), .second, .val (.long f2), .second, .val (.long c1), .second, .val (.long c2), .second, .val (.int fl), .val (.int (1 : Int32)), .val (.int (1 : Int32)), .val (.int (0 : Int32)), .val (.ref b407), .val (.ref b427), .val (.ref b441), .val (.int (1 : Int32)), .val .null, .val (.int (0 : Int32)), .val (.int (0 : Int32)), .val (.ref b427), .val (.ref b427), .val (.int (1 : Int32))] [(.int (1 : Int32))])) _
          refine XS.istore X514.here hx rfl (hb hby at_325) rfl (l' := #[.val (.long f1), .second, .val (.long f2), .second, .val (.long c1), .second, .val (.long c2), .second, .val (.int fl), .val (.int (1 : Int32)), .val (.int (1 : Int32)), .val (.int (0 : Int32)), .val (.ref b407), .val (.ref b427), .val (.ref b441), .val (.int (1 : Int32)), .val .null, .val (.int (0 : Int32)), .val (.int (0 : Int32)), .val (.ref b427), .val (.ref b427), .val (.int (1 : Int32))]) rfl ?_
          refine XS.iload X514.here hx rfl (hb hby at_327) rfl ?_
          exact kt
        have C519 : ∀ t, Steps p.tables e below (T514.setTop (mkF m 329 #[.val (.long f1), .second, .val (.long f2), .second, .val (.long c1), .second, .val (.long c2), .second, .val (.int fl), .val (.int (1 : Int32)), .val (.int (1 : Int32)), .val (.int (0 : Int32)), .val (.ref b407), .val (.ref b427), .val (.ref b441), .val (.int (1 : Int32)), .val .null, .val (.int (0 : Int32)), .val (.int (0 : Int32)), .val (.ref b427), .val (.ref b427), .val (.int (1 : Int32))] [(.int (1 : Int32))])) t → Steps p.tables e below (s₁.setTop (mkF m 0 #[.val (.long f1), .second, .val (.long f2), .second, .val (.long c1), .second, .val (.long c2), .second, .val (.int fl), .unset, .unset, .unset, .unset, .unset, .unset, .unset, .unset, .unset, .unset, .unset, .unset, .unset] [])) t := (fun t k => (C330 t (S405 t (S406 t (st407 t (S420 t (st421.trans (S426 t (st427 t (S437 t (st438.trans (S440 t (st441 t (S453 t (st454.trans (S467 t (st468.trans (S479 t (st481.trans (S483 t (S484 t (S485 t (st486.trans (S487 t (S488 t (S489 t (st502.trans (S509 t (S510 t (S511 t (S512 t (S513 t (st514.trans (S516 t (S517 t (S518 t k))))))))))))))))))))))))))))))))))))
        obtain ⟨fs, hr, hrun, hended, hW, hsame⟩ := X514.leave (v := some (.int (1 : Int32))) (fun h => by rw [Bd.returns] at h; cases h)
        refine ⟨_, _, pre0 _ (C519 _ ?_), hrun, hended, _, _, rfl, ?_, ⟨_, rfl⟩, hW, hsame.mono (by decide) (by decide)⟩
        · exact retN X514 hx (t := .boolean) Bd.returns (by simp) (hb hby at_329) hr
        · show Q_rm0 Z f1 f2 c1 c2 fl h0 n0 _ T514.heap _
          rw [e514]
          exact ⟨rfl, N514⟩
    · have f520 := (f458.keep K468q)
      obtain ⟨cq521, kq521, q521a, q521b, q521c⟩ := isOf hZ e468 f520
      obtain ⟨_, _, ⟨T521, L521, k521, n521⟩, -, X521, ⟨Lc521, hQ521, l521, y521, z521⟩, st521⟩ := X468.virtualBack hx (y := (⟨"tidegate/operator/Crossings", "take", "(J)Ltidegate/operator/StageFunctions;"⟩ : MethodName)) (z := (⟨"tidegate/operator/Crossings", "take", "(J)Ltidegate/operator/StageFunctions;"⟩ : MethodName)) hown (mvT hZ (hw _ (List.mem_of_getElem? (i := 68) rfl))) (mvT hZ (hw _ (List.mem_of_getElem? (i := 69) rfl))) (notFace_of_selects (args := #[]) (mvT hZ (hw _ (List.mem_of_getElem? (i := 71) rfl)))) (mvT hZ (hw _ (List.mem_of_getElem? (i := 71) rfl))) (mvT hZ (hw _ (List.mem_of_getElem? (i := 70) rfl))) (by decide) (backOf (W := 0) (rm_tk2n l Z a0 hw [] b407 c1 b411 b456 f1 b427 b456 h468 n0 z478 f520 F474 F473 F475 F469 F470 F471 F472 g_b407 g_b456 ne_b407_b456 ne_b407_b411 ne_b411_b456 ht480) hZ (hw _ (List.mem_of_getElem? (i := 72) rfl)) (hw _ (List.mem_of_getElem? (i := 2) rfl)) (by decide) (by decide)) q521a q521c (g := (mkF m 100 #[.val (.long f1), .second, .val (.long f2), .second, .val (.long c1), .second, .val (.long c2), .second, .val (.int fl), .val (.int (1 : Int32)), .val (.int (1 : Int32)), .val (.int (0 : Int32)), .val (.ref b407), .val (.ref b427), .val (.ref b441), .val (.int (1 : Int32)), .unset, .unset, .unset, .unset, .unset, .unset] [(.long c1), (.ref b407)])) rfl (by rw [hml]; rfl) (Steps.refl _) (argsL := [(.long c1)]) (rest := []) (lenOf pd_2 rfl) rfl (by show 2 * 0 + _ ≤ _; exact Nat.le_of_eq rfl) (hb hby at_100) (fun _ _ => ⟨rfl, e468, (by decide : 27 + 0 ≤ _), (by decide : 46 + 0 ≤ _)⟩)
      dsimp only [Pt.U, Pt.locs, Pt.cells, Pt.slots] at X521 l521 y521 z521 st521 hQ521
      subst l521 y521 z521
      obtain ⟨h521, e521⟩ : ∃ z, T521.heap = z := ⟨_, rfl⟩
      rw [e521] at hQ521
      obtain ⟨rfl, N521q, K521q, F522, F523, F524, F525, F526⟩ := hQ521
      have z527 : n0 ≤ h521.size := Nat.le_trans z478 K521q.1
      have N521 := Fr.app N468 N521q
      have S528 : ∀ t, Steps p.tables e below (T521.setTop (mkF m 149 #[.val (.long f1), .second, .val (.long f2), .second, .val (.long c1), .second, .val (.long c2), .second, .val (.int fl), .val (.int (1 : Int32)), .val (.int (1 : Int32)), .val (.int (0 : Int32)), .val (.ref b407), .val (.ref b427), .val (.ref b441), .val (.int (1 : Int32)), .val (.ref b427), .val (.int (1 : Int32)), .unset, .unset, .unset, .unset] [(.int ((1 : Int32) &&& (1 : Int32)))])) t → Steps p.tables e below (T521.setTop (mkF m 103 #[.val (.long f1), .second, .val (.long f2), .second, .val (.long c1), .second, .val (.long c2), .second, .val (.int fl), .val (.int (1 : Int32)), .val (.int (1 : Int32)), .val (.int (0 : Int32)), .val (.ref b407), .val (.ref b427), .val (.ref b441), .val (.int (1 : Int32)), .unset, .unset, .unset, .unset, .unset, .unset] [(.ref b427)])) t := by
        intro t kt
        show Steps p.tables e below (T521.setTop (mkF m 103 #[.val (.long f1), .second, .val (.long f2), .second, .val (.long c1), .second, .val (.long c2), .second, .val (.int fl), .val (.int (1 : Int32)), .val (.int (1 : Int32)), .val (.int (0 : Int32)), .val (.ref b407), .val (.ref b427), .val (.ref b441), .val (.int (1 : Int32)), .unset, .unset, .unset, .unset, .unset, .unset] [(.ref b427)])) _
        refine XS.astore X521.here hx rfl (hb hby at_103) rfl rfl (l' := #[.val (.long f1), .second, .val (.long f2), .second, .val (.long c1), .second, .val (.long c2), .second, .val (.int fl), .val (.int (1 : Int32)), .val (.int (1 : Int32)), .val (.int (0 : Int32)), .val (.ref b407), .val (.ref b427), .val (.ref b441), .val (.int (1 : Int32)), .val (.ref b427), .unset, .unset, .unset, .unset, .unset]) rfl ?_
        refine XS.iload X521.here hx rfl (hb hby at_105) rfl ?_
        refine XS.iconst X521.here hx rfl (hb hby at_107) ?_
        refine XS.icmpNo X521.here hx rfl (hb hby at_108) rfl (flt (by decide)).1 ?_
        refine XS.lloadN X521.here hx rfl (hb hby at_111) rfl ?_
        refine XS.lload X521.here hx rfl (hb hby at_112) rfl ?_
        show Steps p.tables e below (T521.setTop (mkF m 114 #[.val (.long f1), .second, .val (.long f2), .second, .val (.long c1), .second, .val (.long c2), .second, .val (.int fl), .val (.int (1 : Int32)), .val (.int (1 : Int32)), .val (.int (0 : Int32)), .val (.ref b407), .val (.ref b427), .val (.ref b441), .val (.int (1 : Int32)), .val (.ref b427), .unset, .unset, .unset, .unset, .unset] [(.long c1), (.long f1)])) _
        refine XS.lcmp X521.here hx rfl (hb hby at_114) rfl ?_
        refine XS.ifNo X521.here hx rfl (hb hby at_115) rfl ((if0 _ _).trans (flt (fun q => ht480 ((lw_gt f1 c1).mp q))).2.2.1) ?_
        refine XS.iconst X521.here hx rfl (hb hby at_118) ?_
        refine XS.goto X521.here hx rfl (pc0 := 119) (pc' := 123) rfl (hb hby at_119) (by decide) (by decide) ?_
        refine XS.istore X521.here hx rfl (hb hby at_123) rfl (l' := #[.val (.long f1), .second, .val (.long f2), .second, .val (.long c1), .second, .val (.long c2), .second, .val (.int fl), .val (.int (1 : Int32)), .val (.int (1 : Int32)), .val (.int (0 : Int32)), .val (.ref b407), .val (.ref b427), .val (.ref b441), .val (.int (1 : Int32)), .val (.ref b427), .val (.int (1 : Int32)), .unset, .unset, .unset, .unset]) rfl ?_
        refine XS.iload X521.here hx rfl (hb hby at_125) rfl ?_
        show Steps p.tables e below (T521.setTop (mkF m 127 #[.val (.long f1), .second, .val (.long f2), .second, .val (.long c1), .second, .val (.long c2), .second, .val (.int fl), .val (.int (1 : Int32)), .val (.int (1 : Int32)), .val (.int (0 : Int32)), .val (.ref b407), .val (.ref b427), .val (.ref b441), .val (.int (1 : Int32)), .val (.ref b427), .val (.int (1 : Int32)), .unset, .unset, .unset, .unset] [(.int (1 : Int32))])) _
        refine XS.aload X521.here hx rfl (hb hby at_127) rfl rfl ?_
        refine XS.iload X521.here hx rfl (hb hby at_129) rfl ?_
        refine XS.ifNo X521.here hx rfl (hb hby at_131) rfl ((if0 _ _).trans (feq (by decide)).1) ?_
        refine XS.aload X521.here hx rfl (hb hby at_134) rfl rfl ?_
        refine XS.goto X521.here hx rfl (pc0 := 136) (pc' := 140) rfl (hb hby at_136) (by decide) (by decide) ?_
        refine Jvm.RoadKit.acmp (g := (mkF m 140 #[.val (.long f1), .second, .val (.long f2), .second, .val (.long c1), .second, .val (.long c2), .second, .val (.int fl), .val (.int (1 : Int32)), .val (.int (1 : Int32)), .val (.int (0 : Int32)), .val (.ref b407), .val (.ref b427), .val (.ref b441), .val (.int (1 : Int32)), .val (.ref b427), .val (.int (1 : Int32)), .unset, .unset, .unset, .unset] [(.ref b427), (.ref b427), (.int (1 : Int32))])) X521 hx rfl rfl rfl (pc0 := 140) (pc' := 143) (same := true) rfl (hb hby at_140) rfl (decide_eq_true rfl) (by decide) (by decide) ?_
        show Steps p.tables e below (T521.setTop (mkF m 143 #[.val (.long f1), .second, .val (.long f2), .second, .val (.long c1), .second, .val (.long c2), .second, .val (.int fl), .val (.int (1 : Int32)), .val (.int (1 : Int32)), .val (.int (0 : Int32)), .val (.ref b407), .val (.ref b427), .val (.ref b441), .val (.int (1 : Int32)), .val (.ref b427), .val (.int (1 : Int32)), .unset, .unset, .unset, .unset] [(.int (1 : Int32))])) _
        refine XS.iconst X521.here hx rfl (hb hby at_143) ?_
        refine XS.goto X521.here hx rfl (pc0 := 144) (pc' := 148) rfl (hb hby at_144) (by decide) (by decide) ?_
        refine XS.iand X521.here hx rfl (hb hby at_148) rfl ?_
        exact kt
      have S529 : ∀ t, Steps p.tables e below (T521.setTop (mkF m 149 #[.val (.long f1), .second, .val (.long f2), .second, .val (.long c1), .second, .val (.long c2), .second, .val (.int fl), .val (.int (1 : Int32)), .val (.int (1 : Int32)), .val (.int (0 : Int32)), .val (.ref b407), .val (.ref b427), .val (.ref b441), .val (.int (1 : Int32)), .val (.ref b427), .val (.int (1 : Int32)), .unset, .unset, .unset, .unset] [(.int (1 : Int32))])) t → Steps p.tables e below (T521.setTop (mkF m 149 #[.val (.long f1), .second, .val (.long f2), .second, .val (.long c1), .second, .val (.long c2), .second, .val (.int fl), .val (.int (1 : Int32)), .val (.int (1 : Int32)), .val (.int (0 : Int32)), .val (.ref b407), .val (.ref b427), .val (.ref b441), .val (.int (1 : Int32)), .val (.ref b427), .val (.int (1 : Int32)), .unset, .unset, .unset, .unset] [(.int ((1 : Int32) &&& (1 : Int32)))])) t := fun t k => by rw [(show ((1 : Int32) &&& (1 : Int32)) = (1 : Int32) from by decide)]; exact k
      have S530 : ∀ t, Steps p.tables e below (T521.setTop (mkF m 180 #[.val (.long f1), .second, .val (.long f2), .second, .val (.long c1), .second, .val (.long c2), .second, .val (.int fl), .val (.int (1 : Int32)), .val (.int (1 : Int32)), .val (.int (0 : Int32)), .val (.ref b407), .val (.ref b427), .val (.ref b441), .val (.int (1 : Int32)), .val (.ref b427), .val (.int (1 : Int32)), .val (.int (1 : Int32)), .unset, .unset, .unset] [(.ref b407), (.int (1 : Int32))])) t → Steps p.tables e below (T521.setTop (mkF m 149 #[.val (.long f1), .second, .val (.long f2), .second, .val (.long c1), .second, .val (.long c2), .second, .val (.int fl), .val (.int (1 : Int32)), .val (.int (1 : Int32)), .val (.int (0 : Int32)), .val (.ref b407), .val (.ref b427), .val (.ref b441), .val (.int (1 : Int32)), .val (.ref b427), .val (.int (1 : Int32)), .unset, .unset, .unset, .unset] [(.int (1 : Int32))])) t := by
        intro t kt
        show Steps p.tables e below (T521.setTop (mkF m 149 #[.val (.long f1), .second, .val (.long f2), .second, .val (.long c1), .second, .val (.long c2), .second, .val (.int fl), .val (.int (1 : Int32)), .val (.int (1 : Int32)), .val (.int (0 : Int32)), .val (.ref b407), .val (.ref b427), .val (.ref b441), .val (.int (1 : Int32)), .val (.ref b427), .val (.int (1 : Int32)), .unset, .unset, .unset, .unset] [(.int (1 : Int32))])) _
        refine XS.istore X521.here hx rfl (hb hby at_149) rfl (l' := #[.val (.long f1), .second, .val (.long f2), .second, .val (.long c1), .second, .val (.long c2), .second, .val (.int fl), .val (.int (1 : Int32)), .val (.int (1 : Int32)), .val (.int (0 : Int32)), .val (.ref b407), .val (.ref b427), .val (.ref b441), .val (.int (1 : Int32)), .val (.ref b427), .val (.int (1 : Int32)), .unset, .unset, .unset, .unset]) rfl ?_
        refine XS.iload X521.here hx rfl (hb hby at_151) rfl ?_
        refine XS.ifYes X521.here hx rfl (pc0 := 153) (pc' := 164) rfl (hb hby at_153) rfl ((if0 _ _).trans (teq rfl).1) (by decide) (by decide) ?_
        refine XS.iload X521.here hx rfl (hb hby at_164) rfl ?_
        refine XS.ifNo X521.here hx rfl (hb hby at_166) rfl ((if0 _ _).trans (feq (by decide)).1) ?_
        refine XS.iconst X521.here hx rfl (hb hby at_169) ?_
        show Steps p.tables e below (T521.setTop (mkF m 170 #[.val (.long f1), .second, .val (.long f2), .second, .val (.long c1), .second, .val (.long c2), .second, .val (.int fl), .val (.int (1 : Int32)), .val (.int (1 : Int32)), .val (.int (0 : Int32)), .val (.ref b407), .val (.ref b427), .val (.ref b441), .val (.int (1 : Int32)), .val (.ref b427), .val (.int (1 : Int32)), .unset, .unset, .unset, .unset] [(.int (1 : Int32))])) _
        refine XS.goto X521.here hx rfl (pc0 := 170) (pc' := 174) rfl (hb hby at_170) (by decide) (by decide) ?_
        refine XS.istore X521.here hx rfl (hb hby at_174) rfl (l' := #[.val (.long f1), .second, .val (.long f2), .second, .val (.long c1), .second, .val (.long c2), .second, .val (.int fl), .val (.int (1 : Int32)), .val (.int (1 : Int32)), .val (.int (0 : Int32)), .val (.ref b407), .val (.ref b427), .val (.ref b441), .val (.int (1 : Int32)), .val (.ref b427), .val (.int (1 : Int32)), .val (.int (1 : Int32)), .unset, .unset, .unset]) rfl ?_
        refine XS.iload X521.here hx rfl (hb hby at_176) rfl ?_
        refine XS.aload X521.here hx rfl (hb hby at_178) rfl rfl ?_
        exact kt
      have f532 := (f520.keep K521q)
      obtain ⟨cq531, kq531, q531a, q531b, q531c⟩ := isOf hZ e521 f532
      obtain ⟨_, _, ⟨T531, L531, k531, n531⟩, -, X531, ⟨Lc531, hQ531, l531, y531, z531⟩, st531⟩ := X521.virtualBack hx (y := (⟨"tidegate/operator/Crossings", "waiting", "()Z"⟩ : MethodName)) (z := (⟨"tidegate/operator/Crossings", "waiting", "()Z"⟩ : MethodName)) hown (mvT hZ (hw _ (List.mem_of_getElem? (i := 74) rfl))) (mvT hZ (hw _ (List.mem_of_getElem? (i := 75) rfl))) (notFace_of_selects (args := #[]) (mvT hZ (hw _ (List.mem_of_getElem? (i := 77) rfl)))) (mvT hZ (hw _ (List.mem_of_getElem? (i := 77) rfl))) (mvT hZ (hw _ (List.mem_of_getElem? (i := 76) rfl))) (by decide) (backOf (W := 1) (rm_wt0 l Z a0 hw [] b407 b456 h521 n0 z527 F522 F524) hZ (hw _ (List.mem_of_getElem? (i := 78) rfl)) (hw _ (List.mem_of_getElem? (i := 2) rfl)) (by decide) (by decide)) q531a q531c (g := (mkF m 180 #[.val (.long f1), .second, .val (.long f2), .second, .val (.long c1), .second, .val (.long c2), .second, .val (.int fl), .val (.int (1 : Int32)), .val (.int (1 : Int32)), .val (.int (0 : Int32)), .val (.ref b407), .val (.ref b427), .val (.ref b441), .val (.int (1 : Int32)), .val (.ref b427), .val (.int (1 : Int32)), .val (.int (1 : Int32)), .unset, .unset, .unset] [(.ref b407), (.int (1 : Int32))])) rfl (by rw [hml]; rfl) (Steps.refl _) (argsL := []) (rest := [(.int (1 : Int32))]) (lenOf pd_3 rfl) rfl (by show 2 * 0 + _ ≤ _; exact Nat.le_of_eq rfl) (hb hby at_180) (fun _ _ => ⟨rfl, e521, (by decide : 27 + 0 ≤ _), (by decide : 46 + 0 ≤ _)⟩)
      dsimp only [Pt.U, Pt.locs, Pt.cells, Pt.slots] at X531 l531 y531 z531 st531 hQ531
      subst l531 y531 z531
      obtain ⟨rfl, N531q, e531⟩ := hQ531
      have N531 := Fr.app N521 N531q
      have S533 : ∀ t, Steps p.tables e below (T531.setTop (mkF m 204 #[.val (.long f1), .second, .val (.long f2), .second, .val (.long c1), .second, .val (.long c2), .second, .val (.int fl), .val (.int (1 : Int32)), .val (.int (1 : Int32)), .val (.int (0 : Int32)), .val (.ref b407), .val (.ref b427), .val (.ref b441), .val (.int (1 : Int32)), .val (.ref b427), .val (.int (1 : Int32)), .val (.int (1 : Int32)), .unset, .unset, .unset] [(.int ((1 : Int32) &&& (1 : Int32)))])) t → Steps p.tables e below (T531.setTop (mkF m 183 #[.val (.long f1), .second, .val (.long f2), .second, .val (.long c1), .second, .val (.long c2), .second, .val (.int fl), .val (.int (1 : Int32)), .val (.int (1 : Int32)), .val (.int (0 : Int32)), .val (.ref b407), .val (.ref b427), .val (.ref b441), .val (.int (1 : Int32)), .val (.ref b427), .val (.int (1 : Int32)), .val (.int (1 : Int32)), .unset, .unset, .unset] [(.int (0 : Int32)), (.int (1 : Int32))])) t := by
        intro t kt
        show Steps p.tables e below (T531.setTop (mkF m 183 #[.val (.long f1), .second, .val (.long f2), .second, .val (.long c1), .second, .val (.long c2), .second, .val (.int fl), .val (.int (1 : Int32)), .val (.int (1 : Int32)), .val (.int (0 : Int32)), .val (.ref b407), .val (.ref b427), .val (.ref b441), .val (.int (1 : Int32)), .val (.ref b427), .val (.int (1 : Int32)), .val (.int (1 : Int32)), .unset, .unset, .unset] [(.int (0 : Int32)), (.int (1 : Int32))])) _
        refine XS.iload X531.here hx rfl (hb hby at_183) rfl ?_
        refine XS.iload X531.here hx rfl (hb hby at_185) rfl ?_
        refine XS.icmpYes X531.here hx rfl (pc0 := 187) (pc' := 194) rfl (hb hby at_187) rfl (flt (by decide)).2.1 (by decide) (by decide) ?_
        refine XS.iconst X531.here hx rfl (hb hby at_194) ?_
        refine XS.icmpNo X531.here hx rfl (hb hby at_195) rfl (teq rfl).2 ?_
        refine XS.iconst X531.here hx rfl (hb hby at_198) ?_
        show Steps p.tables e below (T531.setTop (mkF m 199 #[.val (.long f1), .second, .val (.long f2), .second, .val (.long c1), .second, .val (.long c2), .second, .val (.int fl), .val (.int (1 : Int32)), .val (.int (1 : Int32)), .val (.int (0 : Int32)), .val (.ref b407), .val (.ref b427), .val (.ref b441), .val (.int (1 : Int32)), .val (.ref b427), .val (.int (1 : Int32)), .val (.int (1 : Int32)), .unset, .unset, .unset] [(.int (1 : Int32)), (.int (1 : Int32))])) _
        refine XS.goto X531.here hx rfl (pc0 := 199) (pc' := 203) rfl (hb hby at_199) (by decide) (by decide) ?_
        refine XS.iand X531.here hx rfl (hb hby at_203) rfl ?_
        exact kt
      have S534 : ∀ t, Steps p.tables e below (T531.setTop (mkF m 204 #[.val (.long f1), .second, .val (.long f2), .second, .val (.long c1), .second, .val (.long c2), .second, .val (.int fl), .val (.int (1 : Int32)), .val (.int (1 : Int32)), .val (.int (0 : Int32)), .val (.ref b407), .val (.ref b427), .val (.ref b441), .val (.int (1 : Int32)), .val (.ref b427), .val (.int (1 : Int32)), .val (.int (1 : Int32)), .unset, .unset, .unset] [(.int (1 : Int32))])) t → Steps p.tables e below (T531.setTop (mkF m 204 #[.val (.long f1), .second, .val (.long f2), .second, .val (.long c1), .second, .val (.long c2), .second, .val (.int fl), .val (.int (1 : Int32)), .val (.int (1 : Int32)), .val (.int (0 : Int32)), .val (.ref b407), .val (.ref b427), .val (.ref b441), .val (.int (1 : Int32)), .val (.ref b427), .val (.int (1 : Int32)), .val (.int (1 : Int32)), .unset, .unset, .unset] [(.int ((1 : Int32) &&& (1 : Int32)))])) t := fun t k => by rw [(show ((1 : Int32) &&& (1 : Int32)) = (1 : Int32) from by decide)]; exact k
      have S535 : ∀ t, Steps p.tables e below (T531.setTop (mkF m 210 #[.val (.long f1), .second, .val (.long f2), .second, .val (.long c1), .second, .val (.long c2), .second, .val (.int fl), .val (.int (1 : Int32)), .val (.int (1 : Int32)), .val (.int (0 : Int32)), .val (.ref b407), .val (.ref b427), .val (.ref b441), .val (.int (1 : Int32)), .val (.ref b427), .val (.int (1 : Int32)), .val (.int (1 : Int32)), .unset, .unset, .unset] [(.long c2), (.ref b407)])) t → Steps p.tables e below (T531.setTop (mkF m 204 #[.val (.long f1), .second, .val (.long f2), .second, .val (.long c1), .second, .val (.long c2), .second, .val (.int fl), .val (.int (1 : Int32)), .val (.int (1 : Int32)), .val (.int (0 : Int32)), .val (.ref b407), .val (.ref b427), .val (.ref b441), .val (.int (1 : Int32)), .val (.ref b427), .val (.int (1 : Int32)), .val (.int (1 : Int32)), .unset, .unset, .unset] [(.int (1 : Int32))])) t := by
        intro t kt
        show Steps p.tables e below (T531.setTop (mkF m 204 #[.val (.long f1), .second, .val (.long f2), .second, .val (.long c1), .second, .val (.long c2), .second, .val (.int fl), .val (.int (1 : Int32)), .val (.int (1 : Int32)), .val (.int (0 : Int32)), .val (.ref b407), .val (.ref b427), .val (.ref b441), .val (.int (1 : Int32)), .val (.ref b427), .val (.int (1 : Int32)), .val (.int (1 : Int32)), .unset, .unset, .unset] [(.int (1 : Int32))])) _
        refine XS.istore X531.here hx rfl (hb hby at_204) rfl (l' := #[.val (.long f1), .second, .val (.long f2), .second, .val (.long c1), .second, .val (.long c2), .second, .val (.int fl), .val (.int (1 : Int32)), .val (.int (1 : Int32)), .val (.int (0 : Int32)), .val (.ref b407), .val (.ref b427), .val (.ref b441), .val (.int (1 : Int32)), .val (.ref b427), .val (.int (1 : Int32)), .val (.int (1 : Int32)), .unset, .unset, .unset]) rfl ?_
        refine XS.aload X531.here hx rfl (hb hby at_206) rfl rfl ?_
        refine XS.lload X531.here hx rfl (hb hby at_208) rfl ?_
        exact kt
      obtain ⟨cq536, kq536, q536a, q536b, q536c⟩ := isOf hZ e531 f532
      obtain ⟨_, _, ⟨T536, L536, k536, n536⟩, -, X536, ⟨Lc536, hQ536, l536, y536, z536⟩, st536⟩ := X531.virtualBack hx (y := (⟨"tidegate/operator/Crossings", "take", "(J)Ltidegate/operator/StageFunctions;"⟩ : MethodName)) (z := (⟨"tidegate/operator/Crossings", "take", "(J)Ltidegate/operator/StageFunctions;"⟩ : MethodName)) hown (mvT hZ (hw _ (List.mem_of_getElem? (i := 68) rfl))) (mvT hZ (hw _ (List.mem_of_getElem? (i := 69) rfl))) (notFace_of_selects (args := #[]) (mvT hZ (hw _ (List.mem_of_getElem? (i := 71) rfl)))) (mvT hZ (hw _ (List.mem_of_getElem? (i := 71) rfl))) (mvT hZ (hw _ (List.mem_of_getElem? (i := 70) rfl))) (by decide) (backOf (W := 0) (rm_tk0 l Z a0 hw [] b407 c2 b456 h521 n0 z527 F522 F524) hZ (hw _ (List.mem_of_getElem? (i := 72) rfl)) (hw _ (List.mem_of_getElem? (i := 2) rfl)) (by decide) (by decide)) q536a q536c (g := (mkF m 210 #[.val (.long f1), .second, .val (.long f2), .second, .val (.long c1), .second, .val (.long c2), .second, .val (.int fl), .val (.int (1 : Int32)), .val (.int (1 : Int32)), .val (.int (0 : Int32)), .val (.ref b407), .val (.ref b427), .val (.ref b441), .val (.int (1 : Int32)), .val (.ref b427), .val (.int (1 : Int32)), .val (.int (1 : Int32)), .unset, .unset, .unset] [(.long c2), (.ref b407)])) rfl (by rw [hml]; rfl) (Steps.refl _) (argsL := [(.long c2)]) (rest := []) (lenOf pd_2 rfl) rfl (by show 2 * 0 + _ ≤ _; exact Nat.le_of_eq rfl) (hb hby at_210) (fun _ _ => ⟨rfl, e531, (by decide : 27 + 0 ≤ _), (by decide : 46 + 0 ≤ _)⟩)
      dsimp only [Pt.U, Pt.locs, Pt.cells, Pt.slots] at X536 l536 y536 z536 st536 hQ536
      subst l536 y536 z536
      obtain ⟨rfl, N536q, e536⟩ := hQ536
      have N536 := Fr.app N531 N536q
      have S537 : ∀ t, Steps p.tables e below (T536.setTop (mkF m 280 #[.val (.long f1), .second, .val (.long f2), .second, .val (.long c1), .second, .val (.long c2), .second, .val (.int fl), .val (.int (1 : Int32)), .val (.int (1 : Int32)), .val (.int (0 : Int32)), .val (.ref b407), .val (.ref b427), .val (.ref b441), .val (.int (1 : Int32)), .val (.ref b427), .val (.int (1 : Int32)), .val (.int (1 : Int32)), .val .null, .val .null, .unset] [(.int ((1 : Int32) &&& (1 : Int32)))])) t → Steps p.tables e below (T536.setTop (mkF m 213 #[.val (.long f1), .second, .val (.long f2), .second, .val (.long c1), .second, .val (.long c2), .second, .val (.int fl), .val (.int (1 : Int32)), .val (.int (1 : Int32)), .val (.int (0 : Int32)), .val (.ref b407), .val (.ref b427), .val (.ref b441), .val (.int (1 : Int32)), .val (.ref b427), .val (.int (1 : Int32)), .val (.int (1 : Int32)), .unset, .unset, .unset] [.null])) t := by
        intro t kt
        show Steps p.tables e below (T536.setTop (mkF m 213 #[.val (.long f1), .second, .val (.long f2), .second, .val (.long c1), .second, .val (.long c2), .second, .val (.int fl), .val (.int (1 : Int32)), .val (.int (1 : Int32)), .val (.int (0 : Int32)), .val (.ref b407), .val (.ref b427), .val (.ref b441), .val (.int (1 : Int32)), .val (.ref b427), .val (.int (1 : Int32)), .val (.int (1 : Int32)), .unset, .unset, .unset] [.null])) _
        refine XS.astore X536.here hx rfl (hb hby at_213) rfl rfl (l' := #[.val (.long f1), .second, .val (.long f2), .second, .val (.long c1), .second, .val (.long c2), .second, .val (.int fl), .val (.int (1 : Int32)), .val (.int (1 : Int32)), .val (.int (0 : Int32)), .val (.ref b407), .val (.ref b427), .val (.ref b441), .val (.int (1 : Int32)), .val (.ref b427), .val (.int (1 : Int32)), .val (.int (1 : Int32)), .val .null, .unset, .unset]) rfl ?_
        refine XS.iload X536.here hx rfl (hb hby at_215) rfl ?_
        refine XS.ifNo X536.here hx rfl (hb hby at_217) rfl ((if0 _ _).trans (feq (by decide)).1) ?_
        refine XS.iload X536.here hx rfl (hb hby at_220) rfl ?_
        refine XS.iconst X536.here hx rfl (hb hby at_222) ?_
        refine XS.icmpYes X536.here hx rfl (pc0 := 223) (pc' := 238) rfl (hb hby at_223) rfl (feq (by decide)).2 (by decide) (by decide) ?_
        show Steps p.tables e below (T536.setTop (mkF m 238 #[.val (.long f1), .second, .val (.long f2), .second, .val (.long c1), .second, .val (.long c2), .second, .val (.int fl), .val (.int (1 : Int32)), .val (.int (1 : Int32)), .val (.int (0 : Int32)), .val (.ref b407), .val (.ref b427), .val (.ref b441), .val (.int (1 : Int32)), .val (.ref b427), .val (.int (1 : Int32)), .val (.int (1 : Int32)), .val .null, .unset, .unset] [])) _
        refine XS.aconstNull X536.here hx rfl (hb hby at_238) ?_
        refine XS.astore X536.here hx rfl (hb hby at_239) rfl rfl (l' := #[.val (.long f1), .second, .val (.long f2), .second, .val (.long c1), .second, .val (.long c2), .second, .val (.int fl), .val (.int (1 : Int32)), .val (.int (1 : Int32)), .val (.int (0 : Int32)), .val (.ref b407), .val (.ref b427), .val (.ref b441), .val (.int (1 : Int32)), .val (.ref b427), .val (.int (1 : Int32)), .val (.int (1 : Int32)), .val .null, .val .null, .unset]) rfl ?_
        refine XS.goto X536.here hx rfl (pc0 := 241) (pc' := 265) rfl (hb hby at_241) (by decide) (by decide) ?_
        refine XS.iload X536.here hx rfl (hb hby at_265) rfl ?_
        refine XS.aload X536.here hx rfl (hb hby at_267) rfl rfl ?_
        refine XS.aload X536.here hx rfl (hb hby at_269) rfl rfl ?_
        show Steps p.tables e below (T536.setTop (mkF m 271 #[.val (.long f1), .second, .val (.long f2), .second, .val (.long c1), .second, .val (.long c2), .second, .val (.int fl), .val (.int (1 : Int32)), .val (.int (1 : Int32)), .val (.int (0 : Int32)), .val (.ref b407), .val (.ref b427), .val (.ref b441), .val (.int (1 : Int32)), .val (.ref b427), .val (.int (1 : Int32)), .val (.int (1 : Int32)), .val .null, .val .null, .unset] [.null, .null, (.int (1 : Int32))])) _
        refine Jvm.RoadKit.acmp (g := (mkF m 271 #[.val (.long f1), .second, .val (.long f2), .second, .val (.long c1), .second, .val (.long c2), .second, .val (.int fl), .val (.int (1 : Int32)), .val (.int (1 : Int32)), .val (.int (0 : Int32)), .val (.ref b407), .val (.ref b427), .val (.ref b441), .val (.int (1 : Int32)), .val (.ref b427), .val (.int (1 : Int32)), .val (.int (1 : Int32)), .val .null, .val .null, .unset] [.null, .null, (.int (1 : Int32))])) X536 hx rfl rfl rfl (pc0 := 271) (pc' := 274) (same := true) rfl (hb hby at_271) rfl (decide_eq_true rfl) (by decide) (by decide) ?_
        refine XS.iconst X536.here hx rfl (hb hby at_274) ?_
        refine XS.goto X536.here hx rfl (pc0 := 275) (pc' := 279) rfl (hb hby at_275) (by decide) (by decide) ?_
        refine XS.iand X536.here hx rfl (hb hby at_279) rfl ?_
        exact kt
      have S538 : ∀ t, Steps p.tables e below (T536.setTop (mkF m 280 #[.val (.long f1), .second, .val (.long f2), .second, .val (.long c1), .second, .val (.long c2), .second, .val (.int fl), .val (.int (1 : Int32)), .val (.int (1 : Int32)), .val (.int (0 : Int32)), .val (.ref b407), .val (.ref b427), .val (.ref b441), .val (.int (1 : Int32)), .val (.ref b427), .val (.int (1 : Int32)), .val (.int (1 : Int32)), .val .null, .val .null, .unset] [(.int (1 : Int32))])) t → Steps p.tables e below (T536.setTop (mkF m 280 #[.val (.long f1), .second, .val (.long f2), .second, .val (.long c1), .second, .val (.long c2), .second, .val (.int fl), .val (.int (1 : Int32)), .val (.int (1 : Int32)), .val (.int (0 : Int32)), .val (.ref b407), .val (.ref b427), .val (.ref b441), .val (.int (1 : Int32)), .val (.ref b427), .val (.int (1 : Int32)), .val (.int (1 : Int32)), .val .null, .val .null, .unset] [(.int ((1 : Int32) &&& (1 : Int32)))])) t := fun t k => by rw [(show ((1 : Int32) &&& (1 : Int32)) = (1 : Int32) from by decide)]; exact k
      have S539 : ∀ t, Steps p.tables e below (T536.setTop (mkF m 295 #[.val (.long f1), .second, .val (.long f2), .second, .val (.long c1), .second, .val (.long c2), .second, .val (.int fl), .val (.int (1 : Int32)), .val (.int (1 : Int32)), .val (.int (0 : Int32)), .val (.ref b407), .val (.ref b427), .val (.ref b441), .val (.int (1 : Int32)), .val (.ref b427), .val (.int (1 : Int32)), .val (.int (1 : Int32)), .val .null, .val .null, .unset] [(.int ((1 : Int32) + (0 : Int32)))])) t → Steps p.tables e below (T536.setTop (mkF m 280 #[.val (.long f1), .second, .val (.long f2), .second, .val (.long c1), .second, .val (.long c2), .second, .val (.int fl), .val (.int (1 : Int32)), .val (.int (1 : Int32)), .val (.int (0 : Int32)), .val (.ref b407), .val (.ref b427), .val (.ref b441), .val (.int (1 : Int32)), .val (.ref b427), .val (.int (1 : Int32)), .val (.int (1 : Int32)), .val .null, .val .null, .unset] [(.int (1 : Int32))])) t := by
        intro t kt
        show Steps p.tables e below (T536.setTop (mkF m 280 #[.val (.long f1), .second, .val (.long f2), .second, .val (.long c1), .second, .val (.long c2), .second, .val (.int fl), .val (.int (1 : Int32)), .val (.int (1 : Int32)), .val (.int (0 : Int32)), .val (.ref b407), .val (.ref b427), .val (.ref b441), .val (.int (1 : Int32)), .val (.ref b427), .val (.int (1 : Int32)), .val (.int (1 : Int32)), .val .null, .val .null, .unset] [(.int (1 : Int32))])) _
        refine XS.istore X536.here hx rfl (hb hby at_280) rfl (l' := #[.val (.long f1), .second, .val (.long f2), .second, .val (.long c1), .second, .val (.long c2), .second, .val (.int fl), .val (.int (1 : Int32)), .val (.int (1 : Int32)), .val (.int (0 : Int32)), .val (.ref b407), .val (.ref b427), .val (.ref b441), .val (.int (1 : Int32)), .val (.ref b427), .val (.int (1 : Int32)), .val (.int (1 : Int32)), .val .null, .val .null, .unset]) rfl ?_
        refine XS.iload X536.here hx rfl (hb hby at_282) rfl ?_
        refine XS.aload X536.here hx rfl (hb hby at_284) rfl rfl ?_
        refine XS.ifnullYes X536.here hx rfl (pc0 := 286) (pc' := 293) rfl (hb hby at_286) rfl (by decide) (by decide) ?_
        refine XS.iconst X536.here hx rfl (hb hby at_293) ?_
        refine XS.iadd X536.here hx rfl (hb hby at_294) rfl ?_
        exact kt
      have S540 : ∀ t, Steps p.tables e below (T536.setTop (mkF m 295 #[.val (.long f1), .second, .val (.long f2), .second, .val (.long c1), .second, .val (.long c2), .second, .val (.int fl), .val (.int (1 : Int32)), .val (.int (1 : Int32)), .val (.int (0 : Int32)), .val (.ref b407), .val (.ref b427), .val (.ref b441), .val (.int (1 : Int32)), .val (.ref b427), .val (.int (1 : Int32)), .val (.int (1 : Int32)), .val .null, .val .null, .unset] [(.int (1 : Int32))])) t → Steps p.tables e below (T536.setTop (mkF m 295 #[.val (.long f1), .second, .val (.long f2), .second, .val (.long c1), .second, .val (.long c2), .second, .val (.int fl), .val (.int (1 : Int32)), .val (.int (1 : Int32)), .val (.int (0 : Int32)), .val (.ref b407), .val (.ref b427), .val (.ref b441), .val (.int (1 : Int32)), .val (.ref b427), .val (.int (1 : Int32)), .val (.int (1 : Int32)), .val .null, .val .null, .unset] [(.int ((1 : Int32) + (0 : Int32)))])) t := fun t k => by rw [(show ((1 : Int32) + (0 : Int32)) = (1 : Int32) from by decide)]; exact k
      have S541 : ∀ t, Steps p.tables e below (T536.setTop (mkF m 301 #[.val (.long f1), .second, .val (.long f2), .second, .val (.long c1), .second, .val (.long c2), .second, .val (.int fl), .val (.int (1 : Int32)), .val (.int (1 : Int32)), .val (.int (0 : Int32)), .val (.ref b407), .val (.ref b427), .val (.ref b441), .val (.int (1 : Int32)), .val (.ref b427), .val (.int (1 : Int32)), .val (.int (1 : Int32)), .val .null, .val .null, .val (.int (1 : Int32))] [(.ref b407), (.int (1 : Int32))])) t → Steps p.tables e below (T536.setTop (mkF m 295 #[.val (.long f1), .second, .val (.long f2), .second, .val (.long c1), .second, .val (.long c2), .second, .val (.int fl), .val (.int (1 : Int32)), .val (.int (1 : Int32)), .val (.int (0 : Int32)), .val (.ref b407), .val (.ref b427), .val (.ref b441), .val (.int (1 : Int32)), .val (.ref b427), .val (.int (1 : Int32)), .val (.int (1 : Int32)), .val .null, .val .null, .unset] [(.int (1 : Int32))])) t := by
        intro t kt
        show Steps p.tables e below (T536.setTop (mkF m 295 #[.val (.long f1), .second, .val (.long f2), .second, .val (.long c1), .second, .val (.long c2), .second, .val (.int fl), .val (.int (1 : Int32)), .val (.int (1 : Int32)), .val (.int (0 : Int32)), .val (.ref b407), .val (.ref b427), .val (.ref b441), .val (.int (1 : Int32)), .val (.ref b427), .val (.int (1 : Int32)), .val (.int (1 : Int32)), .val .null, .val .null, .unset] [(.int (1 : Int32))])) _
        refine XS.istore X536.here hx rfl (hb hby at_295) rfl (l' := #[.val (.long f1), .second, .val (.long f2), .second, .val (.long c1), .second, .val (.long c2), .second, .val (.int fl), .val (.int (1 : Int32)), .val (.int (1 : Int32)), .val (.int (0 : Int32)), .val (.ref b407), .val (.ref b427), .val (.ref b441), .val (.int (1 : Int32)), .val (.ref b427), .val (.int (1 : Int32)), .val (.int (1 : Int32)), .val .null, .val .null, .val (.int (1 : Int32))]) rfl ?_
        refine XS.iload X536.here hx rfl (hb hby at_297) rfl ?_
        refine XS.aload X536.here hx rfl (hb hby at_299) rfl rfl ?_
        exact kt
      obtain ⟨cq542, kq542, q542a, q542b, q542c⟩ := isOf hZ e536 f532
      obtain ⟨_, _, ⟨T542, L542, k542, n542⟩, -, X542, ⟨Lc542, hQ542, l542, y542, z542⟩, st542⟩ := X536.virtualBack hx (y := (⟨"tidegate/operator/Crossings", "waiting", "()Z"⟩ : MethodName)) (z := (⟨"tidegate/operator/Crossings", "waiting", "()Z"⟩ : MethodName)) hown (mvT hZ (hw _ (List.mem_of_getElem? (i := 74) rfl))) (mvT hZ (hw _ (List.mem_of_getElem? (i := 75) rfl))) (notFace_of_selects (args := #[]) (mvT hZ (hw _ (List.mem_of_getElem? (i := 77) rfl)))) (mvT hZ (hw _ (List.mem_of_getElem? (i := 77) rfl))) (mvT hZ (hw _ (List.mem_of_getElem? (i := 76) rfl))) (by decide) (backOf (W := 1) (rm_wt0 l Z a0 hw [] b407 b456 h521 n0 z527 F522 F524) hZ (hw _ (List.mem_of_getElem? (i := 78) rfl)) (hw _ (List.mem_of_getElem? (i := 2) rfl)) (by decide) (by decide)) q542a q542c (g := (mkF m 301 #[.val (.long f1), .second, .val (.long f2), .second, .val (.long c1), .second, .val (.long c2), .second, .val (.int fl), .val (.int (1 : Int32)), .val (.int (1 : Int32)), .val (.int (0 : Int32)), .val (.ref b407), .val (.ref b427), .val (.ref b441), .val (.int (1 : Int32)), .val (.ref b427), .val (.int (1 : Int32)), .val (.int (1 : Int32)), .val .null, .val .null, .val (.int (1 : Int32))] [(.ref b407), (.int (1 : Int32))])) rfl (by rw [hml]; rfl) (Steps.refl _) (argsL := []) (rest := [(.int (1 : Int32))]) (lenOf pd_3 rfl) rfl (by show 2 * 0 + _ ≤ _; exact Nat.le_of_eq rfl) (hb hby at_301) (fun _ _ => ⟨rfl, e536, (by decide : 27 + 0 ≤ _), (by decide : 46 + 0 ≤ _)⟩)
      dsimp only [Pt.U, Pt.locs, Pt.cells, Pt.slots] at X542 l542 y542 z542 st542 hQ542
      subst l542 y542 z542
      obtain ⟨rfl, N542q, e542⟩ := hQ542
      have N542 := Fr.app N536 N542q
      have S543 : ∀ t, Steps p.tables e below (T542.setTop (mkF m 325 #[.val (.long f1), .second, .val (.long f2), .second, .val (.long c1), .second, .val (.long c2), .second, .val (.int fl), .val (.int (1 : Int32)), .val (.int (1 : Int32)), .val (.int (0 : Int32)), .val (.ref b407), .val (.ref b427), .val (.ref b441), .val (.int (1 : Int32)), .val (.ref b427), .val (.int (1 : Int32)), .val (.int (1 : Int32)), .val .null, .val .null, .val (.int (1 : Int32))] [(.int ((1 : Int32) &&& (1 : Int32)))])) t → Steps p.tables e below (T542.setTop (mkF m 304 #[.val (.long f1), .second, .val (.long f2), .second, .val (.long c1), .second, .val (.long c2), .second, .val (.int fl), .val (.int (1 : Int32)), .val (.int (1 : Int32)), .val (.int (0 : Int32)), .val (.ref b407), .val (.ref b427), .val (.ref b441), .val (.int (1 : Int32)), .val (.ref b427), .val (.int (1 : Int32)), .val (.int (1 : Int32)), .val .null, .val .null, .val (.int (1 : Int32))] [(.int (0 : Int32)), (.int (1 : Int32))])) t := by
        intro t kt
        show Steps p.tables e below (T542.setTop (mkF m 304 #[.val (.long f1), .second, .val (.long f2), .second, .val (.long c1), .second, .val (.long c2), .second, .val (.int fl), .val (.int (1 : Int32)), .val (.int (1 : Int32)), .val (.int (0 : Int32)), .val (.ref b407), .val (.ref b427), .val (.ref b441), .val (.int (1 : Int32)), .val (.ref b427), .val (.int (1 : Int32)), .val (.int (1 : Int32)), .val .null, .val .null, .val (.int (1 : Int32))] [(.int (0 : Int32)), (.int (1 : Int32))])) _
        refine XS.iload X542.here hx rfl (hb hby at_304) rfl ?_
        refine XS.iload X542.here hx rfl (hb hby at_306) rfl ?_
        refine XS.icmpYes X542.here hx rfl (pc0 := 308) (pc' := 315) rfl (hb hby at_308) rfl (flt (by decide)).2.1 (by decide) (by decide) ?_
        refine XS.iconst X542.here hx rfl (hb hby at_315) ?_
        refine XS.icmpNo X542.here hx rfl (hb hby at_316) rfl (teq rfl).2 ?_
        refine XS.iconst X542.here hx rfl (hb hby at_319) ?_
        show Steps p.tables e below (T542.setTop (mkF m 320 #[.val (.long f1), .second, .val (.long f2), .second, .val (.long c1), .second, .val (.long c2), .second, .val (.int fl), .val (.int (1 : Int32)), .val (.int (1 : Int32)), .val (.int (0 : Int32)), .val (.ref b407), .val (.ref b427), .val (.ref b441), .val (.int (1 : Int32)), .val (.ref b427), .val (.int (1 : Int32)), .val (.int (1 : Int32)), .val .null, .val .null, .val (.int (1 : Int32))] [(.int (1 : Int32)), (.int (1 : Int32))])) _
        refine XS.goto X542.here hx rfl (pc0 := 320) (pc' := 324) rfl (hb hby at_320) (by decide) (by decide) ?_
        refine XS.iand X542.here hx rfl (hb hby at_324) rfl ?_
        exact kt
      have S544 : ∀ t, Steps p.tables e below (T542.setTop (mkF m 325 #[.val (.long f1), .second, .val (.long f2), .second, .val (.long c1), .second, .val (.long c2), .second, .val (.int fl), .val (.int (1 : Int32)), .val (.int (1 : Int32)), .val (.int (0 : Int32)), .val (.ref b407), .val (.ref b427), .val (.ref b441), .val (.int (1 : Int32)), .val (.ref b427), .val (.int (1 : Int32)), .val (.int (1 : Int32)), .val .null, .val .null, .val (.int (1 : Int32))] [(.int (1 : Int32))])) t → Steps p.tables e below (T542.setTop (mkF m 325 #[.val (.long f1), .second, .val (.long f2), .second, .val (.long c1), .second, .val (.long c2), .second, .val (.int fl), .val (.int (1 : Int32)), .val (.int (1 : Int32)), .val (.int (0 : Int32)), .val (.ref b407), .val (.ref b427), .val (.ref b441), .val (.int (1 : Int32)), .val (.ref b427), .val (.int (1 : Int32)), .val (.int (1 : Int32)), .val .null, .val .null, .val (.int (1 : Int32))] [(.int ((1 : Int32) &&& (1 : Int32)))])) t := fun t k => by rw [(show ((1 : Int32) &&& (1 : Int32)) = (1 : Int32) from by decide)]; exact k
      have S545 : ∀ t, Steps p.tables e below (T542.setTop (mkF m 329 #[.val (.long f1), .second, .val (.long f2), .second, .val (.long c1), .second, .val (.long c2), .second, .val (.int fl), .val (.int (1 : Int32)), .val (.int (1 : Int32)), .val (.int (0 : Int32)), .val (.ref b407), .val (.ref b427), .val (.ref b441), .val (.int (1 : Int32)), .val (.ref b427), .val (.int (1 : Int32)), .val (.int (1 : Int32)), .val .null, .val .null, .val (.int (1 : Int32))] [(.int (1 : Int32))])) t → Steps p.tables e below (T542.setTop (mkF m 325 #[.val (.long f1), .second, .val (.long f2), .second, .val (.long c1), .second, .val (.long c2), .second, .val (.int fl), .val (.int (1 : Int32)), .val (.int (1 : Int32)), .val (.int (0 : Int32)), .val (.ref b407), .val (.ref b427), .val (.ref b441), .val (.int (1 : Int32)), .val (.ref b427), .val (.int (1 : Int32)), .val (.int (1 : Int32)), .val .null, .val .null, .val (.int (1 : Int32))] [(.int (1 : Int32))])) t := by
        intro t kt
        show Steps p.tables e below (T542.setTop (mkF m 325 #[.val (.long f1), .second, .val (.long f2), .second, .val (.long c1), .second, .val (.long c2), .second, .val (.int fl), .val (.int (1 : Int32)), .val (.int (1 : Int32)), .val (.int (0 : Int32)), .val (.ref b407), .val (.ref b427), .val (.ref b441), .val (.int (1 : Int32)), .val (.ref b427), .val (.int (1 : Int32)), .val (.int (1 : Int32)), .val .null, .val .null, .val (.int (1 : Int32))] [(.int (1 : Int32))])) _
        refine XS.istore X542.here hx rfl (hb hby at_325) rfl (l' := #[.val (.long f1), .second, .val (.long f2), .second, .val (.long c1), .second, .val (.long c2), .second, .val (.int fl), .val (.int (1 : Int32)), .val (.int (1 : Int32)), .val (.int (0 : Int32)), .val (.ref b407), .val (.ref b427), .val (.ref b441), .val (.int (1 : Int32)), .val (.ref b427), .val (.int (1 : Int32)), .val (.int (1 : Int32)), .val .null, .val .null, .val (.int (1 : Int32))]) rfl ?_
        refine XS.iload X542.here hx rfl (hb hby at_327) rfl ?_
        exact kt
      have C546 : ∀ t, Steps p.tables e below (T542.setTop (mkF m 329 #[.val (.long f1), .second, .val (.long f2), .second, .val (.long c1), .second, .val (.long c2), .second, .val (.int fl), .val (.int (1 : Int32)), .val (.int (1 : Int32)), .val (.int (0 : Int32)), .val (.ref b407), .val (.ref b427), .val (.ref b441), .val (.int (1 : Int32)), .val (.ref b427), .val (.int (1 : Int32)), .val (.int (1 : Int32)), .val .null, .val .null, .val (.int (1 : Int32))] [(.int (1 : Int32))])) t → Steps p.tables e below (s₁.setTop (mkF m 0 #[.val (.long f1), .second, .val (.long f2), .second, .val (.long c1), .second, .val (.long c2), .second, .val (.int fl), .unset, .unset, .unset, .unset, .unset, .unset, .unset, .unset, .unset, .unset, .unset, .unset, .unset] [])) t := (fun t k => (C330 t (S405 t (S406 t (st407 t (S420 t (st421.trans (S426 t (st427 t (S437 t (st438.trans (S440 t (st441 t (S453 t (st454.trans (S467 t (st468.trans (S479 t (st521.trans (S528 t (S529 t (S530 t (st531.trans (S533 t (S534 t (S535 t (st536.trans (S537 t (S538 t (S539 t (S540 t (S541 t (st542.trans (S543 t (S544 t (S545 t k))))))))))))))))))))))))))))))))))))
      obtain ⟨fs, hr, hrun, hended, hW, hsame⟩ := X542.leave (v := some (.int (1 : Int32))) (fun h => by rw [Bd.returns] at h; cases h)
      refine ⟨_, _, pre0 _ (C546 _ ?_), hrun, hended, _, _, rfl, ?_, ⟨_, rfl⟩, hW, hsame.mono (by decide) (by decide)⟩
      · exact retN X542 hx (t := .boolean) Bd.returns (by simp) (hb hby at_329) hr
      · show Q_rm0 Z f1 f2 c1 c2 fl h0 n0 _ T542.heap _
        rw [e542]
        exact ⟨rfl, N542⟩
  · have S547 : ∀ t, Steps p.tables e below (s₁.setTop (mkF m 4 #[.val (.long f1), .second, .val (.long f2), .second, .val (.long c1), .second, .val (.long c2), .second, .val (.int fl), .unset, .unset, .unset, .unset, .unset, .unset, .unset, .unset, .unset, .unset, .unset, .unset, .unset] [(.int (2 : Int32))])) t → Steps p.tables e below (s₁.setTop (mkF m 4 #[.val (.long f1), .second, .val (.long f2), .second, .val (.long c1), .second, .val (.long c2), .second, .val (.int fl), .unset, .unset, .unset, .unset, .unset, .unset, .unset, .unset, .unset, .unset, .unset, .unset, .unset] [(.int v327)])) t := fun t k => by rw [qv327]; exact k
    have S548 : ∀ t, Steps p.tables e below (s₁.setTop (mkF m 33 #[.val (.long f1), .second, .val (.long f2), .second, .val (.long c1), .second, .val (.long c2), .second, .val (.int fl), .val (.int (2 : Int32)), .val (.int (2 : Int32)), .val (.int (0 : Int32)), .unset, .unset, .unset, .unset, .unset, .unset, .unset, .unset, .unset, .unset] [])) t → Steps p.tables e below (s₁.setTop (mkF m 4 #[.val (.long f1), .second, .val (.long f2), .second, .val (.long c1), .second, .val (.long c2), .second, .val (.int fl), .unset, .unset, .unset, .unset, .unset, .unset, .unset, .unset, .unset, .unset, .unset, .unset, .unset] [(.int (2 : Int32))])) t := by
      intro t kt
      show Steps p.tables e below (s₁.setTop (mkF m 4 #[.val (.long f1), .second, .val (.long f2), .second, .val (.long c1), .second, .val (.long c2), .second, .val (.int fl), .unset, .unset, .unset, .unset, .unset, .unset, .unset, .unset, .unset, .unset, .unset, .unset, .unset] [(.int (2 : Int32))])) _
      refine XS.istore X0.here hx rfl (hb hby at_4) rfl (l' := #[.val (.long f1), .second, .val (.long f2), .second, .val (.long c1), .second, .val (.long c2), .second, .val (.int fl), .val (.int (2 : Int32)), .unset, .unset, .unset, .unset, .unset, .unset, .unset, .unset, .unset, .unset, .unset, .unset]) rfl ?_
      refine XS.iload X0.here hx rfl (hb hby at_6) rfl ?_
      refine XS.iconst X0.here hx rfl (hb hby at_8) ?_
      refine XS.icmpYes X0.here hx rfl (pc0 := 9) (pc' := 16) rfl (hb hby at_9) rfl (feq (by decide)).2 (by decide) (by decide) ?_
      refine XS.iload X0.here hx rfl (hb hby at_16) rfl ?_
      refine XS.istore X0.here hx rfl (hb hby at_18) rfl (l' := #[.val (.long f1), .second, .val (.long f2), .second, .val (.long c1), .second, .val (.long c2), .second, .val (.int fl), .val (.int (2 : Int32)), .val (.int (2 : Int32)), .unset, .unset, .unset, .unset, .unset, .unset, .unset, .unset, .unset, .unset, .unset]) rfl ?_
      show Steps p.tables e below (s₁.setTop (mkF m 20 #[.val (.long f1), .second, .val (.long f2), .second, .val (.long c1), .second, .val (.long c2), .second, .val (.int fl), .val (.int (2 : Int32)), .val (.int (2 : Int32)), .unset, .unset, .unset, .unset, .unset, .unset, .unset, .unset, .unset, .unset, .unset] [])) _
      refine XS.iload X0.here hx rfl (hb hby at_20) rfl ?_
      refine XS.iconst X0.here hx rfl (hb hby at_22) ?_
      refine XS.icmpYes X0.here hx rfl (pc0 := 23) (pc' := 30) rfl (hb hby at_23) rfl (feq (by decide)).2 (by decide) (by decide) ?_
      refine XS.iconst X0.here hx rfl (hb hby at_30) ?_
      refine XS.istore X0.here hx rfl (hb hby at_31) rfl (l' := #[.val (.long f1), .second, .val (.long f2), .second, .val (.long c1), .second, .val (.long c2), .second, .val (.int fl), .val (.int (2 : Int32)), .val (.int (2 : Int32)), .val (.int (0 : Int32)), .unset, .unset, .unset, .unset, .unset, .unset, .unset, .unset, .unset, .unset]) rfl ?_
      exact kt
    obtain ⟨T549, h549, X549, e549, E549, A549, D549, -, st549⟩ := newO X0 hx hZ hown (hw _ (List.mem_of_getElem? (i := 0) rfl)) (hw _ (List.mem_of_getElem? (i := 1) rfl)) (hw _ (List.mem_of_getElem? (i := 2) rfl)) e0 (g := (mkF m 33 #[.val (.long f1), .second, .val (.long f2), .second, .val (.long c1), .second, .val (.long c2), .second, .val (.int fl), .val (.int (2 : Int32)), .val (.int (2 : Int32)), .val (.int (0 : Int32)), .unset, .unset, .unset, .unset, .unset, .unset, .unset, .unset, .unset, .unset] [])) rfl (hb hby at_33) (by decide) (by decide)
    obtain ⟨b549, g549⟩ : ∃ z, z = h0.size := ⟨_, rfl⟩
    rw [← g549] at A549 D549 st549
    have g_b549 : n0 ≤ b549 := Nat.le_trans Z0 (Nat.le_of_eq g549.symm)
    have z550 : n0 ≤ h549.size := Nat.le_trans Z0 E549.1
    have F551 : Fld Z h549 b549 "tidegate/operator/Crossings" "added" "Ltidegate/operator/Crossings$Batch;" .null := D549 (Or.inl (hw _ (List.mem_of_getElem? (i := 21) rfl))) (ty := (.object "tidegate/operator/Crossings$Batch")) (by decide)
    have F552 : Fld Z h549 b549 "tidegate/operator/Crossings" "taken" "Ltidegate/operator/Crossings$Batch;" .null := D549 (Or.inl (hw _ (List.mem_of_getElem? (i := 23) rfl))) (ty := (.object "tidegate/operator/Crossings$Batch")) (by decide)
    have S562 : ∀ t, Steps p.tables e below (T549.setTop (mkF m 37 #[.val (.long f1), .second, .val (.long f2), .second, .val (.long c1), .second, .val (.long c2), .second, .val (.int fl), .val (.int (2 : Int32)), .val (.int (2 : Int32)), .val (.int (0 : Int32)), .unset, .unset, .unset, .unset, .unset, .unset, .unset, .unset, .unset, .unset] [(.ref b549), (.ref b549)])) t → Steps p.tables e below (T549.setTop (mkF m 36 #[.val (.long f1), .second, .val (.long f2), .second, .val (.long c1), .second, .val (.long c2), .second, .val (.int fl), .val (.int (2 : Int32)), .val (.int (2 : Int32)), .val (.int (0 : Int32)), .unset, .unset, .unset, .unset, .unset, .unset, .unset, .unset, .unset, .unset] [(.ref b549)])) t := by
      intro t kt
      show Steps p.tables e below (T549.setTop (mkF m 36 #[.val (.long f1), .second, .val (.long f2), .second, .val (.long c1), .second, .val (.long c2), .second, .val (.int fl), .val (.int (2 : Int32)), .val (.int (2 : Int32)), .val (.int (0 : Int32)), .unset, .unset, .unset, .unset, .unset, .unset, .unset, .unset, .unset, .unset] [(.ref b549)])) _
      refine XS.dup X549.here hx rfl (hb hby at_36) rfl rfl ?_
      exact kt
    obtain ⟨_, _, ⟨T563, L563, k563, n563⟩, -, X563, ⟨Lc563, hQ563, l563, y563, z563⟩, st563⟩ := X549.specialBack hx (y := (⟨"tidegate/operator/Crossings", "<init>", "()V"⟩ : MethodName)) rfl hown (mvT hZ (hw _ (List.mem_of_getElem? (i := 3) rfl))) (mvT hZ (hw _ (List.mem_of_getElem? (i := 4) rfl))) (mvT hZ (hw _ (List.mem_of_getElem? (i := 5) rfl))) (by decide) (backOf (W := 1) (rm1 l Z a0 hw [] b549 h549 n0 z550 A549 F551 F552 g_b549) hZ (hw _ (List.mem_of_getElem? (i := 5) rfl)) (hw _ (List.mem_of_getElem? (i := 2) rfl)) (by decide) (by decide)) (g := (mkF m 37 #[.val (.long f1), .second, .val (.long f2), .second, .val (.long c1), .second, .val (.long c2), .second, .val (.int fl), .val (.int (2 : Int32)), .val (.int (2 : Int32)), .val (.int (0 : Int32)), .unset, .unset, .unset, .unset, .unset, .unset, .unset, .unset, .unset, .unset] [(.ref b549), (.ref b549)])) rfl (by rw [hml]; rfl) (Steps.refl _) (a := b549) (argsL := []) (rest := [(.ref b549)]) (lenOf pd_1 rfl) rfl (by show 2 * 0 + _ ≤ _; exact Nat.le_of_eq rfl) (hb hby at_37) (fun _ _ => ⟨rfl, e549, (by decide : 1 + 1 ≤ _), (by decide : 2 + 3 ≤ _)⟩)
    dsimp only [Pt.U, Pt.locs, Pt.cells, Pt.slots] at X563 l563 y563 z563 st563 hQ563
    subst l563 y563 z563
    obtain ⟨h563, e563⟩ : ∃ z, T563.heap = z := ⟨_, rfl⟩
    rw [e563] at hQ563
    obtain ⟨b553, rfl, N563q, K563q, hge554, F557, F558, F559, qq555, uu556, F564, F565, F566⟩ := hQ563
    have z567 : n0 ≤ h563.size := Nat.le_trans z550 K563q.1
    have N563 := Fr.app N0 N563q
    have g_b553 : n0 ≤ b553 := Nat.le_trans z550 hge554
    have ne_b549_b553 : b549 ≠ b553 := Nat.ne_of_lt (Nat.lt_of_lt_of_le A549.lt hge554)
    have S568 : ∀ t, Steps p.tables e below (T563.setTop (mkF m 42 #[.val (.long f1), .second, .val (.long f2), .second, .val (.long c1), .second, .val (.long c2), .second, .val (.int fl), .val (.int (2 : Int32)), .val (.int (2 : Int32)), .val (.int (0 : Int32)), .val (.ref b549), .unset, .unset, .unset, .unset, .unset, .unset, .unset, .unset, .unset] [])) t → Steps p.tables e below (T563.setTop (mkF m 40 #[.val (.long f1), .second, .val (.long f2), .second, .val (.long c1), .second, .val (.long c2), .second, .val (.int fl), .val (.int (2 : Int32)), .val (.int (2 : Int32)), .val (.int (0 : Int32)), .unset, .unset, .unset, .unset, .unset, .unset, .unset, .unset, .unset, .unset] [(.ref b549)])) t := by
      intro t kt
      show Steps p.tables e below (T563.setTop (mkF m 40 #[.val (.long f1), .second, .val (.long f2), .second, .val (.long c1), .second, .val (.long c2), .second, .val (.int fl), .val (.int (2 : Int32)), .val (.int (2 : Int32)), .val (.int (0 : Int32)), .unset, .unset, .unset, .unset, .unset, .unset, .unset, .unset, .unset, .unset] [(.ref b549)])) _
      refine XS.astore X563.here hx rfl (hb hby at_40) rfl rfl (l' := #[.val (.long f1), .second, .val (.long f2), .second, .val (.long c1), .second, .val (.long c2), .second, .val (.int fl), .val (.int (2 : Int32)), .val (.int (2 : Int32)), .val (.int (0 : Int32)), .val (.ref b549), .unset, .unset, .unset, .unset, .unset, .unset, .unset, .unset, .unset]) rfl ?_
      exact kt
    obtain ⟨T569, h569, X569, e569, E569, A569, D569, -, st569⟩ := newO X563 hx hZ hown (hw _ (List.mem_of_getElem? (i := 24) rfl)) (hw _ (List.mem_of_getElem? (i := 25) rfl)) (hw _ (List.mem_of_getElem? (i := 26) rfl)) e563 (g := (mkF m 42 #[.val (.long f1), .second, .val (.long f2), .second, .val (.long c1), .second, .val (.long c2), .second, .val (.int fl), .val (.int (2 : Int32)), .val (.int (2 : Int32)), .val (.int (0 : Int32)), .val (.ref b549), .unset, .unset, .unset, .unset, .unset, .unset, .unset, .unset, .unset] [])) rfl (hb hby at_42) (by decide) (by decide)
    obtain ⟨b569, g569⟩ : ∃ z, z = h563.size := ⟨_, rfl⟩
    rw [← g569] at A569 D569 st569
    have g_b569 : n0 ≤ b569 := Nat.le_trans z567 (Nat.le_of_eq g569.symm)
    have f570 := (A549.keep K563q)
    have ne_b549_b569 : b549 ≠ b569 := Nat.ne_of_lt (Nat.lt_of_lt_of_le f570.lt (Nat.le_of_eq g569.symm))
    have ne_b553_b569 : b553 ≠ b569 := Nat.ne_of_lt (Nat.lt_of_lt_of_le F557.lt (Nat.le_of_eq g569.symm))
    have z571 : n0 ≤ h569.size := Nat.le_trans z567 E569.1
    have F572 : Fld Z h569 b569 "tidegate/operator/StageFunctions" "kinds" "[Ltidegate/operator/OperatorPublisher$Kind;" .null := D569 (Or.inl (hw _ (List.mem_of_getElem? (i := 34) rfl))) (ty := (.array (.object "tidegate/operator/OperatorPublisher$Kind"))) (by decide)
    have F573 : Fld Z h569 b569 "tidegate/operator/StageFunctions" "entries" "[Ljava/lang/Object;" .null := D569 (Or.inl (hw _ (List.mem_of_getElem? (i := 38) rfl))) (ty := (.array (.object "java/lang/Object"))) (by decide)
    have F574 : Fld Z h569 b569 "tidegate/operator/StageFunctions" "stages" "[Ljava/lang/String;" .null := D569 (Or.inl (hw _ (List.mem_of_getElem? (i := 42) rfl))) (ty := (.array (.object "java/lang/String"))) (by decide)
    have F575 : Fld Z h569 b569 "tidegate/operator/StageFunctions" "counting" "Ltidegate/operator/StageFunctions$Indices;" .null := D569 (Or.inr (hw _ (List.mem_of_getElem? (i := 54) rfl))) (ty := (.object "tidegate/operator/StageFunctions$Indices")) (by decide)
    have F576 : Fld Z h569 b569 "tidegate/operator/StageFunctions" "shaping" "Ltidegate/operator/StageFunctions$Indices;" .null := D569 (Or.inr (hw _ (List.mem_of_getElem? (i := 56) rfl))) (ty := (.object "tidegate/operator/StageFunctions$Indices")) (by decide)
    have F577 : Fld Z h569 b569 "tidegate/operator/StageFunctions" "producers" "Ltidegate/operator/StageFunctions$Indices;" .null := D569 (Or.inr (hw _ (List.mem_of_getElem? (i := 58) rfl))) (ty := (.object "tidegate/operator/StageFunctions$Indices")) (by decide)
    have F578 : Fld Z h569 b569 "tidegate/operator/StageFunctions" "referees" "Ltidegate/operator/StageFunctions$Indices;" .null := D569 (Or.inr (hw _ (List.mem_of_getElem? (i := 60) rfl))) (ty := (.object "tidegate/operator/StageFunctions$Indices")) (by decide)
    have S579 : ∀ t, Steps p.tables e below (T569.setTop (mkF m 46 #[.val (.long f1), .second, .val (.long f2), .second, .val (.long c1), .second, .val (.long c2), .second, .val (.int fl), .val (.int (2 : Int32)), .val (.int (2 : Int32)), .val (.int (0 : Int32)), .val (.ref b549), .unset, .unset, .unset, .unset, .unset, .unset, .unset, .unset, .unset] [(.ref b569), (.ref b569)])) t → Steps p.tables e below (T569.setTop (mkF m 45 #[.val (.long f1), .second, .val (.long f2), .second, .val (.long c1), .second, .val (.long c2), .second, .val (.int fl), .val (.int (2 : Int32)), .val (.int (2 : Int32)), .val (.int (0 : Int32)), .val (.ref b549), .unset, .unset, .unset, .unset, .unset, .unset, .unset, .unset, .unset] [(.ref b569)])) t := by
      intro t kt
      show Steps p.tables e below (T569.setTop (mkF m 45 #[.val (.long f1), .second, .val (.long f2), .second, .val (.long c1), .second, .val (.long c2), .second, .val (.int fl), .val (.int (2 : Int32)), .val (.int (2 : Int32)), .val (.int (0 : Int32)), .val (.ref b549), .unset, .unset, .unset, .unset, .unset, .unset, .unset, .unset, .unset] [(.ref b569)])) _
      refine XS.dup X569.here hx rfl (hb hby at_45) rfl rfl ?_
      exact kt
    obtain ⟨_, _, ⟨T580, L580, k580, n580⟩, -, X580, ⟨Lc580, hQ580, l580, y580, z580⟩, st580⟩ := X569.specialBack hx (y := (⟨"tidegate/operator/StageFunctions", "<init>", "()V"⟩ : MethodName)) rfl hown (mvT hZ (hw _ (List.mem_of_getElem? (i := 27) rfl))) (mvT hZ (hw _ (List.mem_of_getElem? (i := 28) rfl))) (mvT hZ (hw _ (List.mem_of_getElem? (i := 29) rfl))) (by decide) (backOf (W := 1) (rm4 l Z a0 hw [] b569 h569 n0 z571 A569 F572 F573 F574 F575 F576 F577 F578 g_b569) hZ (hw _ (List.mem_of_getElem? (i := 29) rfl)) (hw _ (List.mem_of_getElem? (i := 26) rfl)) (by decide) (by decide)) (g := (mkF m 46 #[.val (.long f1), .second, .val (.long f2), .second, .val (.long c1), .second, .val (.long c2), .second, .val (.int fl), .val (.int (2 : Int32)), .val (.int (2 : Int32)), .val (.int (0 : Int32)), .val (.ref b549), .unset, .unset, .unset, .unset, .unset, .unset, .unset, .unset, .unset] [(.ref b569), (.ref b569)])) rfl (by rw [hml]; rfl) (Steps.refl _) (a := b569) (argsL := []) (rest := [(.ref b569)]) (lenOf pd_1 rfl) rfl (by show 2 * 0 + _ ≤ _; exact Nat.le_of_eq rfl) (hb hby at_46) (fun _ _ => ⟨rfl, e569, (by decide : 3 + 11 ≤ _), (by decide : 16 + 8 ≤ _)⟩)
    dsimp only [Pt.U, Pt.locs, Pt.cells, Pt.slots] at X580 l580 y580 z580 st580 hQ580
    subst l580 y580 z580
    obtain ⟨h580, e580⟩ : ∃ z, T580.heap = z := ⟨_, rfl⟩
    rw [e580] at hQ580
    obtain ⟨rfl, N580q, K580q⟩ := hQ580
    have z581 : n0 ≤ h580.size := Nat.le_trans z571 K580q.1
    have N580 := Fr.app N563 N580q
    have S582 : ∀ t, Steps p.tables e below (T580.setTop (mkF m 51 #[.val (.long f1), .second, .val (.long f2), .second, .val (.long c1), .second, .val (.long c2), .second, .val (.int fl), .val (.int (2 : Int32)), .val (.int (2 : Int32)), .val (.int (0 : Int32)), .val (.ref b549), .val (.ref b569), .unset, .unset, .unset, .unset, .unset, .unset, .unset, .unset] [])) t → Steps p.tables e below (T580.setTop (mkF m 49 #[.val (.long f1), .second, .val (.long f2), .second, .val (.long c1), .second, .val (.long c2), .second, .val (.int fl), .val (.int (2 : Int32)), .val (.int (2 : Int32)), .val (.int (0 : Int32)), .val (.ref b549), .unset, .unset, .unset, .unset, .unset, .unset, .unset, .unset, .unset] [(.ref b569)])) t := by
      intro t kt
      show Steps p.tables e below (T580.setTop (mkF m 49 #[.val (.long f1), .second, .val (.long f2), .second, .val (.long c1), .second, .val (.long c2), .second, .val (.int fl), .val (.int (2 : Int32)), .val (.int (2 : Int32)), .val (.int (0 : Int32)), .val (.ref b549), .unset, .unset, .unset, .unset, .unset, .unset, .unset, .unset, .unset] [(.ref b569)])) _
      refine XS.astore X580.here hx rfl (hb hby at_49) rfl rfl (l' := #[.val (.long f1), .second, .val (.long f2), .second, .val (.long c1), .second, .val (.long c2), .second, .val (.int fl), .val (.int (2 : Int32)), .val (.int (2 : Int32)), .val (.int (0 : Int32)), .val (.ref b549), .val (.ref b569), .unset, .unset, .unset, .unset, .unset, .unset, .unset, .unset]) rfl ?_
      exact kt
    obtain ⟨T583, h583, X583, e583, E583, A583, D583, -, st583⟩ := newO X580 hx hZ hown (hw _ (List.mem_of_getElem? (i := 24) rfl)) (hw _ (List.mem_of_getElem? (i := 25) rfl)) (hw _ (List.mem_of_getElem? (i := 26) rfl)) e580 (g := (mkF m 51 #[.val (.long f1), .second, .val (.long f2), .second, .val (.long c1), .second, .val (.long c2), .second, .val (.int fl), .val (.int (2 : Int32)), .val (.int (2 : Int32)), .val (.int (0 : Int32)), .val (.ref b549), .val (.ref b569), .unset, .unset, .unset, .unset, .unset, .unset, .unset, .unset] [])) rfl (hb hby at_51) (by decide) (by decide)
    obtain ⟨b583, g583⟩ : ∃ z, z = h580.size := ⟨_, rfl⟩
    rw [← g583] at A583 D583 st583
    have g_b583 : n0 ≤ b583 := Nat.le_trans z581 (Nat.le_of_eq g583.symm)
    have f584 := ((f570.ext E569).keep K580q)
    have ne_b549_b583 : b549 ≠ b583 := Nat.ne_of_lt (Nat.lt_of_lt_of_le f584.lt (Nat.le_of_eq g583.symm))
    have f585 := ((F557.ext E569).keep K580q)
    have ne_b553_b583 : b553 ≠ b583 := Nat.ne_of_lt (Nat.lt_of_lt_of_le f585.lt (Nat.le_of_eq g583.symm))
    have f586 := (A569.keep K580q)
    have ne_b569_b583 : b569 ≠ b583 := Nat.ne_of_lt (Nat.lt_of_lt_of_le f586.lt (Nat.le_of_eq g583.symm))
    have z587 : n0 ≤ h583.size := Nat.le_trans z581 E583.1
    have F588 : Fld Z h583 b583 "tidegate/operator/StageFunctions" "kinds" "[Ltidegate/operator/OperatorPublisher$Kind;" .null := D583 (Or.inl (hw _ (List.mem_of_getElem? (i := 34) rfl))) (ty := (.array (.object "tidegate/operator/OperatorPublisher$Kind"))) (by decide)
    have F589 : Fld Z h583 b583 "tidegate/operator/StageFunctions" "entries" "[Ljava/lang/Object;" .null := D583 (Or.inl (hw _ (List.mem_of_getElem? (i := 38) rfl))) (ty := (.array (.object "java/lang/Object"))) (by decide)
    have F590 : Fld Z h583 b583 "tidegate/operator/StageFunctions" "stages" "[Ljava/lang/String;" .null := D583 (Or.inl (hw _ (List.mem_of_getElem? (i := 42) rfl))) (ty := (.array (.object "java/lang/String"))) (by decide)
    have F591 : Fld Z h583 b583 "tidegate/operator/StageFunctions" "counting" "Ltidegate/operator/StageFunctions$Indices;" .null := D583 (Or.inr (hw _ (List.mem_of_getElem? (i := 54) rfl))) (ty := (.object "tidegate/operator/StageFunctions$Indices")) (by decide)
    have F592 : Fld Z h583 b583 "tidegate/operator/StageFunctions" "shaping" "Ltidegate/operator/StageFunctions$Indices;" .null := D583 (Or.inr (hw _ (List.mem_of_getElem? (i := 56) rfl))) (ty := (.object "tidegate/operator/StageFunctions$Indices")) (by decide)
    have F593 : Fld Z h583 b583 "tidegate/operator/StageFunctions" "producers" "Ltidegate/operator/StageFunctions$Indices;" .null := D583 (Or.inr (hw _ (List.mem_of_getElem? (i := 58) rfl))) (ty := (.object "tidegate/operator/StageFunctions$Indices")) (by decide)
    have F594 : Fld Z h583 b583 "tidegate/operator/StageFunctions" "referees" "Ltidegate/operator/StageFunctions$Indices;" .null := D583 (Or.inr (hw _ (List.mem_of_getElem? (i := 60) rfl))) (ty := (.object "tidegate/operator/StageFunctions$Indices")) (by decide)
    have S595 : ∀ t, Steps p.tables e below (T583.setTop (mkF m 55 #[.val (.long f1), .second, .val (.long f2), .second, .val (.long c1), .second, .val (.long c2), .second, .val (.int fl), .val (.int (2 : Int32)), .val (.int (2 : Int32)), .val (.int (0 : Int32)), .val (.ref b549), .val (.ref b569), .unset, .unset, .unset, .unset, .unset, .unset, .unset, .unset] [(.ref b583), (.ref b583)])) t → Steps p.tables e below (T583.setTop (mkF m 54 #[.val (.long f1), .second, .val (.long f2), .second, .val (.long c1), .second, .val (.long c2), .second, .val (.int fl), .val (.int (2 : Int32)), .val (.int (2 : Int32)), .val (.int (0 : Int32)), .val (.ref b549), .val (.ref b569), .unset, .unset, .unset, .unset, .unset, .unset, .unset, .unset] [(.ref b583)])) t := by
      intro t kt
      show Steps p.tables e below (T583.setTop (mkF m 54 #[.val (.long f1), .second, .val (.long f2), .second, .val (.long c1), .second, .val (.long c2), .second, .val (.int fl), .val (.int (2 : Int32)), .val (.int (2 : Int32)), .val (.int (0 : Int32)), .val (.ref b549), .val (.ref b569), .unset, .unset, .unset, .unset, .unset, .unset, .unset, .unset] [(.ref b583)])) _
      refine XS.dup X583.here hx rfl (hb hby at_54) rfl rfl ?_
      exact kt
    obtain ⟨_, _, ⟨T596, L596, k596, n596⟩, -, X596, ⟨Lc596, hQ596, l596, y596, z596⟩, st596⟩ := X583.specialBack hx (y := (⟨"tidegate/operator/StageFunctions", "<init>", "()V"⟩ : MethodName)) rfl hown (mvT hZ (hw _ (List.mem_of_getElem? (i := 27) rfl))) (mvT hZ (hw _ (List.mem_of_getElem? (i := 28) rfl))) (mvT hZ (hw _ (List.mem_of_getElem? (i := 29) rfl))) (by decide) (backOf (W := 1) (rm4 l Z a0 hw [] b583 h583 n0 z587 A583 F588 F589 F590 F591 F592 F593 F594 g_b583) hZ (hw _ (List.mem_of_getElem? (i := 29) rfl)) (hw _ (List.mem_of_getElem? (i := 26) rfl)) (by decide) (by decide)) (g := (mkF m 55 #[.val (.long f1), .second, .val (.long f2), .second, .val (.long c1), .second, .val (.long c2), .second, .val (.int fl), .val (.int (2 : Int32)), .val (.int (2 : Int32)), .val (.int (0 : Int32)), .val (.ref b549), .val (.ref b569), .unset, .unset, .unset, .unset, .unset, .unset, .unset, .unset] [(.ref b583), (.ref b583)])) rfl (by rw [hml]; rfl) (Steps.refl _) (a := b583) (argsL := []) (rest := [(.ref b583)]) (lenOf pd_1 rfl) rfl (by show 2 * 0 + _ ≤ _; exact Nat.le_of_eq rfl) (hb hby at_55) (fun _ _ => ⟨rfl, e583, (by decide : 15 + 11 ≤ _), (by decide : 35 + 8 ≤ _)⟩)
    dsimp only [Pt.U, Pt.locs, Pt.cells, Pt.slots] at X596 l596 y596 z596 st596 hQ596
    subst l596 y596 z596
    obtain ⟨h596, e596⟩ : ∃ z, T596.heap = z := ⟨_, rfl⟩
    rw [e596] at hQ596
    obtain ⟨rfl, N596q, K596q⟩ := hQ596
    have z597 : n0 ≤ h596.size := Nat.le_trans z587 K596q.1
    have N596 := Fr.app N580 N596q
    have f600 := ((f584.ext E583).keep K596q)
    have f601 := ((f585.ext E583).keep K596q)
    have f602 := ((f586.ext E583).keep K596q)
    have f603 := (A583.keep K596q)
    have f604 := ((((F558.ext E569).keep K580q (ninS ne_b549_b569 nin0)).ext E583).keep K596q (ninS ne_b549_b583 nin0))
    have f605 := ((((F559.ext E569).keep K580q (ninS ne_b549_b569 nin0)).ext E583).keep K596q (ninS ne_b549_b583 nin0))
    have f606 := ((((F566.ext E569).keep K580q (ninS ne_b553_b569 nin0)).ext E583).keep K596q (ninS ne_b553_b583 nin0))
    have f607 := ((((F564.ext E569).keep K580q (ninS ne_b553_b569 nin0)).ext E583).keep K596q (ninS ne_b553_b583 nin0))
    have f608 := ((((F565.ext E569).keep K580q (ninS ne_b553_b569 nin0)).ext E583).keep K596q (ninS ne_b553_b583 nin0))
    have S609 : ∀ t, Steps p.tables e below (T596.setTop (mkF m 71 #[.val (.long f1), .second, .val (.long f2), .second, .val (.long c1), .second, .val (.long c2), .second, .val (.int fl), .val (.int (2 : Int32)), .val (.int (2 : Int32)), .val (.int (0 : Int32)), .val (.ref b549), .val (.ref b569), .val (.ref b583), .unset, .unset, .unset, .unset, .unset, .unset, .unset] [(.ref b569), (.long f1), (.ref b549)])) t → Steps p.tables e below (T596.setTop (mkF m 58 #[.val (.long f1), .second, .val (.long f2), .second, .val (.long c1), .second, .val (.long c2), .second, .val (.int fl), .val (.int (2 : Int32)), .val (.int (2 : Int32)), .val (.int (0 : Int32)), .val (.ref b549), .val (.ref b569), .unset, .unset, .unset, .unset, .unset, .unset, .unset, .unset] [(.ref b583)])) t := by
      intro t kt
      show Steps p.tables e below (T596.setTop (mkF m 58 #[.val (.long f1), .second, .val (.long f2), .second, .val (.long c1), .second, .val (.long c2), .second, .val (.int fl), .val (.int (2 : Int32)), .val (.int (2 : Int32)), .val (.int (0 : Int32)), .val (.ref b549), .val (.ref b569), .unset, .unset, .unset, .unset, .unset, .unset, .unset, .unset] [(.ref b583)])) _
      refine XS.astore X596.here hx rfl (hb hby at_58) rfl rfl (l' := #[.val (.long f1), .second, .val (.long f2), .second, .val (.long c1), .second, .val (.long c2), .second, .val (.int fl), .val (.int (2 : Int32)), .val (.int (2 : Int32)), .val (.int (0 : Int32)), .val (.ref b549), .val (.ref b569), .val (.ref b583), .unset, .unset, .unset, .unset, .unset, .unset, .unset]) rfl ?_
      refine XS.iload X596.here hx rfl (hb hby at_60) rfl ?_
      refine XS.iconst X596.here hx rfl (hb hby at_62) ?_
      refine XS.icmpNo X596.here hx rfl (hb hby at_63) rfl (flt (by decide)).1 ?_
      refine XS.aload X596.here hx rfl (hb hby at_66) rfl rfl ?_
      refine XS.lloadN X596.here hx rfl (hb hby at_68) rfl ?_
      show Steps p.tables e below (T596.setTop (mkF m 69 #[.val (.long f1), .second, .val (.long f2), .second, .val (.long c1), .second, .val (.long c2), .second, .val (.int fl), .val (.int (2 : Int32)), .val (.int (2 : Int32)), .val (.int (0 : Int32)), .val (.ref b549), .val (.ref b569), .val (.ref b583), .unset, .unset, .unset, .unset, .unset, .unset, .unset] [(.long f1), (.ref b549)])) _
      refine XS.aload X596.here hx rfl (hb hby at_69) rfl rfl ?_
      exact kt
    obtain ⟨cq610, kq610, q610a, q610b, q610c⟩ := isOf hZ e596 f600
    obtain ⟨_, _, ⟨T610, L610, k610, n610⟩, -, X610, ⟨Lc610, hQ610, l610, y610, z610⟩, st610⟩ := X596.virtualBack hx (y := (⟨"tidegate/operator/Crossings", "add", "(JLtidegate/operator/StageFunctions;)V"⟩ : MethodName)) (z := (⟨"tidegate/operator/Crossings", "add", "(JLtidegate/operator/StageFunctions;)V"⟩ : MethodName)) hown (mvT hZ (hw _ (List.mem_of_getElem? (i := 61) rfl))) (mvT hZ (hw _ (List.mem_of_getElem? (i := 62) rfl))) (notFace_of_selects (args := #[]) (mvT hZ (hw _ (List.mem_of_getElem? (i := 64) rfl)))) (mvT hZ (hw _ (List.mem_of_getElem? (i := 64) rfl))) (mvT hZ (hw _ (List.mem_of_getElem? (i := 63) rfl))) (by decide) (backOf (W := 0) (rm6 l Z a0 hw [] b549 f1 b569 b553 b553 qq555 uu556 h596 n0 z597 f600 f604 f605 f601 f606 f607 f608 g_b549 g_b553 ne_b549_b553) hZ (hw _ (List.mem_of_getElem? (i := 65) rfl)) (hw _ (List.mem_of_getElem? (i := 2) rfl)) (by decide) (by decide)) q610a q610c (g := (mkF m 71 #[.val (.long f1), .second, .val (.long f2), .second, .val (.long c1), .second, .val (.long c2), .second, .val (.int fl), .val (.int (2 : Int32)), .val (.int (2 : Int32)), .val (.int (0 : Int32)), .val (.ref b549), .val (.ref b569), .val (.ref b583), .unset, .unset, .unset, .unset, .unset, .unset, .unset] [(.ref b569), (.long f1), (.ref b549)])) rfl (by rw [hml]; rfl) (Steps.refl _) (argsL := [(.long f1), (.ref b569)]) (rest := []) (lenOf pd_0 rfl) rfl (by show 2 * 0 + _ ≤ _; exact Nat.le_of_eq rfl) (hb hby at_71) (fun _ _ => ⟨rfl, e596, (by decide : 26 + 1 ≤ _), (by decide : 43 + 3 ≤ _)⟩)
    dsimp only [Pt.U, Pt.locs, Pt.cells, Pt.slots] at X610 l610 y610 z610 st610 hQ610
    subst l610 y610 z610
    obtain ⟨h610, e610⟩ : ∃ z, T610.heap = z := ⟨_, rfl⟩
    rw [e610] at hQ610
    obtain ⟨b598, rfl, N610q, K610q, hge599, F611, F612, F613, F614, F615, F616, F617, F618, F619⟩ := hQ610
    have z620 : n0 ≤ h610.size := Nat.le_trans z597 K610q.1
    have N610 := Fr.app N596 N610q
    have g_b598 : n0 ≤ b598 := Nat.le_trans z597 hge599
    have ne_b549_b598 : b549 ≠ b598 := Nat.ne_of_lt (Nat.lt_of_lt_of_le f600.lt hge599)
    have ne_b553_b598 : b553 ≠ b598 := Nat.ne_of_lt (Nat.lt_of_lt_of_le f601.lt hge599)
    have ne_b569_b598 : b569 ≠ b598 := Nat.ne_of_lt (Nat.lt_of_lt_of_le f602.lt hge599)
    have ne_b583_b598 : b583 ≠ b598 := Nat.ne_of_lt (Nat.lt_of_lt_of_le f603.lt hge599)
    have f623 := (f600.keep K610q)
    have f624 := (f601.keep K610q)
    have f625 := (f602.keep K610q)
    have f626 := (f603.keep K610q)
    have S627 : ∀ t, Steps p.tables e below (T610.setTop (mkF m 90 #[.val (.long f1), .second, .val (.long f2), .second, .val (.long c1), .second, .val (.long c2), .second, .val (.int fl), .val (.int (2 : Int32)), .val (.int (2 : Int32)), .val (.int (0 : Int32)), .val (.ref b549), .val (.ref b569), .val (.ref b583), .unset, .unset, .unset, .unset, .unset, .unset, .unset] [(.ref b583), (.long f2), (.ref b549)])) t → Steps p.tables e below (T610.setTop (mkF m 74 #[.val (.long f1), .second, .val (.long f2), .second, .val (.long c1), .second, .val (.long c2), .second, .val (.int fl), .val (.int (2 : Int32)), .val (.int (2 : Int32)), .val (.int (0 : Int32)), .val (.ref b549), .val (.ref b569), .val (.ref b583), .unset, .unset, .unset, .unset, .unset, .unset, .unset] [])) t := by
      intro t kt
      show Steps p.tables e below (T610.setTop (mkF m 74 #[.val (.long f1), .second, .val (.long f2), .second, .val (.long c1), .second, .val (.long c2), .second, .val (.int fl), .val (.int (2 : Int32)), .val (.int (2 : Int32)), .val (.int (0 : Int32)), .val (.ref b549), .val (.ref b569), .val (.ref b583), .unset, .unset, .unset, .unset, .unset, .unset, .unset] [])) _
      refine XS.iload X610.here hx rfl (hb hby at_74) rfl ?_
      refine XS.iconst X610.here hx rfl (hb hby at_76) ?_
      refine XS.icmpNo X610.here hx rfl (hb hby at_77) rfl (teq rfl).2 ?_
      refine XS.iload X610.here hx rfl (hb hby at_80) rfl ?_
      refine XS.ifNo X610.here hx rfl (hb hby at_82) rfl ((if0 _ _).trans (teq rfl).2) ?_
      refine XS.aload X610.here hx rfl (hb hby at_85) rfl rfl ?_
      show Steps p.tables e below (T610.setTop (mkF m 87 #[.val (.long f1), .second, .val (.long f2), .second, .val (.long c1), .second, .val (.long c2), .second, .val (.int fl), .val (.int (2 : Int32)), .val (.int (2 : Int32)), .val (.int (0 : Int32)), .val (.ref b549), .val (.ref b569), .val (.ref b583), .unset, .unset, .unset, .unset, .unset, .unset, .unset] [(.ref b549)])) _
      refine XS.lloadN X610.here hx rfl (hb hby at_87) rfl ?_
      refine XS.aload X610.here hx rfl (hb hby at_88) rfl rfl ?_
      exact kt
    obtain ⟨cq628, kq628, q628a, q628b, q628c⟩ := isOf hZ e610 f623
    obtain ⟨_, _, ⟨T628, L628, k628, n628⟩, -, X628, ⟨Lc628, hQ628, l628, y628, z628⟩, st628⟩ := X610.virtualBack hx (y := (⟨"tidegate/operator/Crossings", "add", "(JLtidegate/operator/StageFunctions;)V"⟩ : MethodName)) (z := (⟨"tidegate/operator/Crossings", "add", "(JLtidegate/operator/StageFunctions;)V"⟩ : MethodName)) hown (mvT hZ (hw _ (List.mem_of_getElem? (i := 61) rfl))) (mvT hZ (hw _ (List.mem_of_getElem? (i := 62) rfl))) (notFace_of_selects (args := #[]) (mvT hZ (hw _ (List.mem_of_getElem? (i := 64) rfl)))) (mvT hZ (hw _ (List.mem_of_getElem? (i := 64) rfl))) (mvT hZ (hw _ (List.mem_of_getElem? (i := 63) rfl))) (by decide) (backOf (W := 0) (rm6 l Z a0 hw [] b549 f2 b583 b598 b553 f1 (.ref b569) h610 n0 z620 f623 F615 F616 F611 F614 F612 F613 g_b549 g_b598 ne_b549_b598) hZ (hw _ (List.mem_of_getElem? (i := 65) rfl)) (hw _ (List.mem_of_getElem? (i := 2) rfl)) (by decide) (by decide)) q628a q628c (g := (mkF m 90 #[.val (.long f1), .second, .val (.long f2), .second, .val (.long c1), .second, .val (.long c2), .second, .val (.int fl), .val (.int (2 : Int32)), .val (.int (2 : Int32)), .val (.int (0 : Int32)), .val (.ref b549), .val (.ref b569), .val (.ref b583), .unset, .unset, .unset, .unset, .unset, .unset, .unset] [(.ref b583), (.long f2), (.ref b549)])) rfl (by rw [hml]; rfl) (Steps.refl _) (argsL := [(.long f2), (.ref b583)]) (rest := []) (lenOf pd_0 rfl) rfl (by show 2 * 0 + _ ≤ _; exact Nat.le_of_eq rfl) (hb hby at_90) (fun _ _ => ⟨rfl, e610, (by decide : 27 + 1 ≤ _), (by decide : 46 + 3 ≤ _)⟩)
    dsimp only [Pt.U, Pt.locs, Pt.cells, Pt.slots] at X628 l628 y628 z628 st628 hQ628
    subst l628 y628 z628
    obtain ⟨h628, e628⟩ : ∃ z, T628.heap = z := ⟨_, rfl⟩
    rw [e628] at hQ628
    obtain ⟨b621, rfl, N628q, K628q, hge622, F629, F630, F631, F632, F633, F634, F635, F636, F637⟩ := hQ628
    have z638 : n0 ≤ h628.size := Nat.le_trans z620 K628q.1
    have N628 := Fr.app N610 N628q
    have g_b621 : n0 ≤ b621 := Nat.le_trans z620 hge622
    have ne_b549_b621 : b549 ≠ b621 := Nat.ne_of_lt (Nat.lt_of_lt_of_le f623.lt hge622)
    have ne_b553_b621 : b553 ≠ b621 := Nat.ne_of_lt (Nat.lt_of_lt_of_le f624.lt hge622)
    have ne_b569_b621 : b569 ≠ b621 := Nat.ne_of_lt (Nat.lt_of_lt_of_le f625.lt hge622)
    have ne_b583_b621 : b583 ≠ b621 := Nat.ne_of_lt (Nat.lt_of_lt_of_le f626.lt hge622)
    have ne_b598_b621 : b598 ≠ b621 := Nat.ne_of_lt (Nat.lt_of_lt_of_le F611.lt hge622)
    have S639 : ∀ t, Steps p.tables e below (T628.setTop (mkF m 100 #[.val (.long f1), .second, .val (.long f2), .second, .val (.long c1), .second, .val (.long c2), .second, .val (.int fl), .val (.int (2 : Int32)), .val (.int (2 : Int32)), .val (.int (0 : Int32)), .val (.ref b549), .val (.ref b569), .val (.ref b583), .val (.int (1 : Int32)), .unset, .unset, .unset, .unset, .unset, .unset] [(.long c1), (.ref b549)])) t → Steps p.tables e below (T628.setTop (mkF m 93 #[.val (.long f1), .second, .val (.long f2), .second, .val (.long c1), .second, .val (.long c2), .second, .val (.int fl), .val (.int (2 : Int32)), .val (.int (2 : Int32)), .val (.int (0 : Int32)), .val (.ref b549), .val (.ref b569), .val (.ref b583), .unset, .unset, .unset, .unset, .unset, .unset, .unset] [])) t := by
      intro t kt
      show Steps p.tables e below (T628.setTop (mkF m 93 #[.val (.long f1), .second, .val (.long f2), .second, .val (.long c1), .second, .val (.long c2), .second, .val (.int fl), .val (.int (2 : Int32)), .val (.int (2 : Int32)), .val (.int (0 : Int32)), .val (.ref b549), .val (.ref b569), .val (.ref b583), .unset, .unset, .unset, .unset, .unset, .unset, .unset] [])) _
      refine XS.iconst X628.here hx rfl (hb hby at_93) ?_
      refine XS.istore X628.here hx rfl (hb hby at_94) rfl (l' := #[.val (.long f1), .second, .val (.long f2), .second, .val (.long c1), .second, .val (.long c2), .second, .val (.int fl), .val (.int (2 : Int32)), .val (.int (2 : Int32)), .val (.int (0 : Int32)), .val (.ref b549), .val (.ref b569), .val (.ref b583), .val (.int (1 : Int32)), .unset, .unset, .unset, .unset, .unset, .unset]) rfl ?_
      refine XS.aload X628.here hx rfl (hb hby at_96) rfl rfl ?_
      refine XS.lload X628.here hx rfl (hb hby at_98) rfl ?_
      exact kt
    by_cases ht640 : c1 < f1
    · have f641 := (F617.keep K628q (ninS (Ne.symm ne_b549_b553) (ninS ne_b553_b598 nin0)))
      have f643 := (f623.keep K628q)
      obtain ⟨cq642, kq642, q642a, q642b, q642c⟩ := isOf hZ e628 f643
      obtain ⟨_, _, ⟨T642, L642, k642, n642⟩, -, X642, ⟨Lc642, hQ642, l642, y642, z642⟩, st642⟩ := X628.virtualBack hx (y := (⟨"tidegate/operator/Crossings", "take", "(J)Ltidegate/operator/StageFunctions;"⟩ : MethodName)) (z := (⟨"tidegate/operator/Crossings", "take", "(J)Ltidegate/operator/StageFunctions;"⟩ : MethodName)) hown (mvT hZ (hw _ (List.mem_of_getElem? (i := 68) rfl))) (mvT hZ (hw _ (List.mem_of_getElem? (i := 69) rfl))) (notFace_of_selects (args := #[]) (mvT hZ (hw _ (List.mem_of_getElem? (i := 71) rfl)))) (mvT hZ (hw _ (List.mem_of_getElem? (i := 71) rfl))) (mvT hZ (hw _ (List.mem_of_getElem? (i := 70) rfl))) (by decide) (backOf (W := 0) (rm_tk1 l Z a0 hw [] b549 c1 b553 b598 f1 h628 n0 z638 F634 f641 F636 ht640) hZ (hw _ (List.mem_of_getElem? (i := 72) rfl)) (hw _ (List.mem_of_getElem? (i := 2) rfl)) (by decide) (by decide)) q642a q642c (g := (mkF m 100 #[.val (.long f1), .second, .val (.long f2), .second, .val (.long c1), .second, .val (.long c2), .second, .val (.int fl), .val (.int (2 : Int32)), .val (.int (2 : Int32)), .val (.int (0 : Int32)), .val (.ref b549), .val (.ref b569), .val (.ref b583), .val (.int (1 : Int32)), .unset, .unset, .unset, .unset, .unset, .unset] [(.long c1), (.ref b549)])) rfl (by rw [hml]; rfl) (Steps.refl _) (argsL := [(.long c1)]) (rest := []) (lenOf pd_2 rfl) rfl (by show 2 * 0 + _ ≤ _; exact Nat.le_of_eq rfl) (hb hby at_100) (fun _ _ => ⟨rfl, e628, (by decide : 28 + 0 ≤ _), (by decide : 49 + 0 ≤ _)⟩)
      dsimp only [Pt.U, Pt.locs, Pt.cells, Pt.slots] at X642 l642 y642 z642 st642 hQ642
      subst l642 y642 z642
      obtain ⟨rfl, N642q, e642⟩ := hQ642
      have N642 := Fr.app N628 N642q
      have S644 : ∀ t, Steps p.tables e below (T642.setTop (mkF m 149 #[.val (.long f1), .second, .val (.long f2), .second, .val (.long c1), .second, .val (.long c2), .second, .val (.int fl), .val (.int (2 : Int32)), .val (.int (2 : Int32)), .val (.int (0 : Int32)), .val (.ref b549), .val (.ref b569), .val (.ref b583), .val (.int (1 : Int32)), .val .null, .val (.int (0 : Int32)), .unset, .unset, .unset, .unset] [(.int ((1 : Int32) &&& (1 : Int32)))])) t → Steps p.tables e below (T642.setTop (mkF m 103 #[.val (.long f1), .second, .val (.long f2), .second, .val (.long c1), .second, .val (.long c2), .second, .val (.int fl), .val (.int (2 : Int32)), .val (.int (2 : Int32)), .val (.int (0 : Int32)), .val (.ref b549), .val (.ref b569), .val (.ref b583), .val (.int (1 : Int32)), .unset, .unset, .unset, .unset, .unset, .unset] [.null])) t := by
        intro t kt
        show Steps p.tables e below (T642.setTop (mkF m 103 #[.val (.long f1), .second, .val (.long f2), .second, .val (.long c1), .second, .val (.long c2), .second, .val (.int fl), .val (.int (2 : Int32)), .val (.int (2 : Int32)), .val (.int (0 : Int32)), .val (.ref b549), .val (.ref b569), .val (.ref b583), .val (.int (1 : Int32)), .unset, .unset, .unset, .unset, .unset, .unset] [.null])) _
        refine XS.astore X642.here hx rfl (hb hby at_103) rfl rfl (l' := #[.val (.long f1), .second, .val (.long f2), .second, .val (.long c1), .second, .val (.long c2), .second, .val (.int fl), .val (.int (2 : Int32)), .val (.int (2 : Int32)), .val (.int (0 : Int32)), .val (.ref b549), .val (.ref b569), .val (.ref b583), .val (.int (1 : Int32)), .val .null, .unset, .unset, .unset, .unset, .unset]) rfl ?_
        refine XS.iload X642.here hx rfl (hb hby at_105) rfl ?_
        refine XS.iconst X642.here hx rfl (hb hby at_107) ?_
        refine XS.icmpNo X642.here hx rfl (hb hby at_108) rfl (flt (by decide)).1 ?_
        refine XS.lloadN X642.here hx rfl (hb hby at_111) rfl ?_
        refine XS.lload X642.here hx rfl (hb hby at_112) rfl ?_
        show Steps p.tables e below (T642.setTop (mkF m 114 #[.val (.long f1), .second, .val (.long f2), .second, .val (.long c1), .second, .val (.long c2), .second, .val (.int fl), .val (.int (2 : Int32)), .val (.int (2 : Int32)), .val (.int (0 : Int32)), .val (.ref b549), .val (.ref b569), .val (.ref b583), .val (.int (1 : Int32)), .val .null, .unset, .unset, .unset, .unset, .unset] [(.long c1), (.long f1)])) _
        refine XS.lcmp X642.here hx rfl (hb hby at_114) rfl ?_
        refine XS.ifYes X642.here hx rfl (pc0 := 115) (pc' := 122) rfl (hb hby at_115) rfl ((if0 _ _).trans (tlt ((lw_gt f1 c1).mpr ht640)).2.2.1) (by decide) (by decide) ?_
        refine XS.iconst X642.here hx rfl (hb hby at_122) ?_
        refine XS.istore X642.here hx rfl (hb hby at_123) rfl (l' := #[.val (.long f1), .second, .val (.long f2), .second, .val (.long c1), .second, .val (.long c2), .second, .val (.int fl), .val (.int (2 : Int32)), .val (.int (2 : Int32)), .val (.int (0 : Int32)), .val (.ref b549), .val (.ref b569), .val (.ref b583), .val (.int (1 : Int32)), .val .null, .val (.int (0 : Int32)), .unset, .unset, .unset, .unset]) rfl ?_
        refine XS.iload X642.here hx rfl (hb hby at_125) rfl ?_
        refine XS.aload X642.here hx rfl (hb hby at_127) rfl rfl ?_
        show Steps p.tables e below (T642.setTop (mkF m 129 #[.val (.long f1), .second, .val (.long f2), .second, .val (.long c1), .second, .val (.long c2), .second, .val (.int fl), .val (.int (2 : Int32)), .val (.int (2 : Int32)), .val (.int (0 : Int32)), .val (.ref b549), .val (.ref b569), .val (.ref b583), .val (.int (1 : Int32)), .val .null, .val (.int (0 : Int32)), .unset, .unset, .unset, .unset] [.null, (.int (1 : Int32))])) _
        refine XS.iload X642.here hx rfl (hb hby at_129) rfl ?_
        refine XS.ifYes X642.here hx rfl (pc0 := 131) (pc' := 139) rfl (hb hby at_131) rfl ((if0 _ _).trans (teq rfl).1) (by decide) (by decide) ?_
        refine XS.aconstNull X642.here hx rfl (hb hby at_139) ?_
        refine Jvm.RoadKit.acmp (g := (mkF m 140 #[.val (.long f1), .second, .val (.long f2), .second, .val (.long c1), .second, .val (.long c2), .second, .val (.int fl), .val (.int (2 : Int32)), .val (.int (2 : Int32)), .val (.int (0 : Int32)), .val (.ref b549), .val (.ref b569), .val (.ref b583), .val (.int (1 : Int32)), .val .null, .val (.int (0 : Int32)), .unset, .unset, .unset, .unset] [.null, .null, (.int (1 : Int32))])) X642 hx rfl rfl rfl (pc0 := 140) (pc' := 143) (same := true) rfl (hb hby at_140) rfl (decide_eq_true rfl) (by decide) (by decide) ?_
        refine XS.iconst X642.here hx rfl (hb hby at_143) ?_
        refine XS.goto X642.here hx rfl (pc0 := 144) (pc' := 148) rfl (hb hby at_144) (by decide) (by decide) ?_
        show Steps p.tables e below (T642.setTop (mkF m 148 #[.val (.long f1), .second, .val (.long f2), .second, .val (.long c1), .second, .val (.long c2), .second, .val (.int fl), .val (.int (2 : Int32)), .val (.int (2 : Int32)), .val (.int (0 : Int32)), .val (.ref b549), .val (.ref b569), .val (.ref b583), .val (.int (1 : Int32)), .val .null, .val (.int (0 : Int32)), .unset, .unset, .unset, .unset] [(.int (1 : Int32)), (.int (1 : Int32))])) _
        refine XS.iand X642.here hx rfl (hb hby at_148) rfl ?_
        exact kt
      have S645 : ∀ t, Steps p.tables e below (T642.setTop (mkF m 149 #[.val (.long f1), .second, .val (.long f2), .second, .val (.long c1), .second, .val (.long c2), .second, .val (.int fl), .val (.int (2 : Int32)), .val (.int (2 : Int32)), .val (.int (0 : Int32)), .val (.ref b549), .val (.ref b569), .val (.ref b583), .val (.int (1 : Int32)), .val .null, .val (.int (0 : Int32)), .unset, .unset, .unset, .unset] [(.int (1 : Int32))])) t → Steps p.tables e below (T642.setTop (mkF m 149 #[.val (.long f1), .second, .val (.long f2), .second, .val (.long c1), .second, .val (.long c2), .second, .val (.int fl), .val (.int (2 : Int32)), .val (.int (2 : Int32)), .val (.int (0 : Int32)), .val (.ref b549), .val (.ref b569), .val (.ref b583), .val (.int (1 : Int32)), .val .null, .val (.int (0 : Int32)), .unset, .unset, .unset, .unset] [(.int ((1 : Int32) &&& (1 : Int32)))])) t := fun t k => by rw [(show ((1 : Int32) &&& (1 : Int32)) = (1 : Int32) from by decide)]; exact k
      have S646 : ∀ t, Steps p.tables e below (T642.setTop (mkF m 180 #[.val (.long f1), .second, .val (.long f2), .second, .val (.long c1), .second, .val (.long c2), .second, .val (.int fl), .val (.int (2 : Int32)), .val (.int (2 : Int32)), .val (.int (0 : Int32)), .val (.ref b549), .val (.ref b569), .val (.ref b583), .val (.int (1 : Int32)), .val .null, .val (.int (0 : Int32)), .val (.int (0 : Int32)), .unset, .unset, .unset] [(.ref b549), (.int (1 : Int32))])) t → Steps p.tables e below (T642.setTop (mkF m 149 #[.val (.long f1), .second, .val (.long f2), .second, .val (.long c1), .second, .val (.long c2), .second, .val (.int fl), .val (.int (2 : Int32)), .val (.int (2 : Int32)), .val (.int (0 : Int32)), .val (.ref b549), .val (.ref b569), .val (.ref b583), .val (.int (1 : Int32)), .val .null, .val (.int (0 : Int32)), .unset, .unset, .unset, .unset] [(.int (1 : Int32))])) t := by
        intro t kt
        show Steps p.tables e below (T642.setTop (mkF m 149 #[.val (.long f1), .second, .val (.long f2), .second, .val (.long c1), .second, .val (.long c2), .second, .val (.int fl), .val (.int (2 : Int32)), .val (.int (2 : Int32)), .val (.int (0 : Int32)), .val (.ref b549), .val (.ref b569), .val (.ref b583), .val (.int (1 : Int32)), .val .null, .val (.int (0 : Int32)), .unset, .unset, .unset, .unset] [(.int (1 : Int32))])) _
        refine XS.istore X642.here hx rfl (hb hby at_149) rfl (l' := #[.val (.long f1), .second, .val (.long f2), .second, .val (.long c1), .second, .val (.long c2), .second, .val (.int fl), .val (.int (2 : Int32)), .val (.int (2 : Int32)), .val (.int (0 : Int32)), .val (.ref b549), .val (.ref b569), .val (.ref b583), .val (.int (1 : Int32)), .val .null, .val (.int (0 : Int32)), .unset, .unset, .unset, .unset]) rfl ?_
        refine XS.iload X642.here hx rfl (hb hby at_151) rfl ?_
        refine XS.ifYes X642.here hx rfl (pc0 := 153) (pc' := 164) rfl (hb hby at_153) rfl ((if0 _ _).trans (teq rfl).1) (by decide) (by decide) ?_
        refine XS.iload X642.here hx rfl (hb hby at_164) rfl ?_
        refine XS.ifYes X642.here hx rfl (pc0 := 166) (pc' := 173) rfl (hb hby at_166) rfl ((if0 _ _).trans (teq rfl).1) (by decide) (by decide) ?_
        refine XS.iconst X642.here hx rfl (hb hby at_173) ?_
        show Steps p.tables e below (T642.setTop (mkF m 174 #[.val (.long f1), .second, .val (.long f2), .second, .val (.long c1), .second, .val (.long c2), .second, .val (.int fl), .val (.int (2 : Int32)), .val (.int (2 : Int32)), .val (.int (0 : Int32)), .val (.ref b549), .val (.ref b569), .val (.ref b583), .val (.int (1 : Int32)), .val .null, .val (.int (0 : Int32)), .unset, .unset, .unset, .unset] [(.int (0 : Int32))])) _
        refine XS.istore X642.here hx rfl (hb hby at_174) rfl (l' := #[.val (.long f1), .second, .val (.long f2), .second, .val (.long c1), .second, .val (.long c2), .second, .val (.int fl), .val (.int (2 : Int32)), .val (.int (2 : Int32)), .val (.int (0 : Int32)), .val (.ref b549), .val (.ref b569), .val (.ref b583), .val (.int (1 : Int32)), .val .null, .val (.int (0 : Int32)), .val (.int (0 : Int32)), .unset, .unset, .unset]) rfl ?_
        refine XS.iload X642.here hx rfl (hb hby at_176) rfl ?_
        refine XS.aload X642.here hx rfl (hb hby at_178) rfl rfl ?_
        exact kt
      obtain ⟨cq647, kq647, q647a, q647b, q647c⟩ := isOf hZ e642 f643
      obtain ⟨_, _, ⟨T647, L647, k647, n647⟩, -, X647, ⟨Lc647, hQ647, l647, y647, z647⟩, st647⟩ := X642.virtualBack hx (y := (⟨"tidegate/operator/Crossings", "waiting", "()Z"⟩ : MethodName)) (z := (⟨"tidegate/operator/Crossings", "waiting", "()Z"⟩ : MethodName)) hown (mvT hZ (hw _ (List.mem_of_getElem? (i := 74) rfl))) (mvT hZ (hw _ (List.mem_of_getElem? (i := 75) rfl))) (notFace_of_selects (args := #[]) (mvT hZ (hw _ (List.mem_of_getElem? (i := 77) rfl)))) (mvT hZ (hw _ (List.mem_of_getElem? (i := 77) rfl))) (mvT hZ (hw _ (List.mem_of_getElem? (i := 76) rfl))) (by decide) (backOf (W := 1) (rm_wt1 l Z a0 hw [] b549 b553 b598 h628 n0 z638 F634 f641) hZ (hw _ (List.mem_of_getElem? (i := 78) rfl)) (hw _ (List.mem_of_getElem? (i := 2) rfl)) (by decide) (by decide)) q647a q647c (g := (mkF m 180 #[.val (.long f1), .second, .val (.long f2), .second, .val (.long c1), .second, .val (.long c2), .second, .val (.int fl), .val (.int (2 : Int32)), .val (.int (2 : Int32)), .val (.int (0 : Int32)), .val (.ref b549), .val (.ref b569), .val (.ref b583), .val (.int (1 : Int32)), .val .null, .val (.int (0 : Int32)), .val (.int (0 : Int32)), .unset, .unset, .unset] [(.ref b549), (.int (1 : Int32))])) rfl (by rw [hml]; rfl) (Steps.refl _) (argsL := []) (rest := [(.int (1 : Int32))]) (lenOf pd_3 rfl) rfl (by show 2 * 0 + _ ≤ _; exact Nat.le_of_eq rfl) (hb hby at_180) (fun _ _ => ⟨rfl, e642, (by decide : 28 + 0 ≤ _), (by decide : 49 + 0 ≤ _)⟩)
      dsimp only [Pt.U, Pt.locs, Pt.cells, Pt.slots] at X647 l647 y647 z647 st647 hQ647
      subst l647 y647 z647
      obtain ⟨rfl, N647q, e647⟩ := hQ647
      have N647 := Fr.app N642 N647q
      have S648 : ∀ t, Steps p.tables e below (T647.setTop (mkF m 204 #[.val (.long f1), .second, .val (.long f2), .second, .val (.long c1), .second, .val (.long c2), .second, .val (.int fl), .val (.int (2 : Int32)), .val (.int (2 : Int32)), .val (.int (0 : Int32)), .val (.ref b549), .val (.ref b569), .val (.ref b583), .val (.int (1 : Int32)), .val .null, .val (.int (0 : Int32)), .val (.int (0 : Int32)), .unset, .unset, .unset] [(.int ((1 : Int32) &&& (1 : Int32)))])) t → Steps p.tables e below (T647.setTop (mkF m 183 #[.val (.long f1), .second, .val (.long f2), .second, .val (.long c1), .second, .val (.long c2), .second, .val (.int fl), .val (.int (2 : Int32)), .val (.int (2 : Int32)), .val (.int (0 : Int32)), .val (.ref b549), .val (.ref b569), .val (.ref b583), .val (.int (1 : Int32)), .val .null, .val (.int (0 : Int32)), .val (.int (0 : Int32)), .unset, .unset, .unset] [(.int (1 : Int32)), (.int (1 : Int32))])) t := by
        intro t kt
        show Steps p.tables e below (T647.setTop (mkF m 183 #[.val (.long f1), .second, .val (.long f2), .second, .val (.long c1), .second, .val (.long c2), .second, .val (.int fl), .val (.int (2 : Int32)), .val (.int (2 : Int32)), .val (.int (0 : Int32)), .val (.ref b549), .val (.ref b569), .val (.ref b583), .val (.int (1 : Int32)), .val .null, .val (.int (0 : Int32)), .val (.int (0 : Int32)), .unset, .unset, .unset] [(.int (1 : Int32)), (.int (1 : Int32))])) _
        refine XS.iload X647.here hx rfl (hb hby at_183) rfl ?_
        refine XS.iload X647.here hx rfl (hb hby at_185) rfl ?_
        refine XS.icmpNo X647.here hx rfl (hb hby at_187) rfl (tlt (by decide)).2.1 ?_
        refine XS.iconst X647.here hx rfl (hb hby at_190) ?_
        refine XS.goto X647.here hx rfl (pc0 := 191) (pc' := 195) rfl (hb hby at_191) (by decide) (by decide) ?_
        refine XS.icmpNo X647.here hx rfl (hb hby at_195) rfl (teq rfl).2 ?_
        show Steps p.tables e below (T647.setTop (mkF m 198 #[.val (.long f1), .second, .val (.long f2), .second, .val (.long c1), .second, .val (.long c2), .second, .val (.int fl), .val (.int (2 : Int32)), .val (.int (2 : Int32)), .val (.int (0 : Int32)), .val (.ref b549), .val (.ref b569), .val (.ref b583), .val (.int (1 : Int32)), .val .null, .val (.int (0 : Int32)), .val (.int (0 : Int32)), .unset, .unset, .unset] [(.int (1 : Int32))])) _
        refine XS.iconst X647.here hx rfl (hb hby at_198) ?_
        refine XS.goto X647.here hx rfl (pc0 := 199) (pc' := 203) rfl (hb hby at_199) (by decide) (by decide) ?_
        refine XS.iand X647.here hx rfl (hb hby at_203) rfl ?_
        exact kt
      have S649 : ∀ t, Steps p.tables e below (T647.setTop (mkF m 204 #[.val (.long f1), .second, .val (.long f2), .second, .val (.long c1), .second, .val (.long c2), .second, .val (.int fl), .val (.int (2 : Int32)), .val (.int (2 : Int32)), .val (.int (0 : Int32)), .val (.ref b549), .val (.ref b569), .val (.ref b583), .val (.int (1 : Int32)), .val .null, .val (.int (0 : Int32)), .val (.int (0 : Int32)), .unset, .unset, .unset] [(.int (1 : Int32))])) t → Steps p.tables e below (T647.setTop (mkF m 204 #[.val (.long f1), .second, .val (.long f2), .second, .val (.long c1), .second, .val (.long c2), .second, .val (.int fl), .val (.int (2 : Int32)), .val (.int (2 : Int32)), .val (.int (0 : Int32)), .val (.ref b549), .val (.ref b569), .val (.ref b583), .val (.int (1 : Int32)), .val .null, .val (.int (0 : Int32)), .val (.int (0 : Int32)), .unset, .unset, .unset] [(.int ((1 : Int32) &&& (1 : Int32)))])) t := fun t k => by rw [(show ((1 : Int32) &&& (1 : Int32)) = (1 : Int32) from by decide)]; exact k
      have S650 : ∀ t, Steps p.tables e below (T647.setTop (mkF m 210 #[.val (.long f1), .second, .val (.long f2), .second, .val (.long c1), .second, .val (.long c2), .second, .val (.int fl), .val (.int (2 : Int32)), .val (.int (2 : Int32)), .val (.int (0 : Int32)), .val (.ref b549), .val (.ref b569), .val (.ref b583), .val (.int (1 : Int32)), .val .null, .val (.int (0 : Int32)), .val (.int (0 : Int32)), .unset, .unset, .unset] [(.long c2), (.ref b549)])) t → Steps p.tables e below (T647.setTop (mkF m 204 #[.val (.long f1), .second, .val (.long f2), .second, .val (.long c1), .second, .val (.long c2), .second, .val (.int fl), .val (.int (2 : Int32)), .val (.int (2 : Int32)), .val (.int (0 : Int32)), .val (.ref b549), .val (.ref b569), .val (.ref b583), .val (.int (1 : Int32)), .val .null, .val (.int (0 : Int32)), .val (.int (0 : Int32)), .unset, .unset, .unset] [(.int (1 : Int32))])) t := by
        intro t kt
        show Steps p.tables e below (T647.setTop (mkF m 204 #[.val (.long f1), .second, .val (.long f2), .second, .val (.long c1), .second, .val (.long c2), .second, .val (.int fl), .val (.int (2 : Int32)), .val (.int (2 : Int32)), .val (.int (0 : Int32)), .val (.ref b549), .val (.ref b569), .val (.ref b583), .val (.int (1 : Int32)), .val .null, .val (.int (0 : Int32)), .val (.int (0 : Int32)), .unset, .unset, .unset] [(.int (1 : Int32))])) _
        refine XS.istore X647.here hx rfl (hb hby at_204) rfl (l' := #[.val (.long f1), .second, .val (.long f2), .second, .val (.long c1), .second, .val (.long c2), .second, .val (.int fl), .val (.int (2 : Int32)), .val (.int (2 : Int32)), .val (.int (0 : Int32)), .val (.ref b549), .val (.ref b569), .val (.ref b583), .val (.int (1 : Int32)), .val .null, .val (.int (0 : Int32)), .val (.int (0 : Int32)), .unset, .unset, .unset]) rfl ?_
        refine XS.aload X647.here hx rfl (hb hby at_206) rfl rfl ?_
        refine XS.lload X647.here hx rfl (hb hby at_208) rfl ?_
        exact kt
      by_cases ht651 : c2 < f1
      · obtain ⟨cq652, kq652, q652a, q652b, q652c⟩ := isOf hZ e647 f643
        obtain ⟨_, _, ⟨T652, L652, k652, n652⟩, -, X652, ⟨Lc652, hQ652, l652, y652, z652⟩, st652⟩ := X647.virtualBack hx (y := (⟨"tidegate/operator/Crossings", "take", "(J)Ltidegate/operator/StageFunctions;"⟩ : MethodName)) (z := (⟨"tidegate/operator/Crossings", "take", "(J)Ltidegate/operator/StageFunctions;"⟩ : MethodName)) hown (mvT hZ (hw _ (List.mem_of_getElem? (i := 68) rfl))) (mvT hZ (hw _ (List.mem_of_getElem? (i := 69) rfl))) (notFace_of_selects (args := #[]) (mvT hZ (hw _ (List.mem_of_getElem? (i := 71) rfl)))) (mvT hZ (hw _ (List.mem_of_getElem? (i := 71) rfl))) (mvT hZ (hw _ (List.mem_of_getElem? (i := 70) rfl))) (by decide) (backOf (W := 0) (rm_tk1 l Z a0 hw [] b549 c2 b553 b598 f1 h628 n0 z638 F634 f641 F636 ht651) hZ (hw _ (List.mem_of_getElem? (i := 72) rfl)) (hw _ (List.mem_of_getElem? (i := 2) rfl)) (by decide) (by decide)) q652a q652c (g := (mkF m 210 #[.val (.long f1), .second, .val (.long f2), .second, .val (.long c1), .second, .val (.long c2), .second, .val (.int fl), .val (.int (2 : Int32)), .val (.int (2 : Int32)), .val (.int (0 : Int32)), .val (.ref b549), .val (.ref b569), .val (.ref b583), .val (.int (1 : Int32)), .val .null, .val (.int (0 : Int32)), .val (.int (0 : Int32)), .unset, .unset, .unset] [(.long c2), (.ref b549)])) rfl (by rw [hml]; rfl) (Steps.refl _) (argsL := [(.long c2)]) (rest := []) (lenOf pd_2 rfl) rfl (by show 2 * 0 + _ ≤ _; exact Nat.le_of_eq rfl) (hb hby at_210) (fun _ _ => ⟨rfl, e647, (by decide : 28 + 0 ≤ _), (by decide : 49 + 0 ≤ _)⟩)
        dsimp only [Pt.U, Pt.locs, Pt.cells, Pt.slots] at X652 l652 y652 z652 st652 hQ652
        subst l652 y652 z652
        obtain ⟨rfl, N652q, e652⟩ := hQ652
        have N652 := Fr.app N647 N652q
        have S653 : ∀ t, Steps p.tables e below (T652.setTop (mkF m 280 #[.val (.long f1), .second, .val (.long f2), .second, .val (.long c1), .second, .val (.long c2), .second, .val (.int fl), .val (.int (2 : Int32)), .val (.int (2 : Int32)), .val (.int (0 : Int32)), .val (.ref b549), .val (.ref b569), .val (.ref b583), .val (.int (1 : Int32)), .val .null, .val (.int (0 : Int32)), .val (.int (0 : Int32)), .val .null, .val .null, .unset] [(.int ((1 : Int32) &&& (1 : Int32)))])) t → Steps p.tables e below (T652.setTop (mkF m 213 #[.val (.long f1), .second, .val (.long f2), .second, .val (.long c1), .second, .val (.long c2), .second, .val (.int fl), .val (.int (2 : Int32)), .val (.int (2 : Int32)), .val (.int (0 : Int32)), .val (.ref b549), .val (.ref b569), .val (.ref b583), .val (.int (1 : Int32)), .val .null, .val (.int (0 : Int32)), .val (.int (0 : Int32)), .unset, .unset, .unset] [.null])) t := by
          intro t kt
          show Steps p.tables e below (T652.setTop (mkF m 213 #[.val (.long f1), .second, .val (.long f2), .second, .val (.long c1), .second, .val (.long c2), .second, .val (.int fl), .val (.int (2 : Int32)), .val (.int (2 : Int32)), .val (.int (0 : Int32)), .val (.ref b549), .val (.ref b569), .val (.ref b583), .val (.int (1 : Int32)), .val .null, .val (.int (0 : Int32)), .val (.int (0 : Int32)), .unset, .unset, .unset] [.null])) _
          refine XS.astore X652.here hx rfl (hb hby at_213) rfl rfl (l' := #[.val (.long f1), .second, .val (.long f2), .second, .val (.long c1), .second, .val (.long c2), .second, .val (.int fl), .val (.int (2 : Int32)), .val (.int (2 : Int32)), .val (.int (0 : Int32)), .val (.ref b549), .val (.ref b569), .val (.ref b583), .val (.int (1 : Int32)), .val .null, .val (.int (0 : Int32)), .val (.int (0 : Int32)), .val .null, .unset, .unset]) rfl ?_
          refine XS.iload X652.here hx rfl (hb hby at_215) rfl ?_
          refine XS.ifYes X652.here hx rfl (pc0 := 217) (pc' := 244) rfl (hb hby at_217) rfl ((if0 _ _).trans (teq rfl).1) (by decide) (by decide) ?_
          refine XS.iload X652.here hx rfl (hb hby at_244) rfl ?_
          refine XS.iconst X652.here hx rfl (hb hby at_246) ?_
          refine XS.icmpNo X652.here hx rfl (hb hby at_247) rfl (flt (by decide)).1 ?_
          show Steps p.tables e below (T652.setTop (mkF m 250 #[.val (.long f1), .second, .val (.long f2), .second, .val (.long c1), .second, .val (.long c2), .second, .val (.int fl), .val (.int (2 : Int32)), .val (.int (2 : Int32)), .val (.int (0 : Int32)), .val (.ref b549), .val (.ref b569), .val (.ref b583), .val (.int (1 : Int32)), .val .null, .val (.int (0 : Int32)), .val (.int (0 : Int32)), .val .null, .unset, .unset] [])) _
          refine XS.lloadN X652.here hx rfl (hb hby at_250) rfl ?_
          refine XS.lload X652.here hx rfl (hb hby at_251) rfl ?_
          refine XS.lcmp X652.here hx rfl (hb hby at_253) rfl ?_
          refine XS.ifYes X652.here hx rfl (pc0 := 254) (pc' := 262) rfl (hb hby at_254) rfl ((if0 _ _).trans (tlt ((lw_gt f1 c2).mpr ht651)).2.2.1) (by decide) (by decide) ?_
          refine XS.aconstNull X652.here hx rfl (hb hby at_262) ?_
          refine XS.astore X652.here hx rfl (hb hby at_263) rfl rfl (l' := #[.val (.long f1), .second, .val (.long f2), .second, .val (.long c1), .second, .val (.long c2), .second, .val (.int fl), .val (.int (2 : Int32)), .val (.int (2 : Int32)), .val (.int (0 : Int32)), .val (.ref b549), .val (.ref b569), .val (.ref b583), .val (.int (1 : Int32)), .val .null, .val (.int (0 : Int32)), .val (.int (0 : Int32)), .val .null, .val .null, .unset]) rfl ?_
          show Steps p.tables e below (T652.setTop (mkF m 265 #[.val (.long f1), .second, .val (.long f2), .second, .val (.long c1), .second, .val (.long c2), .second, .val (.int fl), .val (.int (2 : Int32)), .val (.int (2 : Int32)), .val (.int (0 : Int32)), .val (.ref b549), .val (.ref b569), .val (.ref b583), .val (.int (1 : Int32)), .val .null, .val (.int (0 : Int32)), .val (.int (0 : Int32)), .val .null, .val .null, .unset] [])) _
          refine XS.iload X652.here hx rfl (hb hby at_265) rfl ?_
          refine XS.aload X652.here hx rfl (hb hby at_267) rfl rfl ?_
          refine XS.aload X652.here hx rfl (hb hby at_269) rfl rfl ?_
          refine Jvm.RoadKit.acmp (g := (mkF m 271 #[.val (.long f1), .second, .val (.long f2), .second, .val (.long c1), .second, .val (.long c2), .second, .val (.int fl), .val (.int (2 : Int32)), .val (.int (2 : Int32)), .val (.int (0 : Int32)), .val (.ref b549), .val (.ref b569), .val (.ref b583), .val (.int (1 : Int32)), .val .null, .val (.int (0 : Int32)), .val (.int (0 : Int32)), .val .null, .val .null, .unset] [.null, .null, (.int (1 : Int32))])) X652 hx rfl rfl rfl (pc0 := 271) (pc' := 274) (same := true) rfl (hb hby at_271) rfl (decide_eq_true rfl) (by decide) (by decide) ?_
          refine XS.iconst X652.here hx rfl (hb hby at_274) ?_
          refine XS.goto X652.here hx rfl (pc0 := 275) (pc' := 279) rfl (hb hby at_275) (by decide) (by decide) ?_
          show Steps p.tables e below (T652.setTop (mkF m 279 #[.val (.long f1), .second, .val (.long f2), .second, .val (.long c1), .second, .val (.long c2), .second, .val (.int fl), .val (.int (2 : Int32)), .val (.int (2 : Int32)), .val (.int (0 : Int32)), .val (.ref b549), .val (.ref b569), .val (.ref b583), .val (.int (1 : Int32)), .val .null, .val (.int (0 : Int32)), .val (.int (0 : Int32)), .val .null, .val .null, .unset] [(.int (1 : Int32)), (.int (1 : Int32))])) _
          refine XS.iand X652.here hx rfl (hb hby at_279) rfl ?_
          exact kt
        have S654 : ∀ t, Steps p.tables e below (T652.setTop (mkF m 280 #[.val (.long f1), .second, .val (.long f2), .second, .val (.long c1), .second, .val (.long c2), .second, .val (.int fl), .val (.int (2 : Int32)), .val (.int (2 : Int32)), .val (.int (0 : Int32)), .val (.ref b549), .val (.ref b569), .val (.ref b583), .val (.int (1 : Int32)), .val .null, .val (.int (0 : Int32)), .val (.int (0 : Int32)), .val .null, .val .null, .unset] [(.int (1 : Int32))])) t → Steps p.tables e below (T652.setTop (mkF m 280 #[.val (.long f1), .second, .val (.long f2), .second, .val (.long c1), .second, .val (.long c2), .second, .val (.int fl), .val (.int (2 : Int32)), .val (.int (2 : Int32)), .val (.int (0 : Int32)), .val (.ref b549), .val (.ref b569), .val (.ref b583), .val (.int (1 : Int32)), .val .null, .val (.int (0 : Int32)), .val (.int (0 : Int32)), .val .null, .val .null, .unset] [(.int ((1 : Int32) &&& (1 : Int32)))])) t := fun t k => by rw [(show ((1 : Int32) &&& (1 : Int32)) = (1 : Int32) from by decide)]; exact k
        have S655 : ∀ t, Steps p.tables e below (T652.setTop (mkF m 295 #[.val (.long f1), .second, .val (.long f2), .second, .val (.long c1), .second, .val (.long c2), .second, .val (.int fl), .val (.int (2 : Int32)), .val (.int (2 : Int32)), .val (.int (0 : Int32)), .val (.ref b549), .val (.ref b569), .val (.ref b583), .val (.int (1 : Int32)), .val .null, .val (.int (0 : Int32)), .val (.int (0 : Int32)), .val .null, .val .null, .unset] [(.int ((0 : Int32) + (0 : Int32)))])) t → Steps p.tables e below (T652.setTop (mkF m 280 #[.val (.long f1), .second, .val (.long f2), .second, .val (.long c1), .second, .val (.long c2), .second, .val (.int fl), .val (.int (2 : Int32)), .val (.int (2 : Int32)), .val (.int (0 : Int32)), .val (.ref b549), .val (.ref b569), .val (.ref b583), .val (.int (1 : Int32)), .val .null, .val (.int (0 : Int32)), .val (.int (0 : Int32)), .val .null, .val .null, .unset] [(.int (1 : Int32))])) t := by
          intro t kt
          show Steps p.tables e below (T652.setTop (mkF m 280 #[.val (.long f1), .second, .val (.long f2), .second, .val (.long c1), .second, .val (.long c2), .second, .val (.int fl), .val (.int (2 : Int32)), .val (.int (2 : Int32)), .val (.int (0 : Int32)), .val (.ref b549), .val (.ref b569), .val (.ref b583), .val (.int (1 : Int32)), .val .null, .val (.int (0 : Int32)), .val (.int (0 : Int32)), .val .null, .val .null, .unset] [(.int (1 : Int32))])) _
          refine XS.istore X652.here hx rfl (hb hby at_280) rfl (l' := #[.val (.long f1), .second, .val (.long f2), .second, .val (.long c1), .second, .val (.long c2), .second, .val (.int fl), .val (.int (2 : Int32)), .val (.int (2 : Int32)), .val (.int (0 : Int32)), .val (.ref b549), .val (.ref b569), .val (.ref b583), .val (.int (1 : Int32)), .val .null, .val (.int (0 : Int32)), .val (.int (0 : Int32)), .val .null, .val .null, .unset]) rfl ?_
          refine XS.iload X652.here hx rfl (hb hby at_282) rfl ?_
          refine XS.aload X652.here hx rfl (hb hby at_284) rfl rfl ?_
          refine XS.ifnullYes X652.here hx rfl (pc0 := 286) (pc' := 293) rfl (hb hby at_286) rfl (by decide) (by decide) ?_
          refine XS.iconst X652.here hx rfl (hb hby at_293) ?_
          refine XS.iadd X652.here hx rfl (hb hby at_294) rfl ?_
          exact kt
        have S656 : ∀ t, Steps p.tables e below (T652.setTop (mkF m 295 #[.val (.long f1), .second, .val (.long f2), .second, .val (.long c1), .second, .val (.long c2), .second, .val (.int fl), .val (.int (2 : Int32)), .val (.int (2 : Int32)), .val (.int (0 : Int32)), .val (.ref b549), .val (.ref b569), .val (.ref b583), .val (.int (1 : Int32)), .val .null, .val (.int (0 : Int32)), .val (.int (0 : Int32)), .val .null, .val .null, .unset] [(.int (0 : Int32))])) t → Steps p.tables e below (T652.setTop (mkF m 295 #[.val (.long f1), .second, .val (.long f2), .second, .val (.long c1), .second, .val (.long c2), .second, .val (.int fl), .val (.int (2 : Int32)), .val (.int (2 : Int32)), .val (.int (0 : Int32)), .val (.ref b549), .val (.ref b569), .val (.ref b583), .val (.int (1 : Int32)), .val .null, .val (.int (0 : Int32)), .val (.int (0 : Int32)), .val .null, .val .null, .unset] [(.int ((0 : Int32) + (0 : Int32)))])) t := fun t k => by rw [(show ((0 : Int32) + (0 : Int32)) = (0 : Int32) from by decide)]; exact k
        have S657 : ∀ t, Steps p.tables e below (T652.setTop (mkF m 301 #[.val (.long f1), .second, .val (.long f2), .second, .val (.long c1), .second, .val (.long c2), .second, .val (.int fl), .val (.int (2 : Int32)), .val (.int (2 : Int32)), .val (.int (0 : Int32)), .val (.ref b549), .val (.ref b569), .val (.ref b583), .val (.int (1 : Int32)), .val .null, .val (.int (0 : Int32)), .val (.int (0 : Int32)), .val .null, .val .null, .val (.int (0 : Int32))] [(.ref b549), (.int (1 : Int32))])) t → Steps p.tables e below (T652.setTop (mkF m 295 #[.val (.long f1), .second, .val (.long f2), .second, .val (.long c1), .second, .val (.long c2), .second, .val (.int fl), .val (.int (2 : Int32)), .val (.int (2 : Int32)), .val (.int (0 : Int32)), .val (.ref b549), .val (.ref b569), .val (.ref b583), .val (.int (1 : Int32)), .val .null, .val (.int (0 : Int32)), .val (.int (0 : Int32)), .val .null, .val .null, .unset] [(.int (0 : Int32))])) t := by
          intro t kt
          show Steps p.tables e below (T652.setTop (mkF m 295 #[.val (.long f1), .second, .val (.long f2), .second, .val (.long c1), .second, .val (.long c2), .second, .val (.int fl), .val (.int (2 : Int32)), .val (.int (2 : Int32)), .val (.int (0 : Int32)), .val (.ref b549), .val (.ref b569), .val (.ref b583), .val (.int (1 : Int32)), .val .null, .val (.int (0 : Int32)), .val (.int (0 : Int32)), .val .null, .val .null, .unset] [(.int (0 : Int32))])) _
          refine XS.istore X652.here hx rfl (hb hby at_295) rfl (l' := #[.val (.long f1), .second, .val (.long f2), .second, .val (.long c1), .second, .val (.long c2), .second, .val (.int fl), .val (.int (2 : Int32)), .val (.int (2 : Int32)), .val (.int (0 : Int32)), .val (.ref b549), .val (.ref b569), .val (.ref b583), .val (.int (1 : Int32)), .val .null, .val (.int (0 : Int32)), .val (.int (0 : Int32)), .val .null, .val .null, .val (.int (0 : Int32))]) rfl ?_
          refine XS.iload X652.here hx rfl (hb hby at_297) rfl ?_
          refine XS.aload X652.here hx rfl (hb hby at_299) rfl rfl ?_
          exact kt
        obtain ⟨cq658, kq658, q658a, q658b, q658c⟩ := isOf hZ e652 f643
        obtain ⟨_, _, ⟨T658, L658, k658, n658⟩, -, X658, ⟨Lc658, hQ658, l658, y658, z658⟩, st658⟩ := X652.virtualBack hx (y := (⟨"tidegate/operator/Crossings", "waiting", "()Z"⟩ : MethodName)) (z := (⟨"tidegate/operator/Crossings", "waiting", "()Z"⟩ : MethodName)) hown (mvT hZ (hw _ (List.mem_of_getElem? (i := 74) rfl))) (mvT hZ (hw _ (List.mem_of_getElem? (i := 75) rfl))) (notFace_of_selects (args := #[]) (mvT hZ (hw _ (List.mem_of_getElem? (i := 77) rfl)))) (mvT hZ (hw _ (List.mem_of_getElem? (i := 77) rfl))) (mvT hZ (hw _ (List.mem_of_getElem? (i := 76) rfl))) (by decide) (backOf (W := 1) (rm_wt1 l Z a0 hw [] b549 b553 b598 h628 n0 z638 F634 f641) hZ (hw _ (List.mem_of_getElem? (i := 78) rfl)) (hw _ (List.mem_of_getElem? (i := 2) rfl)) (by decide) (by decide)) q658a q658c (g := (mkF m 301 #[.val (.long f1), .second, .val (.long f2), .second, .val (.long c1), .second, .val (.long c2), .second, .val (.int fl), .val (.int (2 : Int32)), .val (.int (2 : Int32)), .val (.int (0 : Int32)), .val (.ref b549), .val (.ref b569), .val (.ref b583), .val (.int (1 : Int32)), .val .null, .val (.int (0 : Int32)), .val (.int (0 : Int32)), .val .null, .val .null, .val (.int (0 : Int32))] [(.ref b549), (.int (1 : Int32))])) rfl (by rw [hml]; rfl) (Steps.refl _) (argsL := []) (rest := [(.int (1 : Int32))]) (lenOf pd_3 rfl) rfl (by show 2 * 0 + _ ≤ _; exact Nat.le_of_eq rfl) (hb hby at_301) (fun _ _ => ⟨rfl, e652, (by decide : 28 + 0 ≤ _), (by decide : 49 + 0 ≤ _)⟩)
        dsimp only [Pt.U, Pt.locs, Pt.cells, Pt.slots] at X658 l658 y658 z658 st658 hQ658
        subst l658 y658 z658
        obtain ⟨rfl, N658q, e658⟩ := hQ658
        have N658 := Fr.app N652 N658q
        have S659 : ∀ t, Steps p.tables e below (T658.setTop (mkF m 325 #[.val (.long f1), .second, .val (.long f2), .second, .val (.long c1), .second, .val (.long c2), .second, .val (.int fl), .val (.int (2 : Int32)), .val (.int (2 : Int32)), .val (.int (0 : Int32)), .val (.ref b549), .val (.ref b569), .val (.ref b583), .val (.int (1 : Int32)), .val .null, .val (.int (0 : Int32)), .val (.int (0 : Int32)), .val .null, .val .null, .val (.int (0 : Int32))] [(.int ((1 : Int32) &&& (1 : Int32)))])) t → Steps p.tables e below (T658.setTop (mkF m 304 #[.val (.long f1), .second, .val (.long f2), .second, .val (.long c1), .second, .val (.long c2), .second, .val (.int fl), .val (.int (2 : Int32)), .val (.int (2 : Int32)), .val (.int (0 : Int32)), .val (.ref b549), .val (.ref b569), .val (.ref b583), .val (.int (1 : Int32)), .val .null, .val (.int (0 : Int32)), .val (.int (0 : Int32)), .val .null, .val .null, .val (.int (0 : Int32))] [(.int (1 : Int32)), (.int (1 : Int32))])) t := by
          intro t kt
          show Steps p.tables e below (T658.setTop (mkF m 304 #[.val (.long f1), .second, .val (.long f2), .second, .val (.long c1), .second, .val (.long c2), .second, .val (.int fl), .val (.int (2 : Int32)), .val (.int (2 : Int32)), .val (.int (0 : Int32)), .val (.ref b549), .val (.ref b569), .val (.ref b583), .val (.int (1 : Int32)), .val .null, .val (.int (0 : Int32)), .val (.int (0 : Int32)), .val .null, .val .null, .val (.int (0 : Int32))] [(.int (1 : Int32)), (.int (1 : Int32))])) _
          refine XS.iload X658.here hx rfl (hb hby at_304) rfl ?_
          refine XS.iload X658.here hx rfl (hb hby at_306) rfl ?_
          refine XS.icmpNo X658.here hx rfl (hb hby at_308) rfl (tlt (by decide)).2.1 ?_
          refine XS.iconst X658.here hx rfl (hb hby at_311) ?_
          refine XS.goto X658.here hx rfl (pc0 := 312) (pc' := 316) rfl (hb hby at_312) (by decide) (by decide) ?_
          refine XS.icmpNo X658.here hx rfl (hb hby at_316) rfl (teq rfl).2 ?_
          show Steps p.tables e below (T658.setTop (mkF m 319 #[.val (.long f1), .second, .val (.long f2), .second, .val (.long c1), .second, .val (.long c2), .second, .val (.int fl), .val (.int (2 : Int32)), .val (.int (2 : Int32)), .val (.int (0 : Int32)), .val (.ref b549), .val (.ref b569), .val (.ref b583), .val (.int (1 : Int32)), .val .null, .val (.int (0 : Int32)), .val (.int (0 : Int32)), .val .null, .val .null, .val (.int (0 : Int32))] [(.int (1 : Int32))])) _
          refine XS.iconst X658.here hx rfl (hb hby at_319) ?_
          refine XS.goto X658.here hx rfl (pc0 := 320) (pc' := 324) rfl (hb hby at_320) (by decide) (by decide) ?_
          refine XS.iand X658.here hx rfl (hb hby at_324) rfl ?_
          exact kt
        have S660 : ∀ t, Steps p.tables e below (T658.setTop (mkF m 325 #[.val (.long f1), .second, .val (.long f2), .second, .val (.long c1), .second, .val (.long c2), .second, .val (.int fl), .val (.int (2 : Int32)), .val (.int (2 : Int32)), .val (.int (0 : Int32)), .val (.ref b549), .val (.ref b569), .val (.ref b583), .val (.int (1 : Int32)), .val .null, .val (.int (0 : Int32)), .val (.int (0 : Int32)), .val .null, .val .null, .val (.int (0 : Int32))] [(.int (1 : Int32))])) t → Steps p.tables e below (T658.setTop (mkF m 325 #[.val (.long f1), .second, .val (.long f2), .second, .val (.long c1), .second, .val (.long c2), .second, .val (.int fl), .val (.int (2 : Int32)), .val (.int (2 : Int32)), .val (.int (0 : Int32)), .val (.ref b549), .val (.ref b569), .val (.ref b583), .val (.int (1 : Int32)), .val .null, .val (.int (0 : Int32)), .val (.int (0 : Int32)), .val .null, .val .null, .val (.int (0 : Int32))] [(.int ((1 : Int32) &&& (1 : Int32)))])) t := fun t k => by rw [(show ((1 : Int32) &&& (1 : Int32)) = (1 : Int32) from by decide)]; exact k
        have S661 : ∀ t, Steps p.tables e below (T658.setTop (mkF m 329 #[.val (.long f1), .second, .val (.long f2), .second, .val (.long c1), .second, .val (.long c2), .second, .val (.int fl), .val (.int (2 : Int32)), .val (.int (2 : Int32)), .val (.int (0 : Int32)), .val (.ref b549), .val (.ref b569), .val (.ref b583), .val (.int (1 : Int32)), .val .null, .val (.int (0 : Int32)), .val (.int (0 : Int32)), .val .null, .val .null, .val (.int (0 : Int32))] [(.int (1 : Int32))])) t → Steps p.tables e below (T658.setTop (mkF m 325 #[.val (.long f1), .second, .val (.long f2), .second, .val (.long c1), .second, .val (.long c2), .second, .val (.int fl), .val (.int (2 : Int32)), .val (.int (2 : Int32)), .val (.int (0 : Int32)), .val (.ref b549), .val (.ref b569), .val (.ref b583), .val (.int (1 : Int32)), .val .null, .val (.int (0 : Int32)), .val (.int (0 : Int32)), .val .null, .val .null, .val (.int (0 : Int32))] [(.int (1 : Int32))])) t := by
          intro t kt
          show Steps p.tables e below (T658.setTop (mkF m 325 #[.val (.long f1), .second, .val (.long f2), .second, .val (.long c1), .second, .val (.long c2), .second, .val (.int fl), .val (.int (2 : Int32)), .val (.int (2 : Int32)), .val (.int (0 : Int32)), .val (.ref b549), .val (.ref b569), .val (.ref b583), .val (.int (1 : Int32)), .val .null, .val (.int (0 : Int32)), .val (.int (0 : Int32)), .val .null, .val .null, .val (.int (0 : Int32))] [(.int (1 : Int32))])) _
          refine XS.istore X658.here hx rfl (hb hby at_325) rfl (l' := #[.val (.long f1), .second, .val (.long f2), .second, .val (.long c1), .second, .val (.long c2), .second, .val (.int fl), .val (.int (2 : Int32)), .val (.int (2 : Int32)), .val (.int (0 : Int32)), .val (.ref b549), .val (.ref b569), .val (.ref b583), .val (.int (1 : Int32)), .val .null, .val (.int (0 : Int32)), .val (.int (0 : Int32)), .val .null, .val .null, .val (.int (0 : Int32))]) rfl ?_
          refine XS.iload X658.here hx rfl (hb hby at_327) rfl ?_
          exact kt
        have C662 : ∀ t, Steps p.tables e below (T658.setTop (mkF m 329 #[.val (.long f1), .second, .val (.long f2), .second, .val (.long c1), .second, .val (.long c2), .second, .val (.int fl), .val (.int (2 : Int32)), .val (.int (2 : Int32)), .val (.int (0 : Int32)), .val (.ref b549), .val (.ref b569), .val (.ref b583), .val (.int (1 : Int32)), .val .null, .val (.int (0 : Int32)), .val (.int (0 : Int32)), .val .null, .val .null, .val (.int (0 : Int32))] [(.int (1 : Int32))])) t → Steps p.tables e below (s₁.setTop (mkF m 0 #[.val (.long f1), .second, .val (.long f2), .second, .val (.long c1), .second, .val (.long c2), .second, .val (.int fl), .unset, .unset, .unset, .unset, .unset, .unset, .unset, .unset, .unset, .unset, .unset, .unset, .unset] [])) t := (fun t k => (C330 t (S547 t (S548 t (st549 t (S562 t (st563.trans (S568 t (st569 t (S579 t (st580.trans (S582 t (st583 t (S595 t (st596.trans (S609 t (st610.trans (S627 t (st628.trans (S639 t (st642.trans (S644 t (S645 t (S646 t (st647.trans (S648 t (S649 t (S650 t (st652.trans (S653 t (S654 t (S655 t (S656 t (S657 t (st658.trans (S659 t (S660 t (S661 t k))))))))))))))))))))))))))))))))))))))
        obtain ⟨fs, hr, hrun, hended, hW, hsame⟩ := X658.leave (v := some (.int (1 : Int32))) (fun h => by rw [Bd.returns] at h; cases h)
        refine ⟨_, _, pre0 _ (C662 _ ?_), hrun, hended, _, _, rfl, ?_, ⟨_, rfl⟩, hW, hsame.mono (by decide) (by decide)⟩
        · exact retN X658 hx (t := .boolean) Bd.returns (by simp) (hb hby at_329) hr
        · show Q_rm0 Z f1 f2 c1 c2 fl h0 n0 _ T658.heap _
          rw [e658]
          exact ⟨rfl, N658⟩
      · have f663 := (F611.keep K628q)
        obtain ⟨cq664, kq664, q664a, q664b, q664c⟩ := isOf hZ e647 f643
        obtain ⟨_, _, ⟨T664, L664, k664, n664⟩, -, X664, ⟨Lc664, hQ664, l664, y664, z664⟩, st664⟩ := X647.virtualBack hx (y := (⟨"tidegate/operator/Crossings", "take", "(J)Ltidegate/operator/StageFunctions;"⟩ : MethodName)) (z := (⟨"tidegate/operator/Crossings", "take", "(J)Ltidegate/operator/StageFunctions;"⟩ : MethodName)) hown (mvT hZ (hw _ (List.mem_of_getElem? (i := 68) rfl))) (mvT hZ (hw _ (List.mem_of_getElem? (i := 69) rfl))) (notFace_of_selects (args := #[]) (mvT hZ (hw _ (List.mem_of_getElem? (i := 71) rfl)))) (mvT hZ (hw _ (List.mem_of_getElem? (i := 71) rfl))) (mvT hZ (hw _ (List.mem_of_getElem? (i := 70) rfl))) (by decide) (backOf (W := 0) (rm_tk2r l Z a0 hw [] b549 c2 b553 b598 f1 b569 b621 b621 h628 n0 z638 f643 F634 F633 f641 f663 F636 F637 F635 g_b549 g_b598 ne_b549_b598 ne_b549_b553 ne_b553_b598 ht651) hZ (hw _ (List.mem_of_getElem? (i := 72) rfl)) (hw _ (List.mem_of_getElem? (i := 2) rfl)) (by decide) (by decide)) q664a q664c (g := (mkF m 210 #[.val (.long f1), .second, .val (.long f2), .second, .val (.long c1), .second, .val (.long c2), .second, .val (.int fl), .val (.int (2 : Int32)), .val (.int (2 : Int32)), .val (.int (0 : Int32)), .val (.ref b549), .val (.ref b569), .val (.ref b583), .val (.int (1 : Int32)), .val .null, .val (.int (0 : Int32)), .val (.int (0 : Int32)), .unset, .unset, .unset] [(.long c2), (.ref b549)])) rfl (by rw [hml]; rfl) (Steps.refl _) (argsL := [(.long c2)]) (rest := []) (lenOf pd_2 rfl) rfl (by show 2 * 0 + _ ≤ _; exact Nat.le_of_eq rfl) (hb hby at_210) (fun _ _ => ⟨rfl, e647, (by decide : 28 + 0 ≤ _), (by decide : 49 + 0 ≤ _)⟩)
        dsimp only [Pt.U, Pt.locs, Pt.cells, Pt.slots] at X664 l664 y664 z664 st664 hQ664
        subst l664 y664 z664
        obtain ⟨h664, e664⟩ : ∃ z, T664.heap = z := ⟨_, rfl⟩
        rw [e664] at hQ664
        obtain ⟨rfl, N664q, K664q, F665, F666, F667, F668, F669⟩ := hQ664
        have z670 : n0 ≤ h664.size := Nat.le_trans z638 K664q.1
        have N664 := Fr.app N647 N664q
        have S671 : ∀ t, Steps p.tables e below (T664.setTop (mkF m 280 #[.val (.long f1), .second, .val (.long f2), .second, .val (.long c1), .second, .val (.long c2), .second, .val (.int fl), .val (.int (2 : Int32)), .val (.int (2 : Int32)), .val (.int (0 : Int32)), .val (.ref b549), .val (.ref b569), .val (.ref b583), .val (.int (1 : Int32)), .val .null, .val (.int (0 : Int32)), .val (.int (0 : Int32)), .val (.ref b569), .val (.ref b569), .unset] [(.int ((1 : Int32) &&& (1 : Int32)))])) t → Steps p.tables e below (T664.setTop (mkF m 213 #[.val (.long f1), .second, .val (.long f2), .second, .val (.long c1), .second, .val (.long c2), .second, .val (.int fl), .val (.int (2 : Int32)), .val (.int (2 : Int32)), .val (.int (0 : Int32)), .val (.ref b549), .val (.ref b569), .val (.ref b583), .val (.int (1 : Int32)), .val .null, .val (.int (0 : Int32)), .val (.int (0 : Int32)), .unset, .unset, .unset] [(.ref b569)])) t := by
          intro t kt
          show Steps p.tables e below (T664.setTop (mkF m 213 #[.val (.long f1), .second, .val (.long f2), .second, .val (.long c1), .second, .val (.long c2), .second, .val (.int fl), .val (.int (2 : Int32)), .val (.int (2 : Int32)), .val (.int (0 : Int32)), .val (.ref b549), .val (.ref b569), .val (.ref b583), .val (.int (1 : Int32)), .val .null, .val (.int (0 : Int32)), .val (.int (0 : Int32)), .unset, .unset, .unset] [(.ref b569)])) _
          refine XS.astore X664.here hx rfl (hb hby at_213) rfl rfl (l' := #[.val (.long f1), .second, .val (.long f2), .second, .val (.long c1), .second, .val (.long c2), .second, .val (.int fl), .val (.int (2 : Int32)), .val (.int (2 : Int32)), .val (.int (0 : Int32)), .val (.ref b549), .val (.ref b569), .val (.ref b583), .val (.int (1 : Int32)), .val .null, .val (.int (0 : Int32)), .val (.int (0 : Int32)), .val (.ref b569), .unset, .unset]) rfl ?_
          refine XS.iload X664.here hx rfl (hb hby at_215) rfl ?_
          refine XS.ifYes X664.here hx rfl (pc0 := 217) (pc' := 244) rfl (hb hby at_217) rfl ((if0 _ _).trans (teq rfl).1) (by decide) (by decide) ?_
          refine XS.iload X664.here hx rfl (hb hby at_244) rfl ?_
          refine XS.iconst X664.here hx rfl (hb hby at_246) ?_
          refine XS.icmpNo X664.here hx rfl (hb hby at_247) rfl (flt (by decide)).1 ?_
          show Steps p.tables e below (T664.setTop (mkF m 250 #[.val (.long f1), .second, .val (.long f2), .second, .val (.long c1), .second, .val (.long c2), .second, .val (.int fl), .val (.int (2 : Int32)), .val (.int (2 : Int32)), .val (.int (0 : Int32)), .val (.ref b549), .val (.ref b569), .val (.ref b583), .val (.int (1 : Int32)), .val .null, .val (.int (0 : Int32)), .val (.int (0 : Int32)), .val (.ref b569), .unset, .unset] [])) _
          refine XS.lloadN X664.here hx rfl (hb hby at_250) rfl ?_
          refine XS.lload X664.here hx rfl (hb hby at_251) rfl ?_
          refine XS.lcmp X664.here hx rfl (hb hby at_253) rfl ?_
          refine XS.ifNo X664.here hx rfl (hb hby at_254) rfl ((if0 _ _).trans (flt (fun q => ht651 ((lw_gt f1 c2).mp q))).2.2.1) ?_
          refine XS.aload X664.here hx rfl (hb hby at_257) rfl rfl ?_
          refine XS.goto X664.here hx rfl (pc0 := 259) (pc' := 263) rfl (hb hby at_259) (by decide) (by decide) ?_
          show Steps p.tables e below (T664.setTop (mkF m 263 #[.val (.long f1), .second, .val (.long f2), .second, .val (.long c1), .second, .val (.long c2), .second, .val (.int fl), .val (.int (2 : Int32)), .val (.int (2 : Int32)), .val (.int (0 : Int32)), .val (.ref b549), .val (.ref b569), .val (.ref b583), .val (.int (1 : Int32)), .val .null, .val (.int (0 : Int32)), .val (.int (0 : Int32)), .val (.ref b569), .unset, .unset] [(.ref b569)])) _
          refine XS.astore X664.here hx rfl (hb hby at_263) rfl rfl (l' := #[.val (.long f1), .second, .val (.long f2), .second, .val (.long c1), .second, .val (.long c2), .second, .val (.int fl), .val (.int (2 : Int32)), .val (.int (2 : Int32)), .val (.int (0 : Int32)), .val (.ref b549), .val (.ref b569), .val (.ref b583), .val (.int (1 : Int32)), .val .null, .val (.int (0 : Int32)), .val (.int (0 : Int32)), .val (.ref b569), .val (.ref b569), .unset]) rfl ?_
          refine XS.iload X664.here hx rfl (hb hby at_265) rfl ?_
          refine XS.aload X664.here hx rfl (hb hby at_267) rfl rfl ?_
          refine XS.aload X664.here hx rfl (hb hby at_269) rfl rfl ?_
          refine Jvm.RoadKit.acmp (g := (mkF m 271 #[.val (.long f1), .second, .val (.long f2), .second, .val (.long c1), .second, .val (.long c2), .second, .val (.int fl), .val (.int (2 : Int32)), .val (.int (2 : Int32)), .val (.int (0 : Int32)), .val (.ref b549), .val (.ref b569), .val (.ref b583), .val (.int (1 : Int32)), .val .null, .val (.int (0 : Int32)), .val (.int (0 : Int32)), .val (.ref b569), .val (.ref b569), .unset] [(.ref b569), (.ref b569), (.int (1 : Int32))])) X664 hx rfl rfl rfl (pc0 := 271) (pc' := 274) (same := true) rfl (hb hby at_271) rfl (decide_eq_true rfl) (by decide) (by decide) ?_
          refine XS.iconst X664.here hx rfl (hb hby at_274) ?_
          show Steps p.tables e below (T664.setTop (mkF m 275 #[.val (.long f1), .second, .val (.long f2), .second, .val (.long c1), .second, .val (.long c2), .second, .val (.int fl), .val (.int (2 : Int32)), .val (.int (2 : Int32)), .val (.int (0 : Int32)), .val (.ref b549), .val (.ref b569), .val (.ref b583), .val (.int (1 : Int32)), .val .null, .val (.int (0 : Int32)), .val (.int (0 : Int32)), .val (.ref b569), .val (.ref b569), .unset] [(.int (1 : Int32)), (.int (1 : Int32))])) _
          refine XS.goto X664.here hx rfl (pc0 := 275) (pc' := 279) rfl (hb hby at_275) (by decide) (by decide) ?_
          refine XS.iand X664.here hx rfl (hb hby at_279) rfl ?_
          exact kt
        have S672 : ∀ t, Steps p.tables e below (T664.setTop (mkF m 280 #[.val (.long f1), .second, .val (.long f2), .second, .val (.long c1), .second, .val (.long c2), .second, .val (.int fl), .val (.int (2 : Int32)), .val (.int (2 : Int32)), .val (.int (0 : Int32)), .val (.ref b549), .val (.ref b569), .val (.ref b583), .val (.int (1 : Int32)), .val .null, .val (.int (0 : Int32)), .val (.int (0 : Int32)), .val (.ref b569), .val (.ref b569), .unset] [(.int (1 : Int32))])) t → Steps p.tables e below (T664.setTop (mkF m 280 #[.val (.long f1), .second, .val (.long f2), .second, .val (.long c1), .second, .val (.long c2), .second, .val (.int fl), .val (.int (2 : Int32)), .val (.int (2 : Int32)), .val (.int (0 : Int32)), .val (.ref b549), .val (.ref b569), .val (.ref b583), .val (.int (1 : Int32)), .val .null, .val (.int (0 : Int32)), .val (.int (0 : Int32)), .val (.ref b569), .val (.ref b569), .unset] [(.int ((1 : Int32) &&& (1 : Int32)))])) t := fun t k => by rw [(show ((1 : Int32) &&& (1 : Int32)) = (1 : Int32) from by decide)]; exact k
        have S673 : ∀ t, Steps p.tables e below (T664.setTop (mkF m 295 #[.val (.long f1), .second, .val (.long f2), .second, .val (.long c1), .second, .val (.long c2), .second, .val (.int fl), .val (.int (2 : Int32)), .val (.int (2 : Int32)), .val (.int (0 : Int32)), .val (.ref b549), .val (.ref b569), .val (.ref b583), .val (.int (1 : Int32)), .val .null, .val (.int (0 : Int32)), .val (.int (0 : Int32)), .val (.ref b569), .val (.ref b569), .unset] [(.int ((0 : Int32) + (1 : Int32)))])) t → Steps p.tables e below (T664.setTop (mkF m 280 #[.val (.long f1), .second, .val (.long f2), .second, .val (.long c1), .second, .val (.long c2), .second, .val (.int fl), .val (.int (2 : Int32)), .val (.int (2 : Int32)), .val (.int (0 : Int32)), .val (.ref b549), .val (.ref b569), .val (.ref b583), .val (.int (1 : Int32)), .val .null, .val (.int (0 : Int32)), .val (.int (0 : Int32)), .val (.ref b569), .val (.ref b569), .unset] [(.int (1 : Int32))])) t := by
          intro t kt
          show Steps p.tables e below (T664.setTop (mkF m 280 #[.val (.long f1), .second, .val (.long f2), .second, .val (.long c1), .second, .val (.long c2), .second, .val (.int fl), .val (.int (2 : Int32)), .val (.int (2 : Int32)), .val (.int (0 : Int32)), .val (.ref b549), .val (.ref b569), .val (.ref b583), .val (.int (1 : Int32)), .val .null, .val (.int (0 : Int32)), .val (.int (0 : Int32)), .val (.ref b569), .val (.ref b569), .unset] [(.int (1 : Int32))])) _
          refine XS.istore X664.here hx rfl (hb hby at_280) rfl (l' := #[.val (.long f1), .second, .val (.long f2), .second, .val (.long c1), .second, .val (.long c2), .second, .val (.int fl), .val (.int (2 : Int32)), .val (.int (2 : Int32)), .val (.int (0 : Int32)), .val (.ref b549), .val (.ref b569), .val (.ref b583), .val (.int (1 : Int32)), .val .null, .val (.int (0 : Int32)), .val (.int (0 : Int32)), .val (.ref b569), .val (.ref b569), .unset]) rfl ?_
          refine XS.iload X664.here hx rfl (hb hby at_282) rfl ?_
          refine XS.aload X664.here hx rfl (hb hby at_284) rfl rfl ?_
          refine XS.ifnullNo X664.here hx rfl (hb hby at_286) rfl ?_
          refine XS.iconst X664.here hx rfl (hb hby at_289) ?_
          refine XS.goto X664.here hx rfl (pc0 := 290) (pc' := 294) rfl (hb hby at_290) (by decide) (by decide) ?_
          show Steps p.tables e below (T664.setTop (mkF m 294 #[.val (.long f1), .second, .val (.long f2), .second, .val (.long c1), .second, .val (.long c2), .second, .val (.int fl), .val (.int (2 : Int32)), .val (.int (2 : Int32)), .val (.int (0 : Int32)), .val (.ref b549), .val (.ref b569), .val (.ref b583), .val (.int (1 : Int32)), .val .null, .val (.int (0 : Int32)), .val (.int (0 : Int32)), .val (.ref b569), .val (.ref b569), .unset] [(.int (1 : Int32)), (.int (0 : Int32))])) _
          refine XS.iadd X664.here hx rfl (hb hby at_294) rfl ?_
          exact kt
        have S674 : ∀ t, Steps p.tables e below (T664.setTop (mkF m 295 #[.val (.long f1), .second, .val (.long f2), .second, .val (.long c1), .second, .val (.long c2), .second, .val (.int fl), .val (.int (2 : Int32)), .val (.int (2 : Int32)), .val (.int (0 : Int32)), .val (.ref b549), .val (.ref b569), .val (.ref b583), .val (.int (1 : Int32)), .val .null, .val (.int (0 : Int32)), .val (.int (0 : Int32)), .val (.ref b569), .val (.ref b569), .unset] [(.int (1 : Int32))])) t → Steps p.tables e below (T664.setTop (mkF m 295 #[.val (.long f1), .second, .val (.long f2), .second, .val (.long c1), .second, .val (.long c2), .second, .val (.int fl), .val (.int (2 : Int32)), .val (.int (2 : Int32)), .val (.int (0 : Int32)), .val (.ref b549), .val (.ref b569), .val (.ref b583), .val (.int (1 : Int32)), .val .null, .val (.int (0 : Int32)), .val (.int (0 : Int32)), .val (.ref b569), .val (.ref b569), .unset] [(.int ((0 : Int32) + (1 : Int32)))])) t := fun t k => by rw [(show ((0 : Int32) + (1 : Int32)) = (1 : Int32) from by decide)]; exact k
        have S675 : ∀ t, Steps p.tables e below (T664.setTop (mkF m 301 #[.val (.long f1), .second, .val (.long f2), .second, .val (.long c1), .second, .val (.long c2), .second, .val (.int fl), .val (.int (2 : Int32)), .val (.int (2 : Int32)), .val (.int (0 : Int32)), .val (.ref b549), .val (.ref b569), .val (.ref b583), .val (.int (1 : Int32)), .val .null, .val (.int (0 : Int32)), .val (.int (0 : Int32)), .val (.ref b569), .val (.ref b569), .val (.int (1 : Int32))] [(.ref b549), (.int (1 : Int32))])) t → Steps p.tables e below (T664.setTop (mkF m 295 #[.val (.long f1), .second, .val (.long f2), .second, .val (.long c1), .second, .val (.long c2), .second, .val (.int fl), .val (.int (2 : Int32)), .val (.int (2 : Int32)), .val (.int (0 : Int32)), .val (.ref b549), .val (.ref b569), .val (.ref b583), .val (.int (1 : Int32)), .val .null, .val (.int (0 : Int32)), .val (.int (0 : Int32)), .val (.ref b569), .val (.ref b569), .unset] [(.int (1 : Int32))])) t := by
          intro t kt
          show Steps p.tables e below (T664.setTop (mkF m 295 #[.val (.long f1), .second, .val (.long f2), .second, .val (.long c1), .second, .val (.long c2), .second, .val (.int fl), .val (.int (2 : Int32)), .val (.int (2 : Int32)), .val (.int (0 : Int32)), .val (.ref b549), .val (.ref b569), .val (.ref b583), .val (.int (1 : Int32)), .val .null, .val (.int (0 : Int32)), .val (.int (0 : Int32)), .val (.ref b569), .val (.ref b569), .unset] [(.int (1 : Int32))])) _
          refine XS.istore X664.here hx rfl (hb hby at_295) rfl (l' := #[.val (.long f1), .second, .val (.long f2), .second, .val (.long c1), .second, .val (.long c2), .second, .val (.int fl), .val (.int (2 : Int32)), .val (.int (2 : Int32)), .val (.int (0 : Int32)), .val (.ref b549), .val (.ref b569), .val (.ref b583), .val (.int (1 : Int32)), .val .null, .val (.int (0 : Int32)), .val (.int (0 : Int32)), .val (.ref b569), .val (.ref b569), .val (.int (1 : Int32))]) rfl ?_
          refine XS.iload X664.here hx rfl (hb hby at_297) rfl ?_
          refine XS.aload X664.here hx rfl (hb hby at_299) rfl rfl ?_
          exact kt
        have f677 := (f643.keep K664q)
        obtain ⟨cq676, kq676, q676a, q676b, q676c⟩ := isOf hZ e664 f677
        obtain ⟨_, _, ⟨T676, L676, k676, n676⟩, -, X676, ⟨Lc676, hQ676, l676, y676, z676⟩, st676⟩ := X664.virtualBack hx (y := (⟨"tidegate/operator/Crossings", "waiting", "()Z"⟩ : MethodName)) (z := (⟨"tidegate/operator/Crossings", "waiting", "()Z"⟩ : MethodName)) hown (mvT hZ (hw _ (List.mem_of_getElem? (i := 74) rfl))) (mvT hZ (hw _ (List.mem_of_getElem? (i := 75) rfl))) (notFace_of_selects (args := #[]) (mvT hZ (hw _ (List.mem_of_getElem? (i := 77) rfl)))) (mvT hZ (hw _ (List.mem_of_getElem? (i := 77) rfl))) (mvT hZ (hw _ (List.mem_of_getElem? (i := 76) rfl))) (by decide) (backOf (W := 1) (rm_wt1 l Z a0 hw [] b549 b598 b621 h664 n0 z670 F665 F667) hZ (hw _ (List.mem_of_getElem? (i := 78) rfl)) (hw _ (List.mem_of_getElem? (i := 2) rfl)) (by decide) (by decide)) q676a q676c (g := (mkF m 301 #[.val (.long f1), .second, .val (.long f2), .second, .val (.long c1), .second, .val (.long c2), .second, .val (.int fl), .val (.int (2 : Int32)), .val (.int (2 : Int32)), .val (.int (0 : Int32)), .val (.ref b549), .val (.ref b569), .val (.ref b583), .val (.int (1 : Int32)), .val .null, .val (.int (0 : Int32)), .val (.int (0 : Int32)), .val (.ref b569), .val (.ref b569), .val (.int (1 : Int32))] [(.ref b549), (.int (1 : Int32))])) rfl (by rw [hml]; rfl) (Steps.refl _) (argsL := []) (rest := [(.int (1 : Int32))]) (lenOf pd_3 rfl) rfl (by show 2 * 0 + _ ≤ _; exact Nat.le_of_eq rfl) (hb hby at_301) (fun _ _ => ⟨rfl, e664, (by decide : 28 + 0 ≤ _), (by decide : 49 + 0 ≤ _)⟩)
        dsimp only [Pt.U, Pt.locs, Pt.cells, Pt.slots] at X676 l676 y676 z676 st676 hQ676
        subst l676 y676 z676
        obtain ⟨rfl, N676q, e676⟩ := hQ676
        have N676 := Fr.app N664 N676q
        have S678 : ∀ t, Steps p.tables e below (T676.setTop (mkF m 325 #[.val (.long f1), .second, .val (.long f2), .second, .val (.long c1), .second, .val (.long c2), .second, .val (.int fl), .val (.int (2 : Int32)), .val (.int (2 : Int32)), .val (.int (0 : Int32)), .val (.ref b549), .val (.ref b569), .val (.ref b583), .val (.int (1 : Int32)), .val .null, .val (.int (0 : Int32)), .val (.int (0 : Int32)), .val (.ref b569), .val (.ref b569), .val (.int (1 : Int32))] [(.int ((1 : Int32) &&& (1 : Int32)))])) t → Steps p.tables e below (T676.setTop (mkF m 304 #[.val (.long f1), .second, .val (.long f2), .second, .val (.long c1), .second, .val (.long c2), .second, .val (.int fl), .val (.int (2 : Int32)), .val (.int (2 : Int32)), .val (.int (0 : Int32)), .val (.ref b549), .val (.ref b569), .val (.ref b583), .val (.int (1 : Int32)), .val .null, .val (.int (0 : Int32)), .val (.int (0 : Int32)), .val (.ref b569), .val (.ref b569), .val (.int (1 : Int32))] [(.int (1 : Int32)), (.int (1 : Int32))])) t := by
          intro t kt
          show Steps p.tables e below (T676.setTop (mkF m 304 #[.val (.long f1), .second, .val (.long f2), .second, .val (.long c1), .second, .val (.long c2), .second, .val (.int fl), .val (.int (2 : Int32)), .val (.int (2 : Int32)), .val (.int (0 : Int32)), .val (.ref b549), .val (.ref b569), .val (.ref b583), .val (.int (1 : Int32)), .val .null, .val (.int (0 : Int32)), .val (.int (0 : Int32)), .val (.ref b569), .val (.ref b569), .val (.int (1 : Int32))] [(.int (1 : Int32)), (.int (1 : Int32))])) _
          refine XS.iload X676.here hx rfl (hb hby at_304) rfl ?_
          refine XS.iload X676.here hx rfl (hb hby at_306) rfl ?_
          refine XS.icmpNo X676.here hx rfl (hb hby at_308) rfl (tlt (by decide)).2.1 ?_
          refine XS.iconst X676.here hx rfl (hb hby at_311) ?_
          refine XS.goto X676.here hx rfl (pc0 := 312) (pc' := 316) rfl (hb hby at_312) (by decide) (by decide) ?_
          refine XS.icmpNo X676.here hx rfl (hb hby at_316) rfl (teq rfl).2 ?_
          show Steps p.tables e below (T676.setTop (mkF m 319 #[.val (.long f1), .second, .val (.long f2), .second, .val (.long c1), .second, .val (.long c2), .second, .val (.int fl), .val (.int (2 : Int32)), .val (.int (2 : Int32)), .val (.int (0 : Int32)), .val (.ref b549), .val (.ref b569), .val (.ref b583), .val (.int (1 : Int32)), .val .null, .val (.int (0 : Int32)), .val (.int (0 : Int32)), .val (.ref b569), .val (.ref b569), .val (.int (1 : Int32))] [(.int (1 : Int32))])) _
          refine XS.iconst X676.here hx rfl (hb hby at_319) ?_
          refine XS.goto X676.here hx rfl (pc0 := 320) (pc' := 324) rfl (hb hby at_320) (by decide) (by decide) ?_
          refine XS.iand X676.here hx rfl (hb hby at_324) rfl ?_
          exact kt
        have S679 : ∀ t, Steps p.tables e below (T676.setTop (mkF m 325 #[.val (.long f1), .second, .val (.long f2), .second, .val (.long c1), .second, .val (.long c2), .second, .val (.int fl), .val (.int (2 : Int32)), .val (.int (2 : Int32)), .val (.int (0 : Int32)), .val (.ref b549), .val (.ref b569), .val (.ref b583), .val (.int (1 : Int32)), .val .null, .val (.int (0 : Int32)), .val (.int (0 : Int32)), .val (.ref b569), .val (.ref b569), .val (.int (1 : Int32))] [(.int (1 : Int32))])) t → Steps p.tables e below (T676.setTop (mkF m 325 #[.val (.long f1), .second, .val (.long f2), .second, .val (.long c1), .second, .val (.long c2), .second, .val (.int fl), .val (.int (2 : Int32)), .val (.int (2 : Int32)), .val (.int (0 : Int32)), .val (.ref b549), .val (.ref b569), .val (.ref b583), .val (.int (1 : Int32)), .val .null, .val (.int (0 : Int32)), .val (.int (0 : Int32)), .val (.ref b569), .val (.ref b569), .val (.int (1 : Int32))] [(.int ((1 : Int32) &&& (1 : Int32)))])) t := fun t k => by rw [(show ((1 : Int32) &&& (1 : Int32)) = (1 : Int32) from by decide)]; exact k
        have S680 : ∀ t, Steps p.tables e below (T676.setTop (mkF m 329 #[.val (.long f1), .second, .val (.long f2), .second, .val (.long c1), .second, .val (.long c2), .second, .val (.int fl), .val (.int (2 : Int32)), .val (.int (2 : Int32)), .val (.int (0 : Int32)), .val (.ref b549), .val (.ref b569), .val (.ref b583), .val (.int (1 : Int32)), .val .null, .val (.int (0 : Int32)), .val (.int (0 : Int32)), .val (.ref b569), .val (.ref b569), .val (.int (1 : Int32))] [(.int (1 : Int32))])) t → Steps p.tables e below (T676.setTop (mkF m 325 #[.val (.long f1), .second, .val (.long f2), .second, .val (.long c1), .second, .val (.long c2), .second, .val (.int fl), .val (.int (2 : Int32)), .val (.int (2 : Int32)), .val (.int (0 : Int32)), .val (.ref b549), .val (.ref b569), .val (.ref b583), .val (.int (1 : Int32)), .val .null, .val (.int (0 : Int32)), .val (.int (0 : Int32)), .val (.ref b569), .val (.ref b569), .val (.int (1 : Int32))] [(.int (1 : Int32))])) t := by
          intro t kt
          show Steps p.tables e below (T676.setTop (mkF m 325 #[.val (.long f1), .second, .val (.long f2), .second, .val (.long c1), .second, .val (.long c2), .second, .val (.int fl), .val (.int (2 : Int32)), .val (.int (2 : Int32)), .val (.int (0 : Int32)), .val (.ref b549), .val (.ref b569), .val (.ref b583), .val (.int (1 : Int32)), .val .null, .val (.int (0 : Int32)), .val (.int (0 : Int32)), .val (.ref b569), .val (.ref b569), .val (.int (1 : Int32))] [(.int (1 : Int32))])) _
          refine XS.istore X676.here hx rfl (hb hby at_325) rfl (l' := #[.val (.long f1), .second, .val (.long f2), .second, .val (.long c1), .second, .val (.long c2), .second, .val (.int fl), .val (.int (2 : Int32)), .val (.int (2 : Int32)), .val (.int (0 : Int32)), .val (.ref b549), .val (.ref b569), .val (.ref b583), .val (.int (1 : Int32)), .val .null, .val (.int (0 : Int32)), .val (.int (0 : Int32)), .val (.ref b569), .val (.ref b569), .val (.int (1 : Int32))]) rfl ?_
          refine XS.iload X676.here hx rfl (hb hby at_327) rfl ?_
          exact kt
        have C681 : ∀ t, Steps p.tables e below (T676.setTop (mkF m 329 #[.val (.long f1), .second, .val (.long f2), .second, .val (.long c1), .second, .val (.long c2), .second, .val (.int fl), .val (.int (2 : Int32)), .val (.int (2 : Int32)), .val (.int (0 : Int32)), .val (.ref b549), .val (.ref b569), .val (.ref b583), .val (.int (1 : Int32)), .val .null, .val (.int (0 : Int32)), .val (.int (0 : Int32)), .val (.ref b569), .val (.ref b569), .val (.int (1 : Int32))] [(.int (1 : Int32))])) t → Steps p.tables e below (s₁.setTop (mkF m 0 #[.val (.long f1), .second, .val (.long f2), .second, .val (.long c1), .second, .val (.long c2), .second, .val (.int fl), .unset, .unset, .unset, .unset, .unset, .unset, .unset, .unset, .unset, .unset, .unset, .unset, .unset] [])) t := (fun t k => (C330 t (S547 t (S548 t (st549 t (S562 t (st563.trans (S568 t (st569 t (S579 t (st580.trans (S582 t (st583 t (S595 t (st596.trans (S609 t (st610.trans (S627 t (st628.trans (S639 t (st642.trans (S644 t (S645 t (S646 t (st647.trans (S648 t (S649 t (S650 t (st664.trans (S671 t (S672 t (S673 t (S674 t (S675 t (st676.trans (S678 t (S679 t (S680 t k))))))))))))))))))))))))))))))))))))))
        obtain ⟨fs, hr, hrun, hended, hW, hsame⟩ := X676.leave (v := some (.int (1 : Int32))) (fun h => by rw [Bd.returns] at h; cases h)
        refine ⟨_, _, pre0 _ (C681 _ ?_), hrun, hended, _, _, rfl, ?_, ⟨_, rfl⟩, hW, hsame.mono (by decide) (by decide)⟩
        · exact retN X676 hx (t := .boolean) Bd.returns (by simp) (hb hby at_329) hr
        · show Q_rm0 Z f1 f2 c1 c2 fl h0 n0 _ T676.heap _
          rw [e676]
          exact ⟨rfl, N676⟩
    · have f682 := (f623.keep K628q)
      have f683 := (F617.keep K628q (ninS (Ne.symm ne_b549_b553) (ninS ne_b553_b598 nin0)))
      have f684 := (F611.keep K628q)
      obtain ⟨cq685, kq685, q685a, q685b, q685c⟩ := isOf hZ e628 f682
      obtain ⟨_, _, ⟨T685, L685, k685, n685⟩, -, X685, ⟨Lc685, hQ685, l685, y685, z685⟩, st685⟩ := X628.virtualBack hx (y := (⟨"tidegate/operator/Crossings", "take", "(J)Ltidegate/operator/StageFunctions;"⟩ : MethodName)) (z := (⟨"tidegate/operator/Crossings", "take", "(J)Ltidegate/operator/StageFunctions;"⟩ : MethodName)) hown (mvT hZ (hw _ (List.mem_of_getElem? (i := 68) rfl))) (mvT hZ (hw _ (List.mem_of_getElem? (i := 69) rfl))) (notFace_of_selects (args := #[]) (mvT hZ (hw _ (List.mem_of_getElem? (i := 71) rfl)))) (mvT hZ (hw _ (List.mem_of_getElem? (i := 71) rfl))) (mvT hZ (hw _ (List.mem_of_getElem? (i := 70) rfl))) (by decide) (backOf (W := 0) (rm_tk2r l Z a0 hw [] b549 c1 b553 b598 f1 b569 b621 b621 h628 n0 z638 f682 F634 F633 f683 f684 F636 F637 F635 g_b549 g_b598 ne_b549_b598 ne_b549_b553 ne_b553_b598 ht640) hZ (hw _ (List.mem_of_getElem? (i := 72) rfl)) (hw _ (List.mem_of_getElem? (i := 2) rfl)) (by decide) (by decide)) q685a q685c (g := (mkF m 100 #[.val (.long f1), .second, .val (.long f2), .second, .val (.long c1), .second, .val (.long c2), .second, .val (.int fl), .val (.int (2 : Int32)), .val (.int (2 : Int32)), .val (.int (0 : Int32)), .val (.ref b549), .val (.ref b569), .val (.ref b583), .val (.int (1 : Int32)), .unset, .unset, .unset, .unset, .unset, .unset] [(.long c1), (.ref b549)])) rfl (by rw [hml]; rfl) (Steps.refl _) (argsL := [(.long c1)]) (rest := []) (lenOf pd_2 rfl) rfl (by show 2 * 0 + _ ≤ _; exact Nat.le_of_eq rfl) (hb hby at_100) (fun _ _ => ⟨rfl, e628, (by decide : 28 + 0 ≤ _), (by decide : 49 + 0 ≤ _)⟩)
      dsimp only [Pt.U, Pt.locs, Pt.cells, Pt.slots] at X685 l685 y685 z685 st685 hQ685
      subst l685 y685 z685
      obtain ⟨h685, e685⟩ : ∃ z, T685.heap = z := ⟨_, rfl⟩
      rw [e685] at hQ685
      obtain ⟨rfl, N685q, K685q, F686, F687, F688, F689, F690⟩ := hQ685
      have z691 : n0 ≤ h685.size := Nat.le_trans z638 K685q.1
      have N685 := Fr.app N628 N685q
      have S692 : ∀ t, Steps p.tables e below (T685.setTop (mkF m 149 #[.val (.long f1), .second, .val (.long f2), .second, .val (.long c1), .second, .val (.long c2), .second, .val (.int fl), .val (.int (2 : Int32)), .val (.int (2 : Int32)), .val (.int (0 : Int32)), .val (.ref b549), .val (.ref b569), .val (.ref b583), .val (.int (1 : Int32)), .val (.ref b569), .val (.int (1 : Int32)), .unset, .unset, .unset, .unset] [(.int ((1 : Int32) &&& (1 : Int32)))])) t → Steps p.tables e below (T685.setTop (mkF m 103 #[.val (.long f1), .second, .val (.long f2), .second, .val (.long c1), .second, .val (.long c2), .second, .val (.int fl), .val (.int (2 : Int32)), .val (.int (2 : Int32)), .val (.int (0 : Int32)), .val (.ref b549), .val (.ref b569), .val (.ref b583), .val (.int (1 : Int32)), .unset, .unset, .unset, .unset, .unset, .unset] [(.ref b569)])) t := by
        intro t kt
        show Steps p.tables e below (T685.setTop (mkF m 103 #[.val (.long f1), .second, .val (.long f2), .second, .val (.long c1), .second, .val (.long c2), .second, .val (.int fl), .val (.int (2 : Int32)), .val (.int (2 : Int32)), .val (.int (0 : Int32)), .val (.ref b549), .val (.ref b569), .val (.ref b583), .val (.int (1 : Int32)), .unset, .unset, .unset, .unset, .unset, .unset] [(.ref b569)])) _
        refine XS.astore X685.here hx rfl (hb hby at_103) rfl rfl (l' := #[.val (.long f1), .second, .val (.long f2), .second, .val (.long c1), .second, .val (.long c2), .second, .val (.int fl), .val (.int (2 : Int32)), .val (.int (2 : Int32)), .val (.int (0 : Int32)), .val (.ref b549), .val (.ref b569), .val (.ref b583), .val (.int (1 : Int32)), .val (.ref b569), .unset, .unset, .unset, .unset, .unset]) rfl ?_
        refine XS.iload X685.here hx rfl (hb hby at_105) rfl ?_
        refine XS.iconst X685.here hx rfl (hb hby at_107) ?_
        refine XS.icmpNo X685.here hx rfl (hb hby at_108) rfl (flt (by decide)).1 ?_
        refine XS.lloadN X685.here hx rfl (hb hby at_111) rfl ?_
        refine XS.lload X685.here hx rfl (hb hby at_112) rfl ?_
        show Steps p.tables e below (T685.setTop (mkF m 114 #[.val (.long f1), .second, .val (.long f2), .second, .val (.long c1), .second, .val (.long c2), .second, .val (.int fl), .val (.int (2 : Int32)), .val (.int (2 : Int32)), .val (.int (0 : Int32)), .val (.ref b549), .val (.ref b569), .val (.ref b583), .val (.int (1 : Int32)), .val (.ref b569), .unset, .unset, .unset, .unset, .unset] [(.long c1), (.long f1)])) _
        refine XS.lcmp X685.here hx rfl (hb hby at_114) rfl ?_
        refine XS.ifNo X685.here hx rfl (hb hby at_115) rfl ((if0 _ _).trans (flt (fun q => ht640 ((lw_gt f1 c1).mp q))).2.2.1) ?_
        refine XS.iconst X685.here hx rfl (hb hby at_118) ?_
        refine XS.goto X685.here hx rfl (pc0 := 119) (pc' := 123) rfl (hb hby at_119) (by decide) (by decide) ?_
        refine XS.istore X685.here hx rfl (hb hby at_123) rfl (l' := #[.val (.long f1), .second, .val (.long f2), .second, .val (.long c1), .second, .val (.long c2), .second, .val (.int fl), .val (.int (2 : Int32)), .val (.int (2 : Int32)), .val (.int (0 : Int32)), .val (.ref b549), .val (.ref b569), .val (.ref b583), .val (.int (1 : Int32)), .val (.ref b569), .val (.int (1 : Int32)), .unset, .unset, .unset, .unset]) rfl ?_
        refine XS.iload X685.here hx rfl (hb hby at_125) rfl ?_
        show Steps p.tables e below (T685.setTop (mkF m 127 #[.val (.long f1), .second, .val (.long f2), .second, .val (.long c1), .second, .val (.long c2), .second, .val (.int fl), .val (.int (2 : Int32)), .val (.int (2 : Int32)), .val (.int (0 : Int32)), .val (.ref b549), .val (.ref b569), .val (.ref b583), .val (.int (1 : Int32)), .val (.ref b569), .val (.int (1 : Int32)), .unset, .unset, .unset, .unset] [(.int (1 : Int32))])) _
        refine XS.aload X685.here hx rfl (hb hby at_127) rfl rfl ?_
        refine XS.iload X685.here hx rfl (hb hby at_129) rfl ?_
        refine XS.ifNo X685.here hx rfl (hb hby at_131) rfl ((if0 _ _).trans (feq (by decide)).1) ?_
        refine XS.aload X685.here hx rfl (hb hby at_134) rfl rfl ?_
        refine XS.goto X685.here hx rfl (pc0 := 136) (pc' := 140) rfl (hb hby at_136) (by decide) (by decide) ?_
        refine Jvm.RoadKit.acmp (g := (mkF m 140 #[.val (.long f1), .second, .val (.long f2), .second, .val (.long c1), .second, .val (.long c2), .second, .val (.int fl), .val (.int (2 : Int32)), .val (.int (2 : Int32)), .val (.int (0 : Int32)), .val (.ref b549), .val (.ref b569), .val (.ref b583), .val (.int (1 : Int32)), .val (.ref b569), .val (.int (1 : Int32)), .unset, .unset, .unset, .unset] [(.ref b569), (.ref b569), (.int (1 : Int32))])) X685 hx rfl rfl rfl (pc0 := 140) (pc' := 143) (same := true) rfl (hb hby at_140) rfl (decide_eq_true rfl) (by decide) (by decide) ?_
        show Steps p.tables e below (T685.setTop (mkF m 143 #[.val (.long f1), .second, .val (.long f2), .second, .val (.long c1), .second, .val (.long c2), .second, .val (.int fl), .val (.int (2 : Int32)), .val (.int (2 : Int32)), .val (.int (0 : Int32)), .val (.ref b549), .val (.ref b569), .val (.ref b583), .val (.int (1 : Int32)), .val (.ref b569), .val (.int (1 : Int32)), .unset, .unset, .unset, .unset] [(.int (1 : Int32))])) _
        refine XS.iconst X685.here hx rfl (hb hby at_143) ?_
        refine XS.goto X685.here hx rfl (pc0 := 144) (pc' := 148) rfl (hb hby at_144) (by decide) (by decide) ?_
        refine XS.iand X685.here hx rfl (hb hby at_148) rfl ?_
        exact kt
      have S693 : ∀ t, Steps p.tables e below (T685.setTop (mkF m 149 #[.val (.long f1), .second, .val (.long f2), .second, .val (.long c1), .second, .val (.long c2), .second, .val (.int fl), .val (.int (2 : Int32)), .val (.int (2 : Int32)), .val (.int (0 : Int32)), .val (.ref b549), .val (.ref b569), .val (.ref b583), .val (.int (1 : Int32)), .val (.ref b569), .val (.int (1 : Int32)), .unset, .unset, .unset, .unset] [(.int (1 : Int32))])) t → Steps p.tables e below (T685.setTop (mkF m 149 #[.val (.long f1), .second, .val (.long f2), .second, .val (.long c1), .second, .val (.long c2), .second, .val (.int fl), .val (.int (2 : Int32)), .val (.int (2 : Int32)), .val (.int (0 : Int32)), .val (.ref b549), .val (.ref b569), .val (.ref b583), .val (.int (1 : Int32)), .val (.ref b569), .val (.int (1 : Int32)), .unset, .unset, .unset, .unset] [(.int ((1 : Int32) &&& (1 : Int32)))])) t := fun t k => by rw [(show ((1 : Int32) &&& (1 : Int32)) = (1 : Int32) from by decide)]; exact k
      have S694 : ∀ t, Steps p.tables e below (T685.setTop (mkF m 180 #[.val (.long f1), .second, .val (.long f2), .second, .val (.long c1), .second, .val (.long c2), .second, .val (.int fl), .val (.int (2 : Int32)), .val (.int (2 : Int32)), .val (.int (0 : Int32)), .val (.ref b549), .val (.ref b569), .val (.ref b583), .val (.int (1 : Int32)), .val (.ref b569), .val (.int (1 : Int32)), .val (.int (1 : Int32)), .unset, .unset, .unset] [(.ref b549), (.int (1 : Int32))])) t → Steps p.tables e below (T685.setTop (mkF m 149 #[.val (.long f1), .second, .val (.long f2), .second, .val (.long c1), .second, .val (.long c2), .second, .val (.int fl), .val (.int (2 : Int32)), .val (.int (2 : Int32)), .val (.int (0 : Int32)), .val (.ref b549), .val (.ref b569), .val (.ref b583), .val (.int (1 : Int32)), .val (.ref b569), .val (.int (1 : Int32)), .unset, .unset, .unset, .unset] [(.int (1 : Int32))])) t := by
        intro t kt
        show Steps p.tables e below (T685.setTop (mkF m 149 #[.val (.long f1), .second, .val (.long f2), .second, .val (.long c1), .second, .val (.long c2), .second, .val (.int fl), .val (.int (2 : Int32)), .val (.int (2 : Int32)), .val (.int (0 : Int32)), .val (.ref b549), .val (.ref b569), .val (.ref b583), .val (.int (1 : Int32)), .val (.ref b569), .val (.int (1 : Int32)), .unset, .unset, .unset, .unset] [(.int (1 : Int32))])) _
        refine XS.istore X685.here hx rfl (hb hby at_149) rfl (l' := #[.val (.long f1), .second, .val (.long f2), .second, .val (.long c1), .second, .val (.long c2), .second, .val (.int fl), .val (.int (2 : Int32)), .val (.int (2 : Int32)), .val (.int (0 : Int32)), .val (.ref b549), .val (.ref b569), .val (.ref b583), .val (.int (1 : Int32)), .val (.ref b569), .val (.int (1 : Int32)), .unset, .unset, .unset, .unset]) rfl ?_
        refine XS.iload X685.here hx rfl (hb hby at_151) rfl ?_
        refine XS.ifYes X685.here hx rfl (pc0 := 153) (pc' := 164) rfl (hb hby at_153) rfl ((if0 _ _).trans (teq rfl).1) (by decide) (by decide) ?_
        refine XS.iload X685.here hx rfl (hb hby at_164) rfl ?_
        refine XS.ifNo X685.here hx rfl (hb hby at_166) rfl ((if0 _ _).trans (feq (by decide)).1) ?_
        refine XS.iconst X685.here hx rfl (hb hby at_169) ?_
        show Steps p.tables e below (T685.setTop (mkF m 170 #[.val (.long f1), .second, .val (.long f2), .second, .val (.long c1), .second, .val (.long c2), .second, .val (.int fl), .val (.int (2 : Int32)), .val (.int (2 : Int32)), .val (.int (0 : Int32)), .val (.ref b549), .val (.ref b569), .val (.ref b583), .val (.int (1 : Int32)), .val (.ref b569), .val (.int (1 : Int32)), .unset, .unset, .unset, .unset] [(.int (1 : Int32))])) _
        refine XS.goto X685.here hx rfl (pc0 := 170) (pc' := 174) rfl (hb hby at_170) (by decide) (by decide) ?_
        refine XS.istore X685.here hx rfl (hb hby at_174) rfl (l' := #[.val (.long f1), .second, .val (.long f2), .second, .val (.long c1), .second, .val (.long c2), .second, .val (.int fl), .val (.int (2 : Int32)), .val (.int (2 : Int32)), .val (.int (0 : Int32)), .val (.ref b549), .val (.ref b569), .val (.ref b583), .val (.int (1 : Int32)), .val (.ref b569), .val (.int (1 : Int32)), .val (.int (1 : Int32)), .unset, .unset, .unset]) rfl ?_
        refine XS.iload X685.here hx rfl (hb hby at_176) rfl ?_
        refine XS.aload X685.here hx rfl (hb hby at_178) rfl rfl ?_
        exact kt
      have f696 := (f682.keep K685q)
      obtain ⟨cq695, kq695, q695a, q695b, q695c⟩ := isOf hZ e685 f696
      obtain ⟨_, _, ⟨T695, L695, k695, n695⟩, -, X695, ⟨Lc695, hQ695, l695, y695, z695⟩, st695⟩ := X685.virtualBack hx (y := (⟨"tidegate/operator/Crossings", "waiting", "()Z"⟩ : MethodName)) (z := (⟨"tidegate/operator/Crossings", "waiting", "()Z"⟩ : MethodName)) hown (mvT hZ (hw _ (List.mem_of_getElem? (i := 74) rfl))) (mvT hZ (hw _ (List.mem_of_getElem? (i := 75) rfl))) (notFace_of_selects (args := #[]) (mvT hZ (hw _ (List.mem_of_getElem? (i := 77) rfl)))) (mvT hZ (hw _ (List.mem_of_getElem? (i := 77) rfl))) (mvT hZ (hw _ (List.mem_of_getElem? (i := 76) rfl))) (by decide) (backOf (W := 1) (rm_wt1 l Z a0 hw [] b549 b598 b621 h685 n0 z691 F686 F688) hZ (hw _ (List.mem_of_getElem? (i := 78) rfl)) (hw _ (List.mem_of_getElem? (i := 2) rfl)) (by decide) (by decide)) q695a q695c (g := (mkF m 180 #[.val (.long f1), .second, .val (.long f2), .second, .val (.long c1), .second, .val (.long c2), .second, .val (.int fl), .val (.int (2 : Int32)), .val (.int (2 : Int32)), .val (.int (0 : Int32)), .val (.ref b549), .val (.ref b569), .val (.ref b583), .val (.int (1 : Int32)), .val (.ref b569), .val (.int (1 : Int32)), .val (.int (1 : Int32)), .unset, .unset, .unset] [(.ref b549), (.int (1 : Int32))])) rfl (by rw [hml]; rfl) (Steps.refl _) (argsL := []) (rest := [(.int (1 : Int32))]) (lenOf pd_3 rfl) rfl (by show 2 * 0 + _ ≤ _; exact Nat.le_of_eq rfl) (hb hby at_180) (fun _ _ => ⟨rfl, e685, (by decide : 28 + 0 ≤ _), (by decide : 49 + 0 ≤ _)⟩)
      dsimp only [Pt.U, Pt.locs, Pt.cells, Pt.slots] at X695 l695 y695 z695 st695 hQ695
      subst l695 y695 z695
      obtain ⟨rfl, N695q, e695⟩ := hQ695
      have N695 := Fr.app N685 N695q
      have S697 : ∀ t, Steps p.tables e below (T695.setTop (mkF m 204 #[.val (.long f1), .second, .val (.long f2), .second, .val (.long c1), .second, .val (.long c2), .second, .val (.int fl), .val (.int (2 : Int32)), .val (.int (2 : Int32)), .val (.int (0 : Int32)), .val (.ref b549), .val (.ref b569), .val (.ref b583), .val (.int (1 : Int32)), .val (.ref b569), .val (.int (1 : Int32)), .val (.int (1 : Int32)), .unset, .unset, .unset] [(.int ((1 : Int32) &&& (1 : Int32)))])) t → Steps p.tables e below (T695.setTop (mkF m 183 #[.val (.long f1), .second, .val (.long f2), .second, .val (.long c1), .second, .val (.long c2), .second, .val (.int fl), .val (.int (2 : Int32)), .val (.int (2 : Int32)), .val (.int (0 : Int32)), .val (.ref b549), .val (.ref b569), .val (.ref b583), .val (.int (1 : Int32)), .val (.ref b569), .val (.int (1 : Int32)), .val (.int (1 : Int32)), .unset, .unset, .unset] [(.int (1 : Int32)), (.int (1 : Int32))])) t := by
        intro t kt
        show Steps p.tables e below (T695.setTop (mkF m 183 #[.val (.long f1), .second, .val (.long f2), .second, .val (.long c1), .second, .val (.long c2), .second, .val (.int fl), .val (.int (2 : Int32)), .val (.int (2 : Int32)), .val (.int (0 : Int32)), .val (.ref b549), .val (.ref b569), .val (.ref b583), .val (.int (1 : Int32)), .val (.ref b569), .val (.int (1 : Int32)), .val (.int (1 : Int32)), .unset, .unset, .unset] [(.int (1 : Int32)), (.int (1 : Int32))])) _
        refine XS.iload X695.here hx rfl (hb hby at_183) rfl ?_
        refine XS.iload X695.here hx rfl (hb hby at_185) rfl ?_
        refine XS.icmpNo X695.here hx rfl (hb hby at_187) rfl (tlt (by decide)).2.1 ?_
        refine XS.iconst X695.here hx rfl (hb hby at_190) ?_
        refine XS.goto X695.here hx rfl (pc0 := 191) (pc' := 195) rfl (hb hby at_191) (by decide) (by decide) ?_
        refine XS.icmpNo X695.here hx rfl (hb hby at_195) rfl (teq rfl).2 ?_
        show Steps p.tables e below (T695.setTop (mkF m 198 #[.val (.long f1), .second, .val (.long f2), .second, .val (.long c1), .second, .val (.long c2), .second, .val (.int fl), .val (.int (2 : Int32)), .val (.int (2 : Int32)), .val (.int (0 : Int32)), .val (.ref b549), .val (.ref b569), .val (.ref b583), .val (.int (1 : Int32)), .val (.ref b569), .val (.int (1 : Int32)), .val (.int (1 : Int32)), .unset, .unset, .unset] [(.int (1 : Int32))])) _
        refine XS.iconst X695.here hx rfl (hb hby at_198) ?_
        refine XS.goto X695.here hx rfl (pc0 := 199) (pc' := 203) rfl (hb hby at_199) (by decide) (by decide) ?_
        refine XS.iand X695.here hx rfl (hb hby at_203) rfl ?_
        exact kt
      have S698 : ∀ t, Steps p.tables e below (T695.setTop (mkF m 204 #[.val (.long f1), .second, .val (.long f2), .second, .val (.long c1), .second, .val (.long c2), .second, .val (.int fl), .val (.int (2 : Int32)), .val (.int (2 : Int32)), .val (.int (0 : Int32)), .val (.ref b549), .val (.ref b569), .val (.ref b583), .val (.int (1 : Int32)), .val (.ref b569), .val (.int (1 : Int32)), .val (.int (1 : Int32)), .unset, .unset, .unset] [(.int (1 : Int32))])) t → Steps p.tables e below (T695.setTop (mkF m 204 #[.val (.long f1), .second, .val (.long f2), .second, .val (.long c1), .second, .val (.long c2), .second, .val (.int fl), .val (.int (2 : Int32)), .val (.int (2 : Int32)), .val (.int (0 : Int32)), .val (.ref b549), .val (.ref b569), .val (.ref b583), .val (.int (1 : Int32)), .val (.ref b569), .val (.int (1 : Int32)), .val (.int (1 : Int32)), .unset, .unset, .unset] [(.int ((1 : Int32) &&& (1 : Int32)))])) t := fun t k => by rw [(show ((1 : Int32) &&& (1 : Int32)) = (1 : Int32) from by decide)]; exact k
      have S699 : ∀ t, Steps p.tables e below (T695.setTop (mkF m 210 #[.val (.long f1), .second, .val (.long f2), .second, .val (.long c1), .second, .val (.long c2), .second, .val (.int fl), .val (.int (2 : Int32)), .val (.int (2 : Int32)), .val (.int (0 : Int32)), .val (.ref b549), .val (.ref b569), .val (.ref b583), .val (.int (1 : Int32)), .val (.ref b569), .val (.int (1 : Int32)), .val (.int (1 : Int32)), .unset, .unset, .unset] [(.long c2), (.ref b549)])) t → Steps p.tables e below (T695.setTop (mkF m 204 #[.val (.long f1), .second, .val (.long f2), .second, .val (.long c1), .second, .val (.long c2), .second, .val (.int fl), .val (.int (2 : Int32)), .val (.int (2 : Int32)), .val (.int (0 : Int32)), .val (.ref b549), .val (.ref b569), .val (.ref b583), .val (.int (1 : Int32)), .val (.ref b569), .val (.int (1 : Int32)), .val (.int (1 : Int32)), .unset, .unset, .unset] [(.int (1 : Int32))])) t := by
        intro t kt
        show Steps p.tables e below (T695.setTop (mkF m 204 #[.val (.long f1), .second, .val (.long f2), .second, .val (.long c1), .second, .val (.long c2), .second, .val (.int fl), .val (.int (2 : Int32)), .val (.int (2 : Int32)), .val (.int (0 : Int32)), .val (.ref b549), .val (.ref b569), .val (.ref b583), .val (.int (1 : Int32)), .val (.ref b569), .val (.int (1 : Int32)), .val (.int (1 : Int32)), .unset, .unset, .unset] [(.int (1 : Int32))])) _
        refine XS.istore X695.here hx rfl (hb hby at_204) rfl (l' := #[.val (.long f1), .second, .val (.long f2), .second, .val (.long c1), .second, .val (.long c2), .second, .val (.int fl), .val (.int (2 : Int32)), .val (.int (2 : Int32)), .val (.int (0 : Int32)), .val (.ref b549), .val (.ref b569), .val (.ref b583), .val (.int (1 : Int32)), .val (.ref b569), .val (.int (1 : Int32)), .val (.int (1 : Int32)), .unset, .unset, .unset]) rfl ?_
        refine XS.aload X695.here hx rfl (hb hby at_206) rfl rfl ?_
        refine XS.lload X695.here hx rfl (hb hby at_208) rfl ?_
        exact kt
      by_cases ht700 : c2 < f2
      · have f701 := (F630.keep K685q (ninS (Ne.symm ne_b549_b621) (ninS (Ne.symm ne_b598_b621) nin0)))
        obtain ⟨cq702, kq702, q702a, q702b, q702c⟩ := isOf hZ e695 f696
        obtain ⟨_, _, ⟨T702, L702, k702, n702⟩, -, X702, ⟨Lc702, hQ702, l702, y702, z702⟩, st702⟩ := X695.virtualBack hx (y := (⟨"tidegate/operator/Crossings", "take", "(J)Ltidegate/operator/StageFunctions;"⟩ : MethodName)) (z := (⟨"tidegate/operator/Crossings", "take", "(J)Ltidegate/operator/StageFunctions;"⟩ : MethodName)) hown (mvT hZ (hw _ (List.mem_of_getElem? (i := 68) rfl))) (mvT hZ (hw _ (List.mem_of_getElem? (i := 69) rfl))) (notFace_of_selects (args := #[]) (mvT hZ (hw _ (List.mem_of_getElem? (i := 71) rfl)))) (mvT hZ (hw _ (List.mem_of_getElem? (i := 71) rfl))) (mvT hZ (hw _ (List.mem_of_getElem? (i := 70) rfl))) (by decide) (backOf (W := 0) (rm_tk1 l Z a0 hw [] b549 c2 b598 b621 f2 h685 n0 z691 F686 F688 f701 ht700) hZ (hw _ (List.mem_of_getElem? (i := 72) rfl)) (hw _ (List.mem_of_getElem? (i := 2) rfl)) (by decide) (by decide)) q702a q702c (g := (mkF m 210 #[.val (.long f1), .second, .val (.long f2), .second, .val (.long c1), .second, .val (.long c2), .second, .val (.int fl), .val (.int (2 : Int32)), .val (.int (2 : Int32)), .val (.int (0 : Int32)), .val (.ref b549), .val (.ref b569), .val (.ref b583), .val (.int (1 : Int32)), .val (.ref b569), .val (.int (1 : Int32)), .val (.int (1 : Int32)), .unset, .unset, .unset] [(.long c2), (.ref b549)])) rfl (by rw [hml]; rfl) (Steps.refl _) (argsL := [(.long c2)]) (rest := []) (lenOf pd_2 rfl) rfl (by show 2 * 0 + _ ≤ _; exact Nat.le_of_eq rfl) (hb hby at_210) (fun _ _ => ⟨rfl, e695, (by decide : 28 + 0 ≤ _), (by decide : 49 + 0 ≤ _)⟩)
        dsimp only [Pt.U, Pt.locs, Pt.cells, Pt.slots] at X702 l702 y702 z702 st702 hQ702
        subst l702 y702 z702
        obtain ⟨rfl, N702q, e702⟩ := hQ702
        have N702 := Fr.app N695 N702q
        have S703 : ∀ t, Steps p.tables e below (T702.setTop (mkF m 280 #[.val (.long f1), .second, .val (.long f2), .second, .val (.long c1), .second, .val (.long c2), .second, .val (.int fl), .val (.int (2 : Int32)), .val (.int (2 : Int32)), .val (.int (0 : Int32)), .val (.ref b549), .val (.ref b569), .val (.ref b583), .val (.int (1 : Int32)), .val (.ref b569), .val (.int (1 : Int32)), .val (.int (1 : Int32)), .val .null, .val .null, .unset] [(.int ((1 : Int32) &&& (1 : Int32)))])) t → Steps p.tables e below (T702.setTop (mkF m 213 #[.val (.long f1), .second, .val (.long f2), .second, .val (.long c1), .second, .val (.long c2), .second, .val (.int fl), .val (.int (2 : Int32)), .val (.int (2 : Int32)), .val (.int (0 : Int32)), .val (.ref b549), .val (.ref b569), .val (.ref b583), .val (.int (1 : Int32)), .val (.ref b569), .val (.int (1 : Int32)), .val (.int (1 : Int32)), .unset, .unset, .unset] [.null])) t := by
          intro t kt
          show Steps p.tables e below (T702.setTop (mkF m 213 #[.val (.long f1), .second, .val (.long f2), .second, .val (.long c1), .second, .val (.long c2), .second, .val (.int fl), .val (.int (2 : Int32)), .val (.int (2 : Int32)), .val (.int (0 : Int32)), .val (.ref b549), .val (.ref b569), .val (.ref b583), .val (.int (1 : Int32)), .val (.ref b569), .val (.int (1 : Int32)), .val (.int (1 : Int32)), .unset, .unset, .unset] [.null])) _
          refine XS.astore X702.here hx rfl (hb hby at_213) rfl rfl (l' := #[.val (.long f1), .second, .val (.long f2), .second, .val (.long c1), .second, .val (.long c2), .second, .val (.int fl), .val (.int (2 : Int32)), .val (.int (2 : Int32)), .val (.int (0 : Int32)), .val (.ref b549), .val (.ref b569), .val (.ref b583), .val (.int (1 : Int32)), .val (.ref b569), .val (.int (1 : Int32)), .val (.int (1 : Int32)), .val .null, .unset, .unset]) rfl ?_
          refine XS.iload X702.here hx rfl (hb hby at_215) rfl ?_
          refine XS.ifNo X702.here hx rfl (hb hby at_217) rfl ((if0 _ _).trans (feq (by decide)).1) ?_
          refine XS.iload X702.here hx rfl (hb hby at_220) rfl ?_
          refine XS.iconst X702.here hx rfl (hb hby at_222) ?_
          refine XS.icmpNo X702.here hx rfl (hb hby at_223) rfl (teq rfl).2 ?_
          show Steps p.tables e below (T702.setTop (mkF m 226 #[.val (.long f1), .second, .val (.long f2), .second, .val (.long c1), .second, .val (.long c2), .second, .val (.int fl), .val (.int (2 : Int32)), .val (.int (2 : Int32)), .val (.int (0 : Int32)), .val (.ref b549), .val (.ref b569), .val (.ref b583), .val (.int (1 : Int32)), .val (.ref b569), .val (.int (1 : Int32)), .val (.int (1 : Int32)), .val .null, .unset, .unset] [])) _
          refine XS.lloadN X702.here hx rfl (hb hby at_226) rfl ?_
          refine XS.lload X702.here hx rfl (hb hby at_227) rfl ?_
          refine XS.lcmp X702.here hx rfl (hb hby at_229) rfl ?_
          refine XS.ifYes X702.here hx rfl (pc0 := 230) (pc' := 238) rfl (hb hby at_230) rfl ((if0 _ _).trans (tlt ((lw_gt f2 c2).mpr ht700)).2.2.1) (by decide) (by decide) ?_
          refine XS.aconstNull X702.here hx rfl (hb hby at_238) ?_
          refine XS.astore X702.here hx rfl (hb hby at_239) rfl rfl (l' := #[.val (.long f1), .second, .val (.long f2), .second, .val (.long c1), .second, .val (.long c2), .second, .val (.int fl), .val (.int (2 : Int32)), .val (.int (2 : Int32)), .val (.int (0 : Int32)), .val (.ref b549), .val (.ref b569), .val (.ref b583), .val (.int (1 : Int32)), .val (.ref b569), .val (.int (1 : Int32)), .val (.int (1 : Int32)), .val .null, .val .null, .unset]) rfl ?_
          show Steps p.tables e below (T702.setTop (mkF m 241 #[.val (.long f1), .second, .val (.long f2), .second, .val (.long c1), .second, .val (.long c2), .second, .val (.int fl), .val (.int (2 : Int32)), .val (.int (2 : Int32)), .val (.int (0 : Int32)), .val (.ref b549), .val (.ref b569), .val (.ref b583), .val (.int (1 : Int32)), .val (.ref b569), .val (.int (1 : Int32)), .val (.int (1 : Int32)), .val .null, .val .null, .unset] [])) _
          refine XS.goto X702.here hx rfl (pc0 := 241) (pc' := 265) rfl (hb hby at_241) (by decide) (by decide) ?_
          refine XS.iload X702.here hx rfl (hb hby at_265) rfl ?_
          refine XS.aload X702.here hx rfl (hb hby at_267) rfl rfl ?_
          refine XS.aload X702.here hx rfl (hb hby at_269) rfl rfl ?_
          refine Jvm.RoadKit.acmp (g := (mkF m 271 #[.val (.long f1), .second, .val (.long f2), .second, .val (.long c1), .second, .val (.long c2), .second, .val (.int fl), .val (.int (2 : Int32)), .val (.int (2 : Int32)), .val (.int (0 : Int32)), .val (.ref b549), .val (.ref b569), .val (.ref b583), .val (.int (1 : Int32)), .val (.ref b569), .val (.int (1 : Int32)), .val (.int (1 : Int32)), .val .null, .val .null, .unset] [.null, .null, (.int (1 : Int32))])) X702 hx rfl rfl rfl (pc0 := 271) (pc' := 274) (same := true) rfl (hb hby at_271) rfl (decide_eq_true rfl) (by decide) (by decide) ?_
          refine XS.iconst X702.here hx rfl (hb hby at_274) ?_
          show Steps p.tables e below (T702.setTop (mkF m 275 #[.val (.long f1), .second, .val (.long f2), .second, .val (.long c1), .second, .val (.long c2), .second, .val (.int fl), .val (.int (2 : Int32)), .val (.int (2 : Int32)), .val (.int (0 : Int32)), .val (.ref b549), .val (.ref b569), .val (.ref b583), .val (.int (1 : Int32)), .val (.ref b569), .val (.int (1 : Int32)), .val (.int (1 : Int32)), .val .null, .val .null, .unset] [(.int (1 : Int32)), (.int (1 : Int32))])) _
          refine XS.goto X702.here hx rfl (pc0 := 275) (pc' := 279) rfl (hb hby at_275) (by decide) (by decide) ?_
          refine XS.iand X702.here hx rfl (hb hby at_279) rfl ?_
          exact kt
        have S704 : ∀ t, Steps p.tables e below (T702.setTop (mkF m 280 #[.val (.long f1), .second, .val (.long f2), .second, .val (.long c1), .second, .val (.long c2), .second, .val (.int fl), .val (.int (2 : Int32)), .val (.int (2 : Int32)), .val (.int (0 : Int32)), .val (.ref b549), .val (.ref b569), .val (.ref b583), .val (.int (1 : Int32)), .val (.ref b569), .val (.int (1 : Int32)), .val (.int (1 : Int32)), .val .null, .val .null, .unset] [(.int (1 : Int32))])) t → Steps p.tables e below (T702.setTop (mkF m 280 #[.val (.long f1), .second, .val (.long f2), .second, .val (.long c1), .second, .val (.long c2), .second, .val (.int fl), .val (.int (2 : Int32)), .val (.int (2 : Int32)), .val (.int (0 : Int32)), .val (.ref b549), .val (.ref b569), .val (.ref b583), .val (.int (1 : Int32)), .val (.ref b569), .val (.int (1 : Int32)), .val (.int (1 : Int32)), .val .null, .val .null, .unset] [(.int ((1 : Int32) &&& (1 : Int32)))])) t := fun t k => by rw [(show ((1 : Int32) &&& (1 : Int32)) = (1 : Int32) from by decide)]; exact k
        have S705 : ∀ t, Steps p.tables e below (T702.setTop (mkF m 295 #[.val (.long f1), .second, .val (.long f2), .second, .val (.long c1), .second, .val (.long c2), .second, .val (.int fl), .val (.int (2 : Int32)), .val (.int (2 : Int32)), .val (.int (0 : Int32)), .val (.ref b549), .val (.ref b569), .val (.ref b583), .val (.int (1 : Int32)), .val (.ref b569), .val (.int (1 : Int32)), .val (.int (1 : Int32)), .val .null, .val .null, .unset] [(.int ((1 : Int32) + (0 : Int32)))])) t → Steps p.tables e below (T702.setTop (mkF m 280 #[.val (.long f1), .second, .val (.long f2), .second, .val (.long c1), .second, .val (.long c2), .second, .val (.int fl), .val (.int (2 : Int32)), .val (.int (2 : Int32)), .val (.int (0 : Int32)), .val (.ref b549), .val (.ref b569), .val (.ref b583), .val (.int (1 : Int32)), .val (.ref b569), .val (.int (1 : Int32)), .val (.int (1 : Int32)), .val .null, .val .null, .unset] [(.int (1 : Int32))])) t := by
          intro t kt
          show Steps p.tables e below (T702.setTop (mkF m 280 #[.val (.long f1), .second, .val (.long f2), .second, .val (.long c1), .second, .val (.long c2), .second, .val (.int fl), .val (.int (2 : Int32)), .val (.int (2 : Int32)), .val (.int (0 : Int32)), .val (.ref b549), .val (.ref b569), .val (.ref b583), .val (.int (1 : Int32)), .val (.ref b569), .val (.int (1 : Int32)), .val (.int (1 : Int32)), .val .null, .val .null, .unset] [(.int (1 : Int32))])) _
          refine XS.istore X702.here hx rfl (hb hby at_280) rfl (l' := #[.val (.long f1), .second, .val (.long f2), .second, .val (.long c1), .second, .val (.long c2), .second, .val (.int fl), .val (.int (2 : Int32)), .val (.int (2 : Int32)), .val (.int (0 : Int32)), .val (.ref b549), .val (.ref b569), .val (.ref b583), .val (.int (1 : Int32)), .val (.ref b569), .val (.int (1 : Int32)), .val (.int (1 : Int32)), .val .null, .val .null, .unset]) rfl ?_
          refine XS.iload X702.here hx rfl (hb hby at_282) rfl ?_
          refine XS.aload X702.here hx rfl (hb hby at_284) rfl rfl ?_
          refine XS.ifnullYes X702.here hx rfl (pc0 := 286) (pc' := 293) rfl (hb hby at_286) rfl (by decide) (by decide) ?_
          refine XS.iconst X702.here hx rfl (hb hby at_293) ?_
          refine XS.iadd X702.here hx rfl (hb hby at_294) rfl ?_
          exact kt
        have S706 : ∀ t, Steps p.tables e below (T702.setTop (mkF m 295 #[.val (.long f1), .second, .val (.long f2), .second, .val (.long c1), .second, .val (.long c2), .second, .val (.int fl), .val (.int (2 : Int32)), .val (.int (2 : Int32)), .val (.int (0 : Int32)), .val (.ref b549), .val (.ref b569), .val (.ref b583), .val (.int (1 : Int32)), .val (.ref b569), .val (.int (1 : Int32)), .val (.int (1 : Int32)), .val .null, .val .null, .unset] [(.int (1 : Int32))])) t → Steps p.tables e below (T702.setTop (mkF m 295 #[.val (.long f1), .second, .val (.long f2), .second, .val (.long c1), .second, .val (.long c2), .second, .val (.int fl), .val (.int (2 : Int32)), .val (.int (2 : Int32)), .val (.int (0 : Int32)), .val (.ref b549), .val (.ref b569), .val (.ref b583), .val (.int (1 : Int32)), .val (.ref b569), .val (.int (1 : Int32)), .val (.int (1 : Int32)), .val .null, .val .null, .unset] [(.int ((1 : Int32) + (0 : Int32)))])) t := fun t k => by rw [(show ((1 : Int32) + (0 : Int32)) = (1 : Int32) from by decide)]; exact k
        have S707 : ∀ t, Steps p.tables e below (T702.setTop (mkF m 301 #[.val (.long f1), .second, .val (.long f2), .second, .val (.long c1), .second, .val (.long c2), .second, .val (.int fl), .val (.int (2 : Int32)), .val (.int (2 : Int32)), .val (.int (0 : Int32)), .val (.ref b549), .val (.ref b569), .val (.ref b583), .val (.int (1 : Int32)), .val (.ref b569), .val (.int (1 : Int32)), .val (.int (1 : Int32)), .val .null, .val .null, .val (.int (1 : Int32))] [(.ref b549), (.int (1 : Int32))])) t → Steps p.tables e below (T702.setTop (mkF m 295 #[.val (.long f1), .second, .val (.long f2), .second, .val (.long c1), .second, .val (.long c2), .second, .val (.int fl), .val (.int (2 : Int32)), .val (.int (2 : Int32)), .val (.int (0 : Int32)), .val (.ref b549), .val (.ref b569), .val (.ref b583), .val (.int (1 : Int32)), .val (.ref b569), .val (.int (1 : Int32)), .val (.int (1 : Int32)), .val .null, .val .null, .unset] [(.int (1 : Int32))])) t := by
          intro t kt
          show Steps p.tables e below (T702.setTop (mkF m 295 #[.val (.long f1), .second, .val (.long f2), .second, .val (.long c1), .second, .val (.long c2), .second, .val (.int fl), .val (.int (2 : Int32)), .val (.int (2 : Int32)), .val (.int (0 : Int32)), .val (.ref b549), .val (.ref b569), .val (.ref b583), .val (.int (1 : Int32)), .val (.ref b569), .val (.int (1 : Int32)), .val (.int (1 : Int32)), .val .null, .val .null, .unset] [(.int (1 : Int32))])) _
          refine XS.istore X702.here hx rfl (hb hby at_295) rfl (l' := #[.val (.long f1), .second, .val (.long f2), .second, .val (.long c1), .second, .val (.long c2), .second, .val (.int fl), .val (.int (2 : Int32)), .val (.int (2 : Int32)), .val (.int (0 : Int32)), .val (.ref b549), .val (.ref b569), .val (.ref b583), .val (.int (1 : Int32)), .val (.ref b569), .val (.int (1 : Int32)), .val (.int (1 : Int32)), .val .null, .val .null, .val (.int (1 : Int32))]) rfl ?_
          refine XS.iload X702.here hx rfl (hb hby at_297) rfl ?_
          refine XS.aload X702.here hx rfl (hb hby at_299) rfl rfl ?_
          exact kt
        obtain ⟨cq708, kq708, q708a, q708b, q708c⟩ := isOf hZ e702 f696
        obtain ⟨_, _, ⟨T708, L708, k708, n708⟩, -, X708, ⟨Lc708, hQ708, l708, y708, z708⟩, st708⟩ := X702.virtualBack hx (y := (⟨"tidegate/operator/Crossings", "waiting", "()Z"⟩ : MethodName)) (z := (⟨"tidegate/operator/Crossings", "waiting", "()Z"⟩ : MethodName)) hown (mvT hZ (hw _ (List.mem_of_getElem? (i := 74) rfl))) (mvT hZ (hw _ (List.mem_of_getElem? (i := 75) rfl))) (notFace_of_selects (args := #[]) (mvT hZ (hw _ (List.mem_of_getElem? (i := 77) rfl)))) (mvT hZ (hw _ (List.mem_of_getElem? (i := 77) rfl))) (mvT hZ (hw _ (List.mem_of_getElem? (i := 76) rfl))) (by decide) (backOf (W := 1) (rm_wt1 l Z a0 hw [] b549 b598 b621 h685 n0 z691 F686 F688) hZ (hw _ (List.mem_of_getElem? (i := 78) rfl)) (hw _ (List.mem_of_getElem? (i := 2) rfl)) (by decide) (by decide)) q708a q708c (g := (mkF m 301 #[.val (.long f1), .second, .val (.long f2), .second, .val (.long c1), .second, .val (.long c2), .second, .val (.int fl), .val (.int (2 : Int32)), .val (.int (2 : Int32)), .val (.int (0 : Int32)), .val (.ref b549), .val (.ref b569), .val (.ref b583), .val (.int (1 : Int32)), .val (.ref b569), .val (.int (1 : Int32)), .val (.int (1 : Int32)), .val .null, .val .null, .val (.int (1 : Int32))] [(.ref b549), (.int (1 : Int32))])) rfl (by rw [hml]; rfl) (Steps.refl _) (argsL := []) (rest := [(.int (1 : Int32))]) (lenOf pd_3 rfl) rfl (by show 2 * 0 + _ ≤ _; exact Nat.le_of_eq rfl) (hb hby at_301) (fun _ _ => ⟨rfl, e702, (by decide : 28 + 0 ≤ _), (by decide : 49 + 0 ≤ _)⟩)
        dsimp only [Pt.U, Pt.locs, Pt.cells, Pt.slots] at X708 l708 y708 z708 st708 hQ708
        subst l708 y708 z708
        obtain ⟨rfl, N708q, e708⟩ := hQ708
        have N708 := Fr.app N702 N708q
        have S709 : ∀ t, Steps p.tables e below (T708.setTop (mkF m 325 #[.val (.long f1), .second, .val (.long f2), .second, .val (.long c1), .second, .val (.long c2), .second, .val (.int fl), .val (.int (2 : Int32)), .val (.int (2 : Int32)), .val (.int (0 : Int32)), .val (.ref b549), .val (.ref b569), .val (.ref b583), .val (.int (1 : Int32)), .val (.ref b569), .val (.int (1 : Int32)), .val (.int (1 : Int32)), .val .null, .val .null, .val (.int (1 : Int32))] [(.int ((1 : Int32) &&& (1 : Int32)))])) t → Steps p.tables e below (T708.setTop (mkF m 304 #[.val (.long f1), .second, .val (.long f2), .second, .val (.long c1), .second, .val (.long c2), .second, .val (.int fl), .val (.int (2 : Int32)), .val (.int (2 : Int32)), .val (.int (0 : Int32)), .val (.ref b549), .val (.ref b569), .val (.ref b583), .val (.int (1 : Int32)), .val (.ref b569), .val (.int (1 : Int32)), .val (.int (1 : Int32)), .val .null, .val .null, .val (.int (1 : Int32))] [(.int (1 : Int32)), (.int (1 : Int32))])) t := by
          intro t kt
          show Steps p.tables e below (T708.setTop (mkF m 304 #[.val (.long f1), .second, .val (.long f2), .second, .val (.long c1), .second, .val (.long c2), .second, .val (.int fl), .val (.int (2 : Int32)), .val (.int (2 : Int32)), .val (.int (0 : Int32)), .val (.ref b549), .val (.ref b569), .val (.ref b583), .val (.int (1 : Int32)), .val (.ref b569), .val (.int (1 : Int32)), .val (.int (1 : Int32)), .val .null, .val .null, .val (.int (1 : Int32))] [(.int (1 : Int32)), (.int (1 : Int32))])) _
          refine XS.iload X708.here hx rfl (hb hby at_304) rfl ?_
          refine XS.iload X708.here hx rfl (hb hby at_306) rfl ?_
          refine XS.icmpNo X708.here hx rfl (hb hby at_308) rfl (tlt (by decide)).2.1 ?_
          refine XS.iconst X708.here hx rfl (hb hby at_311) ?_
          refine XS.goto X708.here hx rfl (pc0 := 312) (pc' := 316) rfl (hb hby at_312) (by decide) (by decide) ?_
          refine XS.icmpNo X708.here hx rfl (hb hby at_316) rfl (teq rfl).2 ?_
          show Steps p.tables e below (T708.setTop (mkF m 319 #[.val (.long f1), .second, .val (.long f2), .second, .val (.long c1), .second, .val (.long c2), .second, .val (.int fl), .val (.int (2 : Int32)), .val (.int (2 : Int32)), .val (.int (0 : Int32)), .val (.ref b549), .val (.ref b569), .val (.ref b583), .val (.int (1 : Int32)), .val (.ref b569), .val (.int (1 : Int32)), .val (.int (1 : Int32)), .val .null, .val .null, .val (.int (1 : Int32))] [(.int (1 : Int32))])) _
          refine XS.iconst X708.here hx rfl (hb hby at_319) ?_
          refine XS.goto X708.here hx rfl (pc0 := 320) (pc' := 324) rfl (hb hby at_320) (by decide) (by decide) ?_
          refine XS.iand X708.here hx rfl (hb hby at_324) rfl ?_
          exact kt
        have S710 : ∀ t, Steps p.tables e below (T708.setTop (mkF m 325 #[.val (.long f1), .second, .val (.long f2), .second, .val (.long c1), .second, .val (.long c2), .second, .val (.int fl), .val (.int (2 : Int32)), .val (.int (2 : Int32)), .val (.int (0 : Int32)), .val (.ref b549), .val (.ref b569), .val (.ref b583), .val (.int (1 : Int32)), .val (.ref b569), .val (.int (1 : Int32)), .val (.int (1 : Int32)), .val .null, .val .null, .val (.int (1 : Int32))] [(.int (1 : Int32))])) t → Steps p.tables e below (T708.setTop (mkF m 325 #[.val (.long f1), .second, .val (.long f2), .second, .val (.long c1), .second, .val (.long c2), .second, .val (.int fl), .val (.int (2 : Int32)), .val (.int (2 : Int32)), .val (.int (0 : Int32)), .val (.ref b549), .val (.ref b569), .val (.ref b583), .val (.int (1 : Int32)), .val (.ref b569), .val (.int (1 : Int32)), .val (.int (1 : Int32)), .val .null, .val .null, .val (.int (1 : Int32))] [(.int ((1 : Int32) &&& (1 : Int32)))])) t := fun t k => by rw [(show ((1 : Int32) &&& (1 : Int32)) = (1 : Int32) from by decide)]; exact k
        have S711 : ∀ t, Steps p.tables e below (T708.setTop (mkF m 329 #[.val (.long f1), .second, .val (.long f2), .second, .val (.long c1), .second, .val (.long c2), .second, .val (.int fl), .val (.int (2 : Int32)), .val (.int (2 : Int32)), .val (.int (0 : Int32)), .val (.ref b549), .val (.ref b569), .val (.ref b583), .val (.int (1 : Int32)), .val (.ref b569), .val (.int (1 : Int32)), .val (.int (1 : Int32)), .val .null, .val .null, .val (.int (1 : Int32))] [(.int (1 : Int32))])) t → Steps p.tables e below (T708.setTop (mkF m 325 #[.val (.long f1), .second, .val (.long f2), .second, .val (.long c1), .second, .val (.long c2), .second, .val (.int fl), .val (.int (2 : Int32)), .val (.int (2 : Int32)), .val (.int (0 : Int32)), .val (.ref b549), .val (.ref b569), .val (.ref b583), .val (.int (1 : Int32)), .val (.ref b569), .val (.int (1 : Int32)), .val (.int (1 : Int32)), .val .null, .val .null, .val (.int (1 : Int32))] [(.int (1 : Int32))])) t := by
          intro t kt
          show Steps p.tables e below (T708.setTop (mkF m 325 #[.val (.long f1), .second, .val (.long f2), .second, .val (.long c1), .second, .val (.long c2), .second, .val (.int fl), .val (.int (2 : Int32)), .val (.int (2 : Int32)), .val (.int (0 : Int32)), .val (.ref b549), .val (.ref b569), .val (.ref b583), .val (.int (1 : Int32)), .val (.ref b569), .val (.int (1 : Int32)), .val (.int (1 : Int32)), .val .null, .val .null, .val (.int (1 : Int32))] [(.int (1 : Int32))])) _
          refine XS.istore X708.here hx rfl (hb hby at_325) rfl (l' := #[.val (.long f1), .second, .val (.long f2), .second, .val (.long c1), .second, .val (.long c2), .second, .val (.int fl), .val (.int (2 : Int32)), .val (.int (2 : Int32)), .val (.int (0 : Int32)), .val (.ref b549), .val (.ref b569), .val (.ref b583), .val (.int (1 : Int32)), .val (.ref b569), .val (.int (1 : Int32)), .val (.int (1 : Int32)), .val .null, .val .null, .val (.int (1 : Int32))]) rfl ?_
          refine XS.iload X708.here hx rfl (hb hby at_327) rfl ?_
          exact kt
        have C712 : ∀ t, Steps p.tables e below (T708.setTop (mkF m 329 #[.val (.long f1), .second, .val (.long f2), .second, .val (.long c1), .second, .val (.long c2), .second, .val (.int fl), .val (.int (2 : Int32)), .val (.int (2 : Int32)), .val (.int (0 : Int32)), .val (.ref b549), .val (.ref b569), .val (.ref b583), .val (.int (1 : Int32)), .val (.ref b569), .val (.int (1 : Int32)), .val (.int (1 : Int32)), .val .null, .val .null, .val (.int (1 : Int32))] [(.int (1 : Int32))])) t → Steps p.tables e below (s₁.setTop (mkF m 0 #[.val (.long f1), .second, .val (.long f2), .second, .val (.long c1), .second, .val (.long c2), .second, .val (.int fl), .unset, .unset, .unset, .unset, .unset, .unset, .unset, .unset, .unset, .unset, .unset, .unset, .unset] [])) t := (fun t k => (C330 t (S547 t (S548 t (st549 t (S562 t (st563.trans (S568 t (st569 t (S579 t (st580.trans (S582 t (st583 t (S595 t (st596.trans (S609 t (st610.trans (S627 t (st628.trans (S639 t (st685.trans (S692 t (S693 t (S694 t (st695.trans (S697 t (S698 t (S699 t (st702.trans (S703 t (S704 t (S705 t (S706 t (S707 t (st708.trans (S709 t (S710 t (S711 t k))))))))))))))))))))))))))))))))))))))
        obtain ⟨fs, hr, hrun, hended, hW, hsame⟩ := X708.leave (v := some (.int (1 : Int32))) (fun h => by rw [Bd.returns] at h; cases h)
        refine ⟨_, _, pre0 _ (C712 _ ?_), hrun, hended, _, _, rfl, ?_, ⟨_, rfl⟩, hW, hsame.mono (by decide) (by decide)⟩
        · exact retN X708 hx (t := .boolean) Bd.returns (by simp) (hb hby at_329) hr
        · show Q_rm0 Z f1 f2 c1 c2 fl h0 n0 _ T708.heap _
          rw [e708]
          exact ⟨rfl, N708⟩
      · have f713 := (F629.keep K685q)
        have f714 := (F630.keep K685q (ninS (Ne.symm ne_b549_b621) (ninS (Ne.symm ne_b598_b621) nin0)))
        have f715 := (F631.keep K685q (ninS (Ne.symm ne_b549_b621) (ninS (Ne.symm ne_b598_b621) nin0)))
        have f716 := (F632.keep K685q (ninS (Ne.symm ne_b549_b621) (ninS (Ne.symm ne_b598_b621) nin0)))
        obtain ⟨cq717, kq717, q717a, q717b, q717c⟩ := isOf hZ e695 f696
        obtain ⟨_, _, ⟨T717, L717, k717, n717⟩, -, X717, ⟨Lc717, hQ717, l717, y717, z717⟩, st717⟩ := X695.virtualBack hx (y := (⟨"tidegate/operator/Crossings", "take", "(J)Ltidegate/operator/StageFunctions;"⟩ : MethodName)) (z := (⟨"tidegate/operator/Crossings", "take", "(J)Ltidegate/operator/StageFunctions;"⟩ : MethodName)) hown (mvT hZ (hw _ (List.mem_of_getElem? (i := 68) rfl))) (mvT hZ (hw _ (List.mem_of_getElem? (i := 69) rfl))) (notFace_of_selects (args := #[]) (mvT hZ (hw _ (List.mem_of_getElem? (i := 71) rfl)))) (mvT hZ (hw _ (List.mem_of_getElem? (i := 71) rfl))) (mvT hZ (hw _ (List.mem_of_getElem? (i := 70) rfl))) (by decide) (backOf (W := 0) (rm_tk2n l Z a0 hw [] b549 c2 b598 b621 f2 b583 b621 h685 n0 z691 f696 F686 F687 F688 f713 f714 f715 f716 g_b549 g_b621 ne_b549_b621 ne_b549_b598 ne_b598_b621 ht700) hZ (hw _ (List.mem_of_getElem? (i := 72) rfl)) (hw _ (List.mem_of_getElem? (i := 2) rfl)) (by decide) (by decide)) q717a q717c (g := (mkF m 210 #[.val (.long f1), .second, .val (.long f2), .second, .val (.long c1), .second, .val (.long c2), .second, .val (.int fl), .val (.int (2 : Int32)), .val (.int (2 : Int32)), .val (.int (0 : Int32)), .val (.ref b549), .val (.ref b569), .val (.ref b583), .val (.int (1 : Int32)), .val (.ref b569), .val (.int (1 : Int32)), .val (.int (1 : Int32)), .unset, .unset, .unset] [(.long c2), (.ref b549)])) rfl (by rw [hml]; rfl) (Steps.refl _) (argsL := [(.long c2)]) (rest := []) (lenOf pd_2 rfl) rfl (by show 2 * 0 + _ ≤ _; exact Nat.le_of_eq rfl) (hb hby at_210) (fun _ _ => ⟨rfl, e695, (by decide : 28 + 0 ≤ _), (by decide : 49 + 0 ≤ _)⟩)
        dsimp only [Pt.U, Pt.locs, Pt.cells, Pt.slots] at X717 l717 y717 z717 st717 hQ717
        subst l717 y717 z717
        obtain ⟨h717, e717⟩ : ∃ z, T717.heap = z := ⟨_, rfl⟩
        rw [e717] at hQ717
        obtain ⟨rfl, N717q, K717q, F718, F719, F720, F721, F722⟩ := hQ717
        have z723 : n0 ≤ h717.size := Nat.le_trans z691 K717q.1
        have N717 := Fr.app N695 N717q
        have S724 : ∀ t, Steps p.tables e below (T717.setTop (mkF m 280 #[.val (.long f1), .second, .val (.long f2), .second, .val (.long c1), .second, .val (.long c2), .second, .val (.int fl), .val (.int (2 : Int32)), .val (.int (2 : Int32)), .val (.int (0 : Int32)), .val (.ref b549), .val (.ref b569), .val (.ref b583), .val (.int (1 : Int32)), .val (.ref b569), .val (.int (1 : Int32)), .val (.int (1 : Int32)), .val (.ref b583), .val (.ref b583), .unset] [(.int ((1 : Int32) &&& (1 : Int32)))])) t → Steps p.tables e below (T717.setTop (mkF m 213 #[.val (.long f1), .second, .val (.long f2), .second, .val (.long c1), .second, .val (.long c2), .second, .val (.int fl), .val (.int (2 : Int32)), .val (.int (2 : Int32)), .val (.int (0 : Int32)), .val (.ref b549), .val (.ref b569), .val (.ref b583), .val (.int (1 : Int32)), .val (.ref b569), .val (.int (1 : Int32)), .val (.int (1 : Int32)), .unset, .unset, .unset] [(.ref b583)])) t := by
          intro t kt
          show Steps p.tables e below (T717.setTop (mkF m 213 #[.val (.long f1), .second, .val (.long f2), .second, .val (.long c1), .second, .val (.long c2), .second, .val (.int fl), .val (.int (2 : Int32)), .val (.int (2 : Int32)), .val (.int (0 : Int32)), .val (.ref b549), .val (.ref b569), .val (.ref b583), .val (.int (1 : Int32)), .val (.ref b569), .val (.int (1 : Int32)), .val (.int (1 : Int32)), .unset, .unset, .unset] [(.ref b583)])) _
          refine XS.astore X717.here hx rfl (hb hby at_213) rfl rfl (l' := #[.val (.long f1), .second, .val (.long f2), .second, .val (.long c1), .second, .val (.long c2), .second, .val (.int fl), .val (.int (2 : Int32)), .val (.int (2 : Int32)), .val (.int (0 : Int32)), .val (.ref b549), .val (.ref b569), .val (.ref b583), .val (.int (1 : Int32)), .val (.ref b569), .val (.int (1 : Int32)), .val (.int (1 : Int32)), .val (.ref b583), .unset, .unset]) rfl ?_
          refine XS.iload X717.here hx rfl (hb hby at_215) rfl ?_
          refine XS.ifNo X717.here hx rfl (hb hby at_217) rfl ((if0 _ _).trans (feq (by decide)).1) ?_
          refine XS.iload X717.here hx rfl (hb hby at_220) rfl ?_
          refine XS.iconst X717.here hx rfl (hb hby at_222) ?_
          refine XS.icmpNo X717.here hx rfl (hb hby at_223) rfl (teq rfl).2 ?_
          show Steps p.tables e below (T717.setTop (mkF m 226 #[.val (.long f1), .second, .val (.long f2), .second, .val (.long c1), .second, .val (.long c2), .second, .val (.int fl), .val (.int (2 : Int32)), .val (.int (2 : Int32)), .val (.int (0 : Int32)), .val (.ref b549), .val (.ref b569), .val (.ref b583), .val (.int (1 : Int32)), .val (.ref b569), .val (.int (1 : Int32)), .val (.int (1 : Int32)), .val (.ref b583), .unset, .unset] [])) _
          refine XS.lloadN X717.here hx rfl (hb hby at_226) rfl ?_
          refine XS.lload X717.here hx rfl (hb hby at_227) rfl ?_
          refine XS.lcmp X717.here hx rfl (hb hby at_229) rfl ?_
          refine XS.ifNo X717.here hx rfl (hb hby at_230) rfl ((if0 _ _).trans (flt (fun q => ht700 ((lw_gt f2 c2).mp q))).2.2.1) ?_
          refine XS.aload X717.here hx rfl (hb hby at_233) rfl rfl ?_
          refine XS.goto X717.here hx rfl (pc0 := 235) (pc' := 239) rfl (hb hby at_235) (by decide) (by decide) ?_
          show Steps p.tables e below (T717.setTop (mkF m 239 #[.val (.long f1), .second, .val (.long f2), .second, .val (.long c1), .second, .val (.long c2), .second, .val (.int fl), .val (.int (2 : Int32)), .val (.int (2 : Int32)), .val (.int (0 : Int32)), .val (.ref b549), .val (.ref b569), .val (.ref b583), .val (.int (1 : Int32)), .val (.ref b569), .val (.int (1 : Int32)), .val (.int (1 : Int32)), .val (.ref b583), .unset, .unset] [(.ref b583)])) _
          refine XS.astore X717.here hx rfl (hb hby at_239) rfl rfl (l' := #[.val (.long f1), .second, .val (.long f2), .second, .val (.long c1), .second, .val (.long c2), .second, .val (.int fl), .val (.int (2 : Int32)), .val (.int (2 : Int32)), .val (.int (0 : Int32)), .val (.ref b549), .val (.ref b569), .val (.ref b583), .val (.int (1 : Int32)), .val (.ref b569), .val (.int (1 : Int32)), .val (.int (1 : Int32)), .val (.ref b583), .val (.ref b583), .unset]) rfl ?_
          refine XS.goto X717.here hx rfl (pc0 := 241) (pc' := 265) rfl (hb hby at_241) (by decide) (by decide) ?_
          refine XS.iload X717.here hx rfl (hb hby at_265) rfl ?_
          refine XS.aload X717.here hx rfl (hb hby at_267) rfl rfl ?_
          refine XS.aload X717.here hx rfl (hb hby at_269) rfl rfl ?_
          refine Jvm.RoadKit.acmp (g := (mkF m 271 #[.val (.long f1), .second, .val (.long f2), .second, .val (.long c1), .second, .val (.long c2), .second, .val (.int fl), .val (.int (2 : Int32)), .val (.int (2 : Int32)), .val (.int (0 : Int32)), .val (.ref b549), .val (.ref b569), .val (.ref b583), .val (.int (1 : Int32)), .val (.ref b569), .val (.int (1 : Int32)), .val (.int (1 : Int32)), .val (.ref b583), .val (.ref b583), .unset] [(.ref b583), (.ref b583), (.int (1 : Int32))])) X717 hx rfl rfl rfl (pc0 := 271) (pc' := 274) (same := true) rfl (hb hby at_271) rfl (decide_eq_true rfl) (by decide) (by decide) ?_
          show Steps p.tables e below (T717.setTop (mkF m 274 #[.val (.long f1), .second, .val (.long f2), .second, .val (.long c1), .second, .val (.long c2), .second, .val (.int fl), .val (.int (2 : Int32)), .val (.int (2 : Int32)), .val (.int (0 : Int32)), .val (.ref b549), .val (.ref b569), .val (.ref b583), .val (.int (1 : Int32)), .val (.ref b569), .val (.int (1 : Int32)), .val (.int (1 : Int32)), .val (.ref b583), .val (.ref b583), .unset] [(.int (1 : Int32))])) _
          refine XS.iconst X717.here hx rfl (hb hby at_274) ?_
          refine XS.goto X717.here hx rfl (pc0 := 275) (pc' := 279) rfl (hb hby at_275) (by decide) (by decide) ?_
          refine XS.iand X717.here hx rfl (hb hby at_279) rfl ?_
          exact kt
        have S725 : ∀ t, Steps p.tables e below (T717.setTop (mkF m 280 #[.val (.long f1), .second, .val (.long f2), .second, .val (.long c1), .second, .val (.long c2), .second, .val (.int fl), .val (.int (2 : Int32)), .val (.int (2 : Int32)), .val (.int (0 : Int32)), .val (.ref b549), .val (.ref b569), .val (.ref b583), .val (.int (1 : Int32)), .val (.ref b569), .val (.int (1 : Int32)), .val (.int (1 : Int32)), .val (.ref b583), .val (.ref b583), .unset] [(.int (1 : Int32))])) t → Steps p.tables e below (T717.setTop (mkF m 280 #[.val (.long f1), .second, .val (.long f2), .second, .val (.long c1), .second, .val (.long c2), .second, .val (.int fl), .val (.int (2 : Int32)), .val (.int (2 : Int32)), .val (.int (0 : Int32)), .val (.ref b549), .val (.ref b569), .val (.ref b583), .val (.int (1 : Int32)), .val (.ref b569), .val (.int (1 : Int32)), .val (.int (1 : Int32)), .val (.ref b583), .val (.ref b583), .unset] [(.int ((1 : Int32) &&& (1 : Int32)))])) t := fun t k => by rw [(show ((1 : Int32) &&& (1 : Int32)) = (1 : Int32) from by decide)]; exact k
        have S726 : ∀ t, Steps p.tables e below (T717.setTop (mkF m 295 #[.val (.long f1), .second, .val (.long f2), .second, .val (.long c1), .second, .val (.long c2), .second, .val (.int fl), .val (.int (2 : Int32)), .val (.int (2 : Int32)), .val (.int (0 : Int32)), .val (.ref b549), .val (.ref b569), .val (.ref b583), .val (.int (1 : Int32)), .val (.ref b569), .val (.int (1 : Int32)), .val (.int (1 : Int32)), .val (.ref b583), .val (.ref b583), .unset] [(.int ((1 : Int32) + (1 : Int32)))])) t → Steps p.tables e below (T717.setTop (mkF m 280 #[.val (.long f1), .second, .val (.long f2), .second, .val (.long c1), .second, .val (.long c2), .second, .val (.int fl), .val (.int (2 : Int32)), .val (.int (2 : Int32)), .val (.int (0 : Int32)), .val (.ref b549), .val (.ref b569), .val (.ref b583), .val (.int (1 : Int32)), .val (.ref b569), .val (.int (1 : Int32)), .val (.int (1 : Int32)), .val (.ref b583), .val (.ref b583), .unset] [(.int (1 : Int32))])) t := by
          intro t kt
          show Steps p.tables e below (T717.setTop (mkF m 280 #[.val (.long f1), .second, .val (.long f2), .second, .val (.long c1), .second, .val (.long c2), .second, .val (.int fl), .val (.int (2 : Int32)), .val (.int (2 : Int32)), .val (.int (0 : Int32)), .val (.ref b549), .val (.ref b569), .val (.ref b583), .val (.int (1 : Int32)), .val (.ref b569), .val (.int (1 : Int32)), .val (.int (1 : Int32)), .val (.ref b583), .val (.ref b583), .unset] [(.int (1 : Int32))])) _
          refine XS.istore X717.here hx rfl (hb hby at_280) rfl (l' := #[.val (.long f1), .second, .val (.long f2), .second, .val (.long c1), .second, .val (.long c2), .second, .val (.int fl), .val (.int (2 : Int32)), .val (.int (2 : Int32)), .val (.int (0 : Int32)), .val (.ref b549), .val (.ref b569), .val (.ref b583), .val (.int (1 : Int32)), .val (.ref b569), .val (.int (1 : Int32)), .val (.int (1 : Int32)), .val (.ref b583), .val (.ref b583), .unset]) rfl ?_
          refine XS.iload X717.here hx rfl (hb hby at_282) rfl ?_
          refine XS.aload X717.here hx rfl (hb hby at_284) rfl rfl ?_
          refine XS.ifnullNo X717.here hx rfl (hb hby at_286) rfl ?_
          refine XS.iconst X717.here hx rfl (hb hby at_289) ?_
          refine XS.goto X717.here hx rfl (pc0 := 290) (pc' := 294) rfl (hb hby at_290) (by decide) (by decide) ?_
          show Steps p.tables e below (T717.setTop (mkF m 294 #[.val (.long f1), .second, .val (.long f2), .second, .val (.long c1), .second, .val (.long c2), .second, .val (.int fl), .val (.int (2 : Int32)), .val (.int (2 : Int32)), .val (.int (0 : Int32)), .val (.ref b549), .val (.ref b569), .val (.ref b583), .val (.int (1 : Int32)), .val (.ref b569), .val (.int (1 : Int32)), .val (.int (1 : Int32)), .val (.ref b583), .val (.ref b583), .unset] [(.int (1 : Int32)), (.int (1 : Int32))])) _
          refine XS.iadd X717.here hx rfl (hb hby at_294) rfl ?_
          exact kt
        have S727 : ∀ t, Steps p.tables e below (T717.setTop (mkF m 295 #[.val (.long f1), .second, .val (.long f2), .second, .val (.long c1), .second, .val (.long c2), .second, .val (.int fl), .val (.int (2 : Int32)), .val (.int (2 : Int32)), .val (.int (0 : Int32)), .val (.ref b549), .val (.ref b569), .val (.ref b583), .val (.int (1 : Int32)), .val (.ref b569), .val (.int (1 : Int32)), .val (.int (1 : Int32)), .val (.ref b583), .val (.ref b583), .unset] [(.int (2 : Int32))])) t → Steps p.tables e below (T717.setTop (mkF m 295 #[.val (.long f1), .second, .val (.long f2), .second, .val (.long c1), .second, .val (.long c2), .second, .val (.int fl), .val (.int (2 : Int32)), .val (.int (2 : Int32)), .val (.int (0 : Int32)), .val (.ref b549), .val (.ref b569), .val (.ref b583), .val (.int (1 : Int32)), .val (.ref b569), .val (.int (1 : Int32)), .val (.int (1 : Int32)), .val (.ref b583), .val (.ref b583), .unset] [(.int ((1 : Int32) + (1 : Int32)))])) t := fun t k => by rw [(show ((1 : Int32) + (1 : Int32)) = (2 : Int32) from by decide)]; exact k
        have S728 : ∀ t, Steps p.tables e below (T717.setTop (mkF m 301 #[.val (.long f1), .second, .val (.long f2), .second, .val (.long c1), .second, .val (.long c2), .second, .val (.int fl), .val (.int (2 : Int32)), .val (.int (2 : Int32)), .val (.int (0 : Int32)), .val (.ref b549), .val (.ref b569), .val (.ref b583), .val (.int (1 : Int32)), .val (.ref b569), .val (.int (1 : Int32)), .val (.int (1 : Int32)), .val (.ref b583), .val (.ref b583), .val (.int (2 : Int32))] [(.ref b549), (.int (1 : Int32))])) t → Steps p.tables e below (T717.setTop (mkF m 295 #[.val (.long f1), .second, .val (.long f2), .second, .val (.long c1), .second, .val (.long c2), .second, .val (.int fl), .val (.int (2 : Int32)), .val (.int (2 : Int32)), .val (.int (0 : Int32)), .val (.ref b549), .val (.ref b569), .val (.ref b583), .val (.int (1 : Int32)), .val (.ref b569), .val (.int (1 : Int32)), .val (.int (1 : Int32)), .val (.ref b583), .val (.ref b583), .unset] [(.int (2 : Int32))])) t := by
          intro t kt
          show Steps p.tables e below (T717.setTop (mkF m 295 #[.val (.long f1), .second, .val (.long f2), .second, .val (.long c1), .second, .val (.long c2), .second, .val (.int fl), .val (.int (2 : Int32)), .val (.int (2 : Int32)), .val (.int (0 : Int32)), .val (.ref b549), .val (.ref b569), .val (.ref b583), .val (.int (1 : Int32)), .val (.ref b569), .val (.int (1 : Int32)), .val (.int (1 : Int32)), .val (.ref b583), .val (.ref b583), .unset] [(.int (2 : Int32))])) _
          refine XS.istore X717.here hx rfl (hb hby at_295) rfl (l' := #[.val (.long f1), .second, .val (.long f2), .second, .val (.long c1), .second, .val (.long c2), .second, .val (.int fl), .val (.int (2 : Int32)), .val (.int (2 : Int32)), .val (.int (0 : Int32)), .val (.ref b549), .val (.ref b569), .val (.ref b583), .val (.int (1 : Int32)), .val (.ref b569), .val (.int (1 : Int32)), .val (.int (1 : Int32)), .val (.ref b583), .val (.ref b583), .val (.int (2 : Int32))]) rfl ?_
          refine XS.iload X717.here hx rfl (hb hby at_297) rfl ?_
          refine XS.aload X717.here hx rfl (hb hby at_299) rfl rfl ?_
          exact kt
        have f730 := (f696.keep K717q)
        obtain ⟨cq729, kq729, q729a, q729b, q729c⟩ := isOf hZ e717 f730
        obtain ⟨_, _, ⟨T729, L729, k729, n729⟩, -, X729, ⟨Lc729, hQ729, l729, y729, z729⟩, st729⟩ := X717.virtualBack hx (y := (⟨"tidegate/operator/Crossings", "waiting", "()Z"⟩ : MethodName)) (z := (⟨"tidegate/operator/Crossings", "waiting", "()Z"⟩ : MethodName)) hown (mvT hZ (hw _ (List.mem_of_getElem? (i := 74) rfl))) (mvT hZ (hw _ (List.mem_of_getElem? (i := 75) rfl))) (notFace_of_selects (args := #[]) (mvT hZ (hw _ (List.mem_of_getElem? (i := 77) rfl)))) (mvT hZ (hw _ (List.mem_of_getElem? (i := 77) rfl))) (mvT hZ (hw _ (List.mem_of_getElem? (i := 76) rfl))) (by decide) (backOf (W := 1) (rm_wt0 l Z a0 hw [] b549 b621 h717 n0 z723 F718 F720) hZ (hw _ (List.mem_of_getElem? (i := 78) rfl)) (hw _ (List.mem_of_getElem? (i := 2) rfl)) (by decide) (by decide)) q729a q729c (g := (mkF m 301 #[.val (.long f1), .second, .val (.long f2), .second, .val (.long c1), .second, .val (.long c2), .second, .val (.int fl), .val (.int (2 : Int32)), .val (.int (2 : Int32)), .val (.int (0 : Int32)), .val (.ref b549), .val (.ref b569), .val (.ref b583), .val (.int (1 : Int32)), .val (.ref b569), .val (.int (1 : Int32)), .val (.int (1 : Int32)), .val (.ref b583), .val (.ref b583), .val (.int (2 : Int32))] [(.ref b549), (.int (1 : Int32))])) rfl (by rw [hml]; rfl) (Steps.refl _) (argsL := []) (rest := [(.int (1 : Int32))]) (lenOf pd_3 rfl) rfl (by show 2 * 0 + _ ≤ _; exact Nat.le_of_eq rfl) (hb hby at_301) (fun _ _ => ⟨rfl, e717, (by decide : 28 + 0 ≤ _), (by decide : 49 + 0 ≤ _)⟩)
        dsimp only [Pt.U, Pt.locs, Pt.cells, Pt.slots] at X729 l729 y729 z729 st729 hQ729
        subst l729 y729 z729
        obtain ⟨rfl, N729q, e729⟩ := hQ729
        have N729 := Fr.app N717 N729q
        have S731 : ∀ t, Steps p.tables e below (T729.setTop (mkF m 325 #[.val (.long f1), .second, .val (.long f2), .second, .val (.long c1), .second, .val (.long c2), .second, .val (.int fl), .val (.int (2 : Int32)), .val (.int (2 : Int32)), .val (.int (0 : Int32)), .val (.ref b549), .val (.ref b569), .val (.ref b583), .val (.int (1 : Int32)), .val (.ref b569), .val (.int (1 : Int32)), .val (.int (1 : Int32)), .val (.ref b583), .val (.ref b583), .val (.int (2 : Int32))] [(.int ((1 : Int32) &&& (1 : Int32)))])) t → Steps p.tables e below (T729.setTop (mkF m 304 #[.val (.long f1), .second, .val (.long f2), .second, .val (.long c1), .second, .val (.long c2), .second, .val (.int fl), .val (.int (2 : Int32)), .val (.int (2 : Int32)), .val (.int (0 : Int32)), .val (.ref b549), .val (.ref b569), .val (.ref b583), .val (.int (1 : Int32)), .val (.ref b569), .val (.int (1 : Int32)), .val (.int (1 : Int32)), .val (.ref b583), .val (.ref b583), .val (.int (2 : Int32))] [(.int (0 : Int32)), (.int (1 : Int32))])) t := by
          intro t kt
          show Steps p.tables e below (T729.setTop (mkF m 304 #[.val (.long f1), .second, .val (.long f2), .second, .val (.long c1), .second, .val (.long c2), .second, .val (.int fl), .val (.int (2 : Int32)), .val (.int (2 : Int32)), .val (.int (0 : Int32)), .val (.ref b549), .val (.ref b569), .val (.ref b583), .val (.int (1 : Int32)), .val (.ref b569), .val (.int (1 : Int32)), .val (.int (1 : Int32)), .val (.ref b583), .val (.ref b583), .val (.int (2 : Int32))] [(.int (0 : Int32)), (.int (1 : Int32))])) _
          refine XS.iload X729.here hx rfl (hb hby at_304) rfl ?_
          refine XS.iload X729.here hx rfl (hb hby at_306) rfl ?_
          refine XS.icmpYes X729.here hx rfl (pc0 := 308) (pc' := 315) rfl (hb hby at_308) rfl (flt (by decide)).2.1 (by decide) (by decide) ?_
          refine XS.iconst X729.here hx rfl (hb hby at_315) ?_
          refine XS.icmpNo X729.here hx rfl (hb hby at_316) rfl (teq rfl).2 ?_
          refine XS.iconst X729.here hx rfl (hb hby at_319) ?_
          show Steps p.tables e below (T729.setTop (mkF m 320 #[.val (.long f1), .second, .val (.long f2), .second, .val (.long c1), .second, .val (.long c2), .second, .val (.int fl), .val (.int (2 : Int32)), .val (.int (2 : Int32)), .val (.int (0 : Int32)), .val (.ref b549), .val (.ref b569), .val (.ref b583), .val (.int (1 : Int32)), .val (.ref b569), .val (.int (1 : Int32)), .val (.int (1 : Int32)), .val (.ref b583), .val (.ref b583), .val (.int (2 : Int32))] [(.int (1 : Int32)), (.int (1 : Int32))])) _
          refine XS.goto X729.here hx rfl (pc0 := 320) (pc' := 324) rfl (hb hby at_320) (by decide) (by decide) ?_
          refine XS.iand X729.here hx rfl (hb hby at_324) rfl ?_
          exact kt
        have S732 : ∀ t, Steps p.tables e below (T729.setTop (mkF m 325 #[.val (.long f1), .second, .val (.long f2), .second, .val (.long c1), .second, .val (.long c2), .second, .val (.int fl), .val (.int (2 : Int32)), .val (.int (2 : Int32)), .val (.int (0 : Int32)), .val (.ref b549), .val (.ref b569), .val (.ref b583), .val (.int (1 : Int32)), .val (.ref b569), .val (.int (1 : Int32)), .val (.int (1 : Int32)), .val (.ref b583), .val (.ref b583), .val (.int (2 : Int32))] [(.int (1 : Int32))])) t → Steps p.tables e below (T729.setTop (mkF m 325 #[.val (.long f1), .second, .val (.long f2), .second, .val (.long c1), .second, .val (.long c2), .second, .val (.int fl), .val (.int (2 : Int32)), .val (.int (2 : Int32)), .val (.int (0 : Int32)), .val (.ref b549), .val (.ref b569), .val (.ref b583), .val (.int (1 : Int32)), .val (.ref b569), .val (.int (1 : Int32)), .val (.int (1 : Int32)), .val (.ref b583), .val (.ref b583), .val (.int (2 : Int32))] [(.int ((1 : Int32) &&& (1 : Int32)))])) t := fun t k => by rw [(show ((1 : Int32) &&& (1 : Int32)) = (1 : Int32) from by decide)]; exact k
        have S733 : ∀ t, Steps p.tables e below (T729.setTop (mkF m 329 #[.val (.long f1), .second, .val (.long f2), .second, .val (.long c1), .second, .val (.long c2), .second, .val (.int fl), .val (.int (2 : Int32)), .val (.int (2 : Int32)), .val (.int (0 : Int32)), .val (.ref b549), .val (.ref b569), .val (.ref b583), .val (.int (1 : Int32)), .val (.ref b569), .val (.int (1 : Int32)), .val (.int (1 : Int32)), .val (.ref b583), .val (.ref b583), .val (.int (2 : Int32))] [(.int (1 : Int32))])) t → Steps p.tables e below (T729.setTop (mkF m 325 #[.val (.long f1), .second, .val (.long f2), .second, .val (.long c1), .second, .val (.long c2), .second, .val (.int fl), .val (.int (2 : Int32)), .val (.int (2 : Int32)), .val (.int (0 : Int32)), .val (.ref b549), .val (.ref b569), .val (.ref b583), .val (.int (1 : Int32)), .val (.ref b569), .val (.int (1 : Int32)), .val (.int (1 : Int32)), .val (.ref b583), .val (.ref b583), .val (.int (2 : Int32))] [(.int (1 : Int32))])) t := by
          intro t kt
          show Steps p.tables e below (T729.setTop (mkF m 325 #[.val (.long f1), .second, .val (.long f2), .second, .val (.long c1), .second, .val (.long c2), .second, .val (.int fl), .val (.int (2 : Int32)), .val (.int (2 : Int32)), .val (.int (0 : Int32)), .val (.ref b549), .val (.ref b569), .val (.ref b583), .val (.int (1 : Int32)), .val (.ref b569), .val (.int (1 : Int32)), .val (.int (1 : Int32)), .val (.ref b583), .val (.ref b583), .val (.int (2 : Int32))] [(.int (1 : Int32))])) _
          refine XS.istore X729.here hx rfl (hb hby at_325) rfl (l' := #[.val (.long f1), .second, .val (.long f2), .second, .val (.long c1), .second, .val (.long c2), .second, .val (.int fl), .val (.int (2 : Int32)), .val (.int (2 : Int32)), .val (.int (0 : Int32)), .val (.ref b549), .val (.ref b569), .val (.ref b583), .val (.int (1 : Int32)), .val (.ref b569), .val (.int (1 : Int32)), .val (.int (1 : Int32)), .val (.ref b583), .val (.ref b583), .val (.int (2 : Int32))]) rfl ?_
          refine XS.iload X729.here hx rfl (hb hby at_327) rfl ?_
          exact kt
        have C734 : ∀ t, Steps p.tables e below (T729.setTop (mkF m 329 #[.val (.long f1), .second, .val (.long f2), .second, .val (.long c1), .second, .val (.long c2), .second, .val (.int fl), .val (.int (2 : Int32)), .val (.int (2 : Int32)), .val (.int (0 : Int32)), .val (.ref b549), .val (.ref b569), .val (.ref b583), .val (.int (1 : Int32)), .val (.ref b569), .val (.int (1 : Int32)), .val (.int (1 : Int32)), .val (.ref b583), .val (.ref b583), .val (.int (2 : Int32))] [(.int (1 : Int32))])) t → Steps p.tables e below (s₁.setTop (mkF m 0 #[.val (.long f1), .second, .val (.long f2), .second, .val (.long c1), .second, .val (.long c2), .second, .val (.int fl), .unset, .unset, .unset, .unset, .unset, .unset, .unset, .unset, .unset, .unset, .unset, .unset, .unset] [])) t := (fun t k => (C330 t (S547 t (S548 t (st549 t (S562 t (st563.trans (S568 t (st569 t (S579 t (st580.trans (S582 t (st583 t (S595 t (st596.trans (S609 t (st610.trans (S627 t (st628.trans (S639 t (st685.trans (S692 t (S693 t (S694 t (st695.trans (S697 t (S698 t (S699 t (st717.trans (S724 t (S725 t (S726 t (S727 t (S728 t (st729.trans (S731 t (S732 t (S733 t k))))))))))))))))))))))))))))))))))))))
        obtain ⟨fs, hr, hrun, hended, hW, hsame⟩ := X729.leave (v := some (.int (1 : Int32))) (fun h => by rw [Bd.returns] at h; cases h)
        refine ⟨_, _, pre0 _ (C734 _ ?_), hrun, hended, _, _, rfl, ?_, ⟨_, rfl⟩, hW, hsame.mono (by decide) (by decide)⟩
        · exact retN X729 hx (t := .boolean) Bd.returns (by simp) (hb hby at_329) hr
        · show Q_rm0 Z f1 f2 c1 c2 fl h0 n0 _ T729.heap _
          rw [e729]
          exact ⟨rfl, N729⟩
  · have S735 : ∀ t, Steps p.tables e below (s₁.setTop (mkF m 4 #[.val (.long f1), .second, .val (.long f2), .second, .val (.long c1), .second, .val (.long c2), .second, .val (.int fl), .unset, .unset, .unset, .unset, .unset, .unset, .unset, .unset, .unset, .unset, .unset, .unset, .unset] [(.int (3 : Int32))])) t → Steps p.tables e below (s₁.setTop (mkF m 4 #[.val (.long f1), .second, .val (.long f2), .second, .val (.long c1), .second, .val (.long c2), .second, .val (.int fl), .unset, .unset, .unset, .unset, .unset, .unset, .unset, .unset, .unset, .unset, .unset, .unset, .unset] [(.int v327)])) t := fun t k => by rw [qv327]; exact k
    have S736 : ∀ t, Steps p.tables e below (s₁.setTop (mkF m 33 #[.val (.long f1), .second, .val (.long f2), .second, .val (.long c1), .second, .val (.long c2), .second, .val (.int fl), .val (.int (3 : Int32)), .val (.int (2 : Int32)), .val (.int (1 : Int32)), .unset, .unset, .unset, .unset, .unset, .unset, .unset, .unset, .unset, .unset] [])) t → Steps p.tables e below (s₁.setTop (mkF m 4 #[.val (.long f1), .second, .val (.long f2), .second, .val (.long c1), .second, .val (.long c2), .second, .val (.int fl), .unset, .unset, .unset, .unset, .unset, .unset, .unset, .unset, .unset, .unset, .unset, .unset, .unset] [(.int (3 : Int32))])) t := by
      intro t kt
      show Steps p.tables e below (s₁.setTop (mkF m 4 #[.val (.long f1), .second, .val (.long f2), .second, .val (.long c1), .second, .val (.long c2), .second, .val (.int fl), .unset, .unset, .unset, .unset, .unset, .unset, .unset, .unset, .unset, .unset, .unset, .unset, .unset] [(.int (3 : Int32))])) _
      refine XS.istore X0.here hx rfl (hb hby at_4) rfl (l' := #[.val (.long f1), .second, .val (.long f2), .second, .val (.long c1), .second, .val (.long c2), .second, .val (.int fl), .val (.int (3 : Int32)), .unset, .unset, .unset, .unset, .unset, .unset, .unset, .unset, .unset, .unset, .unset, .unset]) rfl ?_
      refine XS.iload X0.here hx rfl (hb hby at_6) rfl ?_
      refine XS.iconst X0.here hx rfl (hb hby at_8) ?_
      refine XS.icmpNo X0.here hx rfl (hb hby at_9) rfl (teq rfl).2 ?_
      refine XS.iconst X0.here hx rfl (hb hby at_12) ?_
      refine XS.goto X0.here hx rfl (pc0 := 13) (pc' := 18) rfl (hb hby at_13) (by decide) (by decide) ?_
      show Steps p.tables e below (s₁.setTop (mkF m 18 #[.val (.long f1), .second, .val (.long f2), .second, .val (.long c1), .second, .val (.long c2), .second, .val (.int fl), .val (.int (3 : Int32)), .unset, .unset, .unset, .unset, .unset, .unset, .unset, .unset, .unset, .unset, .unset, .unset] [(.int (2 : Int32))])) _
      refine XS.istore X0.here hx rfl (hb hby at_18) rfl (l' := #[.val (.long f1), .second, .val (.long f2), .second, .val (.long c1), .second, .val (.long c2), .second, .val (.int fl), .val (.int (3 : Int32)), .val (.int (2 : Int32)), .unset, .unset, .unset, .unset, .unset, .unset, .unset, .unset, .unset, .unset, .unset]) rfl ?_
      refine XS.iload X0.here hx rfl (hb hby at_20) rfl ?_
      refine XS.iconst X0.here hx rfl (hb hby at_22) ?_
      refine XS.icmpNo X0.here hx rfl (hb hby at_23) rfl (teq rfl).2 ?_
      refine XS.iconst X0.here hx rfl (hb hby at_26) ?_
      refine XS.goto X0.here hx rfl (pc0 := 27) (pc' := 31) rfl (hb hby at_27) (by decide) (by decide) ?_
      show Steps p.tables e below (s₁.setTop (mkF m 31 #[.val (.long f1), .second, .val (.long f2), .second, .val (.long c1), .second, .val (.long c2), .second, .val (.int fl), .val (.int (3 : Int32)), .val (.int (2 : Int32)), .unset, .unset, .unset, .unset, .unset, .unset, .unset, .unset, .unset, .unset, .unset] [(.int (1 : Int32))])) _
      refine XS.istore X0.here hx rfl (hb hby at_31) rfl (l' := #[.val (.long f1), .second, .val (.long f2), .second, .val (.long c1), .second, .val (.long c2), .second, .val (.int fl), .val (.int (3 : Int32)), .val (.int (2 : Int32)), .val (.int (1 : Int32)), .unset, .unset, .unset, .unset, .unset, .unset, .unset, .unset, .unset, .unset]) rfl ?_
      exact kt
    obtain ⟨T737, h737, X737, e737, E737, A737, D737, -, st737⟩ := newO X0 hx hZ hown (hw _ (List.mem_of_getElem? (i := 0) rfl)) (hw _ (List.mem_of_getElem? (i := 1) rfl)) (hw _ (List.mem_of_getElem? (i := 2) rfl)) e0 (g := (mkF m 33 #[.val (.long f1), .second, .val (.long f2), .second, .val (.long c1), .second, .val (.long c2), .second, .val (.int fl), .val (.int (3 : Int32)), .val (.int (2 : Int32)), .val (.int (1 : Int32)), .unset, .unset, .unset, .unset, .unset, .unset, .unset, .unset, .unset, .unset] [])) rfl (hb hby at_33) (by decide) (by decide)
    obtain ⟨b737, g737⟩ : ∃ z, z = h0.size := ⟨_, rfl⟩
    rw [← g737] at A737 D737 st737
    have g_b737 : n0 ≤ b737 := Nat.le_trans Z0 (Nat.le_of_eq g737.symm)
    have z738 : n0 ≤ h737.size := Nat.le_trans Z0 E737.1
    have F739 : Fld Z h737 b737 "tidegate/operator/Crossings" "added" "Ltidegate/operator/Crossings$Batch;" .null := D737 (Or.inl (hw _ (List.mem_of_getElem? (i := 21) rfl))) (ty := (.object "tidegate/operator/Crossings$Batch")) (by decide)
    have F740 : Fld Z h737 b737 "tidegate/operator/Crossings" "taken" "Ltidegate/operator/Crossings$Batch;" .null := D737 (Or.inl (hw _ (List.mem_of_getElem? (i := 23) rfl))) (ty := (.object "tidegate/operator/Crossings$Batch")) (by decide)
    have S750 : ∀ t, Steps p.tables e below (T737.setTop (mkF m 37 #[.val (.long f1), .second, .val (.long f2), .second, .val (.long c1), .second, .val (.long c2), .second, .val (.int fl), .val (.int (3 : Int32)), .val (.int (2 : Int32)), .val (.int (1 : Int32)), .unset, .unset, .unset, .unset, .unset, .unset, .unset, .unset, .unset, .unset] [(.ref b737), (.ref b737)])) t → Steps p.tables e below (T737.setTop (mkF m 36 #[.val (.long f1), .second, .val (.long f2), .second, .val (.long c1), .second, .val (.long c2), .second, .val (.int fl), .val (.int (3 : Int32)), .val (.int (2 : Int32)), .val (.int (1 : Int32)), .unset, .unset, .unset, .unset, .unset, .unset, .unset, .unset, .unset, .unset] [(.ref b737)])) t := by
      intro t kt
      show Steps p.tables e below (T737.setTop (mkF m 36 #[.val (.long f1), .second, .val (.long f2), .second, .val (.long c1), .second, .val (.long c2), .second, .val (.int fl), .val (.int (3 : Int32)), .val (.int (2 : Int32)), .val (.int (1 : Int32)), .unset, .unset, .unset, .unset, .unset, .unset, .unset, .unset, .unset, .unset] [(.ref b737)])) _
      refine XS.dup X737.here hx rfl (hb hby at_36) rfl rfl ?_
      exact kt
    obtain ⟨_, _, ⟨T751, L751, k751, n751⟩, -, X751, ⟨Lc751, hQ751, l751, y751, z751⟩, st751⟩ := X737.specialBack hx (y := (⟨"tidegate/operator/Crossings", "<init>", "()V"⟩ : MethodName)) rfl hown (mvT hZ (hw _ (List.mem_of_getElem? (i := 3) rfl))) (mvT hZ (hw _ (List.mem_of_getElem? (i := 4) rfl))) (mvT hZ (hw _ (List.mem_of_getElem? (i := 5) rfl))) (by decide) (backOf (W := 1) (rm1 l Z a0 hw [] b737 h737 n0 z738 A737 F739 F740 g_b737) hZ (hw _ (List.mem_of_getElem? (i := 5) rfl)) (hw _ (List.mem_of_getElem? (i := 2) rfl)) (by decide) (by decide)) (g := (mkF m 37 #[.val (.long f1), .second, .val (.long f2), .second, .val (.long c1), .second, .val (.long c2), .second, .val (.int fl), .val (.int (3 : Int32)), .val (.int (2 : Int32)), .val (.int (1 : Int32)), .unset, .unset, .unset, .unset, .unset, .unset, .unset, .unset, .unset, .unset] [(.ref b737), (.ref b737)])) rfl (by rw [hml]; rfl) (Steps.refl _) (a := b737) (argsL := []) (rest := [(.ref b737)]) (lenOf pd_1 rfl) rfl (by show 2 * 0 + _ ≤ _; exact Nat.le_of_eq rfl) (hb hby at_37) (fun _ _ => ⟨rfl, e737, (by decide : 1 + 1 ≤ _), (by decide : 2 + 3 ≤ _)⟩)
    dsimp only [Pt.U, Pt.locs, Pt.cells, Pt.slots] at X751 l751 y751 z751 st751 hQ751
    subst l751 y751 z751
    obtain ⟨h751, e751⟩ : ∃ z, T751.heap = z := ⟨_, rfl⟩
    rw [e751] at hQ751
    obtain ⟨b741, rfl, N751q, K751q, hge742, F745, F746, F747, qq743, uu744, F752, F753, F754⟩ := hQ751
    have z755 : n0 ≤ h751.size := Nat.le_trans z738 K751q.1
    have N751 := Fr.app N0 N751q
    have g_b741 : n0 ≤ b741 := Nat.le_trans z738 hge742
    have ne_b737_b741 : b737 ≠ b741 := Nat.ne_of_lt (Nat.lt_of_lt_of_le A737.lt hge742)
    have S756 : ∀ t, Steps p.tables e below (T751.setTop (mkF m 42 #[.val (.long f1), .second, .val (.long f2), .second, .val (.long c1), .second, .val (.long c2), .second, .val (.int fl), .val (.int (3 : Int32)), .val (.int (2 : Int32)), .val (.int (1 : Int32)), .val (.ref b737), .unset, .unset, .unset, .unset, .unset, .unset, .unset, .unset, .unset] [])) t → Steps p.tables e below (T751.setTop (mkF m 40 #[.val (.long f1), .second, .val (.long f2), .second, .val (.long c1), .second, .val (.long c2), .second, .val (.int fl), .val (.int (3 : Int32)), .val (.int (2 : Int32)), .val (.int (1 : Int32)), .unset, .unset, .unset, .unset, .unset, .unset, .unset, .unset, .unset, .unset] [(.ref b737)])) t := by
      intro t kt
      show Steps p.tables e below (T751.setTop (mkF m 40 #[.val (.long f1), .second, .val (.long f2), .second, .val (.long c1), .second, .val (.long c2), .second, .val (.int fl), .val (.int (3 : Int32)), .val (.int (2 : Int32)), .val (.int (1 : Int32)), .unset, .unset, .unset, .unset, .unset, .unset, .unset, .unset, .unset, .unset] [(.ref b737)])) _
      refine XS.astore X751.here hx rfl (hb hby at_40) rfl rfl (l' := #[.val (.long f1), .second, .val (.long f2), .second, .val (.long c1), .second, .val (.long c2), .second, .val (.int fl), .val (.int (3 : Int32)), .val (.int (2 : Int32)), .val (.int (1 : Int32)), .val (.ref b737), .unset, .unset, .unset, .unset, .unset, .unset, .unset, .unset, .unset]) rfl ?_
      exact kt
    obtain ⟨T757, h757, X757, e757, E757, A757, D757, -, st757⟩ := newO X751 hx hZ hown (hw _ (List.mem_of_getElem? (i := 24) rfl)) (hw _ (List.mem_of_getElem? (i := 25) rfl)) (hw _ (List.mem_of_getElem? (i := 26) rfl)) e751 (g := (mkF m 42 #[.val (.long f1), .second, .val (.long f2), .second, .val (.long c1), .second, .val (.long c2), .second, .val (.int fl), .val (.int (3 : Int32)), .val (.int (2 : Int32)), .val (.int (1 : Int32)), .val (.ref b737), .unset, .unset, .unset, .unset, .unset, .unset, .unset, .unset, .unset] [])) rfl (hb hby at_42) (by decide) (by decide)
    obtain ⟨b757, g757⟩ : ∃ z, z = h751.size := ⟨_, rfl⟩
    rw [← g757] at A757 D757 st757
    have g_b757 : n0 ≤ b757 := Nat.le_trans z755 (Nat.le_of_eq g757.symm)
    have f758 := (A737.keep K751q)
    have ne_b737_b757 : b737 ≠ b757 := Nat.ne_of_lt (Nat.lt_of_lt_of_le f758.lt (Nat.le_of_eq g757.symm))
    have ne_b741_b757 : b741 ≠ b757 := Nat.ne_of_lt (Nat.lt_of_lt_of_le F745.lt (Nat.le_of_eq g757.symm))
    have z759 : n0 ≤ h757.size := Nat.le_trans z755 E757.1
    have F760 : Fld Z h757 b757 "tidegate/operator/StageFunctions" "kinds" "[Ltidegate/operator/OperatorPublisher$Kind;" .null := D757 (Or.inl (hw _ (List.mem_of_getElem? (i := 34) rfl))) (ty := (.array (.object "tidegate/operator/OperatorPublisher$Kind"))) (by decide)
    have F761 : Fld Z h757 b757 "tidegate/operator/StageFunctions" "entries" "[Ljava/lang/Object;" .null := D757 (Or.inl (hw _ (List.mem_of_getElem? (i := 38) rfl))) (ty := (.array (.object "java/lang/Object"))) (by decide)
    have F762 : Fld Z h757 b757 "tidegate/operator/StageFunctions" "stages" "[Ljava/lang/String;" .null := D757 (Or.inl (hw _ (List.mem_of_getElem? (i := 42) rfl))) (ty := (.array (.object "java/lang/String"))) (by decide)
    have F763 : Fld Z h757 b757 "tidegate/operator/StageFunctions" "counting" "Ltidegate/operator/StageFunctions$Indices;" .null := D757 (Or.inr (hw _ (List.mem_of_getElem? (i := 54) rfl))) (ty := (.object "tidegate/operator/StageFunctions$Indices")) (by decide)
    have F764 : Fld Z h757 b757 "tidegate/operator/StageFunctions" "shaping" "Ltidegate/operator/StageFunctions$Indices;" .null := D757 (Or.inr (hw _ (List.mem_of_getElem? (i := 56) rfl))) (ty := (.object "tidegate/operator/StageFunctions$Indices")) (by decide)
    have F765 : Fld Z h757 b757 "tidegate/operator/StageFunctions" "producers" "Ltidegate/operator/StageFunctions$Indices;" .null := D757 (Or.inr (hw _ (List.mem_of_getElem? (i := 58) rfl))) (ty := (.object "tidegate/operator/StageFunctions$Indices")) (by decide)
    have F766 : Fld Z h757 b757 "tidegate/operator/StageFunctions" "referees" "Ltidegate/operator/StageFunctions$Indices;" .null := D757 (Or.inr (hw _ (List.mem_of_getElem? (i := 60) rfl))) (ty := (.object "tidegate/operator/StageFunctions$Indices")) (by decide)
    have S767 : ∀ t, Steps p.tables e below (T757.setTop (mkF m 46 #[.val (.long f1), .second, .val (.long f2), .second, .val (.long c1), .second, .val (.long c2), .second, .val (.int fl), .val (.int (3 : Int32)), .val (.int (2 : Int32)), .val (.int (1 : Int32)), .val (.ref b737), .unset, .unset, .unset, .unset, .unset, .unset, .unset, .unset, .unset] [(.ref b757), (.ref b757)])) t → Steps p.tables e below (T757.setTop (mkF m 45 #[.val (.long f1), .second, .val (.long f2), .second, .val (.long c1), .second, .val (.long c2), .second, .val (.int fl), .val (.int (3 : Int32)), .val (.int (2 : Int32)), .val (.int (1 : Int32)), .val (.ref b737), .unset, .unset, .unset, .unset, .unset, .unset, .unset, .unset, .unset] [(.ref b757)])) t := by
      intro t kt
      show Steps p.tables e below (T757.setTop (mkF m 45 #[.val (.long f1), .second, .val (.long f2), .second, .val (.long c1), .second, .val (.long c2), .second, .val (.int fl), .val (.int (3 : Int32)), .val (.int (2 : Int32)), .val (.int (1 : Int32)), .val (.ref b737), .unset, .unset, .unset, .unset, .unset, .unset, .unset, .unset, .unset] [(.ref b757)])) _
      refine XS.dup X757.here hx rfl (hb hby at_45) rfl rfl ?_
      exact kt
    obtain ⟨_, _, ⟨T768, L768, k768, n768⟩, -, X768, ⟨Lc768, hQ768, l768, y768, z768⟩, st768⟩ := X757.specialBack hx (y := (⟨"tidegate/operator/StageFunctions", "<init>", "()V"⟩ : MethodName)) rfl hown (mvT hZ (hw _ (List.mem_of_getElem? (i := 27) rfl))) (mvT hZ (hw _ (List.mem_of_getElem? (i := 28) rfl))) (mvT hZ (hw _ (List.mem_of_getElem? (i := 29) rfl))) (by decide) (backOf (W := 1) (rm4 l Z a0 hw [] b757 h757 n0 z759 A757 F760 F761 F762 F763 F764 F765 F766 g_b757) hZ (hw _ (List.mem_of_getElem? (i := 29) rfl)) (hw _ (List.mem_of_getElem? (i := 26) rfl)) (by decide) (by decide)) (g := (mkF m 46 #[.val (.long f1), .second, .val (.long f2), .second, .val (.long c1), .second, .val (.long c2), .second, .val (.int fl), .val (.int (3 : Int32)), .val (.int (2 : Int32)), .val (.int (1 : Int32)), .val (.ref b737), .unset, .unset, .unset, .unset, .unset, .unset, .unset, .unset, .unset] [(.ref b757), (.ref b757)])) rfl (by rw [hml]; rfl) (Steps.refl _) (a := b757) (argsL := []) (rest := [(.ref b757)]) (lenOf pd_1 rfl) rfl (by show 2 * 0 + _ ≤ _; exact Nat.le_of_eq rfl) (hb hby at_46) (fun _ _ => ⟨rfl, e757, (by decide : 3 + 11 ≤ _), (by decide : 16 + 8 ≤ _)⟩)
    dsimp only [Pt.U, Pt.locs, Pt.cells, Pt.slots] at X768 l768 y768 z768 st768 hQ768
    subst l768 y768 z768
    obtain ⟨h768, e768⟩ : ∃ z, T768.heap = z := ⟨_, rfl⟩
    rw [e768] at hQ768
    obtain ⟨rfl, N768q, K768q⟩ := hQ768
    have z769 : n0 ≤ h768.size := Nat.le_trans z759 K768q.1
    have N768 := Fr.app N751 N768q
    have S770 : ∀ t, Steps p.tables e below (T768.setTop (mkF m 51 #[.val (.long f1), .second, .val (.long f2), .second, .val (.long c1), .second, .val (.long c2), .second, .val (.int fl), .val (.int (3 : Int32)), .val (.int (2 : Int32)), .val (.int (1 : Int32)), .val (.ref b737), .val (.ref b757), .unset, .unset, .unset, .unset, .unset, .unset, .unset, .unset] [])) t → Steps p.tables e below (T768.setTop (mkF m 49 #[.val (.long f1), .second, .val (.long f2), .second, .val (.long c1), .second, .val (.long c2), .second, .val (.int fl), .val (.int (3 : Int32)), .val (.int (2 : Int32)), .val (.int (1 : Int32)), .val (.ref b737), .unset, .unset, .unset, .unset, .unset, .unset, .unset, .unset, .unset] [(.ref b757)])) t := by
      intro t kt
      show Steps p.tables e below (T768.setTop (mkF m 49 #[.val (.long f1), .second, .val (.long f2), .second, .val (.long c1), .second, .val (.long c2), .second, .val (.int fl), .val (.int (3 : Int32)), .val (.int (2 : Int32)), .val (.int (1 : Int32)), .val (.ref b737), .unset, .unset, .unset, .unset, .unset, .unset, .unset, .unset, .unset] [(.ref b757)])) _
      refine XS.astore X768.here hx rfl (hb hby at_49) rfl rfl (l' := #[.val (.long f1), .second, .val (.long f2), .second, .val (.long c1), .second, .val (.long c2), .second, .val (.int fl), .val (.int (3 : Int32)), .val (.int (2 : Int32)), .val (.int (1 : Int32)), .val (.ref b737), .val (.ref b757), .unset, .unset, .unset, .unset, .unset, .unset, .unset, .unset]) rfl ?_
      exact kt
    obtain ⟨T771, h771, X771, e771, E771, A771, D771, -, st771⟩ := newO X768 hx hZ hown (hw _ (List.mem_of_getElem? (i := 24) rfl)) (hw _ (List.mem_of_getElem? (i := 25) rfl)) (hw _ (List.mem_of_getElem? (i := 26) rfl)) e768 (g := (mkF m 51 #[.val (.long f1), .second, .val (.long f2), .second, .val (.long c1), .second, .val (.long c2), .second, .val (.int fl), .val (.int (3 : Int32)), .val (.int (2 : Int32)), .val (.int (1 : Int32)), .val (.ref b737), .val (.ref b757), .unset, .unset, .unset, .unset, .unset, .unset, .unset, .unset] [])) rfl (hb hby at_51) (by decide) (by decide)
    obtain ⟨b771, g771⟩ : ∃ z, z = h768.size := ⟨_, rfl⟩
    rw [← g771] at A771 D771 st771
    have g_b771 : n0 ≤ b771 := Nat.le_trans z769 (Nat.le_of_eq g771.symm)
    have f772 := ((f758.ext E757).keep K768q)
    have ne_b737_b771 : b737 ≠ b771 := Nat.ne_of_lt (Nat.lt_of_lt_of_le f772.lt (Nat.le_of_eq g771.symm))
    have f773 := ((F745.ext E757).keep K768q)
    have ne_b741_b771 : b741 ≠ b771 := Nat.ne_of_lt (Nat.lt_of_lt_of_le f773.lt (Nat.le_of_eq g771.symm))
    have f774 := (A757.keep K768q)
    have ne_b757_b771 : b757 ≠ b771 := Nat.ne_of_lt (Nat.lt_of_lt_of_le f774.lt (Nat.le_of_eq g771.symm))
    have z775 : n0 ≤ h771.size := Nat.le_trans z769 E771.1
    have F776 : Fld Z h771 b771 "tidegate/operator/StageFunctions" "kinds" "[Ltidegate/operator/OperatorPublisher$Kind;" .null := D771 (Or.inl (hw _ (List.mem_of_getElem? (i := 34) rfl))) (ty := (.array (.object "tidegate/operator/OperatorPublisher$Kind"))) (by decide)
    have F777 : Fld Z h771 b771 "tidegate/operator/StageFunctions" "entries" "[Ljava/lang/Object;" .null := D771 (Or.inl (hw _ (List.mem_of_getElem? (i := 38) rfl))) (ty := (.array (.object "java/lang/Object"))) (by decide)
    have F778 : Fld Z h771 b771 "tidegate/operator/StageFunctions" "stages" "[Ljava/lang/String;" .null := D771 (Or.inl (hw _ (List.mem_of_getElem? (i := 42) rfl))) (ty := (.array (.object "java/lang/String"))) (by decide)
    have F779 : Fld Z h771 b771 "tidegate/operator/StageFunctions" "counting" "Ltidegate/operator/StageFunctions$Indices;" .null := D771 (Or.inr (hw _ (List.mem_of_getElem? (i := 54) rfl))) (ty := (.object "tidegate/operator/StageFunctions$Indices")) (by decide)
    have F780 : Fld Z h771 b771 "tidegate/operator/StageFunctions" "shaping" "Ltidegate/operator/StageFunctions$Indices;" .null := D771 (Or.inr (hw _ (List.mem_of_getElem? (i := 56) rfl))) (ty := (.object "tidegate/operator/StageFunctions$Indices")) (by decide)
    have F781 : Fld Z h771 b771 "tidegate/operator/StageFunctions" "producers" "Ltidegate/operator/StageFunctions$Indices;" .null := D771 (Or.inr (hw _ (List.mem_of_getElem? (i := 58) rfl))) (ty := (.object "tidegate/operator/StageFunctions$Indices")) (by decide)
    have F782 : Fld Z h771 b771 "tidegate/operator/StageFunctions" "referees" "Ltidegate/operator/StageFunctions$Indices;" .null := D771 (Or.inr (hw _ (List.mem_of_getElem? (i := 60) rfl))) (ty := (.object "tidegate/operator/StageFunctions$Indices")) (by decide)
    have S783 : ∀ t, Steps p.tables e below (T771.setTop (mkF m 55 #[.val (.long f1), .second, .val (.long f2), .second, .val (.long c1), .second, .val (.long c2), .second, .val (.int fl), .val (.int (3 : Int32)), .val (.int (2 : Int32)), .val (.int (1 : Int32)), .val (.ref b737), .val (.ref b757), .unset, .unset, .unset, .unset, .unset, .unset, .unset, .unset] [(.ref b771), (.ref b771)])) t → Steps p.tables e below (T771.setTop (mkF m 54 #[.val (.long f1), .second, .val (.long f2), .second, .val (.long c1), .second, .val (.long c2), .second, .val (.int fl), .val (.int (3 : Int32)), .val (.int (2 : Int32)), .val (.int (1 : Int32)), .val (.ref b737), .val (.ref b757), .unset, .unset, .unset, .unset, .unset, .unset, .unset, .unset] [(.ref b771)])) t := by
      intro t kt
      show Steps p.tables e below (T771.setTop (mkF m 54 #[.val (.long f1), .second, .val (.long f2), .second, .val (.long c1), .second, .val (.long c2), .second, .val (.int fl), .val (.int (3 : Int32)), .val (.int (2 : Int32)), .val (.int (1 : Int32)), .val (.ref b737), .val (.ref b757), .unset, .unset, .unset, .unset, .unset, .unset, .unset, .unset] [(.ref b771)])) _
      refine XS.dup X771.here hx rfl (hb hby at_54) rfl rfl ?_
      exact kt
    obtain ⟨_, _, ⟨T784, L784, k784, n784⟩, -, X784, ⟨Lc784, hQ784, l784, y784, z784⟩, st784⟩ := X771.specialBack hx (y := (⟨"tidegate/operator/StageFunctions", "<init>", "()V"⟩ : MethodName)) rfl hown (mvT hZ (hw _ (List.mem_of_getElem? (i := 27) rfl))) (mvT hZ (hw _ (List.mem_of_getElem? (i := 28) rfl))) (mvT hZ (hw _ (List.mem_of_getElem? (i := 29) rfl))) (by decide) (backOf (W := 1) (rm4 l Z a0 hw [] b771 h771 n0 z775 A771 F776 F777 F778 F779 F780 F781 F782 g_b771) hZ (hw _ (List.mem_of_getElem? (i := 29) rfl)) (hw _ (List.mem_of_getElem? (i := 26) rfl)) (by decide) (by decide)) (g := (mkF m 55 #[.val (.long f1), .second, .val (.long f2), .second, .val (.long c1), .second, .val (.long c2), .second, .val (.int fl), .val (.int (3 : Int32)), .val (.int (2 : Int32)), .val (.int (1 : Int32)), .val (.ref b737), .val (.ref b757), .unset, .unset, .unset, .unset, .unset, .unset, .unset, .unset] [(.ref b771), (.ref b771)])) rfl (by rw [hml]; rfl) (Steps.refl _) (a := b771) (argsL := []) (rest := [(.ref b771)]) (lenOf pd_1 rfl) rfl (by show 2 * 0 + _ ≤ _; exact Nat.le_of_eq rfl) (hb hby at_55) (fun _ _ => ⟨rfl, e771, (by decide : 15 + 11 ≤ _), (by decide : 35 + 8 ≤ _)⟩)
    dsimp only [Pt.U, Pt.locs, Pt.cells, Pt.slots] at X784 l784 y784 z784 st784 hQ784
    subst l784 y784 z784
    obtain ⟨h784, e784⟩ : ∃ z, T784.heap = z := ⟨_, rfl⟩
    rw [e784] at hQ784
    obtain ⟨rfl, N784q, K784q⟩ := hQ784
    have z785 : n0 ≤ h784.size := Nat.le_trans z775 K784q.1
    have N784 := Fr.app N768 N784q
    have f788 := ((f772.ext E771).keep K784q)
    have f789 := ((f773.ext E771).keep K784q)
    have f790 := ((f774.ext E771).keep K784q)
    have f791 := (A771.keep K784q)
    have f792 := ((((F746.ext E757).keep K768q (ninS ne_b737_b757 nin0)).ext E771).keep K784q (ninS ne_b737_b771 nin0))
    have f793 := ((((F747.ext E757).keep K768q (ninS ne_b737_b757 nin0)).ext E771).keep K784q (ninS ne_b737_b771 nin0))
    have f794 := ((((F754.ext E757).keep K768q (ninS ne_b741_b757 nin0)).ext E771).keep K784q (ninS ne_b741_b771 nin0))
    have f795 := ((((F752.ext E757).keep K768q (ninS ne_b741_b757 nin0)).ext E771).keep K784q (ninS ne_b741_b771 nin0))
    have f796 := ((((F753.ext E757).keep K768q (ninS ne_b741_b757 nin0)).ext E771).keep K784q (ninS ne_b741_b771 nin0))
    have S797 : ∀ t, Steps p.tables e below (T784.setTop (mkF m 71 #[.val (.long f1), .second, .val (.long f2), .second, .val (.long c1), .second, .val (.long c2), .second, .val (.int fl), .val (.int (3 : Int32)), .val (.int (2 : Int32)), .val (.int (1 : Int32)), .val (.ref b737), .val (.ref b757), .val (.ref b771), .unset, .unset, .unset, .unset, .unset, .unset, .unset] [(.ref b757), (.long f1), (.ref b737)])) t → Steps p.tables e below (T784.setTop (mkF m 58 #[.val (.long f1), .second, .val (.long f2), .second, .val (.long c1), .second, .val (.long c2), .second, .val (.int fl), .val (.int (3 : Int32)), .val (.int (2 : Int32)), .val (.int (1 : Int32)), .val (.ref b737), .val (.ref b757), .unset, .unset, .unset, .unset, .unset, .unset, .unset, .unset] [(.ref b771)])) t := by
      intro t kt
      show Steps p.tables e below (T784.setTop (mkF m 58 #[.val (.long f1), .second, .val (.long f2), .second, .val (.long c1), .second, .val (.long c2), .second, .val (.int fl), .val (.int (3 : Int32)), .val (.int (2 : Int32)), .val (.int (1 : Int32)), .val (.ref b737), .val (.ref b757), .unset, .unset, .unset, .unset, .unset, .unset, .unset, .unset] [(.ref b771)])) _
      refine XS.astore X784.here hx rfl (hb hby at_58) rfl rfl (l' := #[.val (.long f1), .second, .val (.long f2), .second, .val (.long c1), .second, .val (.long c2), .second, .val (.int fl), .val (.int (3 : Int32)), .val (.int (2 : Int32)), .val (.int (1 : Int32)), .val (.ref b737), .val (.ref b757), .val (.ref b771), .unset, .unset, .unset, .unset, .unset, .unset, .unset]) rfl ?_
      refine XS.iload X784.here hx rfl (hb hby at_60) rfl ?_
      refine XS.iconst X784.here hx rfl (hb hby at_62) ?_
      refine XS.icmpNo X784.here hx rfl (hb hby at_63) rfl (flt (by decide)).1 ?_
      refine XS.aload X784.here hx rfl (hb hby at_66) rfl rfl ?_
      refine XS.lloadN X784.here hx rfl (hb hby at_68) rfl ?_
      show Steps p.tables e below (T784.setTop (mkF m 69 #[.val (.long f1), .second, .val (.long f2), .second, .val (.long c1), .second, .val (.long c2), .second, .val (.int fl), .val (.int (3 : Int32)), .val (.int (2 : Int32)), .val (.int (1 : Int32)), .val (.ref b737), .val (.ref b757), .val (.ref b771), .unset, .unset, .unset, .unset, .unset, .unset, .unset] [(.long f1), (.ref b737)])) _
      refine XS.aload X784.here hx rfl (hb hby at_69) rfl rfl ?_
      exact kt
    obtain ⟨cq798, kq798, q798a, q798b, q798c⟩ := isOf hZ e784 f788
    obtain ⟨_, _, ⟨T798, L798, k798, n798⟩, -, X798, ⟨Lc798, hQ798, l798, y798, z798⟩, st798⟩ := X784.virtualBack hx (y := (⟨"tidegate/operator/Crossings", "add", "(JLtidegate/operator/StageFunctions;)V"⟩ : MethodName)) (z := (⟨"tidegate/operator/Crossings", "add", "(JLtidegate/operator/StageFunctions;)V"⟩ : MethodName)) hown (mvT hZ (hw _ (List.mem_of_getElem? (i := 61) rfl))) (mvT hZ (hw _ (List.mem_of_getElem? (i := 62) rfl))) (notFace_of_selects (args := #[]) (mvT hZ (hw _ (List.mem_of_getElem? (i := 64) rfl)))) (mvT hZ (hw _ (List.mem_of_getElem? (i := 64) rfl))) (mvT hZ (hw _ (List.mem_of_getElem? (i := 63) rfl))) (by decide) (backOf (W := 0) (rm6 l Z a0 hw [] b737 f1 b757 b741 b741 qq743 uu744 h784 n0 z785 f788 f792 f793 f789 f794 f795 f796 g_b737 g_b741 ne_b737_b741) hZ (hw _ (List.mem_of_getElem? (i := 65) rfl)) (hw _ (List.mem_of_getElem? (i := 2) rfl)) (by decide) (by decide)) q798a q798c (g := (mkF m 71 #[.val (.long f1), .second, .val (.long f2), .second, .val (.long c1), .second, .val (.long c2), .second, .val (.int fl), .val (.int (3 : Int32)), .val (.int (2 : Int32)), .val (.int (1 : Int32)), .val (.ref b737), .val (.ref b757), .val (.ref b771), .unset, .unset, .unset, .unset, .unset, .unset, .unset] [(.ref b757), (.long f1), (.ref b737)])) rfl (by rw [hml]; rfl) (Steps.refl _) (argsL := [(.long f1), (.ref b757)]) (rest := []) (lenOf pd_0 rfl) rfl (by show 2 * 0 + _ ≤ _; exact Nat.le_of_eq rfl) (hb hby at_71) (fun _ _ => ⟨rfl, e784, (by decide : 26 + 1 ≤ _), (by decide : 43 + 3 ≤ _)⟩)
    dsimp only [Pt.U, Pt.locs, Pt.cells, Pt.slots] at X798 l798 y798 z798 st798 hQ798
    subst l798 y798 z798
    obtain ⟨h798, e798⟩ : ∃ z, T798.heap = z := ⟨_, rfl⟩
    rw [e798] at hQ798
    obtain ⟨b786, rfl, N798q, K798q, hge787, F799, F800, F801, F802, F803, F804, F805, F806, F807⟩ := hQ798
    have z808 : n0 ≤ h798.size := Nat.le_trans z785 K798q.1
    have N798 := Fr.app N784 N798q
    have g_b786 : n0 ≤ b786 := Nat.le_trans z785 hge787
    have ne_b737_b786 : b737 ≠ b786 := Nat.ne_of_lt (Nat.lt_of_lt_of_le f788.lt hge787)
    have ne_b741_b786 : b741 ≠ b786 := Nat.ne_of_lt (Nat.lt_of_lt_of_le f789.lt hge787)
    have ne_b757_b786 : b757 ≠ b786 := Nat.ne_of_lt (Nat.lt_of_lt_of_le f790.lt hge787)
    have ne_b771_b786 : b771 ≠ b786 := Nat.ne_of_lt (Nat.lt_of_lt_of_le f791.lt hge787)
    have S809 : ∀ t, Steps p.tables e below (T798.setTop (mkF m 100 #[.val (.long f1), .second, .val (.long f2), .second, .val (.long c1), .second, .val (.long c2), .second, .val (.int fl), .val (.int (3 : Int32)), .val (.int (2 : Int32)), .val (.int (1 : Int32)), .val (.ref b737), .val (.ref b757), .val (.ref b771), .val (.int (1 : Int32)), .unset, .unset, .unset, .unset, .unset, .unset] [(.long c1), (.ref b737)])) t → Steps p.tables e below (T798.setTop (mkF m 74 #[.val (.long f1), .second, .val (.long f2), .second, .val (.long c1), .second, .val (.long c2), .second, .val (.int fl), .val (.int (3 : Int32)), .val (.int (2 : Int32)), .val (.int (1 : Int32)), .val (.ref b737), .val (.ref b757), .val (.ref b771), .unset, .unset, .unset, .unset, .unset, .unset, .unset] [])) t := by
      intro t kt
      show Steps p.tables e below (T798.setTop (mkF m 74 #[.val (.long f1), .second, .val (.long f2), .second, .val (.long c1), .second, .val (.long c2), .second, .val (.int fl), .val (.int (3 : Int32)), .val (.int (2 : Int32)), .val (.int (1 : Int32)), .val (.ref b737), .val (.ref b757), .val (.ref b771), .unset, .unset, .unset, .unset, .unset, .unset, .unset] [])) _
      refine XS.iload X798.here hx rfl (hb hby at_74) rfl ?_
      refine XS.iconst X798.here hx rfl (hb hby at_76) ?_
      refine XS.icmpNo X798.here hx rfl (hb hby at_77) rfl (teq rfl).2 ?_
      refine XS.iload X798.here hx rfl (hb hby at_80) rfl ?_
      refine XS.ifYes X798.here hx rfl (pc0 := 82) (pc' := 93) rfl (hb hby at_82) rfl ((if0 _ _).trans (feq (by decide)).2) (by decide) (by decide) ?_
      refine XS.iconst X798.here hx rfl (hb hby at_93) ?_
      show Steps p.tables e below (T798.setTop (mkF m 94 #[.val (.long f1), .second, .val (.long f2), .second, .val (.long c1), .second, .val (.long c2), .second, .val (.int fl), .val (.int (3 : Int32)), .val (.int (2 : Int32)), .val (.int (1 : Int32)), .val (.ref b737), .val (.ref b757), .val (.ref b771), .unset, .unset, .unset, .unset, .unset, .unset, .unset] [(.int (1 : Int32))])) _
      refine XS.istore X798.here hx rfl (hb hby at_94) rfl (l' := #[.val (.long f1), .second, .val (.long f2), .second, .val (.long c1), .second, .val (.long c2), .second, .val (.int fl), .val (.int (3 : Int32)), .val (.int (2 : Int32)), .val (.int (1 : Int32)), .val (.ref b737), .val (.ref b757), .val (.ref b771), .val (.int (1 : Int32)), .unset, .unset, .unset, .unset, .unset, .unset]) rfl ?_
      refine XS.aload X798.here hx rfl (hb hby at_96) rfl rfl ?_
      refine XS.lload X798.here hx rfl (hb hby at_98) rfl ?_
      exact kt
    by_cases ht810 : c1 < f1
    · have f812 := (f788.keep K798q)
      obtain ⟨cq811, kq811, q811a, q811b, q811c⟩ := isOf hZ e798 f812
      obtain ⟨_, _, ⟨T811, L811, k811, n811⟩, -, X811, ⟨Lc811, hQ811, l811, y811, z811⟩, st811⟩ := X798.virtualBack hx (y := (⟨"tidegate/operator/Crossings", "take", "(J)Ltidegate/operator/StageFunctions;"⟩ : MethodName)) (z := (⟨"tidegate/operator/Crossings", "take", "(J)Ltidegate/operator/StageFunctions;"⟩ : MethodName)) hown (mvT hZ (hw _ (List.mem_of_getElem? (i := 68) rfl))) (mvT hZ (hw _ (List.mem_of_getElem? (i := 69) rfl))) (notFace_of_selects (args := #[]) (mvT hZ (hw _ (List.mem_of_getElem? (i := 71) rfl)))) (mvT hZ (hw _ (List.mem_of_getElem? (i := 71) rfl))) (mvT hZ (hw _ (List.mem_of_getElem? (i := 70) rfl))) (by decide) (backOf (W := 0) (rm_tk1 l Z a0 hw [] b737 c1 b741 b786 f1 h798 n0 z808 F804 F805 F800 ht810) hZ (hw _ (List.mem_of_getElem? (i := 72) rfl)) (hw _ (List.mem_of_getElem? (i := 2) rfl)) (by decide) (by decide)) q811a q811c (g := (mkF m 100 #[.val (.long f1), .second, .val (.long f2), .second, .val (.long c1), .second, .val (.long c2), .second, .val (.int fl), .val (.int (3 : Int32)), .val (.int (2 : Int32)), .val (.int (1 : Int32)), .val (.ref b737), .val (.ref b757), .val (.ref b771), .val (.int (1 : Int32)), .unset, .unset, .unset, .unset, .unset, .unset] [(.long c1), (.ref b737)])) rfl (by rw [hml]; rfl) (Steps.refl _) (argsL := [(.long c1)]) (rest := []) (lenOf pd_2 rfl) rfl (by show 2 * 0 + _ ≤ _; exact Nat.le_of_eq rfl) (hb hby at_100) (fun _ _ => ⟨rfl, e798, (by decide : 27 + 0 ≤ _), (by decide : 46 + 0 ≤ _)⟩)
      dsimp only [Pt.U, Pt.locs, Pt.cells, Pt.slots] at X811 l811 y811 z811 st811 hQ811
      subst l811 y811 z811
      obtain ⟨rfl, N811q, e811⟩ := hQ811
      have N811 := Fr.app N798 N811q
      have S813 : ∀ t, Steps p.tables e below (T811.setTop (mkF m 149 #[.val (.long f1), .second, .val (.long f2), .second, .val (.long c1), .second, .val (.long c2), .second, .val (.int fl), .val (.int (3 : Int32)), .val (.int (2 : Int32)), .val (.int (1 : Int32)), .val (.ref b737), .val (.ref b757), .val (.ref b771), .val (.int (1 : Int32)), .val .null, .val (.int (0 : Int32)), .unset, .unset, .unset, .unset] [(.int ((1 : Int32) &&& (1 : Int32)))])) t → Steps p.tables e below (T811.setTop (mkF m 103 #[.val (.long f1), .second, .val (.long f2), .second, .val (.long c1), .second, .val (.long c2), .second, .val (.int fl), .val (.int (3 : Int32)), .val (.int (2 : Int32)), .val (.int (1 : Int32)), .val (.ref b737), .val (.ref b757), .val (.ref b771), .val (.int (1 : Int32)), .unset, .unset, .unset, .unset, .unset, .unset] [.null])) t := by
        intro t kt
        show Steps p.tables e below (T811.setTop (mkF m 103 #[.val (.long f1), .second, .val (.long f2), .second, .val (.long c1), .second, .val (.long c2), .second, .val (.int fl), .val (.int (3 : Int32)), .val (.int (2 : Int32)), .val (.int (1 : Int32)), .val (.ref b737), .val (.ref b757), .val (.ref b771), .val (.int (1 : Int32)), .unset, .unset, .unset, .unset, .unset, .unset] [.null])) _
        refine XS.astore X811.here hx rfl (hb hby at_103) rfl rfl (l' := #[.val (.long f1), .second, .val (.long f2), .second, .val (.long c1), .second, .val (.long c2), .second, .val (.int fl), .val (.int (3 : Int32)), .val (.int (2 : Int32)), .val (.int (1 : Int32)), .val (.ref b737), .val (.ref b757), .val (.ref b771), .val (.int (1 : Int32)), .val .null, .unset, .unset, .unset, .unset, .unset]) rfl ?_
        refine XS.iload X811.here hx rfl (hb hby at_105) rfl ?_
        refine XS.iconst X811.here hx rfl (hb hby at_107) ?_
        refine XS.icmpNo X811.here hx rfl (hb hby at_108) rfl (flt (by decide)).1 ?_
        refine XS.lloadN X811.here hx rfl (hb hby at_111) rfl ?_
        refine XS.lload X811.here hx rfl (hb hby at_112) rfl ?_
        show Steps p.tables e below (T811.setTop (mkF m 114 #[.val (.long f1), .second, .val (.long f2), .second, .val (.long c1), .second, .val (.long c2), .second, .val (.int fl), .val (.int (3 : Int32)), .val (.int (2 : Int32)), .val (.int (1 : Int32)), .val (.ref b737), .val (.ref b757), .val (.ref b771), .val (.int (1 : Int32)), .val .null, .unset, .unset, .unset, .unset, .unset] [(.long c1), (.long f1)])) _
        refine XS.lcmp X811.here hx rfl (hb hby at_114) rfl ?_
        refine XS.ifYes X811.here hx rfl (pc0 := 115) (pc' := 122) rfl (hb hby at_115) rfl ((if0 _ _).trans (tlt ((lw_gt f1 c1).mpr ht810)).2.2.1) (by decide) (by decide) ?_
        refine XS.iconst X811.here hx rfl (hb hby at_122) ?_
        refine XS.istore X811.here hx rfl (hb hby at_123) rfl (l' := #[.val (.long f1), .second, .val (.long f2), .second, .val (.long c1), .second, .val (.long c2), .second, .val (.int fl), .val (.int (3 : Int32)), .val (.int (2 : Int32)), .val (.int (1 : Int32)), .val (.ref b737), .val (.ref b757), .val (.ref b771), .val (.int (1 : Int32)), .val .null, .val (.int (0 : Int32)), .unset, .unset, .unset, .unset]) rfl ?_
        refine XS.iload X811.here hx rfl (hb hby at_125) rfl ?_
        refine XS.aload X811.here hx rfl (hb hby at_127) rfl rfl ?_
        show Steps p.tables e below (T811.setTop (mkF m 129 #[.val (.long f1), .second, .val (.long f2), .second, .val (.long c1), .second, .val (.long c2), .second, .val (.int fl), .val (.int (3 : Int32)), .val (.int (2 : Int32)), .val (.int (1 : Int32)), .val (.ref b737), .val (.ref b757), .val (.ref b771), .val (.int (1 : Int32)), .val .null, .val (.int (0 : Int32)), .unset, .unset, .unset, .unset] [.null, (.int (1 : Int32))])) _
        refine XS.iload X811.here hx rfl (hb hby at_129) rfl ?_
        refine XS.ifYes X811.here hx rfl (pc0 := 131) (pc' := 139) rfl (hb hby at_131) rfl ((if0 _ _).trans (teq rfl).1) (by decide) (by decide) ?_
        refine XS.aconstNull X811.here hx rfl (hb hby at_139) ?_
        refine Jvm.RoadKit.acmp (g := (mkF m 140 #[.val (.long f1), .second, .val (.long f2), .second, .val (.long c1), .second, .val (.long c2), .second, .val (.int fl), .val (.int (3 : Int32)), .val (.int (2 : Int32)), .val (.int (1 : Int32)), .val (.ref b737), .val (.ref b757), .val (.ref b771), .val (.int (1 : Int32)), .val .null, .val (.int (0 : Int32)), .unset, .unset, .unset, .unset] [.null, .null, (.int (1 : Int32))])) X811 hx rfl rfl rfl (pc0 := 140) (pc' := 143) (same := true) rfl (hb hby at_140) rfl (decide_eq_true rfl) (by decide) (by decide) ?_
        refine XS.iconst X811.here hx rfl (hb hby at_143) ?_
        refine XS.goto X811.here hx rfl (pc0 := 144) (pc' := 148) rfl (hb hby at_144) (by decide) (by decide) ?_
        show Steps p.tables e below (T811.setTop (mkF m 148 #[.val (.long f1), .second, .val (.long f2), .second, .val (.long c1), .second, .val (.long c2), .second, .val (.int fl), .val (.int (3 : Int32)), .val (.int (2 : Int32)), .val (.int (1 : Int32)), .val (.ref b737), .val (.ref b757), .val (.ref b771), .val (.int (1 : Int32)), .val .null, .val (.int (0 : Int32)), .unset, .unset, .unset, .unset] [(.int (1 : Int32)), (.int (1 : Int32))])) _
        refine XS.iand X811.here hx rfl (hb hby at_148) rfl ?_
        exact kt
      have S814 : ∀ t, Steps p.tables e below (T811.setTop (mkF m 149 #[.val (.long f1), .second, .val (.long f2), .second, .val (.long c1), .second, .val (.long c2), .second, .val (.int fl), .val (.int (3 : Int32)), .val (.int (2 : Int32)), .val (.int (1 : Int32)), .val (.ref b737), .val (.ref b757), .val (.ref b771), .val (.int (1 : Int32)), .val .null, .val (.int (0 : Int32)), .unset, .unset, .unset, .unset] [(.int (1 : Int32))])) t → Steps p.tables e below (T811.setTop (mkF m 149 #[.val (.long f1), .second, .val (.long f2), .second, .val (.long c1), .second, .val (.long c2), .second, .val (.int fl), .val (.int (3 : Int32)), .val (.int (2 : Int32)), .val (.int (1 : Int32)), .val (.ref b737), .val (.ref b757), .val (.ref b771), .val (.int (1 : Int32)), .val .null, .val (.int (0 : Int32)), .unset, .unset, .unset, .unset] [(.int ((1 : Int32) &&& (1 : Int32)))])) t := fun t k => by rw [(show ((1 : Int32) &&& (1 : Int32)) = (1 : Int32) from by decide)]; exact k
      have f817 := (f789.keep K798q)
      have f818 := (f790.keep K798q)
      have f819 := (f791.keep K798q)
      have S820 : ∀ t, Steps p.tables e below (T811.setTop (mkF m 161 #[.val (.long f1), .second, .val (.long f2), .second, .val (.long c1), .second, .val (.long c2), .second, .val (.int fl), .val (.int (3 : Int32)), .val (.int (2 : Int32)), .val (.int (1 : Int32)), .val (.ref b737), .val (.ref b757), .val (.ref b771), .val (.int (1 : Int32)), .val .null, .val (.int (0 : Int32)), .unset, .unset, .unset, .unset] [(.ref b771), (.long f2), (.ref b737)])) t → Steps p.tables e below (T811.setTop (mkF m 149 #[.val (.long f1), .second, .val (.long f2), .second, .val (.long c1), .second, .val (.long c2), .second, .val (.int fl), .val (.int (3 : Int32)), .val (.int (2 : Int32)), .val (.int (1 : Int32)), .val (.ref b737), .val (.ref b757), .val (.ref b771), .val (.int (1 : Int32)), .val .null, .val (.int (0 : Int32)), .unset, .unset, .unset, .unset] [(.int (1 : Int32))])) t := by
        intro t kt
        show Steps p.tables e below (T811.setTop (mkF m 149 #[.val (.long f1), .second, .val (.long f2), .second, .val (.long c1), .second, .val (.long c2), .second, .val (.int fl), .val (.int (3 : Int32)), .val (.int (2 : Int32)), .val (.int (1 : Int32)), .val (.ref b737), .val (.ref b757), .val (.ref b771), .val (.int (1 : Int32)), .val .null, .val (.int (0 : Int32)), .unset, .unset, .unset, .unset] [(.int (1 : Int32))])) _
        refine XS.istore X811.here hx rfl (hb hby at_149) rfl (l' := #[.val (.long f1), .second, .val (.long f2), .second, .val (.long c1), .second, .val (.long c2), .second, .val (.int fl), .val (.int (3 : Int32)), .val (.int (2 : Int32)), .val (.int (1 : Int32)), .val (.ref b737), .val (.ref b757), .val (.ref b771), .val (.int (1 : Int32)), .val .null, .val (.int (0 : Int32)), .unset, .unset, .unset, .unset]) rfl ?_
        refine XS.iload X811.here hx rfl (hb hby at_151) rfl ?_
        refine XS.ifNo X811.here hx rfl (hb hby at_153) rfl ((if0 _ _).trans (feq (by decide)).1) ?_
        refine XS.aload X811.here hx rfl (hb hby at_156) rfl rfl ?_
        refine XS.lloadN X811.here hx rfl (hb hby at_158) rfl ?_
        refine XS.aload X811.here hx rfl (hb hby at_159) rfl rfl ?_
        exact kt
      obtain ⟨cq821, kq821, q821a, q821b, q821c⟩ := isOf hZ e811 f812
      obtain ⟨_, _, ⟨T821, L821, k821, n821⟩, -, X821, ⟨Lc821, hQ821, l821, y821, z821⟩, st821⟩ := X811.virtualBack hx (y := (⟨"tidegate/operator/Crossings", "add", "(JLtidegate/operator/StageFunctions;)V"⟩ : MethodName)) (z := (⟨"tidegate/operator/Crossings", "add", "(JLtidegate/operator/StageFunctions;)V"⟩ : MethodName)) hown (mvT hZ (hw _ (List.mem_of_getElem? (i := 61) rfl))) (mvT hZ (hw _ (List.mem_of_getElem? (i := 62) rfl))) (notFace_of_selects (args := #[]) (mvT hZ (hw _ (List.mem_of_getElem? (i := 64) rfl)))) (mvT hZ (hw _ (List.mem_of_getElem? (i := 64) rfl))) (mvT hZ (hw _ (List.mem_of_getElem? (i := 63) rfl))) (by decide) (backOf (W := 0) (rm6 l Z a0 hw [] b737 f2 b771 b786 b741 f1 (.ref b757) h798 n0 z808 f812 F803 F804 F799 F802 F800 F801 g_b737 g_b786 ne_b737_b786) hZ (hw _ (List.mem_of_getElem? (i := 65) rfl)) (hw _ (List.mem_of_getElem? (i := 2) rfl)) (by decide) (by decide)) q821a q821c (g := (mkF m 161 #[.val (.long f1), .second, .val (.long f2), .second, .val (.long c1), .second, .val (.long c2), .second, .val (.int fl), .val (.int (3 : Int32)), .val (.int (2 : Int32)), .val (.int (1 : Int32)), .val (.ref b737), .val (.ref b757), .val (.ref b771), .val (.int (1 : Int32)), .val .null, .val (.int (0 : Int32)), .unset, .unset, .unset, .unset] [(.ref b771), (.long f2), (.ref b737)])) rfl (by rw [hml]; rfl) (Steps.refl _) (argsL := [(.long f2), (.ref b771)]) (rest := []) (lenOf pd_0 rfl) rfl (by show 2 * 0 + _ ≤ _; exact Nat.le_of_eq rfl) (hb hby at_161) (fun _ _ => ⟨rfl, e811, (by decide : 27 + 1 ≤ _), (by decide : 46 + 3 ≤ _)⟩)
      dsimp only [Pt.U, Pt.locs, Pt.cells, Pt.slots] at X821 l821 y821 z821 st821 hQ821
      subst l821 y821 z821
      obtain ⟨h821, e821⟩ : ∃ z, T821.heap = z := ⟨_, rfl⟩
      rw [e821] at hQ821
      obtain ⟨b815, rfl, N821q, K821q, hge816, F822, F823, F824, F825, F826, F827, F828, F829, F830⟩ := hQ821
      have z831 : n0 ≤ h821.size := Nat.le_trans z808 K821q.1
      have N821 := Fr.app N811 N821q
      have g_b815 : n0 ≤ b815 := Nat.le_trans z808 hge816
      have ne_b737_b815 : b737 ≠ b815 := Nat.ne_of_lt (Nat.lt_of_lt_of_le f812.lt hge816)
      have ne_b741_b815 : b741 ≠ b815 := Nat.ne_of_lt (Nat.lt_of_lt_of_le f817.lt hge816)
      have ne_b757_b815 : b757 ≠ b815 := Nat.ne_of_lt (Nat.lt_of_lt_of_le f818.lt hge816)
      have ne_b771_b815 : b771 ≠ b815 := Nat.ne_of_lt (Nat.lt_of_lt_of_le f819.lt hge816)
      have ne_b786_b815 : b786 ≠ b815 := Nat.ne_of_lt (Nat.lt_of_lt_of_le F799.lt hge816)
      have f832 := (F805.keep K821q (ninS (Ne.symm ne_b737_b741) (ninS ne_b741_b786 nin0)))
      have S833 : ∀ t, Steps p.tables e below (T821.setTop (mkF m 180 #[.val (.long f1), .second, .val (.long f2), .second, .val (.long c1), .second, .val (.long c2), .second, .val (.int fl), .val (.int (3 : Int32)), .val (.int (2 : Int32)), .val (.int (1 : Int32)), .val (.ref b737), .val (.ref b757), .val (.ref b771), .val (.int (1 : Int32)), .val .null, .val (.int (0 : Int32)), .val (.int (0 : Int32)), .unset, .unset, .unset] [(.ref b737), (.int (1 : Int32))])) t → Steps p.tables e below (T821.setTop (mkF m 164 #[.val (.long f1), .second, .val (.long f2), .second, .val (.long c1), .second, .val (.long c2), .second, .val (.int fl), .val (.int (3 : Int32)), .val (.int (2 : Int32)), .val (.int (1 : Int32)), .val (.ref b737), .val (.ref b757), .val (.ref b771), .val (.int (1 : Int32)), .val .null, .val (.int (0 : Int32)), .unset, .unset, .unset, .unset] [])) t := by
        intro t kt
        show Steps p.tables e below (T821.setTop (mkF m 164 #[.val (.long f1), .second, .val (.long f2), .second, .val (.long c1), .second, .val (.long c2), .second, .val (.int fl), .val (.int (3 : Int32)), .val (.int (2 : Int32)), .val (.int (1 : Int32)), .val (.ref b737), .val (.ref b757), .val (.ref b771), .val (.int (1 : Int32)), .val .null, .val (.int (0 : Int32)), .unset, .unset, .unset, .unset] [])) _
        refine XS.iload X821.here hx rfl (hb hby at_164) rfl ?_
        refine XS.ifYes X821.here hx rfl (pc0 := 166) (pc' := 173) rfl (hb hby at_166) rfl ((if0 _ _).trans (teq rfl).1) (by decide) (by decide) ?_
        refine XS.iconst X821.here hx rfl (hb hby at_173) ?_
        refine XS.istore X821.here hx rfl (hb hby at_174) rfl (l' := #[.val (.long f1), .second, .val (.long f2), .second, .val (.long c1), .second, .val (.long c2), .second, .val (.int fl), .val (.int (3 : Int32)), .val (.int (2 : Int32)), .val (.int (1 : Int32)), .val (.ref b737), .val (.ref b757), .val (.ref b771), .val (.int (1 : Int32)), .val .null, .val (.int (0 : Int32)), .val (.int (0 : Int32)), .unset, .unset, .unset]) rfl ?_
        refine XS.iload X821.here hx rfl (hb hby at_176) rfl ?_
        refine XS.aload X821.here hx rfl (hb hby at_178) rfl rfl ?_
        exact kt
      have f835 := (f812.keep K821q)
      obtain ⟨cq834, kq834, q834a, q834b, q834c⟩ := isOf hZ e821 f835
      obtain ⟨_, _, ⟨T834, L834, k834, n834⟩, -, X834, ⟨Lc834, hQ834, l834, y834, z834⟩, st834⟩ := X821.virtualBack hx (y := (⟨"tidegate/operator/Crossings", "waiting", "()Z"⟩ : MethodName)) (z := (⟨"tidegate/operator/Crossings", "waiting", "()Z"⟩ : MethodName)) hown (mvT hZ (hw _ (List.mem_of_getElem? (i := 74) rfl))) (mvT hZ (hw _ (List.mem_of_getElem? (i := 75) rfl))) (notFace_of_selects (args := #[]) (mvT hZ (hw _ (List.mem_of_getElem? (i := 77) rfl)))) (mvT hZ (hw _ (List.mem_of_getElem? (i := 77) rfl))) (mvT hZ (hw _ (List.mem_of_getElem? (i := 76) rfl))) (by decide) (backOf (W := 1) (rm_wt1 l Z a0 hw [] b737 b741 b786 h821 n0 z831 F827 f832) hZ (hw _ (List.mem_of_getElem? (i := 78) rfl)) (hw _ (List.mem_of_getElem? (i := 2) rfl)) (by decide) (by decide)) q834a q834c (g := (mkF m 180 #[.val (.long f1), .second, .val (.long f2), .second, .val (.long c1), .second, .val (.long c2), .second, .val (.int fl), .val (.int (3 : Int32)), .val (.int (2 : Int32)), .val (.int (1 : Int32)), .val (.ref b737), .val (.ref b757), .val (.ref b771), .val (.int (1 : Int32)), .val .null, .val (.int (0 : Int32)), .val (.int (0 : Int32)), .unset, .unset, .unset] [(.ref b737), (.int (1 : Int32))])) rfl (by rw [hml]; rfl) (Steps.refl _) (argsL := []) (rest := [(.int (1 : Int32))]) (lenOf pd_3 rfl) rfl (by show 2 * 0 + _ ≤ _; exact Nat.le_of_eq rfl) (hb hby at_180) (fun _ _ => ⟨rfl, e821, (by decide : 28 + 0 ≤ _), (by decide : 49 + 0 ≤ _)⟩)
      dsimp only [Pt.U, Pt.locs, Pt.cells, Pt.slots] at X834 l834 y834 z834 st834 hQ834
      subst l834 y834 z834
      obtain ⟨rfl, N834q, e834⟩ := hQ834
      have N834 := Fr.app N821 N834q
      have S836 : ∀ t, Steps p.tables e below (T834.setTop (mkF m 204 #[.val (.long f1), .second, .val (.long f2), .second, .val (.long c1), .second, .val (.long c2), .second, .val (.int fl), .val (.int (3 : Int32)), .val (.int (2 : Int32)), .val (.int (1 : Int32)), .val (.ref b737), .val (.ref b757), .val (.ref b771), .val (.int (1 : Int32)), .val .null, .val (.int (0 : Int32)), .val (.int (0 : Int32)), .unset, .unset, .unset] [(.int ((1 : Int32) &&& (1 : Int32)))])) t → Steps p.tables e below (T834.setTop (mkF m 183 #[.val (.long f1), .second, .val (.long f2), .second, .val (.long c1), .second, .val (.long c2), .second, .val (.int fl), .val (.int (3 : Int32)), .val (.int (2 : Int32)), .val (.int (1 : Int32)), .val (.ref b737), .val (.ref b757), .val (.ref b771), .val (.int (1 : Int32)), .val .null, .val (.int (0 : Int32)), .val (.int (0 : Int32)), .unset, .unset, .unset] [(.int (1 : Int32)), (.int (1 : Int32))])) t := by
        intro t kt
        show Steps p.tables e below (T834.setTop (mkF m 183 #[.val (.long f1), .second, .val (.long f2), .second, .val (.long c1), .second, .val (.long c2), .second, .val (.int fl), .val (.int (3 : Int32)), .val (.int (2 : Int32)), .val (.int (1 : Int32)), .val (.ref b737), .val (.ref b757), .val (.ref b771), .val (.int (1 : Int32)), .val .null, .val (.int (0 : Int32)), .val (.int (0 : Int32)), .unset, .unset, .unset] [(.int (1 : Int32)), (.int (1 : Int32))])) _
        refine XS.iload X834.here hx rfl (hb hby at_183) rfl ?_
        refine XS.iload X834.here hx rfl (hb hby at_185) rfl ?_
        refine XS.icmpNo X834.here hx rfl (hb hby at_187) rfl (tlt (by decide)).2.1 ?_
        refine XS.iconst X834.here hx rfl (hb hby at_190) ?_
        refine XS.goto X834.here hx rfl (pc0 := 191) (pc' := 195) rfl (hb hby at_191) (by decide) (by decide) ?_
        refine XS.icmpNo X834.here hx rfl (hb hby at_195) rfl (teq rfl).2 ?_
        show Steps p.tables e below (T834.setTop (mkF m 198 #[.val (.long f1), .second, .val (.long f2), .second, .val (.long c1), .second, .val (.long c2), .second, .val (.int fl), .val (.int (3 : Int32)), .val (.int (2 : Int32)), .val (.int (1 : Int32)), .val (.ref b737), .val (.ref b757), .val (.ref b771), .val (.int (1 : Int32)), .val .null, .val (.int (0 : Int32)), .val (.int (0 : Int32)), .unset, .unset, .unset] [(.int (1 : Int32))])) _
        refine XS.iconst X834.here hx rfl (hb hby at_198) ?_
        refine XS.goto X834.here hx rfl (pc0 := 199) (pc' := 203) rfl (hb hby at_199) (by decide) (by decide) ?_
        refine XS.iand X834.here hx rfl (hb hby at_203) rfl ?_
        exact kt
      have S837 : ∀ t, Steps p.tables e below (T834.setTop (mkF m 204 #[.val (.long f1), .second, .val (.long f2), .second, .val (.long c1), .second, .val (.long c2), .second, .val (.int fl), .val (.int (3 : Int32)), .val (.int (2 : Int32)), .val (.int (1 : Int32)), .val (.ref b737), .val (.ref b757), .val (.ref b771), .val (.int (1 : Int32)), .val .null, .val (.int (0 : Int32)), .val (.int (0 : Int32)), .unset, .unset, .unset] [(.int (1 : Int32))])) t → Steps p.tables e below (T834.setTop (mkF m 204 #[.val (.long f1), .second, .val (.long f2), .second, .val (.long c1), .second, .val (.long c2), .second, .val (.int fl), .val (.int (3 : Int32)), .val (.int (2 : Int32)), .val (.int (1 : Int32)), .val (.ref b737), .val (.ref b757), .val (.ref b771), .val (.int (1 : Int32)), .val .null, .val (.int (0 : Int32)), .val (.int (0 : Int32)), .unset, .unset, .unset] [(.int ((1 : Int32) &&& (1 : Int32)))])) t := fun t k => by rw [(show ((1 : Int32) &&& (1 : Int32)) = (1 : Int32) from by decide)]; exact k
      have S838 : ∀ t, Steps p.tables e below (T834.setTop (mkF m 210 #[.val (.long f1), .second, .val (.long f2), .second, .val (.long c1), .second, .val (.long c2), .second, .val (.int fl), .val (.int (3 : Int32)), .val (.int (2 : Int32)), .val (.int (1 : Int32)), .val (.ref b737), .val (.ref b757), .val (.ref b771), .val (.int (1 : Int32)), .val .null, .val (.int (0 : Int32)), .val (.int (0 : Int32)), .unset, .unset, .unset] [(.long c2), (.ref b737)])) t → Steps p.tables e below (T834.setTop (mkF m 204 #[.val (.long f1), .second, .val (.long f2), .second, .val (.long c1), .second, .val (.long c2), .second, .val (.int fl), .val (.int (3 : Int32)), .val (.int (2 : Int32)), .val (.int (1 : Int32)), .val (.ref b737), .val (.ref b757), .val (.ref b771), .val (.int (1 : Int32)), .val .null, .val (.int (0 : Int32)), .val (.int (0 : Int32)), .unset, .unset, .unset] [(.int (1 : Int32))])) t := by
        intro t kt
        show Steps p.tables e below (T834.setTop (mkF m 204 #[.val (.long f1), .second, .val (.long f2), .second, .val (.long c1), .second, .val (.long c2), .second, .val (.int fl), .val (.int (3 : Int32)), .val (.int (2 : Int32)), .val (.int (1 : Int32)), .val (.ref b737), .val (.ref b757), .val (.ref b771), .val (.int (1 : Int32)), .val .null, .val (.int (0 : Int32)), .val (.int (0 : Int32)), .unset, .unset, .unset] [(.int (1 : Int32))])) _
        refine XS.istore X834.here hx rfl (hb hby at_204) rfl (l' := #[.val (.long f1), .second, .val (.long f2), .second, .val (.long c1), .second, .val (.long c2), .second, .val (.int fl), .val (.int (3 : Int32)), .val (.int (2 : Int32)), .val (.int (1 : Int32)), .val (.ref b737), .val (.ref b757), .val (.ref b771), .val (.int (1 : Int32)), .val .null, .val (.int (0 : Int32)), .val (.int (0 : Int32)), .unset, .unset, .unset]) rfl ?_
        refine XS.aload X834.here hx rfl (hb hby at_206) rfl rfl ?_
        refine XS.lload X834.here hx rfl (hb hby at_208) rfl ?_
        exact kt
      by_cases ht839 : c2 < f1
      · obtain ⟨cq840, kq840, q840a, q840b, q840c⟩ := isOf hZ e834 f835
        obtain ⟨_, _, ⟨T840, L840, k840, n840⟩, -, X840, ⟨Lc840, hQ840, l840, y840, z840⟩, st840⟩ := X834.virtualBack hx (y := (⟨"tidegate/operator/Crossings", "take", "(J)Ltidegate/operator/StageFunctions;"⟩ : MethodName)) (z := (⟨"tidegate/operator/Crossings", "take", "(J)Ltidegate/operator/StageFunctions;"⟩ : MethodName)) hown (mvT hZ (hw _ (List.mem_of_getElem? (i := 68) rfl))) (mvT hZ (hw _ (List.mem_of_getElem? (i := 69) rfl))) (notFace_of_selects (args := #[]) (mvT hZ (hw _ (List.mem_of_getElem? (i := 71) rfl)))) (mvT hZ (hw _ (List.mem_of_getElem? (i := 71) rfl))) (mvT hZ (hw _ (List.mem_of_getElem? (i := 70) rfl))) (by decide) (backOf (W := 0) (rm_tk1 l Z a0 hw [] b737 c2 b741 b786 f1 h821 n0 z831 F827 f832 F829 ht839) hZ (hw _ (List.mem_of_getElem? (i := 72) rfl)) (hw _ (List.mem_of_getElem? (i := 2) rfl)) (by decide) (by decide)) q840a q840c (g := (mkF m 210 #[.val (.long f1), .second, .val (.long f2), .second, .val (.long c1), .second, .val (.long c2), .second, .val (.int fl), .val (.int (3 : Int32)), .val (.int (2 : Int32)), .val (.int (1 : Int32)), .val (.ref b737), .val (.ref b757), .val (.ref b771), .val (.int (1 : Int32)), .val .null, .val (.int (0 : Int32)), .val (.int (0 : Int32)), .unset, .unset, .unset] [(.long c2), (.ref b737)])) rfl (by rw [hml]; rfl) (Steps.refl _) (argsL := [(.long c2)]) (rest := []) (lenOf pd_2 rfl) rfl (by show 2 * 0 + _ ≤ _; exact Nat.le_of_eq rfl) (hb hby at_210) (fun _ _ => ⟨rfl, e834, (by decide : 28 + 0 ≤ _), (by decide : 49 + 0 ≤ _)⟩)
        dsimp only [Pt.U, Pt.locs, Pt.cells, Pt.slots] at X840 l840 y840 z840 st840 hQ840
        subst l840 y840 z840
        obtain ⟨rfl, N840q, e840⟩ := hQ840
        have N840 := Fr.app N834 N840q
        have S841 : ∀ t, Steps p.tables e below (T840.setTop (mkF m 280 #[.val (.long f1), .second, .val (.long f2), .second, .val (.long c1), .second, .val (.long c2), .second, .val (.int fl), .val (.int (3 : Int32)), .val (.int (2 : Int32)), .val (.int (1 : Int32)), .val (.ref b737), .val (.ref b757), .val (.ref b771), .val (.int (1 : Int32)), .val .null, .val (.int (0 : Int32)), .val (.int (0 : Int32)), .val .null, .val .null, .unset] [(.int ((1 : Int32) &&& (1 : Int32)))])) t → Steps p.tables e below (T840.setTop (mkF m 213 #[.val (.long f1), .second, .val (.long f2), .second, .val (.long c1), .second, .val (.long c2), .second, .val (.int fl), .val (.int (3 : Int32)), .val (.int (2 : Int32)), .val (.int (1 : Int32)), .val (.ref b737), .val (.ref b757), .val (.ref b771), .val (.int (1 : Int32)), .val .null, .val (.int (0 : Int32)), .val (.int (0 : Int32)), .unset, .unset, .unset] [.null])) t := by
          intro t kt
          show Steps p.tables e below (T840.setTop (mkF m 213 #[.val (.long f1), .second, .val (.long f2), .second, .val (.long c1), .second, .val (.long c2), .second, .val (.int fl), .val (.int (3 : Int32)), .val (.int (2 : Int32)), .val (.int (1 : Int32)), .val (.ref b737), .val (.ref b757), .val (.ref b771), .val (.int (1 : Int32)), .val .null, .val (.int (0 : Int32)), .val (.int (0 : Int32)), .unset, .unset, .unset] [.null])) _
          refine XS.astore X840.here hx rfl (hb hby at_213) rfl rfl (l' := #[.val (.long f1), .second, .val (.long f2), .second, .val (.long c1), .second, .val (.long c2), .second, .val (.int fl), .val (.int (3 : Int32)), .val (.int (2 : Int32)), .val (.int (1 : Int32)), .val (.ref b737), .val (.ref b757), .val (.ref b771), .val (.int (1 : Int32)), .val .null, .val (.int (0 : Int32)), .val (.int (0 : Int32)), .val .null, .unset, .unset]) rfl ?_
          refine XS.iload X840.here hx rfl (hb hby at_215) rfl ?_
          refine XS.ifYes X840.here hx rfl (pc0 := 217) (pc' := 244) rfl (hb hby at_217) rfl ((if0 _ _).trans (teq rfl).1) (by decide) (by decide) ?_
          refine XS.iload X840.here hx rfl (hb hby at_244) rfl ?_
          refine XS.iconst X840.here hx rfl (hb hby at_246) ?_
          refine XS.icmpNo X840.here hx rfl (hb hby at_247) rfl (flt (by decide)).1 ?_
          show Steps p.tables e below (T840.setTop (mkF m 250 #[.val (.long f1), .second, .val (.long f2), .second, .val (.long c1), .second, .val (.long c2), .second, .val (.int fl), .val (.int (3 : Int32)), .val (.int (2 : Int32)), .val (.int (1 : Int32)), .val (.ref b737), .val (.ref b757), .val (.ref b771), .val (.int (1 : Int32)), .val .null, .val (.int (0 : Int32)), .val (.int (0 : Int32)), .val .null, .unset, .unset] [])) _
          refine XS.lloadN X840.here hx rfl (hb hby at_250) rfl ?_
          refine XS.lload X840.here hx rfl (hb hby at_251) rfl ?_
          refine XS.lcmp X840.here hx rfl (hb hby at_253) rfl ?_
          refine XS.ifYes X840.here hx rfl (pc0 := 254) (pc' := 262) rfl (hb hby at_254) rfl ((if0 _ _).trans (tlt ((lw_gt f1 c2).mpr ht839)).2.2.1) (by decide) (by decide) ?_
          refine XS.aconstNull X840.here hx rfl (hb hby at_262) ?_
          refine XS.astore X840.here hx rfl (hb hby at_263) rfl rfl (l' := #[.val (.long f1), .second, .val (.long f2), .second, .val (.long c1), .second, .val (.long c2), .second, .val (.int fl), .val (.int (3 : Int32)), .val (.int (2 : Int32)), .val (.int (1 : Int32)), .val (.ref b737), .val (.ref b757), .val (.ref b771), .val (.int (1 : Int32)), .val .null, .val (.int (0 : Int32)), .val (.int (0 : Int32)), .val .null, .val .null, .unset]) rfl ?_
          show Steps p.tables e below (T840.setTop (mkF m 265 #[.val (.long f1), .second, .val (.long f2), .second, .val (.long c1), .second, .val (.long c2), .second, .val (.int fl), .val (.int (3 : Int32)), .val (.int (2 : Int32)), .val (.int (1 : Int32)), .val (.ref b737), .val (.ref b757), .val (.ref b771), .val (.int (1 : Int32)), .val .null, .val (.int (0 : Int32)), .val (.int (0 : Int32)), .val .null, .val .null, .unset] [])) _
          refine XS.iload X840.here hx rfl (hb hby at_265) rfl ?_
          refine XS.aload X840.here hx rfl (hb hby at_267) rfl rfl ?_
          refine XS.aload X840.here hx rfl (hb hby at_269) rfl rfl ?_
          refine Jvm.RoadKit.acmp (g := (mkF m 271 #[.val (.long f1), .second, .val (.long f2), .second, .val (.long c1), .second, .val (.long c2), .second, .val (.int fl), .val (.int (3 : Int32)), .val (.int (2 : Int32)), .val (.int (1 : Int32)), .val (.ref b737), .val (.ref b757), .val (.ref b771), .val (.int (1 : Int32)), .val .null, .val (.int (0 : Int32)), .val (.int (0 : Int32)), .val .null, .val .null, .unset] [.null, .null, (.int (1 : Int32))])) X840 hx rfl rfl rfl (pc0 := 271) (pc' := 274) (same := true) rfl (hb hby at_271) rfl (decide_eq_true rfl) (by decide) (by decide) ?_
          refine XS.iconst X840.here hx rfl (hb hby at_274) ?_
          refine XS.goto X840.here hx rfl (pc0 := 275) (pc' := 279) rfl (hb hby at_275) (by decide) (by decide) ?_
          show Steps p.tables e below (T840.setTop (mkF m 279 #[.val (.long f1), .second, .val (.long f2), .second, .val (.long c1), .second, .val (.long c2), .second, .val (.int fl), .val (.int (3 : Int32)), .val (.int (2 : Int32)), .val (.int (1 : Int32)), .val (.ref b737), .val (.ref b757), .val (.ref b771), .val (.int (1 : Int32)), .val .null, .val (.int (0 : Int32)), .val (.int (0 : Int32)), .val .null, .val .null, .unset] [(.int (1 : Int32)), (.int (1 : Int32))])) _
          refine XS.iand X840.here hx rfl (hb hby at_279) rfl ?_
          exact kt
        have S842 : ∀ t, Steps p.tables e below (T840.setTop (mkF m 280 #[.val (.long f1), .second, .val (.long f2), .second, .val (.long c1), .second, .val (.long c2), .second, .val (.int fl), .val (.int (3 : Int32)), .val (.int (2 : Int32)), .val (.int (1 : Int32)), .val (.ref b737), .val (.ref b757), .val (.ref b771), .val (.int (1 : Int32)), .val .null, .val (.int (0 : Int32)), .val (.int (0 : Int32)), .val .null, .val .null, .unset] [(.int (1 : Int32))])) t → Steps p.tables e below (T840.setTop (mkF m 280 #[.val (.long f1), .second, .val (.long f2), .second, .val (.long c1), .second, .val (.long c2), .second, .val (.int fl), .val (.int (3 : Int32)), .val (.int (2 : Int32)), .val (.int (1 : Int32)), .val (.ref b737), .val (.ref b757), .val (.ref b771), .val (.int (1 : Int32)), .val .null, .val (.int (0 : Int32)), .val (.int (0 : Int32)), .val .null, .val .null, .unset] [(.int ((1 : Int32) &&& (1 : Int32)))])) t := fun t k => by rw [(show ((1 : Int32) &&& (1 : Int32)) = (1 : Int32) from by decide)]; exact k
        have S843 : ∀ t, Steps p.tables e below (T840.setTop (mkF m 295 #[.val (.long f1), .second, .val (.long f2), .second, .val (.long c1), .second, .val (.long c2), .second, .val (.int fl), .val (.int (3 : Int32)), .val (.int (2 : Int32)), .val (.int (1 : Int32)), .val (.ref b737), .val (.ref b757), .val (.ref b771), .val (.int (1 : Int32)), .val .null, .val (.int (0 : Int32)), .val (.int (0 : Int32)), .val .null, .val .null, .unset] [(.int ((0 : Int32) + (0 : Int32)))])) t → Steps p.tables e below (T840.setTop (mkF m 280 #[.val (.long f1), .second, .val (.long f2), .second, .val (.long c1), .second, .val (.long c2), .second, .val (.int fl), .val (.int (3 : Int32)), .val (.int (2 : Int32)), .val (.int (1 : Int32)), .val (.ref b737), .val (.ref b757), .val (.ref b771), .val (.int (1 : Int32)), .val .null, .val (.int (0 : Int32)), .val (.int (0 : Int32)), .val .null, .val .null, .unset] [(.int (1 : Int32))])) t := by
          intro t kt
          show Steps p.tables e below (T840.setTop (mkF m 280 #[.val (.long f1), .second, .val (.long f2), .second, .val (.long c1), .second, .val (.long c2), .second, .val (.int fl), .val (.int (3 : Int32)), .val (.int (2 : Int32)), .val (.int (1 : Int32)), .val (.ref b737), .val (.ref b757), .val (.ref b771), .val (.int (1 : Int32)), .val .null, .val (.int (0 : Int32)), .val (.int (0 : Int32)), .val .null, .val .null, .unset] [(.int (1 : Int32))])) _
          refine XS.istore X840.here hx rfl (hb hby at_280) rfl (l' := #[.val (.long f1), .second, .val (.long f2), .second, .val (.long c1), .second, .val (.long c2), .second, .val (.int fl), .val (.int (3 : Int32)), .val (.int (2 : Int32)), .val (.int (1 : Int32)), .val (.ref b737), .val (.ref b757), .val (.ref b771), .val (.int (1 : Int32)), .val .null, .val (.int (0 : Int32)), .val (.int (0 : Int32)), .val .null, .val .null, .unset]) rfl ?_
          refine XS.iload X840.here hx rfl (hb hby at_282) rfl ?_
          refine XS.aload X840.here hx rfl (hb hby at_284) rfl rfl ?_
          refine XS.ifnullYes X840.here hx rfl (pc0 := 286) (pc' := 293) rfl (hb hby at_286) rfl (by decide) (by decide) ?_
          refine XS.iconst X840.here hx rfl (hb hby at_293) ?_
          refine XS.iadd X840.here hx rfl (hb hby at_294) rfl ?_
          exact kt
        have S844 : ∀ t, Steps p.tables e below (T840.setTop (mkF m 295 #[.val (.long f1), .second, .val (.long f2), .second, .val (.long c1), .second, .val (.long c2), .second, .val (.int fl), .val (.int (3 : Int32)), .val (.int (2 : Int32)), .val (.int (1 : Int32)), .val (.ref b737), .val (.ref b757), .val (.ref b771), .val (.int (1 : Int32)), .val .null, .val (.int (0 : Int32)), .val (.int (0 : Int32)), .val .null, .val .null, .unset] [(.int (0 : Int32))])) t → Steps p.tables e below (T840.setTop (mkF m 295 #[.val (.long f1), .second, .val (.long f2), .second, .val (.long c1), .second, .val (.long c2), .second, .val (.int fl), .val (.int (3 : Int32)), .val (.int (2 : Int32)), .val (.int (1 : Int32)), .val (.ref b737), .val (.ref b757), .val (.ref b771), .val (.int (1 : Int32)), .val .null, .val (.int (0 : Int32)), .val (.int (0 : Int32)), .val .null, .val .null, .unset] [(.int ((0 : Int32) + (0 : Int32)))])) t := fun t k => by rw [(show ((0 : Int32) + (0 : Int32)) = (0 : Int32) from by decide)]; exact k
        have S845 : ∀ t, Steps p.tables e below (T840.setTop (mkF m 301 #[.val (.long f1), .second, .val (.long f2), .second, .val (.long c1), .second, .val (.long c2), .second, .val (.int fl), .val (.int (3 : Int32)), .val (.int (2 : Int32)), .val (.int (1 : Int32)), .val (.ref b737), .val (.ref b757), .val (.ref b771), .val (.int (1 : Int32)), .val .null, .val (.int (0 : Int32)), .val (.int (0 : Int32)), .val .null, .val .null, .val (.int (0 : Int32))] [(.ref b737), (.int (1 : Int32))])) t → Steps p.tables e below (T840.setTop (mkF m 295 #[.val (.long f1), .second, .val (.long f2), .second, .val (.long c1), .second, .val (.long c2), .second, .val (.int fl), .val (.int (3 : Int32)), .val (.int (2 : Int32)), .val (.int (1 : Int32)), .val (.ref b737), .val (.ref b757), .val (.ref b771), .val (.int (1 : Int32)), .val .null, .val (.int (0 : Int32)), .val (.int (0 : Int32)), .val .null, .val .null, .unset] [(.int (0 : Int32))])) t := by
          intro t kt
          show Steps p.tables e below (T840.setTop (mkF m 295 #[.val (.long f1), .second, .val (.long f2), .second, .val (.long c1), .second, .val (.long c2), .second, .val (.int fl), .val (.int (3 : Int32)), .val (.int (2 : Int32)), .val (.int (1 : Int32)), .val (.ref b737), .val (.ref b757), .val (.ref b771), .val (.int (1 : Int32)), .val .null, .val (.int (0 : Int32)), .val (.int (0 : Int32)), .val .null, .val .null, .unset] [(.int (0 : Int32))])) _
          refine XS.istore X840.here hx rfl (hb hby at_295) rfl (l' := #[.val (.long f1), .second, .val (.long f2), .second, .val (.long c1), .second, .val (.long c2), .second, .val (.int fl), .val (.int (3 : Int32)), .val (.int (2 : Int32)), .val (.int (1 : Int32)), .val (.ref b737), .val (.ref b757), .val (.ref b771), .val (.int (1 : Int32)), .val .null, .val (.int (0 : Int32)), .val (.int (0 : Int32)), .val .null, .val .null, .val (.int (0 : Int32))]) rfl ?_
          refine XS.iload X840.here hx rfl (hb hby at_297) rfl ?_
          refine XS.aload X840.here hx rfl (hb hby at_299) rfl rfl ?_
          exact kt
        obtain ⟨cq846, kq846, q846a, q846b, q846c⟩ := isOf hZ e840 f835
        obtain ⟨_, _, ⟨T846, L846, k846, n846⟩, -, X846, ⟨Lc846, hQ846, l846, y846, z846⟩, st846⟩ := X840.virtualBack hx (y := (⟨"tidegate/operator/Crossings", "waiting", "()Z"⟩ : MethodName)) (z := (⟨"tidegate/operator/Crossings", "waiting", "()Z"⟩ : MethodName)) hown (mvT hZ (hw _ (List.mem_of_getElem? (i := 74) rfl))) (mvT hZ (hw _ (List.mem_of_getElem? (i := 75) rfl))) (notFace_of_selects (args := #[]) (mvT hZ (hw _ (List.mem_of_getElem? (i := 77) rfl)))) (mvT hZ (hw _ (List.mem_of_getElem? (i := 77) rfl))) (mvT hZ (hw _ (List.mem_of_getElem? (i := 76) rfl))) (by decide) (backOf (W := 1) (rm_wt1 l Z a0 hw [] b737 b741 b786 h821 n0 z831 F827 f832) hZ (hw _ (List.mem_of_getElem? (i := 78) rfl)) (hw _ (List.mem_of_getElem? (i := 2) rfl)) (by decide) (by decide)) q846a q846c (g := (mkF m 301 #[.val (.long f1), .second, .val (.long f2), .second, .val (.long c1), .second, .val (.long c2), .second, .val (.int fl), .val (.int (3 : Int32)), .val (.int (2 : Int32)), .val (.int (1 : Int32)), .val (.ref b737), .val (.ref b757), .val (.ref b771), .val (.int (1 : Int32)), .val .null, .val (.int (0 : Int32)), .val (.int (0 : Int32)), .val .null, .val .null, .val (.int (0 : Int32))] [(.ref b737), (.int (1 : Int32))])) rfl (by rw [hml]; rfl) (Steps.refl _) (argsL := []) (rest := [(.int (1 : Int32))]) (lenOf pd_3 rfl) rfl (by show 2 * 0 + _ ≤ _; exact Nat.le_of_eq rfl) (hb hby at_301) (fun _ _ => ⟨rfl, e840, (by decide : 28 + 0 ≤ _), (by decide : 49 + 0 ≤ _)⟩)
        dsimp only [Pt.U, Pt.locs, Pt.cells, Pt.slots] at X846 l846 y846 z846 st846 hQ846
        subst l846 y846 z846
        obtain ⟨rfl, N846q, e846⟩ := hQ846
        have N846 := Fr.app N840 N846q
        have S847 : ∀ t, Steps p.tables e below (T846.setTop (mkF m 325 #[.val (.long f1), .second, .val (.long f2), .second, .val (.long c1), .second, .val (.long c2), .second, .val (.int fl), .val (.int (3 : Int32)), .val (.int (2 : Int32)), .val (.int (1 : Int32)), .val (.ref b737), .val (.ref b757), .val (.ref b771), .val (.int (1 : Int32)), .val .null, .val (.int (0 : Int32)), .val (.int (0 : Int32)), .val .null, .val .null, .val (.int (0 : Int32))] [(.int ((1 : Int32) &&& (1 : Int32)))])) t → Steps p.tables e below (T846.setTop (mkF m 304 #[.val (.long f1), .second, .val (.long f2), .second, .val (.long c1), .second, .val (.long c2), .second, .val (.int fl), .val (.int (3 : Int32)), .val (.int (2 : Int32)), .val (.int (1 : Int32)), .val (.ref b737), .val (.ref b757), .val (.ref b771), .val (.int (1 : Int32)), .val .null, .val (.int (0 : Int32)), .val (.int (0 : Int32)), .val .null, .val .null, .val (.int (0 : Int32))] [(.int (1 : Int32)), (.int (1 : Int32))])) t := by
          intro t kt
          show Steps p.tables e below (T846.setTop (mkF m 304 #[.val (.long f1), .second, .val (.long f2), .second, .val (.long c1), .second, .val (.long c2), .second, .val (.int fl), .val (.int (3 : Int32)), .val (.int (2 : Int32)), .val (.int (1 : Int32)), .val (.ref b737), .val (.ref b757), .val (.ref b771), .val (.int (1 : Int32)), .val .null, .val (.int (0 : Int32)), .val (.int (0 : Int32)), .val .null, .val .null, .val (.int (0 : Int32))] [(.int (1 : Int32)), (.int (1 : Int32))])) _
          refine XS.iload X846.here hx rfl (hb hby at_304) rfl ?_
          refine XS.iload X846.here hx rfl (hb hby at_306) rfl ?_
          refine XS.icmpNo X846.here hx rfl (hb hby at_308) rfl (tlt (by decide)).2.1 ?_
          refine XS.iconst X846.here hx rfl (hb hby at_311) ?_
          refine XS.goto X846.here hx rfl (pc0 := 312) (pc' := 316) rfl (hb hby at_312) (by decide) (by decide) ?_
          refine XS.icmpNo X846.here hx rfl (hb hby at_316) rfl (teq rfl).2 ?_
          show Steps p.tables e below (T846.setTop (mkF m 319 #[.val (.long f1), .second, .val (.long f2), .second, .val (.long c1), .second, .val (.long c2), .second, .val (.int fl), .val (.int (3 : Int32)), .val (.int (2 : Int32)), .val (.int (1 : Int32)), .val (.ref b737), .val (.ref b757), .val (.ref b771), .val (.int (1 : Int32)), .val .null, .val (.int (0 : Int32)), .val (.int (0 : Int32)), .val .null, .val .null, .val (.int (0 : Int32))] [(.int (1 : Int32))])) _
          refine XS.iconst X846.here hx rfl (hb hby at_319) ?_
          refine XS.goto X846.here hx rfl (pc0 := 320) (pc' := 324) rfl (hb hby at_320) (by decide) (by decide) ?_
          refine XS.iand X846.here hx rfl (hb hby at_324) rfl ?_
          exact kt
        have S848 : ∀ t, Steps p.tables e below (T846.setTop (mkF m 325 #[.val (.long f1), .second, .val (.long f2), .second, .val (.long c1), .second, .val (.long c2), .second, .val (.int fl), .val (.int (3 : Int32)), .val (.int (2 : Int32)), .val (.int (1 : Int32)), .val (.ref b737), .val (.ref b757), .val (.ref b771), .val (.int (1 : Int32)), .val .null, .val (.int (0 : Int32)), .val (.int (0 : Int32)), .val .null, .val .null, .val (.int (0 : Int32))] [(.int (1 : Int32))])) t → Steps p.tables e below (T846.setTop (mkF m 325 #[.val (.long f1), .second, .val (.long f2), .second, .val (.long c1), .second, .val (.long c2), .second, .val (.int fl), .val (.int (3 : Int32)), .val (.int (2 : Int32)), .val (.int (1 : Int32)), .val (.ref b737), .val (.ref b757), .val (.ref b771), .val (.int (1 : Int32)), .val .null, .val (.int (0 : Int32)), .val (.int (0 : Int32)), .val .null, .val .null, .val (.int (0 : Int32))] [(.int ((1 : Int32) &&& (1 : Int32)))])) t := fun t k => by rw [(show ((1 : Int32) &&& (1 : Int32)) = (1 : Int32) from by decide)]; exact k
        have S849 : ∀ t, Steps p.tables e below (T846.setTop (mkF m 329 #[.val (.long f1), .second, .val (.long f2), .second, .val (.long c1), .second, .val (.long c2), .second, .val (.int fl), .val (.int (3 : Int32)), .val (.int (2 : Int32)), .val (.int (1 : Int32)), .val (.ref b737), .val (.ref b757), .val (.ref b771), .val (.int (1 : Int32)), .val .null, .val (.int (0 : Int32)), .val (.int (0 : Int32)), .val .null, .val .null, .val (.int (0 : Int32))] [(.int (1 : Int32))])) t → Steps p.tables e below (T846.setTop (mkF m 325 #[.val (.long f1), .second, .val (.long f2), .second, .val (.long c1), .second, .val (.long c2), .second, .val (.int fl), .val (.int (3 : Int32)), .val (.int (2 : Int32)), .val (.int (1 : Int32)), .val (.ref b737), .val (.ref b757), .val (.ref b771), .val (.int (1 : Int32)), .val .null, .val (.int (0 : Int32)), .val (.int (0 : Int32)), .val .null, .val .null, .val (.int (0 : Int32))] [(.int (1 : Int32))])) t := by
          intro t kt
          show Steps p.tables e below (T846.setTop (mkF m 325 #[.val (.long f1), .second, .val (.long f2), .second, .val (.long c1), .second, .val (.long c2), .second, .val (.int fl), .val (.int (3 : Int32)), .val (.int (2 : Int32)), .val (.int (1 : Int32)), .val (.ref b737), .val (.ref b757), .val (.ref b771), .val (.int (1 : Int32)), .val .null, .val (.int (0 : Int32)), .val (.int (0 : Int32)), .val .null, .val .null, .val (.int (0 : Int32))] [(.int (1 : Int32))])) _
          refine XS.istore X846.here hx rfl (hb hby at_325) rfl (l' := #[.val (.long f1), .second, .val (.long f2), .second, .val (.long c1), .second, .val (.long c2), .second, .val (.int fl), .val (.int (3 : Int32)), .val (.int (2 : Int32)), .val (.int (1 : Int32)), .val (.ref b737), .val (.ref b757), .val (.ref b771), .val (.int (1 : Int32)), .val .null, .val (.int (0 : Int32)), .val (.int (0 : Int32)), .val .null, .val .null, .val (.int (0 : Int32))]) rfl ?_
          refine XS.iload X846.here hx rfl (hb hby at_327) rfl ?_
          exact kt
        have C850 : ∀ t, Steps p.tables e below (T846.setTop (mkF m 329 #[.val (.long f1), .second, .val (.long f2), .second, .val (.long c1), .second, .val (.long c2), .second, .val (.int fl), .val (.int (3 : Int32)), .val (.int (2 : Int32)), .val (.int (1 : Int32)), .val (.ref b737), .val (.ref b757), .val (.ref b771), .val (.int (1 : Int32)), .val .null, .val (.int (0 : Int32)), .val (.int (0 : Int32)), .val .null, .val .null, .val (.int (0 : Int32))] [(.int (1 : Int32))])) t → Steps p.tables e below (s₁.setTop (mkF m 0 #[.val (.long f1), .second, .val (.long f2), .second, .val (.long c1), .second, .val (.long c2), .second, .val (.int fl), .unset, .unset, .unset, .unset, .unset, .unset, .unset, .unset, .unset, .unset, .unset, .unset, .unset] [])) t := (fun t k => (C330 t (S735 t (S736 t (st737 t (S750 t (st751.trans (S756 t (st757 t (S767 t (st768.trans (S770 t (st771 t (S783 t (st784.trans (S797 t (st798.trans (S809 t (st811.trans (S813 t (S814 t (S820 t (st821.trans (S833 t (st834.trans (S836 t (S837 t (S838 t (st840.trans (S841 t (S842 t (S843 t (S844 t (S845 t (st846.trans (S847 t (S848 t (S849 t k))))))))))))))))))))))))))))))))))))))
        obtain ⟨fs, hr, hrun, hended, hW, hsame⟩ := X846.leave (v := some (.int (1 : Int32))) (fun h => by rw [Bd.returns] at h; cases h)
        refine ⟨_, _, pre0 _ (C850 _ ?_), hrun, hended, _, _, rfl, ?_, ⟨_, rfl⟩, hW, hsame.mono (by decide) (by decide)⟩
        · exact retN X846 hx (t := .boolean) Bd.returns (by simp) (hb hby at_329) hr
        · show Q_rm0 Z f1 f2 c1 c2 fl h0 n0 _ T846.heap _
          rw [e846]
          exact ⟨rfl, N846⟩
      · have f851 := (F799.keep K821q)
        obtain ⟨cq852, kq852, q852a, q852b, q852c⟩ := isOf hZ e834 f835
        obtain ⟨_, _, ⟨T852, L852, k852, n852⟩, -, X852, ⟨Lc852, hQ852, l852, y852, z852⟩, st852⟩ := X834.virtualBack hx (y := (⟨"tidegate/operator/Crossings", "take", "(J)Ltidegate/operator/StageFunctions;"⟩ : MethodName)) (z := (⟨"tidegate/operator/Crossings", "take", "(J)Ltidegate/operator/StageFunctions;"⟩ : MethodName)) hown (mvT hZ (hw _ (List.mem_of_getElem? (i := 68) rfl))) (mvT hZ (hw _ (List.mem_of_getElem? (i := 69) rfl))) (notFace_of_selects (args := #[]) (mvT hZ (hw _ (List.mem_of_getElem? (i := 71) rfl)))) (mvT hZ (hw _ (List.mem_of_getElem? (i := 71) rfl))) (mvT hZ (hw _ (List.mem_of_getElem? (i := 70) rfl))) (by decide) (backOf (W := 0) (rm_tk2r l Z a0 hw [] b737 c2 b741 b786 f1 b757 b815 b815 h821 n0 z831 f835 F827 F826 f832 f851 F829 F830 F828 g_b737 g_b786 ne_b737_b786 ne_b737_b741 ne_b741_b786 ht839) hZ (hw _ (List.mem_of_getElem? (i := 72) rfl)) (hw _ (List.mem_of_getElem? (i := 2) rfl)) (by decide) (by decide)) q852a q852c (g := (mkF m 210 #[.val (.long f1), .second, .val (.long f2), .second, .val (.long c1), .second, .val (.long c2), .second, .val (.int fl), .val (.int (3 : Int32)), .val (.int (2 : Int32)), .val (.int (1 : Int32)), .val (.ref b737), .val (.ref b757), .val (.ref b771), .val (.int (1 : Int32)), .val .null, .val (.int (0 : Int32)), .val (.int (0 : Int32)), .unset, .unset, .unset] [(.long c2), (.ref b737)])) rfl (by rw [hml]; rfl) (Steps.refl _) (argsL := [(.long c2)]) (rest := []) (lenOf pd_2 rfl) rfl (by show 2 * 0 + _ ≤ _; exact Nat.le_of_eq rfl) (hb hby at_210) (fun _ _ => ⟨rfl, e834, (by decide : 28 + 0 ≤ _), (by decide : 49 + 0 ≤ _)⟩)
        dsimp only [Pt.U, Pt.locs, Pt.cells, Pt.slots] at X852 l852 y852 z852 st852 hQ852
        subst l852 y852 z852
        obtain ⟨h852, e852⟩ : ∃ z, T852.heap = z := ⟨_, rfl⟩
        rw [e852] at hQ852
        obtain ⟨rfl, N852q, K852q, F853, F854, F855, F856, F857⟩ := hQ852
        have z858 : n0 ≤ h852.size := Nat.le_trans z831 K852q.1
        have N852 := Fr.app N834 N852q
        have S859 : ∀ t, Steps p.tables e below (T852.setTop (mkF m 280 #[.val (.long f1), .second, .val (.long f2), .second, .val (.long c1), .second, .val (.long c2), .second, .val (.int fl), .val (.int (3 : Int32)), .val (.int (2 : Int32)), .val (.int (1 : Int32)), .val (.ref b737), .val (.ref b757), .val (.ref b771), .val (.int (1 : Int32)), .val .null, .val (.int (0 : Int32)), .val (.int (0 : Int32)), .val (.ref b757), .val (.ref b757), .unset] [(.int ((1 : Int32) &&& (1 : Int32)))])) t → Steps p.tables e below (T852.setTop (mkF m 213 #[.val (.long f1), .second, .val (.long f2), .second, .val (.long c1), .second, .val (.long c2), .second, .val (.int fl), .val (.int (3 : Int32)), .val (.int (2 : Int32)), .val (.int (1 : Int32)), .val (.ref b737), .val (.ref b757), .val (.ref b771), .val (.int (1 : Int32)), .val .null, .val (.int (0 : Int32)), .val (.int (0 : Int32)), .unset, .unset, .unset] [(.ref b757)])) t := by
          intro t kt
          show Steps p.tables e below (T852.setTop (mkF m 213 #[.val (.long f1), .second, .val (.long f2), .second, .val (.long c1), .second, .val (.long c2), .second, .val (.int fl), .val (.int (3 : Int32)), .val (.int (2 : Int32)), .val (.int (1 : Int32)), .val (.ref b737), .val (.ref b757), .val (.ref b771), .val (.int (1 : Int32)), .val .null, .val (.int (0 : Int32)), .val (.int (0 : Int32)), .unset, .unset, .unset] [(.ref b757)])) _
          refine XS.astore X852.here hx rfl (hb hby at_213) rfl rfl (l' := #[.val (.long f1), .second, .val (.long f2), .second, .val (.long c1), .second, .val (.long c2), .second, .val (.int fl), .val (.int (3 : Int32)), .val (.int (2 : Int32)), .val (.int (1 : Int32)), .val (.ref b737), .val (.ref b757), .val (.ref b771), .val (.int (1 : Int32)), .val .null, .val (.int (0 : Int32)), .val (.int (0 : Int32)), .val (.ref b757), .unset, .unset]) rfl ?_
          refine XS.iload X852.here hx rfl (hb hby at_215) rfl ?_
          refine XS.ifYes X852.here hx rfl (pc0 := 217) (pc' := 244) rfl (hb hby at_217) rfl ((if0 _ _).trans (teq rfl).1) (by decide) (by decide) ?_
          refine XS.iload X852.here hx rfl (hb hby at_244) rfl ?_
          refine XS.iconst X852.here hx rfl (hb hby at_246) ?_
          refine XS.icmpNo X852.here hx rfl (hb hby at_247) rfl (flt (by decide)).1 ?_
          show Steps p.tables e below (T852.setTop (mkF m 250 #[.val (.long f1), .second, .val (.long f2), .second, .val (.long c1), .second, .val (.long c2), .second, .val (.int fl), .val (.int (3 : Int32)), .val (.int (2 : Int32)), .val (.int (1 : Int32)), .val (.ref b737), .val (.ref b757), .val (.ref b771), .val (.int (1 : Int32)), .val .null, .val (.int (0 : Int32)), .val (.int (0 : Int32)), .val (.ref b757), .unset, .unset] [])) _
          refine XS.lloadN X852.here hx rfl (hb hby at_250) rfl ?_
          refine XS.lload X852.here hx rfl (hb hby at_251) rfl ?_
          refine XS.lcmp X852.here hx rfl (hb hby at_253) rfl ?_
          refine XS.ifNo X852.here hx rfl (hb hby at_254) rfl ((if0 _ _).trans (flt (fun q => ht839 ((lw_gt f1 c2).mp q))).2.2.1) ?_
          refine XS.aload X852.here hx rfl (hb hby at_257) rfl rfl ?_
          refine XS.goto X852.here hx rfl (pc0 := 259) (pc' := 263) rfl (hb hby at_259) (by decide) (by decide) ?_
          show Steps p.tables e below (T852.setTop (mkF m 263 #[.val (.long f1), .second, .val (.long f2), .second, .val (.long c1), .second, .val (.long c2), .second, .val (.int fl), .val (.int (3 : Int32)), .val (.int (2 : Int32)), .val (.int (1 : Int32)), .val (.ref b737), .val (.ref b757), .val (.ref b771), .val (.int (1 : Int32)), .val .null, .val (.int (0 : Int32)), .val (.int (0 : Int32)), .val (.ref b757), .unset, .unset] [(.ref b757)])) _
          refine XS.astore X852.here hx rfl (hb hby at_263) rfl rfl (l' := #[.val (.long f1), .second, .val (.long f2), .second, .val (.long c1), .second, .val (.long c2), .second, .val (.int fl), .val (.int (3 : Int32)), .val (.int (2 : Int32)), .val (.int (1 : Int32)), .val (.ref b737), .val (.ref b757), .val (.ref b771), .val (.int (1 : Int32)), .val .null, .val (.int (0 : Int32)), .val (.int (0 : Int32)), .val (.ref b757), .val (.ref b757), .unset]) rfl ?_
          refine XS.iload X852.here hx rfl (hb hby at_265) rfl ?_
          refine XS.aload X852.here hx rfl (hb hby at_267) rfl rfl ?_
          refine XS.aload X852.here hx rfl (hb hby at_269) rfl rfl ?_
          refine Jvm.RoadKit.acmp (g := (mkF m 271 #[.val (.long f1), .second, .val (.long f2), .second, .val (.long c1), .second, .val (.long c2), .second, .val (.int fl), .val (.int (3 : Int32)), .val (.int (2 : Int32)), .val (.int (1 : Int32)), .val (.ref b737), .val (.ref b757), .val (.ref b771), .val (.int (1 : Int32)), .val .null, .val (.int (0 : Int32)), .val (.int (0 : Int32)), .val (.ref b757), .val (.ref b757), .unset] [(.ref b757), (.ref b757), (.int (1 : Int32))])) X852 hx rfl rfl rfl (pc0 := 271) (pc' := 274) (same := true) rfl (hb hby at_271) rfl (decide_eq_true rfl) (by decide) (by decide) ?_
          refine XS.iconst X852.here hx rfl (hb hby at_274) ?_
          show Steps p.tables e below (T852.setTop (mkF m 275 #[.val (.long f1), .second, .val (.long f2), .second, .val (.long c1), .second, .val (.long c2), .second, .val (.int fl), .val (.int (3 : Int32)), .val (.int (2 : Int32)), .val (.int (1 : Int32)), .val (.ref b737), .val (.ref b757), .val (.ref b771), .val (.int (1 : Int32)), .val .null, .val (.int (0 : Int32)), .val (.int (0 : Int32)), .val (.ref b757), .val (.ref b757), .unset] [(.int (1 : Int32)), (.int (1 : Int32))])) _
          refine XS.goto X852.here hx rfl (pc0 := 275) (pc' := 279) rfl (hb hby at_275) (by decide) (by decide) ?_
          refine XS.iand X852.here hx rfl (hb hby at_279) rfl ?_
          exact kt
        have S860 : ∀ t, Steps p.tables e below (T852.setTop (mkF m 280 #[.val (.long f1), .second, .val (.long f2), .second, .val (.long c1), .second, .val (.long c2), .second, .val (.int fl), .val (.int (3 : Int32)), .val (.int (2 : Int32)), .val (.int (1 : Int32)), .val (.ref b737), .val (.ref b757), .val (.ref b771), .val (.int (1 : Int32)), .val .null, .val (.int (0 : Int32)), .val (.int (0 : Int32)), .val (.ref b757), .val (.ref b757), .unset] [(.int (1 : Int32))])) t → Steps p.tables e below (T852.setTop (mkF m 280 #[.val (.long f1), .second, .val (.long f2), .second, .val (.long c1), .second, .val (.long c2), .second, .val (.int fl), .val (.int (3 : Int32)), .val (.int (2 : Int32)), .val (.int (1 : Int32)), .val (.ref b737), .val (.ref b757), .val (.ref b771), .val (.int (1 : Int32)), .val .null, .val (.int (0 : Int32)), .val (.int (0 : Int32)), .val (.ref b757), .val (.ref b757), .unset] [(.int ((1 : Int32) &&& (1 : Int32)))])) t := fun t k => by rw [(show ((1 : Int32) &&& (1 : Int32)) = (1 : Int32) from by decide)]; exact k
        have S861 : ∀ t, Steps p.tables e below (T852.setTop (mkF m 295 #[.val (.long f1), .second, .val (.long f2), .second, .val (.long c1), .second, .val (.long c2), .second, .val (.int fl), .val (.int (3 : Int32)), .val (.int (2 : Int32)), .val (.int (1 : Int32)), .val (.ref b737), .val (.ref b757), .val (.ref b771), .val (.int (1 : Int32)), .val .null, .val (.int (0 : Int32)), .val (.int (0 : Int32)), .val (.ref b757), .val (.ref b757), .unset] [(.int ((0 : Int32) + (1 : Int32)))])) t → Steps p.tables e below (T852.setTop (mkF m 280 #[.val (.long f1), .second, .val (.long f2), .second, .val (.long c1), .second, .val (.long c2), .second, .val (.int fl), .val (.int (3 : Int32)), .val (.int (2 : Int32)), .val (.int (1 : Int32)), .val (.ref b737), .val (.ref b757), .val (.ref b771), .val (.int (1 : Int32)), .val .null, .val (.int (0 : Int32)), .val (.int (0 : Int32)), .val (.ref b757), .val (.ref b757), .unset] [(.int (1 : Int32))])) t := by
          intro t kt
          show Steps p.tables e below (T852.setTop (mkF m 280 #[.val (.long f1), .second, .val (.long f2), .second, .val (.long c1), .second, .val (.long c2), .second, .val (.int fl), .val (.int (3 : Int32)), .val (.int (2 : Int32)), .val (.int (1 : Int32)), .val (.ref b737), .val (.ref b757), .val (.ref b771), .val (.int (1 : Int32)), .val .null, .val (.int (0 : Int32)), .val (.int (0 : Int32)), .val (.ref b757), .val (.ref b757), .unset] [(.int (1 : Int32))])) _
          refine XS.istore X852.here hx rfl (hb hby at_280) rfl (l' := #[.val (.long f1), .second, .val (.long f2), .second, .val (.long c1), .second, .val (.long c2), .second, .val (.int fl), .val (.int (3 : Int32)), .val (.int (2 : Int32)), .val (.int (1 : Int32)), .val (.ref b737), .val (.ref b757), .val (.ref b771), .val (.int (1 : Int32)), .val .null, .val (.int (0 : Int32)), .val (.int (0 : Int32)), .val (.ref b757), .val (.ref b757), .unset]) rfl ?_
          refine XS.iload X852.here hx rfl (hb hby at_282) rfl ?_
          refine XS.aload X852.here hx rfl (hb hby at_284) rfl rfl ?_
          refine XS.ifnullNo X852.here hx rfl (hb hby at_286) rfl ?_
          refine XS.iconst X852.here hx rfl (hb hby at_289) ?_
          refine XS.goto X852.here hx rfl (pc0 := 290) (pc' := 294) rfl (hb hby at_290) (by decide) (by decide) ?_
          show Steps p.tables e below (T852.setTop (mkF m 294 #[.val (.long f1), .second, .val (.long f2), .second, .val (.long c1), .second, .val (.long c2), .second, .val (.int fl), .val (.int (3 : Int32)), .val (.int (2 : Int32)), .val (.int (1 : Int32)), .val (.ref b737), .val (.ref b757), .val (.ref b771), .val (.int (1 : Int32)), .val .null, .val (.int (0 : Int32)), .val (.int (0 : Int32)), .val (.ref b757), .val (.ref b757), .unset] [(.int (1 : Int32)), (.int (0 : Int32))])) _
          refine XS.iadd X852.here hx rfl (hb hby at_294) rfl ?_
          exact kt
        have S862 : ∀ t, Steps p.tables e below (T852.setTop (mkF m 295 #[.val (.long f1), .second, .val (.long f2), .second, .val (.long c1), .second, .val (.long c2), .second, .val (.int fl), .val (.int (3 : Int32)), .val (.int (2 : Int32)), .val (.int (1 : Int32)), .val (.ref b737), .val (.ref b757), .val (.ref b771), .val (.int (1 : Int32)), .val .null, .val (.int (0 : Int32)), .val (.int (0 : Int32)), .val (.ref b757), .val (.ref b757), .unset] [(.int (1 : Int32))])) t → Steps p.tables e below (T852.setTop (mkF m 295 #[.val (.long f1), .second, .val (.long f2), .second, .val (.long c1), .second, .val (.long c2), .second, .val (.int fl), .val (.int (3 : Int32)), .val (.int (2 : Int32)), .val (.int (1 : Int32)), .val (.ref b737), .val (.ref b757), .val (.ref b771), .val (.int (1 : Int32)), .val .null, .val (.int (0 : Int32)), .val (.int (0 : Int32)), .val (.ref b757), .val (.ref b757), .unset] [(.int ((0 : Int32) + (1 : Int32)))])) t := fun t k => by rw [(show ((0 : Int32) + (1 : Int32)) = (1 : Int32) from by decide)]; exact k
        have S863 : ∀ t, Steps p.tables e below (T852.setTop (mkF m 301 #[.val (.long f1), .second, .val (.long f2), .second, .val (.long c1), .second, .val (.long c2), .second, .val (.int fl), .val (.int (3 : Int32)), .val (.int (2 : Int32)), .val (.int (1 : Int32)), .val (.ref b737), .val (.ref b757), .val (.ref b771), .val (.int (1 : Int32)), .val .null, .val (.int (0 : Int32)), .val (.int (0 : Int32)), .val (.ref b757), .val (.ref b757), .val (.int (1 : Int32))] [(.ref b737), (.int (1 : Int32))])) t → Steps p.tables e below (T852.setTop (mkF m 295 #[.val (.long f1), .second, .val (.long f2), .second, .val (.long c1), .second, .val (.long c2), .second, .val (.int fl), .val (.int (3 : Int32)), .val (.int (2 : Int32)), .val (.int (1 : Int32)), .val (.ref b737), .val (.ref b757), .val (.ref b771), .val (.int (1 : Int32)), .val .null, .val (.int (0 : Int32)), .val (.int (0 : Int32)), .val (.ref b757), .val (.ref b757), .unset] [(.int (1 : Int32))])) t := by
          intro t kt
          show Steps p.tables e below (T852.setTop (mkF m 295 #[.val (.long f1), .second, .val (.long f2), .second, .val (.long c1), .second, .val (.long c2), .second, .val (.int fl), .val (.int (3 : Int32)), .val (.int (2 : Int32)), .val (.int (1 : Int32)), .val (.ref b737), .val (.ref b757), .val (.ref b771), .val (.int (1 : Int32)), .val .null, .val (.int (0 : Int32)), .val (.int (0 : Int32)), .val (.ref b757), .val (.ref b757), .unset] [(.int (1 : Int32))])) _
          refine XS.istore X852.here hx rfl (hb hby at_295) rfl (l' := #[.val (.long f1), .second, .val (.long f2), .second, .val (.long c1), .second, .val (.long c2), .second, .val (.int fl), .val (.int (3 : Int32)), .val (.int (2 : Int32)), .val (.int (1 : Int32)), .val (.ref b737), .val (.ref b757), .val (.ref b771), .val (.int (1 : Int32)), .val .null, .val (.int (0 : Int32)), .val (.int (0 : Int32)), .val (.ref b757), .val (.ref b757), .val (.int (1 : Int32))]) rfl ?_
          refine XS.iload X852.here hx rfl (hb hby at_297) rfl ?_
          refine XS.aload X852.here hx rfl (hb hby at_299) rfl rfl ?_
          exact kt
        have f865 := (f835.keep K852q)
        obtain ⟨cq864, kq864, q864a, q864b, q864c⟩ := isOf hZ e852 f865
        obtain ⟨_, _, ⟨T864, L864, k864, n864⟩, -, X864, ⟨Lc864, hQ864, l864, y864, z864⟩, st864⟩ := X852.virtualBack hx (y := (⟨"tidegate/operator/Crossings", "waiting", "()Z"⟩ : MethodName)) (z := (⟨"tidegate/operator/Crossings", "waiting", "()Z"⟩ : MethodName)) hown (mvT hZ (hw _ (List.mem_of_getElem? (i := 74) rfl))) (mvT hZ (hw _ (List.mem_of_getElem? (i := 75) rfl))) (notFace_of_selects (args := #[]) (mvT hZ (hw _ (List.mem_of_getElem? (i := 77) rfl)))) (mvT hZ (hw _ (List.mem_of_getElem? (i := 77) rfl))) (mvT hZ (hw _ (List.mem_of_getElem? (i := 76) rfl))) (by decide) (backOf (W := 1) (rm_wt1 l Z a0 hw [] b737 b786 b815 h852 n0 z858 F853 F855) hZ (hw _ (List.mem_of_getElem? (i := 78) rfl)) (hw _ (List.mem_of_getElem? (i := 2) rfl)) (by decide) (by decide)) q864a q864c (g := (mkF m 301 #[.val (.long f1), .second, .val (.long f2), .second, .val (.long c1), .second, .val (.long c2), .second, .val (.int fl), .val (.int (3 : Int32)), .val (.int (2 : Int32)), .val (.int (1 : Int32)), .val (.ref b737), .val (.ref b757), .val (.ref b771), .val (.int (1 : Int32)), .val .null, .val (.int (0 : Int32)), .val (.int (0 : Int32)), .val (.ref b757), .val (.ref b757), .val (.int (1 : Int32))] [(.ref b737), (.int (1 : Int32))])) rfl (by rw [hml]; rfl) (Steps.refl _) (argsL := []) (rest := [(.int (1 : Int32))]) (lenOf pd_3 rfl) rfl (by show 2 * 0 + _ ≤ _; exact Nat.le_of_eq rfl) (hb hby at_301) (fun _ _ => ⟨rfl, e852, (by decide : 28 + 0 ≤ _), (by decide : 49 + 0 ≤ _)⟩)
        dsimp only [Pt.U, Pt.locs, Pt.cells, Pt.slots] at X864 l864 y864 z864 st864 hQ864
        subst l864 y864 z864
        obtain ⟨rfl, N864q, e864⟩ := hQ864
        have N864 := Fr.app N852 N864q
        have S866 : ∀ t, Steps p.tables e below (T864.setTop (mkF m 325 #[.val (.long f1), .second, .val (.long f2), .second, .val (.long c1), .second, .val (.long c2), .second, .val (.int fl), .val (.int (3 : Int32)), .val (.int (2 : Int32)), .val (.int (1 : Int32)), .val (.ref b737), .val (.ref b757), .val (.ref b771), .val (.int (1 : Int32)), .val .null, .val (.int (0 : Int32)), .val (.int (0 : Int32)), .val (.ref b757), .val (.ref b757), .val (.int (1 : Int32))] [(.int ((1 : Int32) &&& (1 : Int32)))])) t → Steps p.tables e below (T864.setTop (mkF m 304 #[.val (.long f1), .second, .val (.long f2), .second, .val (.long c1), .second, .val (.long c2), .second, .val (.int fl), .val (.int (3 : Int32)), .val (.int (2 : Int32)), .val (.int (1 : Int32)), .val (.ref b737), .val (.ref b757), .val (.ref b771), .val (.int (1 : Int32)), .val .null, .val (.int (0 : Int32)), .val (.int (0 : Int32)), .val (.ref b757), .val (.ref b757), .val (.int (1 : Int32))] [(.int (1 : Int32)), (.int (1 : Int32))])) t := by
          intro t kt
          show Steps p.tables e below (T864.setTop (mkF m 304 #[.val (.long f1), .second, .val (.long f2), .second, .val (.long c1), .second, .val (.long c2), .second, .val (.int fl), .val (.int (3 : Int32)), .val (.int (2 : Int32)), .val (.int (1 : Int32)), .val (.ref b737), .val (.ref b757), .val (.ref b771), .val (.int (1 : Int32)), .val .null, .val (.int (0 : Int32)), .val (.int (0 : Int32)), .val (.ref b757), .val (.ref b757), .val (.int (1 : Int32))] [(.int (1 : Int32)), (.int (1 : Int32))])) _
          refine XS.iload X864.here hx rfl (hb hby at_304) rfl ?_
          refine XS.iload X864.here hx rfl (hb hby at_306) rfl ?_
          refine XS.icmpNo X864.here hx rfl (hb hby at_308) rfl (tlt (by decide)).2.1 ?_
          refine XS.iconst X864.here hx rfl (hb hby at_311) ?_
          refine XS.goto X864.here hx rfl (pc0 := 312) (pc' := 316) rfl (hb hby at_312) (by decide) (by decide) ?_
          refine XS.icmpNo X864.here hx rfl (hb hby at_316) rfl (teq rfl).2 ?_
          show Steps p.tables e below (T864.setTop (mkF m 319 #[.val (.long f1), .second, .val (.long f2), .second, .val (.long c1), .second, .val (.long c2), .second, .val (.int fl), .val (.int (3 : Int32)), .val (.int (2 : Int32)), .val (.int (1 : Int32)), .val (.ref b737), .val (.ref b757), .val (.ref b771), .val (.int (1 : Int32)), .val .null, .val (.int (0 : Int32)), .val (.int (0 : Int32)), .val (.ref b757), .val (.ref b757), .val (.int (1 : Int32))] [(.int (1 : Int32))])) _
          refine XS.iconst X864.here hx rfl (hb hby at_319) ?_
          refine XS.goto X864.here hx rfl (pc0 := 320) (pc' := 324) rfl (hb hby at_320) (by decide) (by decide) ?_
          refine XS.iand X864.here hx rfl (hb hby at_324) rfl ?_
          exact kt
        have S867 : ∀ t, Steps p.tables e below (T864.setTop (mkF m 325 #[.val (.long f1), .second, .val (.long f2), .second, .val (.long c1), .second, .val (.long c2), .second, .val (.int fl), .val (.int (3 : Int32)), .val (.int (2 : Int32)), .val (.int (1 : Int32)), .val (.ref b737), .val (.ref b757), .val (.ref b771), .val (.int (1 : Int32)), .val .null, .val (.int (0 : Int32)), .val (.int (0 : Int32)), .val (.ref b757), .val (.ref b757), .val (.int (1 : Int32))] [(.int (1 : Int32))])) t → Steps p.tables e below (T864.setTop (mkF m 325 #[.val (.long f1), .second, .val (.long f2), .second, .val (.long c1), .second, .val (.long c2), .second, .val (.int fl), .val (.int (3 : Int32)), .val (.int (2 : Int32)), .val (.int (1 : Int32)), .val (.ref b737), .val (.ref b757), .val (.ref b771), .val (.int (1 : Int32)), .val .null, .val (.int (0 : Int32)), .val (.int (0 : Int32)), .val (.ref b757), .val (.ref b757), .val (.int (1 : Int32))] [(.int ((1 : Int32) &&& (1 : Int32)))])) t := fun t k => by rw [(show ((1 : Int32) &&& (1 : Int32)) = (1 : Int32) from by decide)]; exact k
        have S868 : ∀ t, Steps p.tables e below (T864.setTop (mkF m 329 #[.val (.long f1), .second, .val (.long f2), .second, .val (.long c1), .second, .val (.long c2), .second, .val (.int fl), .val (.int (3 : Int32)), .val (.int (2 : Int32)), .val (.int (1 : Int32)), .val (.ref b737), .val (.ref b757), .val (.ref b771), .val (.int (1 : Int32)), .val .null, .val (.int (0 : Int32)), .val (.int (0 : Int32)), .val (.ref b757), .val (.ref b757), .val (.int (1 : Int32))] [(.int (1 : Int32))])) t → Steps p.tables e below (T864.setTop (mkF m 325 #[.val (.long f1), .second, .val (.long f2), .second, .val (.long c1), .second, .val (.long c2), .second, .val (.int fl), .val (.int (3 : Int32)), .val (.int (2 : Int32)), .val (.int (1 : Int32)), .val (.ref b737), .val (.ref b757), .val (.ref b771), .val (.int (1 : Int32)), .val .null, .val (.int (0 : Int32)), .val (.int (0 : Int32)), .val (.ref b757), .val (.ref b757), .val (.int (1 : Int32))] [(.int (1 : Int32))])) t := by
          intro t kt
          show Steps p.tables e below (T864.setTop (mkF m 325 #[.val (.long f1), .second, .val (.long f2), .second, .val (.long c1), .second, .val (.long c2), .second, .val (.int fl), .val (.int (3 : Int32)), .val (.int (2 : Int32)), .val (.int (1 : Int32)), .val (.ref b737), .val (.ref b757), .val (.ref b771), .val (.int (1 : Int32)), .val .null, .val (.int (0 : Int32)), .val (.int (0 : Int32)), .val (.ref b757), .val (.ref b757), .val (.int (1 : Int32))] [(.int (1 : Int32))])) _
          refine XS.istore X864.here hx rfl (hb hby at_325) rfl (l' := #[.val (.long f1), .second, .val (.long f2), .second, .val (.long c1), .second, .val (.long c2), .second, .val (.int fl), .val (.int (3 : Int32)), .val (.int (2 : Int32)), .val (.int (1 : Int32)), .val (.ref b737), .val (.ref b757), .val (.ref b771), .val (.int (1 : Int32)), .val .null, .val (.int (0 : Int32)), .val (.int (0 : Int32)), .val (.ref b757), .val (.ref b757), .val (.int (1 : Int32))]) rfl ?_
          refine XS.iload X864.here hx rfl (hb hby at_327) rfl ?_
          exact kt
        have C869 : ∀ t, Steps p.tables e below (T864.setTop (mkF m 329 #[.val (.long f1), .second, .val (.long f2), .second, .val (.long c1), .second, .val (.long c2), .second, .val (.int fl), .val (.int (3 : Int32)), .val (.int (2 : Int32)), .val (.int (1 : Int32)), .val (.ref b737), .val (.ref b757), .val (.ref b771), .val (.int (1 : Int32)), .val .null, .val (.int (0 : Int32)), .val (.int (0 : Int32)), .val (.ref b757), .val (.ref b757), .val (.int (1 : Int32))] [(.int (1 : Int32))])) t → Steps p.tables e below (s₁.setTop (mkF m 0 #[.val (.long f1), .second, .val (.long f2), .second, .val (.long c1), .second, .val (.long c2), .second, .val (.int fl), .unset, .unset, .unset, .unset, .unset, .unset, .unset, .unset, .unset, .unset, .unset, .unset, .unset] [])) t := (fun t k => (C330 t (S735 t (S736 t (st737 t (S750 t (st751.trans (S756 t (st757 t (S767 t (st768.trans (S770 t (st771 t (S783 t (st784.trans (S797 t (st798.trans (S809 t (st811.trans (S813 t (S814 t (S820 t (st821.trans (S833 t (st834.trans (S836 t (S837 t (S838 t (st852.trans (S859 t (S860 t (S861 t (S862 t (S863 t (st864.trans (S866 t (S867 t (S868 t k))))))))))))))))))))))))))))))))))))))
        obtain ⟨fs, hr, hrun, hended, hW, hsame⟩ := X864.leave (v := some (.int (1 : Int32))) (fun h => by rw [Bd.returns] at h; cases h)
        refine ⟨_, _, pre0 _ (C869 _ ?_), hrun, hended, _, _, rfl, ?_, ⟨_, rfl⟩, hW, hsame.mono (by decide) (by decide)⟩
        · exact retN X864 hx (t := .boolean) Bd.returns (by simp) (hb hby at_329) hr
        · show Q_rm0 Z f1 f2 c1 c2 fl h0 n0 _ T864.heap _
          rw [e864]
          exact ⟨rfl, N864⟩
    · have f870 := (f788.keep K798q)
      obtain ⟨cq871, kq871, q871a, q871b, q871c⟩ := isOf hZ e798 f870
      obtain ⟨_, _, ⟨T871, L871, k871, n871⟩, -, X871, ⟨Lc871, hQ871, l871, y871, z871⟩, st871⟩ := X798.virtualBack hx (y := (⟨"tidegate/operator/Crossings", "take", "(J)Ltidegate/operator/StageFunctions;"⟩ : MethodName)) (z := (⟨"tidegate/operator/Crossings", "take", "(J)Ltidegate/operator/StageFunctions;"⟩ : MethodName)) hown (mvT hZ (hw _ (List.mem_of_getElem? (i := 68) rfl))) (mvT hZ (hw _ (List.mem_of_getElem? (i := 69) rfl))) (notFace_of_selects (args := #[]) (mvT hZ (hw _ (List.mem_of_getElem? (i := 71) rfl)))) (mvT hZ (hw _ (List.mem_of_getElem? (i := 71) rfl))) (mvT hZ (hw _ (List.mem_of_getElem? (i := 70) rfl))) (by decide) (backOf (W := 0) (rm_tk2n l Z a0 hw [] b737 c1 b741 b786 f1 b757 b786 h798 n0 z808 f870 F804 F803 F805 F799 F800 F801 F802 g_b737 g_b786 ne_b737_b786 ne_b737_b741 ne_b741_b786 ht810) hZ (hw _ (List.mem_of_getElem? (i := 72) rfl)) (hw _ (List.mem_of_getElem? (i := 2) rfl)) (by decide) (by decide)) q871a q871c (g := (mkF m 100 #[.val (.long f1), .second, .val (.long f2), .second, .val (.long c1), .second, .val (.long c2), .second, .val (.int fl), .val (.int (3 : Int32)), .val (.int (2 : Int32)), .val (.int (1 : Int32)), .val (.ref b737), .val (.ref b757), .val (.ref b771), .val (.int (1 : Int32)), .unset, .unset, .unset, .unset, .unset, .unset] [(.long c1), (.ref b737)])) rfl (by rw [hml]; rfl) (Steps.refl _) (argsL := [(.long c1)]) (rest := []) (lenOf pd_2 rfl) rfl (by show 2 * 0 + _ ≤ _; exact Nat.le_of_eq rfl) (hb hby at_100) (fun _ _ => ⟨rfl, e798, (by decide : 27 + 0 ≤ _), (by decide : 46 + 0 ≤ _)⟩)
      dsimp only [Pt.U, Pt.locs, Pt.cells, Pt.slots] at X871 l871 y871 z871 st871 hQ871
      subst l871 y871 z871
      obtain ⟨h871, e871⟩ : ∃ z, T871.heap = z := ⟨_, rfl⟩
      rw [e871] at hQ871
      obtain ⟨rfl, N871q, K871q, F872, F873, F874, F875, F876⟩ := hQ871
      have z877 : n0 ≤ h871.size := Nat.le_trans z808 K871q.1
      have N871 := Fr.app N798 N871q
      have S878 : ∀ t, Steps p.tables e below (T871.setTop (mkF m 149 #[.val (.long f1), .second, .val (.long f2), .second, .val (.long c1), .second, .val (.long c2), .second, .val (.int fl), .val (.int (3 : Int32)), .val (.int (2 : Int32)), .val (.int (1 : Int32)), .val (.ref b737), .val (.ref b757), .val (.ref b771), .val (.int (1 : Int32)), .val (.ref b757), .val (.int (1 : Int32)), .unset, .unset, .unset, .unset] [(.int ((1 : Int32) &&& (1 : Int32)))])) t → Steps p.tables e below (T871.setTop (mkF m 103 #[.val (.long f1), .second, .val (.long f2), .second, .val (.long c1), .second, .val (.long c2), .second, .val (.int fl), .val (.int (3 : Int32)), .val (.int (2 : Int32)), .val (.int (1 : Int32)), .val (.ref b737), .val (.ref b757), .val (.ref b771), .val (.int (1 : Int32)), .unset, .unset, .unset, .unset, .unset, .unset] [(.ref b757)])) t := by
        intro t kt
        show Steps p.tables e below (T871.setTop (mkF m 103 #[.val (.long f1), .second, .val (.long f2), .second, .val (.long c1), .second, .val (.long c2), .second, .val (.int fl), .val (.int (3 : Int32)), .val (.int (2 : Int32)), .val (.int (1 : Int32)), .val (.ref b737), .val (.ref b757), .val (.ref b771), .val (.int (1 : Int32)), .unset, .unset, .unset, .unset, .unset, .unset] [(.ref b757)])) _
        refine XS.astore X871.here hx rfl (hb hby at_103) rfl rfl (l' := #[.val (.long f1), .second, .val (.long f2), .second, .val (.long c1), .second, .val (.long c2), .second, .val (.int fl), .val (.int (3 : Int32)), .val (.int (2 : Int32)), .val (.int (1 : Int32)), .val (.ref b737), .val (.ref b757), .val (.ref b771), .val (.int (1 : Int32)), .val (.ref b757), .unset, .unset, .unset, .unset, .unset]) rfl ?_
        refine XS.iload X871.here hx rfl (hb hby at_105) rfl ?_
        refine XS.iconst X871.here hx rfl (hb hby at_107) ?_
        refine XS.icmpNo X871.here hx rfl (hb hby at_108) rfl (flt (by decide)).1 ?_
        refine XS.lloadN X871.here hx rfl (hb hby at_111) rfl ?_
        refine XS.lload X871.here hx rfl (hb hby at_112) rfl ?_
        show Steps p.tables e below (T871.setTop (mkF m 114 #[.val (.long f1), .second, .val (.long f2), .second, .val (.long c1), .second, .val (.long c2), .second, .val (.int fl), .val (.int (3 : Int32)), .val (.int (2 : Int32)), .val (.int (1 : Int32)), .val (.ref b737), .val (.ref b757), .val (.ref b771), .val (.int (1 : Int32)), .val (.ref b757), .unset, .unset, .unset, .unset, .unset] [(.long c1), (.long f1)])) _
        refine XS.lcmp X871.here hx rfl (hb hby at_114) rfl ?_
        refine XS.ifNo X871.here hx rfl (hb hby at_115) rfl ((if0 _ _).trans (flt (fun q => ht810 ((lw_gt f1 c1).mp q))).2.2.1) ?_
        refine XS.iconst X871.here hx rfl (hb hby at_118) ?_
        refine XS.goto X871.here hx rfl (pc0 := 119) (pc' := 123) rfl (hb hby at_119) (by decide) (by decide) ?_
        refine XS.istore X871.here hx rfl (hb hby at_123) rfl (l' := #[.val (.long f1), .second, .val (.long f2), .second, .val (.long c1), .second, .val (.long c2), .second, .val (.int fl), .val (.int (3 : Int32)), .val (.int (2 : Int32)), .val (.int (1 : Int32)), .val (.ref b737), .val (.ref b757), .val (.ref b771), .val (.int (1 : Int32)), .val (.ref b757), .val (.int (1 : Int32)), .unset, .unset, .unset, .unset]) rfl ?_
        refine XS.iload X871.here hx rfl (hb hby at_125) rfl ?_
        show Steps p.tables e below (T871.setTop (mkF m 127 #[.val (.long f1), .second, .val (.long f2), .second, .val (.long c1), .second, .val (.long c2), .second, .val (.int fl), .val (.int (3 : Int32)), .val (.int (2 : Int32)), .val (.int (1 : Int32)), .val (.ref b737), .val (.ref b757), .val (.ref b771), .val (.int (1 : Int32)), .val (.ref b757), .val (.int (1 : Int32)), .unset, .unset, .unset, .unset] [(.int (1 : Int32))])) _
        refine XS.aload X871.here hx rfl (hb hby at_127) rfl rfl ?_
        refine XS.iload X871.here hx rfl (hb hby at_129) rfl ?_
        refine XS.ifNo X871.here hx rfl (hb hby at_131) rfl ((if0 _ _).trans (feq (by decide)).1) ?_
        refine XS.aload X871.here hx rfl (hb hby at_134) rfl rfl ?_
        refine XS.goto X871.here hx rfl (pc0 := 136) (pc' := 140) rfl (hb hby at_136) (by decide) (by decide) ?_
        refine Jvm.RoadKit.acmp (g := (mkF m 140 #[.val (.long f1), .second, .val (.long f2), .second, .val (.long c1), .second, .val (.long c2), .second, .val (.int fl), .val (.int (3 : Int32)), .val (.int (2 : Int32)), .val (.int (1 : Int32)), .val (.ref b737), .val (.ref b757), .val (.ref b771), .val (.int (1 : Int32)), .val (.ref b757), .val (.int (1 : Int32)), .unset, .unset, .unset, .unset] [(.ref b757), (.ref b757), (.int (1 : Int32))])) X871 hx rfl rfl rfl (pc0 := 140) (pc' := 143) (same := true) rfl (hb hby at_140) rfl (decide_eq_true rfl) (by decide) (by decide) ?_
        show Steps p.tables e below (T871.setTop (mkF m 143 #[.val (.long f1), .second, .val (.long f2), .second, .val (.long c1), .second, .val (.long c2), .second, .val (.int fl), .val (.int (3 : Int32)), .val (.int (2 : Int32)), .val (.int (1 : Int32)), .val (.ref b737), .val (.ref b757), .val (.ref b771), .val (.int (1 : Int32)), .val (.ref b757), .val (.int (1 : Int32)), .unset, .unset, .unset, .unset] [(.int (1 : Int32))])) _
        refine XS.iconst X871.here hx rfl (hb hby at_143) ?_
        refine XS.goto X871.here hx rfl (pc0 := 144) (pc' := 148) rfl (hb hby at_144) (by decide) (by decide) ?_
        refine XS.iand X871.here hx rfl (hb hby at_148) rfl ?_
        exact kt
      have S879 : ∀ t, Steps p.tables e below (T871.setTop (mkF m 149 #[.val (.long f1), .second, .val (.long f2), .second, .val (.long c1), .second, .val (.long c2), .second, .val (.int fl), .val (.int (3 : Int32)), .val (.int (2 : Int32)), .val (.int (1 : Int32)), .val (.ref b737), .val (.ref b757), .val (.ref b771), .val (.int (1 : Int32)), .val (.ref b757), .val (.int (1 : Int32)), .unset, .unset, .unset, .unset] [(.int (1 : Int32))])) t → Steps p.tables e below (T871.setTop (mkF m 149 #[.val (.long f1), .second, .val (.long f2), .second, .val (.long c1), .second, .val (.long c2), .second, .val (.int fl), .val (.int (3 : Int32)), .val (.int (2 : Int32)), .val (.int (1 : Int32)), .val (.ref b737), .val (.ref b757), .val (.ref b771), .val (.int (1 : Int32)), .val (.ref b757), .val (.int (1 : Int32)), .unset, .unset, .unset, .unset] [(.int ((1 : Int32) &&& (1 : Int32)))])) t := fun t k => by rw [(show ((1 : Int32) &&& (1 : Int32)) = (1 : Int32) from by decide)]; exact k
      have f882 := (f870.keep K871q)
      have f883 := ((f789.keep K798q).keep K871q)
      have f884 := ((f790.keep K798q).keep K871q)
      have f885 := ((f791.keep K798q).keep K871q)
      have f886 := (F799.keep K871q)
      have S887 : ∀ t, Steps p.tables e below (T871.setTop (mkF m 161 #[.val (.long f1), .second, .val (.long f2), .second, .val (.long c1), .second, .val (.long c2), .second, .val (.int fl), .val (.int (3 : Int32)), .val (.int (2 : Int32)), .val (.int (1 : Int32)), .val (.ref b737), .val (.ref b757), .val (.ref b771), .val (.int (1 : Int32)), .val (.ref b757), .val (.int (1 : Int32)), .unset, .unset, .unset, .unset] [(.ref b771), (.long f2), (.ref b737)])) t → Steps p.tables e below (T871.setTop (mkF m 149 #[.val (.long f1), .second, .val (.long f2), .second, .val (.long c1), .second, .val (.long c2), .second, .val (.int fl), .val (.int (3 : Int32)), .val (.int (2 : Int32)), .val (.int (1 : Int32)), .val (.ref b737), .val (.ref b757), .val (.ref b771), .val (.int (1 : Int32)), .val (.ref b757), .val (.int (1 : Int32)), .unset, .unset, .unset, .unset] [(.int (1 : Int32))])) t := by
        intro t kt
        show Steps p.tables e below (T871.setTop (mkF m 149 #[.val (.long f1), .second, .val (.long f2), .second, .val (.long c1), .second, .val (.long c2), .second, .val (.int fl), .val (.int (3 : Int32)), .val (.int (2 : Int32)), .val (.int (1 : Int32)), .val (.ref b737), .val (.ref b757), .val (.ref b771), .val (.int (1 : Int32)), .val (.ref b757), .val (.int (1 : Int32)), .unset, .unset, .unset, .unset] [(.int (1 : Int32))])) _
        refine XS.istore X871.here hx rfl (hb hby at_149) rfl (l' := #[.val (.long f1), .second, .val (.long f2), .second, .val (.long c1), .second, .val (.long c2), .second, .val (.int fl), .val (.int (3 : Int32)), .val (.int (2 : Int32)), .val (.int (1 : Int32)), .val (.ref b737), .val (.ref b757), .val (.ref b771), .val (.int (1 : Int32)), .val (.ref b757), .val (.int (1 : Int32)), .unset, .unset, .unset, .unset]) rfl ?_
        refine XS.iload X871.here hx rfl (hb hby at_151) rfl ?_
        refine XS.ifNo X871.here hx rfl (hb hby at_153) rfl ((if0 _ _).trans (feq (by decide)).1) ?_
        refine XS.aload X871.here hx rfl (hb hby at_156) rfl rfl ?_
        refine XS.lloadN X871.here hx rfl (hb hby at_158) rfl ?_
        refine XS.aload X871.here hx rfl (hb hby at_159) rfl rfl ?_
        exact kt
      obtain ⟨cq888, kq888, q888a, q888b, q888c⟩ := isOf hZ e871 f882
      obtain ⟨_, _, ⟨T888, L888, k888, n888⟩, -, X888, ⟨Lc888, hQ888, l888, y888, z888⟩, st888⟩ := X871.virtualBack hx (y := (⟨"tidegate/operator/Crossings", "add", "(JLtidegate/operator/StageFunctions;)V"⟩ : MethodName)) (z := (⟨"tidegate/operator/Crossings", "add", "(JLtidegate/operator/StageFunctions;)V"⟩ : MethodName)) hown (mvT hZ (hw _ (List.mem_of_getElem? (i := 61) rfl))) (mvT hZ (hw _ (List.mem_of_getElem? (i := 62) rfl))) (notFace_of_selects (args := #[]) (mvT hZ (hw _ (List.mem_of_getElem? (i := 64) rfl)))) (mvT hZ (hw _ (List.mem_of_getElem? (i := 64) rfl))) (mvT hZ (hw _ (List.mem_of_getElem? (i := 63) rfl))) (by decide) (backOf (W := 0) (rm6 l Z a0 hw [] b737 f2 b771 b786 b786 f1 .null h871 n0 z877 f882 F873 F872 f886 F874 F875 F876 g_b737 g_b786 ne_b737_b786) hZ (hw _ (List.mem_of_getElem? (i := 65) rfl)) (hw _ (List.mem_of_getElem? (i := 2) rfl)) (by decide) (by decide)) q888a q888c (g := (mkF m 161 #[.val (.long f1), .second, .val (.long f2), .second, .val (.long c1), .second, .val (.long c2), .second, .val (.int fl), .val (.int (3 : Int32)), .val (.int (2 : Int32)), .val (.int (1 : Int32)), .val (.ref b737), .val (.ref b757), .val (.ref b771), .val (.int (1 : Int32)), .val (.ref b757), .val (.int (1 : Int32)), .unset, .unset, .unset, .unset] [(.ref b771), (.long f2), (.ref b737)])) rfl (by rw [hml]; rfl) (Steps.refl _) (argsL := [(.long f2), (.ref b771)]) (rest := []) (lenOf pd_0 rfl) rfl (by show 2 * 0 + _ ≤ _; exact Nat.le_of_eq rfl) (hb hby at_161) (fun _ _ => ⟨rfl, e871, (by decide : 27 + 1 ≤ _), (by decide : 46 + 3 ≤ _)⟩)
      dsimp only [Pt.U, Pt.locs, Pt.cells, Pt.slots] at X888 l888 y888 z888 st888 hQ888
      subst l888 y888 z888
      obtain ⟨h888, e888⟩ : ∃ z, T888.heap = z := ⟨_, rfl⟩
      rw [e888] at hQ888
      obtain ⟨b880, rfl, N888q, K888q, hge881, F889, F890, F891, F892, F893, F894, F895, F896, F897⟩ := hQ888
      have z898 : n0 ≤ h888.size := Nat.le_trans z877 K888q.1
      have N888 := Fr.app N871 N888q
      have g_b880 : n0 ≤ b880 := Nat.le_trans z877 hge881
      have ne_b737_b880 : b737 ≠ b880 := Nat.ne_of_lt (Nat.lt_of_lt_of_le f882.lt hge881)
      have ne_b741_b880 : b741 ≠ b880 := Nat.ne_of_lt (Nat.lt_of_lt_of_le f883.lt hge881)
      have ne_b757_b880 : b757 ≠ b880 := Nat.ne_of_lt (Nat.lt_of_lt_of_le f884.lt hge881)
      have ne_b771_b880 : b771 ≠ b880 := Nat.ne_of_lt (Nat.lt_of_lt_of_le f885.lt hge881)
      have ne_b786_b880 : b786 ≠ b880 := Nat.ne_of_lt (Nat.lt_of_lt_of_le f886.lt hge881)
      have S899 : ∀ t, Steps p.tables e below (T888.setTop (mkF m 180 #[.val (.long f1), .second, .val (.long f2), .second, .val (.long c1), .second, .val (.long c2), .second, .val (.int fl), .val (.int (3 : Int32)), .val (.int (2 : Int32)), .val (.int (1 : Int32)), .val (.ref b737), .val (.ref b757), .val (.ref b771), .val (.int (1 : Int32)), .val (.ref b757), .val (.int (1 : Int32)), .val (.int (1 : Int32)), .unset, .unset, .unset] [(.ref b737), (.int (1 : Int32))])) t → Steps p.tables e below (T888.setTop (mkF m 164 #[.val (.long f1), .second, .val (.long f2), .second, .val (.long c1), .second, .val (.long c2), .second, .val (.int fl), .val (.int (3 : Int32)), .val (.int (2 : Int32)), .val (.int (1 : Int32)), .val (.ref b737), .val (.ref b757), .val (.ref b771), .val (.int (1 : Int32)), .val (.ref b757), .val (.int (1 : Int32)), .unset, .unset, .unset, .unset] [])) t := by
        intro t kt
        show Steps p.tables e below (T888.setTop (mkF m 164 #[.val (.long f1), .second, .val (.long f2), .second, .val (.long c1), .second, .val (.long c2), .second, .val (.int fl), .val (.int (3 : Int32)), .val (.int (2 : Int32)), .val (.int (1 : Int32)), .val (.ref b737), .val (.ref b757), .val (.ref b771), .val (.int (1 : Int32)), .val (.ref b757), .val (.int (1 : Int32)), .unset, .unset, .unset, .unset] [])) _
        refine XS.iload X888.here hx rfl (hb hby at_164) rfl ?_
        refine XS.ifNo X888.here hx rfl (hb hby at_166) rfl ((if0 _ _).trans (feq (by decide)).1) ?_
        refine XS.iconst X888.here hx rfl (hb hby at_169) ?_
        refine XS.goto X888.here hx rfl (pc0 := 170) (pc' := 174) rfl (hb hby at_170) (by decide) (by decide) ?_
        refine XS.istore X888.here hx rfl (hb hby at_174) rfl (l' := #[.val (.long f1), .second, .val (.long f2), .second, .val (.long c1), .second, .val (.long c2), .second, .val (.int fl), .val (.int (3 : Int32)), .val (.int (2 : Int32)), .val (.int (1 : Int32)), .val (.ref b737), .val (.ref b757), .val (.ref b771), .val (.int (1 : Int32)), .val (.ref b757), .val (.int (1 : Int32)), .val (.int (1 : Int32)), .unset, .unset, .unset]) rfl ?_
        refine XS.iload X888.here hx rfl (hb hby at_176) rfl ?_
        show Steps p.tables e below (T888.setTop (mkF m 178 #[.val (.long f1), .second, .val (.long f2), .second, .val (.long c1), .second, .val (.long c2), .second, .val (.int fl), .val (.int (3 : Int32)), .val (.int (2 : Int32)), .val (.int (1 : Int32)), .val (.ref b737), .val (.ref b757), .val (.ref b771), .val (.int (1 : Int32)), .val (.ref b757), .val (.int (1 : Int32)), .val (.int (1 : Int32)), .unset, .unset, .unset] [(.int (1 : Int32))])) _
        refine XS.aload X888.here hx rfl (hb hby at_178) rfl rfl ?_
        exact kt
      have f901 := (f882.keep K888q)
      obtain ⟨cq900, kq900, q900a, q900b, q900c⟩ := isOf hZ e888 f901
      obtain ⟨_, _, ⟨T900, L900, k900, n900⟩, -, X900, ⟨Lc900, hQ900, l900, y900, z900⟩, st900⟩ := X888.virtualBack hx (y := (⟨"tidegate/operator/Crossings", "waiting", "()Z"⟩ : MethodName)) (z := (⟨"tidegate/operator/Crossings", "waiting", "()Z"⟩ : MethodName)) hown (mvT hZ (hw _ (List.mem_of_getElem? (i := 74) rfl))) (mvT hZ (hw _ (List.mem_of_getElem? (i := 75) rfl))) (notFace_of_selects (args := #[]) (mvT hZ (hw _ (List.mem_of_getElem? (i := 77) rfl)))) (mvT hZ (hw _ (List.mem_of_getElem? (i := 77) rfl))) (mvT hZ (hw _ (List.mem_of_getElem? (i := 76) rfl))) (by decide) (backOf (W := 1) (rm_wt1 l Z a0 hw [] b737 b786 b880 h888 n0 z898 F894 F895) hZ (hw _ (List.mem_of_getElem? (i := 78) rfl)) (hw _ (List.mem_of_getElem? (i := 2) rfl)) (by decide) (by decide)) q900a q900c (g := (mkF m 180 #[.val (.long f1), .second, .val (.long f2), .second, .val (.long c1), .second, .val (.long c2), .second, .val (.int fl), .val (.int (3 : Int32)), .val (.int (2 : Int32)), .val (.int (1 : Int32)), .val (.ref b737), .val (.ref b757), .val (.ref b771), .val (.int (1 : Int32)), .val (.ref b757), .val (.int (1 : Int32)), .val (.int (1 : Int32)), .unset, .unset, .unset] [(.ref b737), (.int (1 : Int32))])) rfl (by rw [hml]; rfl) (Steps.refl _) (argsL := []) (rest := [(.int (1 : Int32))]) (lenOf pd_3 rfl) rfl (by show 2 * 0 + _ ≤ _; exact Nat.le_of_eq rfl) (hb hby at_180) (fun _ _ => ⟨rfl, e888, (by decide : 28 + 0 ≤ _), (by decide : 49 + 0 ≤ _)⟩)
      dsimp only [Pt.U, Pt.locs, Pt.cells, Pt.slots] at X900 l900 y900 z900 st900 hQ900
      subst l900 y900 z900
      obtain ⟨rfl, N900q, e900⟩ := hQ900
      have N900 := Fr.app N888 N900q
      have S902 : ∀ t, Steps p.tables e below (T900.setTop (mkF m 204 #[.val (.long f1), .second, .val (.long f2), .second, .val (.long c1), .second, .val (.long c2), .second, .val (.int fl), .val (.int (3 : Int32)), .val (.int (2 : Int32)), .val (.int (1 : Int32)), .val (.ref b737), .val (.ref b757), .val (.ref b771), .val (.int (1 : Int32)), .val (.ref b757), .val (.int (1 : Int32)), .val (.int (1 : Int32)), .unset, .unset, .unset] [(.int ((1 : Int32) &&& (1 : Int32)))])) t → Steps p.tables e below (T900.setTop (mkF m 183 #[.val (.long f1), .second, .val (.long f2), .second, .val (.long c1), .second, .val (.long c2), .second, .val (.int fl), .val (.int (3 : Int32)), .val (.int (2 : Int32)), .val (.int (1 : Int32)), .val (.ref b737), .val (.ref b757), .val (.ref b771), .val (.int (1 : Int32)), .val (.ref b757), .val (.int (1 : Int32)), .val (.int (1 : Int32)), .unset, .unset, .unset] [(.int (1 : Int32)), (.int (1 : Int32))])) t := by
        intro t kt
        show Steps p.tables e below (T900.setTop (mkF m 183 #[.val (.long f1), .second, .val (.long f2), .second, .val (.long c1), .second, .val (.long c2), .second, .val (.int fl), .val (.int (3 : Int32)), .val (.int (2 : Int32)), .val (.int (1 : Int32)), .val (.ref b737), .val (.ref b757), .val (.ref b771), .val (.int (1 : Int32)), .val (.ref b757), .val (.int (1 : Int32)), .val (.int (1 : Int32)), .unset, .unset, .unset] [(.int (1 : Int32)), (.int (1 : Int32))])) _
        refine XS.iload X900.here hx rfl (hb hby at_183) rfl ?_
        refine XS.iload X900.here hx rfl (hb hby at_185) rfl ?_
        refine XS.icmpNo X900.here hx rfl (hb hby at_187) rfl (tlt (by decide)).2.1 ?_
        refine XS.iconst X900.here hx rfl (hb hby at_190) ?_
        refine XS.goto X900.here hx rfl (pc0 := 191) (pc' := 195) rfl (hb hby at_191) (by decide) (by decide) ?_
        refine XS.icmpNo X900.here hx rfl (hb hby at_195) rfl (teq rfl).2 ?_
        show Steps p.tables e below (T900.setTop (mkF m 198 #[.val (.long f1), .second, .val (.long f2), .second, .val (.long c1), .second, .val (.long c2), .second, .val (.int fl), .val (.int (3 : Int32)), .val (.int (2 : Int32)), .val (.int (1 : Int32)), .val (.ref b737), .val (.ref b757), .val (.ref b771), .val (.int (1 : Int32)), .val (.ref b757), .val (.int (1 : Int32)), .val (.int (1 : Int32)), .unset, .unset, .unset] [(.int (1 : Int32))])) _
        refine XS.iconst X900.here hx rfl (hb hby at_198) ?_
        refine XS.goto X900.here hx rfl (pc0 := 199) (pc' := 203) rfl (hb hby at_199) (by decide) (by decide) ?_
        refine XS.iand X900.here hx rfl (hb hby at_203) rfl ?_
        exact kt
      have S903 : ∀ t, Steps p.tables e below (T900.setTop (mkF m 204 #[.val (.long f1), .second, .val (.long f2), .second, .val (.long c1), .second, .val (.long c2), .second, .val (.int fl), .val (.int (3 : Int32)), .val (.int (2 : Int32)), .val (.int (1 : Int32)), .val (.ref b737), .val (.ref b757), .val (.ref b771), .val (.int (1 : Int32)), .val (.ref b757), .val (.int (1 : Int32)), .val (.int (1 : Int32)), .unset, .unset, .unset] [(.int (1 : Int32))])) t → Steps p.tables e below (T900.setTop (mkF m 204 #[.val (.long f1), .second, .val (.long f2), .second, .val (.long c1), .second, .val (.long c2), .second, .val (.int fl), .val (.int (3 : Int32)), .val (.int (2 : Int32)), .val (.int (1 : Int32)), .val (.ref b737), .val (.ref b757), .val (.ref b771), .val (.int (1 : Int32)), .val (.ref b757), .val (.int (1 : Int32)), .val (.int (1 : Int32)), .unset, .unset, .unset] [(.int ((1 : Int32) &&& (1 : Int32)))])) t := fun t k => by rw [(show ((1 : Int32) &&& (1 : Int32)) = (1 : Int32) from by decide)]; exact k
      have S904 : ∀ t, Steps p.tables e below (T900.setTop (mkF m 210 #[.val (.long f1), .second, .val (.long f2), .second, .val (.long c1), .second, .val (.long c2), .second, .val (.int fl), .val (.int (3 : Int32)), .val (.int (2 : Int32)), .val (.int (1 : Int32)), .val (.ref b737), .val (.ref b757), .val (.ref b771), .val (.int (1 : Int32)), .val (.ref b757), .val (.int (1 : Int32)), .val (.int (1 : Int32)), .unset, .unset, .unset] [(.long c2), (.ref b737)])) t → Steps p.tables e below (T900.setTop (mkF m 204 #[.val (.long f1), .second, .val (.long f2), .second, .val (.long c1), .second, .val (.long c2), .second, .val (.int fl), .val (.int (3 : Int32)), .val (.int (2 : Int32)), .val (.int (1 : Int32)), .val (.ref b737), .val (.ref b757), .val (.ref b771), .val (.int (1 : Int32)), .val (.ref b757), .val (.int (1 : Int32)), .val (.int (1 : Int32)), .unset, .unset, .unset] [(.int (1 : Int32))])) t := by
        intro t kt
        show Steps p.tables e below (T900.setTop (mkF m 204 #[.val (.long f1), .second, .val (.long f2), .second, .val (.long c1), .second, .val (.long c2), .second, .val (.int fl), .val (.int (3 : Int32)), .val (.int (2 : Int32)), .val (.int (1 : Int32)), .val (.ref b737), .val (.ref b757), .val (.ref b771), .val (.int (1 : Int32)), .val (.ref b757), .val (.int (1 : Int32)), .val (.int (1 : Int32)), .unset, .unset, .unset] [(.int (1 : Int32))])) _
        refine XS.istore X900.here hx rfl (hb hby at_204) rfl (l' := #[.val (.long f1), .second, .val (.long f2), .second, .val (.long c1), .second, .val (.long c2), .second, .val (.int fl), .val (.int (3 : Int32)), .val (.int (2 : Int32)), .val (.int (1 : Int32)), .val (.ref b737), .val (.ref b757), .val (.ref b771), .val (.int (1 : Int32)), .val (.ref b757), .val (.int (1 : Int32)), .val (.int (1 : Int32)), .unset, .unset, .unset]) rfl ?_
        refine XS.aload X900.here hx rfl (hb hby at_206) rfl rfl ?_
        refine XS.lload X900.here hx rfl (hb hby at_208) rfl ?_
        exact kt
      by_cases ht905 : c2 < f2
      · obtain ⟨cq906, kq906, q906a, q906b, q906c⟩ := isOf hZ e900 f901
        obtain ⟨_, _, ⟨T906, L906, k906, n906⟩, -, X906, ⟨Lc906, hQ906, l906, y906, z906⟩, st906⟩ := X900.virtualBack hx (y := (⟨"tidegate/operator/Crossings", "take", "(J)Ltidegate/operator/StageFunctions;"⟩ : MethodName)) (z := (⟨"tidegate/operator/Crossings", "take", "(J)Ltidegate/operator/StageFunctions;"⟩ : MethodName)) hown (mvT hZ (hw _ (List.mem_of_getElem? (i := 68) rfl))) (mvT hZ (hw _ (List.mem_of_getElem? (i := 69) rfl))) (notFace_of_selects (args := #[]) (mvT hZ (hw _ (List.mem_of_getElem? (i := 71) rfl)))) (mvT hZ (hw _ (List.mem_of_getElem? (i := 71) rfl))) (mvT hZ (hw _ (List.mem_of_getElem? (i := 70) rfl))) (by decide) (backOf (W := 0) (rm_tk1 l Z a0 hw [] b737 c2 b786 b880 f2 h888 n0 z898 F894 F895 F890 ht905) hZ (hw _ (List.mem_of_getElem? (i := 72) rfl)) (hw _ (List.mem_of_getElem? (i := 2) rfl)) (by decide) (by decide)) q906a q906c (g := (mkF m 210 #[.val (.long f1), .second, .val (.long f2), .second, .val (.long c1), .second, .val (.long c2), .second, .val (.int fl), .val (.int (3 : Int32)), .val (.int (2 : Int32)), .val (.int (1 : Int32)), .val (.ref b737), .val (.ref b757), .val (.ref b771), .val (.int (1 : Int32)), .val (.ref b757), .val (.int (1 : Int32)), .val (.int (1 : Int32)), .unset, .unset, .unset] [(.long c2), (.ref b737)])) rfl (by rw [hml]; rfl) (Steps.refl _) (argsL := [(.long c2)]) (rest := []) (lenOf pd_2 rfl) rfl (by show 2 * 0 + _ ≤ _; exact Nat.le_of_eq rfl) (hb hby at_210) (fun _ _ => ⟨rfl, e900, (by decide : 28 + 0 ≤ _), (by decide : 49 + 0 ≤ _)⟩)
        dsimp only [Pt.U, Pt.locs, Pt.cells, Pt.slots] at X906 l906 y906 z906 st906 hQ906
        subst l906 y906 z906
        obtain ⟨rfl, N906q, e906⟩ := hQ906
        have N906 := Fr.app N900 N906q
        have S907 : ∀ t, Steps p.tables e below (T906.setTop (mkF m 280 #[.val (.long f1), .second, .val (.long f2), .second, .val (.long c1), .second, .val (.long c2), .second, .val (.int fl), .val (.int (3 : Int32)), .val (.int (2 : Int32)), .val (.int (1 : Int32)), .val (.ref b737), .val (.ref b757), .val (.ref b771), .val (.int (1 : Int32)), .val (.ref b757), .val (.int (1 : Int32)), .val (.int (1 : Int32)), .val .null, .val .null, .unset] [(.int ((1 : Int32) &&& (1 : Int32)))])) t → Steps p.tables e below (T906.setTop (mkF m 213 #[.val (.long f1), .second, .val (.long f2), .second, .val (.long c1), .second, .val (.long c2), .second, .val (.int fl), .val (.int (3 : Int32)), .val (.int (2 : Int32)), .val (.int (1 : Int32)), .val (.ref b737), .val (.ref b757), .val (.ref b771), .val (.int (1 : Int32)), .val (.ref b757), .val (.int (1 : Int32)), .val (.int (1 : Int32)), .unset, .unset, .unset] [.null])) t := by
          intro t kt
          show Steps p.tables e below (T906.setTop (mkF m 213 #[.val (.long f1), .second, .val (.long f2), .second, .val (.long c1), .second, .val (.long c2), .second, .val (.int fl), .val (.int (3 : Int32)), .val (.int (2 : Int32)), .val (.int (1 : Int32)), .val (.ref b737), .val (.ref b757), .val (.ref b771), .val (.int (1 : Int32)), .val (.ref b757), .val (.int (1 : Int32)), .val (.int (1 : Int32)), .unset, .unset, .unset] [.null])) _
          refine XS.astore X906.here hx rfl (hb hby at_213) rfl rfl (l' := #[.val (.long f1), .second, .val (.long f2), .second, .val (.long c1), .second, .val (.long c2), .second, .val (.int fl), .val (.int (3 : Int32)), .val (.int (2 : Int32)), .val (.int (1 : Int32)), .val (.ref b737), .val (.ref b757), .val (.ref b771), .val (.int (1 : Int32)), .val (.ref b757), .val (.int (1 : Int32)), .val (.int (1 : Int32)), .val .null, .unset, .unset]) rfl ?_
          refine XS.iload X906.here hx rfl (hb hby at_215) rfl ?_
          refine XS.ifNo X906.here hx rfl (hb hby at_217) rfl ((if0 _ _).trans (feq (by decide)).1) ?_
          refine XS.iload X906.here hx rfl (hb hby at_220) rfl ?_
          refine XS.iconst X906.here hx rfl (hb hby at_222) ?_
          refine XS.icmpNo X906.here hx rfl (hb hby at_223) rfl (teq rfl).2 ?_
          show Steps p.tables e below (T906.setTop (mkF m 226 #[.val (.long f1), .second, .val (.long f2), .second, .val (.long c1), .second, .val (.long c2), .second, .val (.int fl), .val (.int (3 : Int32)), .val (.int (2 : Int32)), .val (.int (1 : Int32)), .val (.ref b737), .val (.ref b757), .val (.ref b771), .val (.int (1 : Int32)), .val (.ref b757), .val (.int (1 : Int32)), .val (.int (1 : Int32)), .val .null, .unset, .unset] [])) _
          refine XS.lloadN X906.here hx rfl (hb hby at_226) rfl ?_
          refine XS.lload X906.here hx rfl (hb hby at_227) rfl ?_
          refine XS.lcmp X906.here hx rfl (hb hby at_229) rfl ?_
          refine XS.ifYes X906.here hx rfl (pc0 := 230) (pc' := 238) rfl (hb hby at_230) rfl ((if0 _ _).trans (tlt ((lw_gt f2 c2).mpr ht905)).2.2.1) (by decide) (by decide) ?_
          refine XS.aconstNull X906.here hx rfl (hb hby at_238) ?_
          refine XS.astore X906.here hx rfl (hb hby at_239) rfl rfl (l' := #[.val (.long f1), .second, .val (.long f2), .second, .val (.long c1), .second, .val (.long c2), .second, .val (.int fl), .val (.int (3 : Int32)), .val (.int (2 : Int32)), .val (.int (1 : Int32)), .val (.ref b737), .val (.ref b757), .val (.ref b771), .val (.int (1 : Int32)), .val (.ref b757), .val (.int (1 : Int32)), .val (.int (1 : Int32)), .val .null, .val .null, .unset]) rfl ?_
          show Steps p.tables e below (T906.setTop (mkF m 241 #[.val (.long f1), .second, .val (.long f2), .second, .val (.long c1), .second, .val (.long c2), .second, .val (.int fl), .val (.int (3 : Int32)), .val (.int (2 : Int32)), .val (.int (1 : Int32)), .val (.ref b737), .val (.ref b757), .val (.ref b771), .val (.int (1 : Int32)), .val (.ref b757), .val (.int (1 : Int32)), .val (.int (1 : Int32)), .val .null, .val .null, .unset] [])) _
          refine XS.goto X906.here hx rfl (pc0 := 241) (pc' := 265) rfl (hb hby at_241) (by decide) (by decide) ?_
          refine XS.iload X906.here hx rfl (hb hby at_265) rfl ?_
          refine XS.aload X906.here hx rfl (hb hby at_267) rfl rfl ?_
          refine XS.aload X906.here hx rfl (hb hby at_269) rfl rfl ?_
          refine Jvm.RoadKit.acmp (g := (mkF m 271 #[.val (.long f1), .second, .val (.long f2), .second, .val (.long c1), .second, .val (.long c2), .second, .val (.int fl), .val (.int (3 : Int32)), .val (.int (2 : Int32)), .val (.int (1 : Int32)), .val (.ref b737), .val (.ref b757), .val (.ref b771), .val (.int (1 : Int32)), .val (.ref b757), .val (.int (1 : Int32)), .val (.int (1 : Int32)), .val .null, .val .null, .unset] [.null, .null, (.int (1 : Int32))])) X906 hx rfl rfl rfl (pc0 := 271) (pc' := 274) (same := true) rfl (hb hby at_271) rfl (decide_eq_true rfl) (by decide) (by decide) ?_
          refine XS.iconst X906.here hx rfl (hb hby at_274) ?_
          show Steps p.tables e below (T906.setTop (mkF m 275 #[.val (.long f1), .second, .val (.long f2), .second, .val (.long c1), .second, .val (.long c2), .second, .val (.int fl), .val (.int (3 : Int32)), .val (.int (2 : Int32)), .val (.int (1 : Int32)), .val (.ref b737), .val (.ref b757), .val (.ref b771), .val (.int (1 : Int32)), .val (.ref b757), .val (.int (1 : Int32)), .val (.int (1 : Int32)), .val .null, .val .null, .unset] [(.int (1 : Int32)), (.int (1 : Int32))])) _
          refine XS.goto X906.here hx rfl (pc0 := 275) (pc' := 279) rfl (hb hby at_275) (by decide) (by decide) ?_
          refine XS.iand X906.here hx rfl (hb hby at_279) rfl ?_
          exact kt
        have S908 : ∀ t, Steps p.tables e below (T906.setTop (mkF m 280 #[.val (.long f1), .second, .val (.long f2), .second, .val (.long c1), .second, .val (.long c2), .second, .val (.int fl), .val (.int (3 : Int32)), .val (.int (2 : Int32)), .val (.int (1 : Int32)), .val (.ref b737), .val (.ref b757), .val (.ref b771), .val (.int (1 : Int32)), .val (.ref b757), .val (.int (1 : Int32)), .val (.int (1 : Int32)), .val .null, .val .null, .unset] [(.int (1 : Int32))])) t → Steps p.tables e below (T906.setTop (mkF m 280 #[.val (.long f1), .second, .val (.long f2), .second, .val (.long c1), .second, .val (.long c2), .second, .val (.int fl), .val (.int (3 : Int32)), .val (.int (2 : Int32)), .val (.int (1 : Int32)), .val (.ref b737), .val (.ref b757), .val (.ref b771), .val (.int (1 : Int32)), .val (.ref b757), .val (.int (1 : Int32)), .val (.int (1 : Int32)), .val .null, .val .null, .unset] [(.int ((1 : Int32) &&& (1 : Int32)))])) t := fun t k => by rw [(show ((1 : Int32) &&& (1 : Int32)) = (1 : Int32) from by decide)]; exact k
        have S909 : ∀ t, Steps p.tables e below (T906.setTop (mkF m 295 #[.val (.long f1), .second, .val (.long f2), .second, .val (.long c1), .second, .val (.long c2), .second, .val (.int fl), .val (.int (3 : Int32)), .val (.int (2 : Int32)), .val (.int (1 : Int32)), .val (.ref b737), .val (.ref b757), .val (.ref b771), .val (.int (1 : Int32)), .val (.ref b757), .val (.int (1 : Int32)), .val (.int (1 : Int32)), .val .null, .val .null, .unset] [(.int ((1 : Int32) + (0 : Int32)))])) t → Steps p.tables e below (T906.setTop (mkF m 280 #[.val (.long f1), .second, .val (.long f2), .second, .val (.long c1), .second, .val (.long c2), .second, .val (.int fl), .val (.int (3 : Int32)), .val (.int (2 : Int32)), .val (.int (1 : Int32)), .val (.ref b737), .val (.ref b757), .val (.ref b771), .val (.int (1 : Int32)), .val (.ref b757), .val (.int (1 : Int32)), .val (.int (1 : Int32)), .val .null, .val .null, .unset] [(.int (1 : Int32))])) t := by
          intro t kt
          show Steps p.tables e below (T906.setTop (mkF m 280 #[.val (.long f1), .second, .val (.long f2), .second, .val (.long c1), .second, .val (.long c2), .second, .val (.int fl), .val (.int (3 : Int32)), .val (.int (2 : Int32)), .val (.int (1 : Int32)), .val (.ref b737), .val (.ref b757), .val (.ref b771), .val (.int (1 : Int32)), .val (.ref b757), .val (.int (1 : Int32)), .val (.int (1 : Int32)), .val .null, .val .null, .unset] [(.int (1 : Int32))])) _
          refine XS.istore X906.here hx rfl (hb hby at_280) rfl (l' := #[.val (.long f1), .second, .val (.long f2), .second, .val (.long c1), .second, .val (.long c2), .second, .val (.int fl), .val (.int (3 : Int32)), .val (.int (2 : Int32)), .val (.int (1 : Int32)), .val (.ref b737), .val (.ref b757), .val (.ref b771), .val (.int (1 : Int32)), .val (.ref b757), .val (.int (1 : Int32)), .val (.int (1 : Int32)), .val .null, .val .null, .unset]) rfl ?_
          refine XS.iload X906.here hx rfl (hb hby at_282) rfl ?_
          refine XS.aload X906.here hx rfl (hb hby at_284) rfl rfl ?_
          refine XS.ifnullYes X906.here hx rfl (pc0 := 286) (pc' := 293) rfl (hb hby at_286) rfl (by decide) (by decide) ?_
          refine XS.iconst X906.here hx rfl (hb hby at_293) ?_
          refine XS.iadd X906.here hx rfl (hb hby at_294) rfl ?_
          exact kt
        have S910 : ∀ t, Steps p.tables e below (T906.setTop (mkF m 295 #[.val (.long f1), .second, .val (.long f2), .second, .val (.long c1), .second, .val (.long c2), .second, .val (.int fl), .val (.int (3 : Int32)), .val (.int (2 : Int32)), .val (.int (1 : Int32)), .val (.ref b737), .val (.ref b757), .val (.ref b771), .val (.int (1 : Int32)), .val (.ref b757), .val (.int (1 : Int32)), .val (.int (1 : Int32)), .val .null, .val .null, .unset] [(.int (1 : Int32))])) t → Steps p.tables e below (T906.setTop (mkF m 295 #[.val (.long f1), .second, .val (.long f2), .second, .val (.long c1), .second, .val (.long c2), .second, .val (.int fl), .val (.int (3 : Int32)), .val (.int (2 : Int32)), .val (.int (1 : Int32)), .val (.ref b737), .val (.ref b757), .val (.ref b771), .val (.int (1 : Int32)), .val (.ref b757), .val (.int (1 : Int32)), .val (.int (1 : Int32)), .val .null, .val .null, .unset] [(.int ((1 : Int32) + (0 : Int32)))])) t := fun t k => by rw [(show ((1 : Int32) + (0 : Int32)) = (1 : Int32) from by decide)]; exact k
        have S911 : ∀ t, Steps p.tables e below (T906.setTop (mkF m 301 #[.val (.long f1), .second, .val (.long f2), .second, .val (.long c1), .second, .val (.long c2), .second, .val (.int fl), .val (.int (3 : Int32)), .val (.int (2 : Int32)), .val (.int (1 : Int32)), .val (.ref b737), .val (.ref b757), .val (.ref b771), .val (.int (1 : Int32)), .val (.ref b757), .val (.int (1 : Int32)), .val (.int (1 : Int32)), .val .null, .val .null, .val (.int (1 : Int32))] [(.ref b737), (.int (1 : Int32))])) t → Steps p.tables e below (T906.setTop (mkF m 295 #[.val (.long f1), .second, .val (.long f2), .second, .val (.long c1), .second, .val (.long c2), .second, .val (.int fl), .val (.int (3 : Int32)), .val (.int (2 : Int32)), .val (.int (1 : Int32)), .val (.ref b737), .val (.ref b757), .val (.ref b771), .val (.int (1 : Int32)), .val (.ref b757), .val (.int (1 : Int32)), .val (.int (1 : Int32)), .val .null, .val .null, .unset] [(.int (1 : Int32))])) t := by
          intro t kt
          show Steps p.tables e below (T906.setTop (mkF m 295 #[.val (.long f1), .second, .val (.long f2), .second, .val (.long c1), .second, .val (.long c2), .second, .val (.int fl), .val (.int (3 : Int32)), .val (.int (2 : Int32)), .val (.int (1 : Int32)), .val (.ref b737), .val (.ref b757), .val (.ref b771), .val (.int (1 : Int32)), .val (.ref b757), .val (.int (1 : Int32)), .val (.int (1 : Int32)), .val .null, .val .null, .unset] [(.int (1 : Int32))])) _
          refine XS.istore X906.here hx rfl (hb hby at_295) rfl (l' := #[.val (.long f1), .second, .val (.long f2), .second, .val (.long c1), .second, .val (.long c2), .second, .val (.int fl), .val (.int (3 : Int32)), .val (.int (2 : Int32)), .val (.int (1 : Int32)), .val (.ref b737), .val (.ref b757), .val (.ref b771), .val (.int (1 : Int32)), .val (.ref b757), .val (.int (1 : Int32)), .val (.int (1 : Int32)), .val .null, .val .null, .val (.int (1 : Int32))]) rfl ?_
          refine XS.iload X906.here hx rfl (hb hby at_297) rfl ?_
          refine XS.aload X906.here hx rfl (hb hby at_299) rfl rfl ?_
          exact kt
        obtain ⟨cq912, kq912, q912a, q912b, q912c⟩ := isOf hZ e906 f901
        obtain ⟨_, _, ⟨T912, L912, k912, n912⟩, -, X912, ⟨Lc912, hQ912, l912, y912, z912⟩, st912⟩ := X906.virtualBack hx (y := (⟨"tidegate/operator/Crossings", "waiting", "()Z"⟩ : MethodName)) (z := (⟨"tidegate/operator/Crossings", "waiting", "()Z"⟩ : MethodName)) hown (mvT hZ (hw _ (List.mem_of_getElem? (i := 74) rfl))) (mvT hZ (hw _ (List.mem_of_getElem? (i := 75) rfl))) (notFace_of_selects (args := #[]) (mvT hZ (hw _ (List.mem_of_getElem? (i := 77) rfl)))) (mvT hZ (hw _ (List.mem_of_getElem? (i := 77) rfl))) (mvT hZ (hw _ (List.mem_of_getElem? (i := 76) rfl))) (by decide) (backOf (W := 1) (rm_wt1 l Z a0 hw [] b737 b786 b880 h888 n0 z898 F894 F895) hZ (hw _ (List.mem_of_getElem? (i := 78) rfl)) (hw _ (List.mem_of_getElem? (i := 2) rfl)) (by decide) (by decide)) q912a q912c (g := (mkF m 301 #[.val (.long f1), .second, .val (.long f2), .second, .val (.long c1), .second, .val (.long c2), .second, .val (.int fl), .val (.int (3 : Int32)), .val (.int (2 : Int32)), .val (.int (1 : Int32)), .val (.ref b737), .val (.ref b757), .val (.ref b771), .val (.int (1 : Int32)), .val (.ref b757), .val (.int (1 : Int32)), .val (.int (1 : Int32)), .val .null, .val .null, .val (.int (1 : Int32))] [(.ref b737), (.int (1 : Int32))])) rfl (by rw [hml]; rfl) (Steps.refl _) (argsL := []) (rest := [(.int (1 : Int32))]) (lenOf pd_3 rfl) rfl (by show 2 * 0 + _ ≤ _; exact Nat.le_of_eq rfl) (hb hby at_301) (fun _ _ => ⟨rfl, e906, (by decide : 28 + 0 ≤ _), (by decide : 49 + 0 ≤ _)⟩)
        dsimp only [Pt.U, Pt.locs, Pt.cells, Pt.slots] at X912 l912 y912 z912 st912 hQ912
        subst l912 y912 z912
        obtain ⟨rfl, N912q, e912⟩ := hQ912
        have N912 := Fr.app N906 N912q
        have S913 : ∀ t, Steps p.tables e below (T912.setTop (mkF m 325 #[.val (.long f1), .second, .val (.long f2), .second, .val (.long c1), .second, .val (.long c2), .second, .val (.int fl), .val (.int (3 : Int32)), .val (.int (2 : Int32)), .val (.int (1 : Int32)), .val (.ref b737), .val (.ref b757), .val (.ref b771), .val (.int (1 : Int32)), .val (.ref b757), .val (.int (1 : Int32)), .val (.int (1 : Int32)), .val .null, .val .null, .val (.int (1 : Int32))] [(.int ((1 : Int32) &&& (1 : Int32)))])) t → Steps p.tables e below (T912.setTop (mkF m 304 #[.val (.long f1), .second, .val (.long f2), .second, .val (.long c1), .second, .val (.long c2), .second, .val (.int fl), .val (.int (3 : Int32)), .val (.int (2 : Int32)), .val (.int (1 : Int32)), .val (.ref b737), .val (.ref b757), .val (.ref b771), .val (.int (1 : Int32)), .val (.ref b757), .val (.int (1 : Int32)), .val (.int (1 : Int32)), .val .null, .val .null, .val (.int (1 : Int32))] [(.int (1 : Int32)), (.int (1 : Int32))])) t := by
          intro t kt
          show Steps p.tables e below (T912.setTop (mkF m 304 #[.val (.long f1), .second, .val (.long f2), .second, .val (.long c1), .second, .val (.long c2), .second, .val (.int fl), .val (.int (3 : Int32)), .val (.int (2 : Int32)), .val (.int (1 : Int32)), .val (.ref b737), .val (.ref b757), .val (.ref b771), .val (.int (1 : Int32)), .val (.ref b757), .val (.int (1 : Int32)), .val (.int (1 : Int32)), .val .null, .val .null, .val (.int (1 : Int32))] [(.int (1 : Int32)), (.int (1 : Int32))])) _
          refine XS.iload X912.here hx rfl (hb hby at_304) rfl ?_
          refine XS.iload X912.here hx rfl (hb hby at_306) rfl ?_
          refine XS.icmpNo X912.here hx rfl (hb hby at_308) rfl (tlt (by decide)).2.1 ?_
          refine XS.iconst X912.here hx rfl (hb hby at_311) ?_
          refine XS.goto X912.here hx rfl (pc0 := 312) (pc' := 316) rfl (hb hby at_312) (by decide) (by decide) ?_
          refine XS.icmpNo X912.here hx rfl (hb hby at_316) rfl (teq rfl).2 ?_
          show Steps p.tables e below (T912.setTop (mkF m 319 #[.val (.long f1), .second, .val (.long f2), .second, .val (.long c1), .second, .val (.long c2), .second, .val (.int fl), .val (.int (3 : Int32)), .val (.int (2 : Int32)), .val (.int (1 : Int32)), .val (.ref b737), .val (.ref b757), .val (.ref b771), .val (.int (1 : Int32)), .val (.ref b757), .val (.int (1 : Int32)), .val (.int (1 : Int32)), .val .null, .val .null, .val (.int (1 : Int32))] [(.int (1 : Int32))])) _
          refine XS.iconst X912.here hx rfl (hb hby at_319) ?_
          refine XS.goto X912.here hx rfl (pc0 := 320) (pc' := 324) rfl (hb hby at_320) (by decide) (by decide) ?_
          refine XS.iand X912.here hx rfl (hb hby at_324) rfl ?_
          exact kt
        have S914 : ∀ t, Steps p.tables e below (T912.setTop (mkF m 325 #[.val (.long f1), .second, .val (.long f2), .second, .val (.long c1), .second, .val (.long c2), .second, .val (.int fl), .val (.int (3 : Int32)), .val (.int (2 : Int32)), .val (.int (1 : Int32)), .val (.ref b737), .val (.ref b757), .val (.ref b771), .val (.int (1 : Int32)), .val (.ref b757), .val (.int (1 : Int32)), .val (.int (1 : Int32)), .val .null, .val .null, .val (.int (1 : Int32))] [(.int (1 : Int32))])) t → Steps p.tables e below (T912.setTop (mkF m 325 #[.val (.long f1), .second, .val (.long f2), .second, .val (.long c1), .second, .val (.long c2), .second, .val (.int fl), .val (.int (3 : Int32)), .val (.int (2 : Int32)), .val (.int (1 : Int32)), .val (.ref b737), .val (.ref b757), .val (.ref b771), .val (.int (1 : Int32)), .val (.ref b757), .val (.int (1 : Int32)), .val (.int (1 : Int32)), .val .null, .val .null, .val (.int (1 : Int32))] [(.int ((1 : Int32) &&& (1 : Int32)))])) t := fun t k => by rw [(show ((1 : Int32) &&& (1 : Int32)) = (1 : Int32) from by decide)]; exact k
        have S915 : ∀ t, Steps p.tables e below (T912.setTop (mkF m 329 #[.val (.long f1), .second, .val (.long f2), .second, .val (.long c1), .second, .val (.long c2), .second, .val (.int fl), .val (.int (3 : Int32)), .val (.int (2 : Int32)), .val (.int (1 : Int32)), .val (.ref b737), .val (.ref b757), .val (.ref b771), .val (.int (1 : Int32)), .val (.ref b757), .val (.int (1 : Int32)), .val (.int (1 : Int32)), .val .null, .val .null, .val (.int (1 : Int32))] [(.int (1 : Int32))])) t → Steps p.tables e below (T912.setTop (mkF m 325 #[.val (.long f1), .second, .val (.long f2), .second, .val (.long c1), .second, .val (.long c2), .second, .val (.int fl), .val (.int (3 : Int32)), .val (.int (2 : Int32)), .val (.int (1 : Int32)), .val (.ref b737), .val (.ref b757), .val (.ref b771), .val (.int (1 : Int32)), .val (.ref b757), .val (.int (1 : Int32)), .val (.int (1 : Int32)), .val .null, .val .null, .val (.int (1 : Int32))] [(.int (1 : Int32))])) t := by
          intro t kt
          show Steps p.tables e below (T912.setTop (mkF m 325 #[.val (.long f1), .second, .val (.long f2), .second, .val (.long c1), .second, .val (.long c2), .second, .val (.int fl), .val (.int (3 : Int32)), .val (.int (2 : Int32)), .val (.int (1 : Int32)), .val (.ref b737), .val (.ref b757), .val (.ref b771), .val (.int (1 : Int32)), .val (.ref b757), .val (.int (1 : Int32)), .val (.int (1 : Int32)), .val .null, .val .null, .val (.int (1 : Int32))] [(.int (1 : Int32))])) _
          refine XS.istore X912.here hx rfl (hb hby at_325) rfl (l' := #[.val (.long f1), .second, .val (.long f2), .second, .val (.long c1), .second, .val (.long c2), .second, .val (.int fl), .val (.int (3 : Int32)), .val (.int (2 : Int32)), .val (.int (1 : Int32)), .val (.ref b737), .val (.ref b757), .val (.ref b771), .val (.int (1 : Int32)), .val (.ref b757), .val (.int (1 : Int32)), .val (.int (1 : Int32)), .val .null, .val .null, .val (.int (1 : Int32))]) rfl ?_
          refine XS.iload X912.here hx rfl (hb hby at_327) rfl ?_
          exact kt
        have C916 : ∀ t, Steps p.tables e below (T912.setTop (mkF m 329 #[.val (.long f1), .second, .val (.long f2), .second, .val (.long c1), .second, .val (.long c2), .second, .val (.int fl), .val (.int (3 : Int32)), .val (.int (2 : Int32)), .val (.int (1 : Int32)), .val (.ref b737), .val (.ref b757), .val (.ref b771), .val (.int (1 : Int32)), .val (.ref b757), .val (.int (1 : Int32)), .val (.int (1 : Int32)), .val .null, .val .null, .val (.int (1 : Int32))] [(.int (1 : Int32))])) t → Steps p.tables e below (s₁.setTop (mkF m 0 #[.val (.long f1), .second, .val (.long f2), .second, .val (.long c1), .second, .val (.long c2), .second, .val (.int fl), .unset, .unset, .unset, .unset, .unset, .unset, .unset, .unset, .unset, .unset, .unset, .unset, .unset] [])) t := (fun t k => (C330 t (S735 t (S736 t (st737 t (S750 t (st751.trans (S756 t (st757 t (S767 t (st768.trans (S770 t (st771 t (S783 t (st784.trans (S797 t (st798.trans (S809 t (st871.trans (S878 t (S879 t (S887 t (st888.trans (S899 t (st900.trans (S902 t (S903 t (S904 t (st906.trans (S907 t (S908 t (S909 t (S910 t (S911 t (st912.trans (S913 t (S914 t (S915 t k))))))))))))))))))))))))))))))))))))))
        obtain ⟨fs, hr, hrun, hended, hW, hsame⟩ := X912.leave (v := some (.int (1 : Int32))) (fun h => by rw [Bd.returns] at h; cases h)
        refine ⟨_, _, pre0 _ (C916 _ ?_), hrun, hended, _, _, rfl, ?_, ⟨_, rfl⟩, hW, hsame.mono (by decide) (by decide)⟩
        · exact retN X912 hx (t := .boolean) Bd.returns (by simp) (hb hby at_329) hr
        · show Q_rm0 Z f1 f2 c1 c2 fl h0 n0 _ T912.heap _
          rw [e912]
          exact ⟨rfl, N912⟩
      · obtain ⟨cq917, kq917, q917a, q917b, q917c⟩ := isOf hZ e900 f901
        obtain ⟨_, _, ⟨T917, L917, k917, n917⟩, -, X917, ⟨Lc917, hQ917, l917, y917, z917⟩, st917⟩ := X900.virtualBack hx (y := (⟨"tidegate/operator/Crossings", "take", "(J)Ltidegate/operator/StageFunctions;"⟩ : MethodName)) (z := (⟨"tidegate/operator/Crossings", "take", "(J)Ltidegate/operator/StageFunctions;"⟩ : MethodName)) hown (mvT hZ (hw _ (List.mem_of_getElem? (i := 68) rfl))) (mvT hZ (hw _ (List.mem_of_getElem? (i := 69) rfl))) (notFace_of_selects (args := #[]) (mvT hZ (hw _ (List.mem_of_getElem? (i := 71) rfl)))) (mvT hZ (hw _ (List.mem_of_getElem? (i := 71) rfl))) (mvT hZ (hw _ (List.mem_of_getElem? (i := 70) rfl))) (by decide) (backOf (W := 0) (rm_tk2n l Z a0 hw [] b737 c2 b786 b880 f2 b771 b880 h888 n0 z898 f901 F894 F893 F895 F889 F890 F891 F892 g_b737 g_b880 ne_b737_b880 ne_b737_b786 ne_b786_b880 ht905) hZ (hw _ (List.mem_of_getElem? (i := 72) rfl)) (hw _ (List.mem_of_getElem? (i := 2) rfl)) (by decide) (by decide)) q917a q917c (g := (mkF m 210 #[.val (.long f1), .second, .val (.long f2), .second, .val (.long c1), .second, .val (.long c2), .second, .val (.int fl), .val (.int (3 : Int32)), .val (.int (2 : Int32)), .val (.int (1 : Int32)), .val (.ref b737), .val (.ref b757), .val (.ref b771), .val (.int (1 : Int32)), .val (.ref b757), .val (.int (1 : Int32)), .val (.int (1 : Int32)), .unset, .unset, .unset] [(.long c2), (.ref b737)])) rfl (by rw [hml]; rfl) (Steps.refl _) (argsL := [(.long c2)]) (rest := []) (lenOf pd_2 rfl) rfl (by show 2 * 0 + _ ≤ _; exact Nat.le_of_eq rfl) (hb hby at_210) (fun _ _ => ⟨rfl, e900, (by decide : 28 + 0 ≤ _), (by decide : 49 + 0 ≤ _)⟩)
        dsimp only [Pt.U, Pt.locs, Pt.cells, Pt.slots] at X917 l917 y917 z917 st917 hQ917
        subst l917 y917 z917
        obtain ⟨h917, e917⟩ : ∃ z, T917.heap = z := ⟨_, rfl⟩
        rw [e917] at hQ917
        obtain ⟨rfl, N917q, K917q, F918, F919, F920, F921, F922⟩ := hQ917
        have z923 : n0 ≤ h917.size := Nat.le_trans z898 K917q.1
        have N917 := Fr.app N900 N917q
        have S924 : ∀ t, Steps p.tables e below (T917.setTop (mkF m 280 #[.val (.long f1), .second, .val (.long f2), .second, .val (.long c1), .second, .val (.long c2), .second, .val (.int fl), .val (.int (3 : Int32)), .val (.int (2 : Int32)), .val (.int (1 : Int32)), .val (.ref b737), .val (.ref b757), .val (.ref b771), .val (.int (1 : Int32)), .val (.ref b757), .val (.int (1 : Int32)), .val (.int (1 : Int32)), .val (.ref b771), .val (.ref b771), .unset] [(.int ((1 : Int32) &&& (1 : Int32)))])) t → Steps p.tables e below (T917.setTop (mkF m 213 #[.val (.long f1), .second, .val (.long f2), .second, .val (.long c1), .second, .val (.long c2), .second, .val (.int fl), .val (.int (3 : Int32)), .val (.int (2 : Int32)), .val (.int (1 : Int32)), .val (.ref b737), .val (.ref b757), .val (.ref b771), .val (.int (1 : Int32)), .val (.ref b757), .val (.int (1 : Int32)), .val (.int (1 : Int32)), .unset, .unset, .unset] [(.ref b771)])) t := by
          intro t kt
          show Steps p.tables e below (T917.setTop (mkF m 213 #[.val (.long f1), .second, .val (.long f2), .second, .val (.long c1), .second, .val (.long c2), .second, .val (.int fl), .val (.int (3 : Int32)), .val (.int (2 : Int32)), .val (.int (1 : Int32)), .val (.ref b737), .val (.ref b757), .val (.ref b771), .val (.int (1 : Int32)), .val (.ref b757), .val (.int (1 : Int32)), .val (.int (1 : Int32)), .unset, .unset, .unset] [(.ref b771)])) _
          refine XS.astore X917.here hx rfl (hb hby at_213) rfl rfl (l' := #[.val (.long f1), .second, .val (.long f2), .second, .val (.long c1), .second, .val (.long c2), .second, .val (.int fl), .val (.int (3 : Int32)), .val (.int (2 : Int32)), .val (.int (1 : Int32)), .val (.ref b737), .val (.ref b757), .val (.ref b771), .val (.int (1 : Int32)), .val (.ref b757), .val (.int (1 : Int32)), .val (.int (1 : Int32)), .val (.ref b771), .unset, .unset]) rfl ?_
          refine XS.iload X917.here hx rfl (hb hby at_215) rfl ?_
          refine XS.ifNo X917.here hx rfl (hb hby at_217) rfl ((if0 _ _).trans (feq (by decide)).1) ?_
          refine XS.iload X917.here hx rfl (hb hby at_220) rfl ?_
          refine XS.iconst X917.here hx rfl (hb hby at_222) ?_
          refine XS.icmpNo X917.here hx rfl (hb hby at_223) rfl (teq rfl).2 ?_
          show Steps p.tables e below (T917.setTop (mkF m 226 #[.val (.long f1), .second, .val (.long f2), .second, .val (.long c1), .second, .val (.long c2), .second, .val (.int fl), .val (.int (3 : Int32)), .val (.int (2 : Int32)), .val (.int (1 : Int32)), .val (.ref b737), .val (.ref b757), .val (.ref b771), .val (.int (1 : Int32)), .val (.ref b757), .val (.int (1 : Int32)), .val (.int (1 : Int32)), .val (.ref b771), .unset, .unset] [])) _
          refine XS.lloadN X917.here hx rfl (hb hby at_226) rfl ?_
          refine XS.lload X917.here hx rfl (hb hby at_227) rfl ?_
          refine XS.lcmp X917.here hx rfl (hb hby at_229) rfl ?_
          refine XS.ifNo X917.here hx rfl (hb hby at_230) rfl ((if0 _ _).trans (flt (fun q => ht905 ((lw_gt f2 c2).mp q))).2.2.1) ?_
          refine XS.aload X917.here hx rfl (hb hby at_233) rfl rfl ?_
          refine XS.goto X917.here hx rfl (pc0 := 235) (pc' := 239) rfl (hb hby at_235) (by decide) (by decide) ?_
          show Steps p.tables e below (T917.setTop (mkF m 239 #[.val (.long f1), .second, .val (.long f2), .second, .val (.long c1), .second, .val (.long c2), .second, .val (.int fl), .val (.int (3 : Int32)), .val (.int (2 : Int32)), .val (.int (1 : Int32)), .val (.ref b737), .val (.ref b757), .val (.ref b771), .val (.int (1 : Int32)), .val (.ref b757), .val (.int (1 : Int32)), .val (.int (1 : Int32)), .val (.ref b771), .unset, .unset] [(.ref b771)])) _
          refine XS.astore X917.here hx rfl (hb hby at_239) rfl rfl (l' := #[.val (.long f1), .second, .val (.long f2), .second, .val (.long c1), .second, .val (.long c2), .second, .val (.int fl), .val (.int (3 : Int32)), .val (.int (2 : Int32)), .val (.int (1 : Int32)), .val (.ref b737), .val (.ref b757), .val (.ref b771), .val (.int (1 : Int32)), .val (.ref b757), .val (.int (1 : Int32)), .val (.int (1 : Int32)), .val (.ref b771), .val (.ref b771), .unset]) rfl ?_
          refine XS.goto X917.here hx rfl (pc0 := 241) (pc' := 265) rfl (hb hby at_241) (by decide) (by decide) ?_
          refine XS.iload X917.here hx rfl (hb hby at_265) rfl ?_
          refine XS.aload X917.here hx rfl (hb hby at_267) rfl rfl ?_
          refine XS.aload X917.here hx rfl (hb hby at_269) rfl rfl ?_
          refine Jvm.RoadKit.acmp (g := (mkF m 271 #[.val (.long f1), .second, .val (.long f2), .second, .val (.long c1), .second, .val (.long c2), .second, .val (.int fl), .val (.int (3 : Int32)), .val (.int (2 : Int32)), .val (.int (1 : Int32)), .val (.ref b737), .val (.ref b757), .val (.ref b771), .val (.int (1 : Int32)), .val (.ref b757), .val (.int (1 : Int32)), .val (.int (1 : Int32)), .val (.ref b771), .val (.ref b771), .unset] [(.ref b771), (.ref b771), (.int (1 : Int32))])) X917 hx rfl rfl rfl (pc0 := 271) (pc' := 274) (same := true) rfl (hb hby at_271) rfl (decide_eq_true rfl) (by decide) (by decide) ?_
          show Steps p.tables e below (T917.setTop (mkF m 274 #[.val (.long f1), .second, .val (.long f2), .second, .val (.long c1), .second, .val (.long c2), .second, .val (.int fl), .val (.int (3 : Int32)), .val (.int (2 : Int32)), .val (.int (1 : Int32)), .val (.ref b737), .val (.ref b757), .val (.ref b771), .val (.int (1 : Int32)), .val (.ref b757), .val (.int (1 : Int32)), .val (.int (1 : Int32)), .val (.ref b771), .val (.ref b771), .unset] [(.int (1 : Int32))])) _
          refine XS.iconst X917.here hx rfl (hb hby at_274) ?_
          refine XS.goto X917.here hx rfl (pc0 := 275) (pc' := 279) rfl (hb hby at_275) (by decide) (by decide) ?_
          refine XS.iand X917.here hx rfl (hb hby at_279) rfl ?_
          exact kt
        have S925 : ∀ t, Steps p.tables e below (T917.setTop (mkF m 280 #[.val (.long f1), .second, .val (.long f2), .second, .val (.long c1), .second, .val (.long c2), .second, .val (.int fl), .val (.int (3 : Int32)), .val (.int (2 : Int32)), .val (.int (1 : Int32)), .val (.ref b737), .val (.ref b757), .val (.ref b771), .val (.int (1 : Int32)), .val (.ref b757), .val (.int (1 : Int32)), .val (.int (1 : Int32)), .val (.ref b771), .val (.ref b771), .unset] [(.int (1 : Int32))])) t → Steps p.tables e below (T917.setTop (mkF m 280 #[.val (.long f1), .second, .val (.long f2), .second, .val (.long c1), .second, .val (.long c2), .second, .val (.int fl), .val (.int (3 : Int32)), .val (.int (2 : Int32)), .val (.int (1 : Int32)), .val (.ref b737), .val (.ref b757), .val (.ref b771), .val (.int (1 : Int32)), .val (.ref b757), .val (.int (1 : Int32)), .val (.int (1 : Int32)), .val (.ref b771), .val (.ref b771), .unset] [(.int ((1 : Int32) &&& (1 : Int32)))])) t := fun t k => by rw [(show ((1 : Int32) &&& (1 : Int32)) = (1 : Int32) from by decide)]; exact k
        have S926 : ∀ t, Steps p.tables e below (T917.setTop (mkF m 295 #[.val (.long f1), .second, .val (.long f2), .second, .val (.long c1), .second, .val (.long c2), .second, .val (.int fl), .val (.int (3 : Int32)), .val (.int (2 : Int32)), .val (.int (1 : Int32)), .val (.ref b737), .val (.ref b757), .val (.ref b771), .val (.int (1 : Int32)), .val (.ref b757), .val (.int (1 : Int32)), .val (.int (1 : Int32)), .val (.ref b771), .val (.ref b771), .unset] [(.int ((1 : Int32) + (1 : Int32)))])) t → Steps p.tables e below (T917.setTop (mkF m 280 #[.val (.long f1), .second, .val (.long f2), .second, .val (.long c1), .second, .val (.long c2), .second, .val (.int fl), .val (.int (3 : Int32)), .val (.int (2 : Int32)), .val (.int (1 : Int32)), .val (.ref b737), .val (.ref b757), .val (.ref b771), .val (.int (1 : Int32)), .val (.ref b757), .val (.int (1 : Int32)), .val (.int (1 : Int32)), .val (.ref b771), .val (.ref b771), .unset] [(.int (1 : Int32))])) t := by
          intro t kt
          show Steps p.tables e below (T917.setTop (mkF m 280 #[.val (.long f1), .second, .val (.long f2), .second, .val (.long c1), .second, .val (.long c2), .second, .val (.int fl), .val (.int (3 : Int32)), .val (.int (2 : Int32)), .val (.int (1 : Int32)), .val (.ref b737), .val (.ref b757), .val (.ref b771), .val (.int (1 : Int32)), .val (.ref b757), .val (.int (1 : Int32)), .val (.int (1 : Int32)), .val (.ref b771), .val (.ref b771), .unset] [(.int (1 : Int32))])) _
          refine XS.istore X917.here hx rfl (hb hby at_280) rfl (l' := #[.val (.long f1), .second, .val (.long f2), .second, .val (.long c1), .second, .val (.long c2), .second, .val (.int fl), .val (.int (3 : Int32)), .val (.int (2 : Int32)), .val (.int (1 : Int32)), .val (.ref b737), .val (.ref b757), .val (.ref b771), .val (.int (1 : Int32)), .val (.ref b757), .val (.int (1 : Int32)), .val (.int (1 : Int32)), .val (.ref b771), .val (.ref b771), .unset]) rfl ?_
          refine XS.iload X917.here hx rfl (hb hby at_282) rfl ?_
          refine XS.aload X917.here hx rfl (hb hby at_284) rfl rfl ?_
          refine XS.ifnullNo X917.here hx rfl (hb hby at_286) rfl ?_
          refine XS.iconst X917.here hx rfl (hb hby at_289) ?_
          refine XS.goto X917.here hx rfl (pc0 := 290) (pc' := 294) rfl (hb hby at_290) (by decide) (by decide) ?_
          show Steps p.tables e below (T917.setTop (mkF m 294 #[.val (.long f1), .second, .val (.long f2), .second, .val (.long c1), .second, .val (.long c2), .second, .val (.int fl), .val (.int (3 : Int32)), .val (.int (2 : Int32)), .val (.int (1 : Int32)), .val (.ref b737), .val (.ref b757), .val (.ref b771), .val (.int (1 : Int32)), .val (.ref b757), .val (.int (1 : Int32)), .val (.int (1 : Int32)), .val (.ref b771), .val (.ref b771), .unset] [(.int (1 : Int32)), (.int (1 : Int32))])) _
          refine XS.iadd X917.here hx rfl (hb hby at_294) rfl ?_
          exact kt
        have S927 : ∀ t, Steps p.tables e below (T917.setTop (mkF m 295 #[.val (.long f1), .second, .val (.long f2), .second, .val (.long c1), .second, .val (.long c2), .second, .val (.int fl), .val (.int (3 : Int32)), .val (.int (2 : Int32)), .val (.int (1 : Int32)), .val (.ref b737), .val (.ref b757), .val (.ref b771), .val (.int (1 : Int32)), .val (.ref b757), .val (.int (1 : Int32)), .val (.int (1 : Int32)), .val (.ref b771), .val (.ref b771), .unset] [(.int (2 : Int32))])) t → Steps p.tables e below (T917.setTop (mkF m 295 #[.val (.long f1), .second, .val (.long f2), .second, .val (.long c1), .second, .val (.long c2), .second, .val (.int fl), .val (.int (3 : Int32)), .val (.int (2 : Int32)), .val (.int (1 : Int32)), .val (.ref b737), .val (.ref b757), .val (.ref b771), .val (.int (1 : Int32)), .val (.ref b757), .val (.int (1 : Int32)), .val (.int (1 : Int32)), .val (.ref b771), .val (.ref b771), .unset] [(.int ((1 : Int32) + (1 : Int32)))])) t := fun t k => by rw [(show ((1 : Int32) + (1 : Int32)) = (2 : Int32) from by decide)]; exact k
        have S928 : ∀ t, Steps p.tables e below (T917.setTop (mkF m 301 #[.val (.long f1), .second, .val (.long f2), .second, .val (.long c1), .second, .val (.long c2), .second, .val (.int fl), .val (.int (3 : Int32)), .val (.int (2 : Int32)), .val (.int (1 : Int32)), .val (.ref b737), .val (.ref b757), .val (.ref b771), .val (.int (1 : Int32)), .val (.ref b757), .val (.int (1 : Int32)), .val (.int (1 : Int32)), .val (.ref b771), .val (.ref b771), .val (.int (2 : Int32))] [(.ref b737), (.int (1 : Int32))])) t → Steps p.tables e below (T917.setTop (mkF m 295 #[.val (.long f1), .second, .val (.long f2), .second, .val (.long c1), .second, .val (.long c2), .second, .val (.int fl), .val (.int (3 : Int32)), .val (.int (2 : Int32)), .val (.int (1 : Int32)), .val (.ref b737), .val (.ref b757), .val (.ref b771), .val (.int (1 : Int32)), .val (.ref b757), .val (.int (1 : Int32)), .val (.int (1 : Int32)), .val (.ref b771), .val (.ref b771), .unset] [(.int (2 : Int32))])) t := by
          intro t kt
          show Steps p.tables e below (T917.setTop (mkF m 295 #[.val (.long f1), .second, .val (.long f2), .second, .val (.long c1), .second, .val (.long c2), .second, .val (.int fl), .val (.int (3 : Int32)), .val (.int (2 : Int32)), .val (.int (1 : Int32)), .val (.ref b737), .val (.ref b757), .val (.ref b771), .val (.int (1 : Int32)), .val (.ref b757), .val (.int (1 : Int32)), .val (.int (1 : Int32)), .val (.ref b771), .val (.ref b771), .unset] [(.int (2 : Int32))])) _
          refine XS.istore X917.here hx rfl (hb hby at_295) rfl (l' := #[.val (.long f1), .second, .val (.long f2), .second, .val (.long c1), .second, .val (.long c2), .second, .val (.int fl), .val (.int (3 : Int32)), .val (.int (2 : Int32)), .val (.int (1 : Int32)), .val (.ref b737), .val (.ref b757), .val (.ref b771), .val (.int (1 : Int32)), .val (.ref b757), .val (.int (1 : Int32)), .val (.int (1 : Int32)), .val (.ref b771), .val (.ref b771), .val (.int (2 : Int32))]) rfl ?_
          refine XS.iload X917.here hx rfl (hb hby at_297) rfl ?_
          refine XS.aload X917.here hx rfl (hb hby at_299) rfl rfl ?_
          exact kt
        have f930 := (f901.keep K917q)
        obtain ⟨cq929, kq929, q929a, q929b, q929c⟩ := isOf hZ e917 f930
        obtain ⟨_, _, ⟨T929, L929, k929, n929⟩, -, X929, ⟨Lc929, hQ929, l929, y929, z929⟩, st929⟩ := X917.virtualBack hx (y := (⟨"tidegate/operator/Crossings", "waiting", "()Z"⟩ : MethodName)) (z := (⟨"tidegate/operator/Crossings", "waiting", "()Z"⟩ : MethodName)) hown (mvT hZ (hw _ (List.mem_of_getElem? (i := 74) rfl))) (mvT hZ (hw _ (List.mem_of_getElem? (i := 75) rfl))) (notFace_of_selects (args := #[]) (mvT hZ (hw _ (List.mem_of_getElem? (i := 77) rfl)))) (mvT hZ (hw _ (List.mem_of_getElem? (i := 77) rfl))) (mvT hZ (hw _ (List.mem_of_getElem? (i := 76) rfl))) (by decide) (backOf (W := 1) (rm_wt0 l Z a0 hw [] b737 b880 h917 n0 z923 F918 F920) hZ (hw _ (List.mem_of_getElem? (i := 78) rfl)) (hw _ (List.mem_of_getElem? (i := 2) rfl)) (by decide) (by decide)) q929a q929c (g := (mkF m 301 #[.val (.long f1), .second, .val (.long f2), .second, .val (.long c1), .second, .val (.long c2), .second, .val (.int fl), .val (.int (3 : Int32)), .val (.int (2 : Int32)), .val (.int (1 : Int32)), .val (.ref b737), .val (.ref b757), .val (.ref b771), .val (.int (1 : Int32)), .val (.ref b757), .val (.int (1 : Int32)), .val (.int (1 : Int32)), .val (.ref b771), .val (.ref b771), .val (.int (2 : Int32))] [(.ref b737), (.int (1 : Int32))])) rfl (by rw [hml]; rfl) (Steps.refl _) (argsL := []) (rest := [(.int (1 : Int32))]) (lenOf pd_3 rfl) rfl (by show 2 * 0 + _ ≤ _; exact Nat.le_of_eq rfl) (hb hby at_301) (fun _ _ => ⟨rfl, e917, (by decide : 28 + 0 ≤ _), (by decide : 49 + 0 ≤ _)⟩)
        dsimp only [Pt.U, Pt.locs, Pt.cells, Pt.slots] at X929 l929 y929 z929 st929 hQ929
        subst l929 y929 z929
        obtain ⟨rfl, N929q, e929⟩ := hQ929
        have N929 := Fr.app N917 N929q
        have S931 : ∀ t, Steps p.tables e below (T929.setTop (mkF m 325 #[.val (.long f1), .second, .val (.long f2), .second, .val (.long c1), .second, .val (.long c2), .second, .val (.int fl), .val (.int (3 : Int32)), .val (.int (2 : Int32)), .val (.int (1 : Int32)), .val (.ref b737), .val (.ref b757), .val (.ref b771), .val (.int (1 : Int32)), .val (.ref b757), .val (.int (1 : Int32)), .val (.int (1 : Int32)), .val (.ref b771), .val (.ref b771), .val (.int (2 : Int32))] [(.int ((1 : Int32) &&& (1 : Int32)))])) t → Steps p.tables e below (T929.setTop (mkF m 304 #[.val (.long f1), .second, .val (.long f2), .second, .val (.long c1), .second, .val (.long c2), .second, .val (.int fl), .val (.int (3 : Int32)), .val (.int (2 : Int32)), .val (.int (1 : Int32)), .val (.ref b737), .val (.ref b757), .val (.ref b771), .val (.int (1 : Int32)), .val (.ref b757), .val (.int (1 : Int32)), .val (.int (1 : Int32)), .val (.ref b771), .val (.ref b771), .val (.int (2 : Int32))] [(.int (0 : Int32)), (.int (1 : Int32))])) t := by
          intro t kt
          show Steps p.tables e below (T929.setTop (mkF m 304 #[.val (.long f1), .second, .val (.long f2), .second, .val (.long c1), .second, .val (.long c2), .second, .val (.int fl), .val (.int (3 : Int32)), .val (.int (2 : Int32)), .val (.int (1 : Int32)), .val (.ref b737), .val (.ref b757), .val (.ref b771), .val (.int (1 : Int32)), .val (.ref b757), .val (.int (1 : Int32)), .val (.int (1 : Int32)), .val (.ref b771), .val (.ref b771), .val (.int (2 : Int32))] [(.int (0 : Int32)), (.int (1 : Int32))])) _
          refine XS.iload X929.here hx rfl (hb hby at_304) rfl ?_
          refine XS.iload X929.here hx rfl (hb hby at_306) rfl ?_
          refine XS.icmpYes X929.here hx rfl (pc0 := 308) (pc' := 315) rfl (hb hby at_308) rfl (flt (by decide)).2.1 (by decide) (by decide) ?_
          refine XS.iconst X929.here hx rfl (hb hby at_315) ?_
          refine XS.icmpNo X929.here hx rfl (hb hby at_316) rfl (teq rfl).2 ?_
          refine XS.iconst X929.here hx rfl (hb hby at_319) ?_
          show Steps p.tables e below (T929.setTop (mkF m 320 #[.val (.long f1), .second, .val (.long f2), .second, .val (.long c1), .second, .val (.long c2), .second, .val (.int fl), .val (.int (3 : Int32)), .val (.int (2 : Int32)), .val (.int (1 : Int32)), .val (.ref b737), .val (.ref b757), .val (.ref b771), .val (.int (1 : Int32)), .val (.ref b757), .val (.int (1 : Int32)), .val (.int (1 : Int32)), .val (.ref b771), .val (.ref b771), .val (.int (2 : Int32))] [(.int (1 : Int32)), (.int (1 : Int32))])) _
          refine XS.goto X929.here hx rfl (pc0 := 320) (pc' := 324) rfl (hb hby at_320) (by decide) (by decide) ?_
          refine XS.iand X929.here hx rfl (hb hby at_324) rfl ?_
          exact kt
        have S932 : ∀ t, Steps p.tables e below (T929.setTop (mkF m 325 #[.val (.long f1), .second, .val (.long f2), .second, .val (.long c1), .second, .val (.long c2), .second, .val (.int fl), .val (.int (3 : Int32)), .val (.int (2 : Int32)), .val (.int (1 : Int32)), .val (.ref b737), .val (.ref b757), .val (.ref b771), .val (.int (1 : Int32)), .val (.ref b757), .val (.int (1 : Int32)), .val (.int (1 : Int32)), .val (.ref b771), .val (.ref b771), .val (.int (2 : Int32))] [(.int (1 : Int32))])) t → Steps p.tables e below (T929.setTop (mkF m 325 #[.val (.long f1), .second, .val (.long f2), .second, .val (.long c1), .second, .val (.long c2), .second, .val (.int fl), .val (.int (3 : Int32)), .val (.int (2 : Int32)), .val (.int (1 : Int32)), .val (.ref b737), .val (.ref b757), .val (.ref b771), .val (.int (1 : Int32)), .val (.ref b757), .val (.int (1 : Int32)), .val (.int (1 : Int32)), .val (.ref b771), .val (.ref b771), .val (.int (2 : Int32))] [(.int ((1 : Int32) &&& (1 : Int32)))])) t := fun t k => by rw [(show ((1 : Int32) &&& (1 : Int32)) = (1 : Int32) from by decide)]; exact k
        have S933 : ∀ t, Steps p.tables e below (T929.setTop (mkF m 329 #[.val (.long f1), .second, .val (.long f2), .second, .val (.long c1), .second, .val (.long c2), .second, .val (.int fl), .val (.int (3 : Int32)), .val (.int (2 : Int32)), .val (.int (1 : Int32)), .val (.ref b737), .val (.ref b757), .val (.ref b771), .val (.int (1 : Int32)), .val (.ref b757), .val (.int (1 : Int32)), .val (.int (1 : Int32)), .val (.ref b771), .val (.ref b771), .val (.int (2 : Int32))] [(.int (1 : Int32))])) t → Steps p.tables e below (T929.setTop (mkF m 325 #[.val (.long f1), .second, .val (.long f2), .second, .val (.long c1), .second, .val (.long c2), .second, .val (.int fl), .val (.int (3 : Int32)), .val (.int (2 : Int32)), .val (.int (1 : Int32)), .val (.ref b737), .val (.ref b757), .val (.ref b771), .val (.int (1 : Int32)), .val (.ref b757), .val (.int (1 : Int32)), .val (.int (1 : Int32)), .val (.ref b771), .val (.ref b771), .val (.int (2 : Int32))] [(.int (1 : Int32))])) t := by
          intro t kt
          show Steps p.tables e below (T929.setTop (mkF m 325 #[.val (.long f1), .second, .val (.long f2), .second, .val (.long c1), .second, .val (.long c2), .second, .val (.int fl), .val (.int (3 : Int32)), .val (.int (2 : Int32)), .val (.int (1 : Int32)), .val (.ref b737), .val (.ref b757), .val (.ref b771), .val (.int (1 : Int32)), .val (.ref b757), .val (.int (1 : Int32)), .val (.int (1 : Int32)), .val (.ref b771), .val (.ref b771), .val (.int (2 : Int32))] [(.int (1 : Int32))])) _
          refine XS.istore X929.here hx rfl (hb hby at_325) rfl (l' := #[.val (.long f1), .second, .val (.long f2), .second, .val (.long c1), .second, .val (.long c2), .second, .val (.int fl), .val (.int (3 : Int32)), .val (.int (2 : Int32)), .val (.int (1 : Int32)), .val (.ref b737), .val (.ref b757), .val (.ref b771), .val (.int (1 : Int32)), .val (.ref b757), .val (.int (1 : Int32)), .val (.int (1 : Int32)), .val (.ref b771), .val (.ref b771), .val (.int (2 : Int32))]) rfl ?_
          refine XS.iload X929.here hx rfl (hb hby at_327) rfl ?_
          exact kt
        have C934 : ∀ t, Steps p.tables e below (T929.setTop (mkF m 329 #[.val (.long f1), .second, .val (.long f2), .second, .val (.long c1), .second, .val (.long c2), .second, .val (.int fl), .val (.int (3 : Int32)), .val (.int (2 : Int32)), .val (.int (1 : Int32)), .val (.ref b737), .val (.ref b757), .val (.ref b771), .val (.int (1 : Int32)), .val (.ref b757), .val (.int (1 : Int32)), .val (.int (1 : Int32)), .val (.ref b771), .val (.ref b771), .val (.int (2 : Int32))] [(.int (1 : Int32))])) t → Steps p.tables e below (s₁.setTop (mkF m 0 #[.val (.long f1), .second, .val (.long f2), .second, .val (.long c1), .second, .val (.long c2), .second, .val (.int fl), .unset, .unset, .unset, .unset, .unset, .unset, .unset, .unset, .unset, .unset, .unset, .unset, .unset] [])) t := (fun t k => (C330 t (S735 t (S736 t (st737 t (S750 t (st751.trans (S756 t (st757 t (S767 t (st768.trans (S770 t (st771 t (S783 t (st784.trans (S797 t (st798.trans (S809 t (st871.trans (S878 t (S879 t (S887 t (st888.trans (S899 t (st900.trans (S902 t (S903 t (S904 t (st917.trans (S924 t (S925 t (S926 t (S927 t (S928 t (st929.trans (S931 t (S932 t (S933 t k))))))))))))))))))))))))))))))))))))))
        obtain ⟨fs, hr, hrun, hended, hW, hsame⟩ := X929.leave (v := some (.int (1 : Int32))) (fun h => by rw [Bd.returns] at h; cases h)
        refine ⟨_, _, pre0 _ (C934 _ ?_), hrun, hended, _, _, rfl, ?_, ⟨_, rfl⟩, hW, hsame.mono (by decide) (by decide)⟩
        · exact retN X929 hx (t := .boolean) Bd.returns (by simp) (hb hby at_329) hr
        · show Q_rm0 Z f1 f2 c1 c2 fl h0 n0 _ T929.heap _
          rw [e929]
          exact ⟨rfl, N929⟩
set_option maxRecDepth 65536 in
set_option maxHeartbeats 40000000 in
theorem comes_1 {Post : Tables → Env → Array Value → State → Outcome → State → Prop} (hpost : ∀ tb e args s v u, (limb_1_1.after args s (.returned v) u = true ∧ limb_1_2.after args s (.returned v) u = true ∧ True) → FrameEnd s (.returned v) u (Jvm.fieldLocs frame_1_writes args s ++ Jvm.arrayLocs frame_1_arrays args s ++ Jvm.staticLocs frame_1_statics s) 64 192 → Post tb e args s (.returned v) u) :
    ArmFor flags0 classFile x code maxLocals ret World_1 tables_1 room_1 Calls_1 rest_1 Pre_1 Post := by
  intro l hfl _ _ p e ha hc hk s m args below hf hA hF happ hP
  obtain ⟨hcalls, hrest, hpre⟩ := hP
  obtain ⟨-, -, -, hnamed, -, -, -, hat⟩ := (Spec.applies_iff hf).mp happ
  obtain ⟨hg, hn⟩ := and_e (Cond.before_iff.mp (show (Jvm.Cond.and given_1 narrow_1).before args s = true from hpre))
  obtain ⟨gg1, gg2⟩ := and_e hg
  obtain ⟨gg3, gg4⟩ := and_e gg2
  obtain ⟨gg5, gg6⟩ := and_e gg4
  obtain ⟨gg7, gg8⟩ := and_e gg6
  obtain ⟨gg9, gg10⟩ := and_e gg8
  obtain ⟨w0, w1, w2, w3, w4, rfl⟩ : ∃ w0 w1 w2 w3 w4 : Value, args = #[w0, w1, w2, w3, w4] := by
    have hs : args.size = 5 := by simpa [Cond.value, given_1] using gg1
    obtain ⟨L⟩ := args
    match L, hs with
    | [w0, w1, w2, w3, w4], _ => exact ⟨w0, w1, w2, w3, w4, rfl⟩
  have hw := fun d (hd : d ∈ tables_1) => atoms_spec (ws := Jvm.Cond.code x code maxLocals ret :: tables_1) hat d (List.mem_cons_of_mem _ hd)
  have hfit : Fit s := fun {y c} hc i hi => by
    obtain ⟨ha, rfl⟩ := Array.getElem?_eq_some_iff.mp hc
    have q := List.all_eq_true.mp ((Array.all_eq_true_iff_forall_mem.mp hF) _ (Array.getElem_mem ha)) i (List.mem_range.mpr hi)
    simpa [Array.getElem?_eq_getElem hi] using q
  obtain ⟨i0, ei0⟩ := isL_v gg3
  obtain rfl : w0 = (.long i0) := Option.some.inj ei0
  obtain ⟨i1, ei1⟩ := isL_v gg5
  obtain rfl : w1 = (.long i1) := Option.some.inj ei1
  obtain ⟨i2, ei2⟩ := isL_v gg7
  obtain rfl : w2 = (.long i2) := Option.some.inj ei2
  obtain ⟨i3, ei3⟩ := isL_v gg9
  obtain rfl : w3 = (.long i3) := Option.some.inj ei3
  obtain ⟨i4, ei4⟩ := is_v gg10
  obtain rfl : w4 = (.int i4) := Option.some.inj ei4
  obtain ⟨n, o, h1, h2, h3, _, L, rfl, ⟨rfl, N⟩, hq⟩ := rm0 l s _ hw tables_1 i0 i1 i2 i3 i4 s.heap s.heap.size (Nat.le_refl _)  p e ha hc hk s m _ below hf ((Spec.applies_iff_loose hf).mp happ).1 ⟨rfl, State.Warmed39.refl s, rfl⟩ trivial
  refine ⟨n, _, h1, h2, h3, hpost _ _ _ _ _ _ ⟨Cond.after_iff.mpr rfl, Cond.after_iff.mpr (eq_i res_at (Term.int_eval (1)) rfl), trivial⟩ ⟨hq.1, hq.2.1, (hq.2.2.sift fun y hy => Or.inr (N y hy)).mono (by decide) (by decide)⟩⟩
theorem main_1_1 : Claimed_1_1 := comes_1 fun _ _ _ _ _ _ h hF => ⟨h.1, hF⟩
theorem main_1_2 : Claimed_1_2 := comes_1 fun _ _ _ _ _ _ h hF => ⟨h.2.1, hF⟩
end Jvm.Pilot.@@N@@
namespace Jvm.Pilot.@@N@@
open Jvm Jvm.ClassFile Sem Op Lib Jvm.Free Jvm.Stand Jvm.Pilot.@@N@@.Jvm.D
/-! MADE BY PROGRAM (witnessworld.py) out of the Statement's table words and the real class files: 22 classes; the members and pool entries that the words name. The judged class is class 1, her method 1. -/
namespace start1
open Jvm.ClassFile
def u (s : String) : CpInfo := .utf8 (stringToUtf16 s)
/-- a pool by its gaps: so many unusable entries, then the entry; so many at the end -/
def gap : Nat → List CpInfo → List CpInfo
  | 0, r => r
  | n + 1, r => .unusable :: gap n r
def poolList (es : List (Nat × CpInfo)) (last : Nat) : List CpInfo := es.foldr (fun e r => gap e.1 (e.2 :: r)) (gap last [])
def pool (es : List (Nat × CpInfo)) (last : Nat) : Array CpInfo := ⟨poolList es last⟩
def fileOf (pool : Array CpInfo) (this : Nat) (attrs : Array Attribute := #[]) (ms : Array MethodInfo := #[]) (fl : Nat := 33) (sup : Nat := 0) (ifs : Array Nat := #[]) (fds : Array FieldInfo := #[]) : ClassFile where
  minorVersion := 0
  majorVersion := 65
  constantPool := pool
  accessFlags := fl
  thisClass := this
  superClass := sup
  interfaces := ifs
  fields := fds
  methods := ms
  attributes := attrs
def plain (name : String) (sup : Option ClassId) : Class where
  name := name
  kind := .ordinary
  loader := none
  accessFlags := 33
  super := sup
  interfaces := #[]
  cf := none
  fields := #[]
  methods := #[]
  instanceTypes := #[]
  staticTypes := #[]
  resolved := #[]
  callSites := []
  init := .initialized
  statics := none
  mirror := none

def pool0 : Array CpInfo := pool [(5, u "<init>"), (0, u "()V"), (1, .class_ 10), (1, u "java/lang/Object")] 113

def k0c0 : Code := { maxStack := 0, maxLocals := 1, code := object_method_1_code, exceptionTable := #[], attributes := #[] }
def k0m0 : Method := { name := "<init>", desc := "()V", sig := { parameters := [], returnType := none }, accessFlags := 1, code := some k0c0 }
/-- java/lang/Object -/
def k0 : Class := { plain "java/lang/Object" none with
  accessFlags := 33
  interfaces := #[]
  cf := some (fileOf pool0 8 #[] #[{ accessFlags := 1, nameIndex := 5, descriptorIndex := 6, attributes := #[] }] 33 0 #[] #[])
  fields := #[]
  methods := #[k0m0]
  instanceTypes := #[]
  staticTypes := #[]
  resolved := Array.replicate 124 none
  statics := none }

def pool1 : Array CpInfo := pool [(2, .class_ 4), (0, .nameAndType 5 6), (0, u "java/lang/Object"), (0, u "<init>"), (0, u "()V"), (0, .class_ 8), (0, u "tidegate/operator/Crossings"), (0, .methodref 7 3), (0, .class_ 11), (0, u "tidegate/operator/StageFunctions"), (0, .methodref 10 3), (0, .methodref 7 14), (0, .nameAndType 15 16), (0, u "add"), (0, u "(JLtidegate/operator/StageFunctions;)V"), (0, .methodref 7 18), (0, .nameAndType 19 20), (0, u "take"), (0, u "(J)Ltidegate/operator/StageFunctions;"), (0, .methodref 7 22), (0, .nameAndType 23 24), (0, u "waiting"), (0, u "()Z"), (0, .class_ 26), (0, u "tidegate/operator/CrossingsTakePinLaw"), (2, u "law"), (0, u "(JJJJI)Z")] 3

def k1m0 : Method := { name := "<init>", desc := "()V", sig := { parameters := [], returnType := none }, accessFlags := 1, code := none }
def k1c1 : Code := { maxStack := 4, maxLocals := 22, code := code, exceptionTable := #[], attributes := #[] }
def k1m1 : Method := { name := "law", desc := "(JJJJI)Z", sig := { parameters := [.long, .long, .long, .long, .int], returnType := some .boolean }, accessFlags := 9, code := some k1c1 }
/-- tidegate/operator/CrossingsTakePinLaw -/
def k1 : Class := { plain "tidegate/operator/CrossingsTakePinLaw" (some 0) with
  accessFlags := 49
  interfaces := #[]
  cf := some (fileOf pool1 25 #[] #[{ accessFlags := 1, nameIndex := 5, descriptorIndex := 6, attributes := #[] }, { accessFlags := 9, nameIndex := 29, descriptorIndex := 30, attributes := #[] }] 49 2 #[] #[])
  fields := #[]
  methods := #[k1m0, k1m1]
  instanceTypes := #[]
  staticTypes := #[]
  resolved := Array.replicate 34 none
  statics := none }

def pool2 : Array CpInfo := pool [(1, .methodref 2 3), (0, .class_ 4), (0, .nameAndType 5 6), (0, u "java/lang/Object"), (0, u "<init>"), (0, u "()V"), (0, .class_ 8), (0, u "tidegate/operator/Crossings$Batch"), (0, .methodref 7 10), (0, .nameAndType 5 11), (0, u "(JLtidegate/operator/StageFunctions;)V"), (0, .fieldref 13 14), (0, .class_ 15), (0, .nameAndType 16 17), (0, u "tidegate/operator/Crossings"), (0, u "added"), (0, u "Ltidegate/operator/Crossings$Batch;"), (0, .fieldref 13 19), (0, .nameAndType 20 17), (0, u "taken"), (0, .fieldref 7 22), (0, .nameAndType 23 17), (0, u "next"), (0, .fieldref 7 25), (0, .nameAndType 26 27), (0, u "from"), (0, u "J"), (0, .fieldref 7 29), (0, .nameAndType 30 31), (0, u "stages"), (0, u "Ltidegate/operator/StageFunctions;"), (2, u "add"), (0, u "waiting"), (0, u "()Z"), (1, u "take"), (0, u "(J)Ltidegate/operator/StageFunctions;")] 5

def k2c0 : Code := { maxStack := 6, maxLocals := 1, code := prog_140_method_1_code, exceptionTable := #[], attributes := #[] }
def k2m0 : Method := { name := "<init>", desc := "()V", sig := { parameters := [], returnType := none }, accessFlags := 0, code := some k2c0 }
def k2c1 : Code := { maxStack := 5, maxLocals := 5, code := prog_140_method_2_code, exceptionTable := #[], attributes := #[] }
def k2m1 : Method := { name := "add", desc := "(JLtidegate/operator/StageFunctions;)V", sig := { parameters := [.long, (.object "tidegate/operator/StageFunctions")], returnType := none }, accessFlags := 0, code := some k2c1 }
def k2c2 : Code := { maxStack := 1, maxLocals := 1, code := prog_140_method_3_code, exceptionTable := #[], attributes := #[] }
def k2m2 : Method := { name := "waiting", desc := "()Z", sig := { parameters := [], returnType := some .boolean }, accessFlags := 0, code := some k2c2 }
def k2c3 : Code := { maxStack := 4, maxLocals := 5, code := prog_140_method_4_code, exceptionTable := #[], attributes := #[] }
def k2m3 : Method := { name := "take", desc := "(J)Ltidegate/operator/StageFunctions;", sig := { parameters := [.long], returnType := some (.object "tidegate/operator/StageFunctions") }, accessFlags := 0, code := some k2c3 }
/-- tidegate/operator/Crossings -/
def k2 : Class := { plain "tidegate/operator/Crossings" (some 0) with
  accessFlags := 48
  interfaces := #[]
  cf := some (fileOf pool2 13 #[.nestMembers #[7]] #[{ accessFlags := 0, nameIndex := 5, descriptorIndex := 6, attributes := #[] }, { accessFlags := 0, nameIndex := 34, descriptorIndex := 11, attributes := #[] }, { accessFlags := 0, nameIndex := 35, descriptorIndex := 36, attributes := #[] }, { accessFlags := 0, nameIndex := 38, descriptorIndex := 39, attributes := #[] }] 48 2 #[] #[{ accessFlags := 2, nameIndex := 16, descriptorIndex := 17, attributes := #[] }, { accessFlags := 2, nameIndex := 20, descriptorIndex := 17, attributes := #[] }])
  fields := #[{ name := "added", type := (.object "tidegate/operator/Crossings$Batch"), accessFlags := 2, slot := 0, constantValue := 0 }, { name := "taken", type := (.object "tidegate/operator/Crossings$Batch"), accessFlags := 2, slot := 1, constantValue := 0 }]
  methods := #[k2m0, k2m1, k2m2, k2m3]
  instanceTypes := #[(.object "tidegate/operator/Crossings$Batch"), (.object "tidegate/operator/Crossings$Batch")]
  staticTypes := #[]
  resolved := Array.replicate 45 none
  statics := none }

def pool3 : Array CpInfo := pool [(1, .methodref 2 3), (0, .class_ 4), (0, .nameAndType 5 6), (0, u "java/lang/Object"), (0, u "<init>"), (0, u "()V"), (0, .fieldref 8 9), (0, .class_ 10), (0, .nameAndType 11 12), (0, u "tidegate/operator/Crossings$Batch"), (0, u "from"), (0, u "J"), (0, .fieldref 8 14), (0, .nameAndType 15 16), (0, u "stages"), (0, u "Ltidegate/operator/StageFunctions;"), (0, u "next"), (0, u "Ltidegate/operator/Crossings$Batch;"), (0, u "(JLtidegate/operator/StageFunctions;)V"), (5, .class_ 26), (0, u "tidegate/operator/Crossings")] 2

def k3c0 : Code := { maxStack := 3, maxLocals := 4, code := prog_141_method_1_code, exceptionTable := #[], attributes := #[] }
def k3m0 : Method := { name := "<init>", desc := "(JLtidegate/operator/StageFunctions;)V", sig := { parameters := [.long, (.object "tidegate/operator/StageFunctions")], returnType := none }, accessFlags := 0, code := some k3c0 }
/-- tidegate/operator/Crossings$Batch -/
def k3 : Class := { plain "tidegate/operator/Crossings$Batch" (some 0) with
  accessFlags := 48
  interfaces := #[]
  cf := some (fileOf pool3 8 #[.nestHost 25] #[{ accessFlags := 0, nameIndex := 5, descriptorIndex := 19, attributes := #[] }] 48 2 #[] #[{ accessFlags := 16, nameIndex := 11, descriptorIndex := 12, attributes := #[] }, { accessFlags := 0, nameIndex := 15, descriptorIndex := 16, attributes := #[] }, { accessFlags := 64, nameIndex := 17, descriptorIndex := 18, attributes := #[] }])
  fields := #[{ name := "from", type := .long, accessFlags := 16, slot := 0, constantValue := 0 }, { name := "stages", type := (.object "tidegate/operator/StageFunctions"), accessFlags := 0, slot := 1, constantValue := 0 }, { name := "next", type := (.object "tidegate/operator/Crossings$Batch"), accessFlags := 64, slot := 2, constantValue := 0 }]
  methods := #[k3m0]
  instanceTypes := #[.long, (.object "tidegate/operator/StageFunctions"), (.object "tidegate/operator/Crossings$Batch")]
  staticTypes := #[]
  resolved := Array.replicate 29 none
  statics := none }

def pool4 : Array CpInfo := pool [(1, .methodref 2 3), (0, .class_ 4), (0, .nameAndType 5 6), (0, u "java/lang/Object"), (0, u "<init>"), (0, u "()V"), (0, .class_ 8), (0, u "tidegate/operator/OperatorPublisher$Kind"), (0, .fieldref 10 11), (0, .class_ 12), (0, .nameAndType 13 14), (0, u "tidegate/operator/StageFunctions"), (0, u "kinds"), (0, u "[Ltidegate/operator/OperatorPublisher$Kind;"), (0, .fieldref 10 16), (0, .nameAndType 17 18), (0, u "entries"), (0, u "[Ljava/lang/Object;"), (0, .class_ 20), (0, u "java/lang/String"), (0, .fieldref 10 22), (0, .nameAndType 23 24), (0, u "stages"), (0, u "[Ljava/lang/String;"), (0, .class_ 26), (0, u "tidegate/operator/StageFunctions$Indices"), (0, .methodref 25 3), (0, .fieldref 10 29), (0, .nameAndType 30 31), (0, u "counting"), (0, u "Ltidegate/operator/StageFunctions$Indices;"), (0, .fieldref 10 33), (0, .nameAndType 34 31), (0, u "shaping"), (0, .fieldref 10 36), (0, .nameAndType 37 31), (0, u "producers"), (0, .fieldref 10 39), (0, .nameAndType 40 31), (0, u "referees"), (2, u "size"), (0, u "I"), (72, .class_ 118), (0, u "tidegate/operator/StageFunctions$Hop"), (36, u "started"), (24, u "reached"), (12, u "stopped"), (17, .class_ 212), (0, u "tidegate/operator/StageFunctions$Demands")] 80

def k4c0 : Code := { maxStack := 3, maxLocals := 1, code := prog_193_method_1_code, exceptionTable := #[], attributes := #[] }
def k4m0 : Method := { name := "<init>", desc := "()V", sig := { parameters := [], returnType := none }, accessFlags := 0, code := some k4c0 }
/-- tidegate/operator/StageFunctions -/
def k4 : Class := { plain "tidegate/operator/StageFunctions" (some 0) with
  accessFlags := 48
  interfaces := #[]
  cf := some (fileOf pool4 10 #[.nestMembers #[25, 211, 117]] #[{ accessFlags := 0, nameIndex := 5, descriptorIndex := 6, attributes := #[] }] 48 2 #[] #[{ accessFlags := 2, nameIndex := 13, descriptorIndex := 14, attributes := #[] }, { accessFlags := 2, nameIndex := 17, descriptorIndex := 18, attributes := #[] }, { accessFlags := 2, nameIndex := 23, descriptorIndex := 24, attributes := #[] }, { accessFlags := 2, nameIndex := 43, descriptorIndex := 44, attributes := #[] }, { accessFlags := 2, nameIndex := 155, descriptorIndex := 44, attributes := #[] }, { accessFlags := 18, nameIndex := 30, descriptorIndex := 31, attributes := #[] }, { accessFlags := 18, nameIndex := 34, descriptorIndex := 31, attributes := #[] }, { accessFlags := 18, nameIndex := 37, descriptorIndex := 31, attributes := #[] }, { accessFlags := 18, nameIndex := 40, descriptorIndex := 31, attributes := #[] }, { accessFlags := 2, nameIndex := 193, descriptorIndex := 44, attributes := #[] }, { accessFlags := 2, nameIndex := 180, descriptorIndex := 44, attributes := #[] }])
  fields := #[{ name := "kinds", type := (.array (.object "tidegate/operator/OperatorPublisher$Kind")), accessFlags := 2, slot := 0, constantValue := 0 }, { name := "entries", type := (.array (.object "java/lang/Object")), accessFlags := 2, slot := 1, constantValue := 0 }, { name := "stages", type := (.array (.object "java/lang/String")), accessFlags := 2, slot := 2, constantValue := 0 }, { name := "size", type := .int, accessFlags := 2, slot := 3, constantValue := 0 }, { name := "started", type := .int, accessFlags := 2, slot := 4, constantValue := 0 }, { name := "counting", type := (.object "tidegate/operator/StageFunctions$Indices"), accessFlags := 18, slot := 5, constantValue := 0 }, { name := "shaping", type := (.object "tidegate/operator/StageFunctions$Indices"), accessFlags := 18, slot := 6, constantValue := 0 }, { name := "producers", type := (.object "tidegate/operator/StageFunctions$Indices"), accessFlags := 18, slot := 7, constantValue := 0 }, { name := "referees", type := (.object "tidegate/operator/StageFunctions$Indices"), accessFlags := 18, slot := 8, constantValue := 0 }, { name := "stopped", type := .int, accessFlags := 2, slot := 9, constantValue := 0 }, { name := "reached", type := .int, accessFlags := 2, slot := 10, constantValue := 0 }]
  methods := #[k4m0]
  instanceTypes := #[(.array (.object "tidegate/operator/OperatorPublisher$Kind")), (.array (.object "java/lang/Object")), (.array (.object "java/lang/String")), .int, .int, (.object "tidegate/operator/StageFunctions$Indices"), (.object "tidegate/operator/StageFunctions$Indices"), (.object "tidegate/operator/StageFunctions$Indices"), (.object "tidegate/operator/StageFunctions$Indices"), .int, .int]
  staticTypes := #[]
  resolved := ((Array.replicate 293 none).setIfInBounds 25 (some (.cls 13))).setIfInBounds 27 (some (.method ⟨13, 0⟩))
  statics := none }

def pool5 : Array CpInfo := pool [(1, .class_ 2), (0, u "java/lang/constant/Constable"), (0, .class_ 4), (0, u "java/lang/Object")] 6

/-- java/lang/constant/Constable -/
def k5 : Class := { plain "java/lang/constant/Constable" (some 0) with
  accessFlags := 1537
  interfaces := #[]
  cf := some (fileOf pool5 1 #[] #[] 1537 3 #[] #[])
  fields := #[]
  methods := #[]
  instanceTypes := #[]
  staticTypes := #[]
  resolved := Array.replicate 11 none
  statics := none }

def pool6 : Array CpInfo := pool [(1, .class_ 2), (0, u "java/lang/Comparable"), (0, .class_ 4), (0, u "java/lang/Object")] 7

/-- java/lang/Comparable -/
def k6 : Class := { plain "java/lang/Comparable" (some 0) with
  accessFlags := 1537
  interfaces := #[]
  cf := some (fileOf pool6 1 #[] #[] 1537 3 #[] #[])
  fields := #[]
  methods := #[]
  instanceTypes := #[]
  staticTypes := #[]
  resolved := Array.replicate 12 none
  statics := none }

def pool7 : Array CpInfo := pool [(1, .class_ 2), (0, u "java/io/Serializable"), (0, .class_ 4), (0, u "java/lang/Object")] 2

/-- java/io/Serializable -/
def k7 : Class := { plain "java/io/Serializable" (some 0) with
  accessFlags := 1537
  interfaces := #[]
  cf := some (fileOf pool7 1 #[] #[] 1537 3 #[] #[])
  fields := #[]
  methods := #[]
  instanceTypes := #[]
  staticTypes := #[]
  resolved := Array.replicate 7 none
  statics := none }

def pool8 : Array CpInfo := pool [(2, .class_ 4), (1, u "java/lang/Enum"), (0, u "name"), (0, u "Ljava/lang/String;"), (2, u "ordinal"), (0, u "I"), (1, .class_ 14), (1, u "java/lang/Object"), (4, u "hash"), (86, .class_ 108), (1, u "java/lang/Enum$EnumDesc"), (2, .class_ 112), (0, u "java/lang/constant/Constable"), (0, .class_ 114), (0, u "java/lang/Comparable"), (0, .class_ 116), (0, u "java/io/Serializable")] 87

/-- java/lang/Enum -/
def k8 : Class := { plain "java/lang/Enum" (some 0) with
  accessFlags := 1057
  interfaces := #[5, 6, 7]
  cf := some (fileOf pool8 2 #[.nestMembers #[106]] #[] 1057 12 #[111, 113, 115] #[{ accessFlags := 18, nameIndex := 5, descriptorIndex := 6, attributes := #[] }, { accessFlags := 18, nameIndex := 9, descriptorIndex := 10, attributes := #[] }, { accessFlags := 2, nameIndex := 19, descriptorIndex := 10, attributes := #[] }])
  fields := #[{ name := "name", type := (.object "java/lang/String"), accessFlags := 18, slot := 0, constantValue := 0 }, { name := "ordinal", type := .int, accessFlags := 18, slot := 1, constantValue := 0 }, { name := "hash", type := .int, accessFlags := 2, slot := 2, constantValue := 0 }]
  methods := #[]
  instanceTypes := #[(.object "java/lang/String"), .int, .int]
  staticTypes := #[]
  resolved := Array.replicate 204 none
  statics := none }

def pool9 : Array CpInfo := pool [(1, .class_ 2), (0, u "tidegate/operator/OperatorPublisher$Kind"), (2, u "MAP"), (0, u "Ltidegate/operator/OperatorPublisher$Kind;"), (2, u "FILTER"), (2, u "TAKE"), (2, u "SKIP"), (2, u "TAKE_WHILE"), (2, u "DISTINCT"), (2, u "REDUCE"), (2, u "SCAN"), (2, u "BUFFER"), (2, u "DEFAULT_IF_EMPTY"), (2, u "PRODUCE_ON"), (2, u "CHECKED"), (2, u "WATCH"), (2, u "$VALUES"), (0, u "[Ltidegate/operator/OperatorPublisher$Kind;"), (6, .class_ 55), (1, u "java/lang/Enum"), (8, u "rule"), (0, u "Ltidegate/operator/StageRule;"), (53, .class_ 121), (1, u "tidegate/operator/OperatorPublisher")] 28

/-- tidegate/operator/OperatorPublisher$Kind -/
def k9 : Class := { plain "tidegate/operator/OperatorPublisher$Kind" (some 8) with
  accessFlags := 16432
  interfaces := #[]
  cf := some (fileOf pool9 1 #[.nestHost 119] #[] 16432 53 #[] #[{ accessFlags := 16409, nameIndex := 5, descriptorIndex := 6, attributes := #[] }, { accessFlags := 16409, nameIndex := 9, descriptorIndex := 6, attributes := #[] }, { accessFlags := 16409, nameIndex := 12, descriptorIndex := 6, attributes := #[] }, { accessFlags := 16409, nameIndex := 15, descriptorIndex := 6, attributes := #[] }, { accessFlags := 16409, nameIndex := 18, descriptorIndex := 6, attributes := #[] }, { accessFlags := 16409, nameIndex := 21, descriptorIndex := 6, attributes := #[] }, { accessFlags := 16409, nameIndex := 24, descriptorIndex := 6, attributes := #[] }, { accessFlags := 16409, nameIndex := 27, descriptorIndex := 6, attributes := #[] }, { accessFlags := 16409, nameIndex := 30, descriptorIndex := 6, attributes := #[] }, { accessFlags := 16409, nameIndex := 33, descriptorIndex := 6, attributes := #[] }, { accessFlags := 16409, nameIndex := 36, descriptorIndex := 6, attributes := #[] }, { accessFlags := 16409, nameIndex := 39, descriptorIndex := 6, attributes := #[] }, { accessFlags := 16409, nameIndex := 42, descriptorIndex := 6, attributes := #[] }, { accessFlags := 16, nameIndex := 64, descriptorIndex := 65, attributes := #[] }, { accessFlags := 4122, nameIndex := 45, descriptorIndex := 46, attributes := #[] }])
  fields := #[{ name := "MAP", type := (.object "tidegate/operator/OperatorPublisher$Kind"), accessFlags := 16409, slot := 0, constantValue := 0 }, { name := "FILTER", type := (.object "tidegate/operator/OperatorPublisher$Kind"), accessFlags := 16409, slot := 1, constantValue := 0 }, { name := "TAKE", type := (.object "tidegate/operator/OperatorPublisher$Kind"), accessFlags := 16409, slot := 2, constantValue := 0 }, { name := "SKIP", type := (.object "tidegate/operator/OperatorPublisher$Kind"), accessFlags := 16409, slot := 3, constantValue := 0 }, { name := "TAKE_WHILE", type := (.object "tidegate/operator/OperatorPublisher$Kind"), accessFlags := 16409, slot := 4, constantValue := 0 }, { name := "DISTINCT", type := (.object "tidegate/operator/OperatorPublisher$Kind"), accessFlags := 16409, slot := 5, constantValue := 0 }, { name := "REDUCE", type := (.object "tidegate/operator/OperatorPublisher$Kind"), accessFlags := 16409, slot := 6, constantValue := 0 }, { name := "SCAN", type := (.object "tidegate/operator/OperatorPublisher$Kind"), accessFlags := 16409, slot := 7, constantValue := 0 }, { name := "BUFFER", type := (.object "tidegate/operator/OperatorPublisher$Kind"), accessFlags := 16409, slot := 8, constantValue := 0 }, { name := "DEFAULT_IF_EMPTY", type := (.object "tidegate/operator/OperatorPublisher$Kind"), accessFlags := 16409, slot := 9, constantValue := 0 }, { name := "PRODUCE_ON", type := (.object "tidegate/operator/OperatorPublisher$Kind"), accessFlags := 16409, slot := 10, constantValue := 0 }, { name := "CHECKED", type := (.object "tidegate/operator/OperatorPublisher$Kind"), accessFlags := 16409, slot := 11, constantValue := 0 }, { name := "WATCH", type := (.object "tidegate/operator/OperatorPublisher$Kind"), accessFlags := 16409, slot := 12, constantValue := 0 }, { name := "rule", type := (.object "tidegate/operator/StageRule"), accessFlags := 16, slot := 3, constantValue := 0 }, { name := "$VALUES", type := (.array (.object "tidegate/operator/OperatorPublisher$Kind")), accessFlags := 4122, slot := 13, constantValue := 0 }]
  methods := #[]
  instanceTypes := #[(.object "java/lang/String"), .int, .int, (.object "tidegate/operator/StageRule")]
  staticTypes := #[(.object "tidegate/operator/OperatorPublisher$Kind"), (.object "tidegate/operator/OperatorPublisher$Kind"), (.object "tidegate/operator/OperatorPublisher$Kind"), (.object "tidegate/operator/OperatorPublisher$Kind"), (.object "tidegate/operator/OperatorPublisher$Kind"), (.object "tidegate/operator/OperatorPublisher$Kind"), (.object "tidegate/operator/OperatorPublisher$Kind"), (.object "tidegate/operator/OperatorPublisher$Kind"), (.object "tidegate/operator/OperatorPublisher$Kind"), (.object "tidegate/operator/OperatorPublisher$Kind"), (.object "tidegate/operator/OperatorPublisher$Kind"), (.object "tidegate/operator/OperatorPublisher$Kind"), (.object "tidegate/operator/OperatorPublisher$Kind"), (.array (.object "tidegate/operator/OperatorPublisher$Kind"))]
  resolved := Array.replicate 150 none
  statics := none }

def pool10 : Array CpInfo := pool [(2, .class_ 4), (1, u "java/lang/CharSequence"), (42, .class_ 48), (0, u "java/lang/CharSequence$1CodePointIterator"), (10, .class_ 60), (0, u "java/lang/CharSequence$1CharIterator"), (5, .class_ 67), (0, u "java/lang/Object")] 63

/-- java/lang/CharSequence -/
def k10 : Class := { plain "java/lang/CharSequence" (some 0) with
  accessFlags := 1537
  interfaces := #[]
  cf := some (fileOf pool10 2 #[.nestMembers #[47, 59]] #[] 1537 66 #[] #[])
  fields := #[]
  methods := #[]
  instanceTypes := #[]
  staticTypes := #[]
  resolved := Array.replicate 131 none
  statics := none }

def pool11 : Array CpInfo := pool [(1, .class_ 2), (0, u "java/lang/constant/ConstantDesc"), (0, .class_ 4), (0, u "java/lang/Object")] 32

/-- java/lang/constant/ConstantDesc -/
def k11 : Class := { plain "java/lang/constant/ConstantDesc" (some 0) with
  accessFlags := 1537
  interfaces := #[]
  cf := some (fileOf pool11 1 #[] #[] 1537 3 #[] #[])
  fields := #[]
  methods := #[]
  instanceTypes := #[]
  staticTypes := #[]
  resolved := Array.replicate 37 none
  statics := none }

def pool12 : Array CpInfo := pool [(2, .class_ 4), (1, u "java/lang/Object"), (0, u "<init>"), (0, u "()V"), (3, .class_ 12), (1, u "java/lang/String"), (0, u "value"), (0, u "[B"), (2, u "coder"), (0, u "B"), (2, u "hash"), (0, u "I"), (2, u "hashIsZero"), (0, u "Z"), (13, u "COMPACT_STRINGS"), (534, .class_ 576), (0, u "java/lang/CharSequence"), (22, u "CASE_INSENSITIVE_ORDER"), (0, u "Ljava/util/Comparator;"), (500, u "serialPersistentFields"), (0, u "[Ljava/io/ObjectStreamField;"), (0, .class_ 1104), (0, u "java/lang/String$CaseInsensitiveComparator"), (1, .class_ 1107), (0, u "java/io/Serializable"), (0, .class_ 1109), (0, u "java/lang/Comparable"), (0, .class_ 1111), (0, u "java/lang/constant/Constable"), (0, .class_ 1113), (0, u "java/lang/constant/ConstantDesc"), (2, u "serialVersionUID"), (0, u "J"), (3, u "REPL"), (0, u "C"), (2, u "LATIN1"), (1, u "UTF16")] 323

def k12m0 : Method := { name := "<init>", desc := "()V", sig := { parameters := [], returnType := none }, accessFlags := 1, code := none }
/-- java/lang/String -/
def k12 : Class := { plain "java/lang/String" (some 0) with
  accessFlags := 49
  interfaces := #[7, 6, 10, 5, 11]
  cf := some (fileOf pool12 10 #[.nestMembers #[1103]] #[{ accessFlags := 1, nameIndex := 5, descriptorIndex := 6, attributes := #[] }] 49 2 #[1106, 1108, 575, 1110, 1112] #[{ accessFlags := 18, nameIndex := 13, descriptorIndex := 14, attributes := #[] }, { accessFlags := 18, nameIndex := 17, descriptorIndex := 18, attributes := #[] }, { accessFlags := 2, nameIndex := 21, descriptorIndex := 22, attributes := #[] }, { accessFlags := 2, nameIndex := 25, descriptorIndex := 26, attributes := #[] }, { accessFlags := 26, nameIndex := 1116, descriptorIndex := 1117, attributes := #[] }, { accessFlags := 24, nameIndex := 40, descriptorIndex := 26, attributes := #[] }, { accessFlags := 26, nameIndex := 1101, descriptorIndex := 1102, attributes := #[] }, { accessFlags := 26, nameIndex := 1121, descriptorIndex := 1122, attributes := #[] }, { accessFlags := 25, nameIndex := 599, descriptorIndex := 600, attributes := #[] }, { accessFlags := 24, nameIndex := 1125, descriptorIndex := 18, attributes := #[] }, { accessFlags := 24, nameIndex := 1127, descriptorIndex := 18, attributes := #[] }])
  fields := #[{ name := "value", type := (.array .byte), accessFlags := 18, slot := 0, constantValue := 0 }, { name := "coder", type := .byte, accessFlags := 18, slot := 1, constantValue := 0 }, { name := "hash", type := .int, accessFlags := 2, slot := 2, constantValue := 0 }, { name := "hashIsZero", type := .boolean, accessFlags := 2, slot := 3, constantValue := 0 }, { name := "serialVersionUID", type := .long, accessFlags := 26, slot := 0, constantValue := 0 }, { name := "COMPACT_STRINGS", type := .boolean, accessFlags := 24, slot := 1, constantValue := 0 }, { name := "serialPersistentFields", type := (.array (.object "java/io/ObjectStreamField")), accessFlags := 26, slot := 2, constantValue := 0 }, { name := "REPL", type := .char, accessFlags := 26, slot := 3, constantValue := 0 }, { name := "CASE_INSENSITIVE_ORDER", type := (.object "java/util/Comparator"), accessFlags := 25, slot := 4, constantValue := 0 }, { name := "LATIN1", type := .byte, accessFlags := 24, slot := 5, constantValue := 0 }, { name := "UTF16", type := .byte, accessFlags := 24, slot := 6, constantValue := 0 }]
  methods := #[k12m0]
  instanceTypes := #[(.array .byte), .byte, .int, .boolean]
  staticTypes := #[.long, .boolean, (.array (.object "java/io/ObjectStreamField")), .char, (.object "java/util/Comparator"), .byte, .byte]
  resolved := Array.replicate 1451 none
  statics := none }

def pool13 : Array CpInfo := pool [(1, .methodref 2 3), (0, .class_ 4), (0, .nameAndType 5 6), (0, u "java/lang/Object"), (0, u "<init>"), (0, u "()V"), (0, .fieldref 8 9), (0, .class_ 10), (0, .nameAndType 11 12), (0, u "tidegate/operator/StageFunctions$Indices"), (0, u "at"), (0, u "[I"), (2, u "count"), (0, u "I"), (23, .class_ 41), (0, u "tidegate/operator/StageFunctions")] 2

def k13c0 : Code := { maxStack := 2, maxLocals := 1, code := prog_196_method_1_code, exceptionTable := #[], attributes := #[] }
def k13m0 : Method := { name := "<init>", desc := "()V", sig := { parameters := [], returnType := none }, accessFlags := 2, code := some k13c0 }
/-- tidegate/operator/StageFunctions$Indices -/
def k13 : Class := { plain "tidegate/operator/StageFunctions$Indices" (some 0) with
  accessFlags := 48
  interfaces := #[]
  cf := some (fileOf pool13 8 #[.nestHost 40] #[{ accessFlags := 2, nameIndex := 5, descriptorIndex := 6, attributes := #[] }] 48 2 #[] #[{ accessFlags := 2, nameIndex := 11, descriptorIndex := 12, attributes := #[] }, { accessFlags := 2, nameIndex := 15, descriptorIndex := 16, attributes := #[] }])
  fields := #[{ name := "at", type := (.array .int), accessFlags := 2, slot := 0, constantValue := 0 }, { name := "count", type := .int, accessFlags := 2, slot := 1, constantValue := 0 }]
  methods := #[k13m0]
  instanceTypes := #[(.array .int), .int]
  staticTypes := #[]
  resolved := Array.replicate 44 none
  statics := none }

def pool14 : Array CpInfo := pool [(1, u "java/lang/Cloneable"), (0, .class_ 1), (0, u "java/lang/Object"), (0, .class_ 3)] 3

/-- java/lang/Cloneable -/
def k14 : Class := { plain "java/lang/Cloneable" (some 0) with
  accessFlags := 1537
  interfaces := #[]
  cf := some (fileOf pool14 2 #[] #[] 1537 4 #[] #[])
  fields := #[]
  methods := #[]
  instanceTypes := #[]
  staticTypes := #[]
  resolved := Array.replicate 8 none
  statics := none }

/-- the primitive byte -/
def k15 : Class := { plain "byte" none with kind := .primitive 'B', accessFlags := 0x411 }
/-- [B -/
def k16 : Class := { plain "[B" (some 0) with kind := .array 15 .byte, interfaces := #[14, 7], accessFlags := 1041 }

/-- the primitive int -/
def k17 : Class := { plain "int" none with kind := .primitive 'I', accessFlags := 0x411 }
/-- [I -/
def k18 : Class := { plain "[I" (some 0) with kind := .array 17 .int, interfaces := #[14, 7], accessFlags := 1041 }

/-- [Ljava/lang/Object; -/
def k19 : Class := { plain "[Ljava/lang/Object;" (some 0) with kind := .array 0 (.object "java/lang/Object"), interfaces := #[14, 7], accessFlags := 1041 }

/-- [Ljava/lang/String; -/
def k20 : Class := { plain "[Ljava/lang/String;" (some 0) with kind := .array 12 (.object "java/lang/String"), interfaces := #[14, 7], accessFlags := 1041 }

/-- [Ltidegate/operator/OperatorPublisher$Kind; -/
def k21 : Class := { plain "[Ltidegate/operator/OperatorPublisher$Kind;" (some 0) with kind := .array 9 (.object "tidegate/operator/OperatorPublisher$Kind"), interfaces := #[14, 7], accessFlags := 1041 }

def heap : Heap := #[]
def classes : Array Class := #[k0, k1, k2, k3, k4, k5, k6, k7, k8, k9, k10, k11, k12, k13, k14, k15, k16, k17, k18, k19, k20, k21]
def interned : List (Array UInt16 × Addr) := []
def slotsUsed : Nat := 0
def theMethod : MethodId := ⟨1, 1⟩
def args0 : Array Value := #[.long 1, .long 2, .long 3, .long 4, .int 3]
def aboutOver (below : List Frame) : State where
  vm := { classes := classes, interned := interned.toArray }
  heap := heap
  slotsUsed := slotsUsed
  threads := #[{ frames := .invoking theMethod args0 :: below }]
def below0 : List Frame := [.native { method := ⟨0, 0⟩, args := #[] }]
def about1 : State := aboutOver below0
def p0 : Program := .bare "" "" ""
def e0 : Env := launch0.env 0 0 0
theorem w_frames : about1.frames = Frame.invoking theMethod args0 :: below0 := rfl
set_option maxRecDepth 65536 in
theorem w_args : argsFit about1.vm theMethod args0 = true := by decide +kernel
set_option maxRecDepth 65536 in
theorem w_heap : heapFits about1 = true := by decide +kernel
set_option maxRecDepth 65536 in
theorem w_runnable : about1.curStatus? = some .runnable := by decide +kernel
set_option maxRecDepth 65536 in
theorem w_alone : about1.alone = true := by decide +kernel
set_option maxRecDepth 65536 in
theorem w_named : about1.methodNamed? x = some theMethod := by decide +kernel
set_option maxRecDepth 65536 in
theorem w_hears : about1.hears theMethod below0 = true := by decide +kernel
set_option maxRecDepth 65536 in
theorem w_ripe : about1.ripe theMethod args0 below0 = true := by decide +kernel
theorem w_running : about1.status = .running := rfl
set_option maxRecDepth 65536 in
theorem w_room : about1.hasRoom e0.platform room_1 = true :=
  launch0.hasRoom_least _ room_1 (by decide +kernel) (by decide +kernel) (by decide +kernel) (by decide +kernel) (by decide +kernel) (by decide +kernel)
theorem allAtoms_all (ts : List Jvm.Cond) (a : Array Jvm.Value) (st : Jvm.State) : (allAtoms ts).before a st = ts.all (fun c => c.before a st) := by
  induction ts with
  | nil => rfl
  | cons c t ih =>
    show (Jvm.Cond.and c (allAtoms t)).before a st = _
    rw [Jvm.Cond.before_and, ih, List.all_cons]
def words1 : List Jvm.Cond := Jvm.Cond.code x code maxLocals ret :: tables_1
/-- a 'code' word, met by the world's own term for the bytes: nothing is compared byte by byte -/
theorem code_word {y : MethodName} {bytes : ByteArray} {mx : Nat} {rt : Option FieldType} {a : Array Value} {s : State} {m : MethodId} {meth : Method} {c : Code} (h1 : s.methodNamed? y = some m) (h2 : s.vm.method? m = some meth) (h3 : meth.code = some c) (h4 : c.code = bytes)
    (h5 : (c.maxLocals == mx && c.exceptionTable.isEmpty && decide (c.maxStack ≤ mostOperands) && decide (meth.sig.returnType = rt) && !meth.locks && decide (parseMethodDescriptor y.desc = some meth.sig)) = true) : (Jvm.Cond.code y bytes mx rt).before a s = true := by
  simp only [Bool.and_eq_true, beq_iff_eq, Bool.not_eq_true', decide_eq_true_eq] at h5
  obtain ⟨⟨⟨⟨⟨g1, g2⟩, g3⟩, g4⟩, g5⟩, g6⟩ := h5
  simp [Cond.before, Cond.holds, Cond.value, h1, h2, h3, h4, g1, g2, g3, g4, g5, g6]
def isCode : Jvm.Cond → Bool
  | .code _ _ _ _ => true
  | _ => false
theorem all_split {L : List Jvm.Cond} {P : Jvm.Cond → Bool} (h1 : L.all (fun c => isCode c || P c) = true) (h2 : ∀ c ∈ L.filter isCode, P c = true) : L.all P = true := by
  refine List.all_eq_true.mpr fun c hc => ?_
  have h := List.all_eq_true.mp h1 c hc
  rcases Bool.eq_false_or_eq_true (isCode c) with hi | hi
  · exact h2 c (List.mem_filter.mpr ⟨hc, hi⟩)
  · simpa [hi] using h
set_option maxRecDepth 65536 in
theorem w_c0 : (Jvm.Cond.code x code maxLocals ret).before args0 about1 = true := code_word (m := ⟨1, 1⟩) (meth := k1m1) (c := k1c1) (by decide +kernel) rfl rfl rfl (by decide +kernel)
set_option maxRecDepth 65536 in
theorem w_c1 : (Jvm.Cond.code ({ cls := "tidegate/operator/Crossings", name := "<init>", desc := "()V" } : Jvm.MethodName) prog_140_method_1_code (1 : Nat) (Option.none : Option Jvm.ClassFile.FieldType)).before args0 about1 = true := code_word (m := ⟨2, 0⟩) (meth := k2m0) (c := k2c0) (by decide +kernel) rfl rfl rfl (by decide +kernel)
set_option maxRecDepth 65536 in
theorem w_c2 : (Jvm.Cond.code ({ cls := "java/lang/Object", name := "<init>", desc := "()V" } : Jvm.MethodName) object_method_1_code (1 : Nat) (Option.none : Option Jvm.ClassFile.FieldType)).before args0 about1 = true := code_word (m := ⟨0, 0⟩) (meth := k0m0) (c := k0c0) (by decide +kernel) rfl rfl rfl (by decide +kernel)
set_option maxRecDepth 65536 in
theorem w_c3 : (Jvm.Cond.code ({ cls := "tidegate/operator/Crossings$Batch", name := "<init>", desc := "(JLtidegate/operator/StageFunctions;)V" } : Jvm.MethodName) prog_141_method_1_code (4 : Nat) (Option.none : Option Jvm.ClassFile.FieldType)).before args0 about1 = true := code_word (m := ⟨3, 0⟩) (meth := k3m0) (c := k3c0) (by decide +kernel) rfl rfl rfl (by decide +kernel)
set_option maxRecDepth 65536 in
theorem w_c4 : (Jvm.Cond.code ({ cls := "tidegate/operator/StageFunctions", name := "<init>", desc := "()V" } : Jvm.MethodName) prog_193_method_1_code (1 : Nat) (Option.none : Option Jvm.ClassFile.FieldType)).before args0 about1 = true := code_word (m := ⟨4, 0⟩) (meth := k4m0) (c := k4c0) (by decide +kernel) rfl rfl rfl (by decide +kernel)
set_option maxRecDepth 65536 in
theorem w_c5 : (Jvm.Cond.code ({ cls := "tidegate/operator/StageFunctions$Indices", name := "<init>", desc := "()V" } : Jvm.MethodName) prog_196_method_1_code (1 : Nat) (Option.none : Option Jvm.ClassFile.FieldType)).before args0 about1 = true := code_word (m := ⟨13, 0⟩) (meth := k13m0) (c := k13c0) (by decide +kernel) rfl rfl rfl (by decide +kernel)
set_option maxRecDepth 65536 in
theorem w_c6 : (Jvm.Cond.code ({ cls := "tidegate/operator/Crossings", name := "add", desc := "(JLtidegate/operator/StageFunctions;)V" } : Jvm.MethodName) prog_140_method_2_code (5 : Nat) (Option.none : Option Jvm.ClassFile.FieldType)).before args0 about1 = true := code_word (m := ⟨2, 1⟩) (meth := k2m1) (c := k2c1) (by decide +kernel) rfl rfl rfl (by decide +kernel)
set_option maxRecDepth 65536 in
theorem w_c7 : (Jvm.Cond.code ({ cls := "tidegate/operator/Crossings", name := "take", desc := "(J)Ltidegate/operator/StageFunctions;" } : Jvm.MethodName) prog_140_method_4_code (5 : Nat) (Option.some (Jvm.ClassFile.FieldType.object "tidegate/operator/StageFunctions"))).before args0 about1 = true := code_word (m := ⟨2, 3⟩) (meth := k2m3) (c := k2c3) (by decide +kernel) rfl rfl rfl (by decide +kernel)
set_option maxRecDepth 65536 in
theorem w_c8 : (Jvm.Cond.code ({ cls := "tidegate/operator/Crossings", name := "waiting", desc := "()Z" } : Jvm.MethodName) prog_140_method_3_code (1 : Nat) (Option.some Jvm.ClassFile.FieldType.boolean)).before args0 about1 = true := code_word (m := ⟨2, 2⟩) (meth := k2m2) (c := k2c2) (by decide +kernel) rfl rfl rfl (by decide +kernel)
def codes1 : List Jvm.Cond := [Jvm.Cond.code x code maxLocals ret, Jvm.Cond.code ({ cls := "tidegate/operator/Crossings", name := "<init>", desc := "()V" } : Jvm.MethodName) prog_140_method_1_code (1 : Nat) (Option.none : Option Jvm.ClassFile.FieldType), Jvm.Cond.code ({ cls := "java/lang/Object", name := "<init>", desc := "()V" } : Jvm.MethodName) object_method_1_code (1 : Nat) (Option.none : Option Jvm.ClassFile.FieldType), Jvm.Cond.code ({ cls := "tidegate/operator/Crossings$Batch", name := "<init>", desc := "(JLtidegate/operator/StageFunctions;)V" } : Jvm.MethodName) prog_141_method_1_code (4 : Nat) (Option.none : Option Jvm.ClassFile.FieldType), Jvm.Cond.code ({ cls := "tidegate/operator/StageFunctions", name := "<init>", desc := "()V" } : Jvm.MethodName) prog_193_method_1_code (1 : Nat) (Option.none : Option Jvm.ClassFile.FieldType), Jvm.Cond.code ({ cls := "tidegate/operator/StageFunctions$Indices", name := "<init>", desc := "()V" } : Jvm.MethodName) prog_196_method_1_code (1 : Nat) (Option.none : Option Jvm.ClassFile.FieldType), Jvm.Cond.code ({ cls := "tidegate/operator/Crossings", name := "add", desc := "(JLtidegate/operator/StageFunctions;)V" } : Jvm.MethodName) prog_140_method_2_code (5 : Nat) (Option.none : Option Jvm.ClassFile.FieldType), Jvm.Cond.code ({ cls := "tidegate/operator/Crossings", name := "take", desc := "(J)Ltidegate/operator/StageFunctions;" } : Jvm.MethodName) prog_140_method_4_code (5 : Nat) (Option.some (Jvm.ClassFile.FieldType.object "tidegate/operator/StageFunctions")), Jvm.Cond.code ({ cls := "tidegate/operator/Crossings", name := "waiting", desc := "()Z" } : Jvm.MethodName) prog_140_method_3_code (1 : Nat) (Option.some Jvm.ClassFile.FieldType.boolean)]
set_option maxRecDepth 65536 in
theorem codes_eq : words1.filter isCode = codes1 := rfl
theorem w_codes : ∀ c ∈ words1.filter isCode, c.before args0 about1 = true := by
  rw [codes_eq]
  intro c hc
  simp only [codes1, List.mem_cons, List.not_mem_nil, or_false] at hc
  rcases hc with rfl | rfl | rfl | rfl | rfl | rfl | rfl | rfl | rfl
  · exact w_c0
  · exact w_c1
  · exact w_c2
  · exact w_c3
  · exact w_c4
  · exact w_c5
  · exact w_c6
  · exact w_c7
  · exact w_c8
set_option maxRecDepth 65536 in
theorem w_t1 : (words1.take 24).all (fun c => isCode c || c.before args0 about1) = true := by decide +kernel
set_option maxRecDepth 65536 in
theorem w_t2 : ((words1.drop 24).take 24).all (fun c => isCode c || c.before args0 about1) = true := by decide +kernel
set_option maxRecDepth 65536 in
theorem w_t3 : (((words1.drop 24).drop 24).take 24).all (fun c => isCode c || c.before args0 about1) = true := by decide +kernel
set_option maxRecDepth 65536 in
theorem w_t4 : (((words1.drop 24).drop 24).drop 24).all (fun c => isCode c || c.before args0 about1) = true := by decide +kernel
theorem w_tables : (allAtoms (Jvm.Cond.code x code maxLocals ret :: tables_1)).before args0 about1 = true := by
  rw [allAtoms_all]
  show words1.all (fun c => c.before args0 about1) = true
  refine all_split ?_ w_codes
  rw [← List.take_append_drop 24 words1, List.all_append, w_t1, ← List.take_append_drop 24 (words1.drop 24), List.all_append, w_t2, ← List.take_append_drop 24 ((words1.drop 24).drop 24), List.all_append, w_t3, w_t4]
  rfl
set_option maxRecDepth 65536 in
theorem w_case : (Jvm.Cond.and given_1 narrow_1).before args0 about1 = true := by decide +kernel
theorem w_applies : (headSpec (Jvm.Cond.code x code maxLocals ret :: tables_1) room_1).applies x e0.platform about1 = true :=
  (Spec.applies_iff w_frames).mpr ⟨w_running, w_runnable, w_alone, w_named, w_hears, w_ripe, w_room, w_tables⟩
theorem atStart : AtStart classFile x code maxLocals ret World_1 tables_1 room_1 Calls_1 rest_1 Pre_1 launch0 p0 e0 about1 theMethod args0 below0 :=
  ⟨lists_1, trivial, launch0.admits_env _ _ _, launch0.least_env, fairChoices_fair.cas, fairChoices_fair.clock, w_frames, w_args, w_heap, w_applies, trivial, trivial, w_case⟩
end start1
theorem witness_1 : WitnessClaimed_1 := ⟨start1.p0, start1.e0, start1.about1, start1.theMethod, start1.args0, start1.below0, start1.atStart⟩
end Jvm.Pilot.@@N@@
