import JvmDerived
import JvmDerived.Pilot.@@N@@Statement
import JvmDerived.Pilot.@@N@@Code
set_option linter.unusedVariables false
set_option linter.unusedSimpArgs false
namespace Jvm.OwnKit
open Sem ClassFile Op Lib Jvm.Stand Jvm.Free Jvm.LawKit Jvm.RoadKit
/-- a run of the method y that stands at pc with the locals ls, the stack st and the heap h comes to a return that Q allows -/
def ORun (l : Launch) (y : MethodName) (bytes : ByteArray) (maxL : Nat) (ret : Option FieldType) (R : Room) (Z : State) (n0 : Nat) (as' : Array Value) (Q : Option Value → Heap → Prop) (h : Heap) (cells slots pc : Nat) (ls : List Slot) (st : List Value) : Prop :=
  ∀ (p : Program) (e : Env) (s : State) (m : MethodId) (below : List Frame) (meth : Method) (c : Code) (T : State) (locs : List Loc),
    p.tables.exec = Jvm.exec → Z.Warmed39 s.vm → c.code = bytes → c.maxLocals = maxL → s.vm.findClass y.cls = some m.cls → meth.name = y.name → meth.sig.returnType = ret → meth.locks = false →
    Stand p l e R s m as' below meth c T locs cells slots → T.heap = h → Fr n0 locs →
    ∃ (U : State) (o : Outcome), Steps p.tables e below (T.setTop (mkF m pc ls.toArray st)) U ∧ U.status = .running ∧ Ended U below o ∧ ∃ v L, o = .returned v ∧ (Q v U.heap ∧ Fr n0 L) ∧ FrameEnd s o U L R.cells R.slots
/-- the contract of a method at the heap h and the arguments as' -/
def Ct (l : Launch) (y : MethodName) (bytes : ByteArray) (maxL : Nat) (ret : Option FieldType) (ws : List Jvm.Cond) (R : Room) (Z : State) (n0 : Nat) (as' : Array Value) (h : Heap) (Q : Option Value → Heap → Prop) : Prop :=
  MetFree l y (head1 (Jvm.Cond.code y bytes maxL ret :: ws) R) (fun a U => a = as' ∧ Z.Warmed39 U.vm ∧ U.heap = h) (fun _ _ _ _ _ => True) (fun _ U o U' => ∃ v L, o = .returned v ∧ (Q v U'.heap ∧ Fr n0 L) ∧ FrameEnd U o U' L R.cells R.slots)
def D (bytes : ByteArray) (pc : Nat) (i : Instr) (len nx : Nat) : Prop := decode bytes pc = .ok (i, len) ∧ pc + len = nx
def DB (bytes : ByteArray) (pc : Nat) (i : Int → Instr) (off : Int) (nx tgt : Nat) : Prop := decode bytes pc = .ok (i off, 3) ∧ pc + 3 = nx ∧ 0 ≤ (pc : Int) + off ∧ ((pc : Int) + off).toNat = tgt
/-- an array of a primitive kind whose elements are kept as ints, by their list -/
def Ary (Z : State) (h : Heap) (a : Addr) (ty : FieldType) (vs : List Int32) : Prop := ∃ c : Cell, Arr Z h a c ty ∧ c.slots = (vs.map Value.int).toArray
theorem eq_ints {args : Array Value} {first s : State} {o : Option Outcome} {idx : List Nat} {a b : Term} {x y : Int32} (ha : a.eval args first o idx s = some (.int x)) (hb : b.eval args first o idx s = some (.int y)) : (Jvm.Cond.eq a b).value args first o s idx = some (decide (x = y)) := by simp [Cond.value, ha, hb]
theorem fldEq {args : Array Value} {s : State} {t : Term} {C n d : String} {x : Addr} {k : Int32} (ht : t.eval args s none [] s = some (.ref x)) (h : (Jvm.Cond.eq (.field t C n d) (.int k)).value args s none s [] = some true) : Fld s s.heap x C n d (.int k) := by
  have e : (Term.field t C n d).eval args s none [] s = some (.int k) := by
    obtain ⟨v, w, e1, e2, k1, k2⟩ := cmp_v (Or.inl h)
    cases (show some (Value.int k) = some w from e2)
    obtain ⟨z, rfl⟩ := k2
    have q := gotT (eq_ints e1 e2) h
    rw [q] at e1; exact e1
  exact Fld.start (by rw [← fld_at ht]; exact e)
theorem n32_add (a b : Nat) : a.toInt32 + b.toInt32 = (a + b).toInt32 := (Int32.ofNat_add a b).symm
theorem n32_int {a : Nat} (h : a < 2 ^ 31) : a.toInt32.toInt = a := Int32.toInt_ofNat_of_lt h
theorem n32_sub {a b : Nat} (h : b ≤ a) : a.toInt32 - b.toInt32 = (a - b).toInt32 := by
  have e : (a - b).toInt32 + b.toInt32 = a.toInt32 := by rw [n32_add]; congr 1; omega
  rw [← e, Int32.add_sub_cancel]
theorem n32_lt {a b : Nat} (ha : a < 2 ^ 31) (hb : b < 2 ^ 31) : a.toInt32 < b.toInt32 ↔ a < b := by
  rw [Int32.lt_iff_toInt_lt, n32_int ha, n32_int hb]; omega
theorem n32_eq {a b : Nat} (ha : a < 2 ^ 31) (hb : b < 2 ^ 31) : a.toInt32 = b.toInt32 ↔ a = b := by
  rw [← Int32.toInt_inj, n32_int ha, n32_int hb]; omega
theorem n32_clamp {a : Nat} (h : a < 2 ^ 31) : a.toInt32.toNatClampNeg = a := by
  show a.toInt32.toInt.toNat = a
  rw [n32_int h]; rfl
theorem n32_nn {a : Nat} (h : a < 2 ^ 31) : ¬ a.toInt32 < 0 := by
  have h0 : (0 : Int32).toInt = 0 := by decide
  rw [Int32.lt_iff_toInt_lt, n32_int h]; omega
theorem n32_of {x : Int32} (h : ¬ x < 0) : ∃ n : Nat, x = n.toInt32 ∧ n < 2 ^ 31 ∧ x.toInt = n := ⟨x.toNatClampNeg, (back32 h).1.symm, (back32 h).2, nat_of h⟩
theorem n32_and (x m : Int32) (k : Nat) (hk : k ≤ 31) (hm : m.toBitVec.toNat = 2 ^ k - 1) : ∃ n : Nat, x &&& m = n.toInt32 ∧ n < 2 ^ k := by
  have h1 := c_mask x m k hk hm
  have h2 : (0 : Int) ≤ (x &&& m).toInt := by rw [h1]; exact Int.emod_nonneg _ (by have := Nat.pow_pos (n := k) (show 0 < 2 by decide); omega)
  have h3 : (x &&& m).toInt < (2 ^ k : Nat) := by rw [h1]; exact Int.emod_lt_of_pos _ (by have := Nat.pow_pos (n := k) (show 0 < 2 by decide); omega)
  have h0 : (0 : Int32).toInt = 0 := by decide
  obtain ⟨n, e1, e2, e3⟩ := n32_of (x := x &&& m) (by rw [Int32.lt_iff_toInt_lt]; omega)
  exact ⟨n, e1, by omega⟩
theorem n32_rem {u k : Nat} (hu : u < 2 ^ 31) (hk : 0 < k) (hk2 : k < 2 ^ 31) : u.toInt32 % k.toInt32 = (u % k).toInt32 := by
  have h2 := (c_irem u.toInt32 k.toInt32 k (n32_int hk2)).1 (by rw [n32_int hu]; omega)
  have h3 := Nat.mod_lt u hk
  refine Int32.toInt_inj.mp ?_
  rw [h2, n32_int hu, n32_int (by omega)]
  omega
theorem n32_ushr (x q : Int32) (k : Nat) (hk : q.toBitVec.toNat % 32 = k) (h0 : 0 < k) : ∃ u : Nat, (x.toUInt32 >>> (q &&& 31).toUInt32).toInt32 = u.toInt32 ∧ u < 2 ^ 31 := by
  have h1 := c_iushr x q k hk h0
  have h2 : (2 : Nat) ≤ 2 ^ k := Nat.le_trans (by decide) (Nat.pow_le_pow_right (by decide) h0)
  have h3 : 0 ≤ (x.toInt % 4294967296) / ((2 ^ k : Nat) : Int) := Int.ediv_nonneg (by omega) (by omega)
  have z : (0 : Int32).toInt = 0 := by decide
  obtain ⟨n, e1, e2, e3⟩ := n32_of (x := (x.toUInt32 >>> (q &&& 31).toUInt32).toInt32) (by rw [Int32.lt_iff_toInt_lt]; omega)
  exact ⟨n, e1, e2⟩
theorem n32_mod (x : Int32) (k : Nat) (hk : 0 < k) (hk2 : k < 2 ^ 31) : ∃ n : Nat, (x &&& (2147483647 : Int32)) % k.toInt32 = n.toInt32 ∧ n < k := by
  have h1 := c_mask x 2147483647 31 (by decide) (by decide)
  have h2 := (c_irem (x &&& 2147483647) k.toInt32 k (n32_int hk2)).1 (by omega)
  have h4 := Int.emod_nonneg (x &&& 2147483647).toInt (b := (k : Int)) (by omega)
  have h5 := Int.emod_lt_of_pos (x &&& 2147483647).toInt (b := (k : Int)) (by omega)
  have h0 : (0 : Int32).toInt = 0 := by decide
  obtain ⟨n, e1, e2, e3⟩ := n32_of (x := (x &&& (2147483647 : Int32)) % k.toInt32) (by rw [Int32.lt_iff_toInt_lt]; omega)
  exact ⟨n, e1, by omega⟩
theorem lenEq {args : Array Value} {s : State} {t : Term} {a : Addr} {cl : Cell} {ty : FieldType} {k : Int32} (ht : t.eval args s none [] s = some (.ref a)) (A : Arr s s.heap a cl ty) (h : (Jvm.Cond.eq (.length t) (.int k)).value args s none s [] = some true) : cl.slots.size < 2 ^ 31 ∧ cl.slots.size.toInt32 = k := by
  have ha := A.fin (Vm.Alike.refl _)
  obtain ⟨v, w, e1, e2, k1, k2⟩ := cmp_v (Or.inl h)
  by_cases hl : cl.slots.size < 2 ^ 31
  · have e := len_f ht ha hl
    exact ⟨hl, gotT (eq_ints e (show (Term.int k).eval args s none [] s = some (.int k) from rfl)) h⟩
  · simp [Term.eval, ht, ha, hl] at e1
theorem elemEq {args : Array Value} {s : State} {t u : Term} {a b : Addr} {cl : Cell} {ty : FieldType} {j : Int32} (ht : t.eval args s none [] s = some (.ref a)) (A : Arr s s.heap a cl ty) (hu : u.eval args s none [] s = some (.ref b)) (h : (Jvm.Cond.eq (.elem t (.int j)) u).value args s none s [] = some true) : cl.slots[j.toNatClampNeg]? = some (.ref b) := by
  obtain ⟨v, w, e1, e2, k1, k2⟩ := cmp_v (Or.inl h)
  cases hu.symm.trans e2
  have hv : v.isRef = true := k2.2
  have q := gotT (eq_R e1 hu hv rfl) h
  rw [q] at e1
  exact (elem_in e1 ht rfl A.1).2
section AryFacts
variable {Z : State} {h h' : Heap} {a b : Addr} {ty : FieldType} {vs vs' : List Int32} {sl : Nat} {v : Value} {ws : List Addr}
theorem Ary.lt (F : Ary Z h a ty vs) : a < h.size := by obtain ⟨c, A, -⟩ := F; exact A.lt
theorem Ary.ext (F : Ary Z h a ty vs) (E : Ext h h') : Ary Z h' a ty vs := by obtain ⟨c, A, q⟩ := F; exact ⟨c, A.ext E, q⟩
theorem Ary.other (F : Ary Z h b ty vs) (W : Wr h h' a sl v) (q : b ≠ a) : Ary Z h' b ty vs := by obtain ⟨c, A, r⟩ := F; exact ⟨c, A.other W q, r⟩
theorem Ary.keep (F : Ary Z h a ty vs) (K : Keep h h' ws) (q : a ∉ ws) : Ary Z h' a ty vs := by obtain ⟨c, A, r⟩ := F; exact ⟨c, ⟨K.2.1 a c A.1 q, A.2⟩, r⟩
theorem Ary.set {i : Nat} {x : Int32} (F : Ary Z h a ty vs) (W : Wr h h' a i (.int x)) (e : vs.set i x = vs') : Ary Z h' a ty vs' := by
  obtain ⟨c, A, r⟩ := F
  refine ⟨_, A.same W, ?_⟩
  subst e
  simp [Cell.setSlot, r, List.map_set]
theorem Ary.new {k : ClassId} {n : Int32} {m : Nat} (A : Arr Z h a (newA k ty n) ty) (hd : defaultValue ty = .int 0) (hn : n.toNatClampNeg = m) : Ary Z h a ty (List.replicate m 0) := by
  refine ⟨_, A, ?_⟩
  subst hn
  simp [newA, hd]
theorem Ary.inb {j : Int32} {x : Int32} {c : Cell} (q : c.slots = (vs.map Value.int).toArray) (hj : ¬ j < 0) (hv : vs[j.toNatClampNeg]? = some x) : ¬ (j < 0 ∨ c.slots.size ≤ j.toNatClampNeg) ∧ c.slots[j.toNatClampNeg]? = some (.int x) := by
  have h1 : j.toNatClampNeg < vs.length := by
    rcases Nat.lt_or_ge j.toNatClampNeg vs.length with h | h
    · exact h
    · rw [List.getElem?_eq_none h] at hv; cases hv
  refine ⟨fun r => ?_, ?_⟩
  · rcases r with r | r
    · exact hj r
    · rw [q] at r; simp at r; omega
  · rw [q]; simp [hv]
theorem Ary.size {c : Cell} (q : c.slots = (vs.map Value.int).toArray) : c.slots.size = vs.length := by rw [q]; simp
end AryFacts
section Logic
variable {l : Launch} {y : MethodName} {bytes : ByteArray} {maxL : Nat} {ret : Option FieldType} {ws : List Jvm.Cond} {R : Room} {Z : State} {n0 : Nat} {as' : Array Value} {Q : Option Value → Heap → Prop} {h : Heap} {cells slots pc nx tgt : Nat} {ls ls' : List Slot} {st : List Value} {a0 : Array Value}
theorem Ct.of (hpl : plainFor y = true) (hef : ∀ m, entryFrame m as' maxL = mkF m 0 ls.toArray []) (H : ORun l y bytes maxL ret R Z n0 as' Q h 0 0 0 ls []) : Ct l y bytes maxL ret ws R Z n0 as' h Q := by
  refine MetFree.of_bodySF hpl hisR ?_
  intro p e s m args below meth c s₁ Bd hml0 hP hK
  obtain ⟨rfl, hZ, hh⟩ := hP
  rw [hef m]
  exact H p e s m below meth c s₁ [] Bd.exec hZ Bd.bytes hml0 (findClass_of_methodNamed Bd.named) (name_of_methodNamed Bd.named Bd.method).1 Bd.returns Bd.notSynchronized (Stand.of_body Bd) (by rw [← hh, Bd.state]; rfl) (Fr.nil n0)
theorem ORun.weak {cells' slots' : Nat} (hc : cells ≤ cells') (hs : slots ≤ slots') (K : ORun l y bytes maxL ret R Z n0 as' Q h cells' slots' pc ls st) : ORun l y bytes maxL ret R Z n0 as' Q h cells slots pc ls st :=
  fun p e s m below meth c T locs hx hZ hby hml hown hnm hret hlk X eT N => K p e s m below meth c T locs hx hZ hby hml hown hnm hret hlk ⟨X.admits, X.cas, X.clock, X.frames, X.room, X.hears, X.method, X.code, X.here, X.tail, X.warmed, X.limits, X.bytes, X.same.mono hc hs⟩ eT N
/-- one step that moves neither heap nor tables -/
theorem ORun.step {pc' : Nat} {st' : List Value}
    (hs : ∀ (p : Program) (e : Env) (s : State) (m : MethodId) (below : List Frame) (meth : Method) (c : Code) (T : State) (locs : List Loc), p.tables.exec = Jvm.exec → Z.Warmed39 s.vm → c.code = bytes → s.vm.findClass y.cls = some m.cls → Stand p l e R s m as' below meth c T locs cells slots → T.heap = h →
      ∀ target, Steps p.tables e below (T.setTop (mkF m pc' ls'.toArray st')) target → Steps p.tables e below (T.setTop (mkF m pc ls.toArray st)) target)
    (K : ORun l y bytes maxL ret R Z n0 as' Q h cells slots pc' ls' st') : ORun l y bytes maxL ret R Z n0 as' Q h cells slots pc ls st :=
  fun p e s m below meth c T locs hx hZ hby hml hown hnm hret hlk X eT N => by
    obtain ⟨U, o, h1, h2⟩ := K p e s m below meth c T locs hx hZ hby hml hown hnm hret hlk X eT N
    exact ⟨U, o, hs p e s m below meth c T locs hx hZ hby hown X eT _ h1, h2⟩
/-- one step by a law that hands back a new state -/
theorem ORun.law {pc' : Nat} {st' : List Value} {h' : Heap} {cells' slots' : Nat}
    (hs : ∀ (p : Program) (e : Env) (s : State) (m : MethodId) (below : List Frame) (meth : Method) (c : Code) (T : State) (locs : List Loc), p.tables.exec = Jvm.exec → Z.Warmed39 s.vm → c.code = bytes → c.maxLocals = maxL → s.vm.findClass y.cls = some m.cls → meth.name = y.name → Stand p l e R s m as' below meth c T locs cells slots → T.heap = h → Fr n0 locs →
      ∃ T' locs', Stand p l e R s m as' below meth c T' locs' cells' slots' ∧ T'.heap = h' ∧ Fr n0 locs' ∧ ∀ target, Steps p.tables e below (T'.setTop (mkF m pc' ls'.toArray st')) target → Steps p.tables e below (T.setTop (mkF m pc ls.toArray st)) target)
    (K : ORun l y bytes maxL ret R Z n0 as' Q h' cells' slots' pc' ls' st') : ORun l y bytes maxL ret R Z n0 as' Q h cells slots pc ls st :=
  fun p e s m below meth c T locs hx hZ hby hml hown hnm hret hlk X eT N => by
    obtain ⟨T', locs', X', eT', N', st⟩ := hs p e s m below meth c T locs hx hZ hby hml hown hnm X eT N
    obtain ⟨U, o, h1, h2⟩ := K p e s m below meth c T' locs' hx hZ hby hml hown hnm hret hlk X' eT' N'
    exact ⟨U, o, st _ h1, h2⟩
theorem getL {k : Nat} {v : Slot} (q : ls[k]? = some v) : ls.toArray[k]? = some v := by simpa using q
/-! loads, stores -/
theorem r_iloadN {k : Fin 4} {v : Int32} (hd : D bytes pc (.iload_n k) 1 nx) (hl : ls[k.val]? = some (.val (.int v))) (K : ORun l y bytes maxL ret R Z n0 as' Q h cells slots nx ls (.int v :: st)) : ORun l y bytes maxL ret R Z n0 as' Q h cells slots pc ls st := by
  obtain ⟨hd, rfl⟩ := hd
  exact K.step fun p e s m below meth c T locs hx hZ hby hown X eT t k => XS.iloadN X.here hx rfl (hb hby hd) (getL hl) k
theorem r_iload {k : Nat} {v : Int32} (hd : D bytes pc (.iload k) 2 nx) (hl : ls[k]? = some (.val (.int v))) (K : ORun l y bytes maxL ret R Z n0 as' Q h cells slots nx ls (.int v :: st)) : ORun l y bytes maxL ret R Z n0 as' Q h cells slots pc ls st := by
  obtain ⟨hd, rfl⟩ := hd
  exact K.step fun p e s m below meth c T locs hx hZ hby hown X eT t k => XS.iload X.here hx rfl (hb hby hd) (getL hl) k
theorem r_aloadN {k : Fin 4} {v : Value} (hd : D bytes pc (.aload_n k) 1 nx) (hl : ls[k.val]? = some (.val v)) (hv : v.isRef = true) (K : ORun l y bytes maxL ret R Z n0 as' Q h cells slots nx ls (v :: st)) : ORun l y bytes maxL ret R Z n0 as' Q h cells slots pc ls st := by
  obtain ⟨hd, rfl⟩ := hd
  exact K.step fun p e s m below meth c T locs hx hZ hby hown X eT t k => XS.aloadN X.here hx rfl (hb hby hd) (getL hl) hv k
theorem r_aload {k : Nat} {v : Value} (hd : D bytes pc (.aload k) 2 nx) (hl : ls[k]? = some (.val v)) (hv : v.isRef = true) (K : ORun l y bytes maxL ret R Z n0 as' Q h cells slots nx ls (v :: st)) : ORun l y bytes maxL ret R Z n0 as' Q h cells slots pc ls st := by
  obtain ⟨hd, rfl⟩ := hd
  exact K.step fun p e s m below meth c T locs hx hZ hby hown X eT t k => XS.aload X.here hx rfl (hb hby hd) (getL hl) hv k
theorem r_lloadN {k : Fin 4} {v : Int64} (hd : D bytes pc (.lload_n k) 1 nx) (hl : ls[k.val]? = some (.val (.long v))) (K : ORun l y bytes maxL ret R Z n0 as' Q h cells slots nx ls (.long v :: st)) : ORun l y bytes maxL ret R Z n0 as' Q h cells slots pc ls st := by
  obtain ⟨hd, rfl⟩ := hd
  exact K.step fun p e s m below meth c T locs hx hZ hby hown X eT t k => XS.lloadN X.here hx rfl (hb hby hd) (getL hl) k
theorem r_lload {k : Nat} {v : Int64} (hd : D bytes pc (.lload k) 2 nx) (hl : ls[k]? = some (.val (.long v))) (K : ORun l y bytes maxL ret R Z n0 as' Q h cells slots nx ls (.long v :: st)) : ORun l y bytes maxL ret R Z n0 as' Q h cells slots pc ls st := by
  obtain ⟨hd, rfl⟩ := hd
  exact K.step fun p e s m below meth c T locs hx hZ hby hown X eT t k => XS.lload X.here hx rfl (hb hby hd) (getL hl) k
theorem r_istoreN {k : Fin 4} {v : Int32} (hd : D bytes pc (.istore_n k) 1 nx) (ls' : List Slot) (hl : storeLocals ls.toArray k.val (.int v) = some ls'.toArray) (K : ORun l y bytes maxL ret R Z n0 as' Q h cells slots nx ls' st) : ORun l y bytes maxL ret R Z n0 as' Q h cells slots pc ls (.int v :: st) := by
  obtain ⟨hd, rfl⟩ := hd
  exact K.step fun p e s m below meth c T locs hx hZ hby hown X eT t k => XS.istoreN X.here hx rfl (hb hby hd) rfl hl k
theorem r_istore {k : Nat} {v : Int32} (hd : D bytes pc (.istore k) 2 nx) (ls' : List Slot) (hl : storeLocals ls.toArray k (.int v) = some ls'.toArray) (K : ORun l y bytes maxL ret R Z n0 as' Q h cells slots nx ls' st) : ORun l y bytes maxL ret R Z n0 as' Q h cells slots pc ls (.int v :: st) := by
  obtain ⟨hd, rfl⟩ := hd
  exact K.step fun p e s m below meth c T locs hx hZ hby hown X eT t k => XS.istore X.here hx rfl (hb hby hd) rfl hl k
theorem r_astoreN {k : Fin 4} {v : Value} (hd : D bytes pc (.astore_n k) 1 nx) (hv : v.isRef = true) (ls' : List Slot) (hl : storeLocals ls.toArray k.val v = some ls'.toArray) (K : ORun l y bytes maxL ret R Z n0 as' Q h cells slots nx ls' st) : ORun l y bytes maxL ret R Z n0 as' Q h cells slots pc ls (v :: st) := by
  obtain ⟨hd, rfl⟩ := hd
  exact K.step fun p e s m below meth c T locs hx hZ hby hown X eT t k => XS.astoreN X.here hx rfl (hb hby hd) rfl hv hl k
theorem r_astore {k : Nat} {v : Value} (hd : D bytes pc (.astore k) 2 nx) (hv : v.isRef = true) (ls' : List Slot) (hl : storeLocals ls.toArray k v = some ls'.toArray) (K : ORun l y bytes maxL ret R Z n0 as' Q h cells slots nx ls' st) : ORun l y bytes maxL ret R Z n0 as' Q h cells slots pc ls (v :: st) := by
  obtain ⟨hd, rfl⟩ := hd
  exact K.step fun p e s m below meth c T locs hx hZ hby hown X eT t k => XS.astore X.here hx rfl (hb hby hd) rfl hv hl k
theorem r_lstoreN {k : Fin 4} {v : Int64} (hd : D bytes pc (.lstore_n k) 1 nx) (ls' : List Slot) (hl : storeLocals ls.toArray k.val (.long v) = some ls'.toArray) (K : ORun l y bytes maxL ret R Z n0 as' Q h cells slots nx ls' st) : ORun l y bytes maxL ret R Z n0 as' Q h cells slots pc ls (.long v :: st) := by
  obtain ⟨hd, rfl⟩ := hd
  exact K.step fun p e s m below meth c T locs hx hZ hby hown X eT t k => XS.lstoreN X.here hx rfl (hb hby hd) rfl hl k
theorem r_lstore {k : Nat} {v : Int64} (hd : D bytes pc (.lstore k) 2 nx) (ls' : List Slot) (hl : storeLocals ls.toArray k (.long v) = some ls'.toArray) (K : ORun l y bytes maxL ret R Z n0 as' Q h cells slots nx ls' st) : ORun l y bytes maxL ret R Z n0 as' Q h cells slots pc ls (.long v :: st) := by
  obtain ⟨hd, rfl⟩ := hd
  exact K.step fun p e s m below meth c T locs hx hZ hby hown X eT t k => XS.lstore X.here hx rfl (hb hby hd) rfl hl k
theorem r_iinc {k : Nat} {i : Int} {v w : Int32} (hd : D bytes pc (.iinc k i) 3 nx) (hl : ls[k]? = some (.val (.int v))) (hw : v + Int32.ofInt i = w) (ls' : List Slot) (hl' : storeLocals ls.toArray k (.int w) = some ls'.toArray) (K : ORun l y bytes maxL ret R Z n0 as' Q h cells slots nx ls' st) : ORun l y bytes maxL ret R Z n0 as' Q h cells slots pc ls st := by
  obtain ⟨hd, rfl⟩ := hd
  subst hw
  exact K.step fun p e s m below meth c T locs hx hZ hby hown X eT t k => XS.iinc X.here hx rfl (hb hby hd) (getL hl) hl' k
/-! constants -/
theorem r_iconst {i : Int} (v : Int32) (hv : Int32.ofInt i = v) (hd : D bytes pc (.iconst i) 1 nx) (K : ORun l y bytes maxL ret R Z n0 as' Q h cells slots nx ls (.int v :: st)) : ORun l y bytes maxL ret R Z n0 as' Q h cells slots pc ls st := by
  obtain ⟨hd, rfl⟩ := hd
  subst hv
  exact K.step fun p e s m below meth c T locs hx hZ hby hown X eT t k => XS.iconst X.here hx rfl (hb hby hd) k
theorem r_bipush {i : Int} (v : Int32) (hv : (Int8.ofInt i).toInt32 = v) (hd : D bytes pc (.bipush i) 2 nx) (K : ORun l y bytes maxL ret R Z n0 as' Q h cells slots nx ls (.int v :: st)) : ORun l y bytes maxL ret R Z n0 as' Q h cells slots pc ls st := by
  obtain ⟨hd, rfl⟩ := hd
  subst hv
  exact K.step fun p e s m below meth c T locs hx hZ hby hown X eT t k => XS.bipush X.here hx rfl (hb hby hd) k
theorem r_sipush {i : Int} (v : Int32) (hv : (Int16.ofInt i).toInt32 = v) (hd : D bytes pc (.sipush i) 3 nx) (K : ORun l y bytes maxL ret R Z n0 as' Q h cells slots nx ls (.int v :: st)) : ORun l y bytes maxL ret R Z n0 as' Q h cells slots pc ls st := by
  obtain ⟨hd, rfl⟩ := hd
  subst hv
  exact K.step fun p e s m below meth c T locs hx hZ hby hown X eT t k => XS.sipush X.here hx rfl (hb hby hd) k
theorem r_lconst {i : Fin 2} (v : Int64) (hv : Int64.ofNat i = v) (hd : D bytes pc (.lconst i) 1 nx) (K : ORun l y bytes maxL ret R Z n0 as' Q h cells slots nx ls (.long v :: st)) : ORun l y bytes maxL ret R Z n0 as' Q h cells slots pc ls st := by
  obtain ⟨hd, rfl⟩ := hd
  subst hv
  exact K.step fun p e s m below meth c T locs hx hZ hby hown X eT t k => XS.lconst X.here hx rfl (hb hby hd) k
theorem r_null (hd : D bytes pc .aconst_null 1 nx) (K : ORun l y bytes maxL ret R Z n0 as' Q h cells slots nx ls (.null :: st)) : ORun l y bytes maxL ret R Z n0 as' Q h cells slots pc ls st := by
  obtain ⟨hd, rfl⟩ := hd
  exact K.step fun p e s m below meth c T locs hx hZ hby hown X eT t k => XS.aconstNull X.here hx rfl (hb hby hd) k
theorem r_ldc {i : Nat} {v : Int32} (w : (Cond.constant y.cls i v).before a0 Z = true) (hd : D bytes pc (.ldc i) 2 nx) (K : ORun l y bytes maxL ret R Z n0 as' Q h cells slots nx ls (.int v :: st)) : ORun l y bytes maxL ret R Z n0 as' Q h cells slots pc ls st := by
  obtain ⟨hd, rfl⟩ := hd
  exact K.step fun p e s m below meth c T locs hx hZ hby hown X eT t k => X.ldcInt hx hown (mvT hZ w) (g := mkF m pc ls.toArray st) rfl (hb hby hd) _ k
theorem r_ldc2 {i : Nat} {v : Int64} (w : (Cond.constantLong y.cls i v).before a0 Z = true) (hd : D bytes pc (.ldc2_w i) 3 nx) (K : ORun l y bytes maxL ret R Z n0 as' Q h cells slots nx ls (.long v :: st)) : ORun l y bytes maxL ret R Z n0 as' Q h cells slots pc ls st := by
  obtain ⟨hd, rfl⟩ := hd
  exact K.step fun p e s m below meth c T locs hx hZ hby hown X eT t k => X.ldc2Long hx hown (mvT hZ w) (g := mkF m pc ls.toArray st) rfl (hb hby hd) _ k
theorem r_ldcS {i : Nat} {text : String} {a : Addr} (w : (Cond.stringRef y.cls i text).before a0 Z = true) (L : Lit Z y.cls i a) (hd : D bytes pc (.ldc i) 2 nx) (K : ORun l y bytes maxL ret R Z n0 as' Q h cells slots nx ls (.ref a :: st)) : ORun l y bytes maxL ret R Z n0 as' Q h cells slots pc ls st := by
  obtain ⟨hd, rfl⟩ := hd
  exact K.step fun p e s m below meth c T locs hx hZ hby hown X eT t k => ldcR X hx hZ hown w L (g := mkF m pc ls.toArray st) rfl (hb hby hd) _ k
/-! arithmetic -/
theorem r_iadd {x z : Int32} (hd : D bytes pc .iadd 1 nx) (K : ORun l y bytes maxL ret R Z n0 as' Q h cells slots nx ls (.int (x + z) :: st)) : ORun l y bytes maxL ret R Z n0 as' Q h cells slots pc ls (.int z :: .int x :: st) := by
  obtain ⟨hd, rfl⟩ := hd
  exact K.step fun p e s m below meth c T locs hx hZ hby hown X eT t k => XS.iadd X.here hx rfl (hb hby hd) rfl k
theorem r_isub {x z : Int32} (hd : D bytes pc .isub 1 nx) (K : ORun l y bytes maxL ret R Z n0 as' Q h cells slots nx ls (.int (x - z) :: st)) : ORun l y bytes maxL ret R Z n0 as' Q h cells slots pc ls (.int z :: .int x :: st) := by
  obtain ⟨hd, rfl⟩ := hd
  exact K.step fun p e s m below meth c T locs hx hZ hby hown X eT t k => XS.isub X.here hx rfl (hb hby hd) rfl k
theorem r_iand {x z : Int32} (hd : D bytes pc .iand 1 nx) (K : ORun l y bytes maxL ret R Z n0 as' Q h cells slots nx ls (.int (x &&& z) :: st)) : ORun l y bytes maxL ret R Z n0 as' Q h cells slots pc ls (.int z :: .int x :: st) := by
  obtain ⟨hd, rfl⟩ := hd
  exact K.step fun p e s m below meth c T locs hx hZ hby hown X eT t k => XS.iand X.here hx rfl (hb hby hd) rfl k
theorem r_imul {x z : Int32} (hd : D bytes pc .imul 1 nx) (K : ORun l y bytes maxL ret R Z n0 as' Q h cells slots nx ls (.int (x * z) :: st)) : ORun l y bytes maxL ret R Z n0 as' Q h cells slots pc ls (.int z :: .int x :: st) := by
  obtain ⟨hd, rfl⟩ := hd
  exact K.step fun p e s m below meth c T locs hx hZ hby hown X eT t k => XS.imul X.here hx rfl (hb hby hd) rfl k
theorem r_ior {x z : Int32} (hd : D bytes pc .ior 1 nx) (K : ORun l y bytes maxL ret R Z n0 as' Q h cells slots nx ls (.int (x ||| z) :: st)) : ORun l y bytes maxL ret R Z n0 as' Q h cells slots pc ls (.int z :: .int x :: st) := by
  obtain ⟨hd, rfl⟩ := hd
  exact K.step fun p e s m below meth c T locs hx hZ hby hown X eT t k => XS.ior X.here hx rfl (hb hby hd) rfl k
theorem r_ixor {x z : Int32} (hd : D bytes pc .ixor 1 nx) (K : ORun l y bytes maxL ret R Z n0 as' Q h cells slots nx ls (.int (x ^^^ z) :: st)) : ORun l y bytes maxL ret R Z n0 as' Q h cells slots pc ls (.int z :: .int x :: st) := by
  obtain ⟨hd, rfl⟩ := hd
  exact K.step fun p e s m below meth c T locs hx hZ hby hown X eT t k => XS.ixor X.here hx rfl (hb hby hd) rfl k
theorem r_ishl {x z : Int32} (hd : D bytes pc .ishl 1 nx) (K : ORun l y bytes maxL ret R Z n0 as' Q h cells slots nx ls (.int (x <<< (z &&& 31)) :: st)) : ORun l y bytes maxL ret R Z n0 as' Q h cells slots pc ls (.int z :: .int x :: st) := by
  obtain ⟨hd, rfl⟩ := hd
  exact K.step fun p e s m below meth c T locs hx hZ hby hown X eT t k => XS.ishl X.here hx rfl (hb hby hd) rfl k
theorem r_ishr {x z : Int32} (hd : D bytes pc .ishr 1 nx) (K : ORun l y bytes maxL ret R Z n0 as' Q h cells slots nx ls (.int (x >>> (z &&& 31)) :: st)) : ORun l y bytes maxL ret R Z n0 as' Q h cells slots pc ls (.int z :: .int x :: st) := by
  obtain ⟨hd, rfl⟩ := hd
  exact K.step fun p e s m below meth c T locs hx hZ hby hown X eT t k => XS.ishr X.here hx rfl (hb hby hd) rfl k
theorem r_iushr {x z : Int32} (hd : D bytes pc .iushr 1 nx) (K : ORun l y bytes maxL ret R Z n0 as' Q h cells slots nx ls (.int ((x.toUInt32 >>> (z &&& 31).toUInt32).toInt32) :: st)) : ORun l y bytes maxL ret R Z n0 as' Q h cells slots pc ls (.int z :: .int x :: st) := by
  obtain ⟨hd, rfl⟩ := hd
  exact K.step fun p e s m below meth c T locs hx hZ hby hown X eT t k => XS.iushr X.here hx rfl (hb hby hd) rfl k
theorem r_ladd {x z : Int64} (hd : D bytes pc .ladd 1 nx) (K : ORun l y bytes maxL ret R Z n0 as' Q h cells slots nx ls (.long (x + z) :: st)) : ORun l y bytes maxL ret R Z n0 as' Q h cells slots pc ls (.long z :: .long x :: st) := by
  obtain ⟨hd, rfl⟩ := hd
  exact K.step fun p e s m below meth c T locs hx hZ hby hown X eT t k => XS.ladd X.here hx rfl (hb hby hd) rfl k
theorem r_lsub {x z : Int64} (hd : D bytes pc .lsub 1 nx) (K : ORun l y bytes maxL ret R Z n0 as' Q h cells slots nx ls (.long (x - z) :: st)) : ORun l y bytes maxL ret R Z n0 as' Q h cells slots pc ls (.long z :: .long x :: st) := by
  obtain ⟨hd, rfl⟩ := hd
  exact K.step fun p e s m below meth c T locs hx hZ hby hown X eT t k => XS.lsub X.here hx rfl (hb hby hd) rfl k
theorem r_land {x z : Int64} (hd : D bytes pc .land 1 nx) (K : ORun l y bytes maxL ret R Z n0 as' Q h cells slots nx ls (.long (x &&& z) :: st)) : ORun l y bytes maxL ret R Z n0 as' Q h cells slots pc ls (.long z :: .long x :: st) := by
  obtain ⟨hd, rfl⟩ := hd
  exact K.step fun p e s m below meth c T locs hx hZ hby hown X eT t k => XS.land X.here hx rfl (hb hby hd) rfl k
theorem r_lmul {x z : Int64} (hd : D bytes pc .lmul 1 nx) (K : ORun l y bytes maxL ret R Z n0 as' Q h cells slots nx ls (.long (x * z) :: st)) : ORun l y bytes maxL ret R Z n0 as' Q h cells slots pc ls (.long z :: .long x :: st) := by
  obtain ⟨hd, rfl⟩ := hd
  exact K.step fun p e s m below meth c T locs hx hZ hby hown X eT t k => XS.lmul X.here hx rfl (hb hby hd) rfl k
theorem r_lor {x z : Int64} (hd : D bytes pc .lor 1 nx) (K : ORun l y bytes maxL ret R Z n0 as' Q h cells slots nx ls (.long (x ||| z) :: st)) : ORun l y bytes maxL ret R Z n0 as' Q h cells slots pc ls (.long z :: .long x :: st) := by
  obtain ⟨hd, rfl⟩ := hd
  exact K.step fun p e s m below meth c T locs hx hZ hby hown X eT t k => XS.lor X.here hx rfl (hb hby hd) rfl k
theorem r_lxor {x z : Int64} (hd : D bytes pc .lxor 1 nx) (K : ORun l y bytes maxL ret R Z n0 as' Q h cells slots nx ls (.long (x ^^^ z) :: st)) : ORun l y bytes maxL ret R Z n0 as' Q h cells slots pc ls (.long z :: .long x :: st) := by
  obtain ⟨hd, rfl⟩ := hd
  exact K.step fun p e s m below meth c T locs hx hZ hby hown X eT t k => XS.lxor X.here hx rfl (hb hby hd) rfl k
theorem r_lshl {x : Int64} {z : Int32} (hd : D bytes pc .lshl 1 nx) (K : ORun l y bytes maxL ret R Z n0 as' Q h cells slots nx ls (.long (x <<< (z &&& 63).toInt64) :: st)) : ORun l y bytes maxL ret R Z n0 as' Q h cells slots pc ls (.int z :: .long x :: st) := by
  obtain ⟨hd, rfl⟩ := hd
  exact K.step fun p e s m below meth c T locs hx hZ hby hown X eT t k => XS.lshl X.here hx rfl (hb hby hd) rfl k
theorem r_lshr {x : Int64} {z : Int32} (hd : D bytes pc .lshr 1 nx) (K : ORun l y bytes maxL ret R Z n0 as' Q h cells slots nx ls (.long (x >>> (z &&& 63).toInt64) :: st)) : ORun l y bytes maxL ret R Z n0 as' Q h cells slots pc ls (.int z :: .long x :: st) := by
  obtain ⟨hd, rfl⟩ := hd
  exact K.step fun p e s m below meth c T locs hx hZ hby hown X eT t k => XS.lshr X.here hx rfl (hb hby hd) rfl k
theorem r_lushr {x : Int64} {z : Int32} (hd : D bytes pc .lushr 1 nx) (K : ORun l y bytes maxL ret R Z n0 as' Q h cells slots nx ls (.long ((x.toUInt64 >>> (z &&& 63).toInt64.toUInt64).toInt64) :: st)) : ORun l y bytes maxL ret R Z n0 as' Q h cells slots pc ls (.int z :: .long x :: st) := by
  obtain ⟨hd, rfl⟩ := hd
  exact K.step fun p e s m below meth c T locs hx hZ hby hown X eT t k => XS.lushr X.here hx rfl (hb hby hd) rfl k
theorem r_idiv {x z : Int32} (hd : D bytes pc .idiv 1 nx) (hz : z ≠ 0) (K : ORun l y bytes maxL ret R Z n0 as' Q h cells slots nx ls (.int (x / z) :: st)) : ORun l y bytes maxL ret R Z n0 as' Q h cells slots pc ls (.int z :: .int x :: st) := by
  obtain ⟨hd, rfl⟩ := hd
  exact K.step fun p e s m below meth c T locs hx hZ hby hown X eT t k => XS.idiv X.here hx rfl (hb hby hd) rfl hz k
theorem r_ldiv {x z : Int64} (hd : D bytes pc .ldiv 1 nx) (hz : z ≠ 0) (K : ORun l y bytes maxL ret R Z n0 as' Q h cells slots nx ls (.long (x / z) :: st)) : ORun l y bytes maxL ret R Z n0 as' Q h cells slots pc ls (.long z :: .long x :: st) := by
  obtain ⟨hd, rfl⟩ := hd
  exact K.step fun p e s m below meth c T locs hx hZ hby hown X eT t k => XS.ldiv X.here hx rfl (hb hby hd) rfl hz k
theorem r_ineg {x : Int32} (hd : D bytes pc .ineg 1 nx) (K : ORun l y bytes maxL ret R Z n0 as' Q h cells slots nx ls (.int (-x) :: st)) : ORun l y bytes maxL ret R Z n0 as' Q h cells slots pc ls (.int x :: st) := by
  obtain ⟨hd, rfl⟩ := hd
  exact K.step fun p e s m below meth c T locs hx hZ hby hown X eT t k => XS.ineg X.here hx rfl (hb hby hd) rfl k
theorem r_lneg {x : Int64} (hd : D bytes pc .lneg 1 nx) (K : ORun l y bytes maxL ret R Z n0 as' Q h cells slots nx ls (.long (-x) :: st)) : ORun l y bytes maxL ret R Z n0 as' Q h cells slots pc ls (.long x :: st) := by
  obtain ⟨hd, rfl⟩ := hd
  exact K.step fun p e s m below meth c T locs hx hZ hby hown X eT t k => XS.lneg X.here hx rfl (hb hby hd) rfl k
theorem r_i2l {x : Int32} (hd : D bytes pc .i2l 1 nx) (K : ORun l y bytes maxL ret R Z n0 as' Q h cells slots nx ls (.long (x.toInt64) :: st)) : ORun l y bytes maxL ret R Z n0 as' Q h cells slots pc ls (.int x :: st) := by
  obtain ⟨hd, rfl⟩ := hd
  exact K.step fun p e s m below meth c T locs hx hZ hby hown X eT t k => XS.i2l X.here hx rfl (hb hby hd) rfl k
theorem r_l2i {x : Int64} (hd : D bytes pc .l2i 1 nx) (K : ORun l y bytes maxL ret R Z n0 as' Q h cells slots nx ls (.int (x.toInt32) :: st)) : ORun l y bytes maxL ret R Z n0 as' Q h cells slots pc ls (.long x :: st) := by
  obtain ⟨hd, rfl⟩ := hd
  exact K.step fun p e s m below meth c T locs hx hZ hby hown X eT t k => XS.l2i X.here hx rfl (hb hby hd) rfl k
theorem r_i2b {x : Int32} (hd : D bytes pc .i2b 1 nx) (K : ORun l y bytes maxL ret R Z n0 as' Q h cells slots nx ls (.int (x.toInt8.toInt32) :: st)) : ORun l y bytes maxL ret R Z n0 as' Q h cells slots pc ls (.int x :: st) := by
  obtain ⟨hd, rfl⟩ := hd
  exact K.step fun p e s m below meth c T locs hx hZ hby hown X eT t k => XS.i2b X.here hx rfl (hb hby hd) rfl k
theorem r_i2s {x : Int32} (hd : D bytes pc .i2s 1 nx) (K : ORun l y bytes maxL ret R Z n0 as' Q h cells slots nx ls (.int (x.toInt16.toInt32) :: st)) : ORun l y bytes maxL ret R Z n0 as' Q h cells slots pc ls (.int x :: st) := by
  obtain ⟨hd, rfl⟩ := hd
  exact K.step fun p e s m below meth c T locs hx hZ hby hown X eT t k => XS.i2s X.here hx rfl (hb hby hd) rfl k
theorem r_i2c {x : Int32} (hd : D bytes pc .i2c 1 nx) (K : ORun l y bytes maxL ret R Z n0 as' Q h cells slots nx ls (.int (x.toUInt32.toUInt16.toUInt32.toInt32) :: st)) : ORun l y bytes maxL ret R Z n0 as' Q h cells slots pc ls (.int x :: st) := by
  obtain ⟨hd, rfl⟩ := hd
  exact K.step fun p e s m below meth c T locs hx hZ hby hown X eT t k => XS.i2c X.here hx rfl (hb hby hd) rfl k
theorem r_lcmp {x z : Int64} (hd : D bytes pc .lcmp 1 nx) (K : ORun l y bytes maxL ret R Z n0 as' Q h cells slots nx ls (.int (lcmpW x z) :: st)) : ORun l y bytes maxL ret R Z n0 as' Q h cells slots pc ls (.long z :: .long x :: st) := by
  obtain ⟨hd, rfl⟩ := hd
  exact K.step fun p e s m below meth c T locs hx hZ hby hown X eT t k => XS.lcmp X.here hx rfl (hb hby hd) rfl k
theorem r_dup {x : Value} (hd : D bytes pc .dup 1 nx) (hc : x.category = 1) (K : ORun l y bytes maxL ret R Z n0 as' Q h cells slots nx ls (x :: x :: st)) : ORun l y bytes maxL ret R Z n0 as' Q h cells slots pc ls (x :: st) := by
  obtain ⟨hd, rfl⟩ := hd
  exact K.step fun p e s m below meth c T locs hx hZ hby hown X eT t k => XS.dup X.here hx rfl (hb hby hd) rfl hc k
theorem r_pop {x : Value} (hd : D bytes pc .pop 1 nx) (hc : x.category = 1) (K : ORun l y bytes maxL ret R Z n0 as' Q h cells slots nx ls st) : ORun l y bytes maxL ret R Z n0 as' Q h cells slots pc ls (x :: st) := by
  obtain ⟨hd, rfl⟩ := hd
  exact K.step fun p e s m below meth c T locs hx hZ hby hown X eT t k => XS.pop X.here hx rfl (hb hby hd) rfl hc k
theorem r_dupX1 {x z : Value} (hd : D bytes pc .dup_x1 1 nx) (hc : x.category = 1) (hc2 : z.category = 1) (K : ORun l y bytes maxL ret R Z n0 as' Q h cells slots nx ls (x :: z :: x :: st)) : ORun l y bytes maxL ret R Z n0 as' Q h cells slots pc ls (x :: z :: st) := by
  obtain ⟨hd, rfl⟩ := hd
  exact K.step fun p e s m below meth c T locs hx hZ hby hown X eT t k => XS.dupX1 X.here hx rfl (hb hby hd) rfl hc hc2 k
theorem r_dup2 {x z : Value} (hd : D bytes pc .dup2 1 nx) (hc : x.category = 1) (hc2 : z.category = 1) (K : ORun l y bytes maxL ret R Z n0 as' Q h cells slots nx ls (x :: z :: x :: z :: st)) : ORun l y bytes maxL ret R Z n0 as' Q h cells slots pc ls (x :: z :: st) := by
  obtain ⟨hd, rfl⟩ := hd
  exact K.step fun p e s m below meth c T locs hx hZ hby hown X eT t k => XT.dup2 X.here hx rfl (hb hby hd) rfl hc hc2 k
theorem r_dup2L {x : Int64} (hd : D bytes pc .dup2 1 nx) (K : ORun l y bytes maxL ret R Z n0 as' Q h cells slots nx ls (.long x :: .long x :: st)) : ORun l y bytes maxL ret R Z n0 as' Q h cells slots pc ls (.long x :: st) := by
  obtain ⟨hd, rfl⟩ := hd
  exact K.step fun p e s m below meth c T locs hx hZ hby hown X eT t k => XT.dup2L X.here hx rfl (hb hby hd) rfl k
theorem r_irem {x z : Int32} (hd : D bytes pc .irem 1 nx) (hz : z ≠ 0) (K : ORun l y bytes maxL ret R Z n0 as' Q h cells slots nx ls (.int (x % z) :: st)) : ORun l y bytes maxL ret R Z n0 as' Q h cells slots pc ls (.int z :: .int x :: st) := by
  obtain ⟨hd, rfl⟩ := hd
  exact K.step fun p e s m below meth c T locs hx hZ hby hown X eT t k => iremM X hx rfl (hb hby hd) rfl hz k
theorem r_lrem {x z : Int64} (hd : D bytes pc .lrem 1 nx) (hz : z ≠ 0) (K : ORun l y bytes maxL ret R Z n0 as' Q h cells slots nx ls (.long (x % z) :: st)) : ORun l y bytes maxL ret R Z n0 as' Q h cells slots pc ls (.long z :: .long x :: st) := by
  obtain ⟨hd, rfl⟩ := hd
  rw [← lrem_mod] at K
  exact K.step fun p e s m below meth c T locs hx hZ hby hown X eT t k => XS.lrem X.here hx rfl (hb hby hd) rfl hz k
/-! branches -/
theorem r_goto {off : Int} (hd : DB bytes pc .goto off nx tgt) (K : ORun l y bytes maxL ret R Z n0 as' Q h cells slots tgt ls st) : ORun l y bytes maxL ret R Z n0 as' Q h cells slots pc ls st := by
  obtain ⟨hd, rfl, ho, rfl⟩ := hd
  exact K.step fun p e s m below meth c T locs hx hZ hby hown X eT t k => XS.goto X.here hx rfl rfl (hb hby hd) ho rfl k
theorem r_icmp {cd : ClassFile.Cond} {off : Int} {x z : Int32} (hd : DB bytes pc (.if_icmp cd) off nx tgt) (K1 : if_icmp.holds cd x z = true → ORun l y bytes maxL ret R Z n0 as' Q h cells slots tgt ls st) (K2 : if_icmp.holds cd x z = false → ORun l y bytes maxL ret R Z n0 as' Q h cells slots nx ls st) : ORun l y bytes maxL ret R Z n0 as' Q h cells slots pc ls (.int z :: .int x :: st) := by
  obtain ⟨hd, rfl, ho, rfl⟩ := hd
  cases hc : if_icmp.holds cd x z
  · exact (K2 hc).step fun p e s m below meth c T locs hx hZ hby hown X eT t k => XS.icmpNo X.here hx rfl (hb hby hd) rfl hc k
  · exact (K1 hc).step fun p e s m below meth c T locs hx hZ hby hown X eT t k => XS.icmpYes X.here hx rfl rfl (hb hby hd) rfl hc ho rfl k
theorem r_if {cd : ClassFile.Cond} {off : Int} {x : Int32} (hd : DB bytes pc (.ifCond cd) off nx tgt) (K1 : if_icmp.holds cd x 0 = true → ORun l y bytes maxL ret R Z n0 as' Q h cells slots tgt ls st) (K2 : if_icmp.holds cd x 0 = false → ORun l y bytes maxL ret R Z n0 as' Q h cells slots nx ls st) : ORun l y bytes maxL ret R Z n0 as' Q h cells slots pc ls (.int x :: st) := by
  obtain ⟨hd, rfl, ho, rfl⟩ := hd
  cases hc : if_icmp.holds cd x 0
  · exact (K2 hc).step fun p e s m below meth c T locs hx hZ hby hown X eT t k => XS.ifNo X.here hx rfl (hb hby hd) rfl ((if0 _ _).trans hc) k
  · exact (K1 hc).step fun p e s m below meth c T locs hx hZ hby hown X eT t k => XS.ifYes X.here hx rfl rfl (hb hby hd) rfl ((if0 _ _).trans hc) ho rfl k
theorem r_icmp_lt {off : Int} {x z : Int32} (hd : DB bytes pc (.if_icmp .lt) off nx tgt) (K1 : x < z → ORun l y bytes maxL ret R Z n0 as' Q h cells slots tgt ls st) (K2 : ¬ x < z → ORun l y bytes maxL ret R Z n0 as' Q h cells slots nx ls st) : ORun l y bytes maxL ret R Z n0 as' Q h cells slots pc ls (.int z :: .int x :: st) :=
  r_icmp hd (fun q => K1 (Decidable.byContradiction fun r => by rw [(flt r).1] at q; cases q)) (fun q => K2 (fun r => by rw [(tlt r).1] at q; cases q))
theorem r_if_lt {off : Int} {x : Int32} (hd : DB bytes pc (.ifCond .lt) off nx tgt) (K1 : x < 0 → ORun l y bytes maxL ret R Z n0 as' Q h cells slots tgt ls st) (K2 : ¬ x < 0 → ORun l y bytes maxL ret R Z n0 as' Q h cells slots nx ls st) : ORun l y bytes maxL ret R Z n0 as' Q h cells slots pc ls (.int x :: st) :=
  r_if hd (fun q => K1 (Decidable.byContradiction fun r => by rw [(flt r).1] at q; cases q)) (fun q => K2 (fun r => by rw [(tlt r).1] at q; cases q))
theorem r_icmp_ge {off : Int} {x z : Int32} (hd : DB bytes pc (.if_icmp .ge) off nx tgt) (K1 : ¬ x < z → ORun l y bytes maxL ret R Z n0 as' Q h cells slots tgt ls st) (K2 : x < z → ORun l y bytes maxL ret R Z n0 as' Q h cells slots nx ls st) : ORun l y bytes maxL ret R Z n0 as' Q h cells slots pc ls (.int z :: .int x :: st) :=
  r_icmp hd (fun q => K1 (fun r => by rw [(tlt r).2.1] at q; cases q)) (fun q => K2 (Decidable.byContradiction fun r => by rw [(flt r).2.1] at q; cases q))
theorem r_if_ge {off : Int} {x : Int32} (hd : DB bytes pc (.ifCond .ge) off nx tgt) (K1 : ¬ x < 0 → ORun l y bytes maxL ret R Z n0 as' Q h cells slots tgt ls st) (K2 : x < 0 → ORun l y bytes maxL ret R Z n0 as' Q h cells slots nx ls st) : ORun l y bytes maxL ret R Z n0 as' Q h cells slots pc ls (.int x :: st) :=
  r_if hd (fun q => K1 (fun r => by rw [(tlt r).2.1] at q; cases q)) (fun q => K2 (Decidable.byContradiction fun r => by rw [(flt r).2.1] at q; cases q))
theorem r_icmp_gt {off : Int} {x z : Int32} (hd : DB bytes pc (.if_icmp .gt) off nx tgt) (K1 : z < x → ORun l y bytes maxL ret R Z n0 as' Q h cells slots tgt ls st) (K2 : ¬ z < x → ORun l y bytes maxL ret R Z n0 as' Q h cells slots nx ls st) : ORun l y bytes maxL ret R Z n0 as' Q h cells slots pc ls (.int z :: .int x :: st) :=
  r_icmp hd (fun q => K1 (Decidable.byContradiction fun r => by rw [(flt r).2.2.1] at q; cases q)) (fun q => K2 (fun r => by rw [(tlt r).2.2.1] at q; cases q))
theorem r_if_gt {off : Int} {x : Int32} (hd : DB bytes pc (.ifCond .gt) off nx tgt) (K1 : 0 < x → ORun l y bytes maxL ret R Z n0 as' Q h cells slots tgt ls st) (K2 : ¬ 0 < x → ORun l y bytes maxL ret R Z n0 as' Q h cells slots nx ls st) : ORun l y bytes maxL ret R Z n0 as' Q h cells slots pc ls (.int x :: st) :=
  r_if hd (fun q => K1 (Decidable.byContradiction fun r => by rw [(flt r).2.2.1] at q; cases q)) (fun q => K2 (fun r => by rw [(tlt r).2.2.1] at q; cases q))
theorem r_icmp_le {off : Int} {x z : Int32} (hd : DB bytes pc (.if_icmp .le) off nx tgt) (K1 : ¬ z < x → ORun l y bytes maxL ret R Z n0 as' Q h cells slots tgt ls st) (K2 : z < x → ORun l y bytes maxL ret R Z n0 as' Q h cells slots nx ls st) : ORun l y bytes maxL ret R Z n0 as' Q h cells slots pc ls (.int z :: .int x :: st) :=
  r_icmp hd (fun q => K1 (fun r => by rw [(tlt r).2.2.2] at q; cases q)) (fun q => K2 (Decidable.byContradiction fun r => by rw [(flt r).2.2.2] at q; cases q))
theorem r_if_le {off : Int} {x : Int32} (hd : DB bytes pc (.ifCond .le) off nx tgt) (K1 : ¬ 0 < x → ORun l y bytes maxL ret R Z n0 as' Q h cells slots tgt ls st) (K2 : 0 < x → ORun l y bytes maxL ret R Z n0 as' Q h cells slots nx ls st) : ORun l y bytes maxL ret R Z n0 as' Q h cells slots pc ls (.int x :: st) :=
  r_if hd (fun q => K1 (fun r => by rw [(tlt r).2.2.2] at q; cases q)) (fun q => K2 (Decidable.byContradiction fun r => by rw [(flt r).2.2.2] at q; cases q))
theorem r_icmp_eq {off : Int} {x z : Int32} (hd : DB bytes pc (.if_icmp .eq) off nx tgt) (K1 : x = z → ORun l y bytes maxL ret R Z n0 as' Q h cells slots tgt ls st) (K2 : ¬ x = z → ORun l y bytes maxL ret R Z n0 as' Q h cells slots nx ls st) : ORun l y bytes maxL ret R Z n0 as' Q h cells slots pc ls (.int z :: .int x :: st) :=
  r_icmp hd (fun q => K1 (Decidable.byContradiction fun r => by rw [(feq r).1] at q; cases q)) (fun q => K2 (fun r => by rw [(teq r).1] at q; cases q))
theorem r_if_eq {off : Int} {x : Int32} (hd : DB bytes pc (.ifCond .eq) off nx tgt) (K1 : x = 0 → ORun l y bytes maxL ret R Z n0 as' Q h cells slots tgt ls st) (K2 : ¬ x = 0 → ORun l y bytes maxL ret R Z n0 as' Q h cells slots nx ls st) : ORun l y bytes maxL ret R Z n0 as' Q h cells slots pc ls (.int x :: st) :=
  r_if hd (fun q => K1 (Decidable.byContradiction fun r => by rw [(feq r).1] at q; cases q)) (fun q => K2 (fun r => by rw [(teq r).1] at q; cases q))
theorem r_icmp_ne {off : Int} {x z : Int32} (hd : DB bytes pc (.if_icmp .ne) off nx tgt) (K1 : ¬ x = z → ORun l y bytes maxL ret R Z n0 as' Q h cells slots tgt ls st) (K2 : x = z → ORun l y bytes maxL ret R Z n0 as' Q h cells slots nx ls st) : ORun l y bytes maxL ret R Z n0 as' Q h cells slots pc ls (.int z :: .int x :: st) :=
  r_icmp hd (fun q => K1 (fun r => by rw [(teq r).2] at q; cases q)) (fun q => K2 (Decidable.byContradiction fun r => by rw [(feq r).2] at q; cases q))
theorem r_if_ne {off : Int} {x : Int32} (hd : DB bytes pc (.ifCond .ne) off nx tgt) (K1 : ¬ x = 0 → ORun l y bytes maxL ret R Z n0 as' Q h cells slots tgt ls st) (K2 : x = 0 → ORun l y bytes maxL ret R Z n0 as' Q h cells slots nx ls st) : ORun l y bytes maxL ret R Z n0 as' Q h cells slots pc ls (.int x :: st) :=
  r_if hd (fun q => K1 (fun r => by rw [(teq r).2] at q; cases q)) (fun q => K2 (Decidable.byContradiction fun r => by rw [(feq r).2] at q; cases q))
theorem r_ifnull0 {off : Int} (hd : DB bytes pc .ifnull off nx tgt) (K : ORun l y bytes maxL ret R Z n0 as' Q h cells slots tgt ls st) : ORun l y bytes maxL ret R Z n0 as' Q h cells slots pc ls (.null :: st) := by
  obtain ⟨hd, rfl, ho, rfl⟩ := hd
  exact K.step fun p e s m below meth c T locs hx hZ hby hown X eT t k => XS.ifnullYes X.here hx rfl rfl (hb hby hd) rfl ho rfl k
theorem r_ifnull1 {off : Int} {b : Addr} (hd : DB bytes pc .ifnull off nx tgt) (K : ORun l y bytes maxL ret R Z n0 as' Q h cells slots nx ls st) : ORun l y bytes maxL ret R Z n0 as' Q h cells slots pc ls (.ref b :: st) := by
  obtain ⟨hd, rfl, ho, rfl⟩ := hd
  exact K.step fun p e s m below meth c T locs hx hZ hby hown X eT t k => XS.ifnullNo X.here hx rfl (hb hby hd) rfl k
theorem r_ifnonnull0 {off : Int} (hd : DB bytes pc .ifnonnull off nx tgt) (K : ORun l y bytes maxL ret R Z n0 as' Q h cells slots nx ls st) : ORun l y bytes maxL ret R Z n0 as' Q h cells slots pc ls (.null :: st) := by
  obtain ⟨hd, rfl, ho, rfl⟩ := hd
  exact K.step fun p e s m below meth c T locs hx hZ hby hown X eT t k => XS.ifnonnullNo X.here hx rfl (hb hby hd) rfl k
theorem r_ifnonnull1 {off : Int} {b : Addr} (hd : DB bytes pc .ifnonnull off nx tgt) (K : ORun l y bytes maxL ret R Z n0 as' Q h cells slots tgt ls st) : ORun l y bytes maxL ret R Z n0 as' Q h cells slots pc ls (.ref b :: st) := by
  obtain ⟨hd, rfl, ho, rfl⟩ := hd
  exact K.step fun p e s m below meth c T locs hx hZ hby hown X eT t k => XS.ifnonnullYes X.here hx rfl rfl (hb hby hd) rfl ho rfl k
theorem r_acmp {cd : ACond} {off : Int} {x z : Value} (h1 : x.isRef = true) (h2 : z.isRef = true) (hd : DB bytes pc (.if_acmp cd) off nx tgt) (K1 : acV cd (decide (x = z)) = true → ORun l y bytes maxL ret R Z n0 as' Q h cells slots tgt ls st) (K2 : acV cd (decide (x = z)) = false → ORun l y bytes maxL ret R Z n0 as' Q h cells slots nx ls st) : ORun l y bytes maxL ret R Z n0 as' Q h cells slots pc ls (z :: x :: st) := by
  obtain ⟨hd, rfl, ho, rfl⟩ := hd
  cases hc : acV cd (decide (x = z))
  · exact (K2 hc).step fun p e s m below meth c T locs hx hZ hby hown X eT t k => Jvm.RoadKit.acmp (g := mkF m pc ls.toArray (z :: x :: st)) X hx rfl h1 h2 (same := decide (x = z)) rfl (hb hby hd) rfl rfl ho (by rw [hc]; rfl) k
  · exact (K1 hc).step fun p e s m below meth c T locs hx hZ hby hown X eT t k => Jvm.RoadKit.acmp (g := mkF m pc ls.toArray (z :: x :: st)) X hx rfl h1 h2 (same := decide (x = z)) rfl (hb hby hd) rfl rfl ho (by rw [hc]; rfl) k
theorem r_acmp_eq {off : Int} {x z : Value} (h1 : x.isRef = true) (h2 : z.isRef = true) (hd : DB bytes pc (.if_acmp .eq) off nx tgt) (K1 : x = z → ORun l y bytes maxL ret R Z n0 as' Q h cells slots tgt ls st) (K2 : ¬ x = z → ORun l y bytes maxL ret R Z n0 as' Q h cells slots nx ls st) : ORun l y bytes maxL ret R Z n0 as' Q h cells slots pc ls (z :: x :: st) :=
  r_acmp h1 h2 hd (fun q => K1 (by simpa [acV] using q)) (fun q => K2 (by simpa [acV] using q))
theorem r_acmp_ne {off : Int} {x z : Value} (h1 : x.isRef = true) (h2 : z.isRef = true) (hd : DB bytes pc (.if_acmp .ne) off nx tgt) (K1 : ¬ x = z → ORun l y bytes maxL ret R Z n0 as' Q h cells slots tgt ls st) (K2 : x = z → ORun l y bytes maxL ret R Z n0 as' Q h cells slots nx ls st) : ORun l y bytes maxL ret R Z n0 as' Q h cells slots pc ls (z :: x :: st) :=
  r_acmp h1 h2 hd (fun q => K1 (by simpa [acV] using q)) (fun q => K2 (by simpa [acV] using q))
/-! returns -/
theorem ORun.back {v : Option Value} (hv : ret = none → v = none) (hc : cells ≤ R.cells) (hs : slots ≤ R.slots) (hq : Q v h)
    (hl : ∀ (p : Program) (e : Env) (s : State) (m : MethodId) (below : List Frame) (meth : Method) (c : Code) (T : State) (locs : List Loc), p.tables.exec = Jvm.exec → c.code = bytes → meth.sig.returnType = ret → Stand p l e R s m as' below meth c T locs cells slots → ∀ fs : List Frame,
      (∀ (f : JFrame) (acts : List Action), f.method = m → f.locked = none → f.entered = [] → (doReturn e (T.setTop f) acts v).1 = T.setFrames fs) → Steps p.tables e below (T.setTop (mkF m pc ls.toArray st)) (T.setFrames fs)) : ORun l y bytes maxL ret R Z n0 as' Q h cells slots pc ls st :=
  fun p e s m below meth c T locs hx hZ hby hml hown hnm hret hlk X eT N => by
    obtain ⟨fs, hr, hrun, hended, hW, hsame⟩ := X.leave (v := v) (fun q => hv (hret ▸ q)) hlk
    exact ⟨_, _, hl p e s m below meth c T locs hx hby hret X fs hr, hrun, hended, v, locs, rfl, ⟨by show Q v T.heap; rw [eT]; exact hq, N⟩, ⟨v, rfl⟩, hW, hsame.mono hc hs⟩
theorem r_ret (hd : D bytes pc .return_ 1 nx) (hc : cells ≤ R.cells) (hs : slots ≤ R.slots) (hq : Q none h) : ORun l y bytes maxL none R Z n0 as' Q h cells slots pc ls [] :=
  ORun.back (fun _ => rfl) hc hs hq fun p e s m below meth c T locs hx hby hret X fs hr => X.returnOut hx hret (hb hby hd.1) hr
theorem r_iret {v : Int32} (hd : D bytes pc .ireturn 1 nx) (hc : cells ≤ R.cells) (hs : slots ≤ R.slots) (hq : Q (some (.int v)) h) : ORun l y bytes maxL (some .int) R Z n0 as' Q h cells slots pc ls (.int v :: st) :=
  ORun.back (fun q => nomatch q) hc hs hq fun p e s m below meth c T locs hx hby hret X fs hr => retOut X hx (t := .int) hret rfl (Or.inl ⟨rfl, Or.inl rfl, _, rfl⟩) (hb hby hd.1) hr
theorem r_nret {v : Int32} {t : FieldType} (ht : t = .boolean ∨ t = .byte ∨ t = .char ∨ t = .short) (hd : D bytes pc .ireturn 1 nx) (hc : cells ≤ R.cells) (hs : slots ≤ R.slots) (hq : Q (some (.int (nar t v))) h) : ORun l y bytes maxL (some t) R Z n0 as' Q h cells slots pc ls (.int v :: st) :=
  ORun.back (fun q => nomatch q) hc hs hq fun p e s m below meth c T locs hx hby hret X fs hr => retN X hx (t := t) hret ht (hb hby hd.1) hr
theorem r_lret {v : Int64} (hd : D bytes pc .lreturn 1 nx) (hc : cells ≤ R.cells) (hs : slots ≤ R.slots) (hq : Q (some (.long v)) h) : ORun l y bytes maxL (some .long) R Z n0 as' Q h cells slots pc ls (.long v :: st) :=
  ORun.back (fun q => nomatch q) hc hs hq fun p e s m below meth c T locs hx hby hret X fs hr => retOut X hx (t := .long) hret rfl (Or.inr (Or.inl ⟨rfl, rfl, _, rfl⟩)) (hb hby hd.1) hr
theorem r_aret {v : Value} {t : FieldType} (ht : t.isReference = true) (hv : v.isRef = true) (hn : narrow t v = v) (hd : D bytes pc .areturn 1 nx) (hc : cells ≤ R.cells) (hs : slots ≤ R.slots) (hq : Q (some v) h) : ORun l y bytes maxL (some t) R Z n0 as' Q h cells slots pc ls (v :: st) :=
  ORun.back (fun q => nomatch q) hc hs hq fun p e s m below meth c T locs hx hby hret X fs hr => retOut X hx (t := t) hret hn (Or.inr (Or.inr (Or.inr (Or.inr ⟨rfl, ht, hv⟩)))) (hb hby hd.1) hr
/-! fields, objects -/
theorem r_getF {index : Nat} {O n d host : String} {a : Addr} {v : Value} (w : (Cond.fieldLink y.cls index O n d).before a0 Z = true ∨ (Cond.fieldLinkNest y.cls index O n d host).before a0 Z = true) (F : Fld Z h a O n d v) (hd : D bytes pc (.getfield index) 3 nx) (K : ORun l y bytes maxL ret R Z n0 as' Q h cells slots nx ls (v :: st)) : ORun l y bytes maxL ret R Z n0 as' Q h cells slots pc ls (.ref a :: st) := by
  obtain ⟨hd, rfl⟩ := hd
  refine K.law fun p e s m below meth c T locs hx hZ hby hml hown hnm X eT N => ?_
  obtain ⟨T', X', e', st'⟩ := getF X hx hZ hown w Via.refl eT F (g := mkF m pc ls.toArray (.ref a :: st)) rfl rfl (hb hby hd)
  exact ⟨T', locs, X', e', N, st'⟩
theorem r_getS {index : Nat} {O n d : String} {v : Value} (w : (Cond.fieldLink y.cls index O n d).before a0 Z = true) (F : Sta Z h O n d v) (hd : D bytes pc (.getstatic index) 3 nx) (K : ORun l y bytes maxL ret R Z n0 as' Q h cells slots nx ls (v :: st)) : ORun l y bytes maxL ret R Z n0 as' Q h cells slots pc ls st := by
  obtain ⟨hd, rfl⟩ := hd
  refine K.law fun p e s m below meth c T locs hx hZ hby hml hown hnm X eT N => ?_
  obtain ⟨T', X', e', st'⟩ := getS2 X hx hZ hown (host := "") (Or.inl w) Via.refl eT F (g := mkF m pc ls.toArray st) rfl (hb hby hd)
  exact ⟨T', locs, X', e', N, st'⟩
theorem ORun.lawK {pc' : Nat} {st' : List Value} {cells' slots' : Nat} {P : Heap → Prop}
    (hs : ∀ (p : Program) (e : Env) (s : State) (m : MethodId) (below : List Frame) (meth : Method) (c : Code) (T : State) (locs : List Loc), p.tables.exec = Jvm.exec → Z.Warmed39 s.vm → c.code = bytes → c.maxLocals = maxL → s.vm.findClass y.cls = some m.cls → meth.name = y.name → Stand p l e R s m as' below meth c T locs cells slots → T.heap = h → Fr n0 locs →
      ∃ T' locs', Stand p l e R s m as' below meth c T' locs' cells' slots' ∧ P T'.heap ∧ Fr n0 locs' ∧ ∀ target, Steps p.tables e below (T'.setTop (mkF m pc' ls'.toArray st')) target → Steps p.tables e below (T.setTop (mkF m pc ls.toArray st)) target)
    (K : ∀ h', P h' → ORun l y bytes maxL ret R Z n0 as' Q h' cells' slots' pc' ls' st') : ORun l y bytes maxL ret R Z n0 as' Q h cells slots pc ls st :=
  fun p e s m below meth c T locs hx hZ hby hml hown hnm hret hlk X eT N => by
    obtain ⟨T', locs', X', eT', N', st⟩ := hs p e s m below meth c T locs hx hZ hby hml hown hnm X eT N
    obtain ⟨U, o, h1, h2⟩ := K _ eT' p e s m below meth c T' locs' hx hZ hby hml hown hnm hret hlk X' rfl N'
    exact ⟨U, o, st _ h1, h2⟩
theorem r_putF {index kk : Nat} {O n d C host : String} {ty : FieldType} {a : Addr} {v old : Value} (w : (Cond.fieldLink y.cls index O n d).before a0 Z = true ∨ (Cond.fieldLinkNest y.cls index O n d host).before a0 Z = true) (F : Fld Z h a O n d old) (E : Exa Z h a C)
    (L : (Cond.lays C O n d).before a0 Z = true ∨ ((Cond.laysFinal C O n d).before a0 Z = true ∧ y.cls = O ∧ y.name = "<init>")) (wi : (Cond.instantiable C kk).before a0 Z = true) (hty : parseFieldDescriptor d = some ty) (hn : narrow ty v = v) (hf : fits ty v = true) (ge : n0 ≤ a) (hd : D bytes pc (.putfield index) 3 nx)
    (K : ∀ h', Wr h h' a (Jvm.RoadKit.slotOf Z O n d) v → ORun l y bytes maxL ret R Z n0 as' Q h' cells slots nx ls st) : ORun l y bytes maxL ret R Z n0 as' Q h cells slots pc ls (v :: .ref a :: st) := by
  obtain ⟨hd, rfl⟩ := hd
  refine ORun.lawK (fun p e s m below meth c T locs hx hZ hby hml hown hnm X eT N => ?_) K
  obtain ⟨T', h', X', rfl, W, st'⟩ := putF X hx hZ hown w Via.refl eT F E (L.imp id fun q => ⟨q.1, q.2.1, hnm.trans q.2.2⟩) wi hty hn hf (g := mkF m pc ls.toArray (v :: .ref a :: st)) rfl rfl (hb hby hd)
  exact ⟨T', _, X', W, Fr.snoc X' N ge, st'⟩
theorem r_putFN {index kk : Nat} {O n d C : String} {ty : FieldType} {a : Addr} {v v' old : Value} (w : (Cond.fieldLink y.cls index O n d).before a0 Z = true) (F : Fld Z h a O n d old) (E : Exa Z h a C)
    (L : (Cond.lays C O n d).before a0 Z = true ∨ ((Cond.laysFinal C O n d).before a0 Z = true ∧ y.cls = O ∧ y.name = "<init>")) (wi : (Cond.instantiable C kk).before a0 Z = true) (hty : parseFieldDescriptor d = some ty) (hn : narrow ty v = v') (hf : fits ty v' = true) (ge : n0 ≤ a) (hd : D bytes pc (.putfield index) 3 nx)
    (K : ∀ h', Wr h h' a (Jvm.RoadKit.slotOf Z O n d) v' → ORun l y bytes maxL ret R Z n0 as' Q h' cells slots nx ls st) : ORun l y bytes maxL ret R Z n0 as' Q h cells slots pc ls (v :: .ref a :: st) := by
  obtain ⟨hd, rfl⟩ := hd
  refine ORun.lawK (fun p e s m below meth c T locs hx hZ hby hml hown hnm X eT N => ?_) K
  obtain ⟨T', h', X', rfl, W, st'⟩ := putFN X hx hZ hown w Via.refl eT F E (L.imp id fun q => ⟨q.1, q.2.1, hnm.trans q.2.2⟩) wi hty hn hf (g := mkF m pc ls.toArray (v :: .ref a :: st)) rfl rfl (hb hby hd)
  exact ⟨T', _, X', W, Fr.snoc X' N ge, st'⟩
theorem r_new {index n : Nat} {C : String} (w : (Cond.classLink y.cls index C).before a0 Z = true) (wi : (Cond.instantiable C n).before a0 Z = true) (wz : (Cond.initialized C).before a0 Z = true) (hd : D bytes pc (.new index) 3 nx) (hc : cells + 1 ≤ R.cells) (hl : slots + n ≤ R.slots)
    (K : ∀ h', Ext h h' ∧ Exa Z h' h.size C ∧ (∀ {O nm d : String} {ty : FieldType}, Laid Z a0 C O nm d → parseFieldDescriptor d = some ty → Fld Z h' h.size O nm d (defaultValue ty)) → ORun l y bytes maxL ret R Z n0 as' Q h' (cells + 1) (slots + n) nx ls (.ref h.size :: st)) : ORun l y bytes maxL ret R Z n0 as' Q h cells slots pc ls st := by
  obtain ⟨hd, rfl⟩ := hd
  refine ORun.lawK (fun p e s m below meth c T locs hx hZ hby hml hown hnm X eT N => ?_) K
  obtain ⟨T', h', X', rfl, E, A, D', -, st'⟩ := newO X hx hZ hown w wi wz eT (g := mkF m pc ls.toArray st) rfl (hb hby hd) hc hl
  exact ⟨T', _, X', ⟨E, A, D'⟩, N, st'⟩
theorem r_newarr {aty : ArrayType} {n : Int32} (cap : Nat) (w : (Cond.arrayClass (newarray.typeOf aty)).before a0 Z = true) (hd : D bytes pc (.newarray aty) 2 nx) (hn : ¬ n < 0) (hcap : n.toNatClampNeg ≤ cap) (hb' : cap * 8 ≤ 536870912) (hc : cells + 1 ≤ R.cells) (hl : slots + cap ≤ R.slots)
    (K : ∀ h' cA, Ext h h' → Arr Z h' h.size (newA cA (newarray.typeOf aty) n) (newarray.typeOf aty) → ORun l y bytes maxL ret R Z n0 as' Q h' (cells + 1) (slots + cap) nx ls (.ref h.size :: st)) : ORun l y bytes maxL ret R Z n0 as' Q h cells slots pc ls (.int n :: st) := by
  obtain ⟨hd, rfl⟩ := hd
  refine ORun.lawK (P := fun h' => ∃ cA, Ext h h' ∧ Arr Z h' h.size (newA cA (newarray.typeOf aty) n) (newarray.typeOf aty)) (fun p e s m below meth c T locs hx hZ hby hml hown hnm X eT N => ?_) (fun h' q => by obtain ⟨cA, E, A⟩ := q; exact K h' cA E A)
  obtain ⟨T', h', cA, X', rfl, E, A, st'⟩ := newP X hx hZ w eT (g := mkF m pc ls.toArray (.int n :: st)) rfl (hb hby hd) rfl hn hcap hb' hc hl
  exact ⟨T', _, X', ⟨cA, E, A⟩, N, st'⟩
/-! arrays -/
theorem r_len {a : Addr} {cl : Cell} {ty : FieldType} (A : Arr Z h a cl ty) (hd : D bytes pc .arraylength 1 nx) (K : ORun l y bytes maxL ret R Z n0 as' Q h cells slots nx ls (.int cl.slots.size.toInt32 :: st)) : ORun l y bytes maxL ret R Z n0 as' Q h cells slots pc ls (.ref a :: st) := by
  obtain ⟨hd, rfl⟩ := hd
  exact K.step fun p e s m below meth c T locs hx hZ hby hown X eT t k => X.arraylength hx (by rw [eT]; exact A.1) (State.isArrayOf_alike hZ.alike A.2.1) (g := mkF m pc ls.toArray (.ref a :: st)) rfl rfl (hb hby hd) _ k
theorem r_iaload {a : Addr} {cl : Cell} {j : Int32} {v : Value} (A : Arr Z h a cl .int) (hj : ¬ (j < 0 ∨ cl.slots.size ≤ j.toNatClampNeg)) (hv : cl.slots[j.toNatClampNeg]? = some v) (hd : D bytes pc .iaload 1 nx) (K : ORun l y bytes maxL ret R Z n0 as' Q h cells slots nx ls (v :: st)) : ORun l y bytes maxL ret R Z n0 as' Q h cells slots pc ls (.int j :: .ref a :: st) := by
  obtain ⟨hd, rfl⟩ := hd
  exact K.step fun p e s m below meth c T locs hx hZ hby hown X eT t k => X.iaload hx (j := j) (v := v) (by rw [eT]; exact A.1) (State.isArrayOf_alike hZ.alike A.2.1) A.2.2 hj hv (g := mkF m pc ls.toArray (.int j :: .ref a :: st)) rfl rfl (hb hby hd) _ k
theorem r_caload {a : Addr} {cl : Cell} {j : Int32} {v : Value} (A : Arr Z h a cl .char) (hj : ¬ (j < 0 ∨ cl.slots.size ≤ j.toNatClampNeg)) (hv : cl.slots[j.toNatClampNeg]? = some v) (hd : D bytes pc .caload 1 nx) (K : ORun l y bytes maxL ret R Z n0 as' Q h cells slots nx ls (v :: st)) : ORun l y bytes maxL ret R Z n0 as' Q h cells slots pc ls (.int j :: .ref a :: st) := by
  obtain ⟨hd, rfl⟩ := hd
  exact K.step fun p e s m below meth c T locs hx hZ hby hown X eT t k => X.caload hx (j := j) (v := v) (by rw [eT]; exact A.1) (State.isArrayOf_alike hZ.alike A.2.1) A.2.2 hj hv (g := mkF m pc ls.toArray (.int j :: .ref a :: st)) rfl rfl (hb hby hd) _ k
theorem r_baload {a : Addr} {cl : Cell} {j : Int32} {v : Value} (A : Arr Z h a cl .byte) (hj : ¬ (j < 0 ∨ cl.slots.size ≤ j.toNatClampNeg)) (hv : cl.slots[j.toNatClampNeg]? = some v) (hd : D bytes pc .baload 1 nx) (K : ORun l y bytes maxL ret R Z n0 as' Q h cells slots nx ls (v :: st)) : ORun l y bytes maxL ret R Z n0 as' Q h cells slots pc ls (.int j :: .ref a :: st) := by
  obtain ⟨hd, rfl⟩ := hd
  exact K.step fun p e s m below meth c T locs hx hZ hby hown X eT t k => X.baloadBytes hx (j := j) (v := v) (by rw [eT]; exact A.1) (State.isArrayOf_alike hZ.alike A.2.1) A.2.2 hj hv (g := mkF m pc ls.toArray (.int j :: .ref a :: st)) rfl rfl (hb hby hd) _ k
theorem r_laload {a : Addr} {cl : Cell} {j : Int32} {v : Value} (A : Arr Z h a cl .long) (hj : ¬ (j < 0 ∨ cl.slots.size ≤ j.toNatClampNeg)) (hv : cl.slots[j.toNatClampNeg]? = some v) (hd : D bytes pc .laload 1 nx) (K : ORun l y bytes maxL ret R Z n0 as' Q h cells slots nx ls (v :: st)) : ORun l y bytes maxL ret R Z n0 as' Q h cells slots pc ls (.int j :: .ref a :: st) := by
  obtain ⟨hd, rfl⟩ := hd
  exact K.step fun p e s m below meth c T locs hx hZ hby hown X eT t k => X.laload hx (j := j) (v := v) (by rw [eT]; exact A.1) (State.isArrayOf_alike hZ.alike A.2.1) A.2.2 hj hv (g := mkF m pc ls.toArray (.int j :: .ref a :: st)) rfl rfl (hb hby hd) _ k
theorem r_saload {a : Addr} {cl : Cell} {j : Int32} {v : Value} (A : Arr Z h a cl .short) (hj : ¬ (j < 0 ∨ cl.slots.size ≤ j.toNatClampNeg)) (hv : cl.slots[j.toNatClampNeg]? = some v) (hd : D bytes pc .saload 1 nx) (K : ORun l y bytes maxL ret R Z n0 as' Q h cells slots nx ls (v :: st)) : ORun l y bytes maxL ret R Z n0 as' Q h cells slots pc ls (.int j :: .ref a :: st) := by
  obtain ⟨hd, rfl⟩ := hd
  exact K.step fun p e s m below meth c T locs hx hZ hby hown X eT t k => X.saload hx (j := j) (v := v) (by rw [eT]; exact A.1) (State.isArrayOf_alike hZ.alike A.2.1) A.2.2 hj hv (g := mkF m pc ls.toArray (.int j :: .ref a :: st)) rfl rfl (hb hby hd) _ k
theorem r_aaload {a : Addr} {cl : Cell} {j : Int32} {v : Value} {ty : FieldType} (A : Arr Z h a cl ty) (hty : ty.isReference = true) (hj : ¬ (j < 0 ∨ cl.slots.size ≤ j.toNatClampNeg)) (hv : cl.slots[j.toNatClampNeg]? = some v) (hd : D bytes pc .aaload 1 nx) (K : ORun l y bytes maxL ret R Z n0 as' Q h cells slots nx ls (v :: st)) : ORun l y bytes maxL ret R Z n0 as' Q h cells slots pc ls (.int j :: .ref a :: st) := by
  obtain ⟨hd, rfl⟩ := hd
  exact K.step fun p e s m below meth c T locs hx hZ hby hown X eT t k => X.aaload hx (j := j) (v := v) (by rw [eT]; exact A.1) (State.isArrayOf_alike hZ.alike A.2.1) hty A.2.2 hj hv (g := mkF m pc ls.toArray (.int j :: .ref a :: st)) rfl rfl (hb hby hd) _ k
theorem r_iastore {a : Addr} {cl : Cell} {j : Int32} {x : Int32} (A : Arr Z h a cl .int) (hj : ¬ (j < 0 ∨ cl.slots.size ≤ j.toNatClampNeg)) (ge : n0 ≤ a) (hd : D bytes pc .iastore 1 nx) (K : ∀ h', Wr h h' a j.toNatClampNeg (.int x) → ORun l y bytes maxL ret R Z n0 as' Q h' cells slots nx ls st) : ORun l y bytes maxL ret R Z n0 as' Q h cells slots pc ls (.int x :: .int j :: .ref a :: st) := by
  obtain ⟨hd, rfl⟩ := hd
  refine ORun.lawK (fun p e s m below meth c T locs hx hZ hby hml hown hnm X eT N => ?_) K
  obtain ⟨T', h', X', rfl, W, st'⟩ := stI X hx hZ eT A hj (g := mkF m pc ls.toArray (.int x :: .int j :: .ref a :: st)) rfl rfl (hb hby hd)
  exact ⟨T', _, X', W, Fr.snoc X' N ge, st'⟩
theorem r_castore {a : Addr} {cl : Cell} {j : Int32} {x : Int32} (A : Arr Z h a cl .char) (hj : ¬ (j < 0 ∨ cl.slots.size ≤ j.toNatClampNeg)) (ge : n0 ≤ a) (hd : D bytes pc .castore 1 nx) (K : ∀ h', Wr h h' a j.toNatClampNeg (.int (nar .char x)) → ORun l y bytes maxL ret R Z n0 as' Q h' cells slots nx ls st) : ORun l y bytes maxL ret R Z n0 as' Q h cells slots pc ls (.int x :: .int j :: .ref a :: st) := by
  obtain ⟨hd, rfl⟩ := hd
  refine ORun.lawK (fun p e s m below meth c T locs hx hZ hby hml hown hnm X eT N => ?_) K
  obtain ⟨T', h', X', rfl, W, st'⟩ := stC X hx hZ eT A hj (g := mkF m pc ls.toArray (.int x :: .int j :: .ref a :: st)) rfl rfl (hb hby hd)
  exact ⟨T', _, X', W, Fr.snoc X' N ge, st'⟩
theorem r_bastore {a : Addr} {cl : Cell} {j : Int32} {x : Int32} (A : Arr Z h a cl .byte) (hj : ¬ (j < 0 ∨ cl.slots.size ≤ j.toNatClampNeg)) (ge : n0 ≤ a) (hd : D bytes pc .bastore 1 nx) (K : ∀ h', Wr h h' a j.toNatClampNeg (.int (nar .byte x)) → ORun l y bytes maxL ret R Z n0 as' Q h' cells slots nx ls st) : ORun l y bytes maxL ret R Z n0 as' Q h cells slots pc ls (.int x :: .int j :: .ref a :: st) := by
  obtain ⟨hd, rfl⟩ := hd
  refine ORun.lawK (fun p e s m below meth c T locs hx hZ hby hml hown hnm X eT N => ?_) K
  obtain ⟨T', h', X', rfl, W, st'⟩ := stB X hx hZ eT A hj (g := mkF m pc ls.toArray (.int x :: .int j :: .ref a :: st)) rfl rfl (hb hby hd)
  exact ⟨T', _, X', W, Fr.snoc X' N ge, st'⟩
theorem r_lastore {a : Addr} {cl : Cell} {j : Int32} {x : Int64} (A : Arr Z h a cl .long) (hj : ¬ (j < 0 ∨ cl.slots.size ≤ j.toNatClampNeg)) (ge : n0 ≤ a) (hd : D bytes pc .lastore 1 nx) (K : ∀ h', Wr h h' a j.toNatClampNeg (.long x) → ORun l y bytes maxL ret R Z n0 as' Q h' cells slots nx ls st) : ORun l y bytes maxL ret R Z n0 as' Q h cells slots pc ls (.long x :: .int j :: .ref a :: st) := by
  obtain ⟨hd, rfl⟩ := hd
  refine ORun.lawK (fun p e s m below meth c T locs hx hZ hby hml hown hnm X eT N => ?_) K
  obtain ⟨T', h', X', rfl, W, st'⟩ := stJ X hx hZ eT A hj (g := mkF m pc ls.toArray (.long x :: .int j :: .ref a :: st)) rfl rfl (hb hby hd)
  exact ⟨T', _, X', W, Fr.snoc X' N ge, st'⟩
theorem r_lenA {a : Addr} {ty : FieldType} {vs : List Int32} (n : Int32) (A : Ary Z h a ty vs) (hn : vs.length.toInt32 = n) (hd : D bytes pc .arraylength 1 nx) (K : ORun l y bytes maxL ret R Z n0 as' Q h cells slots nx ls (.int n :: st)) : ORun l y bytes maxL ret R Z n0 as' Q h cells slots pc ls (.ref a :: st) := by
  obtain ⟨c, A, q⟩ := A
  refine r_len A hd ?_
  rw [Ary.size q, hn]; exact K
theorem r_ldI {a : Addr} {vs : List Int32} {j : Int32} (x : Int32) (A : Ary Z h a .int vs) (hj : ¬ j < 0) (hv : vs[j.toNatClampNeg]? = some x) (hd : D bytes pc .iaload 1 nx) (K : ORun l y bytes maxL ret R Z n0 as' Q h cells slots nx ls (.int x :: st)) : ORun l y bytes maxL ret R Z n0 as' Q h cells slots pc ls (.int j :: .ref a :: st) := by
  obtain ⟨c, A, q⟩ := A
  have e := Ary.inb q hj hv
  exact r_iaload A e.1 e.2 hd K
theorem r_ldC {a : Addr} {vs : List Int32} {j : Int32} (x : Int32) (A : Ary Z h a .char vs) (hj : ¬ j < 0) (hv : vs[j.toNatClampNeg]? = some x) (hd : D bytes pc .caload 1 nx) (K : ORun l y bytes maxL ret R Z n0 as' Q h cells slots nx ls (.int x :: st)) : ORun l y bytes maxL ret R Z n0 as' Q h cells slots pc ls (.int j :: .ref a :: st) := by
  obtain ⟨c, A, q⟩ := A
  have e := Ary.inb q hj hv
  exact r_caload A e.1 e.2 hd K
theorem r_ldB {a : Addr} {vs : List Int32} {j : Int32} (x : Int32) (A : Ary Z h a .byte vs) (hj : ¬ j < 0) (hv : vs[j.toNatClampNeg]? = some x) (hd : D bytes pc .baload 1 nx) (K : ORun l y bytes maxL ret R Z n0 as' Q h cells slots nx ls (.int x :: st)) : ORun l y bytes maxL ret R Z n0 as' Q h cells slots pc ls (.int j :: .ref a :: st) := by
  obtain ⟨c, A, q⟩ := A
  have e := Ary.inb q hj hv
  exact r_baload A e.1 e.2 hd K
theorem r_stI {a : Addr} {vs : List Int32} {j x : Int32} (i : Nat) (vs' : List Int32) (A : Ary Z h a .int vs) (hj : ¬ j < 0) (hi : j.toNatClampNeg = i) (hl : i < vs.length) (hvs : vs.set i x = vs') (ge : n0 ≤ a) (hd : D bytes pc .iastore 1 nx) (K : ∀ h', Wr h h' a i (.int x) → Ary Z h' a .int vs' → ORun l y bytes maxL ret R Z n0 as' Q h' cells slots nx ls st) : ORun l y bytes maxL ret R Z n0 as' Q h cells slots pc ls (.int x :: .int j :: .ref a :: st) := by
  have A' := A
  obtain ⟨c, A, q⟩ := A
  subst hi
  refine r_iastore A (fun r => ?_) ge hd fun h' W => K h' W (A'.set W hvs)
  rcases r with r | r
  · exact hj r
  · rw [Ary.size q] at r; omega
theorem r_stC {a : Addr} {vs : List Int32} {j x : Int32} (i : Nat) (vs' : List Int32) (A : Ary Z h a .char vs) (hj : ¬ j < 0) (hi : j.toNatClampNeg = i) (hl : i < vs.length) (hvs : vs.set i (nar .char x) = vs') (ge : n0 ≤ a) (hd : D bytes pc .castore 1 nx) (K : ∀ h', Wr h h' a i (.int (nar .char x)) → Ary Z h' a .char vs' → ORun l y bytes maxL ret R Z n0 as' Q h' cells slots nx ls st) : ORun l y bytes maxL ret R Z n0 as' Q h cells slots pc ls (.int x :: .int j :: .ref a :: st) := by
  have A' := A
  obtain ⟨c, A, q⟩ := A
  subst hi
  refine r_castore A (fun r => ?_) ge hd fun h' W => K h' W (A'.set W hvs)
  rcases r with r | r
  · exact hj r
  · rw [Ary.size q] at r; omega
theorem r_stB {a : Addr} {vs : List Int32} {j x : Int32} (i : Nat) (vs' : List Int32) (A : Ary Z h a .byte vs) (hj : ¬ j < 0) (hi : j.toNatClampNeg = i) (hl : i < vs.length) (hvs : vs.set i (nar .byte x) = vs') (ge : n0 ≤ a) (hd : D bytes pc .bastore 1 nx) (K : ∀ h', Wr h h' a i (.int (nar .byte x)) → Ary Z h' a .byte vs' → ORun l y bytes maxL ret R Z n0 as' Q h' cells slots nx ls st) : ORun l y bytes maxL ret R Z n0 as' Q h cells slots pc ls (.int x :: .int j :: .ref a :: st) := by
  have A' := A
  obtain ⟨c, A, q⟩ := A
  subst hi
  refine r_bastore A (fun r => ?_) ge hd fun h' W => K h' W (A'.set W hvs)
  rcases r with r | r
  · exact hj r
  · rw [Ary.size q] at r; omega
/-! calls -/
theorem r_initO {idx : Nat} {a : Addr} (w1 : (Cond.methodLink y.cls idx Lib.objectInit).before a0 Z = true) (w2 : (Cond.instanceMethod Lib.objectInit).before a0 Z = true) (w3 : (Cond.code Lib.objectInit ⟨#[0xb1]⟩ 1 none).before a0 Z = true) (hd : D bytes pc (.invokespecial idx) 3 nx) (hsz : ls.length = maxL) (hf : 1 ≤ R.frames) (W : Nat) (hW : (st.map fun v => v.category).sum = W) (hl : W + 12 ≤ R.locals)
    (K : ORun l y bytes maxL ret R Z n0 as' Q h cells slots nx ls st) : ORun l y bytes maxL ret R Z n0 as' Q h cells slots pc ls (.ref a :: st) := by
  obtain ⟨hd, rfl⟩ := hd
  refine K.law fun p e s m below meth c T locs hx hZ hby hml hown hnm X eT N => ?_
  obtain ⟨T', X', e', st'⟩ := initO X hx hZ hown w1 w2 w3 eT (g := mkF m pc ls.toArray (.ref a :: st)) rfl (by rw [hml]; simpa using hsz) rfl (hb hby hd) hf (W := W) (by show 2 * 0 + _ ≤ _; omega) hl
  exact ⟨T', locs, X', e', N, st'⟩
theorem ORun.call {y' : MethodName} {R' : Room} {Q' : Option Value → Heap → Prop} {rest : List Value}
    (hs : ∀ (p : Program) (e : Env) (s : State) (m : MethodId) (below : List Frame) (meth : Method) (c : Code) (T : State) (locs : List Loc), p.tables.exec = Jvm.exec → Z.Warmed39 s.vm → c.code = bytes → c.maxLocals = maxL → s.vm.findClass y.cls = some m.cls → Stand p l e R s m as' below meth c T locs cells slots → T.heap = h →
      ∃ (v : Option Value) (B : Pt), Stand p l e R s m as' below meth c B.U B.locs B.cells B.slots ∧ (∃ L, (Q' v B.U.heap ∧ Fr n0 L) ∧ B.locs = locs ++ L ∧ B.cells = cells + R'.cells ∧ B.slots = slots + R'.slots) ∧
        ∀ target, Steps p.tables e below (B.U.setTop (mkF m nx ls.toArray (v.toList ++ rest))) target → Steps p.tables e below (T.setTop (mkF m pc ls.toArray st)) target)
    (K : ∀ v h', Q' v h' → ORun l y bytes maxL ret R Z n0 as' Q h' (cells + R'.cells) (slots + R'.slots) nx ls (v.toList ++ rest)) : ORun l y bytes maxL ret R Z n0 as' Q h cells slots pc ls st :=
  fun p e s m below meth c T locs hx hZ hby hml hown hnm hret hlk X eT N => by
    obtain ⟨v, ⟨T', L', k', n'⟩, X', ⟨L, ⟨hq, N'⟩, q1, q2, q3⟩, st⟩ := hs p e s m below meth c T locs hx hZ hby hml hown X eT
    dsimp only [Pt.U, Pt.locs, Pt.cells, Pt.slots] at X' q1 q2 q3 st hq
    subst q1 q2 q3
    obtain ⟨U, o, h1, h2⟩ := K v _ hq p e s m below meth c T' _ hx hZ hby hml hown hnm hret hlk X' rfl (Fr.app N N')
    exact ⟨U, o, st _ h1, h2⟩
variable {b' : ByteArray} {mL' : Nat} {ret' : Option FieldType} {R' : Room} {Q' : Option Value → Heap → Prop} {y' : MethodName} {idx : Nat}
theorem r_static (argsL rest : List Value) (hst : st = argsL.reverse ++ rest) {ps : List FieldType} (hpd : parseMethodDescriptor y'.desc = some ⟨ps, ret'⟩) (hlen : argsL.length = ps.length)
    (w1 : (Cond.methodLink y.cls idx y').before a0 Z = true) (w2 : (Cond.static y').before a0 Z = true) (w3 : (Cond.initialized y'.cls).before a0 Z = true) (w4 : (Cond.code y' b' mL' ret').before a0 Z = true) (hy : y'.cls ≠ "java/lang/invoke/MethodHandle" ∧ y'.cls ≠ "java/lang/invoke/VarHandle")
    (C : Ct l y' b' mL' ret' [] R' Z n0 argsL.toArray h Q') (hd : D bytes pc (.invokestatic idx) 3 nx) (hsz : ls.length = maxL) (hf : R'.frames + 1 ≤ R.frames) (W : Nat) (hW : (rest.map fun v => v.category).sum = W) (hl : W + (mL' + 11) + R'.locals ≤ R.locals) (hc : cells + R'.cells ≤ R.cells) (hs : slots + R'.slots ≤ R.slots)
    (K : ∀ v h', Q' v h' → ORun l y bytes maxL ret R Z n0 as' Q h' (cells + R'.cells) (slots + R'.slots) nx ls (v.toList ++ rest)) : ORun l y bytes maxL ret R Z n0 as' Q h cells slots pc ls st := by
  obtain ⟨hd, rfl⟩ := hd
  subst hst
  refine ORun.call (y' := y') (fun p e s m below meth c T locs hx hZ hby hml hown X eT => ?_) K
  obtain ⟨v, _, B, -, X', hq, st'⟩ := Jvm.LawKit.callS X hx (y := y') hown (mvT hZ w1) (mvT hZ w2) (mvT hZ w3) (mvT hZ w4) hy (backOf (len := 3) (W := W) (Q := fun v h L => Q' v h ∧ Fr n0 L) C hZ w4 w3 hf hl) (g := mkF m pc ls.toArray (argsL.reverse ++ rest)) rfl (by rw [hml]; simpa using hsz) (argsL := argsL) (rest := rest) (lenOf hpd hlen) rfl (by show 2 * 0 + _ ≤ _; omega) (hb hby hd) (fun _ _ => ⟨rfl, eT, hc, hs⟩)
  exact ⟨v, B, X', hq, st'⟩
theorem r_special (argsL rest : List Value) (a : Addr) (hst : st = argsL.reverse ++ .ref a :: rest) {ps : List FieldType} (hpd : parseMethodDescriptor y'.desc = some ⟨ps, none⟩) (hlen : argsL.length = ps.length) (hn : y'.name = "<init>")
    (w1 : (Cond.methodLink y.cls idx y').before a0 Z = true) (w2 : (Cond.instanceMethod y').before a0 Z = true) (w3 : (Cond.initialized y'.cls).before a0 Z = true) (w4 : (Cond.code y' b' mL' none).before a0 Z = true) (hy : y'.cls ≠ "java/lang/invoke/MethodHandle" ∧ y'.cls ≠ "java/lang/invoke/VarHandle")
    (C : Ct l y' b' mL' none [] R' Z n0 (.ref a :: argsL).toArray h Q') (hd : D bytes pc (.invokespecial idx) 3 nx) (hsz : ls.length = maxL) (hf : R'.frames + 1 ≤ R.frames) (W : Nat) (hW : (rest.map fun v => v.category).sum = W) (hl : W + (mL' + 11) + R'.locals ≤ R.locals) (hc : cells + R'.cells ≤ R.cells) (hs : slots + R'.slots ≤ R.slots)
    (K : ∀ v h', Q' v h' → ORun l y bytes maxL ret R Z n0 as' Q h' (cells + R'.cells) (slots + R'.slots) nx ls (v.toList ++ rest)) : ORun l y bytes maxL ret R Z n0 as' Q h cells slots pc ls st := by
  obtain ⟨hd, rfl⟩ := hd
  subst hst
  refine ORun.call (y' := y') (fun p e s m below meth c T locs hx hZ hby hml hown X eT => ?_) K
  obtain ⟨v, _, B, -, X', hq, st'⟩ := X.specialBack hx (y := y') hn hown (mvT hZ w1) (mvT hZ w2) (mvT hZ w4) hy (backOf (len := 3) (W := W) (Q := fun v h L => Q' v h ∧ Fr n0 L) C hZ w4 w3 hf hl) (g := mkF m pc ls.toArray (argsL.reverse ++ .ref a :: rest)) rfl (by rw [hml]; simpa using hsz) (Steps.refl _) (a := a) (argsL := argsL) (rest := rest) (lenOf hpd hlen) rfl (by show 2 * 0 + _ ≤ _; omega) (hb hby hd) (fun _ _ => ⟨rfl, eT, hc, hs⟩)
  exact ⟨v, B, X', hq, fun t k => st'.trans k⟩
theorem r_virtual (argsL rest : List Value) (a : Addr) {C : String} (E : Exa Z h a C) (hst : st = argsL.reverse ++ .ref a :: rest) {ps : List FieldType} (hpd : parseMethodDescriptor y'.desc = some ⟨ps, ret'⟩) (hlen : argsL.length = ps.length)
    (w1 : (Cond.methodLink y.cls idx y').before a0 Z = true) (w2 : (Cond.declares y').before a0 Z = true) (ws : (Cond.selects C y' y').before a0 Z = true) (w5 : (Cond.instanceMethod y').before a0 Z = true) (w3 : (Cond.initialized y'.cls).before a0 Z = true) (w4 : (Cond.code y' b' mL' ret').before a0 Z = true) (hC : C = y'.cls) (hy : y'.cls ≠ "java/lang/invoke/MethodHandle" ∧ y'.cls ≠ "java/lang/invoke/VarHandle")
    (C' : Ct l y' b' mL' ret' [] R' Z n0 (.ref a :: argsL).toArray h Q') (hd : D bytes pc (.invokevirtual idx) 3 nx) (hsz : ls.length = maxL) (hf : R'.frames + 1 ≤ R.frames) (W : Nat) (hW : (rest.map fun v => v.category).sum = W) (hl : W + (mL' + 11) + R'.locals ≤ R.locals) (hc : cells + R'.cells ≤ R.cells) (hs : slots + R'.slots ≤ R.slots)
    (K : ∀ v h', Q' v h' → ORun l y bytes maxL ret R Z n0 as' Q h' (cells + R'.cells) (slots + R'.slots) nx ls (v.toList ++ rest)) : ORun l y bytes maxL ret R Z n0 as' Q h cells slots pc ls st := by
  obtain ⟨hd, rfl⟩ := hd
  subst hst hC
  refine ORun.call (y' := y') (fun p e s m below meth c T locs hx hZ hby hml hown X eT => ?_) K
  obtain ⟨cq, kq, q1, q2, q3⟩ := isOf hZ eT E
  obtain ⟨v, _, B, -, X', hq, st'⟩ := X.virtualBack hx (y := y') (z := y') hown (mvT hZ w1) (mvT hZ w2) (notFace_of_selects (args := #[]) (mvT hZ ws)) (mvT hZ ws) (mvT hZ w5) hy (backOf (len := 3) (W := W) (Q := fun v h L => Q' v h ∧ Fr n0 L) C' hZ w4 w3 hf hl) q1 q3 (g := mkF m pc ls.toArray (argsL.reverse ++ .ref a :: rest)) rfl (by rw [hml]; simpa using hsz) (Steps.refl _) (argsL := argsL) (rest := rest) (lenOf hpd hlen) rfl (by show 2 * 0 + _ ≤ _; omega) (hb hby hd) (fun _ _ => ⟨rfl, eT, hc, hs⟩)
  exact ⟨v, B, X', hq, fun t k => st'.trans k⟩
theorem r_staticP (argsL rest : List Value) (hst : st = argsL.reverse ++ rest) {ps : List FieldType} (hpd : parseMethodDescriptor y'.desc = some ⟨ps, ret'⟩) (hlen : argsL.length = ps.length)
    (w1 : (Cond.methodLink y.cls idx y').before a0 Z = true) (w2 : (Cond.static y').before a0 Z = true) (w3 : (Cond.initialized y'.cls).before a0 Z = true) (w4 : (Cond.code y' b' mL' ret').before a0 Z = true) (hy : y'.cls ≠ "java/lang/invoke/MethodHandle" ∧ y'.cls ≠ "java/lang/invoke/VarHandle") {w : Value}
    (C : Ct l y' b' mL' ret' [] R' Z n0 argsL.toArray h (fun v h' => v = some w ∧ h' = h)) (hd : D bytes pc (.invokestatic idx) 3 nx) (hsz : ls.length = maxL) (hf : R'.frames + 1 ≤ R.frames) (W : Nat) (hW : (rest.map fun v => v.category).sum = W) (hl : W + (mL' + 11) + R'.locals ≤ R.locals) (h0c : R'.cells = 0) (h0s : R'.slots = 0) (hc : cells ≤ R.cells) (hs : slots ≤ R.slots)
    (K : ORun l y bytes maxL ret R Z n0 as' Q h cells slots nx ls (w :: rest)) : ORun l y bytes maxL ret R Z n0 as' Q h cells slots pc ls st :=
  r_static argsL rest hst hpd hlen w1 w2 w3 w4 hy C hd hsz hf W hW hl (by omega) (by omega) fun v h' q => by
    obtain ⟨rfl, rfl⟩ := q
    rw [h0c, h0s]; exact K
theorem r_virtualP (argsL rest : List Value) (a : Addr) {C : String} (E : Exa Z h a C) (hst : st = argsL.reverse ++ .ref a :: rest) {ps : List FieldType} (hpd : parseMethodDescriptor y'.desc = some ⟨ps, ret'⟩) (hlen : argsL.length = ps.length)
    (w1 : (Cond.methodLink y.cls idx y').before a0 Z = true) (w2 : (Cond.declares y').before a0 Z = true) (ws : (Cond.selects C y' y').before a0 Z = true) (w5 : (Cond.instanceMethod y').before a0 Z = true) (w3 : (Cond.initialized y'.cls).before a0 Z = true) (w4 : (Cond.code y' b' mL' ret').before a0 Z = true) (hC : C = y'.cls) (hy : y'.cls ≠ "java/lang/invoke/MethodHandle" ∧ y'.cls ≠ "java/lang/invoke/VarHandle") {w : Value}
    (C' : Ct l y' b' mL' ret' [] R' Z n0 (.ref a :: argsL).toArray h (fun v h' => v = some w ∧ h' = h)) (hd : D bytes pc (.invokevirtual idx) 3 nx) (hsz : ls.length = maxL) (hf : R'.frames + 1 ≤ R.frames) (W : Nat) (hW : (rest.map fun v => v.category).sum = W) (hl : W + (mL' + 11) + R'.locals ≤ R.locals) (h0c : R'.cells = 0) (h0s : R'.slots = 0) (hc : cells ≤ R.cells) (hs : slots ≤ R.slots)
    (K : ORun l y bytes maxL ret R Z n0 as' Q h cells slots nx ls (w :: rest)) : ORun l y bytes maxL ret R Z n0 as' Q h cells slots pc ls st :=
  r_virtual argsL rest a E hst hpd hlen w1 w2 ws w5 w3 w4 hC hy C' hd hsz hf W hW hl (by omega) (by omega) fun v h' q => by
    obtain ⟨rfl, rfl⟩ := q
    rw [h0c, h0s]; exact K
theorem r_private (argsL rest : List Value) (a : Addr) {C : String} {kk : Nat} (E : Exa Z h a C) (hst : st = argsL.reverse ++ .ref a :: rest) {ps : List FieldType} (hpd : parseMethodDescriptor y'.desc = some ⟨ps, ret'⟩) (hlen : argsL.length = ps.length)
    (w1 : (Cond.methodLink y.cls idx y').before a0 Z = true) (w5 : (Cond.instanceMethod y').before a0 Z = true) (wp : (Cond.privateMethod y').before a0 Z = true) (wi : (Cond.instantiable y'.cls kk).before a0 Z = true) (w3 : (Cond.initialized y'.cls).before a0 Z = true) (w4 : (Cond.code y' b' mL' ret').before a0 Z = true) (hy : y'.cls ≠ "java/lang/invoke/MethodHandle" ∧ y'.cls ≠ "java/lang/invoke/VarHandle")
    (C' : Ct l y' b' mL' ret' [] R' Z n0 (.ref a :: argsL).toArray h Q') (hd : D bytes pc (.invokevirtual idx) 3 nx) (hsz : ls.length = maxL) (hf : R'.frames + 1 ≤ R.frames) (W : Nat) (hW : (rest.map fun v => v.category).sum = W) (hl : W + (mL' + 11) + R'.locals ≤ R.locals) (hc : cells + R'.cells ≤ R.cells) (hs : slots + R'.slots ≤ R.slots)
    (K : ∀ v h', Q' v h' → ORun l y bytes maxL ret R Z n0 as' Q h' (cells + R'.cells) (slots + R'.slots) nx ls (v.toList ++ rest)) : ORun l y bytes maxL ret R Z n0 as' Q h cells slots pc ls st := by
  obtain ⟨hd, rfl⟩ := hd
  subst hst
  refine ORun.call (y' := y') (fun p e s m below meth c T locs hx hZ hby hml hown X eT => ?_) K
  obtain ⟨cell, hcl, hob⟩ := E.cell
  have hi : (Cond.instanceMethod y').before as' s = true := mvT hZ w5
  have hp : s.PrivateAt y' := Cond.privateMethod_at (mvP hZ wp (args := as'))
  obtain ⟨cc, k, i1, i2, -, i4, -⟩ := Cond.instantiable_spec (show (Cond.instantiable y'.cls kk).before as' s = true from mvT hZ wi)
  have hni : k.isInterface = false := by simp only [Bool.or_eq_false_iff] at i4; exact i4.1
  have hsel : (Cond.selects y'.cls y' y').before as' s = true := selects_self_of_private i1 i2 hni hp hi hy
  obtain ⟨v, _, B, -, X', hq, st'⟩ := X.privateBack hx (y := y') hown (mvT hZ w1) hi hsel hp (mvT hZ w4) hy (backOf (len := 3) (W := W) (Q := fun v h L => Q' v h ∧ Fr n0 L) C' hZ w4 w3 hf hl) (g := mkF m pc ls.toArray (argsL.reverse ++ .ref a :: rest)) rfl (by rw [hml]; simpa using hsz) (Steps.refl _) (a := a) (by rw [eT]; exact hcl) hob (argsL := argsL) (rest := rest) (lenOf hpd hlen) rfl (by show 2 * 0 + _ ≤ _; omega) (hb hby hd) (fun _ _ => ⟨rfl, eT, hc, hs⟩)
  exact ⟨v, B, X', hq, fun t k => st'.trans k⟩
theorem r_cast {index : Nat} {K : String} {a : Addr} (w : (Cond.classLink y.cls index K).before a0 Z = true) (F : Ins Z h a K true) (hd : D bytes pc (.checkcast index) 3 nx) (K' : ORun l y bytes maxL ret R Z n0 as' Q h cells slots nx ls (.ref a :: st)) : ORun l y bytes maxL ret R Z n0 as' Q h cells slots pc ls (.ref a :: st) := by
  obtain ⟨hd, rfl⟩ := hd
  refine K'.law fun p e s m below meth c T locs hx hZ hby hml hown hnm X eT N => ?_
  obtain ⟨T', X', e', st'⟩ := castY X hx hZ hown w eT F (g := mkF m pc ls.toArray (.ref a :: st)) rfl rfl (hb hby hd)
  exact ⟨T', locs, X', e', N, st'⟩
theorem r_clone {index : Nat} {ad : String} {a : Addr} {cl : Cell} {ty : FieldType} (cap : Nat) (w1 : (Cond.methodLink y.cls index ⟨ad, "clone", "()Ljava/lang/Object;"⟩).before a0 Z = true) (w2 : (Cond.sameMethod ad "java/lang/Object" "clone" "()Ljava/lang/Object;").before a0 Z = true) (w3 : (Cond.native ⟨"java/lang/Object", "clone", "()Ljava/lang/Object;"⟩).before a0 Z = true)
    (w4 : (Cond.instanceMethod ⟨"java/lang/Object", "clone", "()Ljava/lang/Object;"⟩).before a0 Z = true) (w5 : (Cond.selects ad ⟨ad, "clone", "()Ljava/lang/Object;"⟩ ⟨"java/lang/Object", "clone", "()Ljava/lang/Object;"⟩).before a0 Z = true) (w6 : (Cond.castable ad "java/lang/Cloneable").before a0 Z = true)
    (A : Arr Z h a cl ty) (E : Exa Z h a ad) (F : FitC Z cl) (hd : D bytes pc (.invokevirtual index) 3 nx) (hsz : ls.length = maxL) (hf : 1 ≤ R.frames) (W : Nat) (hW : (st.map fun v => v.category).sum = W) (hl : W + 14 ≤ R.locals) (hcap : cl.slots.size ≤ cap) (hc : cells + 1 ≤ R.cells) (hs : slots + cap ≤ R.slots)
    (K : ∀ h', Ext h h' ∧ Arr Z h' h.size (cloneOf cl) ty ∧ Exa Z h' h.size ad → ORun l y bytes maxL ret R Z n0 as' Q h' (cells + 1) (slots + cap) nx ls (.ref h.size :: st)) : ORun l y bytes maxL ret R Z n0 as' Q h cells slots pc ls (.ref a :: st) := by
  obtain ⟨hd, rfl⟩ := hd
  refine ORun.lawK (fun p e s m below meth c T locs hx hZ hby hml hown hnm X eT N => ?_) K
  obtain ⟨T', h', X', rfl, E', A', Y', st'⟩ := cloneA X hx hZ hown w1 w2 w3 w4 w5 w6 eT A E F (g := mkF m pc ls.toArray (.ref a :: st)) rfl (by rw [hml]; simpa using hsz) rfl (hb hby hd) hf (W := W) (by show 2 * 0 + _ ≤ _; omega) hl hcap hc hs
  exact ⟨T', _, X', ⟨E', A', Y'⟩, N, st'⟩
end Logic
end Jvm.OwnKit
namespace Jvm.Pilot.@@N@@
open Jvm Jvm.ClassFile Sem Op Lib Jvm.Free Jvm.Stand Jvm.LawKit Jvm.RoadKit Jvm.OwnKit Bundle Jvm.Pilot.@@N@@.Jvm.D
def own_at (vs : List Int32) (i : Nat) : Int32 := (vs[i]?).getD 0
theorem own_get {vs : List Int32} {i : Nat} (h : i < vs.length) : vs[i]? = some (own_at vs i) := by
  unfold own_at; rw [List.getElem?_eq_getElem h]; rfl
def own_bt (vs : List Int32) (i : Nat) : Nat := (own_at vs i &&& (255 : Int32)).toNatClampNeg
theorem own_bt_lt (vs : List Int32) (i : Nat) : own_bt vs i < 256 := by
  obtain ⟨n, e, h⟩ := n32_and (own_at vs i) 255 8 (by decide) (by decide)
  unfold own_bt
  rw [e, n32_clamp (by omega)]; omega
theorem own_bt_eq (vs : List Int32) (i : Nat) : own_at vs i &&& (255 : Int32) = (own_bt vs i).toInt32 := by
  obtain ⟨n, e, h⟩ := n32_and (own_at vs i) 255 8 (by decide) (by decide)
  unfold own_bt
  rw [e, n32_clamp (by omega)]
def own_enc (v : Nat) : Int32 := if v < 26 then (65 + v).toInt32 else if v < 52 then (71 + v).toInt32 else if v < 62 then (v - 4).toInt32 else if v = 62 then 43 else 47
theorem own_encb (v : Nat) (h : v < 64) : nar .byte (own_enc v) = own_enc v := by
  have : ∀ u : Fin 64, nar .byte (own_enc u.1) = own_enc u.1 := by decide +kernel
  exact this ⟨v, h⟩
def own_olen (n : Nat) : Nat := if n = 0 then 0 else if n ≤ 3 then 4 else 8
def own_ch (vs : List Int32) (f n k : Nat) : Int32 :=
  let b := f + 3 * (k / 4)
  let r := n - 3 * (k / 4)
  let x0 := own_bt vs b
  let x1 := if 2 ≤ r then own_bt vs (b + 1) else 0
  let x2 := if 3 ≤ r then own_bt vs (b + 2) else 0
  if k % 4 = 0 then own_enc (x0 / 4) else if k % 4 = 1 then own_enc (x0 % 4 * 16 + x1 / 16) else if k % 4 = 2 then (if r < 2 then 61 else own_enc (x1 % 16 * 4 + x2 / 64)) else (if r < 3 then 61 else own_enc (x2 % 64))
def own_put (os : List Int32) (a : Nat) : List Int32 → List Int32
  | [] => os
  | x :: t => own_put (os.set a x) (a + 1) t
theorem own_put_len (l : List Int32) : ∀ (os : List Int32) (a : Nat), (own_put os a l).length = os.length := by
  induction l with
  | nil => intro os a; rfl
  | cons x t ih => intro os a; show (own_put (os.set a x) (a + 1) t).length = _; rw [ih]; simp
theorem own_put_at (l : List Int32) : ∀ (os : List Int32) (a i : Nat), a + l.length ≤ os.length → (own_put os a l)[i]? = if a ≤ i ∧ i < a + l.length then l[i - a]? else os[i]? := by
  induction l with
  | nil => intro os a i h; rw [if_neg (fun q => by simp only [List.length_nil] at q; omega)]; rfl
  | cons x t ih =>
    intro os a i h
    show (own_put (os.set a x) (a + 1) t)[i]? = _
    simp only [List.length_cons] at h ⊢
    rw [ih _ _ _ (by simp; omega)]
    by_cases c : i = a
    · subst c
      rw [if_neg (by omega), if_pos (by omega), Nat.sub_self, List.getElem?_set_self (by omega)]; rfl
    · rw [List.getElem?_set_ne (Ne.symm c)]
      by_cases d : a + 1 ≤ i ∧ i < a + 1 + t.length
      · rw [if_pos d, if_pos (by omega), show i - a = (i - (a + 1)) + 1 by omega]; rfl
      · rw [if_neg d, if_neg (by omega)]
theorem own_toi (w : Nat) (h : w < 2 ^ 31) : w.toInt32.toInt = w := n32_int h
theorem own_ofi {x : Int32} {n : Nat} (hn : n < 2 ^ 31) (h : x.toInt = n) : x = n.toInt32 := Int32.toInt_inj.mp (by rw [h, n32_int hn])
theorem own_ushr (w : Nat) (q : Int32) (j : Nat) (hq : q.toBitVec.toNat % 32 = j) (hj : 0 < j) (h : w < 2 ^ 31) : (w.toInt32.toUInt32 >>> (q &&& 31).toUInt32).toInt32 = (w / 2 ^ j).toInt32 := by
  have e := c_iushr w.toInt32 q j hq hj
  have l : w / 2 ^ j ≤ w := Nat.div_le_self ..
  refine own_ofi (by omega) ?_
  rw [e, n32_int h, show (w : Int) % 4294967296 = w by omega]
  rw [← Int.natCast_ediv]
theorem own_ishr (w : Nat) (q : Int32) (j : Nat) (hq : q.toBitVec.toNat % 32 = j) (h : w < 2 ^ 31) : w.toInt32 >>> (q &&& 31) = (w / 2 ^ j).toInt32 := by
  have e := c_ishr w.toInt32 q j hq
  have l : w / 2 ^ j ≤ w := Nat.div_le_self ..
  refine own_ofi (by omega) ?_
  rw [e, n32_int h, ← Int.natCast_ediv]
theorem own_ishl (w : Nat) (q : Int32) (j : Nat) (hq : q.toBitVec.toNat % 32 = j) (h : w * 2 ^ j < 2 ^ 31) : w.toInt32 <<< (q &&& 31) = (w * 2 ^ j).toInt32 := by
  have e := c_ishl w.toInt32 q j hq
  have l : w ≤ w * 2 ^ j := Nat.le_mul_of_pos_right _ (Nat.pow_pos (by decide))
  refine own_ofi (by omega) ?_
  rw [n32_int (by omega)] at e
  have r := rng32 (w.toInt32 <<< (q &&& 31))
  have c : (w : Int) * ((2 ^ j : Nat) : Int) = ((w * 2 ^ j : Nat) : Int) := by simp
  rw [c] at e
  omega
theorem own_and (w : Nat) (m : Int32) (j : Nat) (hj : j ≤ 31) (hm : m.toBitVec.toNat = 2 ^ j - 1) (h : w < 2 ^ 31) : w.toInt32 &&& m = (w % 2 ^ j).toInt32 := by
  have e := c_mask w.toInt32 m j hj hm
  have l : w % 2 ^ j ≤ w := Nat.mod_le ..
  refine own_ofi (by omega) ?_
  rw [e, n32_int h]; simp
theorem own_or (a b : Nat) (j : Nat) (hj : j ≤ 31) (ha : a % 2 ^ j = 0) (hb : b < 2 ^ j) (h : a + b < 2 ^ 31) : a.toInt32 ||| b.toInt32 = (a + b).toInt32 := by
  have e := c_or a.toInt32 b.toInt32 j hj ((2 ^ j : Nat) : Int) rfl (by rw [n32_int (by omega)]; omega) (by rw [n32_int (by omega)]; omega) (by rw [n32_int (by omega)]; omega)
  rw [n32_int (by omega), n32_int (by omega)] at e
  refine own_ofi h ?_
  have r := rng32 (a.toInt32 ||| b.toInt32)
  omega
theorem own_grp (x y z : Nat) (hx : x < 256) (hy : y < 256) (hz : z < 256) : ((x.toInt32 <<< ((16 : Int32) &&& 31)) ||| (y.toInt32 <<< ((8 : Int32) &&& 31))) ||| z.toInt32 = (x * 65536 + y * 256 + z).toInt32 := by
  rw [own_ishl x 16 16 (by decide) (by omega), own_ishl y 8 8 (by decide) (by omega), own_or (x * 2 ^ 16) (y * 2 ^ 8) 16 (by decide) (by omega) (by omega) (by omega), own_or (x * 2 ^ 16 + y * 2 ^ 8) z 8 (by decide) (by omega) (by omega) (by omega)]
theorem own_grp2 (x y : Nat) (hx : x < 256) (hy : y < 256) : (x.toInt32 <<< ((16 : Int32) &&& 31)) ||| (y.toInt32 <<< ((8 : Int32) &&& 31)) = (x * 65536 + y * 256 + 0).toInt32 := by
  rw [own_ishl x 16 16 (by decide) (by omega), own_ishl y 8 8 (by decide) (by omega), own_or (x * 2 ^ 16) (y * 2 ^ 8) 16 (by decide) (by omega) (by omega) (by omega)]
  exact congrArg Nat.toInt32 (by omega)
theorem own_grp1 (x : Nat) (hx : x < 256) : (x.toInt32 <<< ((16 : Int32) &&& 31)) ||| (0 : Int32) = (x * 65536 + 0 * 256 + 0).toInt32 := by
  rw [own_ishl x 16 16 (by decide) (by omega), show (0 : Int32) = Nat.toInt32 0 from rfl, own_or (x * 2 ^ 16) 0 16 (by decide) (by omega) (by omega) (by omega)]
theorem own_s18 (x y z : Nat) (hx : x < 256) (hy : y < 256) (hz : z < 256) : ((x * 65536 + y * 256 + z).toInt32.toUInt32 >>> ((18 : Int32) &&& 31).toUInt32).toInt32 = (x / 4).toInt32 := by
  rw [own_ushr _ 18 18 (by decide) (by decide) (by omega)]; congr 1; omega
theorem own_s12 (x y z : Nat) (hx : x < 256) (hy : y < 256) (hz : z < 256) : ((x * 65536 + y * 256 + z).toInt32.toUInt32 >>> ((12 : Int32) &&& 31).toUInt32).toInt32 &&& (63 : Int32) = (x % 4 * 16 + y / 16).toInt32 := by
  rw [own_ushr _ 12 12 (by decide) (by decide) (by omega), own_and _ 63 6 (by decide) (by decide) (by omega)]; congr 1; omega
theorem own_s6 (x y z : Nat) (hx : x < 256) (hy : y < 256) (hz : z < 256) : ((x * 65536 + y * 256 + z).toInt32.toUInt32 >>> ((6 : Int32) &&& 31).toUInt32).toInt32 &&& (63 : Int32) = (y % 16 * 4 + z / 64).toInt32 := by
  rw [own_ushr _ 6 6 (by decide) (by decide) (by omega), own_and _ 63 6 (by decide) (by decide) (by omega)]; congr 1; omega
theorem own_s0 (x y z : Nat) (hx : x < 256) (hy : y < 256) (hz : z < 256) : (x * 65536 + y * 256 + z).toInt32 &&& (63 : Int32) = (z % 64).toInt32 := by
  rw [own_and _ 63 6 (by decide) (by decide) (by omega)]; congr 1; omega
def own_T (tb : List Int32) : Prop := tb.length = 64 ∧ ∀ v, v < 64 → tb[v]? = some (own_enc v)
theorem d4_0 : D method_5_code 0 (.iload_n 0) 1 1 := ⟨by decide +kernel, rfl⟩
theorem d4_1 : D method_5_code 1 (.bipush 26) 2 3 := ⟨by decide +kernel, rfl⟩
theorem d4_3 : DB method_5_code 3 (.if_icmp .ge) 9 6 12 := ⟨by decide +kernel, rfl, by decide, by decide⟩
theorem d4_6 : D method_5_code 6 (.bipush 65) 2 8 := ⟨by decide +kernel, rfl⟩
theorem d4_8 : D method_5_code 8 (.iload_n 0) 1 9 := ⟨by decide +kernel, rfl⟩
theorem d4_9 : D method_5_code 9 (.iadd) 1 10 := ⟨by decide +kernel, rfl⟩
theorem d4_10 : D method_5_code 10 (.i2b) 1 11 := ⟨by decide +kernel, rfl⟩
theorem d4_11 : D method_5_code 11 (.ireturn) 1 12 := ⟨by decide +kernel, rfl⟩
theorem d4_12 : D method_5_code 12 (.iload_n 0) 1 13 := ⟨by decide +kernel, rfl⟩
theorem d4_13 : D method_5_code 13 (.bipush 52) 2 15 := ⟨by decide +kernel, rfl⟩
theorem d4_15 : DB method_5_code 15 (.if_icmp .ge) 12 18 27 := ⟨by decide +kernel, rfl, by decide, by decide⟩
theorem d4_18 : D method_5_code 18 (.bipush 97) 2 20 := ⟨by decide +kernel, rfl⟩
theorem d4_20 : D method_5_code 20 (.iload_n 0) 1 21 := ⟨by decide +kernel, rfl⟩
theorem d4_21 : D method_5_code 21 (.bipush 26) 2 23 := ⟨by decide +kernel, rfl⟩
theorem d4_23 : D method_5_code 23 (.isub) 1 24 := ⟨by decide +kernel, rfl⟩
theorem d4_24 : D method_5_code 24 (.iadd) 1 25 := ⟨by decide +kernel, rfl⟩
theorem d4_25 : D method_5_code 25 (.i2b) 1 26 := ⟨by decide +kernel, rfl⟩
theorem d4_26 : D method_5_code 26 (.ireturn) 1 27 := ⟨by decide +kernel, rfl⟩
theorem d4_27 : D method_5_code 27 (.iload_n 0) 1 28 := ⟨by decide +kernel, rfl⟩
theorem d4_28 : D method_5_code 28 (.bipush 62) 2 30 := ⟨by decide +kernel, rfl⟩
theorem d4_30 : DB method_5_code 30 (.if_icmp .ge) 12 33 42 := ⟨by decide +kernel, rfl, by decide, by decide⟩
theorem d4_33 : D method_5_code 33 (.bipush 48) 2 35 := ⟨by decide +kernel, rfl⟩
theorem d4_35 : D method_5_code 35 (.iload_n 0) 1 36 := ⟨by decide +kernel, rfl⟩
theorem d4_36 : D method_5_code 36 (.bipush 52) 2 38 := ⟨by decide +kernel, rfl⟩
theorem d4_38 : D method_5_code 38 (.isub) 1 39 := ⟨by decide +kernel, rfl⟩
theorem d4_39 : D method_5_code 39 (.iadd) 1 40 := ⟨by decide +kernel, rfl⟩
theorem d4_40 : D method_5_code 40 (.i2b) 1 41 := ⟨by decide +kernel, rfl⟩
theorem d4_41 : D method_5_code 41 (.ireturn) 1 42 := ⟨by decide +kernel, rfl⟩
theorem d4_42 : D method_5_code 42 (.iload_n 0) 1 43 := ⟨by decide +kernel, rfl⟩
theorem d4_43 : D method_5_code 43 (.bipush 62) 2 45 := ⟨by decide +kernel, rfl⟩
theorem d4_45 : DB method_5_code 45 (.if_icmp .ne) 6 48 51 := ⟨by decide +kernel, rfl, by decide, by decide⟩
theorem d4_48 : D method_5_code 48 (.bipush 43) 2 50 := ⟨by decide +kernel, rfl⟩
theorem d4_50 : D method_5_code 50 (.ireturn) 1 51 := ⟨by decide +kernel, rfl⟩
theorem d4_51 : D method_5_code 51 (.bipush 47) 2 53 := ⟨by decide +kernel, rfl⟩
theorem d4_53 : D method_5_code 53 (.ireturn) 1 54 := ⟨by decide +kernel, rfl⟩
theorem pn4 : plainFor (⟨"com/example/quire/quire/core/ValueTextBase64PinLaw", "enc", "(I)B"⟩ : MethodName) = true := by first | exact plainFor_of_name (by first | (simp [plainName, overriddenIn]; done) | decide +kernel) | exact Jvm.Free.JP.mathPlain rfl (by decide +kernel) | decide +kernel
set_option maxRecDepth 65536 in
set_option maxHeartbeats 40000000 in
theorem ct4 {l : Launch} {Z : State} {a0 : Array Value} (hw : ∀ d ∈ tables_1, d.before a0 Z = true) {n0 : Nat} {h0 : Heap} (v : Nat) (hv : v < 64) : Ct l ⟨"com/example/quire/quire/core/ValueTextBase64PinLaw", "enc", "(I)B"⟩ method_5_code 1 (some .byte) [] ({ frames := 0, cells := 0, slots := 0, locals := 0 } : Room) Z n0 #[(.int v.toInt32)] h0 (fun r h => r = some (.int (own_enc v)) ∧ h = h0) := by
  refine Ct.of (ls := [.val (.int v.toInt32)]) pn4 (fun m => by first | (simp [entryFrame, mkF, argsToLocals, Value.category]; done) | rfl) ?_
  refine r_iloadN d4_0 rfl ?_
  refine r_bipush (26 : Int32) rfl d4_1 ?_
  refine r_icmp_ge d4_3 (fun hc3 => ?_) (fun hc3 => ?_)
  · refine r_iloadN d4_12 rfl ?_
    refine r_bipush (52 : Int32) rfl d4_13 ?_
    refine r_icmp_ge d4_15 (fun hc15 => ?_) (fun hc15 => ?_)
    · refine r_iloadN d4_27 rfl ?_
      refine r_bipush (62 : Int32) rfl d4_28 ?_
      refine r_icmp_ge d4_30 (fun hc30 => ?_) (fun hc30 => ?_)
      · refine r_iloadN d4_42 rfl ?_
        refine r_bipush (62 : Int32) rfl d4_43 ?_
        refine r_icmp_ne d4_45 (fun hc45 => ?_) (fun hc45 => ?_)
        · refine r_bipush (47 : Int32) rfl d4_51 ?_
          refine r_nret (t := .byte) (by simp) d4_53 (by decide) (by decide) ?_
          have h3 : ¬ v < 26 := fun q => hc3 ((n32_lt (b := 26) (by omega) (by decide)).mpr q)
          have h15 : ¬ v < 52 := fun q => hc15 ((n32_lt (b := 52) (by omega) (by decide)).mpr q)
          have h30 : ¬ v < 62 := fun q => hc30 ((n32_lt (b := 62) (by omega) (by decide)).mpr q)
          have h45 : ¬ v = 62 := fun q => hc45 (by rw [q]; rfl)
          refine ⟨?_, rfl⟩
          clear hc3 hc15 hc30 hc45
          have : ∀ u : Fin 64, ¬ u.1 < 26 ∧ ¬ u.1 < 52 ∧ ¬ u.1 < 62 ∧ ¬ u.1 = 62 → nar .byte (47 : Int32) = own_enc u.1 := by decide +kernel
          exact congrArg (fun z => some (Value.int z)) (this ⟨v, hv⟩ ⟨h3, h15, h30, h45⟩)
        · refine r_bipush (43 : Int32) rfl d4_48 ?_
          refine r_nret (t := .byte) (by simp) d4_50 (by decide) (by decide) ?_
          have h3 : ¬ v < 26 := fun q => hc3 ((n32_lt (b := 26) (by omega) (by decide)).mpr q)
          have h15 : ¬ v < 52 := fun q => hc15 ((n32_lt (b := 52) (by omega) (by decide)).mpr q)
          have h30 : ¬ v < 62 := fun q => hc30 ((n32_lt (b := 62) (by omega) (by decide)).mpr q)
          have h45 : v = 62 := (n32_eq (b := 62) (by omega) (by decide)).mp hc45
          refine ⟨?_, rfl⟩
          clear hc3 hc15 hc30 hc45
          have : ∀ u : Fin 64, ¬ u.1 < 26 ∧ ¬ u.1 < 52 ∧ ¬ u.1 < 62 ∧ u.1 = 62 → nar .byte (43 : Int32) = own_enc u.1 := by decide +kernel
          exact congrArg (fun z => some (Value.int z)) (this ⟨v, hv⟩ ⟨h3, h15, h30, h45⟩)
      · refine r_bipush (48 : Int32) rfl d4_33 ?_
        refine r_iloadN d4_35 rfl ?_
        refine r_bipush (52 : Int32) rfl d4_36 ?_
        refine r_isub d4_38 ?_
        refine r_iadd d4_39 ?_
        refine r_i2b d4_40 ?_
        refine r_nret (t := .byte) (by simp) d4_41 (by decide) (by decide) ?_
        have h3 : ¬ v < 26 := fun q => hc3 ((n32_lt (b := 26) (by omega) (by decide)).mpr q)
        have h15 : ¬ v < 52 := fun q => hc15 ((n32_lt (b := 52) (by omega) (by decide)).mpr q)
        have h30 : v < 62 := (n32_lt (a := v) (b := 62) (by omega) (by omega)).mp hc30
        refine ⟨?_, rfl⟩
        clear hc3 hc15 hc30
        have : ∀ u : Fin 64, ¬ u.1 < 26 ∧ ¬ u.1 < 52 ∧ u.1 < 62 → nar .byte (((48 : Int32) + (u.1.toInt32 - (52 : Int32))).toInt8.toInt32) = own_enc u.1 := by decide +kernel
        exact congrArg (fun z => some (Value.int z)) (this ⟨v, hv⟩ ⟨h3, h15, h30⟩)
    · refine r_bipush (97 : Int32) rfl d4_18 ?_
      refine r_iloadN d4_20 rfl ?_
      refine r_bipush (26 : Int32) rfl d4_21 ?_
      refine r_isub d4_23 ?_
      refine r_iadd d4_24 ?_
      refine r_i2b d4_25 ?_
      refine r_nret (t := .byte) (by simp) d4_26 (by decide) (by decide) ?_
      have h3 : ¬ v < 26 := fun q => hc3 ((n32_lt (b := 26) (by omega) (by decide)).mpr q)
      have h15 : v < 52 := (n32_lt (a := v) (b := 52) (by omega) (by omega)).mp hc15
      refine ⟨?_, rfl⟩
      clear hc3 hc15
      have : ∀ u : Fin 64, ¬ u.1 < 26 ∧ u.1 < 52 → nar .byte (((97 : Int32) + (u.1.toInt32 - (26 : Int32))).toInt8.toInt32) = own_enc u.1 := by decide +kernel
      exact congrArg (fun z => some (Value.int z)) (this ⟨v, hv⟩ ⟨h3, h15⟩)
  · refine r_bipush (65 : Int32) rfl d4_6 ?_
    refine r_iloadN d4_8 rfl ?_
    refine r_iadd d4_9 ?_
    refine r_i2b d4_10 ?_
    refine r_nret (t := .byte) (by simp) d4_11 (by decide) (by decide) ?_
    have h3 : v < 26 := (n32_lt (a := v) (b := 26) (by omega) (by omega)).mp hc3
    refine ⟨?_, rfl⟩
    clear hc3
    have : ∀ u : Fin 64, u.1 < 26 → nar .byte (((65 : Int32) + u.1.toInt32).toInt8.toInt32) = own_enc u.1 := by decide +kernel
    exact congrArg (fun z => some (Value.int z)) (this ⟨v, hv⟩ h3)
theorem own_divN (a b : Nat) (ha : a < 2 ^ 31) (hb : 0 < b) (hb2 : b < 2 ^ 31) : a.toInt32 / b.toInt32 = (a / b).toInt32 := by
  have e := (c_idiv a.toInt32 b.toInt32 b (n32_int hb2) (fun q => by
    have := congrArg Int32.toInt q
    rw [n32_int hb2] at this
    have z : (-1 : Int32).toInt = -1 := by decide
    omega)).1 (by rw [n32_int ha]; omega)
  have l : a / b ≤ a := Nat.div_le_self ..
  refine own_ofi (by omega) ?_
  rw [e, n32_int ha]; simp
theorem own_mulN (a b : Nat) : a.toInt32 * b.toInt32 = (a * b).toInt32 := (Int32.ofNat_mul a b).symm
theorem own_olen_le (n : Nat) : own_olen n ≤ 8 := by unfold own_olen; split; omega; split <;> omega
theorem own_olen_lt (n k : Nat) (h : k < own_olen n) : 3 * (k / 4) < n := by
  unfold own_olen at h
  split at h
  · omega
  · split at h <;> omega
theorem d3_0 : D method_4_code 0 (.iload_n 3) 1 1 := ⟨by decide +kernel, rfl⟩
theorem d3_1 : DB method_4_code 1 (.ifCond .lt) 9 4 10 := ⟨by decide +kernel, rfl, by decide, by decide⟩
theorem d3_4 : D method_4_code 4 (.iload_n 3) 1 5 := ⟨by decide +kernel, rfl⟩
theorem d3_5 : D method_4_code 5 (.iload 4) 2 7 := ⟨by decide +kernel, rfl⟩
theorem d3_7 : DB method_4_code 7 (.if_icmp .lt) 6 10 13 := ⟨by decide +kernel, rfl, by decide, by decide⟩
theorem d3_10 : D method_4_code 10 (.bipush 42) 2 12 := ⟨by decide +kernel, rfl⟩
theorem d3_12 : D method_4_code 12 (.ireturn) 1 13 := ⟨by decide +kernel, rfl⟩
theorem d3_13 : D method_4_code 13 (.iload_n 3) 1 14 := ⟨by decide +kernel, rfl⟩
theorem d3_14 : D method_4_code 14 (.iconst 4) 1 15 := ⟨by decide +kernel, rfl⟩
theorem d3_15 : D method_4_code 15 (.idiv) 1 16 := ⟨by decide +kernel, rfl⟩
theorem d3_16 : D method_4_code 16 (.istore 5) 2 18 := ⟨by decide +kernel, rfl⟩
theorem d3_18 : D method_4_code 18 (.iload_n 3) 1 19 := ⟨by decide +kernel, rfl⟩
theorem d3_19 : D method_4_code 19 (.iconst 4) 1 20 := ⟨by decide +kernel, rfl⟩
theorem d3_20 : D method_4_code 20 (.irem) 1 21 := ⟨by decide +kernel, rfl⟩
theorem d3_21 : D method_4_code 21 (.istore 6) 2 23 := ⟨by decide +kernel, rfl⟩
theorem d3_23 : D method_4_code 23 (.iload_n 2) 1 24 := ⟨by decide +kernel, rfl⟩
theorem d3_24 : D method_4_code 24 (.iconst 3) 1 25 := ⟨by decide +kernel, rfl⟩
theorem d3_25 : D method_4_code 25 (.iload 5) 2 27 := ⟨by decide +kernel, rfl⟩
theorem d3_27 : D method_4_code 27 (.imul) 1 28 := ⟨by decide +kernel, rfl⟩
theorem d3_28 : D method_4_code 28 (.isub) 1 29 := ⟨by decide +kernel, rfl⟩
theorem d3_29 : D method_4_code 29 (.istore 7) 2 31 := ⟨by decide +kernel, rfl⟩
theorem d3_31 : D method_4_code 31 (.iload 7) 2 33 := ⟨by decide +kernel, rfl⟩
theorem d3_33 : D method_4_code 33 (.iconst 3) 1 34 := ⟨by decide +kernel, rfl⟩
theorem d3_34 : DB method_4_code 34 (.if_icmp .le) 6 37 40 := ⟨by decide +kernel, rfl, by decide, by decide⟩
theorem d3_37 : D method_4_code 37 (.iconst 3) 1 38 := ⟨by decide +kernel, rfl⟩
theorem d3_38 : D method_4_code 38 (.istore 7) 2 40 := ⟨by decide +kernel, rfl⟩
theorem d3_40 : D method_4_code 40 (.iload_n 1) 1 41 := ⟨by decide +kernel, rfl⟩
theorem d3_41 : D method_4_code 41 (.iconst 3) 1 42 := ⟨by decide +kernel, rfl⟩
theorem d3_42 : D method_4_code 42 (.iload 5) 2 44 := ⟨by decide +kernel, rfl⟩
theorem d3_44 : D method_4_code 44 (.imul) 1 45 := ⟨by decide +kernel, rfl⟩
theorem d3_45 : D method_4_code 45 (.iadd) 1 46 := ⟨by decide +kernel, rfl⟩
theorem d3_46 : D method_4_code 46 (.istore 8) 2 48 := ⟨by decide +kernel, rfl⟩
theorem d3_48 : D method_4_code 48 (.aload_n 0) 1 49 := ⟨by decide +kernel, rfl⟩
theorem d3_49 : D method_4_code 49 (.iload 8) 2 51 := ⟨by decide +kernel, rfl⟩
theorem d3_51 : D method_4_code 51 (.baload) 1 52 := ⟨by decide +kernel, rfl⟩
theorem d3_52 : D method_4_code 52 (.sipush 255) 3 55 := ⟨by decide +kernel, rfl⟩
theorem d3_55 : D method_4_code 55 (.iand) 1 56 := ⟨by decide +kernel, rfl⟩
theorem d3_56 : D method_4_code 56 (.istore 9) 2 58 := ⟨by decide +kernel, rfl⟩
theorem d3_58 : D method_4_code 58 (.iload 7) 2 60 := ⟨by decide +kernel, rfl⟩
theorem d3_60 : D method_4_code 60 (.iconst 2) 1 61 := ⟨by decide +kernel, rfl⟩
theorem d3_61 : DB method_4_code 61 (.if_icmp .lt) 16 64 77 := ⟨by decide +kernel, rfl, by decide, by decide⟩
theorem d3_64 : D method_4_code 64 (.aload_n 0) 1 65 := ⟨by decide +kernel, rfl⟩
theorem d3_65 : D method_4_code 65 (.iload 8) 2 67 := ⟨by decide +kernel, rfl⟩
theorem d3_67 : D method_4_code 67 (.iconst 1) 1 68 := ⟨by decide +kernel, rfl⟩
theorem d3_68 : D method_4_code 68 (.iadd) 1 69 := ⟨by decide +kernel, rfl⟩
theorem d3_69 : D method_4_code 69 (.baload) 1 70 := ⟨by decide +kernel, rfl⟩
theorem d3_70 : D method_4_code 70 (.sipush 255) 3 73 := ⟨by decide +kernel, rfl⟩
theorem d3_73 : D method_4_code 73 (.iand) 1 74 := ⟨by decide +kernel, rfl⟩
theorem d3_74 : DB method_4_code 74 (.goto) 4 77 78 := ⟨by decide +kernel, rfl, by decide, by decide⟩
theorem d3_77 : D method_4_code 77 (.iconst 0) 1 78 := ⟨by decide +kernel, rfl⟩
theorem d3_78 : D method_4_code 78 (.istore 10) 2 80 := ⟨by decide +kernel, rfl⟩
theorem d3_80 : D method_4_code 80 (.iload 7) 2 82 := ⟨by decide +kernel, rfl⟩
theorem d3_82 : D method_4_code 82 (.iconst 3) 1 83 := ⟨by decide +kernel, rfl⟩
theorem d3_83 : DB method_4_code 83 (.if_icmp .lt) 16 86 99 := ⟨by decide +kernel, rfl, by decide, by decide⟩
theorem d3_86 : D method_4_code 86 (.aload_n 0) 1 87 := ⟨by decide +kernel, rfl⟩
theorem d3_87 : D method_4_code 87 (.iload 8) 2 89 := ⟨by decide +kernel, rfl⟩
theorem d3_89 : D method_4_code 89 (.iconst 2) 1 90 := ⟨by decide +kernel, rfl⟩
theorem d3_90 : D method_4_code 90 (.iadd) 1 91 := ⟨by decide +kernel, rfl⟩
theorem d3_91 : D method_4_code 91 (.baload) 1 92 := ⟨by decide +kernel, rfl⟩
theorem d3_92 : D method_4_code 92 (.sipush 255) 3 95 := ⟨by decide +kernel, rfl⟩
theorem d3_95 : D method_4_code 95 (.iand) 1 96 := ⟨by decide +kernel, rfl⟩
theorem d3_96 : DB method_4_code 96 (.goto) 4 99 100 := ⟨by decide +kernel, rfl, by decide, by decide⟩
theorem d3_99 : D method_4_code 99 (.iconst 0) 1 100 := ⟨by decide +kernel, rfl⟩
theorem d3_100 : D method_4_code 100 (.istore 11) 2 102 := ⟨by decide +kernel, rfl⟩
theorem d3_102 : D method_4_code 102 (.iload 6) 2 104 := ⟨by decide +kernel, rfl⟩
theorem d3_104 : DB method_4_code 104 (.ifCond .ne) 11 107 115 := ⟨by decide +kernel, rfl, by decide, by decide⟩
theorem d3_107 : D method_4_code 107 (.iload 9) 2 109 := ⟨by decide +kernel, rfl⟩
theorem d3_109 : D method_4_code 109 (.iconst 2) 1 110 := ⟨by decide +kernel, rfl⟩
theorem d3_110 : D method_4_code 110 (.ishr) 1 111 := ⟨by decide +kernel, rfl⟩
theorem d3_111 : D method_4_code 111 (.invokestatic 23) 3 114 := ⟨by decide +kernel, rfl⟩
theorem d3_114 : D method_4_code 114 (.ireturn) 1 115 := ⟨by decide +kernel, rfl⟩
theorem d3_115 : D method_4_code 115 (.iload 6) 2 117 := ⟨by decide +kernel, rfl⟩
theorem d3_117 : D method_4_code 117 (.iconst 1) 1 118 := ⟨by decide +kernel, rfl⟩
theorem d3_118 : DB method_4_code 118 (.if_icmp .ne) 18 121 136 := ⟨by decide +kernel, rfl, by decide, by decide⟩
theorem d3_121 : D method_4_code 121 (.iload 9) 2 123 := ⟨by decide +kernel, rfl⟩
theorem d3_123 : D method_4_code 123 (.iconst 3) 1 124 := ⟨by decide +kernel, rfl⟩
theorem d3_124 : D method_4_code 124 (.iand) 1 125 := ⟨by decide +kernel, rfl⟩
theorem d3_125 : D method_4_code 125 (.iconst 4) 1 126 := ⟨by decide +kernel, rfl⟩
theorem d3_126 : D method_4_code 126 (.ishl) 1 127 := ⟨by decide +kernel, rfl⟩
theorem d3_127 : D method_4_code 127 (.iload 10) 2 129 := ⟨by decide +kernel, rfl⟩
theorem d3_129 : D method_4_code 129 (.iconst 4) 1 130 := ⟨by decide +kernel, rfl⟩
theorem d3_130 : D method_4_code 130 (.ishr) 1 131 := ⟨by decide +kernel, rfl⟩
theorem d3_131 : D method_4_code 131 (.ior) 1 132 := ⟨by decide +kernel, rfl⟩
theorem d3_132 : D method_4_code 132 (.invokestatic 23) 3 135 := ⟨by decide +kernel, rfl⟩
theorem d3_135 : D method_4_code 135 (.ireturn) 1 136 := ⟨by decide +kernel, rfl⟩
theorem d3_136 : D method_4_code 136 (.iload 6) 2 138 := ⟨by decide +kernel, rfl⟩
theorem d3_138 : D method_4_code 138 (.iconst 2) 1 139 := ⟨by decide +kernel, rfl⟩
theorem d3_139 : DB method_4_code 139 (.if_icmp .ne) 29 142 168 := ⟨by decide +kernel, rfl, by decide, by decide⟩
theorem d3_142 : D method_4_code 142 (.iload 7) 2 144 := ⟨by decide +kernel, rfl⟩
theorem d3_144 : D method_4_code 144 (.iconst 2) 1 145 := ⟨by decide +kernel, rfl⟩
theorem d3_145 : DB method_4_code 145 (.if_icmp .ge) 6 148 151 := ⟨by decide +kernel, rfl, by decide, by decide⟩
theorem d3_148 : D method_4_code 148 (.bipush 61) 2 150 := ⟨by decide +kernel, rfl⟩
theorem d3_150 : D method_4_code 150 (.ireturn) 1 151 := ⟨by decide +kernel, rfl⟩
theorem d3_151 : D method_4_code 151 (.iload 10) 2 153 := ⟨by decide +kernel, rfl⟩
theorem d3_153 : D method_4_code 153 (.bipush 15) 2 155 := ⟨by decide +kernel, rfl⟩
theorem d3_155 : D method_4_code 155 (.iand) 1 156 := ⟨by decide +kernel, rfl⟩
theorem d3_156 : D method_4_code 156 (.iconst 2) 1 157 := ⟨by decide +kernel, rfl⟩
theorem d3_157 : D method_4_code 157 (.ishl) 1 158 := ⟨by decide +kernel, rfl⟩
theorem d3_158 : D method_4_code 158 (.iload 11) 2 160 := ⟨by decide +kernel, rfl⟩
theorem d3_160 : D method_4_code 160 (.bipush 6) 2 162 := ⟨by decide +kernel, rfl⟩
theorem d3_162 : D method_4_code 162 (.ishr) 1 163 := ⟨by decide +kernel, rfl⟩
theorem d3_163 : D method_4_code 163 (.ior) 1 164 := ⟨by decide +kernel, rfl⟩
theorem d3_164 : D method_4_code 164 (.invokestatic 23) 3 167 := ⟨by decide +kernel, rfl⟩
theorem d3_167 : D method_4_code 167 (.ireturn) 1 168 := ⟨by decide +kernel, rfl⟩
theorem d3_168 : D method_4_code 168 (.iload 7) 2 170 := ⟨by decide +kernel, rfl⟩
theorem d3_170 : D method_4_code 170 (.iconst 3) 1 171 := ⟨by decide +kernel, rfl⟩
theorem d3_171 : DB method_4_code 171 (.if_icmp .ge) 6 174 177 := ⟨by decide +kernel, rfl, by decide, by decide⟩
theorem d3_174 : D method_4_code 174 (.bipush 61) 2 176 := ⟨by decide +kernel, rfl⟩
theorem d3_176 : D method_4_code 176 (.ireturn) 1 177 := ⟨by decide +kernel, rfl⟩
theorem d3_177 : D method_4_code 177 (.iload 11) 2 179 := ⟨by decide +kernel, rfl⟩
theorem d3_179 : D method_4_code 179 (.bipush 63) 2 181 := ⟨by decide +kernel, rfl⟩
theorem d3_181 : D method_4_code 181 (.iand) 1 182 := ⟨by decide +kernel, rfl⟩
theorem d3_182 : D method_4_code 182 (.invokestatic 23) 3 185 := ⟨by decide +kernel, rfl⟩
theorem d3_185 : D method_4_code 185 (.ireturn) 1 186 := ⟨by decide +kernel, rfl⟩
theorem pd3_0 : parseMethodDescriptor "(I)B" = some ⟨[.int], some .byte⟩ := by decide +kernel
theorem pn3 : plainFor (⟨"com/example/quire/quire/core/ValueTextBase64PinLaw", "expect", "([BIIII)B"⟩ : MethodName) = true := by first | exact plainFor_of_name (by first | (simp [plainName, overriddenIn]; done) | decide +kernel) | exact Jvm.Free.JP.mathPlain rfl (by decide +kernel) | decide +kernel
set_option maxRecDepth 65536 in
set_option maxHeartbeats 40000000 in
theorem ct3n {l : Launch} {Z : State} {a0 : Array Value} (hw : ∀ d ∈ tables_1, d.before a0 Z = true) {n0 : Nat} {h0 : Heap} (a1 : Addr) (f n p4 ol : Int32) (q1 : p4 < 0) : Ct l ⟨"com/example/quire/quire/core/ValueTextBase64PinLaw", "expect", "([BIIII)B"⟩ method_4_code 12 (some .byte) [] ({ frames := 1, cells := 0, slots := 0, locals := 12 } : Room) Z n0 #[(.ref a1), (.int f), (.int n), (.int p4), (.int ol)] h0 (fun r h => r = some (.int 42) ∧ h = h0) := by
  refine Ct.of (ls := [.val (.ref a1), .val (.int f), .val (.int n), .val (.int p4), .val (.int ol), .unset, .unset, .unset, .unset, .unset, .unset, .unset]) pn3 (fun m => by first | (simp [entryFrame, mkF, argsToLocals, Value.category]; done) | rfl) ?_
  refine r_iloadN d3_0 rfl ?_
  refine r_if_lt d3_1 (fun hc1 => ?_) (fun hc1 => ?_)
  · refine r_bipush (42 : Int32) rfl d3_10 ?_
    exact r_nret (t := .byte) (by simp) d3_12 (by decide) (by decide) (⟨rfl, rfl⟩)
  · exfalso; exact hc1 q1
set_option maxRecDepth 65536 in
set_option maxHeartbeats 40000000 in
theorem ct3 {l : Launch} {Z : State} {a0 : Array Value} (hw : ∀ d ∈ tables_1, d.before a0 Z = true) {n0 : Nat} {h0 : Heap} (a1 : Addr) (f n kk : Nat) (vs : List Int32) (A : Ary Z h0 a1 .byte vs) (hl : vs.length = 7) (hf : f ≤ 1) (hn : n ≤ 6) (hkk : kk < 10) : Ct l ⟨"com/example/quire/quire/core/ValueTextBase64PinLaw", "expect", "([BIIII)B"⟩ method_4_code 12 (some .byte) [] ({ frames := 1, cells := 0, slots := 0, locals := 12 } : Room) Z n0 #[(.ref a1), (.int f.toInt32), (.int n.toInt32), (.int kk.toInt32), (.int (own_olen n).toInt32)] h0 (fun r h => r = some (.int (if kk < own_olen n then own_ch vs f n kk else 42)) ∧ h = h0) := by
  have ol8 := own_olen_le n
  refine Ct.of (ls := [.val (.ref a1), .val (.int f.toInt32), .val (.int n.toInt32), .val (.int kk.toInt32), .val (.int (own_olen n).toInt32), .unset, .unset, .unset, .unset, .unset, .unset, .unset]) pn3 (fun m => by first | (simp [entryFrame, mkF, argsToLocals, Value.category]; done) | rfl) ?_
  refine r_iloadN d3_0 rfl ?_
  refine r_if_lt d3_1 (fun hc1 => ?_) (fun hc1 => ?_)
  · exfalso; exact n32_nn (by omega) hc1
  · refine r_iloadN d3_4 rfl ?_
    refine r_iload d3_5 rfl ?_
    refine r_icmp_lt d3_7 (fun hc7 => ?_) (fun hc7 => ?_)
    · have hk2 : kk < own_olen n := (n32_lt (by omega) (by omega)).mp hc7
      refine r_iloadN d3_13 rfl ?_
      refine r_iconst (4 : Int32) rfl d3_14 ?_
      refine r_idiv d3_15 (by decide) ?_
      rw [show kk.toInt32 / (4 : Int32) = (kk / 4).toInt32 from own_divN kk 4 (by omega) (by decide) (by decide)]
      refine r_istore d3_16 [.val (.ref a1), .val (.int f.toInt32), .val (.int n.toInt32), .val (.int kk.toInt32), .val (.int (own_olen n).toInt32), .val (.int (kk / 4).toInt32), .unset, .unset, .unset, .unset, .unset, .unset] rfl ?_
      refine r_iloadN d3_18 rfl ?_
      refine r_iconst (4 : Int32) rfl d3_19 ?_
      refine r_irem d3_20 (by decide) ?_
      rw [show kk.toInt32 % (4 : Int32) = (kk % 4).toInt32 from n32_rem (k := 4) (by omega) (by decide) (by decide)]
      refine r_istore d3_21 [.val (.ref a1), .val (.int f.toInt32), .val (.int n.toInt32), .val (.int kk.toInt32), .val (.int (own_olen n).toInt32), .val (.int (kk / 4).toInt32), .val (.int (kk % 4).toInt32), .unset, .unset, .unset, .unset, .unset] rfl ?_
      refine r_iloadN d3_23 rfl ?_
      refine r_iconst (3 : Int32) rfl d3_24 ?_
      refine r_iload d3_25 rfl ?_
      refine r_imul d3_27 ?_
      rw [show (3 : Int32) * (kk / 4).toInt32 = (3 * (kk / 4)).toInt32 from own_mulN 3 (kk / 4)]
      have hg : 3 * (kk / 4) < n := by have := own_olen_lt n kk hk2; exact this
      refine r_isub d3_28 ?_
      rw [n32_sub (a := n) (b := 3 * (kk / 4)) (by omega)]
      refine r_istore d3_29 [.val (.ref a1), .val (.int f.toInt32), .val (.int n.toInt32), .val (.int kk.toInt32), .val (.int (own_olen n).toInt32), .val (.int (kk / 4).toInt32), .val (.int (kk % 4).toInt32), .val (.int (n - 3 * (kk / 4)).toInt32), .unset, .unset, .unset, .unset] rfl ?_
      refine r_iload d3_31 rfl ?_
      refine r_iconst (3 : Int32) rfl d3_33 ?_
      obtain ⟨r, er⟩ : ∃ r, r = n - 3 * (kk / 4) := ⟨_, rfl⟩
      rw [← er]
      have J40 : ∀ (m : Nat) (hm : m = if 3 < r then 3 else r), ORun l ⟨"com/example/quire/quire/core/ValueTextBase64PinLaw", "expect", "([BIIII)B"⟩ method_4_code 12 (some .byte) ({ frames := 1, cells := 0, slots := 0, locals := 12 } : Room) Z n0 #[(.ref a1), (.int f.toInt32), (.int n.toInt32), (.int kk.toInt32), (.int (own_olen n).toInt32)] (fun r h => r = some (.int (if kk < own_olen n then own_ch vs f n kk else 42)) ∧ h = h0) h0 0 0 40 [.val (.ref a1), .val (.int f.toInt32), .val (.int n.toInt32), .val (.int kk.toInt32), .val (.int (own_olen n).toInt32), .val (.int (kk / 4).toInt32), .val (.int (kk % 4).toInt32), .val (.int m.toInt32), .unset, .unset, .unset, .unset] [] := by
        intro m hm
        refine r_iloadN d3_40 rfl ?_
        refine r_iconst (3 : Int32) rfl d3_41 ?_
        refine r_iload d3_42 rfl ?_
        refine r_imul d3_44 ?_
        rw [show (3 : Int32) * (kk / 4).toInt32 = (3 * (kk / 4)).toInt32 from own_mulN 3 (kk / 4)]
        refine r_iadd d3_45 ?_
        rw [n32_add f (3 * (kk / 4))]
        obtain ⟨b, eb⟩ : ∃ b, b = f + 3 * (kk / 4) := ⟨_, rfl⟩
        rw [← eb]
        have hr1 : 1 ≤ r := by omega
        have hbr : b + m ≤ 7 := by subst hm; split <;> omega
        have hm1 : 1 ≤ m ∧ m ≤ 3 := by subst hm; split <;> omega
        refine r_istore d3_46 [.val (.ref a1), .val (.int f.toInt32), .val (.int n.toInt32), .val (.int kk.toInt32), .val (.int (own_olen n).toInt32), .val (.int (kk / 4).toInt32), .val (.int (kk % 4).toInt32), .val (.int m.toInt32), .val (.int b.toInt32), .unset, .unset, .unset] rfl ?_
        refine r_aloadN d3_48 rfl rfl ?_
        refine r_iload d3_49 rfl ?_
        refine r_ldB (own_at vs b) A (n32_nn (by omega)) (by rw [n32_clamp (by omega)]; exact own_get (by omega)) d3_51 ?_
        refine r_sipush (255 : Int32) rfl d3_52 ?_
        refine r_iand d3_55 ?_
        rw [own_bt_eq vs b]
        refine r_istore d3_56 [.val (.ref a1), .val (.int f.toInt32), .val (.int n.toInt32), .val (.int kk.toInt32), .val (.int (own_olen n).toInt32), .val (.int (kk / 4).toInt32), .val (.int (kk % 4).toInt32), .val (.int m.toInt32), .val (.int b.toInt32), .val (.int (own_bt vs b).toInt32), .unset, .unset] rfl ?_
        refine r_iload d3_58 rfl ?_
        refine r_iconst (2 : Int32) rfl d3_60 ?_
        have J78 : ∀ (x1 : Nat) (hx1 : x1 = if 2 ≤ m then own_bt vs (b + 1) else 0), ORun l ⟨"com/example/quire/quire/core/ValueTextBase64PinLaw", "expect", "([BIIII)B"⟩ method_4_code 12 (some .byte) ({ frames := 1, cells := 0, slots := 0, locals := 12 } : Room) Z n0 #[(.ref a1), (.int f.toInt32), (.int n.toInt32), (.int kk.toInt32), (.int (own_olen n).toInt32)] (fun r h => r = some (.int (if kk < own_olen n then own_ch vs f n kk else 42)) ∧ h = h0) h0 0 0 78 [.val (.ref a1), .val (.int f.toInt32), .val (.int n.toInt32), .val (.int kk.toInt32), .val (.int (own_olen n).toInt32), .val (.int (kk / 4).toInt32), .val (.int (kk % 4).toInt32), .val (.int m.toInt32), .val (.int b.toInt32), .val (.int (own_bt vs b).toInt32), .unset, .unset] [(.int x1.toInt32)] := by
          intro x1 hx1
          refine r_istore d3_78 [.val (.ref a1), .val (.int f.toInt32), .val (.int n.toInt32), .val (.int kk.toInt32), .val (.int (own_olen n).toInt32), .val (.int (kk / 4).toInt32), .val (.int (kk % 4).toInt32), .val (.int m.toInt32), .val (.int b.toInt32), .val (.int (own_bt vs b).toInt32), .val (.int x1.toInt32), .unset] rfl ?_
          refine r_iload d3_80 rfl ?_
          refine r_iconst (3 : Int32) rfl d3_82 ?_
          have J100 : ∀ (x2 : Nat) (hx2 : x2 = if 3 ≤ m then own_bt vs (b + 2) else 0), ORun l ⟨"com/example/quire/quire/core/ValueTextBase64PinLaw", "expect", "([BIIII)B"⟩ method_4_code 12 (some .byte) ({ frames := 1, cells := 0, slots := 0, locals := 12 } : Room) Z n0 #[(.ref a1), (.int f.toInt32), (.int n.toInt32), (.int kk.toInt32), (.int (own_olen n).toInt32)] (fun r h => r = some (.int (if kk < own_olen n then own_ch vs f n kk else 42)) ∧ h = h0) h0 0 0 100 [.val (.ref a1), .val (.int f.toInt32), .val (.int n.toInt32), .val (.int kk.toInt32), .val (.int (own_olen n).toInt32), .val (.int (kk / 4).toInt32), .val (.int (kk % 4).toInt32), .val (.int m.toInt32), .val (.int b.toInt32), .val (.int (own_bt vs b).toInt32), .val (.int x1.toInt32), .unset] [(.int x2.toInt32)] := by
            intro x2 hx2
            refine r_istore d3_100 [.val (.ref a1), .val (.int f.toInt32), .val (.int n.toInt32), .val (.int kk.toInt32), .val (.int (own_olen n).toInt32), .val (.int (kk / 4).toInt32), .val (.int (kk % 4).toInt32), .val (.int m.toInt32), .val (.int b.toInt32), .val (.int (own_bt vs b).toInt32), .val (.int x1.toInt32), .val (.int x2.toInt32)] rfl ?_
            have b0 := own_bt_lt vs b
            have b1 : x1 < 256 := by subst hx1; split; exact own_bt_lt _ _; omega
            have b2 : x2 < 256 := by subst hx2; split; exact own_bt_lt _ _; omega
            refine r_iload d3_102 rfl ?_
            refine r_if_ne d3_104 (fun hc104 => ?_) (fun hc104 => ?_)
            · refine r_iload d3_115 rfl ?_
              refine r_iconst (1 : Int32) rfl d3_117 ?_
              refine r_icmp_ne d3_118 (fun hc118 => ?_) (fun hc118 => ?_)
              · refine r_iload d3_136 rfl ?_
                refine r_iconst (2 : Int32) rfl d3_138 ?_
                refine r_icmp_ne d3_139 (fun hc139 => ?_) (fun hc139 => ?_)
                · refine r_iload d3_168 rfl ?_
                  refine r_iconst (3 : Int32) rfl d3_170 ?_
                  refine r_icmp_ge d3_171 (fun hc171 => ?_) (fun hc171 => ?_)
                  · refine r_iload d3_177 rfl ?_
                    refine r_bipush (63 : Int32) rfl d3_179 ?_
                    refine r_iand d3_181 ?_
                    rw [own_and x2 63 6 (by decide) (by decide) (by omega)]
                    refine r_staticP [(.int (x2 % 2 ^ 6).toInt32)] [] rfl pd3_0 rfl (hw _ (List.mem_of_getElem? (i := 14) rfl)) (hw _ (List.mem_of_getElem? (i := 15) rfl)) (hw _ (List.mem_of_getElem? (i := 9) rfl)) (hw _ (List.mem_of_getElem? (i := 16) rfl)) (by decide) (w := (.int (own_enc (x2 % 2 ^ 6)))) (R' := ({ frames := 0, cells := 0, slots := 0, locals := 0 } : Room)) (ct4 hw (x2 % 2 ^ 6) (by omega)) d3_182 rfl (by decide) 0 rfl (by decide) rfl rfl (by decide) (by decide) ?_
                    refine r_nret (t := .byte) (by simp) d3_185 (by decide) (by decide) ?_
                    refine ⟨?_, rfl⟩
                    rw [if_pos hk2]
                    have i1 : (2 ≤ m) ↔ (2 ≤ r) := by rw [hm]; split <;> omega
                    have i2 : (3 ≤ m) ↔ (3 ≤ r) := by rw [hm]; split <;> omega
                    simp only [i1] at hx1
                    simp only [i2] at hx2
                    unfold own_ch
                    simp only [← eb, ← er, ← hx1, ← hx2]
                    rw [if_neg (fun q => hc104 (by rw [q]; rfl))]
                    rw [if_neg (fun q => hc118 (by rw [q]; rfl))]
                    rw [if_neg (fun q => hc139 (by rw [q]; rfl))]
                    have hm3 : ¬ m < 3 := fun q => hc171 ((n32_lt (b := 3) (by omega) (by decide)).mpr q)
                    rw [if_neg (show ¬ r < 3 by subst hm; split at hm3 <;> omega)]
                    rw [own_encb _ (by omega)]
                  · refine r_bipush (61 : Int32) rfl d3_174 ?_
                    refine r_nret (t := .byte) (by simp) d3_176 (by decide) (by decide) ?_
                    refine ⟨?_, rfl⟩
                    rw [if_pos hk2]
                    have i1 : (2 ≤ m) ↔ (2 ≤ r) := by rw [hm]; split <;> omega
                    have i2 : (3 ≤ m) ↔ (3 ≤ r) := by rw [hm]; split <;> omega
                    simp only [i1] at hx1
                    simp only [i2] at hx2
                    unfold own_ch
                    simp only [← eb, ← er, ← hx1, ← hx2]
                    rw [if_neg (fun q => hc104 (by rw [q]; rfl))]
                    rw [if_neg (fun q => hc118 (by rw [q]; rfl))]
                    rw [if_neg (fun q => hc139 (by rw [q]; rfl))]
                    have hm3 : m < 3 := (n32_lt (a := m) (b := 3) (by omega) (by omega)).mp hc171
                    rw [if_pos (show r < 3 by subst hm; split at hm3 <;> omega)]; rfl
                · refine r_iload d3_142 rfl ?_
                  refine r_iconst (2 : Int32) rfl d3_144 ?_
                  refine r_icmp_ge d3_145 (fun hc145 => ?_) (fun hc145 => ?_)
                  · refine r_iload d3_151 rfl ?_
                    refine r_bipush (15 : Int32) rfl d3_153 ?_
                    refine r_iand d3_155 ?_
                    rw [own_and x1 15 4 (by decide) (by decide) (by omega)]
                    refine r_iconst (2 : Int32) rfl d3_156 ?_
                    refine r_ishl d3_157 ?_
                    rw [own_ishl (x1 % 2 ^ 4) 2 2 (by decide) (by omega)]
                    refine r_iload d3_158 rfl ?_
                    refine r_bipush (6 : Int32) rfl d3_160 ?_
                    refine r_ishr d3_162 ?_
                    rw [own_ishr x2 6 6 (by decide) (by omega)]
                    refine r_ior d3_163 ?_
                    rw [own_or (x1 % 2 ^ 4 * 2 ^ 2) (x2 / 2 ^ 6) 2 (by decide) (by omega) (by omega) (by omega)]
                    refine r_staticP [(.int (x1 % 2 ^ 4 * 2 ^ 2 + x2 / 2 ^ 6).toInt32)] [] rfl pd3_0 rfl (hw _ (List.mem_of_getElem? (i := 14) rfl)) (hw _ (List.mem_of_getElem? (i := 15) rfl)) (hw _ (List.mem_of_getElem? (i := 9) rfl)) (hw _ (List.mem_of_getElem? (i := 16) rfl)) (by decide) (w := (.int (own_enc (x1 % 2 ^ 4 * 2 ^ 2 + x2 / 2 ^ 6)))) (R' := ({ frames := 0, cells := 0, slots := 0, locals := 0 } : Room)) (ct4 hw (x1 % 2 ^ 4 * 2 ^ 2 + x2 / 2 ^ 6) (by omega)) d3_164 rfl (by decide) 0 rfl (by decide) rfl rfl (by decide) (by decide) ?_
                    refine r_nret (t := .byte) (by simp) d3_167 (by decide) (by decide) ?_
                    refine ⟨?_, rfl⟩
                    rw [if_pos hk2]
                    have i1 : (2 ≤ m) ↔ (2 ≤ r) := by rw [hm]; split <;> omega
                    have i2 : (3 ≤ m) ↔ (3 ≤ r) := by rw [hm]; split <;> omega
                    simp only [i1] at hx1
                    simp only [i2] at hx2
                    unfold own_ch
                    simp only [← eb, ← er, ← hx1, ← hx2]
                    rw [if_neg (fun q => hc104 (by rw [q]; rfl))]
                    rw [if_neg (fun q => hc118 (by rw [q]; rfl))]
                    rw [if_pos ((n32_eq (b := 2) (by omega) (by decide)).mp hc139)]
                    have hm2 : ¬ m < 2 := fun q => hc145 ((n32_lt (b := 2) (by omega) (by decide)).mpr q)
                    rw [if_neg (show ¬ r < 2 by subst hm; split at hm2 <;> omega)]
                    rw [own_encb _ (by omega)]
                  · refine r_bipush (61 : Int32) rfl d3_148 ?_
                    refine r_nret (t := .byte) (by simp) d3_150 (by decide) (by decide) ?_
                    refine ⟨?_, rfl⟩
                    rw [if_pos hk2]
                    have i1 : (2 ≤ m) ↔ (2 ≤ r) := by rw [hm]; split <;> omega
                    have i2 : (3 ≤ m) ↔ (3 ≤ r) := by rw [hm]; split <;> omega
                    simp only [i1] at hx1
                    simp only [i2] at hx2
                    unfold own_ch
                    simp only [← eb, ← er, ← hx1, ← hx2]
                    rw [if_neg (fun q => hc104 (by rw [q]; rfl))]
                    rw [if_neg (fun q => hc118 (by rw [q]; rfl))]
                    rw [if_pos ((n32_eq (b := 2) (by omega) (by decide)).mp hc139)]
                    have hm2 : m < 2 := (n32_lt (a := m) (b := 2) (by omega) (by omega)).mp hc145
                    rw [if_pos (show r < 2 by subst hm; split at hm2 <;> omega)]; rfl
              · refine r_iload d3_121 rfl ?_
                refine r_iconst (3 : Int32) rfl d3_123 ?_
                refine r_iand d3_124 ?_
                rw [own_and (own_bt vs b) 3 2 (by decide) (by decide) (by omega)]
                refine r_iconst (4 : Int32) rfl d3_125 ?_
                refine r_ishl d3_126 ?_
                rw [own_ishl (own_bt vs b % 2 ^ 2) 4 4 (by decide) (by omega)]
                refine r_iload d3_127 rfl ?_
                refine r_iconst (4 : Int32) rfl d3_129 ?_
                refine r_ishr d3_130 ?_
                rw [own_ishr x1 4 4 (by decide) (by omega)]
                refine r_ior d3_131 ?_
                rw [own_or (own_bt vs b % 2 ^ 2 * 2 ^ 4) (x1 / 2 ^ 4) 4 (by decide) (by omega) (by omega) (by omega)]
                refine r_staticP [(.int (own_bt vs b % 2 ^ 2 * 2 ^ 4 + x1 / 2 ^ 4).toInt32)] [] rfl pd3_0 rfl (hw _ (List.mem_of_getElem? (i := 14) rfl)) (hw _ (List.mem_of_getElem? (i := 15) rfl)) (hw _ (List.mem_of_getElem? (i := 9) rfl)) (hw _ (List.mem_of_getElem? (i := 16) rfl)) (by decide) (w := (.int (own_enc (own_bt vs b % 2 ^ 2 * 2 ^ 4 + x1 / 2 ^ 4)))) (R' := ({ frames := 0, cells := 0, slots := 0, locals := 0 } : Room)) (ct4 hw (own_bt vs b % 2 ^ 2 * 2 ^ 4 + x1 / 2 ^ 4) (by omega)) d3_132 rfl (by decide) 0 rfl (by decide) rfl rfl (by decide) (by decide) ?_
                refine r_nret (t := .byte) (by simp) d3_135 (by decide) (by decide) ?_
                refine ⟨?_, rfl⟩
                rw [if_pos hk2]
                have i1 : (2 ≤ m) ↔ (2 ≤ r) := by rw [hm]; split <;> omega
                have i2 : (3 ≤ m) ↔ (3 ≤ r) := by rw [hm]; split <;> omega
                simp only [i1] at hx1
                simp only [i2] at hx2
                unfold own_ch
                simp only [← eb, ← er, ← hx1, ← hx2]
                rw [if_neg (fun q => hc104 (by rw [q]; rfl))]
                rw [if_pos ((n32_eq (b := 1) (by omega) (by decide)).mp hc118)]
                rw [own_encb _ (by omega)]
            · refine r_iload d3_107 rfl ?_
              refine r_iconst (2 : Int32) rfl d3_109 ?_
              refine r_ishr d3_110 ?_
              rw [own_ishr (own_bt vs b) 2 2 (by decide) (by omega)]
              refine r_staticP [(.int (own_bt vs b / 2 ^ 2).toInt32)] [] rfl pd3_0 rfl (hw _ (List.mem_of_getElem? (i := 14) rfl)) (hw _ (List.mem_of_getElem? (i := 15) rfl)) (hw _ (List.mem_of_getElem? (i := 9) rfl)) (hw _ (List.mem_of_getElem? (i := 16) rfl)) (by decide) (w := (.int (own_enc (own_bt vs b / 2 ^ 2)))) (R' := ({ frames := 0, cells := 0, slots := 0, locals := 0 } : Room)) (ct4 hw (own_bt vs b / 2 ^ 2) (by omega)) d3_111 rfl (by decide) 0 rfl (by decide) rfl rfl (by decide) (by decide) ?_
              refine r_nret (t := .byte) (by simp) d3_114 (by decide) (by decide) ?_
              refine ⟨?_, rfl⟩
              rw [if_pos hk2]
              have i1 : (2 ≤ m) ↔ (2 ≤ r) := by rw [hm]; split <;> omega
              have i2 : (3 ≤ m) ↔ (3 ≤ r) := by rw [hm]; split <;> omega
              simp only [i1] at hx1
              simp only [i2] at hx2
              unfold own_ch
              simp only [← eb, ← er, ← hx1, ← hx2]
              rw [if_pos ((n32_eq (b := 0) (by omega) (by decide)).mp hc104)]
              rw [own_encb _ (by omega)]
          refine r_icmp_lt d3_83 (fun hc83 => ?_) (fun hc83 => ?_)
          · refine r_iconst (0 : Int32) rfl d3_99 ?_
            exact J100 0 (by rw [if_neg (fun q => absurd ((n32_lt (a := m) (b := 3) (by omega) (by omega)).mp hc83) (by omega))])
          · have h83 : 3 ≤ m := Nat.le_of_not_lt fun q => hc83 ((n32_lt (b := 3) (by omega) (by decide)).mpr q)
            refine r_aloadN d3_86 rfl rfl ?_
            refine r_iload d3_87 rfl ?_
            refine r_iconst (2 : Int32) rfl d3_89 ?_
            refine r_iadd d3_90 ?_
            rw [show b.toInt32 + (2 : Int32) = (b + 2).toInt32 from n32_add b 2]
            refine r_ldB (own_at vs (b + 2)) A (n32_nn (by omega)) (by rw [n32_clamp (by omega)]; exact own_get (by omega)) d3_91 ?_
            refine r_sipush (255 : Int32) rfl d3_92 ?_
            refine r_iand d3_95 ?_
            rw [own_bt_eq vs (b + 2)]
            refine r_goto d3_96 ?_
            exact J100 _ (by rw [if_pos h83])
        refine r_icmp_lt d3_61 (fun hc61 => ?_) (fun hc61 => ?_)
        · refine r_iconst (0 : Int32) rfl d3_77 ?_
          exact J78 0 (by rw [if_neg (fun q => absurd ((n32_lt (a := m) (b := 2) (by omega) (by omega)).mp hc61) (by omega))])
        · have h61 : 2 ≤ m := Nat.le_of_not_lt fun q => hc61 ((n32_lt (b := 2) (by omega) (by decide)).mpr q)
          refine r_aloadN d3_64 rfl rfl ?_
          refine r_iload d3_65 rfl ?_
          refine r_iconst (1 : Int32) rfl d3_67 ?_
          refine r_iadd d3_68 ?_
          rw [show b.toInt32 + (1 : Int32) = (b + 1).toInt32 from n32_add b 1]
          refine r_ldB (own_at vs (b + 1)) A (n32_nn (by omega)) (by rw [n32_clamp (by omega)]; exact own_get (by omega)) d3_69 ?_
          refine r_sipush (255 : Int32) rfl d3_70 ?_
          refine r_iand d3_73 ?_
          rw [own_bt_eq vs (b + 1)]
          refine r_goto d3_74 ?_
          exact J78 _ (by rw [if_pos h61])
      refine r_icmp_le d3_34 (fun hc34 => ?_) (fun hc34 => ?_)
      · exact J40 r (by rw [if_neg (fun q => hc34 ((n32_lt (a := 3) (b := r) (by decide) (by omega)).mpr q))])
      · refine r_iconst (3 : Int32) rfl d3_37 ?_
        refine r_istore d3_38 [.val (.ref a1), .val (.int f.toInt32), .val (.int n.toInt32), .val (.int kk.toInt32), .val (.int (own_olen n).toInt32), .val (.int (kk / 4).toInt32), .val (.int (kk % 4).toInt32), .val (.int (3 : Int32)), .unset, .unset, .unset, .unset] rfl ?_
        exact J40 3 (by rw [if_pos ((n32_lt (a := 3) (b := r) (by omega) (by omega)).mp hc34)])
    · have hk2 : ¬ kk < own_olen n := fun q => hc7 ((n32_lt (by omega) (by omega)).mpr q)
      refine r_bipush (42 : Int32) rfl d3_10 ?_
      exact r_nret (t := .byte) (by simp) d3_12 (by decide) (by decide) (⟨by rw [if_neg hk2]; rfl, rfl⟩)
def own_E (vs : List Int32) (f n a i : Nat) : Int32 := if i < a then 42 else if i - a < own_olen n then own_ch vs f n (i - a) else 42
theorem own_negk (i a : Nat) (h : i < a) (ha : a < 100) : i.toInt32 - a.toInt32 < 0 := by
  have e := c_isub i.toInt32 a.toInt32
  have r := rng32 (i.toInt32 - a.toInt32)
  have z : (0 : Int32).toInt = 0 := by decide
  rw [n32_int (by omega), n32_int (by omega)] at e
  rw [Int32.lt_iff_toInt_lt]
  omega
theorem d2_0 : D method_3_code 0 (.aload_n 0) 1 1 := ⟨by decide +kernel, rfl⟩
theorem d2_1 : D method_3_code 1 (.iload 6) 2 3 := ⟨by decide +kernel, rfl⟩
theorem d2_3 : D method_3_code 3 (.baload) 1 4 := ⟨by decide +kernel, rfl⟩
theorem d2_4 : D method_3_code 4 (.aload_n 1) 1 5 := ⟨by decide +kernel, rfl⟩
theorem d2_5 : D method_3_code 5 (.iload_n 2) 1 6 := ⟨by decide +kernel, rfl⟩
theorem d2_6 : D method_3_code 6 (.iload_n 3) 1 7 := ⟨by decide +kernel, rfl⟩
theorem d2_7 : D method_3_code 7 (.iload 6) 2 9 := ⟨by decide +kernel, rfl⟩
theorem d2_9 : D method_3_code 9 (.iload 4) 2 11 := ⟨by decide +kernel, rfl⟩
theorem d2_11 : D method_3_code 11 (.isub) 1 12 := ⟨by decide +kernel, rfl⟩
theorem d2_12 : D method_3_code 12 (.iload 5) 2 14 := ⟨by decide +kernel, rfl⟩
theorem d2_14 : D method_3_code 14 (.invokestatic 19) 3 17 := ⟨by decide +kernel, rfl⟩
theorem d2_17 : DB method_3_code 17 (.if_icmp .ne) 7 20 24 := ⟨by decide +kernel, rfl, by decide, by decide⟩
theorem d2_20 : D method_3_code 20 (.iconst 1) 1 21 := ⟨by decide +kernel, rfl⟩
theorem d2_21 : DB method_3_code 21 (.goto) 4 24 25 := ⟨by decide +kernel, rfl, by decide, by decide⟩
theorem d2_24 : D method_3_code 24 (.iconst 0) 1 25 := ⟨by decide +kernel, rfl⟩
theorem d2_25 : D method_3_code 25 (.ireturn) 1 26 := ⟨by decide +kernel, rfl⟩
theorem pd2_0 : parseMethodDescriptor "([BIIII)B" = some ⟨[(.array .byte), .int, .int, .int, .int], some .byte⟩ := by decide +kernel
theorem pn2 : plainFor (⟨"com/example/quire/quire/core/ValueTextBase64PinLaw", "ok", "([B[BIIIII)Z"⟩ : MethodName) = true := by first | exact plainFor_of_name (by first | (simp [plainName, overriddenIn]; done) | decide +kernel) | exact Jvm.Free.JP.mathPlain rfl (by decide +kernel) | decide +kernel
set_option maxRecDepth 65536 in
set_option maxHeartbeats 40000000 in
theorem ct2 {l : Launch} {Z : State} {a0 : Array Value} (hw : ∀ d ∈ tables_1, d.before a0 Z = true) {n0 : Nat} {h0 : Heap} (a1 a2 : Addr) (f n a i : Nat) (os vs : List Int32) (O : Ary Z h0 a1 .byte os) (ho : os.length = 10) (B : Ary Z h0 a2 .byte vs) (hl : vs.length = 7) (hf : f ≤ 1) (hn : n ≤ 6) (ha : a ≤ 1) (hi : i < 10) : Ct l ⟨"com/example/quire/quire/core/ValueTextBase64PinLaw", "ok", "([B[BIIIII)Z"⟩ method_3_code 7 (some .boolean) [] ({ frames := 2, cells := 0, slots := 0, locals := 48 } : Room) Z n0 #[(.ref a1), (.ref a2), (.int f.toInt32), (.int n.toInt32), (.int a.toInt32), (.int (own_olen n).toInt32), (.int i.toInt32)] h0 (fun r h => r = some (.int (if own_at os i = own_E vs f n a i then 1 else 0)) ∧ h = h0) := by
  refine Ct.of (ls := [.val (.ref a1), .val (.ref a2), .val (.int f.toInt32), .val (.int n.toInt32), .val (.int a.toInt32), .val (.int (own_olen n).toInt32), .val (.int i.toInt32)]) pn2 (fun m => by first | (simp [entryFrame, mkF, argsToLocals, Value.category]; done) | rfl) ?_
  refine r_aloadN d2_0 rfl rfl ?_
  refine r_iload d2_1 rfl ?_
  refine r_ldB (own_at os i) O (n32_nn (by omega)) (by rw [n32_clamp (by omega)]; exact own_get (by omega)) d2_3 ?_
  refine r_aloadN d2_4 rfl rfl ?_
  refine r_iloadN d2_5 rfl ?_
  refine r_iloadN d2_6 rfl ?_
  refine r_iload d2_7 rfl ?_
  refine r_iload d2_9 rfl ?_
  by_cases hia : i < a
  · refine r_isub d2_11 ?_
    refine r_iload d2_12 rfl ?_
    refine r_staticP [(.ref a2), (.int f.toInt32), (.int n.toInt32), (.int (i.toInt32 - a.toInt32)), (.int (own_olen n).toInt32)] [(.int (own_at os i))] rfl pd2_0 rfl (hw _ (List.mem_of_getElem? (i := 11) rfl)) (hw _ (List.mem_of_getElem? (i := 12) rfl)) (hw _ (List.mem_of_getElem? (i := 9) rfl)) (hw _ (List.mem_of_getElem? (i := 13) rfl)) (by decide) (w := (.int (42 : Int32))) (R' := ({ frames := 1, cells := 0, slots := 0, locals := 12 } : Room)) (ct3n hw a2 f.toInt32 n.toInt32 (i.toInt32 - a.toInt32) (own_olen n).toInt32 (own_negk i a hia (by omega))) d2_14 rfl (by decide) 1 rfl (by decide) rfl rfl (by decide) (by decide) ?_
    refine r_icmp_ne d2_17 (fun hc17 => ?_) (fun hc17 => ?_)
    · refine r_iconst (0 : Int32) rfl d2_24 ?_
      refine r_nret (t := .boolean) (by simp) d2_25 (by decide) (by decide) ?_
      have e : own_E vs f n a i = 42 := by unfold own_E; rw [if_pos hia]
      exact ⟨by rw [if_neg (by rw [e]; exact hc17)]; rfl, rfl⟩
    · refine r_iconst (1 : Int32) rfl d2_20 ?_
      refine r_goto d2_21 ?_
      refine r_nret (t := .boolean) (by simp) d2_25 (by decide) (by decide) ?_
      have e : own_E vs f n a i = 42 := by unfold own_E; rw [if_pos hia]
      exact ⟨by rw [if_pos (by rw [e]; exact hc17)]; rfl, rfl⟩
  · refine r_isub d2_11 ?_
    rw [n32_sub (a := i) (b := a) (by omega)]
    refine r_iload d2_12 rfl ?_
    refine r_staticP [(.ref a2), (.int f.toInt32), (.int n.toInt32), (.int (i - a).toInt32), (.int (own_olen n).toInt32)] [(.int (own_at os i))] rfl pd2_0 rfl (hw _ (List.mem_of_getElem? (i := 11) rfl)) (hw _ (List.mem_of_getElem? (i := 12) rfl)) (hw _ (List.mem_of_getElem? (i := 9) rfl)) (hw _ (List.mem_of_getElem? (i := 13) rfl)) (by decide) (w := (.int (if i - a < own_olen n then own_ch vs f n (i - a) else 42))) (R' := ({ frames := 1, cells := 0, slots := 0, locals := 12 } : Room)) (ct3 hw a2 f n (i - a) vs B hl hf hn (by omega)) d2_14 rfl (by decide) 1 rfl (by decide) rfl rfl (by decide) (by decide) ?_
    refine r_icmp_ne d2_17 (fun hc17 => ?_) (fun hc17 => ?_)
    · refine r_iconst (0 : Int32) rfl d2_24 ?_
      refine r_nret (t := .boolean) (by simp) d2_25 (by decide) (by decide) ?_
      have e : own_E vs f n a i = (if i - a < own_olen n then own_ch vs f n (i - a) else 42) := by unfold own_E; rw [if_neg hia]
      exact ⟨by rw [if_neg (by rw [e]; exact hc17)]; rfl, rfl⟩
    · refine r_iconst (1 : Int32) rfl d2_20 ?_
      refine r_goto d2_21 ?_
      refine r_nret (t := .boolean) (by simp) d2_25 (by decide) (by decide) ?_
      have e : own_E vs f n a i = (if i - a < own_olen n then own_ch vs f n (i - a) else 42) := by unfold own_E; rw [if_neg hia]
      exact ⟨by rw [if_pos (by rw [e]; exact hc17)]; rfl, rfl⟩
theorem d1_0 : D prog_207_method_26_code 0 (.iload 4) 2 2 := ⟨by decide +kernel, rfl⟩
theorem d1_2 : D prog_207_method_26_code 2 (.istore 5) 2 4 := ⟨by decide +kernel, rfl⟩
theorem d1_4 : D prog_207_method_26_code 4 (.iload_n 1) 1 5 := ⟨by decide +kernel, rfl⟩
theorem d1_5 : D prog_207_method_26_code 5 (.iload_n 2) 1 6 := ⟨by decide +kernel, rfl⟩
theorem d1_6 : D prog_207_method_26_code 6 (.iconst 3) 1 7 := ⟨by decide +kernel, rfl⟩
theorem d1_7 : D prog_207_method_26_code 7 (.idiv) 1 8 := ⟨by decide +kernel, rfl⟩
theorem d1_8 : D prog_207_method_26_code 8 (.iconst 3) 1 9 := ⟨by decide +kernel, rfl⟩
theorem d1_9 : D prog_207_method_26_code 9 (.imul) 1 10 := ⟨by decide +kernel, rfl⟩
theorem d1_10 : D prog_207_method_26_code 10 (.iadd) 1 11 := ⟨by decide +kernel, rfl⟩
theorem d1_11 : D prog_207_method_26_code 11 (.istore 6) 2 13 := ⟨by decide +kernel, rfl⟩
theorem d1_13 : D prog_207_method_26_code 13 (.iload_n 1) 1 14 := ⟨by decide +kernel, rfl⟩
theorem d1_14 : D prog_207_method_26_code 14 (.istore 7) 2 16 := ⟨by decide +kernel, rfl⟩
theorem d1_16 : D prog_207_method_26_code 16 (.iload 7) 2 18 := ⟨by decide +kernel, rfl⟩
theorem d1_18 : D prog_207_method_26_code 18 (.iload 6) 2 20 := ⟨by decide +kernel, rfl⟩
theorem d1_20 : DB prog_207_method_26_code 20 (.if_icmp .ge) 117 23 137 := ⟨by decide +kernel, rfl, by decide, by decide⟩
theorem d1_23 : D prog_207_method_26_code 23 (.aload_n 0) 1 24 := ⟨by decide +kernel, rfl⟩
theorem d1_24 : D prog_207_method_26_code 24 (.iload 7) 2 26 := ⟨by decide +kernel, rfl⟩
theorem d1_26 : D prog_207_method_26_code 26 (.baload) 1 27 := ⟨by decide +kernel, rfl⟩
theorem d1_27 : D prog_207_method_26_code 27 (.sipush 255) 3 30 := ⟨by decide +kernel, rfl⟩
theorem d1_30 : D prog_207_method_26_code 30 (.iand) 1 31 := ⟨by decide +kernel, rfl⟩
theorem d1_31 : D prog_207_method_26_code 31 (.bipush 16) 2 33 := ⟨by decide +kernel, rfl⟩
theorem d1_33 : D prog_207_method_26_code 33 (.ishl) 1 34 := ⟨by decide +kernel, rfl⟩
theorem d1_34 : D prog_207_method_26_code 34 (.aload_n 0) 1 35 := ⟨by decide +kernel, rfl⟩
theorem d1_35 : D prog_207_method_26_code 35 (.iload 7) 2 37 := ⟨by decide +kernel, rfl⟩
theorem d1_37 : D prog_207_method_26_code 37 (.iconst 1) 1 38 := ⟨by decide +kernel, rfl⟩
theorem d1_38 : D prog_207_method_26_code 38 (.iadd) 1 39 := ⟨by decide +kernel, rfl⟩
theorem d1_39 : D prog_207_method_26_code 39 (.baload) 1 40 := ⟨by decide +kernel, rfl⟩
theorem d1_40 : D prog_207_method_26_code 40 (.sipush 255) 3 43 := ⟨by decide +kernel, rfl⟩
theorem d1_43 : D prog_207_method_26_code 43 (.iand) 1 44 := ⟨by decide +kernel, rfl⟩
theorem d1_44 : D prog_207_method_26_code 44 (.bipush 8) 2 46 := ⟨by decide +kernel, rfl⟩
theorem d1_46 : D prog_207_method_26_code 46 (.ishl) 1 47 := ⟨by decide +kernel, rfl⟩
theorem d1_47 : D prog_207_method_26_code 47 (.ior) 1 48 := ⟨by decide +kernel, rfl⟩
theorem d1_48 : D prog_207_method_26_code 48 (.aload_n 0) 1 49 := ⟨by decide +kernel, rfl⟩
theorem d1_49 : D prog_207_method_26_code 49 (.iload 7) 2 51 := ⟨by decide +kernel, rfl⟩
theorem d1_51 : D prog_207_method_26_code 51 (.iconst 2) 1 52 := ⟨by decide +kernel, rfl⟩
theorem d1_52 : D prog_207_method_26_code 52 (.iadd) 1 53 := ⟨by decide +kernel, rfl⟩
theorem d1_53 : D prog_207_method_26_code 53 (.baload) 1 54 := ⟨by decide +kernel, rfl⟩
theorem d1_54 : D prog_207_method_26_code 54 (.sipush 255) 3 57 := ⟨by decide +kernel, rfl⟩
theorem d1_57 : D prog_207_method_26_code 57 (.iand) 1 58 := ⟨by decide +kernel, rfl⟩
theorem d1_58 : D prog_207_method_26_code 58 (.ior) 1 59 := ⟨by decide +kernel, rfl⟩
theorem d1_59 : D prog_207_method_26_code 59 (.istore 8) 2 61 := ⟨by decide +kernel, rfl⟩
theorem d1_61 : D prog_207_method_26_code 61 (.aload_n 3) 1 62 := ⟨by decide +kernel, rfl⟩
theorem d1_62 : D prog_207_method_26_code 62 (.iload 5) 2 64 := ⟨by decide +kernel, rfl⟩
theorem d1_64 : D prog_207_method_26_code 64 (.iinc 5 1) 3 67 := ⟨by decide +kernel, rfl⟩
theorem d1_67 : D prog_207_method_26_code 67 (.getstatic 254) 3 70 := ⟨by decide +kernel, rfl⟩
theorem d1_70 : D prog_207_method_26_code 70 (.iload 8) 2 72 := ⟨by decide +kernel, rfl⟩
theorem d1_72 : D prog_207_method_26_code 72 (.bipush 18) 2 74 := ⟨by decide +kernel, rfl⟩
theorem d1_74 : D prog_207_method_26_code 74 (.iushr) 1 75 := ⟨by decide +kernel, rfl⟩
theorem d1_75 : D prog_207_method_26_code 75 (.baload) 1 76 := ⟨by decide +kernel, rfl⟩
theorem d1_76 : D prog_207_method_26_code 76 (.bastore) 1 77 := ⟨by decide +kernel, rfl⟩
theorem d1_77 : D prog_207_method_26_code 77 (.aload_n 3) 1 78 := ⟨by decide +kernel, rfl⟩
theorem d1_78 : D prog_207_method_26_code 78 (.iload 5) 2 80 := ⟨by decide +kernel, rfl⟩
theorem d1_80 : D prog_207_method_26_code 80 (.iinc 5 1) 3 83 := ⟨by decide +kernel, rfl⟩
theorem d1_83 : D prog_207_method_26_code 83 (.getstatic 254) 3 86 := ⟨by decide +kernel, rfl⟩
theorem d1_86 : D prog_207_method_26_code 86 (.iload 8) 2 88 := ⟨by decide +kernel, rfl⟩
theorem d1_88 : D prog_207_method_26_code 88 (.bipush 12) 2 90 := ⟨by decide +kernel, rfl⟩
theorem d1_90 : D prog_207_method_26_code 90 (.iushr) 1 91 := ⟨by decide +kernel, rfl⟩
theorem d1_91 : D prog_207_method_26_code 91 (.bipush 63) 2 93 := ⟨by decide +kernel, rfl⟩
theorem d1_93 : D prog_207_method_26_code 93 (.iand) 1 94 := ⟨by decide +kernel, rfl⟩
theorem d1_94 : D prog_207_method_26_code 94 (.baload) 1 95 := ⟨by decide +kernel, rfl⟩
theorem d1_95 : D prog_207_method_26_code 95 (.bastore) 1 96 := ⟨by decide +kernel, rfl⟩
theorem d1_96 : D prog_207_method_26_code 96 (.aload_n 3) 1 97 := ⟨by decide +kernel, rfl⟩
theorem d1_97 : D prog_207_method_26_code 97 (.iload 5) 2 99 := ⟨by decide +kernel, rfl⟩
theorem d1_99 : D prog_207_method_26_code 99 (.iinc 5 1) 3 102 := ⟨by decide +kernel, rfl⟩
theorem d1_102 : D prog_207_method_26_code 102 (.getstatic 254) 3 105 := ⟨by decide +kernel, rfl⟩
theorem d1_105 : D prog_207_method_26_code 105 (.iload 8) 2 107 := ⟨by decide +kernel, rfl⟩
theorem d1_107 : D prog_207_method_26_code 107 (.bipush 6) 2 109 := ⟨by decide +kernel, rfl⟩
theorem d1_109 : D prog_207_method_26_code 109 (.iushr) 1 110 := ⟨by decide +kernel, rfl⟩
theorem d1_110 : D prog_207_method_26_code 110 (.bipush 63) 2 112 := ⟨by decide +kernel, rfl⟩
theorem d1_112 : D prog_207_method_26_code 112 (.iand) 1 113 := ⟨by decide +kernel, rfl⟩
theorem d1_113 : D prog_207_method_26_code 113 (.baload) 1 114 := ⟨by decide +kernel, rfl⟩
theorem d1_114 : D prog_207_method_26_code 114 (.bastore) 1 115 := ⟨by decide +kernel, rfl⟩
theorem d1_115 : D prog_207_method_26_code 115 (.aload_n 3) 1 116 := ⟨by decide +kernel, rfl⟩
theorem d1_116 : D prog_207_method_26_code 116 (.iload 5) 2 118 := ⟨by decide +kernel, rfl⟩
theorem d1_118 : D prog_207_method_26_code 118 (.iinc 5 1) 3 121 := ⟨by decide +kernel, rfl⟩
theorem d1_121 : D prog_207_method_26_code 121 (.getstatic 254) 3 124 := ⟨by decide +kernel, rfl⟩
theorem d1_124 : D prog_207_method_26_code 124 (.iload 8) 2 126 := ⟨by decide +kernel, rfl⟩
theorem d1_126 : D prog_207_method_26_code 126 (.bipush 63) 2 128 := ⟨by decide +kernel, rfl⟩
theorem d1_128 : D prog_207_method_26_code 128 (.iand) 1 129 := ⟨by decide +kernel, rfl⟩
theorem d1_129 : D prog_207_method_26_code 129 (.baload) 1 130 := ⟨by decide +kernel, rfl⟩
theorem d1_130 : D prog_207_method_26_code 130 (.bastore) 1 131 := ⟨by decide +kernel, rfl⟩
theorem d1_131 : D prog_207_method_26_code 131 (.iinc 7 3) 3 134 := ⟨by decide +kernel, rfl⟩
theorem d1_134 : DB prog_207_method_26_code 134 (.goto) (-118) 137 16 := ⟨by decide +kernel, rfl, by decide, by decide⟩
theorem d1_137 : D prog_207_method_26_code 137 (.iload_n 1) 1 138 := ⟨by decide +kernel, rfl⟩
theorem d1_138 : D prog_207_method_26_code 138 (.iload_n 2) 1 139 := ⟨by decide +kernel, rfl⟩
theorem d1_139 : D prog_207_method_26_code 139 (.iadd) 1 140 := ⟨by decide +kernel, rfl⟩
theorem d1_140 : D prog_207_method_26_code 140 (.iload 6) 2 142 := ⟨by decide +kernel, rfl⟩
theorem d1_142 : D prog_207_method_26_code 142 (.isub) 1 143 := ⟨by decide +kernel, rfl⟩
theorem d1_143 : D prog_207_method_26_code 143 (.istore 7) 2 145 := ⟨by decide +kernel, rfl⟩
theorem d1_145 : D prog_207_method_26_code 145 (.iload 7) 2 147 := ⟨by decide +kernel, rfl⟩
theorem d1_147 : DB prog_207_method_26_code 147 (.ifCond .le) 114 150 261 := ⟨by decide +kernel, rfl, by decide, by decide⟩
theorem d1_150 : D prog_207_method_26_code 150 (.aload_n 0) 1 151 := ⟨by decide +kernel, rfl⟩
theorem d1_151 : D prog_207_method_26_code 151 (.iload 6) 2 153 := ⟨by decide +kernel, rfl⟩
theorem d1_153 : D prog_207_method_26_code 153 (.baload) 1 154 := ⟨by decide +kernel, rfl⟩
theorem d1_154 : D prog_207_method_26_code 154 (.sipush 255) 3 157 := ⟨by decide +kernel, rfl⟩
theorem d1_157 : D prog_207_method_26_code 157 (.iand) 1 158 := ⟨by decide +kernel, rfl⟩
theorem d1_158 : D prog_207_method_26_code 158 (.bipush 16) 2 160 := ⟨by decide +kernel, rfl⟩
theorem d1_160 : D prog_207_method_26_code 160 (.ishl) 1 161 := ⟨by decide +kernel, rfl⟩
theorem d1_161 : D prog_207_method_26_code 161 (.iload 7) 2 163 := ⟨by decide +kernel, rfl⟩
theorem d1_163 : D prog_207_method_26_code 163 (.iconst 2) 1 164 := ⟨by decide +kernel, rfl⟩
theorem d1_164 : DB prog_207_method_26_code 164 (.if_icmp .ne) 19 167 183 := ⟨by decide +kernel, rfl, by decide, by decide⟩
theorem d1_167 : D prog_207_method_26_code 167 (.aload_n 0) 1 168 := ⟨by decide +kernel, rfl⟩
theorem d1_168 : D prog_207_method_26_code 168 (.iload 6) 2 170 := ⟨by decide +kernel, rfl⟩
theorem d1_170 : D prog_207_method_26_code 170 (.iconst 1) 1 171 := ⟨by decide +kernel, rfl⟩
theorem d1_171 : D prog_207_method_26_code 171 (.iadd) 1 172 := ⟨by decide +kernel, rfl⟩
theorem d1_172 : D prog_207_method_26_code 172 (.baload) 1 173 := ⟨by decide +kernel, rfl⟩
theorem d1_173 : D prog_207_method_26_code 173 (.sipush 255) 3 176 := ⟨by decide +kernel, rfl⟩
theorem d1_176 : D prog_207_method_26_code 176 (.iand) 1 177 := ⟨by decide +kernel, rfl⟩
theorem d1_177 : D prog_207_method_26_code 177 (.bipush 8) 2 179 := ⟨by decide +kernel, rfl⟩
theorem d1_179 : D prog_207_method_26_code 179 (.ishl) 1 180 := ⟨by decide +kernel, rfl⟩
theorem d1_180 : DB prog_207_method_26_code 180 (.goto) 4 183 184 := ⟨by decide +kernel, rfl, by decide, by decide⟩
theorem d1_183 : D prog_207_method_26_code 183 (.iconst 0) 1 184 := ⟨by decide +kernel, rfl⟩
theorem d1_184 : D prog_207_method_26_code 184 (.ior) 1 185 := ⟨by decide +kernel, rfl⟩
theorem d1_185 : D prog_207_method_26_code 185 (.istore 8) 2 187 := ⟨by decide +kernel, rfl⟩
theorem d1_187 : D prog_207_method_26_code 187 (.aload_n 3) 1 188 := ⟨by decide +kernel, rfl⟩
theorem d1_188 : D prog_207_method_26_code 188 (.iload 5) 2 190 := ⟨by decide +kernel, rfl⟩
theorem d1_190 : D prog_207_method_26_code 190 (.iinc 5 1) 3 193 := ⟨by decide +kernel, rfl⟩
theorem d1_193 : D prog_207_method_26_code 193 (.getstatic 254) 3 196 := ⟨by decide +kernel, rfl⟩
theorem d1_196 : D prog_207_method_26_code 196 (.iload 8) 2 198 := ⟨by decide +kernel, rfl⟩
theorem d1_198 : D prog_207_method_26_code 198 (.bipush 18) 2 200 := ⟨by decide +kernel, rfl⟩
theorem d1_200 : D prog_207_method_26_code 200 (.iushr) 1 201 := ⟨by decide +kernel, rfl⟩
theorem d1_201 : D prog_207_method_26_code 201 (.baload) 1 202 := ⟨by decide +kernel, rfl⟩
theorem d1_202 : D prog_207_method_26_code 202 (.bastore) 1 203 := ⟨by decide +kernel, rfl⟩
theorem d1_203 : D prog_207_method_26_code 203 (.aload_n 3) 1 204 := ⟨by decide +kernel, rfl⟩
theorem d1_204 : D prog_207_method_26_code 204 (.iload 5) 2 206 := ⟨by decide +kernel, rfl⟩
theorem d1_206 : D prog_207_method_26_code 206 (.iinc 5 1) 3 209 := ⟨by decide +kernel, rfl⟩
theorem d1_209 : D prog_207_method_26_code 209 (.getstatic 254) 3 212 := ⟨by decide +kernel, rfl⟩
theorem d1_212 : D prog_207_method_26_code 212 (.iload 8) 2 214 := ⟨by decide +kernel, rfl⟩
theorem d1_214 : D prog_207_method_26_code 214 (.bipush 12) 2 216 := ⟨by decide +kernel, rfl⟩
theorem d1_216 : D prog_207_method_26_code 216 (.iushr) 1 217 := ⟨by decide +kernel, rfl⟩
theorem d1_217 : D prog_207_method_26_code 217 (.bipush 63) 2 219 := ⟨by decide +kernel, rfl⟩
theorem d1_219 : D prog_207_method_26_code 219 (.iand) 1 220 := ⟨by decide +kernel, rfl⟩
theorem d1_220 : D prog_207_method_26_code 220 (.baload) 1 221 := ⟨by decide +kernel, rfl⟩
theorem d1_221 : D prog_207_method_26_code 221 (.bastore) 1 222 := ⟨by decide +kernel, rfl⟩
theorem d1_222 : D prog_207_method_26_code 222 (.aload_n 3) 1 223 := ⟨by decide +kernel, rfl⟩
theorem d1_223 : D prog_207_method_26_code 223 (.iload 5) 2 225 := ⟨by decide +kernel, rfl⟩
theorem d1_225 : D prog_207_method_26_code 225 (.iinc 5 1) 3 228 := ⟨by decide +kernel, rfl⟩
theorem d1_228 : D prog_207_method_26_code 228 (.iload 7) 2 230 := ⟨by decide +kernel, rfl⟩
theorem d1_230 : D prog_207_method_26_code 230 (.iconst 2) 1 231 := ⟨by decide +kernel, rfl⟩
theorem d1_231 : DB prog_207_method_26_code 231 (.if_icmp .ne) 18 234 249 := ⟨by decide +kernel, rfl, by decide, by decide⟩
theorem d1_234 : D prog_207_method_26_code 234 (.getstatic 254) 3 237 := ⟨by decide +kernel, rfl⟩
theorem d1_237 : D prog_207_method_26_code 237 (.iload 8) 2 239 := ⟨by decide +kernel, rfl⟩
theorem d1_239 : D prog_207_method_26_code 239 (.bipush 6) 2 241 := ⟨by decide +kernel, rfl⟩
theorem d1_241 : D prog_207_method_26_code 241 (.iushr) 1 242 := ⟨by decide +kernel, rfl⟩
theorem d1_242 : D prog_207_method_26_code 242 (.bipush 63) 2 244 := ⟨by decide +kernel, rfl⟩
theorem d1_244 : D prog_207_method_26_code 244 (.iand) 1 245 := ⟨by decide +kernel, rfl⟩
theorem d1_245 : D prog_207_method_26_code 245 (.baload) 1 246 := ⟨by decide +kernel, rfl⟩
theorem d1_246 : DB prog_207_method_26_code 246 (.goto) 5 249 251 := ⟨by decide +kernel, rfl, by decide, by decide⟩
theorem d1_249 : D prog_207_method_26_code 249 (.bipush 61) 2 251 := ⟨by decide +kernel, rfl⟩
theorem d1_251 : D prog_207_method_26_code 251 (.bastore) 1 252 := ⟨by decide +kernel, rfl⟩
theorem d1_252 : D prog_207_method_26_code 252 (.aload_n 3) 1 253 := ⟨by decide +kernel, rfl⟩
theorem d1_253 : D prog_207_method_26_code 253 (.iload 5) 2 255 := ⟨by decide +kernel, rfl⟩
theorem d1_255 : D prog_207_method_26_code 255 (.iinc 5 1) 3 258 := ⟨by decide +kernel, rfl⟩
theorem d1_258 : D prog_207_method_26_code 258 (.bipush 61) 2 260 := ⟨by decide +kernel, rfl⟩
theorem d1_260 : D prog_207_method_26_code 260 (.bastore) 1 261 := ⟨by decide +kernel, rfl⟩
theorem d1_261 : D prog_207_method_26_code 261 (.iload 5) 2 263 := ⟨by decide +kernel, rfl⟩
theorem d1_263 : D prog_207_method_26_code 263 (.iload 4) 2 265 := ⟨by decide +kernel, rfl⟩
theorem d1_265 : D prog_207_method_26_code 265 (.isub) 1 266 := ⟨by decide +kernel, rfl⟩
theorem d1_266 : D prog_207_method_26_code 266 (.ireturn) 1 267 := ⟨by decide +kernel, rfl⟩
theorem pn1 : plainFor (⟨"com/example/quire/quire/core/ValueText", "base64", "([BII[BI)I"⟩ : MethodName) = true := by first | exact plainFor_of_name (by first | (simp [plainName, overriddenIn]; done) | decide +kernel) | exact Jvm.Free.JP.mathPlain rfl (by decide +kernel) | decide +kernel
set_option maxRecDepth 65536 in
set_option maxHeartbeats 40000000 in
theorem ct1_0 {l : Launch} {Z : State} {a0 : Array Value} (hw : ∀ d ∈ tables_1, d.before a0 Z = true) {n0 : Nat} {h0 : Heap} (a1 a4 aT : Addr) (f a : Nat) (vs os tb : List Int32) (B : Ary Z h0 a1 .byte vs) (hl : vs.length = 7) (O : Ary Z h0 a4 .byte os) (ho : os.length = 10) (SB : Sta Z h0 "com/example/quire/quire/core/ValueText" "BASE64" "[B" (.ref aT)) (TB : Ary Z h0 aT .byte tb) (hT : own_T tb) (nBO : a1 ≠ a4) (nTO : aT ≠ a4) (g4 : n0 ≤ a4) (hf : f ≤ 1) (ha : a ≤ 1) : Ct l ⟨"com/example/quire/quire/core/ValueText", "base64", "([BII[BI)I"⟩ prog_207_method_26_code 9 (some .int) [] ({ frames := 0, cells := 0, slots := 0, locals := 0 } : Room) Z n0 #[(.ref a1), (.int f.toInt32), (.int (Nat.toInt32 0)), (.ref a4), (.int a.toInt32)] h0 (fun v h => v = some (.int (own_olen 0).toInt32) ∧ Keep h0 h [a4] ∧ Ary Z h a1 .byte vs ∧ Ary Z h a4 .byte (own_put os a ((List.range (own_olen 0)).map (own_ch vs f 0)))) := by
  refine Ct.of (ls := [.val (.ref a1), .val (.int f.toInt32), .val (.int (Nat.toInt32 0)), .val (.ref a4), .val (.int a.toInt32), .unset, .unset, .unset, .unset]) pn1 (fun m => by first | (simp [entryFrame, mkF, argsToLocals, Value.category]; done) | rfl) ?_
  refine r_iload d1_0 rfl ?_
  refine r_istore d1_2 [.val (.ref a1), .val (.int f.toInt32), .val (.int (Nat.toInt32 0)), .val (.ref a4), .val (.int a.toInt32), .val (.int a.toInt32), .unset, .unset, .unset] rfl ?_
  refine r_iloadN d1_4 rfl ?_
  refine r_iloadN d1_5 rfl ?_
  refine r_iconst (3 : Int32) rfl d1_6 ?_
  refine r_idiv d1_7 (by decide) ?_
  refine r_iconst (3 : Int32) rfl d1_8 ?_
  refine r_imul d1_9 ?_
  refine r_iadd d1_10 ?_
  rw [show ((Nat.toInt32 0) / (3 : Int32)) * (3 : Int32) = Nat.toInt32 0 by decide, n32_add f 0]
  refine r_istore d1_11 [.val (.ref a1), .val (.int f.toInt32), .val (.int (Nat.toInt32 0)), .val (.ref a4), .val (.int a.toInt32), .val (.int a.toInt32), .val (.int (f + 0).toInt32), .unset, .unset] rfl ?_
  refine r_iloadN d1_13 rfl ?_
  change ORun _ _ _ _ _ _ _ _ _ _ _ _ _ _ _ [.int (f + 0).toInt32]
  refine r_istore d1_14 [.val (.ref a1), .val (.int f.toInt32), .val (.int (Nat.toInt32 0)), .val (.ref a4), .val (.int a.toInt32), .val (.int a.toInt32), .val (.int (f + 0).toInt32), .val (.int (f + 0).toInt32), .unset] rfl ?_
  refine r_iload d1_16 rfl ?_
  refine r_iload d1_18 rfl ?_
  refine r_icmp_ge d1_20 (fun hc20 => ?_) (fun hc20 => ?_)
  · refine r_iloadN d1_137 rfl ?_
    refine r_iloadN d1_138 rfl ?_
    refine r_iadd d1_139 ?_
    rw [n32_add f 0]
    refine r_iload d1_140 rfl ?_
    refine r_isub d1_142 ?_
    rw [n32_sub (a := f + 0) (b := f + 0) (by omega), show f + 0 - (f + 0) = 0 by omega]
    refine r_istore d1_143 [.val (.ref a1), .val (.int f.toInt32), .val (.int (Nat.toInt32 0)), .val (.ref a4), .val (.int a.toInt32), .val (.int a.toInt32), .val (.int (f + 0).toInt32), .val (.int (Nat.toInt32 0)), .unset] rfl ?_
    refine r_iload d1_145 rfl ?_
    refine r_if_le d1_147 (fun hc147 => ?_) (fun hc147 => ?_)
    · refine r_iload d1_261 rfl ?_
      refine r_iload d1_263 rfl ?_
      refine r_isub d1_265 ?_
      rw [n32_sub (a := a) (b := a) (by omega), show a - a = 0 by omega]
      refine r_iret d1_266 (by decide) (by decide) ?_
      refine ⟨rfl, Keep.refl _ _, B, ?_⟩
      have O' := O
      exact O'
    · exfalso; exact absurd hc147 (by decide)
  · exfalso; have := (n32_lt (a := (f + 0)) (b := (f + 0)) (by omega) (by omega)).mp hc20; omega
set_option maxRecDepth 65536 in
set_option maxHeartbeats 40000000 in
theorem ct1_1 {l : Launch} {Z : State} {a0 : Array Value} (hw : ∀ d ∈ tables_1, d.before a0 Z = true) {n0 : Nat} {h0 : Heap} (a1 a4 aT : Addr) (f a : Nat) (vs os tb : List Int32) (B : Ary Z h0 a1 .byte vs) (hl : vs.length = 7) (O : Ary Z h0 a4 .byte os) (ho : os.length = 10) (SB : Sta Z h0 "com/example/quire/quire/core/ValueText" "BASE64" "[B" (.ref aT)) (TB : Ary Z h0 aT .byte tb) (hT : own_T tb) (nBO : a1 ≠ a4) (nTO : aT ≠ a4) (g4 : n0 ≤ a4) (hf : f ≤ 1) (ha : a ≤ 1) : Ct l ⟨"com/example/quire/quire/core/ValueText", "base64", "([BII[BI)I"⟩ prog_207_method_26_code 9 (some .int) [] ({ frames := 0, cells := 0, slots := 0, locals := 0 } : Room) Z n0 #[(.ref a1), (.int f.toInt32), (.int (Nat.toInt32 1)), (.ref a4), (.int a.toInt32)] h0 (fun v h => v = some (.int (own_olen 1).toInt32) ∧ Keep h0 h [a4] ∧ Ary Z h a1 .byte vs ∧ Ary Z h a4 .byte (own_put os a ((List.range (own_olen 1)).map (own_ch vs f 1)))) := by
  refine Ct.of (ls := [.val (.ref a1), .val (.int f.toInt32), .val (.int (Nat.toInt32 1)), .val (.ref a4), .val (.int a.toInt32), .unset, .unset, .unset, .unset]) pn1 (fun m => by first | (simp [entryFrame, mkF, argsToLocals, Value.category]; done) | rfl) ?_
  refine r_iload d1_0 rfl ?_
  refine r_istore d1_2 [.val (.ref a1), .val (.int f.toInt32), .val (.int (Nat.toInt32 1)), .val (.ref a4), .val (.int a.toInt32), .val (.int a.toInt32), .unset, .unset, .unset] rfl ?_
  refine r_iloadN d1_4 rfl ?_
  refine r_iloadN d1_5 rfl ?_
  refine r_iconst (3 : Int32) rfl d1_6 ?_
  refine r_idiv d1_7 (by decide) ?_
  refine r_iconst (3 : Int32) rfl d1_8 ?_
  refine r_imul d1_9 ?_
  refine r_iadd d1_10 ?_
  rw [show ((Nat.toInt32 1) / (3 : Int32)) * (3 : Int32) = Nat.toInt32 0 by decide, n32_add f 0]
  refine r_istore d1_11 [.val (.ref a1), .val (.int f.toInt32), .val (.int (Nat.toInt32 1)), .val (.ref a4), .val (.int a.toInt32), .val (.int a.toInt32), .val (.int (f + 0).toInt32), .unset, .unset] rfl ?_
  refine r_iloadN d1_13 rfl ?_
  change ORun _ _ _ _ _ _ _ _ _ _ _ _ _ _ _ [.int (f + 0).toInt32]
  refine r_istore d1_14 [.val (.ref a1), .val (.int f.toInt32), .val (.int (Nat.toInt32 1)), .val (.ref a4), .val (.int a.toInt32), .val (.int a.toInt32), .val (.int (f + 0).toInt32), .val (.int (f + 0).toInt32), .unset] rfl ?_
  refine r_iload d1_16 rfl ?_
  refine r_iload d1_18 rfl ?_
  refine r_icmp_ge d1_20 (fun hc20 => ?_) (fun hc20 => ?_)
  · refine r_iloadN d1_137 rfl ?_
    refine r_iloadN d1_138 rfl ?_
    refine r_iadd d1_139 ?_
    rw [n32_add f 1]
    refine r_iload d1_140 rfl ?_
    refine r_isub d1_142 ?_
    rw [n32_sub (a := f + 1) (b := f + 0) (by omega), show f + 1 - (f + 0) = 1 by omega]
    refine r_istore d1_143 [.val (.ref a1), .val (.int f.toInt32), .val (.int (Nat.toInt32 1)), .val (.ref a4), .val (.int a.toInt32), .val (.int a.toInt32), .val (.int (f + 0).toInt32), .val (.int (Nat.toInt32 1)), .unset] rfl ?_
    refine r_iload d1_145 rfl ?_
    refine r_if_le d1_147 (fun hc147 => ?_) (fun hc147 => ?_)
    · exfalso; exact hc147 (by decide)
    · refine r_aloadN d1_150 rfl rfl ?_
      refine r_iload d1_151 rfl ?_
      refine r_ldB (own_at vs (f + 0)) (B) (n32_nn (by omega)) (by rw [n32_clamp (by omega)]; exact own_get (by omega)) d1_153 ?_
      refine r_sipush (255 : Int32) rfl d1_154 ?_
      refine r_iand d1_157 ?_
      rw [own_bt_eq vs (f + 0)]
      obtain ⟨y0, e_y0⟩ : ∃ z, z = own_bt vs (f + 0) := ⟨_, rfl⟩
      have l_y0 : y0 < 256 := by rw [e_y0]; exact own_bt_lt _ _
      rw [← e_y0]
      refine r_bipush (16 : Int32) rfl d1_158 ?_
      refine r_ishl d1_160 ?_
      refine r_iload d1_161 rfl ?_
      refine r_iconst (2 : Int32) rfl d1_163 ?_
      refine r_icmp_ne d1_164 (fun hc164 => ?_) (fun hc164 => ?_)
      · refine r_iconst (0 : Int32) rfl d1_183 ?_
        refine r_ior d1_184 ?_
        rw [own_grp1 y0 (by omega)]
        refine r_istore d1_185 [.val (.ref a1), .val (.int f.toInt32), .val (.int (Nat.toInt32 1)), .val (.ref a4), .val (.int a.toInt32), .val (.int a.toInt32), .val (.int (f + 0).toInt32), .val (.int (Nat.toInt32 1)), .val (.int (y0 * 65536 + 0 * 256 + 0).toInt32)] rfl ?_
        refine r_aloadN d1_187 rfl rfl ?_
        refine r_iload d1_188 rfl ?_
        refine r_iinc d1_190 rfl (n32_add a 1) [.val (.ref a1), .val (.int f.toInt32), .val (.int (Nat.toInt32 1)), .val (.ref a4), .val (.int a.toInt32), .val (.int (a + 1).toInt32), .val (.int (f + 0).toInt32), .val (.int (Nat.toInt32 1)), .val (.int (y0 * 65536 + 0 * 256 + 0).toInt32)] rfl ?_
        refine r_getS (hw _ (List.mem_of_getElem? (i := 5) rfl)) (v := (.ref aT)) SB d1_193 ?_
        refine r_iload d1_196 rfl ?_
        refine r_bipush (18 : Int32) rfl d1_198 ?_
        refine r_iushr d1_200 ?_
        rw [own_s18 y0 0 0 (by omega) (by omega) (by omega)]
        refine r_ldB (own_enc (y0 / 4)) (TB) (n32_nn (by omega)) (by rw [n32_clamp (by omega)]; exact hT.2 _ (by omega)) d1_201 ?_
        refine r_stB a (os.set a (own_enc (y0 / 4))) O (n32_nn (by omega)) (n32_clamp (by omega)) (by first | omega | (simp only [List.length_set]; omega)) (by rw [own_encb _ (by omega)]) g4 d1_202 ?_
        intro hs0 W O0
        have B0 := B.other W nBO
        have TB0 := TB.other W nTO
        have SB0 := Sta.wr W SB
        have K0 := Keep.wr (Keep.refl h0 [a4]) W (Or.inl (List.mem_of_getElem? (i := 0) rfl))
        refine r_aloadN d1_203 rfl rfl ?_
        refine r_iload d1_204 rfl ?_
        refine r_iinc d1_206 rfl (n32_add (a + 1) 1) [.val (.ref a1), .val (.int f.toInt32), .val (.int (Nat.toInt32 1)), .val (.ref a4), .val (.int a.toInt32), .val (.int ((a + 1) + 1).toInt32), .val (.int (f + 0).toInt32), .val (.int (Nat.toInt32 1)), .val (.int (y0 * 65536 + 0 * 256 + 0).toInt32)] rfl ?_
        refine r_getS (hw _ (List.mem_of_getElem? (i := 5) rfl)) (v := (.ref aT)) SB0 d1_209 ?_
        refine r_iload d1_212 rfl ?_
        refine r_bipush (12 : Int32) rfl d1_214 ?_
        refine r_iushr d1_216 ?_
        refine r_bipush (63 : Int32) rfl d1_217 ?_
        refine r_iand d1_219 ?_
        rw [own_s12 y0 0 0 (by omega) (by omega) (by omega)]
        refine r_ldB (own_enc (y0 % 4 * 16 + 0 / 16)) (TB0) (n32_nn (by omega)) (by rw [n32_clamp (by omega)]; exact hT.2 _ (by omega)) d1_220 ?_
        refine r_stB (a + 1) ((os.set a (own_enc (y0 / 4))).set (a + 1) (own_enc (y0 % 4 * 16 + 0 / 16))) O0 (n32_nn (by omega)) (n32_clamp (by omega)) (by first | omega | (simp only [List.length_set]; omega)) (by rw [own_encb _ (by omega)]) g4 d1_221 ?_
        intro hs1 W O1
        have B1 := B0.other W nBO
        have TB1 := TB0.other W nTO
        have SB1 := Sta.wr W SB0
        have K1 := Keep.wr K0 W (Or.inl (List.mem_of_getElem? (i := 0) rfl))
        refine r_aloadN d1_222 rfl rfl ?_
        refine r_iload d1_223 rfl ?_
        refine r_iinc d1_225 rfl (n32_add ((a + 1) + 1) 1) [.val (.ref a1), .val (.int f.toInt32), .val (.int (Nat.toInt32 1)), .val (.ref a4), .val (.int a.toInt32), .val (.int (((a + 1) + 1) + 1).toInt32), .val (.int (f + 0).toInt32), .val (.int (Nat.toInt32 1)), .val (.int (y0 * 65536 + 0 * 256 + 0).toInt32)] rfl ?_
        refine r_iload d1_228 rfl ?_
        refine r_iconst (2 : Int32) rfl d1_230 ?_
        refine r_icmp_ne d1_231 (fun hc231 => ?_) (fun hc231 => ?_)
        · refine r_bipush (61 : Int32) rfl d1_249 ?_
          refine r_stB ((a + 1) + 1) (((os.set a (own_enc (y0 / 4))).set (a + 1) (own_enc (y0 % 4 * 16 + 0 / 16))).set ((a + 1) + 1) (61 : Int32)) O1 (n32_nn (by omega)) (n32_clamp (by omega)) (by first | omega | (simp only [List.length_set]; omega)) (by rw [show nar .byte (61 : Int32) = 61 from by decide]) g4 d1_251 ?_
          intro hs2 W O2
          have B2 := B1.other W nBO
          have TB2 := TB1.other W nTO
          have SB2 := Sta.wr W SB1
          have K2 := Keep.wr K1 W (Or.inl (List.mem_of_getElem? (i := 0) rfl))
          refine r_aloadN d1_252 rfl rfl ?_
          refine r_iload d1_253 rfl ?_
          refine r_iinc d1_255 rfl (n32_add (((a + 1) + 1) + 1) 1) [.val (.ref a1), .val (.int f.toInt32), .val (.int (Nat.toInt32 1)), .val (.ref a4), .val (.int a.toInt32), .val (.int ((((a + 1) + 1) + 1) + 1).toInt32), .val (.int (f + 0).toInt32), .val (.int (Nat.toInt32 1)), .val (.int (y0 * 65536 + 0 * 256 + 0).toInt32)] rfl ?_
          refine r_bipush (61 : Int32) rfl d1_258 ?_
          refine r_stB (((a + 1) + 1) + 1) ((((os.set a (own_enc (y0 / 4))).set (a + 1) (own_enc (y0 % 4 * 16 + 0 / 16))).set ((a + 1) + 1) (61 : Int32)).set (((a + 1) + 1) + 1) (61 : Int32)) O2 (n32_nn (by omega)) (n32_clamp (by omega)) (by first | omega | (simp only [List.length_set]; omega)) (by rw [show nar .byte (61 : Int32) = 61 from by decide]) g4 d1_260 ?_
          intro hs3 W O3
          have B3 := B2.other W nBO
          have TB3 := TB2.other W nTO
          have SB3 := Sta.wr W SB2
          have K3 := Keep.wr K2 W (Or.inl (List.mem_of_getElem? (i := 0) rfl))
          refine r_iload d1_261 rfl ?_
          refine r_iload d1_263 rfl ?_
          refine r_isub d1_265 ?_
          rw [n32_sub (a := ((((a + 1) + 1) + 1) + 1)) (b := a) (by omega), show ((((a + 1) + 1) + 1) + 1) - a = 4 by omega]
          refine r_iret d1_266 (by decide) (by decide) ?_
          refine ⟨rfl, K3, B3, ?_⟩
          have O' := O3
          subst e_y0
          exact O'
        · exfalso; exact absurd hc231 (by decide)
      · exfalso; exact absurd hc164 (by decide)
  · exfalso; have := (n32_lt (a := (f + 0)) (b := (f + 0)) (by omega) (by omega)).mp hc20; omega
set_option maxRecDepth 65536 in
set_option maxHeartbeats 40000000 in
theorem ct1_2 {l : Launch} {Z : State} {a0 : Array Value} (hw : ∀ d ∈ tables_1, d.before a0 Z = true) {n0 : Nat} {h0 : Heap} (a1 a4 aT : Addr) (f a : Nat) (vs os tb : List Int32) (B : Ary Z h0 a1 .byte vs) (hl : vs.length = 7) (O : Ary Z h0 a4 .byte os) (ho : os.length = 10) (SB : Sta Z h0 "com/example/quire/quire/core/ValueText" "BASE64" "[B" (.ref aT)) (TB : Ary Z h0 aT .byte tb) (hT : own_T tb) (nBO : a1 ≠ a4) (nTO : aT ≠ a4) (g4 : n0 ≤ a4) (hf : f ≤ 1) (ha : a ≤ 1) : Ct l ⟨"com/example/quire/quire/core/ValueText", "base64", "([BII[BI)I"⟩ prog_207_method_26_code 9 (some .int) [] ({ frames := 0, cells := 0, slots := 0, locals := 0 } : Room) Z n0 #[(.ref a1), (.int f.toInt32), (.int (Nat.toInt32 2)), (.ref a4), (.int a.toInt32)] h0 (fun v h => v = some (.int (own_olen 2).toInt32) ∧ Keep h0 h [a4] ∧ Ary Z h a1 .byte vs ∧ Ary Z h a4 .byte (own_put os a ((List.range (own_olen 2)).map (own_ch vs f 2)))) := by
  refine Ct.of (ls := [.val (.ref a1), .val (.int f.toInt32), .val (.int (Nat.toInt32 2)), .val (.ref a4), .val (.int a.toInt32), .unset, .unset, .unset, .unset]) pn1 (fun m => by first | (simp [entryFrame, mkF, argsToLocals, Value.category]; done) | rfl) ?_
  refine r_iload d1_0 rfl ?_
  refine r_istore d1_2 [.val (.ref a1), .val (.int f.toInt32), .val (.int (Nat.toInt32 2)), .val (.ref a4), .val (.int a.toInt32), .val (.int a.toInt32), .unset, .unset, .unset] rfl ?_
  refine r_iloadN d1_4 rfl ?_
  refine r_iloadN d1_5 rfl ?_
  refine r_iconst (3 : Int32) rfl d1_6 ?_
  refine r_idiv d1_7 (by decide) ?_
  refine r_iconst (3 : Int32) rfl d1_8 ?_
  refine r_imul d1_9 ?_
  refine r_iadd d1_10 ?_
  rw [show ((Nat.toInt32 2) / (3 : Int32)) * (3 : Int32) = Nat.toInt32 0 by decide, n32_add f 0]
  refine r_istore d1_11 [.val (.ref a1), .val (.int f.toInt32), .val (.int (Nat.toInt32 2)), .val (.ref a4), .val (.int a.toInt32), .val (.int a.toInt32), .val (.int (f + 0).toInt32), .unset, .unset] rfl ?_
  refine r_iloadN d1_13 rfl ?_
  change ORun _ _ _ _ _ _ _ _ _ _ _ _ _ _ _ [.int (f + 0).toInt32]
  refine r_istore d1_14 [.val (.ref a1), .val (.int f.toInt32), .val (.int (Nat.toInt32 2)), .val (.ref a4), .val (.int a.toInt32), .val (.int a.toInt32), .val (.int (f + 0).toInt32), .val (.int (f + 0).toInt32), .unset] rfl ?_
  refine r_iload d1_16 rfl ?_
  refine r_iload d1_18 rfl ?_
  refine r_icmp_ge d1_20 (fun hc20 => ?_) (fun hc20 => ?_)
  · refine r_iloadN d1_137 rfl ?_
    refine r_iloadN d1_138 rfl ?_
    refine r_iadd d1_139 ?_
    rw [n32_add f 2]
    refine r_iload d1_140 rfl ?_
    refine r_isub d1_142 ?_
    rw [n32_sub (a := f + 2) (b := f + 0) (by omega), show f + 2 - (f + 0) = 2 by omega]
    refine r_istore d1_143 [.val (.ref a1), .val (.int f.toInt32), .val (.int (Nat.toInt32 2)), .val (.ref a4), .val (.int a.toInt32), .val (.int a.toInt32), .val (.int (f + 0).toInt32), .val (.int (Nat.toInt32 2)), .unset] rfl ?_
    refine r_iload d1_145 rfl ?_
    refine r_if_le d1_147 (fun hc147 => ?_) (fun hc147 => ?_)
    · exfalso; exact hc147 (by decide)
    · refine r_aloadN d1_150 rfl rfl ?_
      refine r_iload d1_151 rfl ?_
      refine r_ldB (own_at vs (f + 0)) (B) (n32_nn (by omega)) (by rw [n32_clamp (by omega)]; exact own_get (by omega)) d1_153 ?_
      refine r_sipush (255 : Int32) rfl d1_154 ?_
      refine r_iand d1_157 ?_
      rw [own_bt_eq vs (f + 0)]
      obtain ⟨y0, e_y0⟩ : ∃ z, z = own_bt vs (f + 0) := ⟨_, rfl⟩
      have l_y0 : y0 < 256 := by rw [e_y0]; exact own_bt_lt _ _
      rw [← e_y0]
      refine r_bipush (16 : Int32) rfl d1_158 ?_
      refine r_ishl d1_160 ?_
      refine r_iload d1_161 rfl ?_
      refine r_iconst (2 : Int32) rfl d1_163 ?_
      refine r_icmp_ne d1_164 (fun hc164 => ?_) (fun hc164 => ?_)
      · exfalso; exact hc164 (by decide)
      · refine r_aloadN d1_167 rfl rfl ?_
        refine r_iload d1_168 rfl ?_
        refine r_iconst (1 : Int32) rfl d1_170 ?_
        refine r_iadd d1_171 ?_
        rw [show (f + 0).toInt32 + (1 : Int32) = (f + 1).toInt32 from n32_add (f + 0) 1]
        refine r_ldB (own_at vs (f + 1)) (B) (n32_nn (by omega)) (by rw [n32_clamp (by omega)]; exact own_get (by omega)) d1_172 ?_
        refine r_sipush (255 : Int32) rfl d1_173 ?_
        refine r_iand d1_176 ?_
        rw [own_bt_eq vs (f + 1)]
        obtain ⟨y1, e_y1⟩ : ∃ z, z = own_bt vs (f + 1) := ⟨_, rfl⟩
        have l_y1 : y1 < 256 := by rw [e_y1]; exact own_bt_lt _ _
        rw [← e_y1]
        refine r_bipush (8 : Int32) rfl d1_177 ?_
        refine r_ishl d1_179 ?_
        refine r_goto d1_180 ?_
        refine r_ior d1_184 ?_
        rw [own_grp2 y0 y1 (by omega) (by omega)]
        refine r_istore d1_185 [.val (.ref a1), .val (.int f.toInt32), .val (.int (Nat.toInt32 2)), .val (.ref a4), .val (.int a.toInt32), .val (.int a.toInt32), .val (.int (f + 0).toInt32), .val (.int (Nat.toInt32 2)), .val (.int (y0 * 65536 + y1 * 256 + 0).toInt32)] rfl ?_
        refine r_aloadN d1_187 rfl rfl ?_
        refine r_iload d1_188 rfl ?_
        refine r_iinc d1_190 rfl (n32_add a 1) [.val (.ref a1), .val (.int f.toInt32), .val (.int (Nat.toInt32 2)), .val (.ref a4), .val (.int a.toInt32), .val (.int (a + 1).toInt32), .val (.int (f + 0).toInt32), .val (.int (Nat.toInt32 2)), .val (.int (y0 * 65536 + y1 * 256 + 0).toInt32)] rfl ?_
        refine r_getS (hw _ (List.mem_of_getElem? (i := 5) rfl)) (v := (.ref aT)) SB d1_193 ?_
        refine r_iload d1_196 rfl ?_
        refine r_bipush (18 : Int32) rfl d1_198 ?_
        refine r_iushr d1_200 ?_
        rw [own_s18 y0 y1 0 (by omega) (by omega) (by omega)]
        refine r_ldB (own_enc (y0 / 4)) (TB) (n32_nn (by omega)) (by rw [n32_clamp (by omega)]; exact hT.2 _ (by omega)) d1_201 ?_
        refine r_stB a (os.set a (own_enc (y0 / 4))) O (n32_nn (by omega)) (n32_clamp (by omega)) (by first | omega | (simp only [List.length_set]; omega)) (by rw [own_encb _ (by omega)]) g4 d1_202 ?_
        intro hs0 W O0
        have B0 := B.other W nBO
        have TB0 := TB.other W nTO
        have SB0 := Sta.wr W SB
        have K0 := Keep.wr (Keep.refl h0 [a4]) W (Or.inl (List.mem_of_getElem? (i := 0) rfl))
        refine r_aloadN d1_203 rfl rfl ?_
        refine r_iload d1_204 rfl ?_
        refine r_iinc d1_206 rfl (n32_add (a + 1) 1) [.val (.ref a1), .val (.int f.toInt32), .val (.int (Nat.toInt32 2)), .val (.ref a4), .val (.int a.toInt32), .val (.int ((a + 1) + 1).toInt32), .val (.int (f + 0).toInt32), .val (.int (Nat.toInt32 2)), .val (.int (y0 * 65536 + y1 * 256 + 0).toInt32)] rfl ?_
        refine r_getS (hw _ (List.mem_of_getElem? (i := 5) rfl)) (v := (.ref aT)) SB0 d1_209 ?_
        refine r_iload d1_212 rfl ?_
        refine r_bipush (12 : Int32) rfl d1_214 ?_
        refine r_iushr d1_216 ?_
        refine r_bipush (63 : Int32) rfl d1_217 ?_
        refine r_iand d1_219 ?_
        rw [own_s12 y0 y1 0 (by omega) (by omega) (by omega)]
        refine r_ldB (own_enc (y0 % 4 * 16 + y1 / 16)) (TB0) (n32_nn (by omega)) (by rw [n32_clamp (by omega)]; exact hT.2 _ (by omega)) d1_220 ?_
        refine r_stB (a + 1) ((os.set a (own_enc (y0 / 4))).set (a + 1) (own_enc (y0 % 4 * 16 + y1 / 16))) O0 (n32_nn (by omega)) (n32_clamp (by omega)) (by first | omega | (simp only [List.length_set]; omega)) (by rw [own_encb _ (by omega)]) g4 d1_221 ?_
        intro hs1 W O1
        have B1 := B0.other W nBO
        have TB1 := TB0.other W nTO
        have SB1 := Sta.wr W SB0
        have K1 := Keep.wr K0 W (Or.inl (List.mem_of_getElem? (i := 0) rfl))
        refine r_aloadN d1_222 rfl rfl ?_
        refine r_iload d1_223 rfl ?_
        refine r_iinc d1_225 rfl (n32_add ((a + 1) + 1) 1) [.val (.ref a1), .val (.int f.toInt32), .val (.int (Nat.toInt32 2)), .val (.ref a4), .val (.int a.toInt32), .val (.int (((a + 1) + 1) + 1).toInt32), .val (.int (f + 0).toInt32), .val (.int (Nat.toInt32 2)), .val (.int (y0 * 65536 + y1 * 256 + 0).toInt32)] rfl ?_
        refine r_iload d1_228 rfl ?_
        refine r_iconst (2 : Int32) rfl d1_230 ?_
        refine r_icmp_ne d1_231 (fun hc231 => ?_) (fun hc231 => ?_)
        · exfalso; exact hc231 (by decide)
        · refine r_getS (hw _ (List.mem_of_getElem? (i := 5) rfl)) (v := (.ref aT)) SB1 d1_234 ?_
          refine r_iload d1_237 rfl ?_
          refine r_bipush (6 : Int32) rfl d1_239 ?_
          refine r_iushr d1_241 ?_
          refine r_bipush (63 : Int32) rfl d1_242 ?_
          refine r_iand d1_244 ?_
          rw [own_s6 y0 y1 0 (by omega) (by omega) (by omega)]
          refine r_ldB (own_enc (y1 % 16 * 4 + 0 / 64)) (TB1) (n32_nn (by omega)) (by rw [n32_clamp (by omega)]; exact hT.2 _ (by omega)) d1_245 ?_
          refine r_goto d1_246 ?_
          refine r_stB ((a + 1) + 1) (((os.set a (own_enc (y0 / 4))).set (a + 1) (own_enc (y0 % 4 * 16 + y1 / 16))).set ((a + 1) + 1) (own_enc (y1 % 16 * 4 + 0 / 64))) O1 (n32_nn (by omega)) (n32_clamp (by omega)) (by first | omega | (simp only [List.length_set]; omega)) (by rw [own_encb _ (by omega)]) g4 d1_251 ?_
          intro hs2 W O2
          have B2 := B1.other W nBO
          have TB2 := TB1.other W nTO
          have SB2 := Sta.wr W SB1
          have K2 := Keep.wr K1 W (Or.inl (List.mem_of_getElem? (i := 0) rfl))
          refine r_aloadN d1_252 rfl rfl ?_
          refine r_iload d1_253 rfl ?_
          refine r_iinc d1_255 rfl (n32_add (((a + 1) + 1) + 1) 1) [.val (.ref a1), .val (.int f.toInt32), .val (.int (Nat.toInt32 2)), .val (.ref a4), .val (.int a.toInt32), .val (.int ((((a + 1) + 1) + 1) + 1).toInt32), .val (.int (f + 0).toInt32), .val (.int (Nat.toInt32 2)), .val (.int (y0 * 65536 + y1 * 256 + 0).toInt32)] rfl ?_
          refine r_bipush (61 : Int32) rfl d1_258 ?_
          refine r_stB (((a + 1) + 1) + 1) ((((os.set a (own_enc (y0 / 4))).set (a + 1) (own_enc (y0 % 4 * 16 + y1 / 16))).set ((a + 1) + 1) (own_enc (y1 % 16 * 4 + 0 / 64))).set (((a + 1) + 1) + 1) (61 : Int32)) O2 (n32_nn (by omega)) (n32_clamp (by omega)) (by first | omega | (simp only [List.length_set]; omega)) (by rw [show nar .byte (61 : Int32) = 61 from by decide]) g4 d1_260 ?_
          intro hs3 W O3
          have B3 := B2.other W nBO
          have TB3 := TB2.other W nTO
          have SB3 := Sta.wr W SB2
          have K3 := Keep.wr K2 W (Or.inl (List.mem_of_getElem? (i := 0) rfl))
          refine r_iload d1_261 rfl ?_
          refine r_iload d1_263 rfl ?_
          refine r_isub d1_265 ?_
          rw [n32_sub (a := ((((a + 1) + 1) + 1) + 1)) (b := a) (by omega), show ((((a + 1) + 1) + 1) + 1) - a = 4 by omega]
          refine r_iret d1_266 (by decide) (by decide) ?_
          refine ⟨rfl, K3, B3, ?_⟩
          have O' := O3
          subst e_y0 e_y1
          exact O'
  · exfalso; have := (n32_lt (a := (f + 0)) (b := (f + 0)) (by omega) (by omega)).mp hc20; omega
set_option maxRecDepth 65536 in
set_option maxHeartbeats 40000000 in
theorem ct1_3 {l : Launch} {Z : State} {a0 : Array Value} (hw : ∀ d ∈ tables_1, d.before a0 Z = true) {n0 : Nat} {h0 : Heap} (a1 a4 aT : Addr) (f a : Nat) (vs os tb : List Int32) (B : Ary Z h0 a1 .byte vs) (hl : vs.length = 7) (O : Ary Z h0 a4 .byte os) (ho : os.length = 10) (SB : Sta Z h0 "com/example/quire/quire/core/ValueText" "BASE64" "[B" (.ref aT)) (TB : Ary Z h0 aT .byte tb) (hT : own_T tb) (nBO : a1 ≠ a4) (nTO : aT ≠ a4) (g4 : n0 ≤ a4) (hf : f ≤ 1) (ha : a ≤ 1) : Ct l ⟨"com/example/quire/quire/core/ValueText", "base64", "([BII[BI)I"⟩ prog_207_method_26_code 9 (some .int) [] ({ frames := 0, cells := 0, slots := 0, locals := 0 } : Room) Z n0 #[(.ref a1), (.int f.toInt32), (.int (Nat.toInt32 3)), (.ref a4), (.int a.toInt32)] h0 (fun v h => v = some (.int (own_olen 3).toInt32) ∧ Keep h0 h [a4] ∧ Ary Z h a1 .byte vs ∧ Ary Z h a4 .byte (own_put os a ((List.range (own_olen 3)).map (own_ch vs f 3)))) := by
  refine Ct.of (ls := [.val (.ref a1), .val (.int f.toInt32), .val (.int (Nat.toInt32 3)), .val (.ref a4), .val (.int a.toInt32), .unset, .unset, .unset, .unset]) pn1 (fun m => by first | (simp [entryFrame, mkF, argsToLocals, Value.category]; done) | rfl) ?_
  refine r_iload d1_0 rfl ?_
  refine r_istore d1_2 [.val (.ref a1), .val (.int f.toInt32), .val (.int (Nat.toInt32 3)), .val (.ref a4), .val (.int a.toInt32), .val (.int a.toInt32), .unset, .unset, .unset] rfl ?_
  refine r_iloadN d1_4 rfl ?_
  refine r_iloadN d1_5 rfl ?_
  refine r_iconst (3 : Int32) rfl d1_6 ?_
  refine r_idiv d1_7 (by decide) ?_
  refine r_iconst (3 : Int32) rfl d1_8 ?_
  refine r_imul d1_9 ?_
  refine r_iadd d1_10 ?_
  rw [show ((Nat.toInt32 3) / (3 : Int32)) * (3 : Int32) = Nat.toInt32 3 by decide, n32_add f 3]
  refine r_istore d1_11 [.val (.ref a1), .val (.int f.toInt32), .val (.int (Nat.toInt32 3)), .val (.ref a4), .val (.int a.toInt32), .val (.int a.toInt32), .val (.int (f + 3).toInt32), .unset, .unset] rfl ?_
  refine r_iloadN d1_13 rfl ?_
  change ORun _ _ _ _ _ _ _ _ _ _ _ _ _ _ _ [.int (f + 0).toInt32]
  refine r_istore d1_14 [.val (.ref a1), .val (.int f.toInt32), .val (.int (Nat.toInt32 3)), .val (.ref a4), .val (.int a.toInt32), .val (.int a.toInt32), .val (.int (f + 3).toInt32), .val (.int (f + 0).toInt32), .unset] rfl ?_
  refine r_iload d1_16 rfl ?_
  refine r_iload d1_18 rfl ?_
  refine r_icmp_ge d1_20 (fun hc20 => ?_) (fun hc20 => ?_)
  · exfalso; exact hc20 ((n32_lt (by omega) (by omega)).mpr (by omega))
  · refine r_aloadN d1_23 rfl rfl ?_
    refine r_iload d1_24 rfl ?_
    refine r_ldB (own_at vs (f + 0)) (B) (n32_nn (by omega)) (by rw [n32_clamp (by omega)]; exact own_get (by omega)) d1_26 ?_
    refine r_sipush (255 : Int32) rfl d1_27 ?_
    refine r_iand d1_30 ?_
    rw [own_bt_eq vs (f + 0)]
    obtain ⟨y0, e_y0⟩ : ∃ z, z = own_bt vs (f + 0) := ⟨_, rfl⟩
    have l_y0 : y0 < 256 := by rw [e_y0]; exact own_bt_lt _ _
    rw [← e_y0]
    refine r_bipush (16 : Int32) rfl d1_31 ?_
    refine r_ishl d1_33 ?_
    refine r_aloadN d1_34 rfl rfl ?_
    refine r_iload d1_35 rfl ?_
    refine r_iconst (1 : Int32) rfl d1_37 ?_
    refine r_iadd d1_38 ?_
    rw [show (f + 0).toInt32 + (1 : Int32) = (f + 1).toInt32 from n32_add (f + 0) 1]
    refine r_ldB (own_at vs (f + 1)) (B) (n32_nn (by omega)) (by rw [n32_clamp (by omega)]; exact own_get (by omega)) d1_39 ?_
    refine r_sipush (255 : Int32) rfl d1_40 ?_
    refine r_iand d1_43 ?_
    rw [own_bt_eq vs (f + 1)]
    obtain ⟨y1, e_y1⟩ : ∃ z, z = own_bt vs (f + 1) := ⟨_, rfl⟩
    have l_y1 : y1 < 256 := by rw [e_y1]; exact own_bt_lt _ _
    rw [← e_y1]
    refine r_bipush (8 : Int32) rfl d1_44 ?_
    refine r_ishl d1_46 ?_
    refine r_ior d1_47 ?_
    refine r_aloadN d1_48 rfl rfl ?_
    refine r_iload d1_49 rfl ?_
    refine r_iconst (2 : Int32) rfl d1_51 ?_
    refine r_iadd d1_52 ?_
    rw [show (f + 0).toInt32 + (2 : Int32) = (f + 2).toInt32 from n32_add (f + 0) 2]
    refine r_ldB (own_at vs (f + 2)) (B) (n32_nn (by omega)) (by rw [n32_clamp (by omega)]; exact own_get (by omega)) d1_53 ?_
    refine r_sipush (255 : Int32) rfl d1_54 ?_
    refine r_iand d1_57 ?_
    rw [own_bt_eq vs (f + 2)]
    obtain ⟨y2, e_y2⟩ : ∃ z, z = own_bt vs (f + 2) := ⟨_, rfl⟩
    have l_y2 : y2 < 256 := by rw [e_y2]; exact own_bt_lt _ _
    rw [← e_y2]
    refine r_ior d1_58 ?_
    rw [own_grp y0 y1 y2 (by omega) (by omega) (by omega)]
    refine r_istore d1_59 [.val (.ref a1), .val (.int f.toInt32), .val (.int (Nat.toInt32 3)), .val (.ref a4), .val (.int a.toInt32), .val (.int a.toInt32), .val (.int (f + 3).toInt32), .val (.int (f + 0).toInt32), .val (.int (y0 * 65536 + y1 * 256 + y2).toInt32)] rfl ?_
    refine r_aloadN d1_61 rfl rfl ?_
    refine r_iload d1_62 rfl ?_
    refine r_iinc d1_64 rfl (n32_add a 1) [.val (.ref a1), .val (.int f.toInt32), .val (.int (Nat.toInt32 3)), .val (.ref a4), .val (.int a.toInt32), .val (.int (a + 1).toInt32), .val (.int (f + 3).toInt32), .val (.int (f + 0).toInt32), .val (.int (y0 * 65536 + y1 * 256 + y2).toInt32)] rfl ?_
    refine r_getS (hw _ (List.mem_of_getElem? (i := 5) rfl)) (v := (.ref aT)) SB d1_67 ?_
    refine r_iload d1_70 rfl ?_
    refine r_bipush (18 : Int32) rfl d1_72 ?_
    refine r_iushr d1_74 ?_
    rw [own_s18 y0 y1 y2 (by omega) (by omega) (by omega)]
    refine r_ldB (own_enc (y0 / 4)) (TB) (n32_nn (by omega)) (by rw [n32_clamp (by omega)]; exact hT.2 _ (by omega)) d1_75 ?_
    refine r_stB a (os.set a (own_enc (y0 / 4))) O (n32_nn (by omega)) (n32_clamp (by omega)) (by first | omega | (simp only [List.length_set]; omega)) (by rw [own_encb _ (by omega)]) g4 d1_76 ?_
    intro hs0 W O0
    have B0 := B.other W nBO
    have TB0 := TB.other W nTO
    have SB0 := Sta.wr W SB
    have K0 := Keep.wr (Keep.refl h0 [a4]) W (Or.inl (List.mem_of_getElem? (i := 0) rfl))
    refine r_aloadN d1_77 rfl rfl ?_
    refine r_iload d1_78 rfl ?_
    refine r_iinc d1_80 rfl (n32_add (a + 1) 1) [.val (.ref a1), .val (.int f.toInt32), .val (.int (Nat.toInt32 3)), .val (.ref a4), .val (.int a.toInt32), .val (.int ((a + 1) + 1).toInt32), .val (.int (f + 3).toInt32), .val (.int (f + 0).toInt32), .val (.int (y0 * 65536 + y1 * 256 + y2).toInt32)] rfl ?_
    refine r_getS (hw _ (List.mem_of_getElem? (i := 5) rfl)) (v := (.ref aT)) SB0 d1_83 ?_
    refine r_iload d1_86 rfl ?_
    refine r_bipush (12 : Int32) rfl d1_88 ?_
    refine r_iushr d1_90 ?_
    refine r_bipush (63 : Int32) rfl d1_91 ?_
    refine r_iand d1_93 ?_
    rw [own_s12 y0 y1 y2 (by omega) (by omega) (by omega)]
    refine r_ldB (own_enc (y0 % 4 * 16 + y1 / 16)) (TB0) (n32_nn (by omega)) (by rw [n32_clamp (by omega)]; exact hT.2 _ (by omega)) d1_94 ?_
    refine r_stB (a + 1) ((os.set a (own_enc (y0 / 4))).set (a + 1) (own_enc (y0 % 4 * 16 + y1 / 16))) O0 (n32_nn (by omega)) (n32_clamp (by omega)) (by first | omega | (simp only [List.length_set]; omega)) (by rw [own_encb _ (by omega)]) g4 d1_95 ?_
    intro hs1 W O1
    have B1 := B0.other W nBO
    have TB1 := TB0.other W nTO
    have SB1 := Sta.wr W SB0
    have K1 := Keep.wr K0 W (Or.inl (List.mem_of_getElem? (i := 0) rfl))
    refine r_aloadN d1_96 rfl rfl ?_
    refine r_iload d1_97 rfl ?_
    refine r_iinc d1_99 rfl (n32_add ((a + 1) + 1) 1) [.val (.ref a1), .val (.int f.toInt32), .val (.int (Nat.toInt32 3)), .val (.ref a4), .val (.int a.toInt32), .val (.int (((a + 1) + 1) + 1).toInt32), .val (.int (f + 3).toInt32), .val (.int (f + 0).toInt32), .val (.int (y0 * 65536 + y1 * 256 + y2).toInt32)] rfl ?_
    refine r_getS (hw _ (List.mem_of_getElem? (i := 5) rfl)) (v := (.ref aT)) SB1 d1_102 ?_
    refine r_iload d1_105 rfl ?_
    refine r_bipush (6 : Int32) rfl d1_107 ?_
    refine r_iushr d1_109 ?_
    refine r_bipush (63 : Int32) rfl d1_110 ?_
    refine r_iand d1_112 ?_
    rw [own_s6 y0 y1 y2 (by omega) (by omega) (by omega)]
    refine r_ldB (own_enc (y1 % 16 * 4 + y2 / 64)) (TB1) (n32_nn (by omega)) (by rw [n32_clamp (by omega)]; exact hT.2 _ (by omega)) d1_113 ?_
    refine r_stB ((a + 1) + 1) (((os.set a (own_enc (y0 / 4))).set (a + 1) (own_enc (y0 % 4 * 16 + y1 / 16))).set ((a + 1) + 1) (own_enc (y1 % 16 * 4 + y2 / 64))) O1 (n32_nn (by omega)) (n32_clamp (by omega)) (by first | omega | (simp only [List.length_set]; omega)) (by rw [own_encb _ (by omega)]) g4 d1_114 ?_
    intro hs2 W O2
    have B2 := B1.other W nBO
    have TB2 := TB1.other W nTO
    have SB2 := Sta.wr W SB1
    have K2 := Keep.wr K1 W (Or.inl (List.mem_of_getElem? (i := 0) rfl))
    refine r_aloadN d1_115 rfl rfl ?_
    refine r_iload d1_116 rfl ?_
    refine r_iinc d1_118 rfl (n32_add (((a + 1) + 1) + 1) 1) [.val (.ref a1), .val (.int f.toInt32), .val (.int (Nat.toInt32 3)), .val (.ref a4), .val (.int a.toInt32), .val (.int ((((a + 1) + 1) + 1) + 1).toInt32), .val (.int (f + 3).toInt32), .val (.int (f + 0).toInt32), .val (.int (y0 * 65536 + y1 * 256 + y2).toInt32)] rfl ?_
    refine r_getS (hw _ (List.mem_of_getElem? (i := 5) rfl)) (v := (.ref aT)) SB2 d1_121 ?_
    refine r_iload d1_124 rfl ?_
    refine r_bipush (63 : Int32) rfl d1_126 ?_
    refine r_iand d1_128 ?_
    rw [own_s0 y0 y1 y2 (by omega) (by omega) (by omega)]
    refine r_ldB (own_enc (y2 % 64)) (TB2) (n32_nn (by omega)) (by rw [n32_clamp (by omega)]; exact hT.2 _ (by omega)) d1_129 ?_
    refine r_stB (((a + 1) + 1) + 1) ((((os.set a (own_enc (y0 / 4))).set (a + 1) (own_enc (y0 % 4 * 16 + y1 / 16))).set ((a + 1) + 1) (own_enc (y1 % 16 * 4 + y2 / 64))).set (((a + 1) + 1) + 1) (own_enc (y2 % 64))) O2 (n32_nn (by omega)) (n32_clamp (by omega)) (by first | omega | (simp only [List.length_set]; omega)) (by rw [own_encb _ (by omega)]) g4 d1_130 ?_
    intro hs3 W O3
    have B3 := B2.other W nBO
    have TB3 := TB2.other W nTO
    have SB3 := Sta.wr W SB2
    have K3 := Keep.wr K2 W (Or.inl (List.mem_of_getElem? (i := 0) rfl))
    refine r_iinc d1_131 rfl (n32_add (f + 0) 3) [.val (.ref a1), .val (.int f.toInt32), .val (.int (Nat.toInt32 3)), .val (.ref a4), .val (.int a.toInt32), .val (.int ((((a + 1) + 1) + 1) + 1).toInt32), .val (.int (f + 3).toInt32), .val (.int (f + 3).toInt32), .val (.int (y0 * 65536 + y1 * 256 + y2).toInt32)] rfl ?_
    refine r_goto d1_134 ?_
    refine r_iload d1_16 rfl ?_
    refine r_iload d1_18 rfl ?_
    refine r_icmp_ge d1_20 (fun hc20 => ?_) (fun hc20 => ?_)
    · refine r_iloadN d1_137 rfl ?_
      refine r_iloadN d1_138 rfl ?_
      refine r_iadd d1_139 ?_
      rw [n32_add f 3]
      refine r_iload d1_140 rfl ?_
      refine r_isub d1_142 ?_
      rw [n32_sub (a := f + 3) (b := f + 3) (by omega), show f + 3 - (f + 3) = 0 by omega]
      refine r_istore d1_143 [.val (.ref a1), .val (.int f.toInt32), .val (.int (Nat.toInt32 3)), .val (.ref a4), .val (.int a.toInt32), .val (.int ((((a + 1) + 1) + 1) + 1).toInt32), .val (.int (f + 3).toInt32), .val (.int (Nat.toInt32 0)), .val (.int (y0 * 65536 + y1 * 256 + y2).toInt32)] rfl ?_
      refine r_iload d1_145 rfl ?_
      refine r_if_le d1_147 (fun hc147 => ?_) (fun hc147 => ?_)
      · refine r_iload d1_261 rfl ?_
        refine r_iload d1_263 rfl ?_
        refine r_isub d1_265 ?_
        rw [n32_sub (a := ((((a + 1) + 1) + 1) + 1)) (b := a) (by omega), show ((((a + 1) + 1) + 1) + 1) - a = 4 by omega]
        refine r_iret d1_266 (by decide) (by decide) ?_
        refine ⟨rfl, K3, B3, ?_⟩
        have O' := O3
        subst e_y0 e_y1 e_y2
        exact O'
      · exfalso; exact absurd hc147 (by decide)
    · exfalso; have := (n32_lt (a := (f + 3)) (b := (f + 3)) (by omega) (by omega)).mp hc20; omega
set_option maxRecDepth 65536 in
set_option maxHeartbeats 40000000 in
theorem ct1_4 {l : Launch} {Z : State} {a0 : Array Value} (hw : ∀ d ∈ tables_1, d.before a0 Z = true) {n0 : Nat} {h0 : Heap} (a1 a4 aT : Addr) (f a : Nat) (vs os tb : List Int32) (B : Ary Z h0 a1 .byte vs) (hl : vs.length = 7) (O : Ary Z h0 a4 .byte os) (ho : os.length = 10) (SB : Sta Z h0 "com/example/quire/quire/core/ValueText" "BASE64" "[B" (.ref aT)) (TB : Ary Z h0 aT .byte tb) (hT : own_T tb) (nBO : a1 ≠ a4) (nTO : aT ≠ a4) (g4 : n0 ≤ a4) (hf : f ≤ 1) (ha : a ≤ 1) : Ct l ⟨"com/example/quire/quire/core/ValueText", "base64", "([BII[BI)I"⟩ prog_207_method_26_code 9 (some .int) [] ({ frames := 0, cells := 0, slots := 0, locals := 0 } : Room) Z n0 #[(.ref a1), (.int f.toInt32), (.int (Nat.toInt32 4)), (.ref a4), (.int a.toInt32)] h0 (fun v h => v = some (.int (own_olen 4).toInt32) ∧ Keep h0 h [a4] ∧ Ary Z h a1 .byte vs ∧ Ary Z h a4 .byte (own_put os a ((List.range (own_olen 4)).map (own_ch vs f 4)))) := by
  refine Ct.of (ls := [.val (.ref a1), .val (.int f.toInt32), .val (.int (Nat.toInt32 4)), .val (.ref a4), .val (.int a.toInt32), .unset, .unset, .unset, .unset]) pn1 (fun m => by first | (simp [entryFrame, mkF, argsToLocals, Value.category]; done) | rfl) ?_
  refine r_iload d1_0 rfl ?_
  refine r_istore d1_2 [.val (.ref a1), .val (.int f.toInt32), .val (.int (Nat.toInt32 4)), .val (.ref a4), .val (.int a.toInt32), .val (.int a.toInt32), .unset, .unset, .unset] rfl ?_
  refine r_iloadN d1_4 rfl ?_
  refine r_iloadN d1_5 rfl ?_
  refine r_iconst (3 : Int32) rfl d1_6 ?_
  refine r_idiv d1_7 (by decide) ?_
  refine r_iconst (3 : Int32) rfl d1_8 ?_
  refine r_imul d1_9 ?_
  refine r_iadd d1_10 ?_
  rw [show ((Nat.toInt32 4) / (3 : Int32)) * (3 : Int32) = Nat.toInt32 3 by decide, n32_add f 3]
  refine r_istore d1_11 [.val (.ref a1), .val (.int f.toInt32), .val (.int (Nat.toInt32 4)), .val (.ref a4), .val (.int a.toInt32), .val (.int a.toInt32), .val (.int (f + 3).toInt32), .unset, .unset] rfl ?_
  refine r_iloadN d1_13 rfl ?_
  change ORun _ _ _ _ _ _ _ _ _ _ _ _ _ _ _ [.int (f + 0).toInt32]
  refine r_istore d1_14 [.val (.ref a1), .val (.int f.toInt32), .val (.int (Nat.toInt32 4)), .val (.ref a4), .val (.int a.toInt32), .val (.int a.toInt32), .val (.int (f + 3).toInt32), .val (.int (f + 0).toInt32), .unset] rfl ?_
  refine r_iload d1_16 rfl ?_
  refine r_iload d1_18 rfl ?_
  refine r_icmp_ge d1_20 (fun hc20 => ?_) (fun hc20 => ?_)
  · exfalso; exact hc20 ((n32_lt (by omega) (by omega)).mpr (by omega))
  · refine r_aloadN d1_23 rfl rfl ?_
    refine r_iload d1_24 rfl ?_
    refine r_ldB (own_at vs (f + 0)) (B) (n32_nn (by omega)) (by rw [n32_clamp (by omega)]; exact own_get (by omega)) d1_26 ?_
    refine r_sipush (255 : Int32) rfl d1_27 ?_
    refine r_iand d1_30 ?_
    rw [own_bt_eq vs (f + 0)]
    obtain ⟨y0, e_y0⟩ : ∃ z, z = own_bt vs (f + 0) := ⟨_, rfl⟩
    have l_y0 : y0 < 256 := by rw [e_y0]; exact own_bt_lt _ _
    rw [← e_y0]
    refine r_bipush (16 : Int32) rfl d1_31 ?_
    refine r_ishl d1_33 ?_
    refine r_aloadN d1_34 rfl rfl ?_
    refine r_iload d1_35 rfl ?_
    refine r_iconst (1 : Int32) rfl d1_37 ?_
    refine r_iadd d1_38 ?_
    rw [show (f + 0).toInt32 + (1 : Int32) = (f + 1).toInt32 from n32_add (f + 0) 1]
    refine r_ldB (own_at vs (f + 1)) (B) (n32_nn (by omega)) (by rw [n32_clamp (by omega)]; exact own_get (by omega)) d1_39 ?_
    refine r_sipush (255 : Int32) rfl d1_40 ?_
    refine r_iand d1_43 ?_
    rw [own_bt_eq vs (f + 1)]
    obtain ⟨y1, e_y1⟩ : ∃ z, z = own_bt vs (f + 1) := ⟨_, rfl⟩
    have l_y1 : y1 < 256 := by rw [e_y1]; exact own_bt_lt _ _
    rw [← e_y1]
    refine r_bipush (8 : Int32) rfl d1_44 ?_
    refine r_ishl d1_46 ?_
    refine r_ior d1_47 ?_
    refine r_aloadN d1_48 rfl rfl ?_
    refine r_iload d1_49 rfl ?_
    refine r_iconst (2 : Int32) rfl d1_51 ?_
    refine r_iadd d1_52 ?_
    rw [show (f + 0).toInt32 + (2 : Int32) = (f + 2).toInt32 from n32_add (f + 0) 2]
    refine r_ldB (own_at vs (f + 2)) (B) (n32_nn (by omega)) (by rw [n32_clamp (by omega)]; exact own_get (by omega)) d1_53 ?_
    refine r_sipush (255 : Int32) rfl d1_54 ?_
    refine r_iand d1_57 ?_
    rw [own_bt_eq vs (f + 2)]
    obtain ⟨y2, e_y2⟩ : ∃ z, z = own_bt vs (f + 2) := ⟨_, rfl⟩
    have l_y2 : y2 < 256 := by rw [e_y2]; exact own_bt_lt _ _
    rw [← e_y2]
    refine r_ior d1_58 ?_
    rw [own_grp y0 y1 y2 (by omega) (by omega) (by omega)]
    refine r_istore d1_59 [.val (.ref a1), .val (.int f.toInt32), .val (.int (Nat.toInt32 4)), .val (.ref a4), .val (.int a.toInt32), .val (.int a.toInt32), .val (.int (f + 3).toInt32), .val (.int (f + 0).toInt32), .val (.int (y0 * 65536 + y1 * 256 + y2).toInt32)] rfl ?_
    refine r_aloadN d1_61 rfl rfl ?_
    refine r_iload d1_62 rfl ?_
    refine r_iinc d1_64 rfl (n32_add a 1) [.val (.ref a1), .val (.int f.toInt32), .val (.int (Nat.toInt32 4)), .val (.ref a4), .val (.int a.toInt32), .val (.int (a + 1).toInt32), .val (.int (f + 3).toInt32), .val (.int (f + 0).toInt32), .val (.int (y0 * 65536 + y1 * 256 + y2).toInt32)] rfl ?_
    refine r_getS (hw _ (List.mem_of_getElem? (i := 5) rfl)) (v := (.ref aT)) SB d1_67 ?_
    refine r_iload d1_70 rfl ?_
    refine r_bipush (18 : Int32) rfl d1_72 ?_
    refine r_iushr d1_74 ?_
    rw [own_s18 y0 y1 y2 (by omega) (by omega) (by omega)]
    refine r_ldB (own_enc (y0 / 4)) (TB) (n32_nn (by omega)) (by rw [n32_clamp (by omega)]; exact hT.2 _ (by omega)) d1_75 ?_
    refine r_stB a (os.set a (own_enc (y0 / 4))) O (n32_nn (by omega)) (n32_clamp (by omega)) (by first | omega | (simp only [List.length_set]; omega)) (by rw [own_encb _ (by omega)]) g4 d1_76 ?_
    intro hs0 W O0
    have B0 := B.other W nBO
    have TB0 := TB.other W nTO
    have SB0 := Sta.wr W SB
    have K0 := Keep.wr (Keep.refl h0 [a4]) W (Or.inl (List.mem_of_getElem? (i := 0) rfl))
    refine r_aloadN d1_77 rfl rfl ?_
    refine r_iload d1_78 rfl ?_
    refine r_iinc d1_80 rfl (n32_add (a + 1) 1) [.val (.ref a1), .val (.int f.toInt32), .val (.int (Nat.toInt32 4)), .val (.ref a4), .val (.int a.toInt32), .val (.int ((a + 1) + 1).toInt32), .val (.int (f + 3).toInt32), .val (.int (f + 0).toInt32), .val (.int (y0 * 65536 + y1 * 256 + y2).toInt32)] rfl ?_
    refine r_getS (hw _ (List.mem_of_getElem? (i := 5) rfl)) (v := (.ref aT)) SB0 d1_83 ?_
    refine r_iload d1_86 rfl ?_
    refine r_bipush (12 : Int32) rfl d1_88 ?_
    refine r_iushr d1_90 ?_
    refine r_bipush (63 : Int32) rfl d1_91 ?_
    refine r_iand d1_93 ?_
    rw [own_s12 y0 y1 y2 (by omega) (by omega) (by omega)]
    refine r_ldB (own_enc (y0 % 4 * 16 + y1 / 16)) (TB0) (n32_nn (by omega)) (by rw [n32_clamp (by omega)]; exact hT.2 _ (by omega)) d1_94 ?_
    refine r_stB (a + 1) ((os.set a (own_enc (y0 / 4))).set (a + 1) (own_enc (y0 % 4 * 16 + y1 / 16))) O0 (n32_nn (by omega)) (n32_clamp (by omega)) (by first | omega | (simp only [List.length_set]; omega)) (by rw [own_encb _ (by omega)]) g4 d1_95 ?_
    intro hs1 W O1
    have B1 := B0.other W nBO
    have TB1 := TB0.other W nTO
    have SB1 := Sta.wr W SB0
    have K1 := Keep.wr K0 W (Or.inl (List.mem_of_getElem? (i := 0) rfl))
    refine r_aloadN d1_96 rfl rfl ?_
    refine r_iload d1_97 rfl ?_
    refine r_iinc d1_99 rfl (n32_add ((a + 1) + 1) 1) [.val (.ref a1), .val (.int f.toInt32), .val (.int (Nat.toInt32 4)), .val (.ref a4), .val (.int a.toInt32), .val (.int (((a + 1) + 1) + 1).toInt32), .val (.int (f + 3).toInt32), .val (.int (f + 0).toInt32), .val (.int (y0 * 65536 + y1 * 256 + y2).toInt32)] rfl ?_
    refine r_getS (hw _ (List.mem_of_getElem? (i := 5) rfl)) (v := (.ref aT)) SB1 d1_102 ?_
    refine r_iload d1_105 rfl ?_
    refine r_bipush (6 : Int32) rfl d1_107 ?_
    refine r_iushr d1_109 ?_
    refine r_bipush (63 : Int32) rfl d1_110 ?_
    refine r_iand d1_112 ?_
    rw [own_s6 y0 y1 y2 (by omega) (by omega) (by omega)]
    refine r_ldB (own_enc (y1 % 16 * 4 + y2 / 64)) (TB1) (n32_nn (by omega)) (by rw [n32_clamp (by omega)]; exact hT.2 _ (by omega)) d1_113 ?_
    refine r_stB ((a + 1) + 1) (((os.set a (own_enc (y0 / 4))).set (a + 1) (own_enc (y0 % 4 * 16 + y1 / 16))).set ((a + 1) + 1) (own_enc (y1 % 16 * 4 + y2 / 64))) O1 (n32_nn (by omega)) (n32_clamp (by omega)) (by first | omega | (simp only [List.length_set]; omega)) (by rw [own_encb _ (by omega)]) g4 d1_114 ?_
    intro hs2 W O2
    have B2 := B1.other W nBO
    have TB2 := TB1.other W nTO
    have SB2 := Sta.wr W SB1
    have K2 := Keep.wr K1 W (Or.inl (List.mem_of_getElem? (i := 0) rfl))
    refine r_aloadN d1_115 rfl rfl ?_
    refine r_iload d1_116 rfl ?_
    refine r_iinc d1_118 rfl (n32_add (((a + 1) + 1) + 1) 1) [.val (.ref a1), .val (.int f.toInt32), .val (.int (Nat.toInt32 4)), .val (.ref a4), .val (.int a.toInt32), .val (.int ((((a + 1) + 1) + 1) + 1).toInt32), .val (.int (f + 3).toInt32), .val (.int (f + 0).toInt32), .val (.int (y0 * 65536 + y1 * 256 + y2).toInt32)] rfl ?_
    refine r_getS (hw _ (List.mem_of_getElem? (i := 5) rfl)) (v := (.ref aT)) SB2 d1_121 ?_
    refine r_iload d1_124 rfl ?_
    refine r_bipush (63 : Int32) rfl d1_126 ?_
    refine r_iand d1_128 ?_
    rw [own_s0 y0 y1 y2 (by omega) (by omega) (by omega)]
    refine r_ldB (own_enc (y2 % 64)) (TB2) (n32_nn (by omega)) (by rw [n32_clamp (by omega)]; exact hT.2 _ (by omega)) d1_129 ?_
    refine r_stB (((a + 1) + 1) + 1) ((((os.set a (own_enc (y0 / 4))).set (a + 1) (own_enc (y0 % 4 * 16 + y1 / 16))).set ((a + 1) + 1) (own_enc (y1 % 16 * 4 + y2 / 64))).set (((a + 1) + 1) + 1) (own_enc (y2 % 64))) O2 (n32_nn (by omega)) (n32_clamp (by omega)) (by first | omega | (simp only [List.length_set]; omega)) (by rw [own_encb _ (by omega)]) g4 d1_130 ?_
    intro hs3 W O3
    have B3 := B2.other W nBO
    have TB3 := TB2.other W nTO
    have SB3 := Sta.wr W SB2
    have K3 := Keep.wr K2 W (Or.inl (List.mem_of_getElem? (i := 0) rfl))
    refine r_iinc d1_131 rfl (n32_add (f + 0) 3) [.val (.ref a1), .val (.int f.toInt32), .val (.int (Nat.toInt32 4)), .val (.ref a4), .val (.int a.toInt32), .val (.int ((((a + 1) + 1) + 1) + 1).toInt32), .val (.int (f + 3).toInt32), .val (.int (f + 3).toInt32), .val (.int (y0 * 65536 + y1 * 256 + y2).toInt32)] rfl ?_
    refine r_goto d1_134 ?_
    refine r_iload d1_16 rfl ?_
    refine r_iload d1_18 rfl ?_
    refine r_icmp_ge d1_20 (fun hc20 => ?_) (fun hc20 => ?_)
    · refine r_iloadN d1_137 rfl ?_
      refine r_iloadN d1_138 rfl ?_
      refine r_iadd d1_139 ?_
      rw [n32_add f 4]
      refine r_iload d1_140 rfl ?_
      refine r_isub d1_142 ?_
      rw [n32_sub (a := f + 4) (b := f + 3) (by omega), show f + 4 - (f + 3) = 1 by omega]
      refine r_istore d1_143 [.val (.ref a1), .val (.int f.toInt32), .val (.int (Nat.toInt32 4)), .val (.ref a4), .val (.int a.toInt32), .val (.int ((((a + 1) + 1) + 1) + 1).toInt32), .val (.int (f + 3).toInt32), .val (.int (Nat.toInt32 1)), .val (.int (y0 * 65536 + y1 * 256 + y2).toInt32)] rfl ?_
      refine r_iload d1_145 rfl ?_
      refine r_if_le d1_147 (fun hc147 => ?_) (fun hc147 => ?_)
      · exfalso; exact hc147 (by decide)
      · refine r_aloadN d1_150 rfl rfl ?_
        refine r_iload d1_151 rfl ?_
        refine r_ldB (own_at vs (f + 3)) (B3) (n32_nn (by omega)) (by rw [n32_clamp (by omega)]; exact own_get (by omega)) d1_153 ?_
        refine r_sipush (255 : Int32) rfl d1_154 ?_
        refine r_iand d1_157 ?_
        rw [own_bt_eq vs (f + 3)]
        obtain ⟨y3, e_y3⟩ : ∃ z, z = own_bt vs (f + 3) := ⟨_, rfl⟩
        have l_y3 : y3 < 256 := by rw [e_y3]; exact own_bt_lt _ _
        rw [← e_y3]
        refine r_bipush (16 : Int32) rfl d1_158 ?_
        refine r_ishl d1_160 ?_
        refine r_iload d1_161 rfl ?_
        refine r_iconst (2 : Int32) rfl d1_163 ?_
        refine r_icmp_ne d1_164 (fun hc164 => ?_) (fun hc164 => ?_)
        · refine r_iconst (0 : Int32) rfl d1_183 ?_
          refine r_ior d1_184 ?_
          rw [own_grp1 y3 (by omega)]
          refine r_istore d1_185 [.val (.ref a1), .val (.int f.toInt32), .val (.int (Nat.toInt32 4)), .val (.ref a4), .val (.int a.toInt32), .val (.int ((((a + 1) + 1) + 1) + 1).toInt32), .val (.int (f + 3).toInt32), .val (.int (Nat.toInt32 1)), .val (.int (y3 * 65536 + 0 * 256 + 0).toInt32)] rfl ?_
          refine r_aloadN d1_187 rfl rfl ?_
          refine r_iload d1_188 rfl ?_
          refine r_iinc d1_190 rfl (n32_add ((((a + 1) + 1) + 1) + 1) 1) [.val (.ref a1), .val (.int f.toInt32), .val (.int (Nat.toInt32 4)), .val (.ref a4), .val (.int a.toInt32), .val (.int (((((a + 1) + 1) + 1) + 1) + 1).toInt32), .val (.int (f + 3).toInt32), .val (.int (Nat.toInt32 1)), .val (.int (y3 * 65536 + 0 * 256 + 0).toInt32)] rfl ?_
          refine r_getS (hw _ (List.mem_of_getElem? (i := 5) rfl)) (v := (.ref aT)) SB3 d1_193 ?_
          refine r_iload d1_196 rfl ?_
          refine r_bipush (18 : Int32) rfl d1_198 ?_
          refine r_iushr d1_200 ?_
          rw [own_s18 y3 0 0 (by omega) (by omega) (by omega)]
          refine r_ldB (own_enc (y3 / 4)) (TB3) (n32_nn (by omega)) (by rw [n32_clamp (by omega)]; exact hT.2 _ (by omega)) d1_201 ?_
          refine r_stB ((((a + 1) + 1) + 1) + 1) (((((os.set a (own_enc (y0 / 4))).set (a + 1) (own_enc (y0 % 4 * 16 + y1 / 16))).set ((a + 1) + 1) (own_enc (y1 % 16 * 4 + y2 / 64))).set (((a + 1) + 1) + 1) (own_enc (y2 % 64))).set ((((a + 1) + 1) + 1) + 1) (own_enc (y3 / 4))) O3 (n32_nn (by omega)) (n32_clamp (by omega)) (by first | omega | (simp only [List.length_set]; omega)) (by rw [own_encb _ (by omega)]) g4 d1_202 ?_
          intro hs4 W O4
          have B4 := B3.other W nBO
          have TB4 := TB3.other W nTO
          have SB4 := Sta.wr W SB3
          have K4 := Keep.wr K3 W (Or.inl (List.mem_of_getElem? (i := 0) rfl))
          refine r_aloadN d1_203 rfl rfl ?_
          refine r_iload d1_204 rfl ?_
          refine r_iinc d1_206 rfl (n32_add (((((a + 1) + 1) + 1) + 1) + 1) 1) [.val (.ref a1), .val (.int f.toInt32), .val (.int (Nat.toInt32 4)), .val (.ref a4), .val (.int a.toInt32), .val (.int ((((((a + 1) + 1) + 1) + 1) + 1) + 1).toInt32), .val (.int (f + 3).toInt32), .val (.int (Nat.toInt32 1)), .val (.int (y3 * 65536 + 0 * 256 + 0).toInt32)] rfl ?_
          refine r_getS (hw _ (List.mem_of_getElem? (i := 5) rfl)) (v := (.ref aT)) SB4 d1_209 ?_
          refine r_iload d1_212 rfl ?_
          refine r_bipush (12 : Int32) rfl d1_214 ?_
          refine r_iushr d1_216 ?_
          refine r_bipush (63 : Int32) rfl d1_217 ?_
          refine r_iand d1_219 ?_
          rw [own_s12 y3 0 0 (by omega) (by omega) (by omega)]
          refine r_ldB (own_enc (y3 % 4 * 16 + 0 / 16)) (TB4) (n32_nn (by omega)) (by rw [n32_clamp (by omega)]; exact hT.2 _ (by omega)) d1_220 ?_
          refine r_stB (((((a + 1) + 1) + 1) + 1) + 1) ((((((os.set a (own_enc (y0 / 4))).set (a + 1) (own_enc (y0 % 4 * 16 + y1 / 16))).set ((a + 1) + 1) (own_enc (y1 % 16 * 4 + y2 / 64))).set (((a + 1) + 1) + 1) (own_enc (y2 % 64))).set ((((a + 1) + 1) + 1) + 1) (own_enc (y3 / 4))).set (((((a + 1) + 1) + 1) + 1) + 1) (own_enc (y3 % 4 * 16 + 0 / 16))) O4 (n32_nn (by omega)) (n32_clamp (by omega)) (by first | omega | (simp only [List.length_set]; omega)) (by rw [own_encb _ (by omega)]) g4 d1_221 ?_
          intro hs5 W O5
          have B5 := B4.other W nBO
          have TB5 := TB4.other W nTO
          have SB5 := Sta.wr W SB4
          have K5 := Keep.wr K4 W (Or.inl (List.mem_of_getElem? (i := 0) rfl))
          refine r_aloadN d1_222 rfl rfl ?_
          refine r_iload d1_223 rfl ?_
          refine r_iinc d1_225 rfl (n32_add ((((((a + 1) + 1) + 1) + 1) + 1) + 1) 1) [.val (.ref a1), .val (.int f.toInt32), .val (.int (Nat.toInt32 4)), .val (.ref a4), .val (.int a.toInt32), .val (.int (((((((a + 1) + 1) + 1) + 1) + 1) + 1) + 1).toInt32), .val (.int (f + 3).toInt32), .val (.int (Nat.toInt32 1)), .val (.int (y3 * 65536 + 0 * 256 + 0).toInt32)] rfl ?_
          refine r_iload d1_228 rfl ?_
          refine r_iconst (2 : Int32) rfl d1_230 ?_
          refine r_icmp_ne d1_231 (fun hc231 => ?_) (fun hc231 => ?_)
          · refine r_bipush (61 : Int32) rfl d1_249 ?_
            refine r_stB ((((((a + 1) + 1) + 1) + 1) + 1) + 1) (((((((os.set a (own_enc (y0 / 4))).set (a + 1) (own_enc (y0 % 4 * 16 + y1 / 16))).set ((a + 1) + 1) (own_enc (y1 % 16 * 4 + y2 / 64))).set (((a + 1) + 1) + 1) (own_enc (y2 % 64))).set ((((a + 1) + 1) + 1) + 1) (own_enc (y3 / 4))).set (((((a + 1) + 1) + 1) + 1) + 1) (own_enc (y3 % 4 * 16 + 0 / 16))).set ((((((a + 1) + 1) + 1) + 1) + 1) + 1) (61 : Int32)) O5 (n32_nn (by omega)) (n32_clamp (by omega)) (by first | omega | (simp only [List.length_set]; omega)) (by rw [show nar .byte (61 : Int32) = 61 from by decide]) g4 d1_251 ?_
            intro hs6 W O6
            have B6 := B5.other W nBO
            have TB6 := TB5.other W nTO
            have SB6 := Sta.wr W SB5
            have K6 := Keep.wr K5 W (Or.inl (List.mem_of_getElem? (i := 0) rfl))
            refine r_aloadN d1_252 rfl rfl ?_
            refine r_iload d1_253 rfl ?_
            refine r_iinc d1_255 rfl (n32_add (((((((a + 1) + 1) + 1) + 1) + 1) + 1) + 1) 1) [.val (.ref a1), .val (.int f.toInt32), .val (.int (Nat.toInt32 4)), .val (.ref a4), .val (.int a.toInt32), .val (.int ((((((((a + 1) + 1) + 1) + 1) + 1) + 1) + 1) + 1).toInt32), .val (.int (f + 3).toInt32), .val (.int (Nat.toInt32 1)), .val (.int (y3 * 65536 + 0 * 256 + 0).toInt32)] rfl ?_
            refine r_bipush (61 : Int32) rfl d1_258 ?_
            refine r_stB (((((((a + 1) + 1) + 1) + 1) + 1) + 1) + 1) ((((((((os.set a (own_enc (y0 / 4))).set (a + 1) (own_enc (y0 % 4 * 16 + y1 / 16))).set ((a + 1) + 1) (own_enc (y1 % 16 * 4 + y2 / 64))).set (((a + 1) + 1) + 1) (own_enc (y2 % 64))).set ((((a + 1) + 1) + 1) + 1) (own_enc (y3 / 4))).set (((((a + 1) + 1) + 1) + 1) + 1) (own_enc (y3 % 4 * 16 + 0 / 16))).set ((((((a + 1) + 1) + 1) + 1) + 1) + 1) (61 : Int32)).set (((((((a + 1) + 1) + 1) + 1) + 1) + 1) + 1) (61 : Int32)) O6 (n32_nn (by omega)) (n32_clamp (by omega)) (by first | omega | (simp only [List.length_set]; omega)) (by rw [show nar .byte (61 : Int32) = 61 from by decide]) g4 d1_260 ?_
            intro hs7 W O7
            have B7 := B6.other W nBO
            have TB7 := TB6.other W nTO
            have SB7 := Sta.wr W SB6
            have K7 := Keep.wr K6 W (Or.inl (List.mem_of_getElem? (i := 0) rfl))
            refine r_iload d1_261 rfl ?_
            refine r_iload d1_263 rfl ?_
            refine r_isub d1_265 ?_
            rw [n32_sub (a := ((((((((a + 1) + 1) + 1) + 1) + 1) + 1) + 1) + 1)) (b := a) (by omega), show ((((((((a + 1) + 1) + 1) + 1) + 1) + 1) + 1) + 1) - a = 8 by omega]
            refine r_iret d1_266 (by decide) (by decide) ?_
            refine ⟨rfl, K7, B7, ?_⟩
            have O' := O7
            subst e_y0 e_y1 e_y2 e_y3
            exact O'
          · exfalso; exact absurd hc231 (by decide)
        · exfalso; exact absurd hc164 (by decide)
    · exfalso; have := (n32_lt (a := (f + 3)) (b := (f + 3)) (by omega) (by omega)).mp hc20; omega
set_option maxRecDepth 65536 in
set_option maxHeartbeats 40000000 in
theorem ct1_5 {l : Launch} {Z : State} {a0 : Array Value} (hw : ∀ d ∈ tables_1, d.before a0 Z = true) {n0 : Nat} {h0 : Heap} (a1 a4 aT : Addr) (f a : Nat) (vs os tb : List Int32) (B : Ary Z h0 a1 .byte vs) (hl : vs.length = 7) (O : Ary Z h0 a4 .byte os) (ho : os.length = 10) (SB : Sta Z h0 "com/example/quire/quire/core/ValueText" "BASE64" "[B" (.ref aT)) (TB : Ary Z h0 aT .byte tb) (hT : own_T tb) (nBO : a1 ≠ a4) (nTO : aT ≠ a4) (g4 : n0 ≤ a4) (hf : f ≤ 1) (ha : a ≤ 1) : Ct l ⟨"com/example/quire/quire/core/ValueText", "base64", "([BII[BI)I"⟩ prog_207_method_26_code 9 (some .int) [] ({ frames := 0, cells := 0, slots := 0, locals := 0 } : Room) Z n0 #[(.ref a1), (.int f.toInt32), (.int (Nat.toInt32 5)), (.ref a4), (.int a.toInt32)] h0 (fun v h => v = some (.int (own_olen 5).toInt32) ∧ Keep h0 h [a4] ∧ Ary Z h a1 .byte vs ∧ Ary Z h a4 .byte (own_put os a ((List.range (own_olen 5)).map (own_ch vs f 5)))) := by
  refine Ct.of (ls := [.val (.ref a1), .val (.int f.toInt32), .val (.int (Nat.toInt32 5)), .val (.ref a4), .val (.int a.toInt32), .unset, .unset, .unset, .unset]) pn1 (fun m => by first | (simp [entryFrame, mkF, argsToLocals, Value.category]; done) | rfl) ?_
  refine r_iload d1_0 rfl ?_
  refine r_istore d1_2 [.val (.ref a1), .val (.int f.toInt32), .val (.int (Nat.toInt32 5)), .val (.ref a4), .val (.int a.toInt32), .val (.int a.toInt32), .unset, .unset, .unset] rfl ?_
  refine r_iloadN d1_4 rfl ?_
  refine r_iloadN d1_5 rfl ?_
  refine r_iconst (3 : Int32) rfl d1_6 ?_
  refine r_idiv d1_7 (by decide) ?_
  refine r_iconst (3 : Int32) rfl d1_8 ?_
  refine r_imul d1_9 ?_
  refine r_iadd d1_10 ?_
  rw [show ((Nat.toInt32 5) / (3 : Int32)) * (3 : Int32) = Nat.toInt32 3 by decide, n32_add f 3]
  refine r_istore d1_11 [.val (.ref a1), .val (.int f.toInt32), .val (.int (Nat.toInt32 5)), .val (.ref a4), .val (.int a.toInt32), .val (.int a.toInt32), .val (.int (f + 3).toInt32), .unset, .unset] rfl ?_
  refine r_iloadN d1_13 rfl ?_
  change ORun _ _ _ _ _ _ _ _ _ _ _ _ _ _ _ [.int (f + 0).toInt32]
  refine r_istore d1_14 [.val (.ref a1), .val (.int f.toInt32), .val (.int (Nat.toInt32 5)), .val (.ref a4), .val (.int a.toInt32), .val (.int a.toInt32), .val (.int (f + 3).toInt32), .val (.int (f + 0).toInt32), .unset] rfl ?_
  refine r_iload d1_16 rfl ?_
  refine r_iload d1_18 rfl ?_
  refine r_icmp_ge d1_20 (fun hc20 => ?_) (fun hc20 => ?_)
  · exfalso; exact hc20 ((n32_lt (by omega) (by omega)).mpr (by omega))
  · refine r_aloadN d1_23 rfl rfl ?_
    refine r_iload d1_24 rfl ?_
    refine r_ldB (own_at vs (f + 0)) (B) (n32_nn (by omega)) (by rw [n32_clamp (by omega)]; exact own_get (by omega)) d1_26 ?_
    refine r_sipush (255 : Int32) rfl d1_27 ?_
    refine r_iand d1_30 ?_
    rw [own_bt_eq vs (f + 0)]
    obtain ⟨y0, e_y0⟩ : ∃ z, z = own_bt vs (f + 0) := ⟨_, rfl⟩
    have l_y0 : y0 < 256 := by rw [e_y0]; exact own_bt_lt _ _
    rw [← e_y0]
    refine r_bipush (16 : Int32) rfl d1_31 ?_
    refine r_ishl d1_33 ?_
    refine r_aloadN d1_34 rfl rfl ?_
    refine r_iload d1_35 rfl ?_
    refine r_iconst (1 : Int32) rfl d1_37 ?_
    refine r_iadd d1_38 ?_
    rw [show (f + 0).toInt32 + (1 : Int32) = (f + 1).toInt32 from n32_add (f + 0) 1]
    refine r_ldB (own_at vs (f + 1)) (B) (n32_nn (by omega)) (by rw [n32_clamp (by omega)]; exact own_get (by omega)) d1_39 ?_
    refine r_sipush (255 : Int32) rfl d1_40 ?_
    refine r_iand d1_43 ?_
    rw [own_bt_eq vs (f + 1)]
    obtain ⟨y1, e_y1⟩ : ∃ z, z = own_bt vs (f + 1) := ⟨_, rfl⟩
    have l_y1 : y1 < 256 := by rw [e_y1]; exact own_bt_lt _ _
    rw [← e_y1]
    refine r_bipush (8 : Int32) rfl d1_44 ?_
    refine r_ishl d1_46 ?_
    refine r_ior d1_47 ?_
    refine r_aloadN d1_48 rfl rfl ?_
    refine r_iload d1_49 rfl ?_
    refine r_iconst (2 : Int32) rfl d1_51 ?_
    refine r_iadd d1_52 ?_
    rw [show (f + 0).toInt32 + (2 : Int32) = (f + 2).toInt32 from n32_add (f + 0) 2]
    refine r_ldB (own_at vs (f + 2)) (B) (n32_nn (by omega)) (by rw [n32_clamp (by omega)]; exact own_get (by omega)) d1_53 ?_
    refine r_sipush (255 : Int32) rfl d1_54 ?_
    refine r_iand d1_57 ?_
    rw [own_bt_eq vs (f + 2)]
    obtain ⟨y2, e_y2⟩ : ∃ z, z = own_bt vs (f + 2) := ⟨_, rfl⟩
    have l_y2 : y2 < 256 := by rw [e_y2]; exact own_bt_lt _ _
    rw [← e_y2]
    refine r_ior d1_58 ?_
    rw [own_grp y0 y1 y2 (by omega) (by omega) (by omega)]
    refine r_istore d1_59 [.val (.ref a1), .val (.int f.toInt32), .val (.int (Nat.toInt32 5)), .val (.ref a4), .val (.int a.toInt32), .val (.int a.toInt32), .val (.int (f + 3).toInt32), .val (.int (f + 0).toInt32), .val (.int (y0 * 65536 + y1 * 256 + y2).toInt32)] rfl ?_
    refine r_aloadN d1_61 rfl rfl ?_
    refine r_iload d1_62 rfl ?_
    refine r_iinc d1_64 rfl (n32_add a 1) [.val (.ref a1), .val (.int f.toInt32), .val (.int (Nat.toInt32 5)), .val (.ref a4), .val (.int a.toInt32), .val (.int (a + 1).toInt32), .val (.int (f + 3).toInt32), .val (.int (f + 0).toInt32), .val (.int (y0 * 65536 + y1 * 256 + y2).toInt32)] rfl ?_
    refine r_getS (hw _ (List.mem_of_getElem? (i := 5) rfl)) (v := (.ref aT)) SB d1_67 ?_
    refine r_iload d1_70 rfl ?_
    refine r_bipush (18 : Int32) rfl d1_72 ?_
    refine r_iushr d1_74 ?_
    rw [own_s18 y0 y1 y2 (by omega) (by omega) (by omega)]
    refine r_ldB (own_enc (y0 / 4)) (TB) (n32_nn (by omega)) (by rw [n32_clamp (by omega)]; exact hT.2 _ (by omega)) d1_75 ?_
    refine r_stB a (os.set a (own_enc (y0 / 4))) O (n32_nn (by omega)) (n32_clamp (by omega)) (by first | omega | (simp only [List.length_set]; omega)) (by rw [own_encb _ (by omega)]) g4 d1_76 ?_
    intro hs0 W O0
    have B0 := B.other W nBO
    have TB0 := TB.other W nTO
    have SB0 := Sta.wr W SB
    have K0 := Keep.wr (Keep.refl h0 [a4]) W (Or.inl (List.mem_of_getElem? (i := 0) rfl))
    refine r_aloadN d1_77 rfl rfl ?_
    refine r_iload d1_78 rfl ?_
    refine r_iinc d1_80 rfl (n32_add (a + 1) 1) [.val (.ref a1), .val (.int f.toInt32), .val (.int (Nat.toInt32 5)), .val (.ref a4), .val (.int a.toInt32), .val (.int ((a + 1) + 1).toInt32), .val (.int (f + 3).toInt32), .val (.int (f + 0).toInt32), .val (.int (y0 * 65536 + y1 * 256 + y2).toInt32)] rfl ?_
    refine r_getS (hw _ (List.mem_of_getElem? (i := 5) rfl)) (v := (.ref aT)) SB0 d1_83 ?_
    refine r_iload d1_86 rfl ?_
    refine r_bipush (12 : Int32) rfl d1_88 ?_
    refine r_iushr d1_90 ?_
    refine r_bipush (63 : Int32) rfl d1_91 ?_
    refine r_iand d1_93 ?_
    rw [own_s12 y0 y1 y2 (by omega) (by omega) (by omega)]
    refine r_ldB (own_enc (y0 % 4 * 16 + y1 / 16)) (TB0) (n32_nn (by omega)) (by rw [n32_clamp (by omega)]; exact hT.2 _ (by omega)) d1_94 ?_
    refine r_stB (a + 1) ((os.set a (own_enc (y0 / 4))).set (a + 1) (own_enc (y0 % 4 * 16 + y1 / 16))) O0 (n32_nn (by omega)) (n32_clamp (by omega)) (by first | omega | (simp only [List.length_set]; omega)) (by rw [own_encb _ (by omega)]) g4 d1_95 ?_
    intro hs1 W O1
    have B1 := B0.other W nBO
    have TB1 := TB0.other W nTO
    have SB1 := Sta.wr W SB0
    have K1 := Keep.wr K0 W (Or.inl (List.mem_of_getElem? (i := 0) rfl))
    refine r_aloadN d1_96 rfl rfl ?_
    refine r_iload d1_97 rfl ?_
    refine r_iinc d1_99 rfl (n32_add ((a + 1) + 1) 1) [.val (.ref a1), .val (.int f.toInt32), .val (.int (Nat.toInt32 5)), .val (.ref a4), .val (.int a.toInt32), .val (.int (((a + 1) + 1) + 1).toInt32), .val (.int (f + 3).toInt32), .val (.int (f + 0).toInt32), .val (.int (y0 * 65536 + y1 * 256 + y2).toInt32)] rfl ?_
    refine r_getS (hw _ (List.mem_of_getElem? (i := 5) rfl)) (v := (.ref aT)) SB1 d1_102 ?_
    refine r_iload d1_105 rfl ?_
    refine r_bipush (6 : Int32) rfl d1_107 ?_
    refine r_iushr d1_109 ?_
    refine r_bipush (63 : Int32) rfl d1_110 ?_
    refine r_iand d1_112 ?_
    rw [own_s6 y0 y1 y2 (by omega) (by omega) (by omega)]
    refine r_ldB (own_enc (y1 % 16 * 4 + y2 / 64)) (TB1) (n32_nn (by omega)) (by rw [n32_clamp (by omega)]; exact hT.2 _ (by omega)) d1_113 ?_
    refine r_stB ((a + 1) + 1) (((os.set a (own_enc (y0 / 4))).set (a + 1) (own_enc (y0 % 4 * 16 + y1 / 16))).set ((a + 1) + 1) (own_enc (y1 % 16 * 4 + y2 / 64))) O1 (n32_nn (by omega)) (n32_clamp (by omega)) (by first | omega | (simp only [List.length_set]; omega)) (by rw [own_encb _ (by omega)]) g4 d1_114 ?_
    intro hs2 W O2
    have B2 := B1.other W nBO
    have TB2 := TB1.other W nTO
    have SB2 := Sta.wr W SB1
    have K2 := Keep.wr K1 W (Or.inl (List.mem_of_getElem? (i := 0) rfl))
    refine r_aloadN d1_115 rfl rfl ?_
    refine r_iload d1_116 rfl ?_
    refine r_iinc d1_118 rfl (n32_add (((a + 1) + 1) + 1) 1) [.val (.ref a1), .val (.int f.toInt32), .val (.int (Nat.toInt32 5)), .val (.ref a4), .val (.int a.toInt32), .val (.int ((((a + 1) + 1) + 1) + 1).toInt32), .val (.int (f + 3).toInt32), .val (.int (f + 0).toInt32), .val (.int (y0 * 65536 + y1 * 256 + y2).toInt32)] rfl ?_
    refine r_getS (hw _ (List.mem_of_getElem? (i := 5) rfl)) (v := (.ref aT)) SB2 d1_121 ?_
    refine r_iload d1_124 rfl ?_
    refine r_bipush (63 : Int32) rfl d1_126 ?_
    refine r_iand d1_128 ?_
    rw [own_s0 y0 y1 y2 (by omega) (by omega) (by omega)]
    refine r_ldB (own_enc (y2 % 64)) (TB2) (n32_nn (by omega)) (by rw [n32_clamp (by omega)]; exact hT.2 _ (by omega)) d1_129 ?_
    refine r_stB (((a + 1) + 1) + 1) ((((os.set a (own_enc (y0 / 4))).set (a + 1) (own_enc (y0 % 4 * 16 + y1 / 16))).set ((a + 1) + 1) (own_enc (y1 % 16 * 4 + y2 / 64))).set (((a + 1) + 1) + 1) (own_enc (y2 % 64))) O2 (n32_nn (by omega)) (n32_clamp (by omega)) (by first | omega | (simp only [List.length_set]; omega)) (by rw [own_encb _ (by omega)]) g4 d1_130 ?_
    intro hs3 W O3
    have B3 := B2.other W nBO
    have TB3 := TB2.other W nTO
    have SB3 := Sta.wr W SB2
    have K3 := Keep.wr K2 W (Or.inl (List.mem_of_getElem? (i := 0) rfl))
    refine r_iinc d1_131 rfl (n32_add (f + 0) 3) [.val (.ref a1), .val (.int f.toInt32), .val (.int (Nat.toInt32 5)), .val (.ref a4), .val (.int a.toInt32), .val (.int ((((a + 1) + 1) + 1) + 1).toInt32), .val (.int (f + 3).toInt32), .val (.int (f + 3).toInt32), .val (.int (y0 * 65536 + y1 * 256 + y2).toInt32)] rfl ?_
    refine r_goto d1_134 ?_
    refine r_iload d1_16 rfl ?_
    refine r_iload d1_18 rfl ?_
    refine r_icmp_ge d1_20 (fun hc20 => ?_) (fun hc20 => ?_)
    · refine r_iloadN d1_137 rfl ?_
      refine r_iloadN d1_138 rfl ?_
      refine r_iadd d1_139 ?_
      rw [n32_add f 5]
      refine r_iload d1_140 rfl ?_
      refine r_isub d1_142 ?_
      rw [n32_sub (a := f + 5) (b := f + 3) (by omega), show f + 5 - (f + 3) = 2 by omega]
      refine r_istore d1_143 [.val (.ref a1), .val (.int f.toInt32), .val (.int (Nat.toInt32 5)), .val (.ref a4), .val (.int a.toInt32), .val (.int ((((a + 1) + 1) + 1) + 1).toInt32), .val (.int (f + 3).toInt32), .val (.int (Nat.toInt32 2)), .val (.int (y0 * 65536 + y1 * 256 + y2).toInt32)] rfl ?_
      refine r_iload d1_145 rfl ?_
      refine r_if_le d1_147 (fun hc147 => ?_) (fun hc147 => ?_)
      · exfalso; exact hc147 (by decide)
      · refine r_aloadN d1_150 rfl rfl ?_
        refine r_iload d1_151 rfl ?_
        refine r_ldB (own_at vs (f + 3)) (B3) (n32_nn (by omega)) (by rw [n32_clamp (by omega)]; exact own_get (by omega)) d1_153 ?_
        refine r_sipush (255 : Int32) rfl d1_154 ?_
        refine r_iand d1_157 ?_
        rw [own_bt_eq vs (f + 3)]
        obtain ⟨y3, e_y3⟩ : ∃ z, z = own_bt vs (f + 3) := ⟨_, rfl⟩
        have l_y3 : y3 < 256 := by rw [e_y3]; exact own_bt_lt _ _
        rw [← e_y3]
        refine r_bipush (16 : Int32) rfl d1_158 ?_
        refine r_ishl d1_160 ?_
        refine r_iload d1_161 rfl ?_
        refine r_iconst (2 : Int32) rfl d1_163 ?_
        refine r_icmp_ne d1_164 (fun hc164 => ?_) (fun hc164 => ?_)
        · exfalso; exact hc164 (by decide)
        · refine r_aloadN d1_167 rfl rfl ?_
          refine r_iload d1_168 rfl ?_
          refine r_iconst (1 : Int32) rfl d1_170 ?_
          refine r_iadd d1_171 ?_
          rw [show (f + 3).toInt32 + (1 : Int32) = (f + 4).toInt32 from n32_add (f + 3) 1]
          refine r_ldB (own_at vs (f + 4)) (B3) (n32_nn (by omega)) (by rw [n32_clamp (by omega)]; exact own_get (by omega)) d1_172 ?_
          refine r_sipush (255 : Int32) rfl d1_173 ?_
          refine r_iand d1_176 ?_
          rw [own_bt_eq vs (f + 4)]
          obtain ⟨y4, e_y4⟩ : ∃ z, z = own_bt vs (f + 4) := ⟨_, rfl⟩
          have l_y4 : y4 < 256 := by rw [e_y4]; exact own_bt_lt _ _
          rw [← e_y4]
          refine r_bipush (8 : Int32) rfl d1_177 ?_
          refine r_ishl d1_179 ?_
          refine r_goto d1_180 ?_
          refine r_ior d1_184 ?_
          rw [own_grp2 y3 y4 (by omega) (by omega)]
          refine r_istore d1_185 [.val (.ref a1), .val (.int f.toInt32), .val (.int (Nat.toInt32 5)), .val (.ref a4), .val (.int a.toInt32), .val (.int ((((a + 1) + 1) + 1) + 1).toInt32), .val (.int (f + 3).toInt32), .val (.int (Nat.toInt32 2)), .val (.int (y3 * 65536 + y4 * 256 + 0).toInt32)] rfl ?_
          refine r_aloadN d1_187 rfl rfl ?_
          refine r_iload d1_188 rfl ?_
          refine r_iinc d1_190 rfl (n32_add ((((a + 1) + 1) + 1) + 1) 1) [.val (.ref a1), .val (.int f.toInt32), .val (.int (Nat.toInt32 5)), .val (.ref a4), .val (.int a.toInt32), .val (.int (((((a + 1) + 1) + 1) + 1) + 1).toInt32), .val (.int (f + 3).toInt32), .val (.int (Nat.toInt32 2)), .val (.int (y3 * 65536 + y4 * 256 + 0).toInt32)] rfl ?_
          refine r_getS (hw _ (List.mem_of_getElem? (i := 5) rfl)) (v := (.ref aT)) SB3 d1_193 ?_
          refine r_iload d1_196 rfl ?_
          refine r_bipush (18 : Int32) rfl d1_198 ?_
          refine r_iushr d1_200 ?_
          rw [own_s18 y3 y4 0 (by omega) (by omega) (by omega)]
          refine r_ldB (own_enc (y3 / 4)) (TB3) (n32_nn (by omega)) (by rw [n32_clamp (by omega)]; exact hT.2 _ (by omega)) d1_201 ?_
          refine r_stB ((((a + 1) + 1) + 1) + 1) (((((os.set a (own_enc (y0 / 4))).set (a + 1) (own_enc (y0 % 4 * 16 + y1 / 16))).set ((a + 1) + 1) (own_enc (y1 % 16 * 4 + y2 / 64))).set (((a + 1) + 1) + 1) (own_enc (y2 % 64))).set ((((a + 1) + 1) + 1) + 1) (own_enc (y3 / 4))) O3 (n32_nn (by omega)) (n32_clamp (by omega)) (by first | omega | (simp only [List.length_set]; omega)) (by rw [own_encb _ (by omega)]) g4 d1_202 ?_
          intro hs4 W O4
          have B4 := B3.other W nBO
          have TB4 := TB3.other W nTO
          have SB4 := Sta.wr W SB3
          have K4 := Keep.wr K3 W (Or.inl (List.mem_of_getElem? (i := 0) rfl))
          refine r_aloadN d1_203 rfl rfl ?_
          refine r_iload d1_204 rfl ?_
          refine r_iinc d1_206 rfl (n32_add (((((a + 1) + 1) + 1) + 1) + 1) 1) [.val (.ref a1), .val (.int f.toInt32), .val (.int (Nat.toInt32 5)), .val (.ref a4), .val (.int a.toInt32), .val (.int ((((((a + 1) + 1) + 1) + 1) + 1) + 1).toInt32), .val (.int (f + 3).toInt32), .val (.int (Nat.toInt32 2)), .val (.int (y3 * 65536 + y4 * 256 + 0).toInt32)] rfl ?_
          refine r_getS (hw _ (List.mem_of_getElem? (i := 5) rfl)) (v := (.ref aT)) SB4 d1_209 ?_
          refine r_iload d1_212 rfl ?_
          refine r_bipush (12 : Int32) rfl d1_214 ?_
          refine r_iushr d1_216 ?_
          refine r_bipush (63 : Int32) rfl d1_217 ?_
          refine r_iand d1_219 ?_
          rw [own_s12 y3 y4 0 (by omega) (by omega) (by omega)]
          refine r_ldB (own_enc (y3 % 4 * 16 + y4 / 16)) (TB4) (n32_nn (by omega)) (by rw [n32_clamp (by omega)]; exact hT.2 _ (by omega)) d1_220 ?_
          refine r_stB (((((a + 1) + 1) + 1) + 1) + 1) ((((((os.set a (own_enc (y0 / 4))).set (a + 1) (own_enc (y0 % 4 * 16 + y1 / 16))).set ((a + 1) + 1) (own_enc (y1 % 16 * 4 + y2 / 64))).set (((a + 1) + 1) + 1) (own_enc (y2 % 64))).set ((((a + 1) + 1) + 1) + 1) (own_enc (y3 / 4))).set (((((a + 1) + 1) + 1) + 1) + 1) (own_enc (y3 % 4 * 16 + y4 / 16))) O4 (n32_nn (by omega)) (n32_clamp (by omega)) (by first | omega | (simp only [List.length_set]; omega)) (by rw [own_encb _ (by omega)]) g4 d1_221 ?_
          intro hs5 W O5
          have B5 := B4.other W nBO
          have TB5 := TB4.other W nTO
          have SB5 := Sta.wr W SB4
          have K5 := Keep.wr K4 W (Or.inl (List.mem_of_getElem? (i := 0) rfl))
          refine r_aloadN d1_222 rfl rfl ?_
          refine r_iload d1_223 rfl ?_
          refine r_iinc d1_225 rfl (n32_add ((((((a + 1) + 1) + 1) + 1) + 1) + 1) 1) [.val (.ref a1), .val (.int f.toInt32), .val (.int (Nat.toInt32 5)), .val (.ref a4), .val (.int a.toInt32), .val (.int (((((((a + 1) + 1) + 1) + 1) + 1) + 1) + 1).toInt32), .val (.int (f + 3).toInt32), .val (.int (Nat.toInt32 2)), .val (.int (y3 * 65536 + y4 * 256 + 0).toInt32)] rfl ?_
          refine r_iload d1_228 rfl ?_
          refine r_iconst (2 : Int32) rfl d1_230 ?_
          refine r_icmp_ne d1_231 (fun hc231 => ?_) (fun hc231 => ?_)
          · exfalso; exact hc231 (by decide)
          · refine r_getS (hw _ (List.mem_of_getElem? (i := 5) rfl)) (v := (.ref aT)) SB5 d1_234 ?_
            refine r_iload d1_237 rfl ?_
            refine r_bipush (6 : Int32) rfl d1_239 ?_
            refine r_iushr d1_241 ?_
            refine r_bipush (63 : Int32) rfl d1_242 ?_
            refine r_iand d1_244 ?_
            rw [own_s6 y3 y4 0 (by omega) (by omega) (by omega)]
            refine r_ldB (own_enc (y4 % 16 * 4 + 0 / 64)) (TB5) (n32_nn (by omega)) (by rw [n32_clamp (by omega)]; exact hT.2 _ (by omega)) d1_245 ?_
            refine r_goto d1_246 ?_
            refine r_stB ((((((a + 1) + 1) + 1) + 1) + 1) + 1) (((((((os.set a (own_enc (y0 / 4))).set (a + 1) (own_enc (y0 % 4 * 16 + y1 / 16))).set ((a + 1) + 1) (own_enc (y1 % 16 * 4 + y2 / 64))).set (((a + 1) + 1) + 1) (own_enc (y2 % 64))).set ((((a + 1) + 1) + 1) + 1) (own_enc (y3 / 4))).set (((((a + 1) + 1) + 1) + 1) + 1) (own_enc (y3 % 4 * 16 + y4 / 16))).set ((((((a + 1) + 1) + 1) + 1) + 1) + 1) (own_enc (y4 % 16 * 4 + 0 / 64))) O5 (n32_nn (by omega)) (n32_clamp (by omega)) (by first | omega | (simp only [List.length_set]; omega)) (by rw [own_encb _ (by omega)]) g4 d1_251 ?_
            intro hs6 W O6
            have B6 := B5.other W nBO
            have TB6 := TB5.other W nTO
            have SB6 := Sta.wr W SB5
            have K6 := Keep.wr K5 W (Or.inl (List.mem_of_getElem? (i := 0) rfl))
            refine r_aloadN d1_252 rfl rfl ?_
            refine r_iload d1_253 rfl ?_
            refine r_iinc d1_255 rfl (n32_add (((((((a + 1) + 1) + 1) + 1) + 1) + 1) + 1) 1) [.val (.ref a1), .val (.int f.toInt32), .val (.int (Nat.toInt32 5)), .val (.ref a4), .val (.int a.toInt32), .val (.int ((((((((a + 1) + 1) + 1) + 1) + 1) + 1) + 1) + 1).toInt32), .val (.int (f + 3).toInt32), .val (.int (Nat.toInt32 2)), .val (.int (y3 * 65536 + y4 * 256 + 0).toInt32)] rfl ?_
            refine r_bipush (61 : Int32) rfl d1_258 ?_
            refine r_stB (((((((a + 1) + 1) + 1) + 1) + 1) + 1) + 1) ((((((((os.set a (own_enc (y0 / 4))).set (a + 1) (own_enc (y0 % 4 * 16 + y1 / 16))).set ((a + 1) + 1) (own_enc (y1 % 16 * 4 + y2 / 64))).set (((a + 1) + 1) + 1) (own_enc (y2 % 64))).set ((((a + 1) + 1) + 1) + 1) (own_enc (y3 / 4))).set (((((a + 1) + 1) + 1) + 1) + 1) (own_enc (y3 % 4 * 16 + y4 / 16))).set ((((((a + 1) + 1) + 1) + 1) + 1) + 1) (own_enc (y4 % 16 * 4 + 0 / 64))).set (((((((a + 1) + 1) + 1) + 1) + 1) + 1) + 1) (61 : Int32)) O6 (n32_nn (by omega)) (n32_clamp (by omega)) (by first | omega | (simp only [List.length_set]; omega)) (by rw [show nar .byte (61 : Int32) = 61 from by decide]) g4 d1_260 ?_
            intro hs7 W O7
            have B7 := B6.other W nBO
            have TB7 := TB6.other W nTO
            have SB7 := Sta.wr W SB6
            have K7 := Keep.wr K6 W (Or.inl (List.mem_of_getElem? (i := 0) rfl))
            refine r_iload d1_261 rfl ?_
            refine r_iload d1_263 rfl ?_
            refine r_isub d1_265 ?_
            rw [n32_sub (a := ((((((((a + 1) + 1) + 1) + 1) + 1) + 1) + 1) + 1)) (b := a) (by omega), show ((((((((a + 1) + 1) + 1) + 1) + 1) + 1) + 1) + 1) - a = 8 by omega]
            refine r_iret d1_266 (by decide) (by decide) ?_
            refine ⟨rfl, K7, B7, ?_⟩
            have O' := O7
            subst e_y0 e_y1 e_y2 e_y3 e_y4
            exact O'
    · exfalso; have := (n32_lt (a := (f + 3)) (b := (f + 3)) (by omega) (by omega)).mp hc20; omega
set_option maxRecDepth 65536 in
set_option maxHeartbeats 40000000 in
theorem ct1_6 {l : Launch} {Z : State} {a0 : Array Value} (hw : ∀ d ∈ tables_1, d.before a0 Z = true) {n0 : Nat} {h0 : Heap} (a1 a4 aT : Addr) (f a : Nat) (vs os tb : List Int32) (B : Ary Z h0 a1 .byte vs) (hl : vs.length = 7) (O : Ary Z h0 a4 .byte os) (ho : os.length = 10) (SB : Sta Z h0 "com/example/quire/quire/core/ValueText" "BASE64" "[B" (.ref aT)) (TB : Ary Z h0 aT .byte tb) (hT : own_T tb) (nBO : a1 ≠ a4) (nTO : aT ≠ a4) (g4 : n0 ≤ a4) (hf : f ≤ 1) (ha : a ≤ 1) : Ct l ⟨"com/example/quire/quire/core/ValueText", "base64", "([BII[BI)I"⟩ prog_207_method_26_code 9 (some .int) [] ({ frames := 0, cells := 0, slots := 0, locals := 0 } : Room) Z n0 #[(.ref a1), (.int f.toInt32), (.int (Nat.toInt32 6)), (.ref a4), (.int a.toInt32)] h0 (fun v h => v = some (.int (own_olen 6).toInt32) ∧ Keep h0 h [a4] ∧ Ary Z h a1 .byte vs ∧ Ary Z h a4 .byte (own_put os a ((List.range (own_olen 6)).map (own_ch vs f 6)))) := by
  refine Ct.of (ls := [.val (.ref a1), .val (.int f.toInt32), .val (.int (Nat.toInt32 6)), .val (.ref a4), .val (.int a.toInt32), .unset, .unset, .unset, .unset]) pn1 (fun m => by first | (simp [entryFrame, mkF, argsToLocals, Value.category]; done) | rfl) ?_
  refine r_iload d1_0 rfl ?_
  refine r_istore d1_2 [.val (.ref a1), .val (.int f.toInt32), .val (.int (Nat.toInt32 6)), .val (.ref a4), .val (.int a.toInt32), .val (.int a.toInt32), .unset, .unset, .unset] rfl ?_
  refine r_iloadN d1_4 rfl ?_
  refine r_iloadN d1_5 rfl ?_
  refine r_iconst (3 : Int32) rfl d1_6 ?_
  refine r_idiv d1_7 (by decide) ?_
  refine r_iconst (3 : Int32) rfl d1_8 ?_
  refine r_imul d1_9 ?_
  refine r_iadd d1_10 ?_
  rw [show ((Nat.toInt32 6) / (3 : Int32)) * (3 : Int32) = Nat.toInt32 6 by decide, n32_add f 6]
  refine r_istore d1_11 [.val (.ref a1), .val (.int f.toInt32), .val (.int (Nat.toInt32 6)), .val (.ref a4), .val (.int a.toInt32), .val (.int a.toInt32), .val (.int (f + 6).toInt32), .unset, .unset] rfl ?_
  refine r_iloadN d1_13 rfl ?_
  change ORun _ _ _ _ _ _ _ _ _ _ _ _ _ _ _ [.int (f + 0).toInt32]
  refine r_istore d1_14 [.val (.ref a1), .val (.int f.toInt32), .val (.int (Nat.toInt32 6)), .val (.ref a4), .val (.int a.toInt32), .val (.int a.toInt32), .val (.int (f + 6).toInt32), .val (.int (f + 0).toInt32), .unset] rfl ?_
  refine r_iload d1_16 rfl ?_
  refine r_iload d1_18 rfl ?_
  refine r_icmp_ge d1_20 (fun hc20 => ?_) (fun hc20 => ?_)
  · exfalso; exact hc20 ((n32_lt (by omega) (by omega)).mpr (by omega))
  · refine r_aloadN d1_23 rfl rfl ?_
    refine r_iload d1_24 rfl ?_
    refine r_ldB (own_at vs (f + 0)) (B) (n32_nn (by omega)) (by rw [n32_clamp (by omega)]; exact own_get (by omega)) d1_26 ?_
    refine r_sipush (255 : Int32) rfl d1_27 ?_
    refine r_iand d1_30 ?_
    rw [own_bt_eq vs (f + 0)]
    obtain ⟨y0, e_y0⟩ : ∃ z, z = own_bt vs (f + 0) := ⟨_, rfl⟩
    have l_y0 : y0 < 256 := by rw [e_y0]; exact own_bt_lt _ _
    rw [← e_y0]
    refine r_bipush (16 : Int32) rfl d1_31 ?_
    refine r_ishl d1_33 ?_
    refine r_aloadN d1_34 rfl rfl ?_
    refine r_iload d1_35 rfl ?_
    refine r_iconst (1 : Int32) rfl d1_37 ?_
    refine r_iadd d1_38 ?_
    rw [show (f + 0).toInt32 + (1 : Int32) = (f + 1).toInt32 from n32_add (f + 0) 1]
    refine r_ldB (own_at vs (f + 1)) (B) (n32_nn (by omega)) (by rw [n32_clamp (by omega)]; exact own_get (by omega)) d1_39 ?_
    refine r_sipush (255 : Int32) rfl d1_40 ?_
    refine r_iand d1_43 ?_
    rw [own_bt_eq vs (f + 1)]
    obtain ⟨y1, e_y1⟩ : ∃ z, z = own_bt vs (f + 1) := ⟨_, rfl⟩
    have l_y1 : y1 < 256 := by rw [e_y1]; exact own_bt_lt _ _
    rw [← e_y1]
    refine r_bipush (8 : Int32) rfl d1_44 ?_
    refine r_ishl d1_46 ?_
    refine r_ior d1_47 ?_
    refine r_aloadN d1_48 rfl rfl ?_
    refine r_iload d1_49 rfl ?_
    refine r_iconst (2 : Int32) rfl d1_51 ?_
    refine r_iadd d1_52 ?_
    rw [show (f + 0).toInt32 + (2 : Int32) = (f + 2).toInt32 from n32_add (f + 0) 2]
    refine r_ldB (own_at vs (f + 2)) (B) (n32_nn (by omega)) (by rw [n32_clamp (by omega)]; exact own_get (by omega)) d1_53 ?_
    refine r_sipush (255 : Int32) rfl d1_54 ?_
    refine r_iand d1_57 ?_
    rw [own_bt_eq vs (f + 2)]
    obtain ⟨y2, e_y2⟩ : ∃ z, z = own_bt vs (f + 2) := ⟨_, rfl⟩
    have l_y2 : y2 < 256 := by rw [e_y2]; exact own_bt_lt _ _
    rw [← e_y2]
    refine r_ior d1_58 ?_
    rw [own_grp y0 y1 y2 (by omega) (by omega) (by omega)]
    refine r_istore d1_59 [.val (.ref a1), .val (.int f.toInt32), .val (.int (Nat.toInt32 6)), .val (.ref a4), .val (.int a.toInt32), .val (.int a.toInt32), .val (.int (f + 6).toInt32), .val (.int (f + 0).toInt32), .val (.int (y0 * 65536 + y1 * 256 + y2).toInt32)] rfl ?_
    refine r_aloadN d1_61 rfl rfl ?_
    refine r_iload d1_62 rfl ?_
    refine r_iinc d1_64 rfl (n32_add a 1) [.val (.ref a1), .val (.int f.toInt32), .val (.int (Nat.toInt32 6)), .val (.ref a4), .val (.int a.toInt32), .val (.int (a + 1).toInt32), .val (.int (f + 6).toInt32), .val (.int (f + 0).toInt32), .val (.int (y0 * 65536 + y1 * 256 + y2).toInt32)] rfl ?_
    refine r_getS (hw _ (List.mem_of_getElem? (i := 5) rfl)) (v := (.ref aT)) SB d1_67 ?_
    refine r_iload d1_70 rfl ?_
    refine r_bipush (18 : Int32) rfl d1_72 ?_
    refine r_iushr d1_74 ?_
    rw [own_s18 y0 y1 y2 (by omega) (by omega) (by omega)]
    refine r_ldB (own_enc (y0 / 4)) (TB) (n32_nn (by omega)) (by rw [n32_clamp (by omega)]; exact hT.2 _ (by omega)) d1_75 ?_
    refine r_stB a (os.set a (own_enc (y0 / 4))) O (n32_nn (by omega)) (n32_clamp (by omega)) (by first | omega | (simp only [List.length_set]; omega)) (by rw [own_encb _ (by omega)]) g4 d1_76 ?_
    intro hs0 W O0
    have B0 := B.other W nBO
    have TB0 := TB.other W nTO
    have SB0 := Sta.wr W SB
    have K0 := Keep.wr (Keep.refl h0 [a4]) W (Or.inl (List.mem_of_getElem? (i := 0) rfl))
    refine r_aloadN d1_77 rfl rfl ?_
    refine r_iload d1_78 rfl ?_
    refine r_iinc d1_80 rfl (n32_add (a + 1) 1) [.val (.ref a1), .val (.int f.toInt32), .val (.int (Nat.toInt32 6)), .val (.ref a4), .val (.int a.toInt32), .val (.int ((a + 1) + 1).toInt32), .val (.int (f + 6).toInt32), .val (.int (f + 0).toInt32), .val (.int (y0 * 65536 + y1 * 256 + y2).toInt32)] rfl ?_
    refine r_getS (hw _ (List.mem_of_getElem? (i := 5) rfl)) (v := (.ref aT)) SB0 d1_83 ?_
    refine r_iload d1_86 rfl ?_
    refine r_bipush (12 : Int32) rfl d1_88 ?_
    refine r_iushr d1_90 ?_
    refine r_bipush (63 : Int32) rfl d1_91 ?_
    refine r_iand d1_93 ?_
    rw [own_s12 y0 y1 y2 (by omega) (by omega) (by omega)]
    refine r_ldB (own_enc (y0 % 4 * 16 + y1 / 16)) (TB0) (n32_nn (by omega)) (by rw [n32_clamp (by omega)]; exact hT.2 _ (by omega)) d1_94 ?_
    refine r_stB (a + 1) ((os.set a (own_enc (y0 / 4))).set (a + 1) (own_enc (y0 % 4 * 16 + y1 / 16))) O0 (n32_nn (by omega)) (n32_clamp (by omega)) (by first | omega | (simp only [List.length_set]; omega)) (by rw [own_encb _ (by omega)]) g4 d1_95 ?_
    intro hs1 W O1
    have B1 := B0.other W nBO
    have TB1 := TB0.other W nTO
    have SB1 := Sta.wr W SB0
    have K1 := Keep.wr K0 W (Or.inl (List.mem_of_getElem? (i := 0) rfl))
    refine r_aloadN d1_96 rfl rfl ?_
    refine r_iload d1_97 rfl ?_
    refine r_iinc d1_99 rfl (n32_add ((a + 1) + 1) 1) [.val (.ref a1), .val (.int f.toInt32), .val (.int (Nat.toInt32 6)), .val (.ref a4), .val (.int a.toInt32), .val (.int (((a + 1) + 1) + 1).toInt32), .val (.int (f + 6).toInt32), .val (.int (f + 0).toInt32), .val (.int (y0 * 65536 + y1 * 256 + y2).toInt32)] rfl ?_
    refine r_getS (hw _ (List.mem_of_getElem? (i := 5) rfl)) (v := (.ref aT)) SB1 d1_102 ?_
    refine r_iload d1_105 rfl ?_
    refine r_bipush (6 : Int32) rfl d1_107 ?_
    refine r_iushr d1_109 ?_
    refine r_bipush (63 : Int32) rfl d1_110 ?_
    refine r_iand d1_112 ?_
    rw [own_s6 y0 y1 y2 (by omega) (by omega) (by omega)]
    refine r_ldB (own_enc (y1 % 16 * 4 + y2 / 64)) (TB1) (n32_nn (by omega)) (by rw [n32_clamp (by omega)]; exact hT.2 _ (by omega)) d1_113 ?_
    refine r_stB ((a + 1) + 1) (((os.set a (own_enc (y0 / 4))).set (a + 1) (own_enc (y0 % 4 * 16 + y1 / 16))).set ((a + 1) + 1) (own_enc (y1 % 16 * 4 + y2 / 64))) O1 (n32_nn (by omega)) (n32_clamp (by omega)) (by first | omega | (simp only [List.length_set]; omega)) (by rw [own_encb _ (by omega)]) g4 d1_114 ?_
    intro hs2 W O2
    have B2 := B1.other W nBO
    have TB2 := TB1.other W nTO
    have SB2 := Sta.wr W SB1
    have K2 := Keep.wr K1 W (Or.inl (List.mem_of_getElem? (i := 0) rfl))
    refine r_aloadN d1_115 rfl rfl ?_
    refine r_iload d1_116 rfl ?_
    refine r_iinc d1_118 rfl (n32_add (((a + 1) + 1) + 1) 1) [.val (.ref a1), .val (.int f.toInt32), .val (.int (Nat.toInt32 6)), .val (.ref a4), .val (.int a.toInt32), .val (.int ((((a + 1) + 1) + 1) + 1).toInt32), .val (.int (f + 6).toInt32), .val (.int (f + 0).toInt32), .val (.int (y0 * 65536 + y1 * 256 + y2).toInt32)] rfl ?_
    refine r_getS (hw _ (List.mem_of_getElem? (i := 5) rfl)) (v := (.ref aT)) SB2 d1_121 ?_
    refine r_iload d1_124 rfl ?_
    refine r_bipush (63 : Int32) rfl d1_126 ?_
    refine r_iand d1_128 ?_
    rw [own_s0 y0 y1 y2 (by omega) (by omega) (by omega)]
    refine r_ldB (own_enc (y2 % 64)) (TB2) (n32_nn (by omega)) (by rw [n32_clamp (by omega)]; exact hT.2 _ (by omega)) d1_129 ?_
    refine r_stB (((a + 1) + 1) + 1) ((((os.set a (own_enc (y0 / 4))).set (a + 1) (own_enc (y0 % 4 * 16 + y1 / 16))).set ((a + 1) + 1) (own_enc (y1 % 16 * 4 + y2 / 64))).set (((a + 1) + 1) + 1) (own_enc (y2 % 64))) O2 (n32_nn (by omega)) (n32_clamp (by omega)) (by first | omega | (simp only [List.length_set]; omega)) (by rw [own_encb _ (by omega)]) g4 d1_130 ?_
    intro hs3 W O3
    have B3 := B2.other W nBO
    have TB3 := TB2.other W nTO
    have SB3 := Sta.wr W SB2
    have K3 := Keep.wr K2 W (Or.inl (List.mem_of_getElem? (i := 0) rfl))
    refine r_iinc d1_131 rfl (n32_add (f + 0) 3) [.val (.ref a1), .val (.int f.toInt32), .val (.int (Nat.toInt32 6)), .val (.ref a4), .val (.int a.toInt32), .val (.int ((((a + 1) + 1) + 1) + 1).toInt32), .val (.int (f + 6).toInt32), .val (.int (f + 3).toInt32), .val (.int (y0 * 65536 + y1 * 256 + y2).toInt32)] rfl ?_
    refine r_goto d1_134 ?_
    refine r_iload d1_16 rfl ?_
    refine r_iload d1_18 rfl ?_
    refine r_icmp_ge d1_20 (fun hc20 => ?_) (fun hc20 => ?_)
    · exfalso; exact hc20 ((n32_lt (by omega) (by omega)).mpr (by omega))
    · refine r_aloadN d1_23 rfl rfl ?_
      refine r_iload d1_24 rfl ?_
      refine r_ldB (own_at vs (f + 3)) (B3) (n32_nn (by omega)) (by rw [n32_clamp (by omega)]; exact own_get (by omega)) d1_26 ?_
      refine r_sipush (255 : Int32) rfl d1_27 ?_
      refine r_iand d1_30 ?_
      rw [own_bt_eq vs (f + 3)]
      obtain ⟨y3, e_y3⟩ : ∃ z, z = own_bt vs (f + 3) := ⟨_, rfl⟩
      have l_y3 : y3 < 256 := by rw [e_y3]; exact own_bt_lt _ _
      rw [← e_y3]
      refine r_bipush (16 : Int32) rfl d1_31 ?_
      refine r_ishl d1_33 ?_
      refine r_aloadN d1_34 rfl rfl ?_
      refine r_iload d1_35 rfl ?_
      refine r_iconst (1 : Int32) rfl d1_37 ?_
      refine r_iadd d1_38 ?_
      rw [show (f + 3).toInt32 + (1 : Int32) = (f + 4).toInt32 from n32_add (f + 3) 1]
      refine r_ldB (own_at vs (f + 4)) (B3) (n32_nn (by omega)) (by rw [n32_clamp (by omega)]; exact own_get (by omega)) d1_39 ?_
      refine r_sipush (255 : Int32) rfl d1_40 ?_
      refine r_iand d1_43 ?_
      rw [own_bt_eq vs (f + 4)]
      obtain ⟨y4, e_y4⟩ : ∃ z, z = own_bt vs (f + 4) := ⟨_, rfl⟩
      have l_y4 : y4 < 256 := by rw [e_y4]; exact own_bt_lt _ _
      rw [← e_y4]
      refine r_bipush (8 : Int32) rfl d1_44 ?_
      refine r_ishl d1_46 ?_
      refine r_ior d1_47 ?_
      refine r_aloadN d1_48 rfl rfl ?_
      refine r_iload d1_49 rfl ?_
      refine r_iconst (2 : Int32) rfl d1_51 ?_
      refine r_iadd d1_52 ?_
      rw [show (f + 3).toInt32 + (2 : Int32) = (f + 5).toInt32 from n32_add (f + 3) 2]
      refine r_ldB (own_at vs (f + 5)) (B3) (n32_nn (by omega)) (by rw [n32_clamp (by omega)]; exact own_get (by omega)) d1_53 ?_
      refine r_sipush (255 : Int32) rfl d1_54 ?_
      refine r_iand d1_57 ?_
      rw [own_bt_eq vs (f + 5)]
      obtain ⟨y5, e_y5⟩ : ∃ z, z = own_bt vs (f + 5) := ⟨_, rfl⟩
      have l_y5 : y5 < 256 := by rw [e_y5]; exact own_bt_lt _ _
      rw [← e_y5]
      refine r_ior d1_58 ?_
      rw [own_grp y3 y4 y5 (by omega) (by omega) (by omega)]
      refine r_istore d1_59 [.val (.ref a1), .val (.int f.toInt32), .val (.int (Nat.toInt32 6)), .val (.ref a4), .val (.int a.toInt32), .val (.int ((((a + 1) + 1) + 1) + 1).toInt32), .val (.int (f + 6).toInt32), .val (.int (f + 3).toInt32), .val (.int (y3 * 65536 + y4 * 256 + y5).toInt32)] rfl ?_
      refine r_aloadN d1_61 rfl rfl ?_
      refine r_iload d1_62 rfl ?_
      refine r_iinc d1_64 rfl (n32_add ((((a + 1) + 1) + 1) + 1) 1) [.val (.ref a1), .val (.int f.toInt32), .val (.int (Nat.toInt32 6)), .val (.ref a4), .val (.int a.toInt32), .val (.int (((((a + 1) + 1) + 1) + 1) + 1).toInt32), .val (.int (f + 6).toInt32), .val (.int (f + 3).toInt32), .val (.int (y3 * 65536 + y4 * 256 + y5).toInt32)] rfl ?_
      refine r_getS (hw _ (List.mem_of_getElem? (i := 5) rfl)) (v := (.ref aT)) SB3 d1_67 ?_
      refine r_iload d1_70 rfl ?_
      refine r_bipush (18 : Int32) rfl d1_72 ?_
      refine r_iushr d1_74 ?_
      rw [own_s18 y3 y4 y5 (by omega) (by omega) (by omega)]
      refine r_ldB (own_enc (y3 / 4)) (TB3) (n32_nn (by omega)) (by rw [n32_clamp (by omega)]; exact hT.2 _ (by omega)) d1_75 ?_
      refine r_stB ((((a + 1) + 1) + 1) + 1) (((((os.set a (own_enc (y0 / 4))).set (a + 1) (own_enc (y0 % 4 * 16 + y1 / 16))).set ((a + 1) + 1) (own_enc (y1 % 16 * 4 + y2 / 64))).set (((a + 1) + 1) + 1) (own_enc (y2 % 64))).set ((((a + 1) + 1) + 1) + 1) (own_enc (y3 / 4))) O3 (n32_nn (by omega)) (n32_clamp (by omega)) (by first | omega | (simp only [List.length_set]; omega)) (by rw [own_encb _ (by omega)]) g4 d1_76 ?_
      intro hs4 W O4
      have B4 := B3.other W nBO
      have TB4 := TB3.other W nTO
      have SB4 := Sta.wr W SB3
      have K4 := Keep.wr K3 W (Or.inl (List.mem_of_getElem? (i := 0) rfl))
      refine r_aloadN d1_77 rfl rfl ?_
      refine r_iload d1_78 rfl ?_
      refine r_iinc d1_80 rfl (n32_add (((((a + 1) + 1) + 1) + 1) + 1) 1) [.val (.ref a1), .val (.int f.toInt32), .val (.int (Nat.toInt32 6)), .val (.ref a4), .val (.int a.toInt32), .val (.int ((((((a + 1) + 1) + 1) + 1) + 1) + 1).toInt32), .val (.int (f + 6).toInt32), .val (.int (f + 3).toInt32), .val (.int (y3 * 65536 + y4 * 256 + y5).toInt32)] rfl ?_
      refine r_getS (hw _ (List.mem_of_getElem? (i := 5) rfl)) (v := (.ref aT)) SB4 d1_83 ?_
      refine r_iload d1_86 rfl ?_
      refine r_bipush (12 : Int32) rfl d1_88 ?_
      refine r_iushr d1_90 ?_
      refine r_bipush (63 : Int32) rfl d1_91 ?_
      refine r_iand d1_93 ?_
      rw [own_s12 y3 y4 y5 (by omega) (by omega) (by omega)]
      refine r_ldB (own_enc (y3 % 4 * 16 + y4 / 16)) (TB4) (n32_nn (by omega)) (by rw [n32_clamp (by omega)]; exact hT.2 _ (by omega)) d1_94 ?_
      refine r_stB (((((a + 1) + 1) + 1) + 1) + 1) ((((((os.set a (own_enc (y0 / 4))).set (a + 1) (own_enc (y0 % 4 * 16 + y1 / 16))).set ((a + 1) + 1) (own_enc (y1 % 16 * 4 + y2 / 64))).set (((a + 1) + 1) + 1) (own_enc (y2 % 64))).set ((((a + 1) + 1) + 1) + 1) (own_enc (y3 / 4))).set (((((a + 1) + 1) + 1) + 1) + 1) (own_enc (y3 % 4 * 16 + y4 / 16))) O4 (n32_nn (by omega)) (n32_clamp (by omega)) (by first | omega | (simp only [List.length_set]; omega)) (by rw [own_encb _ (by omega)]) g4 d1_95 ?_
      intro hs5 W O5
      have B5 := B4.other W nBO
      have TB5 := TB4.other W nTO
      have SB5 := Sta.wr W SB4
      have K5 := Keep.wr K4 W (Or.inl (List.mem_of_getElem? (i := 0) rfl))
      refine r_aloadN d1_96 rfl rfl ?_
      refine r_iload d1_97 rfl ?_
      refine r_iinc d1_99 rfl (n32_add ((((((a + 1) + 1) + 1) + 1) + 1) + 1) 1) [.val (.ref a1), .val (.int f.toInt32), .val (.int (Nat.toInt32 6)), .val (.ref a4), .val (.int a.toInt32), .val (.int (((((((a + 1) + 1) + 1) + 1) + 1) + 1) + 1).toInt32), .val (.int (f + 6).toInt32), .val (.int (f + 3).toInt32), .val (.int (y3 * 65536 + y4 * 256 + y5).toInt32)] rfl ?_
      refine r_getS (hw _ (List.mem_of_getElem? (i := 5) rfl)) (v := (.ref aT)) SB5 d1_102 ?_
      refine r_iload d1_105 rfl ?_
      refine r_bipush (6 : Int32) rfl d1_107 ?_
      refine r_iushr d1_109 ?_
      refine r_bipush (63 : Int32) rfl d1_110 ?_
      refine r_iand d1_112 ?_
      rw [own_s6 y3 y4 y5 (by omega) (by omega) (by omega)]
      refine r_ldB (own_enc (y4 % 16 * 4 + y5 / 64)) (TB5) (n32_nn (by omega)) (by rw [n32_clamp (by omega)]; exact hT.2 _ (by omega)) d1_113 ?_
      refine r_stB ((((((a + 1) + 1) + 1) + 1) + 1) + 1) (((((((os.set a (own_enc (y0 / 4))).set (a + 1) (own_enc (y0 % 4 * 16 + y1 / 16))).set ((a + 1) + 1) (own_enc (y1 % 16 * 4 + y2 / 64))).set (((a + 1) + 1) + 1) (own_enc (y2 % 64))).set ((((a + 1) + 1) + 1) + 1) (own_enc (y3 / 4))).set (((((a + 1) + 1) + 1) + 1) + 1) (own_enc (y3 % 4 * 16 + y4 / 16))).set ((((((a + 1) + 1) + 1) + 1) + 1) + 1) (own_enc (y4 % 16 * 4 + y5 / 64))) O5 (n32_nn (by omega)) (n32_clamp (by omega)) (by first | omega | (simp only [List.length_set]; omega)) (by rw [own_encb _ (by omega)]) g4 d1_114 ?_
      intro hs6 W O6
      have B6 := B5.other W nBO
      have TB6 := TB5.other W nTO
      have SB6 := Sta.wr W SB5
      have K6 := Keep.wr K5 W (Or.inl (List.mem_of_getElem? (i := 0) rfl))
      refine r_aloadN d1_115 rfl rfl ?_
      refine r_iload d1_116 rfl ?_
      refine r_iinc d1_118 rfl (n32_add (((((((a + 1) + 1) + 1) + 1) + 1) + 1) + 1) 1) [.val (.ref a1), .val (.int f.toInt32), .val (.int (Nat.toInt32 6)), .val (.ref a4), .val (.int a.toInt32), .val (.int ((((((((a + 1) + 1) + 1) + 1) + 1) + 1) + 1) + 1).toInt32), .val (.int (f + 6).toInt32), .val (.int (f + 3).toInt32), .val (.int (y3 * 65536 + y4 * 256 + y5).toInt32)] rfl ?_
      refine r_getS (hw _ (List.mem_of_getElem? (i := 5) rfl)) (v := (.ref aT)) SB6 d1_121 ?_
      refine r_iload d1_124 rfl ?_
      refine r_bipush (63 : Int32) rfl d1_126 ?_
      refine r_iand d1_128 ?_
      rw [own_s0 y3 y4 y5 (by omega) (by omega) (by omega)]
      refine r_ldB (own_enc (y5 % 64)) (TB6) (n32_nn (by omega)) (by rw [n32_clamp (by omega)]; exact hT.2 _ (by omega)) d1_129 ?_
      refine r_stB (((((((a + 1) + 1) + 1) + 1) + 1) + 1) + 1) ((((((((os.set a (own_enc (y0 / 4))).set (a + 1) (own_enc (y0 % 4 * 16 + y1 / 16))).set ((a + 1) + 1) (own_enc (y1 % 16 * 4 + y2 / 64))).set (((a + 1) + 1) + 1) (own_enc (y2 % 64))).set ((((a + 1) + 1) + 1) + 1) (own_enc (y3 / 4))).set (((((a + 1) + 1) + 1) + 1) + 1) (own_enc (y3 % 4 * 16 + y4 / 16))).set ((((((a + 1) + 1) + 1) + 1) + 1) + 1) (own_enc (y4 % 16 * 4 + y5 / 64))).set (((((((a + 1) + 1) + 1) + 1) + 1) + 1) + 1) (own_enc (y5 % 64))) O6 (n32_nn (by omega)) (n32_clamp (by omega)) (by first | omega | (simp only [List.length_set]; omega)) (by rw [own_encb _ (by omega)]) g4 d1_130 ?_
      intro hs7 W O7
      have B7 := B6.other W nBO
      have TB7 := TB6.other W nTO
      have SB7 := Sta.wr W SB6
      have K7 := Keep.wr K6 W (Or.inl (List.mem_of_getElem? (i := 0) rfl))
      refine r_iinc d1_131 rfl (n32_add (f + 3) 3) [.val (.ref a1), .val (.int f.toInt32), .val (.int (Nat.toInt32 6)), .val (.ref a4), .val (.int a.toInt32), .val (.int ((((((((a + 1) + 1) + 1) + 1) + 1) + 1) + 1) + 1).toInt32), .val (.int (f + 6).toInt32), .val (.int (f + 6).toInt32), .val (.int (y3 * 65536 + y4 * 256 + y5).toInt32)] rfl ?_
      refine r_goto d1_134 ?_
      refine r_iload d1_16 rfl ?_
      refine r_iload d1_18 rfl ?_
      refine r_icmp_ge d1_20 (fun hc20 => ?_) (fun hc20 => ?_)
      · refine r_iloadN d1_137 rfl ?_
        refine r_iloadN d1_138 rfl ?_
        refine r_iadd d1_139 ?_
        rw [n32_add f 6]
        refine r_iload d1_140 rfl ?_
        refine r_isub d1_142 ?_
        rw [n32_sub (a := f + 6) (b := f + 6) (by omega), show f + 6 - (f + 6) = 0 by omega]
        refine r_istore d1_143 [.val (.ref a1), .val (.int f.toInt32), .val (.int (Nat.toInt32 6)), .val (.ref a4), .val (.int a.toInt32), .val (.int ((((((((a + 1) + 1) + 1) + 1) + 1) + 1) + 1) + 1).toInt32), .val (.int (f + 6).toInt32), .val (.int (Nat.toInt32 0)), .val (.int (y3 * 65536 + y4 * 256 + y5).toInt32)] rfl ?_
        refine r_iload d1_145 rfl ?_
        refine r_if_le d1_147 (fun hc147 => ?_) (fun hc147 => ?_)
        · refine r_iload d1_261 rfl ?_
          refine r_iload d1_263 rfl ?_
          refine r_isub d1_265 ?_
          rw [n32_sub (a := ((((((((a + 1) + 1) + 1) + 1) + 1) + 1) + 1) + 1)) (b := a) (by omega), show ((((((((a + 1) + 1) + 1) + 1) + 1) + 1) + 1) + 1) - a = 8 by omega]
          refine r_iret d1_266 (by decide) (by decide) ?_
          refine ⟨rfl, K7, B7, ?_⟩
          have O' := O7
          subst e_y0 e_y1 e_y2 e_y3 e_y4 e_y5
          exact O'
        · exfalso; exact absurd hc147 (by decide)
      · exfalso; have := (n32_lt (a := (f + 6)) (b := (f + 6)) (by omega) (by omega)).mp hc20; omega
theorem ct1 {l : Launch} {Z : State} {a0 : Array Value} (hw : ∀ d ∈ tables_1, d.before a0 Z = true) {n0 : Nat} {h0 : Heap} (n : Nat) (hn : n ≤ 6) (a1 a4 aT : Addr) (f a : Nat) (vs os tb : List Int32) (B : Ary Z h0 a1 .byte vs) (hl : vs.length = 7) (O : Ary Z h0 a4 .byte os) (ho : os.length = 10) (SB : Sta Z h0 "com/example/quire/quire/core/ValueText" "BASE64" "[B" (.ref aT)) (TB : Ary Z h0 aT .byte tb) (hT : own_T tb) (nBO : a1 ≠ a4) (nTO : aT ≠ a4) (g4 : n0 ≤ a4) (hf : f ≤ 1) (ha : a ≤ 1) : Ct l ⟨"com/example/quire/quire/core/ValueText", "base64", "([BII[BI)I"⟩ prog_207_method_26_code 9 (some .int) [] ({ frames := 0, cells := 0, slots := 0, locals := 0 } : Room) Z n0 #[(.ref a1), (.int f.toInt32), (.int n.toInt32), (.ref a4), (.int a.toInt32)] h0 (fun v h => v = some (.int (own_olen n).toInt32) ∧ Keep h0 h [a4] ∧ Ary Z h a1 .byte vs ∧ Ary Z h a4 .byte (own_put os a ((List.range (own_olen n)).map (own_ch vs f n)))) := by
  have : n = 0 ∨ n = 1 ∨ n = 2 ∨ n = 3 ∨ n = 4 ∨ n = 5 ∨ n = 6 := by omega
  rcases this with rfl | rfl | rfl | rfl | rfl | rfl | rfl
  · exact ct1_0 hw a1 a4 aT f a vs os tb B hl O ho SB TB hT nBO nTO g4 hf ha
  · exact ct1_1 hw a1 a4 aT f a vs os tb B hl O ho SB TB hT nBO nTO g4 hf ha
  · exact ct1_2 hw a1 a4 aT f a vs os tb B hl O ho SB TB hT nBO nTO g4 hf ha
  · exact ct1_3 hw a1 a4 aT f a vs os tb B hl O ho SB TB hT nBO nTO g4 hf ha
  · exact ct1_4 hw a1 a4 aT f a vs os tb B hl O ho SB TB hT nBO nTO g4 hf ha
  · exact ct1_5 hw a1 a4 aT f a vs os tb B hl O ho SB TB hT nBO nTO g4 hf ha
  · exact ct1_6 hw a1 a4 aT f a vs os tb B hl O ho SB TB hT nBO nTO g4 hf ha
theorem own_all (vs : List Int32) (f n a i : Nat) (os : List Int32) (ho : os.length = 10) (h42 : ∀ j : Fin 10, os[j.1]? = some 42) (hn : n ≤ 6) (ha : a ≤ 1) (hi : i < 10) : own_at (own_put os a ((List.range (own_olen n)).map (own_ch vs f n))) i = own_E vs f n a i := by
  have h8 := own_olen_le n
  unfold own_at own_E
  rw [own_put_at _ _ _ _ (by simp; omega)]
  simp only [List.length_map, List.length_range]
  by_cases c : i < a
  · rw [if_neg (by omega), if_pos c, h42 ⟨i, hi⟩]; rfl
  · rw [if_neg c]
    by_cases d : i - a < own_olen n
    · rw [if_pos (by omega), if_pos d, List.getElem?_map, List.getElem?_range d]; rfl
    · rw [if_neg (by omega), if_neg d, h42 ⟨i, hi⟩]; rfl
theorem d0_0 : D code 0 (.bipush 7) 2 2 := ⟨by decide +kernel, rfl⟩
theorem d0_2 : D code 2 (.newarray .byte) 2 4 := ⟨by decide +kernel, rfl⟩
theorem d0_4 : D code 4 (.astore_n 3) 1 5 := ⟨by decide +kernel, rfl⟩
theorem d0_5 : D code 5 (.aload_n 3) 1 6 := ⟨by decide +kernel, rfl⟩
theorem d0_6 : D code 6 (.iconst 0) 1 7 := ⟨by decide +kernel, rfl⟩
theorem d0_7 : D code 7 (.iload_n 0) 1 8 := ⟨by decide +kernel, rfl⟩
theorem d0_8 : D code 8 (.i2b) 1 9 := ⟨by decide +kernel, rfl⟩
theorem d0_9 : D code 9 (.bastore) 1 10 := ⟨by decide +kernel, rfl⟩
theorem d0_10 : D code 10 (.aload_n 3) 1 11 := ⟨by decide +kernel, rfl⟩
theorem d0_11 : D code 11 (.iconst 1) 1 12 := ⟨by decide +kernel, rfl⟩
theorem d0_12 : D code 12 (.iload_n 0) 1 13 := ⟨by decide +kernel, rfl⟩
theorem d0_13 : D code 13 (.bipush 8) 2 15 := ⟨by decide +kernel, rfl⟩
theorem d0_15 : D code 15 (.ishr) 1 16 := ⟨by decide +kernel, rfl⟩
theorem d0_16 : D code 16 (.i2b) 1 17 := ⟨by decide +kernel, rfl⟩
theorem d0_17 : D code 17 (.bastore) 1 18 := ⟨by decide +kernel, rfl⟩
theorem d0_18 : D code 18 (.aload_n 3) 1 19 := ⟨by decide +kernel, rfl⟩
theorem d0_19 : D code 19 (.iconst 2) 1 20 := ⟨by decide +kernel, rfl⟩
theorem d0_20 : D code 20 (.iload_n 0) 1 21 := ⟨by decide +kernel, rfl⟩
theorem d0_21 : D code 21 (.bipush 16) 2 23 := ⟨by decide +kernel, rfl⟩
theorem d0_23 : D code 23 (.ishr) 1 24 := ⟨by decide +kernel, rfl⟩
theorem d0_24 : D code 24 (.i2b) 1 25 := ⟨by decide +kernel, rfl⟩
theorem d0_25 : D code 25 (.bastore) 1 26 := ⟨by decide +kernel, rfl⟩
theorem d0_26 : D code 26 (.aload_n 3) 1 27 := ⟨by decide +kernel, rfl⟩
theorem d0_27 : D code 27 (.iconst 3) 1 28 := ⟨by decide +kernel, rfl⟩
theorem d0_28 : D code 28 (.iload_n 0) 1 29 := ⟨by decide +kernel, rfl⟩
theorem d0_29 : D code 29 (.bipush 24) 2 31 := ⟨by decide +kernel, rfl⟩
theorem d0_31 : D code 31 (.ishr) 1 32 := ⟨by decide +kernel, rfl⟩
theorem d0_32 : D code 32 (.i2b) 1 33 := ⟨by decide +kernel, rfl⟩
theorem d0_33 : D code 33 (.bastore) 1 34 := ⟨by decide +kernel, rfl⟩
theorem d0_34 : D code 34 (.aload_n 3) 1 35 := ⟨by decide +kernel, rfl⟩
theorem d0_35 : D code 35 (.iconst 4) 1 36 := ⟨by decide +kernel, rfl⟩
theorem d0_36 : D code 36 (.iload_n 1) 1 37 := ⟨by decide +kernel, rfl⟩
theorem d0_37 : D code 37 (.i2b) 1 38 := ⟨by decide +kernel, rfl⟩
theorem d0_38 : D code 38 (.bastore) 1 39 := ⟨by decide +kernel, rfl⟩
theorem d0_39 : D code 39 (.aload_n 3) 1 40 := ⟨by decide +kernel, rfl⟩
theorem d0_40 : D code 40 (.iconst 5) 1 41 := ⟨by decide +kernel, rfl⟩
theorem d0_41 : D code 41 (.iload_n 1) 1 42 := ⟨by decide +kernel, rfl⟩
theorem d0_42 : D code 42 (.bipush 8) 2 44 := ⟨by decide +kernel, rfl⟩
theorem d0_44 : D code 44 (.ishr) 1 45 := ⟨by decide +kernel, rfl⟩
theorem d0_45 : D code 45 (.i2b) 1 46 := ⟨by decide +kernel, rfl⟩
theorem d0_46 : D code 46 (.bastore) 1 47 := ⟨by decide +kernel, rfl⟩
theorem d0_47 : D code 47 (.aload_n 3) 1 48 := ⟨by decide +kernel, rfl⟩
theorem d0_48 : D code 48 (.bipush 6) 2 50 := ⟨by decide +kernel, rfl⟩
theorem d0_50 : D code 50 (.iload_n 1) 1 51 := ⟨by decide +kernel, rfl⟩
theorem d0_51 : D code 51 (.bipush 16) 2 53 := ⟨by decide +kernel, rfl⟩
theorem d0_53 : D code 53 (.ishr) 1 54 := ⟨by decide +kernel, rfl⟩
theorem d0_54 : D code 54 (.i2b) 1 55 := ⟨by decide +kernel, rfl⟩
theorem d0_55 : D code 55 (.bastore) 1 56 := ⟨by decide +kernel, rfl⟩
theorem d0_56 : D code 56 (.iload_n 2) 1 57 := ⟨by decide +kernel, rfl⟩
theorem d0_57 : D code 57 (.bipush 7) 2 59 := ⟨by decide +kernel, rfl⟩
theorem d0_59 : D code 59 (.iand) 1 60 := ⟨by decide +kernel, rfl⟩
theorem d0_60 : D code 60 (.bipush 7) 2 62 := ⟨by decide +kernel, rfl⟩
theorem d0_62 : D code 62 (.irem) 1 63 := ⟨by decide +kernel, rfl⟩
theorem d0_63 : D code 63 (.istore 4) 2 65 := ⟨by decide +kernel, rfl⟩
theorem d0_65 : D code 65 (.iload_n 2) 1 66 := ⟨by decide +kernel, rfl⟩
theorem d0_66 : D code 66 (.iconst 3) 1 67 := ⟨by decide +kernel, rfl⟩
theorem d0_67 : D code 67 (.iushr) 1 68 := ⟨by decide +kernel, rfl⟩
theorem d0_68 : D code 68 (.iconst 1) 1 69 := ⟨by decide +kernel, rfl⟩
theorem d0_69 : D code 69 (.iand) 1 70 := ⟨by decide +kernel, rfl⟩
theorem d0_70 : D code 70 (.istore 5) 2 72 := ⟨by decide +kernel, rfl⟩
theorem d0_72 : D code 72 (.iload_n 2) 1 73 := ⟨by decide +kernel, rfl⟩
theorem d0_73 : D code 73 (.iconst 4) 1 74 := ⟨by decide +kernel, rfl⟩
theorem d0_74 : D code 74 (.iushr) 1 75 := ⟨by decide +kernel, rfl⟩
theorem d0_75 : D code 75 (.iconst 1) 1 76 := ⟨by decide +kernel, rfl⟩
theorem d0_76 : D code 76 (.iand) 1 77 := ⟨by decide +kernel, rfl⟩
theorem d0_77 : D code 77 (.istore 6) 2 79 := ⟨by decide +kernel, rfl⟩
theorem d0_79 : D code 79 (.bipush 42) 2 81 := ⟨by decide +kernel, rfl⟩
theorem d0_81 : D code 81 (.istore 7) 2 83 := ⟨by decide +kernel, rfl⟩
theorem d0_83 : D code 83 (.bipush 10) 2 85 := ⟨by decide +kernel, rfl⟩
theorem d0_85 : D code 85 (.newarray .byte) 2 87 := ⟨by decide +kernel, rfl⟩
theorem d0_87 : D code 87 (.astore 8) 2 89 := ⟨by decide +kernel, rfl⟩
theorem d0_89 : D code 89 (.aload 8) 2 91 := ⟨by decide +kernel, rfl⟩
theorem d0_91 : D code 91 (.iconst 0) 1 92 := ⟨by decide +kernel, rfl⟩
theorem d0_92 : D code 92 (.iload 7) 2 94 := ⟨by decide +kernel, rfl⟩
theorem d0_94 : D code 94 (.bastore) 1 95 := ⟨by decide +kernel, rfl⟩
theorem d0_95 : D code 95 (.aload 8) 2 97 := ⟨by decide +kernel, rfl⟩
theorem d0_97 : D code 97 (.iconst 1) 1 98 := ⟨by decide +kernel, rfl⟩
theorem d0_98 : D code 98 (.iload 7) 2 100 := ⟨by decide +kernel, rfl⟩
theorem d0_100 : D code 100 (.bastore) 1 101 := ⟨by decide +kernel, rfl⟩
theorem d0_101 : D code 101 (.aload 8) 2 103 := ⟨by decide +kernel, rfl⟩
theorem d0_103 : D code 103 (.iconst 2) 1 104 := ⟨by decide +kernel, rfl⟩
theorem d0_104 : D code 104 (.iload 7) 2 106 := ⟨by decide +kernel, rfl⟩
theorem d0_106 : D code 106 (.bastore) 1 107 := ⟨by decide +kernel, rfl⟩
theorem d0_107 : D code 107 (.aload 8) 2 109 := ⟨by decide +kernel, rfl⟩
theorem d0_109 : D code 109 (.iconst 3) 1 110 := ⟨by decide +kernel, rfl⟩
theorem d0_110 : D code 110 (.iload 7) 2 112 := ⟨by decide +kernel, rfl⟩
theorem d0_112 : D code 112 (.bastore) 1 113 := ⟨by decide +kernel, rfl⟩
theorem d0_113 : D code 113 (.aload 8) 2 115 := ⟨by decide +kernel, rfl⟩
theorem d0_115 : D code 115 (.iconst 4) 1 116 := ⟨by decide +kernel, rfl⟩
theorem d0_116 : D code 116 (.iload 7) 2 118 := ⟨by decide +kernel, rfl⟩
theorem d0_118 : D code 118 (.bastore) 1 119 := ⟨by decide +kernel, rfl⟩
theorem d0_119 : D code 119 (.aload 8) 2 121 := ⟨by decide +kernel, rfl⟩
theorem d0_121 : D code 121 (.iconst 5) 1 122 := ⟨by decide +kernel, rfl⟩
theorem d0_122 : D code 122 (.iload 7) 2 124 := ⟨by decide +kernel, rfl⟩
theorem d0_124 : D code 124 (.bastore) 1 125 := ⟨by decide +kernel, rfl⟩
theorem d0_125 : D code 125 (.aload 8) 2 127 := ⟨by decide +kernel, rfl⟩
theorem d0_127 : D code 127 (.bipush 6) 2 129 := ⟨by decide +kernel, rfl⟩
theorem d0_129 : D code 129 (.iload 7) 2 131 := ⟨by decide +kernel, rfl⟩
theorem d0_131 : D code 131 (.bastore) 1 132 := ⟨by decide +kernel, rfl⟩
theorem d0_132 : D code 132 (.aload 8) 2 134 := ⟨by decide +kernel, rfl⟩
theorem d0_134 : D code 134 (.bipush 7) 2 136 := ⟨by decide +kernel, rfl⟩
theorem d0_136 : D code 136 (.iload 7) 2 138 := ⟨by decide +kernel, rfl⟩
theorem d0_138 : D code 138 (.bastore) 1 139 := ⟨by decide +kernel, rfl⟩
theorem d0_139 : D code 139 (.aload 8) 2 141 := ⟨by decide +kernel, rfl⟩
theorem d0_141 : D code 141 (.bipush 8) 2 143 := ⟨by decide +kernel, rfl⟩
theorem d0_143 : D code 143 (.iload 7) 2 145 := ⟨by decide +kernel, rfl⟩
theorem d0_145 : D code 145 (.bastore) 1 146 := ⟨by decide +kernel, rfl⟩
theorem d0_146 : D code 146 (.aload 8) 2 148 := ⟨by decide +kernel, rfl⟩
theorem d0_148 : D code 148 (.bipush 9) 2 150 := ⟨by decide +kernel, rfl⟩
theorem d0_150 : D code 150 (.iload 7) 2 152 := ⟨by decide +kernel, rfl⟩
theorem d0_152 : D code 152 (.bastore) 1 153 := ⟨by decide +kernel, rfl⟩
theorem d0_153 : D code 153 (.iload 4) 2 155 := ⟨by decide +kernel, rfl⟩
theorem d0_155 : DB code 155 (.ifCond .ne) 7 158 162 := ⟨by decide +kernel, rfl, by decide, by decide⟩
theorem d0_158 : D code 158 (.iconst 0) 1 159 := ⟨by decide +kernel, rfl⟩
theorem d0_159 : DB code 159 (.goto) 15 162 174 := ⟨by decide +kernel, rfl, by decide, by decide⟩
theorem d0_162 : D code 162 (.iload 4) 2 164 := ⟨by decide +kernel, rfl⟩
theorem d0_164 : D code 164 (.iconst 3) 1 165 := ⟨by decide +kernel, rfl⟩
theorem d0_165 : DB code 165 (.if_icmp .gt) 7 168 172 := ⟨by decide +kernel, rfl, by decide, by decide⟩
theorem d0_168 : D code 168 (.iconst 4) 1 169 := ⟨by decide +kernel, rfl⟩
theorem d0_169 : DB code 169 (.goto) 5 172 174 := ⟨by decide +kernel, rfl, by decide, by decide⟩
theorem d0_172 : D code 172 (.bipush 8) 2 174 := ⟨by decide +kernel, rfl⟩
theorem d0_174 : D code 174 (.istore 9) 2 176 := ⟨by decide +kernel, rfl⟩
theorem d0_176 : D code 176 (.aload_n 3) 1 177 := ⟨by decide +kernel, rfl⟩
theorem d0_177 : D code 177 (.iload 5) 2 179 := ⟨by decide +kernel, rfl⟩
theorem d0_179 : D code 179 (.iload 4) 2 181 := ⟨by decide +kernel, rfl⟩
theorem d0_181 : D code 181 (.aload 8) 2 183 := ⟨by decide +kernel, rfl⟩
theorem d0_183 : D code 183 (.iload 6) 2 185 := ⟨by decide +kernel, rfl⟩
theorem d0_185 : D code 185 (.invokestatic 7) 3 188 := ⟨by decide +kernel, rfl⟩
theorem d0_188 : D code 188 (.istore 10) 2 190 := ⟨by decide +kernel, rfl⟩
theorem d0_190 : D code 190 (.iload 10) 2 192 := ⟨by decide +kernel, rfl⟩
theorem d0_192 : D code 192 (.iload 9) 2 194 := ⟨by decide +kernel, rfl⟩
theorem d0_194 : DB code 194 (.if_icmp .ne) 191 197 385 := ⟨by decide +kernel, rfl, by decide, by decide⟩
theorem d0_197 : D code 197 (.aload 8) 2 199 := ⟨by decide +kernel, rfl⟩
theorem d0_199 : D code 199 (.aload_n 3) 1 200 := ⟨by decide +kernel, rfl⟩
theorem d0_200 : D code 200 (.iload 5) 2 202 := ⟨by decide +kernel, rfl⟩
theorem d0_202 : D code 202 (.iload 4) 2 204 := ⟨by decide +kernel, rfl⟩
theorem d0_204 : D code 204 (.iload 6) 2 206 := ⟨by decide +kernel, rfl⟩
theorem d0_206 : D code 206 (.iload 9) 2 208 := ⟨by decide +kernel, rfl⟩
theorem d0_208 : D code 208 (.iconst 0) 1 209 := ⟨by decide +kernel, rfl⟩
theorem d0_209 : D code 209 (.invokestatic 13) 3 212 := ⟨by decide +kernel, rfl⟩
theorem d0_212 : DB code 212 (.ifCond .eq) 173 215 385 := ⟨by decide +kernel, rfl, by decide, by decide⟩
theorem d0_215 : D code 215 (.aload 8) 2 217 := ⟨by decide +kernel, rfl⟩
theorem d0_217 : D code 217 (.aload_n 3) 1 218 := ⟨by decide +kernel, rfl⟩
theorem d0_218 : D code 218 (.iload 5) 2 220 := ⟨by decide +kernel, rfl⟩
theorem d0_220 : D code 220 (.iload 4) 2 222 := ⟨by decide +kernel, rfl⟩
theorem d0_222 : D code 222 (.iload 6) 2 224 := ⟨by decide +kernel, rfl⟩
theorem d0_224 : D code 224 (.iload 9) 2 226 := ⟨by decide +kernel, rfl⟩
theorem d0_226 : D code 226 (.iconst 1) 1 227 := ⟨by decide +kernel, rfl⟩
theorem d0_227 : D code 227 (.invokestatic 13) 3 230 := ⟨by decide +kernel, rfl⟩
theorem d0_230 : DB code 230 (.ifCond .eq) 155 233 385 := ⟨by decide +kernel, rfl, by decide, by decide⟩
theorem d0_233 : D code 233 (.aload 8) 2 235 := ⟨by decide +kernel, rfl⟩
theorem d0_235 : D code 235 (.aload_n 3) 1 236 := ⟨by decide +kernel, rfl⟩
theorem d0_236 : D code 236 (.iload 5) 2 238 := ⟨by decide +kernel, rfl⟩
theorem d0_238 : D code 238 (.iload 4) 2 240 := ⟨by decide +kernel, rfl⟩
theorem d0_240 : D code 240 (.iload 6) 2 242 := ⟨by decide +kernel, rfl⟩
theorem d0_242 : D code 242 (.iload 9) 2 244 := ⟨by decide +kernel, rfl⟩
theorem d0_244 : D code 244 (.iconst 2) 1 245 := ⟨by decide +kernel, rfl⟩
theorem d0_245 : D code 245 (.invokestatic 13) 3 248 := ⟨by decide +kernel, rfl⟩
theorem d0_248 : DB code 248 (.ifCond .eq) 137 251 385 := ⟨by decide +kernel, rfl, by decide, by decide⟩
theorem d0_251 : D code 251 (.aload 8) 2 253 := ⟨by decide +kernel, rfl⟩
theorem d0_253 : D code 253 (.aload_n 3) 1 254 := ⟨by decide +kernel, rfl⟩
theorem d0_254 : D code 254 (.iload 5) 2 256 := ⟨by decide +kernel, rfl⟩
theorem d0_256 : D code 256 (.iload 4) 2 258 := ⟨by decide +kernel, rfl⟩
theorem d0_258 : D code 258 (.iload 6) 2 260 := ⟨by decide +kernel, rfl⟩
theorem d0_260 : D code 260 (.iload 9) 2 262 := ⟨by decide +kernel, rfl⟩
theorem d0_262 : D code 262 (.iconst 3) 1 263 := ⟨by decide +kernel, rfl⟩
theorem d0_263 : D code 263 (.invokestatic 13) 3 266 := ⟨by decide +kernel, rfl⟩
theorem d0_266 : DB code 266 (.ifCond .eq) 119 269 385 := ⟨by decide +kernel, rfl, by decide, by decide⟩
theorem d0_269 : D code 269 (.aload 8) 2 271 := ⟨by decide +kernel, rfl⟩
theorem d0_271 : D code 271 (.aload_n 3) 1 272 := ⟨by decide +kernel, rfl⟩
theorem d0_272 : D code 272 (.iload 5) 2 274 := ⟨by decide +kernel, rfl⟩
theorem d0_274 : D code 274 (.iload 4) 2 276 := ⟨by decide +kernel, rfl⟩
theorem d0_276 : D code 276 (.iload 6) 2 278 := ⟨by decide +kernel, rfl⟩
theorem d0_278 : D code 278 (.iload 9) 2 280 := ⟨by decide +kernel, rfl⟩
theorem d0_280 : D code 280 (.iconst 4) 1 281 := ⟨by decide +kernel, rfl⟩
theorem d0_281 : D code 281 (.invokestatic 13) 3 284 := ⟨by decide +kernel, rfl⟩
theorem d0_284 : DB code 284 (.ifCond .eq) 101 287 385 := ⟨by decide +kernel, rfl, by decide, by decide⟩
theorem d0_287 : D code 287 (.aload 8) 2 289 := ⟨by decide +kernel, rfl⟩
theorem d0_289 : D code 289 (.aload_n 3) 1 290 := ⟨by decide +kernel, rfl⟩
theorem d0_290 : D code 290 (.iload 5) 2 292 := ⟨by decide +kernel, rfl⟩
theorem d0_292 : D code 292 (.iload 4) 2 294 := ⟨by decide +kernel, rfl⟩
theorem d0_294 : D code 294 (.iload 6) 2 296 := ⟨by decide +kernel, rfl⟩
theorem d0_296 : D code 296 (.iload 9) 2 298 := ⟨by decide +kernel, rfl⟩
theorem d0_298 : D code 298 (.iconst 5) 1 299 := ⟨by decide +kernel, rfl⟩
theorem d0_299 : D code 299 (.invokestatic 13) 3 302 := ⟨by decide +kernel, rfl⟩
theorem d0_302 : DB code 302 (.ifCond .eq) 83 305 385 := ⟨by decide +kernel, rfl, by decide, by decide⟩
theorem d0_305 : D code 305 (.aload 8) 2 307 := ⟨by decide +kernel, rfl⟩
theorem d0_307 : D code 307 (.aload_n 3) 1 308 := ⟨by decide +kernel, rfl⟩
theorem d0_308 : D code 308 (.iload 5) 2 310 := ⟨by decide +kernel, rfl⟩
theorem d0_310 : D code 310 (.iload 4) 2 312 := ⟨by decide +kernel, rfl⟩
theorem d0_312 : D code 312 (.iload 6) 2 314 := ⟨by decide +kernel, rfl⟩
theorem d0_314 : D code 314 (.iload 9) 2 316 := ⟨by decide +kernel, rfl⟩
theorem d0_316 : D code 316 (.bipush 6) 2 318 := ⟨by decide +kernel, rfl⟩
theorem d0_318 : D code 318 (.invokestatic 13) 3 321 := ⟨by decide +kernel, rfl⟩
theorem d0_321 : DB code 321 (.ifCond .eq) 64 324 385 := ⟨by decide +kernel, rfl, by decide, by decide⟩
theorem d0_324 : D code 324 (.aload 8) 2 326 := ⟨by decide +kernel, rfl⟩
theorem d0_326 : D code 326 (.aload_n 3) 1 327 := ⟨by decide +kernel, rfl⟩
theorem d0_327 : D code 327 (.iload 5) 2 329 := ⟨by decide +kernel, rfl⟩
theorem d0_329 : D code 329 (.iload 4) 2 331 := ⟨by decide +kernel, rfl⟩
theorem d0_331 : D code 331 (.iload 6) 2 333 := ⟨by decide +kernel, rfl⟩
theorem d0_333 : D code 333 (.iload 9) 2 335 := ⟨by decide +kernel, rfl⟩
theorem d0_335 : D code 335 (.bipush 7) 2 337 := ⟨by decide +kernel, rfl⟩
theorem d0_337 : D code 337 (.invokestatic 13) 3 340 := ⟨by decide +kernel, rfl⟩
theorem d0_340 : DB code 340 (.ifCond .eq) 45 343 385 := ⟨by decide +kernel, rfl, by decide, by decide⟩
theorem d0_343 : D code 343 (.aload 8) 2 345 := ⟨by decide +kernel, rfl⟩
theorem d0_345 : D code 345 (.aload_n 3) 1 346 := ⟨by decide +kernel, rfl⟩
theorem d0_346 : D code 346 (.iload 5) 2 348 := ⟨by decide +kernel, rfl⟩
theorem d0_348 : D code 348 (.iload 4) 2 350 := ⟨by decide +kernel, rfl⟩
theorem d0_350 : D code 350 (.iload 6) 2 352 := ⟨by decide +kernel, rfl⟩
theorem d0_352 : D code 352 (.iload 9) 2 354 := ⟨by decide +kernel, rfl⟩
theorem d0_354 : D code 354 (.bipush 8) 2 356 := ⟨by decide +kernel, rfl⟩
theorem d0_356 : D code 356 (.invokestatic 13) 3 359 := ⟨by decide +kernel, rfl⟩
theorem d0_359 : DB code 359 (.ifCond .eq) 26 362 385 := ⟨by decide +kernel, rfl, by decide, by decide⟩
theorem d0_362 : D code 362 (.aload 8) 2 364 := ⟨by decide +kernel, rfl⟩
theorem d0_364 : D code 364 (.aload_n 3) 1 365 := ⟨by decide +kernel, rfl⟩
theorem d0_365 : D code 365 (.iload 5) 2 367 := ⟨by decide +kernel, rfl⟩
theorem d0_367 : D code 367 (.iload 4) 2 369 := ⟨by decide +kernel, rfl⟩
theorem d0_369 : D code 369 (.iload 6) 2 371 := ⟨by decide +kernel, rfl⟩
theorem d0_371 : D code 371 (.iload 9) 2 373 := ⟨by decide +kernel, rfl⟩
theorem d0_373 : D code 373 (.bipush 9) 2 375 := ⟨by decide +kernel, rfl⟩
theorem d0_375 : D code 375 (.invokestatic 13) 3 378 := ⟨by decide +kernel, rfl⟩
theorem d0_378 : DB code 378 (.ifCond .eq) 7 381 385 := ⟨by decide +kernel, rfl, by decide, by decide⟩
theorem d0_381 : D code 381 (.iconst 1) 1 382 := ⟨by decide +kernel, rfl⟩
theorem d0_382 : DB code 382 (.goto) 4 385 386 := ⟨by decide +kernel, rfl, by decide, by decide⟩
theorem d0_386 : D code 386 (.ireturn) 1 387 := ⟨by decide +kernel, rfl⟩
theorem pd0_0 : parseMethodDescriptor "([BII[BI)I" = some ⟨[(.array .byte), .int, .int, (.array .byte), .int], some .int⟩ := by decide +kernel
theorem pd0_1 : parseMethodDescriptor "([B[BIIIII)Z" = some ⟨[(.array .byte), (.array .byte), .int, .int, .int, .int, .int], some .boolean⟩ := by decide +kernel
theorem pn0 : plainFor (⟨"com/example/quire/quire/core/ValueTextBase64PinLaw", "law", "(III)Z"⟩ : MethodName) = true := by first | exact plainFor_of_name (by first | (simp [plainName, overriddenIn]; done) | decide +kernel) | exact Jvm.Free.JP.mathPlain rfl (by decide +kernel) | decide +kernel
set_option maxRecDepth 65536 in
set_option maxHeartbeats 40000000 in
theorem ct0 {l : Launch} {Z : State} {a0 : Array Value} (hw : ∀ d ∈ tables_1, d.before a0 Z = true) {n0 : Nat} {h0 : Heap} (hz : n0 ≤ h0.size) (p1 p2 p3 : Int32) (aT : Addr) (tb : List Int32) (SB : Sta Z h0 "com/example/quire/quire/core/ValueText" "BASE64" "[B" (.ref aT)) (TB : Ary Z h0 aT .byte tb) (hT : own_T tb) : Ct l x code maxLocals ret tables_1 room_1 Z n0 #[(.int p1), (.int p2), (.int p3)] h0 (fun v h => v = some (.int 1)) := by
  refine Ct.of (ls := [.val (.int p1), .val (.int p2), .val (.int p3), .unset, .unset, .unset, .unset, .unset, .unset, .unset, .unset]) pn0 (fun m => by first | (simp [entryFrame, mkF, argsToLocals, Value.category, maxLocals]; done) | rfl) ?_
  refine r_bipush (7 : Int32) rfl d0_0 ?_
  refine r_newarr 7 (hw _ (List.mem_of_getElem? (i := 0) rfl)) d0_2 (by decide) (by decide) (by decide) (by decide) (by decide) ?_
  intro hn2 cA2 E2 A2
  obtain ⟨b2, g2⟩ : ∃ z, z = h0.size := ⟨_, rfl⟩
  rw [← g2] at A2 ⊢
  have V2 : Ary Z hn2 b2 .byte [0, 0, 0, 0, 0, 0, 0] := Ary.new A2 rfl rfl
  show ORun _ _ _ _ _ _ _ _ _ _ hn2 1 7 4 [.val (.int p1), .val (.int p2), .val (.int p3), .unset, .unset, .unset, .unset, .unset, .unset, .unset, .unset] [(.ref b2)]
  have ge2 : n0 ≤ b2 := by rw [g2]; exact hz
  refine r_astoreN d0_4 rfl [.val (.int p1), .val (.int p2), .val (.int p3), .val (.ref b2), .unset, .unset, .unset, .unset, .unset, .unset, .unset] rfl ?_
  refine r_aloadN d0_5 rfl rfl ?_
  refine r_iconst (0 : Int32) rfl d0_6 ?_
  refine r_iloadN d0_7 rfl ?_
  refine r_i2b d0_8 ?_
  refine r_stB 0 [(nar .byte (p1.toInt8.toInt32)), (0 : Int32), (0 : Int32), (0 : Int32), (0 : Int32), (0 : Int32), (0 : Int32)] V2 (by decide) rfl (Nat.le_of_ble_eq_true rfl) rfl ge2 d0_9 ?_
  intro h9 W9 V9
  have KL9 := ((Keep.refl h0 []).ext E2).wr W9 (Or.inr (by rw [g2]; exact Nat.le_refl _))
  have SL9 := Sta.wr W9 (SB.ext E2)
  refine r_aloadN d0_10 rfl rfl ?_
  refine r_iconst (1 : Int32) rfl d0_11 ?_
  refine r_iloadN d0_12 rfl ?_
  refine r_bipush (8 : Int32) rfl d0_13 ?_
  refine r_ishr d0_15 ?_
  refine r_i2b d0_16 ?_
  refine r_stB 1 [(nar .byte (p1.toInt8.toInt32)), (nar .byte ((p1 >>> ((8 : Int32) &&& 31)).toInt8.toInt32)), (0 : Int32), (0 : Int32), (0 : Int32), (0 : Int32), (0 : Int32)] V9 (by decide) rfl (Nat.le_of_ble_eq_true rfl) rfl ge2 d0_17 ?_
  intro h17 W17 V17
  have KL17 := KL9.wr W17 (Or.inr (by rw [g2]; exact Nat.le_refl _))
  have SL17 := Sta.wr W17 SL9
  refine r_aloadN d0_18 rfl rfl ?_
  refine r_iconst (2 : Int32) rfl d0_19 ?_
  refine r_iloadN d0_20 rfl ?_
  refine r_bipush (16 : Int32) rfl d0_21 ?_
  refine r_ishr d0_23 ?_
  refine r_i2b d0_24 ?_
  refine r_stB 2 [(nar .byte (p1.toInt8.toInt32)), (nar .byte ((p1 >>> ((8 : Int32) &&& 31)).toInt8.toInt32)), (nar .byte ((p1 >>> ((16 : Int32) &&& 31)).toInt8.toInt32)), (0 : Int32), (0 : Int32), (0 : Int32), (0 : Int32)] V17 (by decide) rfl (Nat.le_of_ble_eq_true rfl) rfl ge2 d0_25 ?_
  intro h25 W25 V25
  have KL25 := KL17.wr W25 (Or.inr (by rw [g2]; exact Nat.le_refl _))
  have SL25 := Sta.wr W25 SL17
  refine r_aloadN d0_26 rfl rfl ?_
  refine r_iconst (3 : Int32) rfl d0_27 ?_
  refine r_iloadN d0_28 rfl ?_
  refine r_bipush (24 : Int32) rfl d0_29 ?_
  refine r_ishr d0_31 ?_
  refine r_i2b d0_32 ?_
  refine r_stB 3 [(nar .byte (p1.toInt8.toInt32)), (nar .byte ((p1 >>> ((8 : Int32) &&& 31)).toInt8.toInt32)), (nar .byte ((p1 >>> ((16 : Int32) &&& 31)).toInt8.toInt32)), (nar .byte ((p1 >>> ((24 : Int32) &&& 31)).toInt8.toInt32)), (0 : Int32), (0 : Int32), (0 : Int32)] V25 (by decide) rfl (Nat.le_of_ble_eq_true rfl) rfl ge2 d0_33 ?_
  intro h33 W33 V33
  have KL33 := KL25.wr W33 (Or.inr (by rw [g2]; exact Nat.le_refl _))
  have SL33 := Sta.wr W33 SL25
  refine r_aloadN d0_34 rfl rfl ?_
  refine r_iconst (4 : Int32) rfl d0_35 ?_
  refine r_iloadN d0_36 rfl ?_
  refine r_i2b d0_37 ?_
  refine r_stB 4 [(nar .byte (p1.toInt8.toInt32)), (nar .byte ((p1 >>> ((8 : Int32) &&& 31)).toInt8.toInt32)), (nar .byte ((p1 >>> ((16 : Int32) &&& 31)).toInt8.toInt32)), (nar .byte ((p1 >>> ((24 : Int32) &&& 31)).toInt8.toInt32)), (nar .byte (p2.toInt8.toInt32)), (0 : Int32), (0 : Int32)] V33 (by decide) rfl (Nat.le_of_ble_eq_true rfl) rfl ge2 d0_38 ?_
  intro h38 W38 V38
  have KL38 := KL33.wr W38 (Or.inr (by rw [g2]; exact Nat.le_refl _))
  have SL38 := Sta.wr W38 SL33
  refine r_aloadN d0_39 rfl rfl ?_
  refine r_iconst (5 : Int32) rfl d0_40 ?_
  refine r_iloadN d0_41 rfl ?_
  refine r_bipush (8 : Int32) rfl d0_42 ?_
  refine r_ishr d0_44 ?_
  refine r_i2b d0_45 ?_
  refine r_stB 5 [(nar .byte (p1.toInt8.toInt32)), (nar .byte ((p1 >>> ((8 : Int32) &&& 31)).toInt8.toInt32)), (nar .byte ((p1 >>> ((16 : Int32) &&& 31)).toInt8.toInt32)), (nar .byte ((p1 >>> ((24 : Int32) &&& 31)).toInt8.toInt32)), (nar .byte (p2.toInt8.toInt32)), (nar .byte ((p2 >>> ((8 : Int32) &&& 31)).toInt8.toInt32)), (0 : Int32)] V38 (by decide) rfl (Nat.le_of_ble_eq_true rfl) rfl ge2 d0_46 ?_
  intro h46 W46 V46
  have KL46 := KL38.wr W46 (Or.inr (by rw [g2]; exact Nat.le_refl _))
  have SL46 := Sta.wr W46 SL38
  refine r_aloadN d0_47 rfl rfl ?_
  refine r_bipush (6 : Int32) rfl d0_48 ?_
  refine r_iloadN d0_50 rfl ?_
  refine r_bipush (16 : Int32) rfl d0_51 ?_
  refine r_ishr d0_53 ?_
  refine r_i2b d0_54 ?_
  refine r_stB 6 [(nar .byte (p1.toInt8.toInt32)), (nar .byte ((p1 >>> ((8 : Int32) &&& 31)).toInt8.toInt32)), (nar .byte ((p1 >>> ((16 : Int32) &&& 31)).toInt8.toInt32)), (nar .byte ((p1 >>> ((24 : Int32) &&& 31)).toInt8.toInt32)), (nar .byte (p2.toInt8.toInt32)), (nar .byte ((p2 >>> ((8 : Int32) &&& 31)).toInt8.toInt32)), (nar .byte ((p2 >>> ((16 : Int32) &&& 31)).toInt8.toInt32))] V46 (by decide) rfl (Nat.le_of_ble_eq_true rfl) rfl ge2 d0_55 ?_
  intro h55 W55 V55
  have KL55 := KL46.wr W55 (Or.inr (by rw [g2]; exact Nat.le_refl _))
  have SL55 := Sta.wr W55 SL46
  obtain ⟨vs, hl, V⟩ : ∃ vs : List Int32, vs.length = 7 ∧ Ary Z h55 b2 .byte vs := ⟨_, rfl, V55⟩
  have hz2 : n0 ≤ h55.size := Nat.le_trans ge2 (Nat.le_of_lt V.lt)
  have KT : Keep h0 h55 [] := KL55
  have TB1 := TB.keep KT nin0
  have SB1 := SL55
  refine r_iloadN d0_56 rfl ?_
  refine r_bipush (7 : Int32) rfl d0_57 ?_
  refine r_iand d0_59 ?_
  obtain ⟨u, e_u, l_u⟩ := n32_and p3 7 3 (by decide) (by decide)
  rw [e_u]
  refine r_bipush (7 : Int32) rfl d0_60 ?_
  refine r_irem d0_62 (by decide) ?_
  rw [show u.toInt32 % (7 : Int32) = (u % 7).toInt32 from n32_rem (k := 7) (by omega) (by decide) (by decide)]
  obtain ⟨n, e_n⟩ : ∃ n, n = u % 7 := ⟨_, rfl⟩
  rw [← e_n]
  have hn : n ≤ 6 := by omega
  refine r_istore d0_63 [.val (.int p1), .val (.int p2), .val (.int p3), .val (.ref b2), .val (.int n.toInt32), .unset, .unset, .unset, .unset, .unset, .unset] rfl ?_
  refine r_iloadN d0_65 rfl ?_
  refine r_iconst (3 : Int32) rfl d0_66 ?_
  refine r_iushr d0_67 ?_
  refine r_iconst (1 : Int32) rfl d0_68 ?_
  refine r_iand d0_69 ?_
  obtain ⟨f, e_f, l_f⟩ := n32_and ((p3.toUInt32 >>> ((3 : Int32) &&& 31).toUInt32).toInt32) 1 1 (by decide) (by decide)
  rw [e_f]
  have hf : f ≤ 1 := by omega
  refine r_istore d0_70 [.val (.int p1), .val (.int p2), .val (.int p3), .val (.ref b2), .val (.int n.toInt32), .val (.int f.toInt32), .unset, .unset, .unset, .unset, .unset] rfl ?_
  refine r_iloadN d0_72 rfl ?_
  refine r_iconst (4 : Int32) rfl d0_73 ?_
  refine r_iushr d0_74 ?_
  refine r_iconst (1 : Int32) rfl d0_75 ?_
  refine r_iand d0_76 ?_
  obtain ⟨a, e_a, l_a⟩ := n32_and ((p3.toUInt32 >>> ((4 : Int32) &&& 31).toUInt32).toInt32) 1 1 (by decide) (by decide)
  rw [e_a]
  have ha : a ≤ 1 := by omega
  refine r_istore d0_77 [.val (.int p1), .val (.int p2), .val (.int p3), .val (.ref b2), .val (.int n.toInt32), .val (.int f.toInt32), .val (.int a.toInt32), .unset, .unset, .unset, .unset] rfl ?_
  refine r_bipush (42 : Int32) rfl d0_79 ?_
  refine r_istore d0_81 [.val (.int p1), .val (.int p2), .val (.int p3), .val (.ref b2), .val (.int n.toInt32), .val (.int f.toInt32), .val (.int a.toInt32), .val (.int (42 : Int32)), .unset, .unset, .unset] rfl ?_
  refine r_bipush (10 : Int32) rfl d0_83 ?_
  refine r_newarr 10 (hw _ (List.mem_of_getElem? (i := 0) rfl)) d0_85 (by decide) (by decide) (by decide) (by decide) (by decide) ?_
  intro hn85 cA85 E85 A85
  obtain ⟨b85, g85⟩ : ∃ z, z = h55.size := ⟨_, rfl⟩
  rw [← g85] at A85 ⊢
  have V85 : Ary Z hn85 b85 .byte [0, 0, 0, 0, 0, 0, 0, 0, 0, 0] := Ary.new A85 rfl rfl
  show ORun _ _ _ _ _ _ _ _ _ _ hn85 2 17 87 [.val (.int p1), .val (.int p2), .val (.int p3), .val (.ref b2), .val (.int n.toInt32), .val (.int f.toInt32), .val (.int a.toInt32), .val (.int (42 : Int32)), .unset, .unset, .unset] [(.ref b85)]
  have ge85 : n0 ≤ b85 := by rw [g85]; exact hz2
  have ne85 : b2 ≠ b85 := by rw [g85]; exact Nat.ne_of_lt V.lt
  have nt85 : aT ≠ b85 := by rw [g85]; exact Nat.ne_of_lt TB1.lt
  refine r_astore d0_87 rfl [.val (.int p1), .val (.int p2), .val (.int p3), .val (.ref b2), .val (.int n.toInt32), .val (.int f.toInt32), .val (.int a.toInt32), .val (.int (42 : Int32)), .val (.ref b85), .unset, .unset] rfl ?_
  refine r_aload d0_89 rfl rfl ?_
  refine r_iconst (0 : Int32) rfl d0_91 ?_
  refine r_iload d0_92 rfl ?_
  refine r_stB 0 [(nar .byte (42 : Int32)), (0 : Int32), (0 : Int32), (0 : Int32), (0 : Int32), (0 : Int32), (0 : Int32), (0 : Int32), (0 : Int32), (0 : Int32)] V85 (by decide) rfl (Nat.le_of_ble_eq_true rfl) rfl ge85 d0_94 ?_
  intro h94 W94 V94
  have VV94 := (V.ext E85).other W94 ne85
  have TT94 := (TB1.ext E85).other W94 nt85
  have SL94 := Sta.wr W94 (SB1.ext E85)
  refine r_aload d0_95 rfl rfl ?_
  refine r_iconst (1 : Int32) rfl d0_97 ?_
  refine r_iload d0_98 rfl ?_
  refine r_stB 1 [(nar .byte (42 : Int32)), (nar .byte (42 : Int32)), (0 : Int32), (0 : Int32), (0 : Int32), (0 : Int32), (0 : Int32), (0 : Int32), (0 : Int32), (0 : Int32)] V94 (by decide) rfl (Nat.le_of_ble_eq_true rfl) rfl ge85 d0_100 ?_
  intro h100 W100 V100
  have VV100 := VV94.other W100 ne85
  have TT100 := TT94.other W100 nt85
  have SL100 := Sta.wr W100 SL94
  refine r_aload d0_101 rfl rfl ?_
  refine r_iconst (2 : Int32) rfl d0_103 ?_
  refine r_iload d0_104 rfl ?_
  refine r_stB 2 [(nar .byte (42 : Int32)), (nar .byte (42 : Int32)), (nar .byte (42 : Int32)), (0 : Int32), (0 : Int32), (0 : Int32), (0 : Int32), (0 : Int32), (0 : Int32), (0 : Int32)] V100 (by decide) rfl (Nat.le_of_ble_eq_true rfl) rfl ge85 d0_106 ?_
  intro h106 W106 V106
  have VV106 := VV100.other W106 ne85
  have TT106 := TT100.other W106 nt85
  have SL106 := Sta.wr W106 SL100
  refine r_aload d0_107 rfl rfl ?_
  refine r_iconst (3 : Int32) rfl d0_109 ?_
  refine r_iload d0_110 rfl ?_
  refine r_stB 3 [(nar .byte (42 : Int32)), (nar .byte (42 : Int32)), (nar .byte (42 : Int32)), (nar .byte (42 : Int32)), (0 : Int32), (0 : Int32), (0 : Int32), (0 : Int32), (0 : Int32), (0 : Int32)] V106 (by decide) rfl (Nat.le_of_ble_eq_true rfl) rfl ge85 d0_112 ?_
  intro h112 W112 V112
  have VV112 := VV106.other W112 ne85
  have TT112 := TT106.other W112 nt85
  have SL112 := Sta.wr W112 SL106
  refine r_aload d0_113 rfl rfl ?_
  refine r_iconst (4 : Int32) rfl d0_115 ?_
  refine r_iload d0_116 rfl ?_
  refine r_stB 4 [(nar .byte (42 : Int32)), (nar .byte (42 : Int32)), (nar .byte (42 : Int32)), (nar .byte (42 : Int32)), (nar .byte (42 : Int32)), (0 : Int32), (0 : Int32), (0 : Int32), (0 : Int32), (0 : Int32)] V112 (by decide) rfl (Nat.le_of_ble_eq_true rfl) rfl ge85 d0_118 ?_
  intro h118 W118 V118
  have VV118 := VV112.other W118 ne85
  have TT118 := TT112.other W118 nt85
  have SL118 := Sta.wr W118 SL112
  refine r_aload d0_119 rfl rfl ?_
  refine r_iconst (5 : Int32) rfl d0_121 ?_
  refine r_iload d0_122 rfl ?_
  refine r_stB 5 [(nar .byte (42 : Int32)), (nar .byte (42 : Int32)), (nar .byte (42 : Int32)), (nar .byte (42 : Int32)), (nar .byte (42 : Int32)), (nar .byte (42 : Int32)), (0 : Int32), (0 : Int32), (0 : Int32), (0 : Int32)] V118 (by decide) rfl (Nat.le_of_ble_eq_true rfl) rfl ge85 d0_124 ?_
  intro h124 W124 V124
  have VV124 := VV118.other W124 ne85
  have TT124 := TT118.other W124 nt85
  have SL124 := Sta.wr W124 SL118
  refine r_aload d0_125 rfl rfl ?_
  refine r_bipush (6 : Int32) rfl d0_127 ?_
  refine r_iload d0_129 rfl ?_
  refine r_stB 6 [(nar .byte (42 : Int32)), (nar .byte (42 : Int32)), (nar .byte (42 : Int32)), (nar .byte (42 : Int32)), (nar .byte (42 : Int32)), (nar .byte (42 : Int32)), (nar .byte (42 : Int32)), (0 : Int32), (0 : Int32), (0 : Int32)] V124 (by decide) rfl (Nat.le_of_ble_eq_true rfl) rfl ge85 d0_131 ?_
  intro h131 W131 V131
  have VV131 := VV124.other W131 ne85
  have TT131 := TT124.other W131 nt85
  have SL131 := Sta.wr W131 SL124
  refine r_aload d0_132 rfl rfl ?_
  refine r_bipush (7 : Int32) rfl d0_134 ?_
  refine r_iload d0_136 rfl ?_
  refine r_stB 7 [(nar .byte (42 : Int32)), (nar .byte (42 : Int32)), (nar .byte (42 : Int32)), (nar .byte (42 : Int32)), (nar .byte (42 : Int32)), (nar .byte (42 : Int32)), (nar .byte (42 : Int32)), (nar .byte (42 : Int32)), (0 : Int32), (0 : Int32)] V131 (by decide) rfl (Nat.le_of_ble_eq_true rfl) rfl ge85 d0_138 ?_
  intro h138 W138 V138
  have VV138 := VV131.other W138 ne85
  have TT138 := TT131.other W138 nt85
  have SL138 := Sta.wr W138 SL131
  refine r_aload d0_139 rfl rfl ?_
  refine r_bipush (8 : Int32) rfl d0_141 ?_
  refine r_iload d0_143 rfl ?_
  refine r_stB 8 [(nar .byte (42 : Int32)), (nar .byte (42 : Int32)), (nar .byte (42 : Int32)), (nar .byte (42 : Int32)), (nar .byte (42 : Int32)), (nar .byte (42 : Int32)), (nar .byte (42 : Int32)), (nar .byte (42 : Int32)), (nar .byte (42 : Int32)), (0 : Int32)] V138 (by decide) rfl (Nat.le_of_ble_eq_true rfl) rfl ge85 d0_145 ?_
  intro h145 W145 V145
  have VV145 := VV138.other W145 ne85
  have TT145 := TT138.other W145 nt85
  have SL145 := Sta.wr W145 SL138
  refine r_aload d0_146 rfl rfl ?_
  refine r_bipush (9 : Int32) rfl d0_148 ?_
  refine r_iload d0_150 rfl ?_
  refine r_stB 9 [(nar .byte (42 : Int32)), (nar .byte (42 : Int32)), (nar .byte (42 : Int32)), (nar .byte (42 : Int32)), (nar .byte (42 : Int32)), (nar .byte (42 : Int32)), (nar .byte (42 : Int32)), (nar .byte (42 : Int32)), (nar .byte (42 : Int32)), (nar .byte (42 : Int32))] V145 (by decide) rfl (Nat.le_of_ble_eq_true rfl) rfl ge85 d0_152 ?_
  intro h152 W152 V152
  have VV152 := VV145.other W152 ne85
  have TT152 := TT145.other W152 nt85
  have SL152 := Sta.wr W152 SL145
  refine r_iload d0_153 rfl ?_
  have J174 : ORun l x code maxLocals ret room_1 Z n0 #[(.int p1), (.int p2), (.int p3)] (fun v h => v = some (.int 1)) h152 2 17 174 [.val (.int p1), .val (.int p2), .val (.int p3), .val (.ref b2), .val (.int n.toInt32), .val (.int f.toInt32), .val (.int a.toInt32), .val (.int (42 : Int32)), .val (.ref b85), .unset, .unset] [(.int (own_olen n).toInt32)] := by
    refine r_istore d0_174 [.val (.int p1), .val (.int p2), .val (.int p3), .val (.ref b2), .val (.int n.toInt32), .val (.int f.toInt32), .val (.int a.toInt32), .val (.int (42 : Int32)), .val (.ref b85), .val (.int (own_olen n).toInt32), .unset] rfl ?_
    refine r_aloadN d0_176 rfl rfl ?_
    refine r_iload d0_177 rfl ?_
    refine r_iload d0_179 rfl ?_
    refine r_aload d0_181 rfl rfl ?_
    refine r_iload d0_183 rfl ?_
    refine r_static [(.ref b2), (.int f.toInt32), (.int n.toInt32), (.ref b85), (.int a.toInt32)] [] rfl pd0_0 rfl (hw _ (List.mem_of_getElem? (i := 1) rfl)) (hw _ (List.mem_of_getElem? (i := 2) rfl)) (hw _ (List.mem_of_getElem? (i := 3) rfl)) (hw _ (List.mem_of_getElem? (i := 4) rfl)) (by decide) (R' := ({ frames := 0, cells := 0, slots := 0, locals := 0 } : Room)) (ct1 hw n hn b2 b85 aT f a vs [(nar .byte (42 : Int32)), (nar .byte (42 : Int32)), (nar .byte (42 : Int32)), (nar .byte (42 : Int32)), (nar .byte (42 : Int32)), (nar .byte (42 : Int32)), (nar .byte (42 : Int32)), (nar .byte (42 : Int32)), (nar .byte (42 : Int32)), (nar .byte (42 : Int32))] tb VV152 hl V152 rfl SL152 TT152 hT ne85 nt85 ge85 hf ha) d0_185 rfl (by decide) 0 rfl (by decide) (by decide) (by decide) ?_
    rintro _ h185 ⟨rfl, K185, V185, O185⟩
    obtain ⟨os, e_os⟩ : ∃ os, os = own_put [(nar .byte (42 : Int32)), (nar .byte (42 : Int32)), (nar .byte (42 : Int32)), (nar .byte (42 : Int32)), (nar .byte (42 : Int32)), (nar .byte (42 : Int32)), (nar .byte (42 : Int32)), (nar .byte (42 : Int32)), (nar .byte (42 : Int32)), (nar .byte (42 : Int32))] a ((List.range (own_olen n)).map (own_ch vs f n)) := ⟨_, rfl⟩
    rw [← e_os] at O185
    have hos : os.length = 10 := by rw [e_os, own_put_len]; rfl
    have hall : ∀ i, i < 10 → own_at os i = own_E vs f n a i := fun i hi => by rw [e_os]; exact own_all vs f n a i _ rfl (by decide +kernel) hn ha hi
    show ORun _ _ _ _ _ _ _ _ _ _ h185 2 17 188 [.val (.int p1), .val (.int p2), .val (.int p3), .val (.ref b2), .val (.int n.toInt32), .val (.int f.toInt32), .val (.int a.toInt32), .val (.int (42 : Int32)), .val (.ref b85), .val (.int (own_olen n).toInt32), .unset] [(.int (own_olen n).toInt32)]
    refine r_istore d0_188 [.val (.int p1), .val (.int p2), .val (.int p3), .val (.ref b2), .val (.int n.toInt32), .val (.int f.toInt32), .val (.int a.toInt32), .val (.int (42 : Int32)), .val (.ref b85), .val (.int (own_olen n).toInt32), .val (.int (own_olen n).toInt32)] rfl ?_
    refine r_iload d0_190 rfl ?_
    refine r_iload d0_192 rfl ?_
    refine r_icmp_ne d0_194 (fun hc194 => ?_) (fun hc194 => ?_)
    · exfalso; exact hc194 rfl
    · refine r_aload d0_197 rfl rfl ?_
      refine r_aloadN d0_199 rfl rfl ?_
      refine r_iload d0_200 rfl ?_
      refine r_iload d0_202 rfl ?_
      refine r_iload d0_204 rfl ?_
      refine r_iload d0_206 rfl ?_
      refine r_iconst (0 : Int32) rfl d0_208 ?_
      refine r_staticP [(.ref b85), (.ref b2), (.int f.toInt32), (.int n.toInt32), (.int a.toInt32), (.int (own_olen n).toInt32), (.int (0 : Int32))] [] rfl pd0_1 rfl (hw _ (List.mem_of_getElem? (i := 7) rfl)) (hw _ (List.mem_of_getElem? (i := 8) rfl)) (hw _ (List.mem_of_getElem? (i := 9) rfl)) (hw _ (List.mem_of_getElem? (i := 10) rfl)) (by decide) (w := (.int (if own_at os 0 = own_E vs f n a 0 then 1 else 0))) (R' := ({ frames := 2, cells := 0, slots := 0, locals := 48 } : Room)) (ct2 hw b85 b2 f n a 0 os vs O185 hos V185 hl hf hn ha (by decide)) d0_209 rfl (by decide) 0 rfl (by decide) rfl rfl (by decide) (by decide) ?_
      refine r_if_eq d0_212 (fun hc212 => ?_) (fun hc212 => ?_)
      · exfalso; rw [if_pos (hall 0 (by decide))] at hc212; exact absurd hc212 (by decide)
      · refine r_aload d0_215 rfl rfl ?_
        refine r_aloadN d0_217 rfl rfl ?_
        refine r_iload d0_218 rfl ?_
        refine r_iload d0_220 rfl ?_
        refine r_iload d0_222 rfl ?_
        refine r_iload d0_224 rfl ?_
        refine r_iconst (1 : Int32) rfl d0_226 ?_
        refine r_staticP [(.ref b85), (.ref b2), (.int f.toInt32), (.int n.toInt32), (.int a.toInt32), (.int (own_olen n).toInt32), (.int (1 : Int32))] [] rfl pd0_1 rfl (hw _ (List.mem_of_getElem? (i := 7) rfl)) (hw _ (List.mem_of_getElem? (i := 8) rfl)) (hw _ (List.mem_of_getElem? (i := 9) rfl)) (hw _ (List.mem_of_getElem? (i := 10) rfl)) (by decide) (w := (.int (if own_at os 1 = own_E vs f n a 1 then 1 else 0))) (R' := ({ frames := 2, cells := 0, slots := 0, locals := 48 } : Room)) (ct2 hw b85 b2 f n a 1 os vs O185 hos V185 hl hf hn ha (by decide)) d0_227 rfl (by decide) 0 rfl (by decide) rfl rfl (by decide) (by decide) ?_
        refine r_if_eq d0_230 (fun hc230 => ?_) (fun hc230 => ?_)
        · exfalso; rw [if_pos (hall 1 (by decide))] at hc230; exact absurd hc230 (by decide)
        · refine r_aload d0_233 rfl rfl ?_
          refine r_aloadN d0_235 rfl rfl ?_
          refine r_iload d0_236 rfl ?_
          refine r_iload d0_238 rfl ?_
          refine r_iload d0_240 rfl ?_
          refine r_iload d0_242 rfl ?_
          refine r_iconst (2 : Int32) rfl d0_244 ?_
          refine r_staticP [(.ref b85), (.ref b2), (.int f.toInt32), (.int n.toInt32), (.int a.toInt32), (.int (own_olen n).toInt32), (.int (2 : Int32))] [] rfl pd0_1 rfl (hw _ (List.mem_of_getElem? (i := 7) rfl)) (hw _ (List.mem_of_getElem? (i := 8) rfl)) (hw _ (List.mem_of_getElem? (i := 9) rfl)) (hw _ (List.mem_of_getElem? (i := 10) rfl)) (by decide) (w := (.int (if own_at os 2 = own_E vs f n a 2 then 1 else 0))) (R' := ({ frames := 2, cells := 0, slots := 0, locals := 48 } : Room)) (ct2 hw b85 b2 f n a 2 os vs O185 hos V185 hl hf hn ha (by decide)) d0_245 rfl (by decide) 0 rfl (by decide) rfl rfl (by decide) (by decide) ?_
          refine r_if_eq d0_248 (fun hc248 => ?_) (fun hc248 => ?_)
          · exfalso; rw [if_pos (hall 2 (by decide))] at hc248; exact absurd hc248 (by decide)
          · refine r_aload d0_251 rfl rfl ?_
            refine r_aloadN d0_253 rfl rfl ?_
            refine r_iload d0_254 rfl ?_
            refine r_iload d0_256 rfl ?_
            refine r_iload d0_258 rfl ?_
            refine r_iload d0_260 rfl ?_
            refine r_iconst (3 : Int32) rfl d0_262 ?_
            refine r_staticP [(.ref b85), (.ref b2), (.int f.toInt32), (.int n.toInt32), (.int a.toInt32), (.int (own_olen n).toInt32), (.int (3 : Int32))] [] rfl pd0_1 rfl (hw _ (List.mem_of_getElem? (i := 7) rfl)) (hw _ (List.mem_of_getElem? (i := 8) rfl)) (hw _ (List.mem_of_getElem? (i := 9) rfl)) (hw _ (List.mem_of_getElem? (i := 10) rfl)) (by decide) (w := (.int (if own_at os 3 = own_E vs f n a 3 then 1 else 0))) (R' := ({ frames := 2, cells := 0, slots := 0, locals := 48 } : Room)) (ct2 hw b85 b2 f n a 3 os vs O185 hos V185 hl hf hn ha (by decide)) d0_263 rfl (by decide) 0 rfl (by decide) rfl rfl (by decide) (by decide) ?_
            refine r_if_eq d0_266 (fun hc266 => ?_) (fun hc266 => ?_)
            · exfalso; rw [if_pos (hall 3 (by decide))] at hc266; exact absurd hc266 (by decide)
            · refine r_aload d0_269 rfl rfl ?_
              refine r_aloadN d0_271 rfl rfl ?_
              refine r_iload d0_272 rfl ?_
              refine r_iload d0_274 rfl ?_
              refine r_iload d0_276 rfl ?_
              refine r_iload d0_278 rfl ?_
              refine r_iconst (4 : Int32) rfl d0_280 ?_
              refine r_staticP [(.ref b85), (.ref b2), (.int f.toInt32), (.int n.toInt32), (.int a.toInt32), (.int (own_olen n).toInt32), (.int (4 : Int32))] [] rfl pd0_1 rfl (hw _ (List.mem_of_getElem? (i := 7) rfl)) (hw _ (List.mem_of_getElem? (i := 8) rfl)) (hw _ (List.mem_of_getElem? (i := 9) rfl)) (hw _ (List.mem_of_getElem? (i := 10) rfl)) (by decide) (w := (.int (if own_at os 4 = own_E vs f n a 4 then 1 else 0))) (R' := ({ frames := 2, cells := 0, slots := 0, locals := 48 } : Room)) (ct2 hw b85 b2 f n a 4 os vs O185 hos V185 hl hf hn ha (by decide)) d0_281 rfl (by decide) 0 rfl (by decide) rfl rfl (by decide) (by decide) ?_
              refine r_if_eq d0_284 (fun hc284 => ?_) (fun hc284 => ?_)
              · exfalso; rw [if_pos (hall 4 (by decide))] at hc284; exact absurd hc284 (by decide)
              · refine r_aload d0_287 rfl rfl ?_
                refine r_aloadN d0_289 rfl rfl ?_
                refine r_iload d0_290 rfl ?_
                refine r_iload d0_292 rfl ?_
                refine r_iload d0_294 rfl ?_
                refine r_iload d0_296 rfl ?_
                refine r_iconst (5 : Int32) rfl d0_298 ?_
                refine r_staticP [(.ref b85), (.ref b2), (.int f.toInt32), (.int n.toInt32), (.int a.toInt32), (.int (own_olen n).toInt32), (.int (5 : Int32))] [] rfl pd0_1 rfl (hw _ (List.mem_of_getElem? (i := 7) rfl)) (hw _ (List.mem_of_getElem? (i := 8) rfl)) (hw _ (List.mem_of_getElem? (i := 9) rfl)) (hw _ (List.mem_of_getElem? (i := 10) rfl)) (by decide) (w := (.int (if own_at os 5 = own_E vs f n a 5 then 1 else 0))) (R' := ({ frames := 2, cells := 0, slots := 0, locals := 48 } : Room)) (ct2 hw b85 b2 f n a 5 os vs O185 hos V185 hl hf hn ha (by decide)) d0_299 rfl (by decide) 0 rfl (by decide) rfl rfl (by decide) (by decide) ?_
                refine r_if_eq d0_302 (fun hc302 => ?_) (fun hc302 => ?_)
                · exfalso; rw [if_pos (hall 5 (by decide))] at hc302; exact absurd hc302 (by decide)
                · refine r_aload d0_305 rfl rfl ?_
                  refine r_aloadN d0_307 rfl rfl ?_
                  refine r_iload d0_308 rfl ?_
                  refine r_iload d0_310 rfl ?_
                  refine r_iload d0_312 rfl ?_
                  refine r_iload d0_314 rfl ?_
                  refine r_bipush (6 : Int32) rfl d0_316 ?_
                  refine r_staticP [(.ref b85), (.ref b2), (.int f.toInt32), (.int n.toInt32), (.int a.toInt32), (.int (own_olen n).toInt32), (.int (6 : Int32))] [] rfl pd0_1 rfl (hw _ (List.mem_of_getElem? (i := 7) rfl)) (hw _ (List.mem_of_getElem? (i := 8) rfl)) (hw _ (List.mem_of_getElem? (i := 9) rfl)) (hw _ (List.mem_of_getElem? (i := 10) rfl)) (by decide) (w := (.int (if own_at os 6 = own_E vs f n a 6 then 1 else 0))) (R' := ({ frames := 2, cells := 0, slots := 0, locals := 48 } : Room)) (ct2 hw b85 b2 f n a 6 os vs O185 hos V185 hl hf hn ha (by decide)) d0_318 rfl (by decide) 0 rfl (by decide) rfl rfl (by decide) (by decide) ?_
                  refine r_if_eq d0_321 (fun hc321 => ?_) (fun hc321 => ?_)
                  · exfalso; rw [if_pos (hall 6 (by decide))] at hc321; exact absurd hc321 (by decide)
                  · refine r_aload d0_324 rfl rfl ?_
                    refine r_aloadN d0_326 rfl rfl ?_
                    refine r_iload d0_327 rfl ?_
                    refine r_iload d0_329 rfl ?_
                    refine r_iload d0_331 rfl ?_
                    refine r_iload d0_333 rfl ?_
                    refine r_bipush (7 : Int32) rfl d0_335 ?_
                    refine r_staticP [(.ref b85), (.ref b2), (.int f.toInt32), (.int n.toInt32), (.int a.toInt32), (.int (own_olen n).toInt32), (.int (7 : Int32))] [] rfl pd0_1 rfl (hw _ (List.mem_of_getElem? (i := 7) rfl)) (hw _ (List.mem_of_getElem? (i := 8) rfl)) (hw _ (List.mem_of_getElem? (i := 9) rfl)) (hw _ (List.mem_of_getElem? (i := 10) rfl)) (by decide) (w := (.int (if own_at os 7 = own_E vs f n a 7 then 1 else 0))) (R' := ({ frames := 2, cells := 0, slots := 0, locals := 48 } : Room)) (ct2 hw b85 b2 f n a 7 os vs O185 hos V185 hl hf hn ha (by decide)) d0_337 rfl (by decide) 0 rfl (by decide) rfl rfl (by decide) (by decide) ?_
                    refine r_if_eq d0_340 (fun hc340 => ?_) (fun hc340 => ?_)
                    · exfalso; rw [if_pos (hall 7 (by decide))] at hc340; exact absurd hc340 (by decide)
                    · refine r_aload d0_343 rfl rfl ?_
                      refine r_aloadN d0_345 rfl rfl ?_
                      refine r_iload d0_346 rfl ?_
                      refine r_iload d0_348 rfl ?_
                      refine r_iload d0_350 rfl ?_
                      refine r_iload d0_352 rfl ?_
                      refine r_bipush (8 : Int32) rfl d0_354 ?_
                      refine r_staticP [(.ref b85), (.ref b2), (.int f.toInt32), (.int n.toInt32), (.int a.toInt32), (.int (own_olen n).toInt32), (.int (8 : Int32))] [] rfl pd0_1 rfl (hw _ (List.mem_of_getElem? (i := 7) rfl)) (hw _ (List.mem_of_getElem? (i := 8) rfl)) (hw _ (List.mem_of_getElem? (i := 9) rfl)) (hw _ (List.mem_of_getElem? (i := 10) rfl)) (by decide) (w := (.int (if own_at os 8 = own_E vs f n a 8 then 1 else 0))) (R' := ({ frames := 2, cells := 0, slots := 0, locals := 48 } : Room)) (ct2 hw b85 b2 f n a 8 os vs O185 hos V185 hl hf hn ha (by decide)) d0_356 rfl (by decide) 0 rfl (by decide) rfl rfl (by decide) (by decide) ?_
                      refine r_if_eq d0_359 (fun hc359 => ?_) (fun hc359 => ?_)
                      · exfalso; rw [if_pos (hall 8 (by decide))] at hc359; exact absurd hc359 (by decide)
                      · refine r_aload d0_362 rfl rfl ?_
                        refine r_aloadN d0_364 rfl rfl ?_
                        refine r_iload d0_365 rfl ?_
                        refine r_iload d0_367 rfl ?_
                        refine r_iload d0_369 rfl ?_
                        refine r_iload d0_371 rfl ?_
                        refine r_bipush (9 : Int32) rfl d0_373 ?_
                        refine r_staticP [(.ref b85), (.ref b2), (.int f.toInt32), (.int n.toInt32), (.int a.toInt32), (.int (own_olen n).toInt32), (.int (9 : Int32))] [] rfl pd0_1 rfl (hw _ (List.mem_of_getElem? (i := 7) rfl)) (hw _ (List.mem_of_getElem? (i := 8) rfl)) (hw _ (List.mem_of_getElem? (i := 9) rfl)) (hw _ (List.mem_of_getElem? (i := 10) rfl)) (by decide) (w := (.int (if own_at os 9 = own_E vs f n a 9 then 1 else 0))) (R' := ({ frames := 2, cells := 0, slots := 0, locals := 48 } : Room)) (ct2 hw b85 b2 f n a 9 os vs O185 hos V185 hl hf hn ha (by decide)) d0_375 rfl (by decide) 0 rfl (by decide) rfl rfl (by decide) (by decide) ?_
                        refine r_if_eq d0_378 (fun hc378 => ?_) (fun hc378 => ?_)
                        · exfalso; rw [if_pos (hall 9 (by decide))] at hc378; exact absurd hc378 (by decide)
                        · refine r_iconst (1 : Int32) rfl d0_381 ?_
                          refine r_goto d0_382 ?_
                          exact r_nret (t := .boolean) (by simp) d0_386 (by decide) (by decide) (rfl)
  refine r_if_ne d0_155 (fun hc155 => ?_) (fun hc155 => ?_)
  · refine r_iload d0_162 rfl ?_
    refine r_iconst (3 : Int32) rfl d0_164 ?_
    refine r_icmp_gt d0_165 (fun hc165 => ?_) (fun hc165 => ?_)
    · refine r_bipush (8 : Int32) rfl d0_172 ?_
      have e0 : ¬ n = 0 := fun q => hc155 (by rw [q]; rfl)
      have e2 : ¬ n ≤ 3 := fun q => absurd ((n32_lt (a := 3) (b := n) (by omega) (by omega)).mp hc165) (by omega)
      have e1 : own_olen n = 8 := by unfold own_olen; rw [if_neg e0, if_neg e2]
      rw [e1] at J174
      exact J174
    · refine r_iconst (4 : Int32) rfl d0_168 ?_
      refine r_goto d0_169 ?_
      have e0 : ¬ n = 0 := fun q => hc155 (by rw [q]; rfl)
      have e2 : n ≤ 3 := Nat.le_of_not_lt fun q => hc165 ((n32_lt (a := 3) (by decide) (by omega)).mpr q)
      have e1 : own_olen n = 4 := by unfold own_olen; rw [if_neg e0, if_pos e2]
      rw [e1] at J174
      exact J174
  · refine r_iconst (0 : Int32) rfl d0_158 ?_
    refine r_goto d0_159 ?_
    have e0 : n = 0 := (n32_eq (b := 0) (by omega) (by decide)).mp hc155
    have e1 : own_olen n = 0 := by rw [e0]; rfl
    rw [e1] at J174
    exact J174
theorem le_i {args : Array Value} {first s : State} {o : Option Outcome} {idx : List Nat} {a b : Term} {x y : Int32} (ha : a.eval args first o idx s = some (.int x)) (hb : b.eval args first o idx s = some (.int y)) : (Jvm.Cond.le a b).value args first o s idx = some (decide (x ≤ y)) := by simp [Cond.value, ha, hb]
theorem lt_i {args : Array Value} {first s : State} {o : Option Outcome} {idx : List Nat} {a b : Term} {x y : Int32} (ha : a.eval args first o idx s = some (.int x)) (hb : b.eval args first o idx s = some (.int y)) : (Jvm.Cond.lt a b).value args first o s idx = some (decide (x < y)) := by simp [Cond.value, ha, hb]
theorem elemEqI {args : Array Value} {s : State} {t : Term} {a : Addr} {cl : Cell} {ty : FieldType} {j k : Int32} (ht : t.eval args s none [] s = some (.ref a)) (A : Arr s s.heap a cl ty) (h : (Jvm.Cond.eq (.elem t (.int j)) (.int k)).value args s none s [] = some true) : cl.slots[j.toNatClampNeg]? = some (.int k) := by
  obtain ⟨v, w, e1, e2, k1, k2⟩ := cmp_v (Or.inl h)
  cases (show some (Value.int k) = some w from e2)
  obtain ⟨z, rfl⟩ := k2
  have q := gotT (eq_ints e1 e2) h
  rw [q] at e1
  exact (elem_in e1 ht rfl A.1).2
theorem own_n64 {i : Nat} (h : i < 64) {k : Nat} (hk : k < 64) : (i.toInt32 < k.toInt32 ↔ i < k) := n32_lt (by omega) (by omega)
theorem own_lng {i k : Nat} {x : Int32} (hi : i < 64) (hk : k < 128) (h : x.toInt64 = i.toInt32.toInt64 + (Int64.ofNat k)) : x = (k + i).toInt32 := by
  have e1 := congrArg Int64.toInt h
  have e2 := c_ladd i.toInt32.toInt64 (Int64.ofNat k)
  have e3 := rng64 (i.toInt32.toInt64 + Int64.ofNat k)
  have e4 : (Int64.ofNat k).toInt = k := Int64.toInt_ofNat_of_lt (by omega)
  rw [c_i2l, n32_int (by omega), e4] at e2
  rw [c_i2l] at e1
  exact own_ofi (by omega) (by omega)
theorem own_tab {args : Array Value} {s : State} {t : Term} {a : Addr} {cl : Cell} (ht : ∀ idx, t.eval args s none idx s = some (.ref a)) (ha : s.arrayAt? a = some cl) (hsz : cl.slots.size = 64) (hint : ∀ i, i < 64 → ∃ x : Int32, cl.slots[i]? = some (.int x))
    (h1 : (Jvm.Cond.all t (.or (.le (.int 26) (.index 0)) (.eq (.op1 .i2l (.elem t (.index 0))) (.op2 .ladd (.op1 .i2l (.index 0)) (.long 65))))).value args s none s [] = some true)
    (h2 : (Jvm.Cond.all t (.or (.lt (.index 0) (.int 26)) (.or (.le (.int 52) (.index 0)) (.eq (.op1 .i2l (.elem t (.index 0))) (.op2 .ladd (.op1 .i2l (.index 0)) (.long 71)))))).value args s none s [] = some true)
    (h3 : (Jvm.Cond.all t (.or (.lt (.index 0) (.int 52)) (.or (.le (.int 62) (.index 0)) (.eq (.elem t (.index 0)) (.sub (.index 0) (.int 4)))))).value args s none s [] = some true)
    (h4 : cl.slots[62]? = some (.int 43)) (h5 : cl.slots[63]? = some (.int 47)) : ∀ i, i < 64 → cl.slots[i]? = some (.int (own_enc i)) := fun i hi => by
  obtain ⟨x, hx⟩ := hint i hi
  have ix : (Term.index 0).eval args s none [i] s = some (.int i.toInt32) := rfl
  have el : (Term.elem t (.index 0)).eval args s none [i] s = some (.int x) := by rw [elem_f (ht [i]) ix ha (n32_nn (by omega)), n32_clamp (by omega)]; exact hx
  have ell : (Term.op1 .i2l (Term.elem t (.index 0))).eval args s none [i] s = some (.long x.toInt64) := by rw [op1_f el]; rfl
  have il : (Term.op1 .i2l (Term.index 0)).eval args s none [i] s = some (.long i.toInt32.toInt64) := by rw [op1_f ix]; rfl
  have q1 := Cond.all_elim (ht []) ha h1 i (by omega)
  have q2 := Cond.all_elim (ht []) ha h2 i (by omega)
  have q3 := Cond.all_elim (ht []) ha h3 i (by omega)
  rw [hx]
  congr 1
  congr 1
  unfold own_enc
  by_cases c1 : i < 26
  · rw [if_pos c1]
    have s1 : (Term.op2 .ladd (.op1 .i2l (.index 0)) (.long 65)).eval args s none [i] s = some (.long (i.toInt32.toInt64 + 65)) := by rw [op2_f il (long_at 65)]; rfl
    rcases or_e2 (le_i (show (Term.int 26).eval args s none [i] s = some (.int 26) from rfl) ix) (eq_L ell s1) q1 with r | r
    · rw [Int32.le_iff_toInt_le, n32_int (by omega)] at r
      have z : (26 : Int32).toInt = 26 := by decide
      omega
    · exact own_lng hi (k := 65) (by decide) r
  · rw [if_neg c1]
    have n1 : ¬ i.toInt32 < 26 := fun q => c1 ((own_n64 hi (k := 26) (by decide)).mp q)
    by_cases c2 : i < 52
    · rw [if_pos c2]
      have s1 : (Term.op2 .ladd (.op1 .i2l (.index 0)) (.long 71)).eval args s none [i] s = some (.long (i.toInt32.toInt64 + 71)) := by rw [op2_f il (long_at 71)]; rfl
      have g1 : (Jvm.Cond.lt (.index 0) (.int 26)).value args s none s [i] = some false := by rw [lt_i ix (show (Term.int 26).eval args s none [i] s = some (.int 26) from rfl)]; simp [n1]
      rw [Cond.or_of_right g1] at q2
      rcases or_e2 (le_i (show (Term.int 52).eval args s none [i] s = some (.int 52) from rfl) ix) (eq_L ell s1) q2 with r | r
      · rw [Int32.le_iff_toInt_le, n32_int (by omega)] at r
        have z : (52 : Int32).toInt = 52 := by decide
        omega
      · exact own_lng hi (k := 71) (by decide) r
    · rw [if_neg c2]
      have n2 : ¬ i.toInt32 < 52 := fun q => c2 ((own_n64 hi (k := 52) (by decide)).mp q)
      by_cases c3 : i < 62
      · rw [if_pos c3]
        have s1 : (Term.sub (.index 0) (.int 4)).eval args s none [i] s = some (.int (i.toInt32 - 4)) := by simp [Term.eval]
        have g1 : (Jvm.Cond.lt (.index 0) (.int 52)).value args s none s [i] = some false := by rw [lt_i ix (show (Term.int 52).eval args s none [i] s = some (.int 52) from rfl)]; simp [n2]
        rw [Cond.or_of_right g1] at q3
        rcases or_e2 (le_i (show (Term.int 62).eval args s none [i] s = some (.int 62) from rfl) ix) (eq_ints el s1) q3 with r | r
        · rw [Int32.le_iff_toInt_le, n32_int (by omega)] at r
          have z : (62 : Int32).toInt = 62 := by decide
          omega
        · rw [r]; exact n32_sub (a := i) (b := 4) (by omega)
      · rw [if_neg c3]
        by_cases c4 : i = 62
        · subst c4
          rw [if_pos rfl]
          exact Value.int.inj (Option.some.inj (hx.symm.trans h4))
        · rw [if_neg c4]
          obtain rfl : i = 63 := by omega
          exact Value.int.inj (Option.some.inj (hx.symm.trans h5))
set_option maxRecDepth 65536 in
set_option maxHeartbeats 40000000 in
theorem comes_1 {Post : Tables → Env → Array Value → State → Outcome → State → Prop} (hpost : ∀ tb e args s v u, (limb_1_1.after args s (.returned v) u = true ∧ limb_1_2.after args s (.returned v) u = true ∧ True) → FrameEnd s (.returned v) u (Jvm.fieldLocs frame_1_writes args s ++ Jvm.arrayLocs frame_1_arrays args s ++ Jvm.staticLocs frame_1_statics s) 16 128 → Post tb e args s (.returned v) u) :
    ArmFor flags0 classFile x code maxLocals ret World_1 tables_1 room_1 Calls_1 rest_1 Pre_1 Post := by
  intro l hfl _ _ p e ha hc hk s m args below hf hA hF happ hP
  obtain ⟨hcalls, hrest, hpre⟩ := hP
  obtain ⟨-, -, -, hnamed, -, -, -, hat⟩ := (Spec.applies_iff hf).mp happ
  obtain ⟨hg, hn⟩ := and_e (Cond.before_iff.mp (show (Jvm.Cond.and given_1 narrow_1).before args s = true from hpre))
  obtain ⟨g1, g2⟩ := and_e hg
  obtain ⟨g3, g4⟩ := and_e g2
  obtain ⟨g5, g6⟩ := and_e g4
  obtain ⟨w0, w1, w2, rfl⟩ : ∃ w0 w1 w2 : Value, args = #[w0, w1, w2] := by
    have hs : args.size = 3 := by simpa [Cond.value, given_1] using g1
    obtain ⟨L⟩ := args
    match L, hs with
    | [w0, w1, w2], _ => exact ⟨w0, w1, w2, rfl⟩
  have hw := fun d (hd : d ∈ tables_1) => atoms_spec (ws := Jvm.Cond.code x code maxLocals ret :: tables_1) hat d (List.mem_cons_of_mem _ hd)
  have hfit : Fit s := fun {y c} hc i hi => by
    obtain ⟨ha, rfl⟩ := Array.getElem?_eq_some_iff.mp hc
    have q := List.all_eq_true.mp ((Array.all_eq_true_iff_forall_mem.mp hF) _ (Array.getElem_mem ha)) i (List.mem_range.mpr hi)
    simpa [Array.getElem?_eq_getElem hi] using q
  obtain ⟨i0, ei0⟩ := is_v g3
  obtain rfl : w0 = (.int i0) := Option.some.inj ei0
  obtain ⟨i1, ei1⟩ := is_v g5
  obtain rfl : w1 = (.int i1) := Option.some.inj ei1
  obtain ⟨i2, ei2⟩ := is_v g6
  obtain rfl : w2 = (.int i2) := Option.some.inj ei2
  obtain ⟨nA, hn⟩ := and_e hn
  obtain ⟨lA, hn⟩ := and_e hn
  obtain ⟨c1, hn⟩ := and_e hn
  obtain ⟨c2, hn⟩ := and_e hn
  obtain ⟨c3, hn⟩ := and_e hn
  obtain ⟨e62, hn⟩ := and_e hn
  have e63 := hn
  obtain ⟨aT, eT⟩ := arr_v nA
  have SB := Sta.start eT (Or.inr ⟨(hw _ (List.mem_of_getElem? (i := 3) rfl)), (hw _ (List.mem_of_getElem? (i := 6) rfl))⟩)
  obtain ⟨cl, A⟩ := Arr.start eT nA
  have hlen := lenEq eT A lA
  have hsz : cl.slots.size = 64 := (n32_eq (b := 64) hlen.1 (by decide)).mp hlen.2
  have hint : ∀ i, i < 64 → ∃ x : Int32, cl.slots[i]? = some (.int x) := fun i hi => by
    obtain ⟨v, e1, e2⟩ := elem_fit (j := i.toInt32) hfit A (fun r => r.elim (n32_nn (by omega)) (fun r => by rw [n32_clamp (by omega)] at r; omega))
    rw [n32_clamp (by omega)] at e1
    obtain ⟨x, rfl⟩ := fit_I e2 (by simp)
    exact ⟨x, e1⟩
  have hall := own_tab (fun idx => eT) (A.fin (Vm.Alike.refl _)) hsz hint c1 c2 c3 (elemEqI eT A e62) (elemEqI eT A e63)
  obtain ⟨tb, etb⟩ : ∃ tb, tb = (List.range 64).map own_enc := ⟨_, rfl⟩
  have hT : own_T tb := by subst etb; exact ⟨rfl, fun v hv => by rw [List.getElem?_map, List.getElem?_range hv]; rfl⟩
  have TB : Ary s s.heap aT .byte tb := ⟨cl, A, by
    apply Array.ext_getElem?
    intro i
    by_cases hi : i < 64
    · rw [hall i hi]; simp [etb, hi]
    · rw [Array.getElem?_eq_none (by omega), Array.getElem?_eq_none (by simp [etb]; omega)]⟩
  obtain ⟨n, o, h1, h2, h3, _, L, rfl, ⟨rfl, N⟩, hq⟩ := ct0 (n0 := s.heap.size) hw (Nat.le_refl _) i0 i1 i2 aT tb SB TB hT p e ha hc hk s m _ below hf ((Spec.applies_iff_loose hf).mp happ).1 ⟨rfl, State.Warmed39.refl s, rfl⟩ trivial
  exact ⟨n, _, h1, h2, h3, hpost _ _ _ _ _ _ ⟨Cond.after_iff.mpr rfl, Cond.after_iff.mpr (eq_i res_at (Term.int_eval (1)) rfl), trivial⟩ ⟨hq.1, hq.2.1, (hq.2.2.sift fun y hy => Or.inr (N y hy)).mono (by decide) (by decide)⟩⟩
theorem main_1_1 : Claimed_1_1 := comes_1 fun _ _ _ _ _ _ h hF => ⟨h.1, hF⟩
theorem main_1_2 : Claimed_1_2 := comes_1 fun _ _ _ _ _ _ h hF => ⟨h.2.1, hF⟩
end Jvm.Pilot.@@N@@
namespace Jvm.Pilot.@@N@@
open Jvm Jvm.ClassFile Sem Op Lib Jvm.Free Jvm.Stand Jvm.Pilot.@@N@@.Jvm.D
/-! MADE BY PROGRAM (witnessworld.py) out of the Statement's table words and the real class files: 9 classes; the members and pool entries that the words name. The judged class is class 1, her method 1. -/
namespace start1
open Jvm.ClassFile
def u (s : String) : CpInfo := .utf8 (stringToUtf16 s)
/-- a pool by its gaps: so many unusable entries, then the entry; so many at the end -/
def gap : Nat → List CpInfo → List CpInfo
  | 0, r => r
  | n + 1, r => .unusable :: gap n r
def poolList (es : List (Nat × CpInfo)) (last : Nat) : List CpInfo := es.foldr (fun e r => gap e.1 (e.2 :: r)) (gap last [])
def pool (es : List (Nat × CpInfo)) (last : Nat) : Array CpInfo := ⟨poolList es last⟩
def fileOf (pool : Array CpInfo) (this : Nat) (attrs : Array Attribute := #[]) (ms : Array MethodInfo := #[]) (fl : Nat := 33) (sup : Nat := 0) (ifs : Array Nat := #[]) (fds : Array FieldInfo := #[]) : ClassFile where
  minorVersion := 0
  majorVersion := 65
  constantPool := pool
  accessFlags := fl
  thisClass := this
  superClass := sup
  interfaces := ifs
  fields := fds
  methods := ms
  attributes := attrs
def plain (name : String) (sup : Option ClassId) : Class where
  name := name
  kind := .ordinary
  loader := none
  accessFlags := 33
  super := sup
  interfaces := #[]
  cf := none
  fields := #[]
  methods := #[]
  instanceTypes := #[]
  staticTypes := #[]
  resolved := #[]
  callSites := []
  init := .initialized
  statics := none
  mirror := none

def pool0 : Array CpInfo := pool [(5, u "<init>"), (0, u "()V"), (1, .class_ 10), (1, u "java/lang/Object")] 113

def k0m0 : Method := { name := "<init>", desc := "()V", sig := { parameters := [], returnType := none }, accessFlags := 1, code := none }
/-- java/lang/Object -/
def k0 : Class := { plain "java/lang/Object" none with
  accessFlags := 33
  interfaces := #[]
  cf := some (fileOf pool0 8 #[] #[{ accessFlags := 1, nameIndex := 5, descriptorIndex := 6, attributes := #[] }] 33 0 #[] #[])
  fields := #[]
  methods := #[k0m0]
  instanceTypes := #[]
  staticTypes := #[]
  resolved := Array.replicate 124 none
  statics := none }

def pool1 : Array CpInfo := pool [(2, .class_ 4), (1, u "java/lang/Object"), (0, u "<init>"), (0, u "()V"), (0, .methodref 8 9), (0, .class_ 10), (0, .nameAndType 11 12), (0, u "com/example/quire/quire/core/ValueText"), (0, u "base64"), (0, u "([BII[BI)I"), (0, .methodref 14 15), (0, .class_ 16), (0, .nameAndType 17 18), (0, u "com/example/quire/quire/core/ValueTextBase64PinLaw"), (0, u "ok"), (0, u "([B[BIIIII)Z"), (0, .methodref 14 20), (0, .nameAndType 21 22), (0, u "expect"), (0, u "([BIIII)B"), (0, .methodref 14 24), (0, .nameAndType 25 26), (0, u "enc"), (0, u "(I)B"), (2, u "law"), (0, u "(III)Z")] 5

def k1m0 : Method := { name := "<init>", desc := "()V", sig := { parameters := [], returnType := none }, accessFlags := 2, code := none }
def k1c1 : Code := { maxStack := 7, maxLocals := 11, code := code, exceptionTable := #[], attributes := #[] }
def k1m1 : Method := { name := "law", desc := "(III)Z", sig := { parameters := [.int, .int, .int], returnType := some .boolean }, accessFlags := 9, code := some k1c1 }
def k1c2 : Code := { maxStack := 6, maxLocals := 7, code := method_3_code, exceptionTable := #[], attributes := #[] }
def k1m2 : Method := { name := "ok", desc := "([B[BIIIII)Z", sig := { parameters := [(.array .byte), (.array .byte), .int, .int, .int, .int, .int], returnType := some .boolean }, accessFlags := 10, code := some k1c2 }
def k1c3 : Code := { maxStack := 3, maxLocals := 12, code := method_4_code, exceptionTable := #[], attributes := #[] }
def k1m3 : Method := { name := "expect", desc := "([BIIII)B", sig := { parameters := [(.array .byte), .int, .int, .int, .int], returnType := some .byte }, accessFlags := 10, code := some k1c3 }
def k1c4 : Code := { maxStack := 3, maxLocals := 1, code := method_5_code, exceptionTable := #[], attributes := #[] }
def k1m4 : Method := { name := "enc", desc := "(I)B", sig := { parameters := [.int], returnType := some .byte }, accessFlags := 10, code := some k1c4 }
/-- com/example/quire/quire/core/ValueTextBase64PinLaw -/
def k1 : Class := { plain "com/example/quire/quire/core/ValueTextBase64PinLaw" (some 0) with
  accessFlags := 49
  interfaces := #[]
  cf := some (fileOf pool1 14 #[] #[{ accessFlags := 2, nameIndex := 5, descriptorIndex := 6, attributes := #[] }, { accessFlags := 9, nameIndex := 29, descriptorIndex := 30, attributes := #[] }, { accessFlags := 10, nameIndex := 17, descriptorIndex := 18, attributes := #[] }, { accessFlags := 10, nameIndex := 21, descriptorIndex := 22, attributes := #[] }, { accessFlags := 10, nameIndex := 25, descriptorIndex := 26, attributes := #[] }] 49 2 #[] #[])
  fields := #[]
  methods := #[k1m0, k1m1, k1m2, k1m3, k1m4]
  instanceTypes := #[]
  staticTypes := #[]
  resolved := Array.replicate 36 none
  statics := none }

def pool2 : Array CpInfo := pool [(4, .class_ 6), (1, u "java/lang/Object"), (0, u "<init>"), (0, u "()V"), (2, .class_ 12), (0, u "com/example/quire/quire/core/ValueText"), (5, u "number"), (0, u "Ljava/lang/StringBuilder;"), (5, u "offsets"), (0, u "Lcom/example/quire/quire/core/ZoneOffsets;"), (2, u "handed"), (0, u "[B"), (54, u "TEN_POWERS_HIGH"), (0, u "[J"), (5, u "TEN_POWERS_LOW"), (42, u "zoneName"), (0, u "Lcom/example/quire/quire/core/ZoneName;"), (21, u "([BII[BI)I"), (75, u "FIRST_DAY"), (0, u "J"), (4, u "LAST_DAY"), (13, .fieldref 11 255), (0, .nameAndType 256 30), (0, u "BASE64"), (84, u "NUMBER_TEXT"), (0, u "I"), (2, u "DATE_TEXT"), (1, u "TIMESTAMP_TEXT"), (1, u "SECONDS_A_DAY"), (0, u "OUTSIDE_YEARS"), (0, u "Ljava/lang/String;"), (2, u "SKIPPED"), (0, u "BILLION"), (0, u "LOW_32"), (37, u "base64")] 32

def k2m0 : Method := { name := "<init>", desc := "()V", sig := { parameters := [], returnType := none }, accessFlags := 1, code := none }
def k2c1 : Code := { maxStack := 5, maxLocals := 9, code := prog_207_method_26_code, exceptionTable := #[], attributes := #[] }
def k2m1 : Method := { name := "base64", desc := "([BII[BI)I", sig := { parameters := [(.array .byte), .int, .int, (.array .byte), .int], returnType := some .int }, accessFlags := 9, code := some k2c1 }
/-- com/example/quire/quire/core/ValueText -/
def k2 : Class := { plain "com/example/quire/quire/core/ValueText" (some 0) with
  accessFlags := 49
  interfaces := #[]
  cf := some (fileOf pool2 11 #[] #[{ accessFlags := 1, nameIndex := 7, descriptorIndex := 8, attributes := #[] }, { accessFlags := 9, nameIndex := 394, descriptorIndex := 158, attributes := #[] }] 49 4 #[] #[{ accessFlags := 25, nameIndex := 341, descriptorIndex := 342, attributes := #[] }, { accessFlags := 25, nameIndex := 345, descriptorIndex := 342, attributes := #[] }, { accessFlags := 25, nameIndex := 347, descriptorIndex := 342, attributes := #[] }, { accessFlags := 25, nameIndex := 234, descriptorIndex := 235, attributes := #[] }, { accessFlags := 25, nameIndex := 240, descriptorIndex := 235, attributes := #[] }, { accessFlags := 24, nameIndex := 349, descriptorIndex := 342, attributes := #[] }, { accessFlags := 24, nameIndex := 350, descriptorIndex := 351, attributes := #[] }, { accessFlags := 24, nameIndex := 354, descriptorIndex := 235, attributes := #[] }, { accessFlags := 26, nameIndex := 256, descriptorIndex := 30, attributes := #[] }, { accessFlags := 26, nameIndex := 355, descriptorIndex := 235, attributes := #[] }, { accessFlags := 26, nameIndex := 356, descriptorIndex := 235, attributes := #[] }, { accessFlags := 26, nameIndex := 85, descriptorIndex := 86, attributes := #[] }, { accessFlags := 26, nameIndex := 92, descriptorIndex := 86, attributes := #[] }, { accessFlags := 18, nameIndex := 18, descriptorIndex := 19, attributes := #[] }, { accessFlags := 18, nameIndex := 25, descriptorIndex := 26, attributes := #[] }, { accessFlags := 2, nameIndex := 135, descriptorIndex := 136, attributes := #[] }, { accessFlags := 2, nameIndex := 29, descriptorIndex := 30, attributes := #[] }])
  fields := #[{ name := "NUMBER_TEXT", type := .int, accessFlags := 25, slot := 0, constantValue := 0 }, { name := "DATE_TEXT", type := .int, accessFlags := 25, slot := 1, constantValue := 0 }, { name := "TIMESTAMP_TEXT", type := .int, accessFlags := 25, slot := 2, constantValue := 0 }, { name := "FIRST_DAY", type := .long, accessFlags := 25, slot := 3, constantValue := 0 }, { name := "LAST_DAY", type := .long, accessFlags := 25, slot := 4, constantValue := 0 }, { name := "SECONDS_A_DAY", type := .int, accessFlags := 24, slot := 5, constantValue := 0 }, { name := "OUTSIDE_YEARS", type := (.object "java/lang/String"), accessFlags := 24, slot := 6, constantValue := 0 }, { name := "SKIPPED", type := .long, accessFlags := 24, slot := 7, constantValue := 0 }, { name := "BASE64", type := (.array .byte), accessFlags := 26, slot := 8, constantValue := 0 }, { name := "BILLION", type := .long, accessFlags := 26, slot := 9, constantValue := 0 }, { name := "LOW_32", type := .long, accessFlags := 26, slot := 10, constantValue := 0 }, { name := "TEN_POWERS_HIGH", type := (.array .long), accessFlags := 26, slot := 11, constantValue := 0 }, { name := "TEN_POWERS_LOW", type := (.array .long), accessFlags := 26, slot := 12, constantValue := 0 }, { name := "number", type := (.object "java/lang/StringBuilder"), accessFlags := 18, slot := 0, constantValue := 0 }, { name := "offsets", type := (.object "com/example/quire/quire/core/ZoneOffsets"), accessFlags := 18, slot := 1, constantValue := 0 }, { name := "zoneName", type := (.object "com/example/quire/quire/core/ZoneName"), accessFlags := 2, slot := 2, constantValue := 0 }, { name := "handed", type := (.array .byte), accessFlags := 2, slot := 3, constantValue := 0 }]
  methods := #[k2m0, k2m1]
  instanceTypes := #[(.object "java/lang/StringBuilder"), (.object "com/example/quire/quire/core/ZoneOffsets"), (.object "com/example/quire/quire/core/ZoneName"), (.array .byte)]
  staticTypes := #[.int, .int, .int, .long, .long, .int, (.object "java/lang/String"), .long, (.array .byte), .long, .long, (.array .long), (.array .long)]
  resolved := Array.replicate 427 none
  statics := some 0 }

def pool3 : Array CpInfo := pool [(1, u "java/lang/Cloneable"), (0, .class_ 1), (0, u "java/lang/Object"), (0, .class_ 3)] 3

/-- java/lang/Cloneable -/
def k3 : Class := { plain "java/lang/Cloneable" (some 0) with
  accessFlags := 1537
  interfaces := #[]
  cf := some (fileOf pool3 2 #[] #[] 1537 4 #[] #[])
  fields := #[]
  methods := #[]
  instanceTypes := #[]
  staticTypes := #[]
  resolved := Array.replicate 8 none
  statics := none }

def pool4 : Array CpInfo := pool [(1, u "java/io/Serializable"), (0, .class_ 1), (0, u "java/lang/Object"), (0, .class_ 3)] 3

/-- java/io/Serializable -/
def k4 : Class := { plain "java/io/Serializable" (some 0) with
  accessFlags := 1537
  interfaces := #[]
  cf := some (fileOf pool4 2 #[] #[] 1537 4 #[] #[])
  fields := #[]
  methods := #[]
  instanceTypes := #[]
  staticTypes := #[]
  resolved := Array.replicate 8 none
  statics := none }

/-- the primitive byte -/
def k5 : Class := { plain "byte" none with kind := .primitive 'B', accessFlags := 0x411 }
/-- [B -/
def k6 : Class := { plain "[B" (some 0) with kind := .array 5 .byte, interfaces := #[3, 4], accessFlags := 1041 }

/-- the primitive int -/
def k7 : Class := { plain "int" none with kind := .primitive 'I', accessFlags := 0x411 }
/-- [I -/
def k8 : Class := { plain "[I" (some 0) with kind := .array 7 .int, interfaces := #[3, 4], accessFlags := 1041 }

def heap : Heap := #[{ cls := 2, slots := #[.int 0, .int 0, .int 0, .long 0, .long 0, .int 0, .null, .long 0, .ref 1, .long 0, .long 0, .null, .null], vm := .statics 2 },
  { cls := 6, slots := #[.int 65, .int 66, .int 67, .int 68, .int 69, .int 70, .int 71, .int 72, .int 73, .int 74, .int 75, .int 76, .int 77, .int 78, .int 79, .int 80, .int 81, .int 82, .int 83, .int 84, .int 85, .int 86, .int 87, .int 88, .int 89, .int 90, .int 97, .int 98, .int 99, .int 100, .int 101, .int 102, .int 103, .int 104, .int 105, .int 106, .int 107, .int 108, .int 109, .int 110, .int 111, .int 112, .int 113, .int 114, .int 115, .int 116, .int 117, .int 118, .int 119, .int 120, .int 121, .int 122, .int 48, .int 49, .int 50, .int 51, .int 52, .int 53, .int 54, .int 55, .int 56, .int 57, .int 43, .int 47], vm := .none }]
def classes : Array Class := #[k0, k1, k2, k3, k4, k5, k6, k7, k8]
def interned : List (Array UInt16 × Addr) := []
def slotsUsed : Nat := 77
def theMethod : MethodId := ⟨1, 1⟩
def args0 : Array Value := #[.int 5, .int 7, .int 9]
def aboutOver (below : List Frame) : State where
  vm := { classes := classes, interned := interned.toArray }
  heap := heap
  slotsUsed := slotsUsed
  threads := #[{ frames := .invoking theMethod args0 :: below }]
def below0 : List Frame := [.native { method := ⟨0, 0⟩, args := #[] }]
def about1 : State := aboutOver below0
def p0 : Program := .bare "" "" ""
def e0 : Env := launch0.env 0 0 0
theorem w_frames : about1.frames = Frame.invoking theMethod args0 :: below0 := rfl
set_option maxRecDepth 65536 in
theorem w_args : argsFit about1.vm theMethod args0 = true := by decide +kernel
set_option maxRecDepth 65536 in
theorem w_heap : heapFits about1 = true := by decide +kernel
set_option maxRecDepth 65536 in
theorem w_runnable : about1.curStatus? = some .runnable := by decide +kernel
set_option maxRecDepth 65536 in
theorem w_alone : about1.alone = true := by decide +kernel
set_option maxRecDepth 65536 in
theorem w_named : about1.methodNamed? x = some theMethod := by decide +kernel
set_option maxRecDepth 65536 in
theorem w_hears : about1.hears theMethod below0 = true := by decide +kernel
set_option maxRecDepth 65536 in
theorem w_ripe : about1.ripe theMethod args0 below0 = true := by decide +kernel
theorem w_running : about1.status = .running := rfl
set_option maxRecDepth 65536 in
theorem w_room : about1.hasRoom e0.platform room_1 = true :=
  launch0.hasRoom_least _ room_1 (by decide +kernel) (by decide +kernel) (by decide +kernel) (by decide +kernel) (by decide +kernel) (by decide +kernel)
theorem allAtoms_all (ts : List Jvm.Cond) (a : Array Jvm.Value) (st : Jvm.State) : (allAtoms ts).before a st = ts.all (fun c => c.before a st) := by
  induction ts with
  | nil => rfl
  | cons c t ih =>
    show (Jvm.Cond.and c (allAtoms t)).before a st = _
    rw [Jvm.Cond.before_and, ih, List.all_cons]
def words1 : List Jvm.Cond := Jvm.Cond.code x code maxLocals ret :: tables_1
/-- a 'code' word, met by the world's own term for the bytes: nothing is compared byte by byte -/
theorem code_word {y : MethodName} {bytes : ByteArray} {mx : Nat} {rt : Option FieldType} {a : Array Value} {s : State} {m : MethodId} {meth : Method} {c : Code} (h1 : s.methodNamed? y = some m) (h2 : s.vm.method? m = some meth) (h3 : meth.code = some c) (h4 : c.code = bytes)
    (h5 : (c.maxLocals == mx && c.exceptionTable.isEmpty && decide (c.maxStack ≤ mostOperands) && decide (meth.sig.returnType = rt) && !meth.locks && decide (parseMethodDescriptor y.desc = some meth.sig)) = true) : (Jvm.Cond.code y bytes mx rt).before a s = true := by
  simp only [Bool.and_eq_true, beq_iff_eq, Bool.not_eq_true', decide_eq_true_eq] at h5
  obtain ⟨⟨⟨⟨⟨g1, g2⟩, g3⟩, g4⟩, g5⟩, g6⟩ := h5
  simp [Cond.before, Cond.holds, Cond.value, h1, h2, h3, h4, g1, g2, g3, g4, g5, g6]
def isCode : Jvm.Cond → Bool
  | .code _ _ _ _ => true
  | _ => false
theorem all_split {L : List Jvm.Cond} {P : Jvm.Cond → Bool} (h1 : L.all (fun c => isCode c || P c) = true) (h2 : ∀ c ∈ L.filter isCode, P c = true) : L.all P = true := by
  refine List.all_eq_true.mpr fun c hc => ?_
  have h := List.all_eq_true.mp h1 c hc
  rcases Bool.eq_false_or_eq_true (isCode c) with hi | hi
  · exact h2 c (List.mem_filter.mpr ⟨hc, hi⟩)
  · simpa [hi] using h
set_option maxRecDepth 65536 in
theorem w_c0 : (Jvm.Cond.code x code maxLocals ret).before args0 about1 = true := code_word (m := ⟨1, 1⟩) (meth := k1m1) (c := k1c1) (by decide +kernel) rfl rfl rfl (by decide +kernel)
set_option maxRecDepth 65536 in
theorem w_c1 : (Jvm.Cond.code ({ cls := "com/example/quire/quire/core/ValueText", name := "base64", desc := "([BII[BI)I" } : Jvm.MethodName) prog_207_method_26_code (9 : Nat) (Option.some Jvm.ClassFile.FieldType.int)).before args0 about1 = true := code_word (m := ⟨2, 1⟩) (meth := k2m1) (c := k2c1) (by decide +kernel) rfl rfl rfl (by decide +kernel)
set_option maxRecDepth 65536 in
theorem w_c2 : (Jvm.Cond.code ({ cls := "com/example/quire/quire/core/ValueTextBase64PinLaw", name := "ok", desc := "([B[BIIIII)Z" } : Jvm.MethodName) method_3_code (7 : Nat) (Option.some Jvm.ClassFile.FieldType.boolean)).before args0 about1 = true := code_word (m := ⟨1, 2⟩) (meth := k1m2) (c := k1c2) (by decide +kernel) rfl rfl rfl (by decide +kernel)
set_option maxRecDepth 65536 in
theorem w_c3 : (Jvm.Cond.code ({ cls := "com/example/quire/quire/core/ValueTextBase64PinLaw", name := "expect", desc := "([BIIII)B" } : Jvm.MethodName) method_4_code (12 : Nat) (Option.some Jvm.ClassFile.FieldType.byte)).before args0 about1 = true := code_word (m := ⟨1, 3⟩) (meth := k1m3) (c := k1c3) (by decide +kernel) rfl rfl rfl (by decide +kernel)
set_option maxRecDepth 65536 in
theorem w_c4 : (Jvm.Cond.code ({ cls := "com/example/quire/quire/core/ValueTextBase64PinLaw", name := "enc", desc := "(I)B" } : Jvm.MethodName) method_5_code (1 : Nat) (Option.some Jvm.ClassFile.FieldType.byte)).before args0 about1 = true := code_word (m := ⟨1, 4⟩) (meth := k1m4) (c := k1c4) (by decide +kernel) rfl rfl rfl (by decide +kernel)
def codes1 : List Jvm.Cond := [Jvm.Cond.code x code maxLocals ret, Jvm.Cond.code ({ cls := "com/example/quire/quire/core/ValueText", name := "base64", desc := "([BII[BI)I" } : Jvm.MethodName) prog_207_method_26_code (9 : Nat) (Option.some Jvm.ClassFile.FieldType.int), Jvm.Cond.code ({ cls := "com/example/quire/quire/core/ValueTextBase64PinLaw", name := "ok", desc := "([B[BIIIII)Z" } : Jvm.MethodName) method_3_code (7 : Nat) (Option.some Jvm.ClassFile.FieldType.boolean), Jvm.Cond.code ({ cls := "com/example/quire/quire/core/ValueTextBase64PinLaw", name := "expect", desc := "([BIIII)B" } : Jvm.MethodName) method_4_code (12 : Nat) (Option.some Jvm.ClassFile.FieldType.byte), Jvm.Cond.code ({ cls := "com/example/quire/quire/core/ValueTextBase64PinLaw", name := "enc", desc := "(I)B" } : Jvm.MethodName) method_5_code (1 : Nat) (Option.some Jvm.ClassFile.FieldType.byte)]
set_option maxRecDepth 65536 in
theorem codes_eq : words1.filter isCode = codes1 := rfl
theorem w_codes : ∀ c ∈ words1.filter isCode, c.before args0 about1 = true := by
  rw [codes_eq]
  intro c hc
  simp only [codes1, List.mem_cons, List.not_mem_nil, or_false] at hc
  rcases hc with rfl | rfl | rfl | rfl | rfl
  · exact w_c0
  · exact w_c1
  · exact w_c2
  · exact w_c3
  · exact w_c4
set_option maxRecDepth 65536 in
theorem w_t1 : words1.all (fun c => isCode c || c.before args0 about1) = true := by decide +kernel
theorem w_tables : (allAtoms (Jvm.Cond.code x code maxLocals ret :: tables_1)).before args0 about1 = true := by
  rw [allAtoms_all]
  show words1.all (fun c => c.before args0 about1) = true
  refine all_split ?_ w_codes
  rw [w_t1]
set_option maxRecDepth 65536 in
theorem w_case : (Jvm.Cond.and given_1 narrow_1).before args0 about1 = true := by decide +kernel
theorem w_applies : (headSpec (Jvm.Cond.code x code maxLocals ret :: tables_1) room_1).applies x e0.platform about1 = true :=
  (Spec.applies_iff w_frames).mpr ⟨w_running, w_runnable, w_alone, w_named, w_hears, w_ripe, w_room, w_tables⟩
theorem atStart : AtStart classFile x code maxLocals ret World_1 tables_1 room_1 Calls_1 rest_1 Pre_1 launch0 p0 e0 about1 theMethod args0 below0 :=
  ⟨lists_1, trivial, launch0.admits_env _ _ _, launch0.least_env, fairChoices_fair.cas, fairChoices_fair.clock, w_frames, w_args, w_heap, w_applies, trivial, trivial, w_case⟩
end start1
theorem witness_1 : WitnessClaimed_1 := ⟨start1.p0, start1.e0, start1.about1, start1.theMethod, start1.args0, start1.below0, start1.atStart⟩
end Jvm.Pilot.@@N@@
