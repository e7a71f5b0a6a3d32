import JvmDerived
import JvmDerived.Pilot.@@N@@Statement
import JvmDerived.Pilot.@@N@@Code
set_option linter.unusedVariables false
set_option linter.unusedSimpArgs false
namespace Jvm.OwnKit
open Sem ClassFile Op Lib Jvm.Stand Jvm.Free Jvm.LawKit Jvm.RoadKit
/-- a run of the method y that stands at pc with the locals ls, the stack st and the heap h comes to a return that Q allows -/
def ORun (l : Launch) (y : MethodName) (bytes : ByteArray) (maxL : Nat) (ret : Option FieldType) (R : Room) (Z : State) (n0 : Nat) (as' : Array Value) (Q : Option Value → Heap → Prop) (h : Heap) (cells slots pc : Nat) (ls : List Slot) (st : List Value) : Prop :=
  ∀ (p : Program) (e : Env) (s : State) (m : MethodId) (below : List Frame) (meth : Method) (c : Code) (T : State) (locs : List Loc),
    p.tables.exec = Jvm.exec → Z.Warmed39 s.vm → c.code = bytes → c.maxLocals = maxL → s.vm.findClass y.cls = some m.cls → meth.name = y.name → meth.sig.returnType = ret → meth.locks = false →
    Stand p l e R s m as' below meth c T locs cells slots → T.heap = h → Fr n0 locs →
    ∃ (U : State) (o : Outcome), Steps p.tables e below (T.setTop (mkF m pc ls.toArray st)) U ∧ U.status = .running ∧ Ended U below o ∧ ∃ v L, o = .returned v ∧ (Q v U.heap ∧ Fr n0 L) ∧ FrameEnd s o U L R.cells R.slots
/-- the contract of a method at the heap h and the arguments as' -/
def Ct (l : Launch) (y : MethodName) (bytes : ByteArray) (maxL : Nat) (ret : Option FieldType) (ws : List Jvm.Cond) (R : Room) (Z : State) (n0 : Nat) (as' : Array Value) (h : Heap) (Q : Option Value → Heap → Prop) : Prop :=
  MetFree l y (head1 (Jvm.Cond.code y bytes maxL ret :: ws) R) (fun a U => a = as' ∧ Z.Warmed39 U.vm ∧ U.heap = h) (fun _ _ _ _ _ => True) (fun _ U o U' => ∃ v L, o = .returned v ∧ (Q v U'.heap ∧ Fr n0 L) ∧ FrameEnd U o U' L R.cells R.slots)
def D (bytes : ByteArray) (pc : Nat) (i : Instr) (len nx : Nat) : Prop := decode bytes pc = .ok (i, len) ∧ pc + len = nx
def DB (bytes : ByteArray) (pc : Nat) (i : Int → Instr) (off : Int) (nx tgt : Nat) : Prop := decode bytes pc = .ok (i off, 3) ∧ pc + 3 = nx ∧ 0 ≤ (pc : Int) + off ∧ ((pc : Int) + off).toNat = tgt
/-- an array of a primitive kind whose elements are kept as ints, by their list -/
def Ary (Z : State) (h : Heap) (a : Addr) (ty : FieldType) (vs : List Int32) : Prop := ∃ c : Cell, Arr Z h a c ty ∧ c.slots = (vs.map Value.int).toArray
theorem eq_ints {args : Array Value} {first s : State} {o : Option Outcome} {idx : List Nat} {a b : Term} {x y : Int32} (ha : a.eval args first o idx s = some (.int x)) (hb : b.eval args first o idx s = some (.int y)) : (Jvm.Cond.eq a b).value args first o s idx = some (decide (x = y)) := by simp [Cond.value, ha, hb]
theorem fldEq {args : Array Value} {s : State} {t : Term} {C n d : String} {x : Addr} {k : Int32} (ht : t.eval args s none [] s = some (.ref x)) (h : (Jvm.Cond.eq (.field t C n d) (.int k)).value args s none s [] = some true) : Fld s s.heap x C n d (.int k) := by
  have e : (Term.field t C n d).eval args s none [] s = some (.int k) := by
    obtain ⟨v, w, e1, e2, k1, k2⟩ := cmp_v (Or.inl h)
    cases (show some (Value.int k) = some w from e2)
    obtain ⟨z, rfl⟩ := k2
    have q := gotT (eq_ints e1 e2) h
    rw [q] at e1; exact e1
  exact Fld.start (by rw [← fld_at ht]; exact e)
theorem n32_add (a b : Nat) : a.toInt32 + b.toInt32 = (a + b).toInt32 := (Int32.ofNat_add a b).symm
theorem n32_int {a : Nat} (h : a < 2 ^ 31) : a.toInt32.toInt = a := Int32.toInt_ofNat_of_lt h
theorem n32_sub {a b : Nat} (h : b ≤ a) : a.toInt32 - b.toInt32 = (a - b).toInt32 := by
  have e : (a - b).toInt32 + b.toInt32 = a.toInt32 := by rw [n32_add]; congr 1; omega
  rw [← e, Int32.add_sub_cancel]
theorem n32_lt {a b : Nat} (ha : a < 2 ^ 31) (hb : b < 2 ^ 31) : a.toInt32 < b.toInt32 ↔ a < b := by
  rw [Int32.lt_iff_toInt_lt, n32_int ha, n32_int hb]; omega
theorem n32_eq {a b : Nat} (ha : a < 2 ^ 31) (hb : b < 2 ^ 31) : a.toInt32 = b.toInt32 ↔ a = b := by
  rw [← Int32.toInt_inj, n32_int ha, n32_int hb]; omega
theorem n32_clamp {a : Nat} (h : a < 2 ^ 31) : a.toInt32.toNatClampNeg = a := by
  show a.toInt32.toInt.toNat = a
  rw [n32_int h]; rfl
theorem n32_nn {a : Nat} (h : a < 2 ^ 31) : ¬ a.toInt32 < 0 := by
  have h0 : (0 : Int32).toInt = 0 := by decide
  rw [Int32.lt_iff_toInt_lt, n32_int h]; omega
theorem n32_of {x : Int32} (h : ¬ x < 0) : ∃ n : Nat, x = n.toInt32 ∧ n < 2 ^ 31 ∧ x.toInt = n := ⟨x.toNatClampNeg, (back32 h).1.symm, (back32 h).2, nat_of h⟩
theorem n32_and (x m : Int32) (k : Nat) (hk : k ≤ 31) (hm : m.toBitVec.toNat = 2 ^ k - 1) : ∃ n : Nat, x &&& m = n.toInt32 ∧ n < 2 ^ k := by
  have h1 := c_mask x m k hk hm
  have h2 : (0 : Int) ≤ (x &&& m).toInt := by rw [h1]; exact Int.emod_nonneg _ (by have := Nat.pow_pos (n := k) (show 0 < 2 by decide); omega)
  have h3 : (x &&& m).toInt < (2 ^ k : Nat) := by rw [h1]; exact Int.emod_lt_of_pos _ (by have := Nat.pow_pos (n := k) (show 0 < 2 by decide); omega)
  have h0 : (0 : Int32).toInt = 0 := by decide
  obtain ⟨n, e1, e2, e3⟩ := n32_of (x := x &&& m) (by rw [Int32.lt_iff_toInt_lt]; omega)
  exact ⟨n, e1, by omega⟩
theorem n32_rem {u k : Nat} (hu : u < 2 ^ 31) (hk : 0 < k) (hk2 : k < 2 ^ 31) : u.toInt32 % k.toInt32 = (u % k).toInt32 := by
  have h2 := (c_irem u.toInt32 k.toInt32 k (n32_int hk2)).1 (by rw [n32_int hu]; omega)
  have h3 := Nat.mod_lt u hk
  refine Int32.toInt_inj.mp ?_
  rw [h2, n32_int hu, n32_int (by omega)]
  omega
theorem n32_ushr (x q : Int32) (k : Nat) (hk : q.toBitVec.toNat % 32 = k) (h0 : 0 < k) : ∃ u : Nat, (x.toUInt32 >>> (q &&& 31).toUInt32).toInt32 = u.toInt32 ∧ u < 2 ^ 31 := by
  have h1 := c_iushr x q k hk h0
  have h2 : (2 : Nat) ≤ 2 ^ k := Nat.le_trans (by decide) (Nat.pow_le_pow_right (by decide) h0)
  have h3 : 0 ≤ (x.toInt % 4294967296) / ((2 ^ k : Nat) : Int) := Int.ediv_nonneg (by omega) (by omega)
  have z : (0 : Int32).toInt = 0 := by decide
  obtain ⟨n, e1, e2, e3⟩ := n32_of (x := (x.toUInt32 >>> (q &&& 31).toUInt32).toInt32) (by rw [Int32.lt_iff_toInt_lt]; omega)
  exact ⟨n, e1, e2⟩
theorem n32_mod (x : Int32) (k : Nat) (hk : 0 < k) (hk2 : k < 2 ^ 31) : ∃ n : Nat, (x &&& (2147483647 : Int32)) % k.toInt32 = n.toInt32 ∧ n < k := by
  have h1 := c_mask x 2147483647 31 (by decide) (by decide)
  have h2 := (c_irem (x &&& 2147483647) k.toInt32 k (n32_int hk2)).1 (by omega)
  have h4 := Int.emod_nonneg (x &&& 2147483647).toInt (b := (k : Int)) (by omega)
  have h5 := Int.emod_lt_of_pos (x &&& 2147483647).toInt (b := (k : Int)) (by omega)
  have h0 : (0 : Int32).toInt = 0 := by decide
  obtain ⟨n, e1, e2, e3⟩ := n32_of (x := (x &&& (2147483647 : Int32)) % k.toInt32) (by rw [Int32.lt_iff_toInt_lt]; omega)
  exact ⟨n, e1, by omega⟩
theorem lenEq {args : Array Value} {s : State} {t : Term} {a : Addr} {cl : Cell} {ty : FieldType} {k : Int32} (ht : t.eval args s none [] s = some (.ref a)) (A : Arr s s.heap a cl ty) (h : (Jvm.Cond.eq (.length t) (.int k)).value args s none s [] = some true) : cl.slots.size < 2 ^ 31 ∧ cl.slots.size.toInt32 = k := by
  have ha := A.fin (Vm.Alike.refl _)
  obtain ⟨v, w, e1, e2, k1, k2⟩ := cmp_v (Or.inl h)
  by_cases hl : cl.slots.size < 2 ^ 31
  · have e := len_f ht ha hl
    exact ⟨hl, gotT (eq_ints e (show (Term.int k).eval args s none [] s = some (.int k) from rfl)) h⟩
  · simp [Term.eval, ht, ha, hl] at e1
theorem elemEq {args : Array Value} {s : State} {t u : Term} {a b : Addr} {cl : Cell} {ty : FieldType} {j : Int32} (ht : t.eval args s none [] s = some (.ref a)) (A : Arr s s.heap a cl ty) (hu : u.eval args s none [] s = some (.ref b)) (h : (Jvm.Cond.eq (.elem t (.int j)) u).value args s none s [] = some true) : cl.slots[j.toNatClampNeg]? = some (.ref b) := by
  obtain ⟨v, w, e1, e2, k1, k2⟩ := cmp_v (Or.inl h)
  cases hu.symm.trans e2
  have hv : v.isRef = true := k2.2
  have q := gotT (eq_R e1 hu hv rfl) h
  rw [q] at e1
  exact (elem_in e1 ht rfl A.1).2
section AryFacts
variable {Z : State} {h h' : Heap} {a b : Addr} {ty : FieldType} {vs vs' : List Int32} {sl : Nat} {v : Value} {ws : List Addr}
theorem Ary.lt (F : Ary Z h a ty vs) : a < h.size := by obtain ⟨c, A, -⟩ := F; exact A.lt
theorem Ary.ext (F : Ary Z h a ty vs) (E : Ext h h') : Ary Z h' a ty vs := by obtain ⟨c, A, q⟩ := F; exact ⟨c, A.ext E, q⟩
theorem Ary.other (F : Ary Z h b ty vs) (W : Wr h h' a sl v) (q : b ≠ a) : Ary Z h' b ty vs := by obtain ⟨c, A, r⟩ := F; exact ⟨c, A.other W q, r⟩
theorem Ary.keep (F : Ary Z h a ty vs) (K : Keep h h' ws) (q : a ∉ ws) : Ary Z h' a ty vs := by obtain ⟨c, A, r⟩ := F; exact ⟨c, ⟨K.2.1 a c A.1 q, A.2⟩, r⟩
theorem Ary.set {i : Nat} {x : Int32} (F : Ary Z h a ty vs) (W : Wr h h' a i (.int x)) (e : vs.set i x = vs') : Ary Z h' a ty vs' := by
  obtain ⟨c, A, r⟩ := F
  refine ⟨_, A.same W, ?_⟩
  subst e
  simp [Cell.setSlot, r, List.map_set]
theorem Ary.new {k : ClassId} {n : Int32} {m : Nat} (A : Arr Z h a (newA k ty n) ty) (hd : defaultValue ty = .int 0) (hn : n.toNatClampNeg = m) : Ary Z h a ty (List.replicate m 0) := by
  refine ⟨_, A, ?_⟩
  subst hn
  simp [newA, hd]
theorem Ary.inb {j : Int32} {x : Int32} {c : Cell} (q : c.slots = (vs.map Value.int).toArray) (hj : ¬ j < 0) (hv : vs[j.toNatClampNeg]? = some x) : ¬ (j < 0 ∨ c.slots.size ≤ j.toNatClampNeg) ∧ c.slots[j.toNatClampNeg]? = some (.int x) := by
  have h1 : j.toNatClampNeg < vs.length := by
    rcases Nat.lt_or_ge j.toNatClampNeg vs.length with h | h
    · exact h
    · rw [List.getElem?_eq_none h] at hv; cases hv
  refine ⟨fun r => ?_, ?_⟩
  · rcases r with r | r
    · exact hj r
    · rw [q] at r; simp at r; omega
  · rw [q]; simp [hv]
theorem Ary.size {c : Cell} (q : c.slots = (vs.map Value.int).toArray) : c.slots.size = vs.length := by rw [q]; simp
end AryFacts
section Logic
variable {l : Launch} {y : MethodName} {bytes : ByteArray} {maxL : Nat} {ret : Option FieldType} {ws : List Jvm.Cond} {R : Room} {Z : State} {n0 : Nat} {as' : Array Value} {Q : Option Value → Heap → Prop} {h : Heap} {cells slots pc nx tgt : Nat} {ls ls' : List Slot} {st : List Value} {a0 : Array Value}
theorem Ct.of (hpl : plainFor y = true) (hef : ∀ m, entryFrame m as' maxL = mkF m 0 ls.toArray []) (H : ORun l y bytes maxL ret R Z n0 as' Q h 0 0 0 ls []) : Ct l y bytes maxL ret ws R Z n0 as' h Q := by
  refine MetFree.of_bodySF hpl hisR ?_
  intro p e s m args below meth c s₁ Bd hml0 hP hK
  obtain ⟨rfl, hZ, hh⟩ := hP
  rw [hef m]
  exact H p e s m below meth c s₁ [] Bd.exec hZ Bd.bytes hml0 (findClass_of_methodNamed Bd.named) (name_of_methodNamed Bd.named Bd.method).1 Bd.returns Bd.notSynchronized (Stand.of_body Bd) (by rw [← hh, Bd.state]; rfl) (Fr.nil n0)
theorem ORun.weak {cells' slots' : Nat} (hc : cells ≤ cells') (hs : slots ≤ slots') (K : ORun l y bytes maxL ret R Z n0 as' Q h cells' slots' pc ls st) : ORun l y bytes maxL ret R Z n0 as' Q h cells slots pc ls st :=
  fun p e s m below meth c T locs hx hZ hby hml hown hnm hret hlk X eT N => K p e s m below meth c T locs hx hZ hby hml hown hnm hret hlk ⟨X.admits, X.cas, X.clock, X.frames, X.room, X.hears, X.method, X.code, X.here, X.tail, X.warmed, X.limits, X.bytes, X.same.mono hc hs⟩ eT N
/-- one step that moves neither heap nor tables -/
theorem ORun.step {pc' : Nat} {st' : List Value}
    (hs : ∀ (p : Program) (e : Env) (s : State) (m : MethodId) (below : List Frame) (meth : Method) (c : Code) (T : State) (locs : List Loc), p.tables.exec = Jvm.exec → Z.Warmed39 s.vm → c.code = bytes → s.vm.findClass y.cls = some m.cls → Stand p l e R s m as' below meth c T locs cells slots → T.heap = h →
      ∀ target, Steps p.tables e below (T.setTop (mkF m pc' ls'.toArray st')) target → Steps p.tables e below (T.setTop (mkF m pc ls.toArray st)) target)
    (K : ORun l y bytes maxL ret R Z n0 as' Q h cells slots pc' ls' st') : ORun l y bytes maxL ret R Z n0 as' Q h cells slots pc ls st :=
  fun p e s m below meth c T locs hx hZ hby hml hown hnm hret hlk X eT N => by
    obtain ⟨U, o, h1, h2⟩ := K p e s m below meth c T locs hx hZ hby hml hown hnm hret hlk X eT N
    exact ⟨U, o, hs p e s m below meth c T locs hx hZ hby hown X eT _ h1, h2⟩
/-- one step by a law that hands back a new state -/
theorem ORun.law {pc' : Nat} {st' : List Value} {h' : Heap} {cells' slots' : Nat}
    (hs : ∀ (p : Program) (e : Env) (s : State) (m : MethodId) (below : List Frame) (meth : Method) (c : Code) (T : State) (locs : List Loc), p.tables.exec = Jvm.exec → Z.Warmed39 s.vm → c.code = bytes → c.maxLocals = maxL → s.vm.findClass y.cls = some m.cls → meth.name = y.name → Stand p l e R s m as' below meth c T locs cells slots → T.heap = h → Fr n0 locs →
      ∃ T' locs', Stand p l e R s m as' below meth c T' locs' cells' slots' ∧ T'.heap = h' ∧ Fr n0 locs' ∧ ∀ target, Steps p.tables e below (T'.setTop (mkF m pc' ls'.toArray st')) target → Steps p.tables e below (T.setTop (mkF m pc ls.toArray st)) target)
    (K : ORun l y bytes maxL ret R Z n0 as' Q h' cells' slots' pc' ls' st') : ORun l y bytes maxL ret R Z n0 as' Q h cells slots pc ls st :=
  fun p e s m below meth c T locs hx hZ hby hml hown hnm hret hlk X eT N => by
    obtain ⟨T', locs', X', eT', N', st⟩ := hs p e s m below meth c T locs hx hZ hby hml hown hnm X eT N
    obtain ⟨U, o, h1, h2⟩ := K p e s m below meth c T' locs' hx hZ hby hml hown hnm hret hlk X' eT' N'
    exact ⟨U, o, st _ h1, h2⟩
theorem getL {k : Nat} {v : Slot} (q : ls[k]? = some v) : ls.toArray[k]? = some v := by simpa using q
/-! loads, stores -/
theorem r_iloadN {k : Fin 4} {v : Int32} (hd : D bytes pc (.iload_n k) 1 nx) (hl : ls[k.val]? = some (.val (.int v))) (K : ORun l y bytes maxL ret R Z n0 as' Q h cells slots nx ls (.int v :: st)) : ORun l y bytes maxL ret R Z n0 as' Q h cells slots pc ls st := by
  obtain ⟨hd, rfl⟩ := hd
  exact K.step fun p e s m below meth c T locs hx hZ hby hown X eT t k => XS.iloadN X.here hx rfl (hb hby hd) (getL hl) k
theorem r_iload {k : Nat} {v : Int32} (hd : D bytes pc (.iload k) 2 nx) (hl : ls[k]? = some (.val (.int v))) (K : ORun l y bytes maxL ret R Z n0 as' Q h cells slots nx ls (.int v :: st)) : ORun l y bytes maxL ret R Z n0 as' Q h cells slots pc ls st := by
  obtain ⟨hd, rfl⟩ := hd
  exact K.step fun p e s m below meth c T locs hx hZ hby hown X eT t k => XS.iload X.here hx rfl (hb hby hd) (getL hl) k
theorem r_aloadN {k : Fin 4} {v : Value} (hd : D bytes pc (.aload_n k) 1 nx) (hl : ls[k.val]? = some (.val v)) (hv : v.isRef = true) (K : ORun l y bytes maxL ret R Z n0 as' Q h cells slots nx ls (v :: st)) : ORun l y bytes maxL ret R Z n0 as' Q h cells slots pc ls st := by
  obtain ⟨hd, rfl⟩ := hd
  exact K.step fun p e s m below meth c T locs hx hZ hby hown X eT t k => XS.aloadN X.here hx rfl (hb hby hd) (getL hl) hv k
theorem r_aload {k : Nat} {v : Value} (hd : D bytes pc (.aload k) 2 nx) (hl : ls[k]? = some (.val v)) (hv : v.isRef = true) (K : ORun l y bytes maxL ret R Z n0 as' Q h cells slots nx ls (v :: st)) : ORun l y bytes maxL ret R Z n0 as' Q h cells slots pc ls st := by
  obtain ⟨hd, rfl⟩ := hd
  exact K.step fun p e s m below meth c T locs hx hZ hby hown X eT t k => XS.aload X.here hx rfl (hb hby hd) (getL hl) hv k
theorem r_lloadN {k : Fin 4} {v : Int64} (hd : D bytes pc (.lload_n k) 1 nx) (hl : ls[k.val]? = some (.val (.long v))) (K : ORun l y bytes maxL ret R Z n0 as' Q h cells slots nx ls (.long v :: st)) : ORun l y bytes maxL ret R Z n0 as' Q h cells slots pc ls st := by
  obtain ⟨hd, rfl⟩ := hd
  exact K.step fun p e s m below meth c T locs hx hZ hby hown X eT t k => XS.lloadN X.here hx rfl (hb hby hd) (getL hl) k
theorem r_lload {k : Nat} {v : Int64} (hd : D bytes pc (.lload k) 2 nx) (hl : ls[k]? = some (.val (.long v))) (K : ORun l y bytes maxL ret R Z n0 as' Q h cells slots nx ls (.long v :: st)) : ORun l y bytes maxL ret R Z n0 as' Q h cells slots pc ls st := by
  obtain ⟨hd, rfl⟩ := hd
  exact K.step fun p e s m below meth c T locs hx hZ hby hown X eT t k => XS.lload X.here hx rfl (hb hby hd) (getL hl) k
theorem r_istoreN {k : Fin 4} {v : Int32} (hd : D bytes pc (.istore_n k) 1 nx) (ls' : List Slot) (hl : storeLocals ls.toArray k.val (.int v) = some ls'.toArray) (K : ORun l y bytes maxL ret R Z n0 as' Q h cells slots nx ls' st) : ORun l y bytes maxL ret R Z n0 as' Q h cells slots pc ls (.int v :: st) := by
  obtain ⟨hd, rfl⟩ := hd
  exact K.step fun p e s m below meth c T locs hx hZ hby hown X eT t k => XS.istoreN X.here hx rfl (hb hby hd) rfl hl k
theorem r_istore {k : Nat} {v : Int32} (hd : D bytes pc (.istore k) 2 nx) (ls' : List Slot) (hl : storeLocals ls.toArray k (.int v) = some ls'.toArray) (K : ORun l y bytes maxL ret R Z n0 as' Q h cells slots nx ls' st) : ORun l y bytes maxL ret R Z n0 as' Q h cells slots pc ls (.int v :: st) := by
  obtain ⟨hd, rfl⟩ := hd
  exact K.step fun p e s m below meth c T locs hx hZ hby hown X eT t k => XS.istore X.here hx rfl (hb hby hd) rfl hl k
theorem r_astoreN {k : Fin 4} {v : Value} (hd : D bytes pc (.astore_n k) 1 nx) (hv : v.isRef = true) (ls' : List Slot) (hl : storeLocals ls.toArray k.val v = some ls'.toArray) (K : ORun l y bytes maxL ret R Z n0 as' Q h cells slots nx ls' st) : ORun l y bytes maxL ret R Z n0 as' Q h cells slots pc ls (v :: st) := by
  obtain ⟨hd, rfl⟩ := hd
  exact K.step fun p e s m below meth c T locs hx hZ hby hown X eT t k => XS.astoreN X.here hx rfl (hb hby hd) rfl hv hl k
theorem r_astore {k : Nat} {v : Value} (hd : D bytes pc (.astore k) 2 nx) (hv : v.isRef = true) (ls' : List Slot) (hl : storeLocals ls.toArray k v = some ls'.toArray) (K : ORun l y bytes maxL ret R Z n0 as' Q h cells slots nx ls' st) : ORun l y bytes maxL ret R Z n0 as' Q h cells slots pc ls (v :: st) := by
  obtain ⟨hd, rfl⟩ := hd
  exact K.step fun p e s m below meth c T locs hx hZ hby hown X eT t k => XS.astore X.here hx rfl (hb hby hd) rfl hv hl k
theorem r_lstoreN {k : Fin 4} {v : Int64} (hd : D bytes pc (.lstore_n k) 1 nx) (ls' : List Slot) (hl : storeLocals ls.toArray k.val (.long v) = some ls'.toArray) (K : ORun l y bytes maxL ret R Z n0 as' Q h cells slots nx ls' st) : ORun l y bytes maxL ret R Z n0 as' Q h cells slots pc ls (.long v :: st) := by
  obtain ⟨hd, rfl⟩ := hd
  exact K.step fun p e s m below meth c T locs hx hZ hby hown X eT t k => XS.lstoreN X.here hx rfl (hb hby hd) rfl hl k
theorem r_lstore {k : Nat} {v : Int64} (hd : D bytes pc (.lstore k) 2 nx) (ls' : List Slot) (hl : storeLocals ls.toArray k (.long v) = some ls'.toArray) (K : ORun l y bytes maxL ret R Z n0 as' Q h cells slots nx ls' st) : ORun l y bytes maxL ret R Z n0 as' Q h cells slots pc ls (.long v :: st) := by
  obtain ⟨hd, rfl⟩ := hd
  exact K.step fun p e s m below meth c T locs hx hZ hby hown X eT t k => XS.lstore X.here hx rfl (hb hby hd) rfl hl k
theorem r_iinc {k : Nat} {i : Int} {v w : Int32} (hd : D bytes pc (.iinc k i) 3 nx) (hl : ls[k]? = some (.val (.int v))) (hw : v + Int32.ofInt i = w) (ls' : List Slot) (hl' : storeLocals ls.toArray k (.int w) = some ls'.toArray) (K : ORun l y bytes maxL ret R Z n0 as' Q h cells slots nx ls' st) : ORun l y bytes maxL ret R Z n0 as' Q h cells slots pc ls st := by
  obtain ⟨hd, rfl⟩ := hd
  subst hw
  exact K.step fun p e s m below meth c T locs hx hZ hby hown X eT t k => XS.iinc X.here hx rfl (hb hby hd) (getL hl) hl' k
/-! constants -/
theorem r_iconst {i : Int} (v : Int32) (hv : Int32.ofInt i = v) (hd : D bytes pc (.iconst i) 1 nx) (K : ORun l y bytes maxL ret R Z n0 as' Q h cells slots nx ls (.int v :: st)) : ORun l y bytes maxL ret R Z n0 as' Q h cells slots pc ls st := by
  obtain ⟨hd, rfl⟩ := hd
  subst hv
  exact K.step fun p e s m below meth c T locs hx hZ hby hown X eT t k => XS.iconst X.here hx rfl (hb hby hd) k
theorem r_bipush {i : Int} (v : Int32) (hv : (Int8.ofInt i).toInt32 = v) (hd : D bytes pc (.bipush i) 2 nx) (K : ORun l y bytes maxL ret R Z n0 as' Q h cells slots nx ls (.int v :: st)) : ORun l y bytes maxL ret R Z n0 as' Q h cells slots pc ls st := by
  obtain ⟨hd, rfl⟩ := hd
  subst hv
  exact K.step fun p e s m below meth c T locs hx hZ hby hown X eT t k => XS.bipush X.here hx rfl (hb hby hd) k
theorem r_sipush {i : Int} (v : Int32) (hv : (Int16.ofInt i).toInt32 = v) (hd : D bytes pc (.sipush i) 3 nx) (K : ORun l y bytes maxL ret R Z n0 as' Q h cells slots nx ls (.int v :: st)) : ORun l y bytes maxL ret R Z n0 as' Q h cells slots pc ls st := by
  obtain ⟨hd, rfl⟩ := hd
  subst hv
  exact K.step fun p e s m below meth c T locs hx hZ hby hown X eT t k => XS.sipush X.here hx rfl (hb hby hd) k
theorem r_lconst {i : Fin 2} (v : Int64) (hv : Int64.ofNat i = v) (hd : D bytes pc (.lconst i) 1 nx) (K : ORun l y bytes maxL ret R Z n0 as' Q h cells slots nx ls (.long v :: st)) : ORun l y bytes maxL ret R Z n0 as' Q h cells slots pc ls st := by
  obtain ⟨hd, rfl⟩ := hd
  subst hv
  exact K.step fun p e s m below meth c T locs hx hZ hby hown X eT t k => XS.lconst X.here hx rfl (hb hby hd) k
theorem r_null (hd : D bytes pc .aconst_null 1 nx) (K : ORun l y bytes maxL ret R Z n0 as' Q h cells slots nx ls (.null :: st)) : ORun l y bytes maxL ret R Z n0 as' Q h cells slots pc ls st := by
  obtain ⟨hd, rfl⟩ := hd
  exact K.step fun p e s m below meth c T locs hx hZ hby hown X eT t k => XS.aconstNull X.here hx rfl (hb hby hd) k
theorem r_ldc {i : Nat} {v : Int32} (w : (Cond.constant y.cls i v).before a0 Z = true) (hd : D bytes pc (.ldc i) 2 nx) (K : ORun l y bytes maxL ret R Z n0 as' Q h cells slots nx ls (.int v :: st)) : ORun l y bytes maxL ret R Z n0 as' Q h cells slots pc ls st := by
  obtain ⟨hd, rfl⟩ := hd
  exact K.step fun p e s m below meth c T locs hx hZ hby hown X eT t k => X.ldcInt hx hown (mvT hZ w) (g := mkF m pc ls.toArray st) rfl (hb hby hd) _ k
theorem r_ldc2 {i : Nat} {v : Int64} (w : (Cond.constantLong y.cls i v).before a0 Z = true) (hd : D bytes pc (.ldc2_w i) 3 nx) (K : ORun l y bytes maxL ret R Z n0 as' Q h cells slots nx ls (.long v :: st)) : ORun l y bytes maxL ret R Z n0 as' Q h cells slots pc ls st := by
  obtain ⟨hd, rfl⟩ := hd
  exact K.step fun p e s m below meth c T locs hx hZ hby hown X eT t k => X.ldc2Long hx hown (mvT hZ w) (g := mkF m pc ls.toArray st) rfl (hb hby hd) _ k
theorem r_ldcS {i : Nat} {text : String} {a : Addr} (w : (Cond.stringRef y.cls i text).before a0 Z = true) (L : Lit Z y.cls i a) (hd : D bytes pc (.ldc i) 2 nx) (K : ORun l y bytes maxL ret R Z n0 as' Q h cells slots nx ls (.ref a :: st)) : ORun l y bytes maxL ret R Z n0 as' Q h cells slots pc ls st := by
  obtain ⟨hd, rfl⟩ := hd
  exact K.step fun p e s m below meth c T locs hx hZ hby hown X eT t k => ldcR X hx hZ hown w L (g := mkF m pc ls.toArray st) rfl (hb hby hd) _ k
/-! arithmetic -/
theorem r_iadd {x z : Int32} (hd : D bytes pc .iadd 1 nx) (K : ORun l y bytes maxL ret R Z n0 as' Q h cells slots nx ls (.int (x + z) :: st)) : ORun l y bytes maxL ret R Z n0 as' Q h cells slots pc ls (.int z :: .int x :: st) := by
  obtain ⟨hd, rfl⟩ := hd
  exact K.step fun p e s m below meth c T locs hx hZ hby hown X eT t k => XS.iadd X.here hx rfl (hb hby hd) rfl k
theorem r_isub {x z : Int32} (hd : D bytes pc .isub 1 nx) (K : ORun l y bytes maxL ret R Z n0 as' Q h cells slots nx ls (.int (x - z) :: st)) : ORun l y bytes maxL ret R Z n0 as' Q h cells slots pc ls (.int z :: .int x :: st) := by
  obtain ⟨hd, rfl⟩ := hd
  exact K.step fun p e s m below meth c T locs hx hZ hby hown X eT t k => XS.isub X.here hx rfl (hb hby hd) rfl k
theorem r_iand {x z : Int32} (hd : D bytes pc .iand 1 nx) (K : ORun l y bytes maxL ret R Z n0 as' Q h cells slots nx ls (.int (x &&& z) :: st)) : ORun l y bytes maxL ret R Z n0 as' Q h cells slots pc ls (.int z :: .int x :: st) := by
  obtain ⟨hd, rfl⟩ := hd
  exact K.step fun p e s m below meth c T locs hx hZ hby hown X eT t k => XS.iand X.here hx rfl (hb hby hd) rfl k
theorem r_imul {x z : Int32} (hd : D bytes pc .imul 1 nx) (K : ORun l y bytes maxL ret R Z n0 as' Q h cells slots nx ls (.int (x * z) :: st)) : ORun l y bytes maxL ret R Z n0 as' Q h cells slots pc ls (.int z :: .int x :: st) := by
  obtain ⟨hd, rfl⟩ := hd
  exact K.step fun p e s m below meth c T locs hx hZ hby hown X eT t k => XS.imul X.here hx rfl (hb hby hd) rfl k
theorem r_ior {x z : Int32} (hd : D bytes pc .ior 1 nx) (K : ORun l y bytes maxL ret R Z n0 as' Q h cells slots nx ls (.int (x ||| z) :: st)) : ORun l y bytes maxL ret R Z n0 as' Q h cells slots pc ls (.int z :: .int x :: st) := by
  obtain ⟨hd, rfl⟩ := hd
  exact K.step fun p e s m below meth c T locs hx hZ hby hown X eT t k => XS.ior X.here hx rfl (hb hby hd) rfl k
theorem r_ixor {x z : Int32} (hd : D bytes pc .ixor 1 nx) (K : ORun l y bytes maxL ret R Z n0 as' Q h cells slots nx ls (.int (x ^^^ z) :: st)) : ORun l y bytes maxL ret R Z n0 as' Q h cells slots pc ls (.int z :: .int x :: st) := by
  obtain ⟨hd, rfl⟩ := hd
  exact K.step fun p e s m below meth c T locs hx hZ hby hown X eT t k => XS.ixor X.here hx rfl (hb hby hd) rfl k
theorem r_ishl {x z : Int32} (hd : D bytes pc .ishl 1 nx) (K : ORun l y bytes maxL ret R Z n0 as' Q h cells slots nx ls (.int (x <<< (z &&& 31)) :: st)) : ORun l y bytes maxL ret R Z n0 as' Q h cells slots pc ls (.int z :: .int x :: st) := by
  obtain ⟨hd, rfl⟩ := hd
  exact K.step fun p e s m below meth c T locs hx hZ hby hown X eT t k => XS.ishl X.here hx rfl (hb hby hd) rfl k
theorem r_ishr {x z : Int32} (hd : D bytes pc .ishr 1 nx) (K : ORun l y bytes maxL ret R Z n0 as' Q h cells slots nx ls (.int (x >>> (z &&& 31)) :: st)) : ORun l y bytes maxL ret R Z n0 as' Q h cells slots pc ls (.int z :: .int x :: st) := by
  obtain ⟨hd, rfl⟩ := hd
  exact K.step fun p e s m below meth c T locs hx hZ hby hown X eT t k => XS.ishr X.here hx rfl (hb hby hd) rfl k
theorem r_iushr {x z : Int32} (hd : D bytes pc .iushr 1 nx) (K : ORun l y bytes maxL ret R Z n0 as' Q h cells slots nx ls (.int ((x.toUInt32 >>> (z &&& 31).toUInt32).toInt32) :: st)) : ORun l y bytes maxL ret R Z n0 as' Q h cells slots pc ls (.int z :: .int x :: st) := by
  obtain ⟨hd, rfl⟩ := hd
  exact K.step fun p e s m below meth c T locs hx hZ hby hown X eT t k => XS.iushr X.here hx rfl (hb hby hd) rfl k
theorem r_ladd {x z : Int64} (hd : D bytes pc .ladd 1 nx) (K : ORun l y bytes maxL ret R Z n0 as' Q h cells slots nx ls (.long (x + z) :: st)) : ORun l y bytes maxL ret R Z n0 as' Q h cells slots pc ls (.long z :: .long x :: st) := by
  obtain ⟨hd, rfl⟩ := hd
  exact K.step fun p e s m below meth c T locs hx hZ hby hown X eT t k => XS.ladd X.here hx rfl (hb hby hd) rfl k
theorem r_lsub {x z : Int64} (hd : D bytes pc .lsub 1 nx) (K : ORun l y bytes maxL ret R Z n0 as' Q h cells slots nx ls (.long (x - z) :: st)) : ORun l y bytes maxL ret R Z n0 as' Q h cells slots pc ls (.long z :: .long x :: st) := by
  obtain ⟨hd, rfl⟩ := hd
  exact K.step fun p e s m below meth c T locs hx hZ hby hown X eT t k => XS.lsub X.here hx rfl (hb hby hd) rfl k
theorem r_land {x z : Int64} (hd : D bytes pc .land 1 nx) (K : ORun l y bytes maxL ret R Z n0 as' Q h cells slots nx ls (.long (x &&& z) :: st)) : ORun l y bytes maxL ret R Z n0 as' Q h cells slots pc ls (.long z :: .long x :: st) := by
  obtain ⟨hd, rfl⟩ := hd
  exact K.step fun p e s m below meth c T locs hx hZ hby hown X eT t k => XS.land X.here hx rfl (hb hby hd) rfl k
theorem r_lmul {x z : Int64} (hd : D bytes pc .lmul 1 nx) (K : ORun l y bytes maxL ret R Z n0 as' Q h cells slots nx ls (.long (x * z) :: st)) : ORun l y bytes maxL ret R Z n0 as' Q h cells slots pc ls (.long z :: .long x :: st) := by
  obtain ⟨hd, rfl⟩ := hd
  exact K.step fun p e s m below meth c T locs hx hZ hby hown X eT t k => XS.lmul X.here hx rfl (hb hby hd) rfl k
theorem r_lor {x z : Int64} (hd : D bytes pc .lor 1 nx) (K : ORun l y bytes maxL ret R Z n0 as' Q h cells slots nx ls (.long (x ||| z) :: st)) : ORun l y bytes maxL ret R Z n0 as' Q h cells slots pc ls (.long z :: .long x :: st) := by
  obtain ⟨hd, rfl⟩ := hd
  exact K.step fun p e s m below meth c T locs hx hZ hby hown X eT t k => XS.lor X.here hx rfl (hb hby hd) rfl k
theorem r_lxor {x z : Int64} (hd : D bytes pc .lxor 1 nx) (K : ORun l y bytes maxL ret R Z n0 as' Q h cells slots nx ls (.long (x ^^^ z) :: st)) : ORun l y bytes maxL ret R Z n0 as' Q h cells slots pc ls (.long z :: .long x :: st) := by
  obtain ⟨hd, rfl⟩ := hd
  exact K.step fun p e s m below meth c T locs hx hZ hby hown X eT t k => XS.lxor X.here hx rfl (hb hby hd) rfl k
theorem r_lshl {x : Int64} {z : Int32} (hd : D bytes pc .lshl 1 nx) (K : ORun l y bytes maxL ret R Z n0 as' Q h cells slots nx ls (.long (x <<< (z &&& 63).toInt64) :: st)) : ORun l y bytes maxL ret R Z n0 as' Q h cells slots pc ls (.int z :: .long x :: st) := by
  obtain ⟨hd, rfl⟩ := hd
  exact K.step fun p e s m below meth c T locs hx hZ hby hown X eT t k => XS.lshl X.here hx rfl (hb hby hd) rfl k
theorem r_lshr {x : Int64} {z : Int32} (hd : D bytes pc .lshr 1 nx) (K : ORun l y bytes maxL ret R Z n0 as' Q h cells slots nx ls (.long (x >>> (z &&& 63).toInt64) :: st)) : ORun l y bytes maxL ret R Z n0 as' Q h cells slots pc ls (.int z :: .long x :: st) := by
  obtain ⟨hd, rfl⟩ := hd
  exact K.step fun p e s m below meth c T locs hx hZ hby hown X eT t k => XS.lshr X.here hx rfl (hb hby hd) rfl k
theorem r_lushr {x : Int64} {z : Int32} (hd : D bytes pc .lushr 1 nx) (K : ORun l y bytes maxL ret R Z n0 as' Q h cells slots nx ls (.long ((x.toUInt64 >>> (z &&& 63).toInt64.toUInt64).toInt64) :: st)) : ORun l y bytes maxL ret R Z n0 as' Q h cells slots pc ls (.int z :: .long x :: st) := by
  obtain ⟨hd, rfl⟩ := hd
  exact K.step fun p e s m below meth c T locs hx hZ hby hown X eT t k => XS.lushr X.here hx rfl (hb hby hd) rfl k
theorem r_idiv {x z : Int32} (hd : D bytes pc .idiv 1 nx) (hz : z ≠ 0) (K : ORun l y bytes maxL ret R Z n0 as' Q h cells slots nx ls (.int (x / z) :: st)) : ORun l y bytes maxL ret R Z n0 as' Q h cells slots pc ls (.int z :: .int x :: st) := by
  obtain ⟨hd, rfl⟩ := hd
  exact K.step fun p e s m below meth c T locs hx hZ hby hown X eT t k => XS.idiv X.here hx rfl (hb hby hd) rfl hz k
theorem r_ldiv {x z : Int64} (hd : D bytes pc .ldiv 1 nx) (hz : z ≠ 0) (K : ORun l y bytes maxL ret R Z n0 as' Q h cells slots nx ls (.long (x / z) :: st)) : ORun l y bytes maxL ret R Z n0 as' Q h cells slots pc ls (.long z :: .long x :: st) := by
  obtain ⟨hd, rfl⟩ := hd
  exact K.step fun p e s m below meth c T locs hx hZ hby hown X eT t k => XS.ldiv X.here hx rfl (hb hby hd) rfl hz k
theorem r_ineg {x : Int32} (hd : D bytes pc .ineg 1 nx) (K : ORun l y bytes maxL ret R Z n0 as' Q h cells slots nx ls (.int (-x) :: st)) : ORun l y bytes maxL ret R Z n0 as' Q h cells slots pc ls (.int x :: st) := by
  obtain ⟨hd, rfl⟩ := hd
  exact K.step fun p e s m below meth c T locs hx hZ hby hown X eT t k => XS.ineg X.here hx rfl (hb hby hd) rfl k
theorem r_lneg {x : Int64} (hd : D bytes pc .lneg 1 nx) (K : ORun l y bytes maxL ret R Z n0 as' Q h cells slots nx ls (.long (-x) :: st)) : ORun l y bytes maxL ret R Z n0 as' Q h cells slots pc ls (.long x :: st) := by
  obtain ⟨hd, rfl⟩ := hd
  exact K.step fun p e s m below meth c T locs hx hZ hby hown X eT t k => XS.lneg X.here hx rfl (hb hby hd) rfl k
theorem r_i2l {x : Int32} (hd : D bytes pc .i2l 1 nx) (K : ORun l y bytes maxL ret R Z n0 as' Q h cells slots nx ls (.long (x.toInt64) :: st)) : ORun l y bytes maxL ret R Z n0 as' Q h cells slots pc ls (.int x :: st) := by
  obtain ⟨hd, rfl⟩ := hd
  exact K.step fun p e s m below meth c T locs hx hZ hby hown X eT t k => XS.i2l X.here hx rfl (hb hby hd) rfl k
theorem r_l2i {x : Int64} (hd : D bytes pc .l2i 1 nx) (K : ORun l y bytes maxL ret R Z n0 as' Q h cells slots nx ls (.int (x.toInt32) :: st)) : ORun l y bytes maxL ret R Z n0 as' Q h cells slots pc ls (.long x :: st) := by
  obtain ⟨hd, rfl⟩ := hd
  exact K.step fun p e s m below meth c T locs hx hZ hby hown X eT t k => XS.l2i X.here hx rfl (hb hby hd) rfl k
theorem r_i2b {x : Int32} (hd : D bytes pc .i2b 1 nx) (K : ORun l y bytes maxL ret R Z n0 as' Q h cells slots nx ls (.int (x.toInt8.toInt32) :: st)) : ORun l y bytes maxL ret R Z n0 as' Q h cells slots pc ls (.int x :: st) := by
  obtain ⟨hd, rfl⟩ := hd
  exact K.step fun p e s m below meth c T locs hx hZ hby hown X eT t k => XS.i2b X.here hx rfl (hb hby hd) rfl k
theorem r_i2s {x : Int32} (hd : D bytes pc .i2s 1 nx) (K : ORun l y bytes maxL ret R Z n0 as' Q h cells slots nx ls (.int (x.toInt16.toInt32) :: st)) : ORun l y bytes maxL ret R Z n0 as' Q h cells slots pc ls (.int x :: st) := by
  obtain ⟨hd, rfl⟩ := hd
  exact K.step fun p e s m below meth c T locs hx hZ hby hown X eT t k => XS.i2s X.here hx rfl (hb hby hd) rfl k
theorem r_i2c {x : Int32} (hd : D bytes pc .i2c 1 nx) (K : ORun l y bytes maxL ret R Z n0 as' Q h cells slots nx ls (.int (x.toUInt32.toUInt16.toUInt32.toInt32) :: st)) : ORun l y bytes maxL ret R Z n0 as' Q h cells slots pc ls (.int x :: st) := by
  obtain ⟨hd, rfl⟩ := hd
  exact K.step fun p e s m below meth c T locs hx hZ hby hown X eT t k => XS.i2c X.here hx rfl (hb hby hd) rfl k
theorem r_lcmp {x z : Int64} (hd : D bytes pc .lcmp 1 nx) (K : ORun l y bytes maxL ret R Z n0 as' Q h cells slots nx ls (.int (lcmpW x z) :: st)) : ORun l y bytes maxL ret R Z n0 as' Q h cells slots pc ls (.long z :: .long x :: st) := by
  obtain ⟨hd, rfl⟩ := hd
  exact K.step fun p e s m below meth c T locs hx hZ hby hown X eT t k => XS.lcmp X.here hx rfl (hb hby hd) rfl k
theorem r_dup {x : Value} (hd : D bytes pc .dup 1 nx) (hc : x.category = 1) (K : ORun l y bytes maxL ret R Z n0 as' Q h cells slots nx ls (x :: x :: st)) : ORun l y bytes maxL ret R Z n0 as' Q h cells slots pc ls (x :: st) := by
  obtain ⟨hd, rfl⟩ := hd
  exact K.step fun p e s m below meth c T locs hx hZ hby hown X eT t k => XS.dup X.here hx rfl (hb hby hd) rfl hc k
theorem r_pop {x : Value} (hd : D bytes pc .pop 1 nx) (hc : x.category = 1) (K : ORun l y bytes maxL ret R Z n0 as' Q h cells slots nx ls st) : ORun l y bytes maxL ret R Z n0 as' Q h cells slots pc ls (x :: st) := by
  obtain ⟨hd, rfl⟩ := hd
  exact K.step fun p e s m below meth c T locs hx hZ hby hown X eT t k => XS.pop X.here hx rfl (hb hby hd) rfl hc k
theorem r_dupX1 {x z : Value} (hd : D bytes pc .dup_x1 1 nx) (hc : x.category = 1) (hc2 : z.category = 1) (K : ORun l y bytes maxL ret R Z n0 as' Q h cells slots nx ls (x :: z :: x :: st)) : ORun l y bytes maxL ret R Z n0 as' Q h cells slots pc ls (x :: z :: st) := by
  obtain ⟨hd, rfl⟩ := hd
  exact K.step fun p e s m below meth c T locs hx hZ hby hown X eT t k => XS.dupX1 X.here hx rfl (hb hby hd) rfl hc hc2 k
theorem r_dup2 {x z : Value} (hd : D bytes pc .dup2 1 nx) (hc : x.category = 1) (hc2 : z.category = 1) (K : ORun l y bytes maxL ret R Z n0 as' Q h cells slots nx ls (x :: z :: x :: z :: st)) : ORun l y bytes maxL ret R Z n0 as' Q h cells slots pc ls (x :: z :: st) := by
  obtain ⟨hd, rfl⟩ := hd
  exact K.step fun p e s m below meth c T locs hx hZ hby hown X eT t k => XT.dup2 X.here hx rfl (hb hby hd) rfl hc hc2 k
theorem r_dup2L {x : Int64} (hd : D bytes pc .dup2 1 nx) (K : ORun l y bytes maxL ret R Z n0 as' Q h cells slots nx ls (.long x :: .long x :: st)) : ORun l y bytes maxL ret R Z n0 as' Q h cells slots pc ls (.long x :: st) := by
  obtain ⟨hd, rfl⟩ := hd
  exact K.step fun p e s m below meth c T locs hx hZ hby hown X eT t k => XT.dup2L X.here hx rfl (hb hby hd) rfl k
theorem r_irem {x z : Int32} (hd : D bytes pc .irem 1 nx) (hz : z ≠ 0) (K : ORun l y bytes maxL ret R Z n0 as' Q h cells slots nx ls (.int (x % z) :: st)) : ORun l y bytes maxL ret R Z n0 as' Q h cells slots pc ls (.int z :: .int x :: st) := by
  obtain ⟨hd, rfl⟩ := hd
  exact K.step fun p e s m below meth c T locs hx hZ hby hown X eT t k => iremM X hx rfl (hb hby hd) rfl hz k
theorem r_lrem {x z : Int64} (hd : D bytes pc .lrem 1 nx) (hz : z ≠ 0) (K : ORun l y bytes maxL ret R Z n0 as' Q h cells slots nx ls (.long (x % z) :: st)) : ORun l y bytes maxL ret R Z n0 as' Q h cells slots pc ls (.long z :: .long x :: st) := by
  obtain ⟨hd, rfl⟩ := hd
  rw [← lrem_mod] at K
  exact K.step fun p e s m below meth c T locs hx hZ hby hown X eT t k => XS.lrem X.here hx rfl (hb hby hd) rfl hz k
/-! branches -/
theorem r_goto {off : Int} (hd : DB bytes pc .goto off nx tgt) (K : ORun l y bytes maxL ret R Z n0 as' Q h cells slots tgt ls st) : ORun l y bytes maxL ret R Z n0 as' Q h cells slots pc ls st := by
  obtain ⟨hd, rfl, ho, rfl⟩ := hd
  exact K.step fun p e s m below meth c T locs hx hZ hby hown X eT t k => XS.goto X.here hx rfl rfl (hb hby hd) ho rfl k
theorem r_icmp {cd : ClassFile.Cond} {off : Int} {x z : Int32} (hd : DB bytes pc (.if_icmp cd) off nx tgt) (K1 : if_icmp.holds cd x z = true → ORun l y bytes maxL ret R Z n0 as' Q h cells slots tgt ls st) (K2 : if_icmp.holds cd x z = false → ORun l y bytes maxL ret R Z n0 as' Q h cells slots nx ls st) : ORun l y bytes maxL ret R Z n0 as' Q h cells slots pc ls (.int z :: .int x :: st) := by
  obtain ⟨hd, rfl, ho, rfl⟩ := hd
  cases hc : if_icmp.holds cd x z
  · exact (K2 hc).step fun p e s m below meth c T locs hx hZ hby hown X eT t k => XS.icmpNo X.here hx rfl (hb hby hd) rfl hc k
  · exact (K1 hc).step fun p e s m below meth c T locs hx hZ hby hown X eT t k => XS.icmpYes X.here hx rfl rfl (hb hby hd) rfl hc ho rfl k
theorem r_if {cd : ClassFile.Cond} {off : Int} {x : Int32} (hd : DB bytes pc (.ifCond cd) off nx tgt) (K1 : if_icmp.holds cd x 0 = true → ORun l y bytes maxL ret R Z n0 as' Q h cells slots tgt ls st) (K2 : if_icmp.holds cd x 0 = false → ORun l y bytes maxL ret R Z n0 as' Q h cells slots nx ls st) : ORun l y bytes maxL ret R Z n0 as' Q h cells slots pc ls (.int x :: st) := by
  obtain ⟨hd, rfl, ho, rfl⟩ := hd
  cases hc : if_icmp.holds cd x 0
  · exact (K2 hc).step fun p e s m below meth c T locs hx hZ hby hown X eT t k => XS.ifNo X.here hx rfl (hb hby hd) rfl ((if0 _ _).trans hc) k
  · exact (K1 hc).step fun p e s m below meth c T locs hx hZ hby hown X eT t k => XS.ifYes X.here hx rfl rfl (hb hby hd) rfl ((if0 _ _).trans hc) ho rfl k
theorem r_icmp_lt {off : Int} {x z : Int32} (hd : DB bytes pc (.if_icmp .lt) off nx tgt) (K1 : x < z → ORun l y bytes maxL ret R Z n0 as' Q h cells slots tgt ls st) (K2 : ¬ x < z → ORun l y bytes maxL ret R Z n0 as' Q h cells slots nx ls st) : ORun l y bytes maxL ret R Z n0 as' Q h cells slots pc ls (.int z :: .int x :: st) :=
  r_icmp hd (fun q => K1 (Decidable.byContradiction fun r => by rw [(flt r).1] at q; cases q)) (fun q => K2 (fun r => by rw [(tlt r).1] at q; cases q))
theorem r_if_lt {off : Int} {x : Int32} (hd : DB bytes pc (.ifCond .lt) off nx tgt) (K1 : x < 0 → ORun l y bytes maxL ret R Z n0 as' Q h cells slots tgt ls st) (K2 : ¬ x < 0 → ORun l y bytes maxL ret R Z n0 as' Q h cells slots nx ls st) : ORun l y bytes maxL ret R Z n0 as' Q h cells slots pc ls (.int x :: st) :=
  r_if hd (fun q => K1 (Decidable.byContradiction fun r => by rw [(flt r).1] at q; cases q)) (fun q => K2 (fun r => by rw [(tlt r).1] at q; cases q))
theorem r_icmp_ge {off : Int} {x z : Int32} (hd : DB bytes pc (.if_icmp .ge) off nx tgt) (K1 : ¬ x < z → ORun l y bytes maxL ret R Z n0 as' Q h cells slots tgt ls st) (K2 : x < z → ORun l y bytes maxL ret R Z n0 as' Q h cells slots nx ls st) : ORun l y bytes maxL ret R Z n0 as' Q h cells slots pc ls (.int z :: .int x :: st) :=
  r_icmp hd (fun q => K1 (fun r => by rw [(tlt r).2.1] at q; cases q)) (fun q => K2 (Decidable.byContradiction fun r => by rw [(flt r).2.1] at q; cases q))
theorem r_if_ge {off : Int} {x : Int32} (hd : DB bytes pc (.ifCond .ge) off nx tgt) (K1 : ¬ x < 0 → ORun l y bytes maxL ret R Z n0 as' Q h cells slots tgt ls st) (K2 : x < 0 → ORun l y bytes maxL ret R Z n0 as' Q h cells slots nx ls st) : ORun l y bytes maxL ret R Z n0 as' Q h cells slots pc ls (.int x :: st) :=
  r_if hd (fun q => K1 (fun r => by rw [(tlt r).2.1] at q; cases q)) (fun q => K2 (Decidable.byContradiction fun r => by rw [(flt r).2.1] at q; cases q))
theorem r_icmp_gt {off : Int} {x z : Int32} (hd : DB bytes pc (.if_icmp .gt) off nx tgt) (K1 : z < x → ORun l y bytes maxL ret R Z n0 as' Q h cells slots tgt ls st) (K2 : ¬ z < x → ORun l y bytes maxL ret R Z n0 as' Q h cells slots nx ls st) : ORun l y bytes maxL ret R Z n0 as' Q h cells slots pc ls (.int z :: .int x :: st) :=
  r_icmp hd (fun q => K1 (Decidable.byContradiction fun r => by rw [(flt r).2.2.1] at q; cases q)) (fun q => K2 (fun r => by rw [(tlt r).2.2.1] at q; cases q))
theorem r_if_gt {off : Int} {x : Int32} (hd : DB bytes pc (.ifCond .gt) off nx tgt) (K1 : 0 < x → ORun l y bytes maxL ret R Z n0 as' Q h cells slots tgt ls st) (K2 : ¬ 0 < x → ORun l y bytes maxL ret R Z n0 as' Q h cells slots nx ls st) : ORun l y bytes maxL ret R Z n0 as' Q h cells slots pc ls (.int x :: st) :=
  r_if hd (fun q => K1 (Decidable.byContradiction fun r => by rw [(flt r).2.2.1] at q; cases q)) (fun q => K2 (fun r => by rw [(tlt r).2.2.1] at q; cases q))
theorem r_icmp_le {off : Int} {x z : Int32} (hd : DB bytes pc (.if_icmp .le) off nx tgt) (K1 : ¬ z < x → ORun l y bytes maxL ret R Z n0 as' Q h cells slots tgt ls st) (K2 : z < x → ORun l y bytes maxL ret R Z n0 as' Q h cells slots nx ls st) : ORun l y bytes maxL ret R Z n0 as' Q h cells slots pc ls (.int z :: .int x :: st) :=
  r_icmp hd (fun q => K1 (fun r => by rw [(tlt r).2.2.2] at q; cases q)) (fun q => K2 (Decidable.byContradiction fun r => by rw [(flt r).2.2.2] at q; cases q))
theorem r_if_le {off : Int} {x : Int32} (hd : DB bytes pc (.ifCond .le) off nx tgt) (K1 : ¬ 0 < x → ORun l y bytes maxL ret R Z n0 as' Q h cells slots tgt ls st) (K2 : 0 < x → ORun l y bytes maxL ret R Z n0 as' Q h cells slots nx ls st) : ORun l y bytes maxL ret R Z n0 as' Q h cells slots pc ls (.int x :: st) :=
  r_if hd (fun q => K1 (fun r => by rw [(tlt r).2.2.2] at q; cases q)) (fun q => K2 (Decidable.byContradiction fun r => by rw [(flt r).2.2.2] at q; cases q))
theorem r_icmp_eq {off : Int} {x z : Int32} (hd : DB bytes pc (.if_icmp .eq) off nx tgt) (K1 : x = z → ORun l y bytes maxL ret R Z n0 as' Q h cells slots tgt ls st) (K2 : ¬ x = z → ORun l y bytes maxL ret R Z n0 as' Q h cells slots nx ls st) : ORun l y bytes maxL ret R Z n0 as' Q h cells slots pc ls (.int z :: .int x :: st) :=
  r_icmp hd (fun q => K1 (Decidable.byContradiction fun r => by rw [(feq r).1] at q; cases q)) (fun q => K2 (fun r => by rw [(teq r).1] at q; cases q))
theorem r_if_eq {off : Int} {x : Int32} (hd : DB bytes pc (.ifCond .eq) off nx tgt) (K1 : x = 0 → ORun l y bytes maxL ret R Z n0 as' Q h cells slots tgt ls st) (K2 : ¬ x = 0 → ORun l y bytes maxL ret R Z n0 as' Q h cells slots nx ls st) : ORun l y bytes maxL ret R Z n0 as' Q h cells slots pc ls (.int x :: st) :=
  r_if hd (fun q => K1 (Decidable.byContradiction fun r => by rw [(feq r).1] at q; cases q)) (fun q => K2 (fun r => by rw [(teq r).1] at q; cases q))
theorem r_icmp_ne {off : Int} {x z : Int32} (hd : DB bytes pc (.if_icmp .ne) off nx tgt) (K1 : ¬ x = z → ORun l y bytes maxL ret R Z n0 as' Q h cells slots tgt ls st) (K2 : x = z → ORun l y bytes maxL ret R Z n0 as' Q h cells slots nx ls st) : ORun l y bytes maxL ret R Z n0 as' Q h cells slots pc ls (.int z :: .int x :: st) :=
  r_icmp hd (fun q => K1 (fun r => by rw [(teq r).2] at q; cases q)) (fun q => K2 (Decidable.byContradiction fun r => by rw [(feq r).2] at q; cases q))
theorem r_if_ne {off : Int} {x : Int32} (hd : DB bytes pc (.ifCond .ne) off nx tgt) (K1 : ¬ x = 0 → ORun l y bytes maxL ret R Z n0 as' Q h cells slots tgt ls st) (K2 : x = 0 → ORun l y bytes maxL ret R Z n0 as' Q h cells slots nx ls st) : ORun l y bytes maxL ret R Z n0 as' Q h cells slots pc ls (.int x :: st) :=
  r_if hd (fun q => K1 (fun r => by rw [(teq r).2] at q; cases q)) (fun q => K2 (Decidable.byContradiction fun r => by rw [(feq r).2] at q; cases q))
theorem r_ifnull0 {off : Int} (hd : DB bytes pc .ifnull off nx tgt) (K : ORun l y bytes maxL ret R Z n0 as' Q h cells slots tgt ls st) : ORun l y bytes maxL ret R Z n0 as' Q h cells slots pc ls (.null :: st) := by
  obtain ⟨hd, rfl, ho, rfl⟩ := hd
  exact K.step fun p e s m below meth c T locs hx hZ hby hown X eT t k => XS.ifnullYes X.here hx rfl rfl (hb hby hd) rfl ho rfl k
theorem r_ifnull1 {off : Int} {b : Addr} (hd : DB bytes pc .ifnull off nx tgt) (K : ORun l y bytes maxL ret R Z n0 as' Q h cells slots nx ls st) : ORun l y bytes maxL ret R Z n0 as' Q h cells slots pc ls (.ref b :: st) := by
  obtain ⟨hd, rfl, ho, rfl⟩ := hd
  exact K.step fun p e s m below meth c T locs hx hZ hby hown X eT t k => XS.ifnullNo X.here hx rfl (hb hby hd) rfl k
theorem r_ifnonnull0 {off : Int} (hd : DB bytes pc .ifnonnull off nx tgt) (K : ORun l y bytes maxL ret R Z n0 as' Q h cells slots nx ls st) : ORun l y bytes maxL ret R Z n0 as' Q h cells slots pc ls (.null :: st) := by
  obtain ⟨hd, rfl, ho, rfl⟩ := hd
  exact K.step fun p e s m below meth c T locs hx hZ hby hown X eT t k => XS.ifnonnullNo X.here hx rfl (hb hby hd) rfl k
theorem r_ifnonnull1 {off : Int} {b : Addr} (hd : DB bytes pc .ifnonnull off nx tgt) (K : ORun l y bytes maxL ret R Z n0 as' Q h cells slots tgt ls st) : ORun l y bytes maxL ret R Z n0 as' Q h cells slots pc ls (.ref b :: st) := by
  obtain ⟨hd, rfl, ho, rfl⟩ := hd
  exact K.step fun p e s m below meth c T locs hx hZ hby hown X eT t k => XS.ifnonnullYes X.here hx rfl rfl (hb hby hd) rfl ho rfl k
theorem r_acmp {cd : ACond} {off : Int} {x z : Value} (h1 : x.isRef = true) (h2 : z.isRef = true) (hd : DB bytes pc (.if_acmp cd) off nx tgt) (K1 : acV cd (decide (x = z)) = true → ORun l y bytes maxL ret R Z n0 as' Q h cells slots tgt ls st) (K2 : acV cd (decide (x = z)) = false → ORun l y bytes maxL ret R Z n0 as' Q h cells slots nx ls st) : ORun l y bytes maxL ret R Z n0 as' Q h cells slots pc ls (z :: x :: st) := by
  obtain ⟨hd, rfl, ho, rfl⟩ := hd
  cases hc : acV cd (decide (x = z))
  · exact (K2 hc).step fun p e s m below meth c T locs hx hZ hby hown X eT t k => Jvm.RoadKit.acmp (g := mkF m pc ls.toArray (z :: x :: st)) X hx rfl h1 h2 (same := decide (x = z)) rfl (hb hby hd) rfl rfl ho (by rw [hc]; rfl) k
  · exact (K1 hc).step fun p e s m below meth c T locs hx hZ hby hown X eT t k => Jvm.RoadKit.acmp (g := mkF m pc ls.toArray (z :: x :: st)) X hx rfl h1 h2 (same := decide (x = z)) rfl (hb hby hd) rfl rfl ho (by rw [hc]; rfl) k
theorem r_acmp_eq {off : Int} {x z : Value} (h1 : x.isRef = true) (h2 : z.isRef = true) (hd : DB bytes pc (.if_acmp .eq) off nx tgt) (K1 : x = z → ORun l y bytes maxL ret R Z n0 as' Q h cells slots tgt ls st) (K2 : ¬ x = z → ORun l y bytes maxL ret R Z n0 as' Q h cells slots nx ls st) : ORun l y bytes maxL ret R Z n0 as' Q h cells slots pc ls (z :: x :: st) :=
  r_acmp h1 h2 hd (fun q => K1 (by simpa [acV] using q)) (fun q => K2 (by simpa [acV] using q))
theorem r_acmp_ne {off : Int} {x z : Value} (h1 : x.isRef = true) (h2 : z.isRef = true) (hd : DB bytes pc (.if_acmp .ne) off nx tgt) (K1 : ¬ x = z → ORun l y bytes maxL ret R Z n0 as' Q h cells slots tgt ls st) (K2 : x = z → ORun l y bytes maxL ret R Z n0 as' Q h cells slots nx ls st) : ORun l y bytes maxL ret R Z n0 as' Q h cells slots pc ls (z :: x :: st) :=
  r_acmp h1 h2 hd (fun q => K1 (by simpa [acV] using q)) (fun q => K2 (by simpa [acV] using q))
/-! returns -/
theorem ORun.back {v : Option Value} (hv : ret = none → v = none) (hc : cells ≤ R.cells) (hs : slots ≤ R.slots) (hq : Q v h)
    (hl : ∀ (p : Program) (e : Env) (s : State) (m : MethodId) (below : List Frame) (meth : Method) (c : Code) (T : State) (locs : List Loc), p.tables.exec = Jvm.exec → c.code = bytes → meth.sig.returnType = ret → Stand p l e R s m as' below meth c T locs cells slots → ∀ fs : List Frame,
      (∀ (f : JFrame) (acts : List Action), f.method = m → f.locked = none → f.entered = [] → (doReturn e (T.setTop f) acts v).1 = T.setFrames fs) → Steps p.tables e below (T.setTop (mkF m pc ls.toArray st)) (T.setFrames fs)) : ORun l y bytes maxL ret R Z n0 as' Q h cells slots pc ls st :=
  fun p e s m below meth c T locs hx hZ hby hml hown hnm hret hlk X eT N => by
    obtain ⟨fs, hr, hrun, hended, hW, hsame⟩ := X.leave (v := v) (fun q => hv (hret ▸ q)) hlk
    exact ⟨_, _, hl p e s m below meth c T locs hx hby hret X fs hr, hrun, hended, v, locs, rfl, ⟨by show Q v T.heap; rw [eT]; exact hq, N⟩, ⟨v, rfl⟩, hW, hsame.mono hc hs⟩
theorem r_ret (hd : D bytes pc .return_ 1 nx) (hc : cells ≤ R.cells) (hs : slots ≤ R.slots) (hq : Q none h) : ORun l y bytes maxL none R Z n0 as' Q h cells slots pc ls [] :=
  ORun.back (fun _ => rfl) hc hs hq fun p e s m below meth c T locs hx hby hret X fs hr => X.returnOut hx hret (hb hby hd.1) hr
theorem r_iret {v : Int32} (hd : D bytes pc .ireturn 1 nx) (hc : cells ≤ R.cells) (hs : slots ≤ R.slots) (hq : Q (some (.int v)) h) : ORun l y bytes maxL (some .int) R Z n0 as' Q h cells slots pc ls (.int v :: st) :=
  ORun.back (fun q => nomatch q) hc hs hq fun p e s m below meth c T locs hx hby hret X fs hr => retOut X hx (t := .int) hret rfl (Or.inl ⟨rfl, Or.inl rfl, _, rfl⟩) (hb hby hd.1) hr
theorem r_nret {v : Int32} {t : FieldType} (ht : t = .boolean ∨ t = .byte ∨ t = .char ∨ t = .short) (hd : D bytes pc .ireturn 1 nx) (hc : cells ≤ R.cells) (hs : slots ≤ R.slots) (hq : Q (some (.int (nar t v))) h) : ORun l y bytes maxL (some t) R Z n0 as' Q h cells slots pc ls (.int v :: st) :=
  ORun.back (fun q => nomatch q) hc hs hq fun p e s m below meth c T locs hx hby hret X fs hr => retN X hx (t := t) hret ht (hb hby hd.1) hr
theorem r_lret {v : Int64} (hd : D bytes pc .lreturn 1 nx) (hc : cells ≤ R.cells) (hs : slots ≤ R.slots) (hq : Q (some (.long v)) h) : ORun l y bytes maxL (some .long) R Z n0 as' Q h cells slots pc ls (.long v :: st) :=
  ORun.back (fun q => nomatch q) hc hs hq fun p e s m below meth c T locs hx hby hret X fs hr => retOut X hx (t := .long) hret rfl (Or.inr (Or.inl ⟨rfl, rfl, _, rfl⟩)) (hb hby hd.1) hr
theorem r_aret {v : Value} {t : FieldType} (ht : t.isReference = true) (hv : v.isRef = true) (hn : narrow t v = v) (hd : D bytes pc .areturn 1 nx) (hc : cells ≤ R.cells) (hs : slots ≤ R.slots) (hq : Q (some v) h) : ORun l y bytes maxL (some t) R Z n0 as' Q h cells slots pc ls (v :: st) :=
  ORun.back (fun q => nomatch q) hc hs hq fun p e s m below meth c T locs hx hby hret X fs hr => retOut X hx (t := t) hret hn (Or.inr (Or.inr (Or.inr (Or.inr ⟨rfl, ht, hv⟩)))) (hb hby hd.1) hr
/-! fields, objects -/
theorem r_getF {index : Nat} {O n d host : String} {a : Addr} {v : Value} (w : (Cond.fieldLink y.cls index O n d).before a0 Z = true ∨ (Cond.fieldLinkNest y.cls index O n d host).before a0 Z = true) (F : Fld Z h a O n d v) (hd : D bytes pc (.getfield index) 3 nx) (K : ORun l y bytes maxL ret R Z n0 as' Q h cells slots nx ls (v :: st)) : ORun l y bytes maxL ret R Z n0 as' Q h cells slots pc ls (.ref a :: st) := by
  obtain ⟨hd, rfl⟩ := hd
  refine K.law fun p e s m below meth c T locs hx hZ hby hml hown hnm X eT N => ?_
  obtain ⟨T', X', e', st'⟩ := getF X hx hZ hown w Via.refl eT F (g := mkF m pc ls.toArray (.ref a :: st)) rfl rfl (hb hby hd)
  exact ⟨T', locs, X', e', N, st'⟩
theorem r_getS {index : Nat} {O n d : String} {v : Value} (w : (Cond.fieldLink y.cls index O n d).before a0 Z = true) (F : Sta Z h O n d v) (hd : D bytes pc (.getstatic index) 3 nx) (K : ORun l y bytes maxL ret R Z n0 as' Q h cells slots nx ls (v :: st)) : ORun l y bytes maxL ret R Z n0 as' Q h cells slots pc ls st := by
  obtain ⟨hd, rfl⟩ := hd
  refine K.law fun p e s m below meth c T locs hx hZ hby hml hown hnm X eT N => ?_
  obtain ⟨T', X', e', st'⟩ := getS2 X hx hZ hown (host := "") (Or.inl w) Via.refl eT F (g := mkF m pc ls.toArray st) rfl (hb hby hd)
  exact ⟨T', locs, X', e', N, st'⟩
theorem ORun.lawK {pc' : Nat} {st' : List Value} {cells' slots' : Nat} {P : Heap → Prop}
    (hs : ∀ (p : Program) (e : Env) (s : State) (m : MethodId) (below : List Frame) (meth : Method) (c : Code) (T : State) (locs : List Loc), p.tables.exec = Jvm.exec → Z.Warmed39 s.vm → c.code = bytes → c.maxLocals = maxL → s.vm.findClass y.cls = some m.cls → meth.name = y.name → Stand p l e R s m as' below meth c T locs cells slots → T.heap = h → Fr n0 locs →
      ∃ T' locs', Stand p l e R s m as' below meth c T' locs' cells' slots' ∧ P T'.heap ∧ Fr n0 locs' ∧ ∀ target, Steps p.tables e below (T'.setTop (mkF m pc' ls'.toArray st')) target → Steps p.tables e below (T.setTop (mkF m pc ls.toArray st)) target)
    (K : ∀ h', P h' → ORun l y bytes maxL ret R Z n0 as' Q h' cells' slots' pc' ls' st') : ORun l y bytes maxL ret R Z n0 as' Q h cells slots pc ls st :=
  fun p e s m below meth c T locs hx hZ hby hml hown hnm hret hlk X eT N => by
    obtain ⟨T', locs', X', eT', N', st⟩ := hs p e s m below meth c T locs hx hZ hby hml hown hnm X eT N
    obtain ⟨U, o, h1, h2⟩ := K _ eT' p e s m below meth c T' locs' hx hZ hby hml hown hnm hret hlk X' rfl N'
    exact ⟨U, o, st _ h1, h2⟩
theorem r_putF {index kk : Nat} {O n d C host : String} {ty : FieldType} {a : Addr} {v old : Value} (w : (Cond.fieldLink y.cls index O n d).before a0 Z = true ∨ (Cond.fieldLinkNest y.cls index O n d host).before a0 Z = true) (F : Fld Z h a O n d old) (E : Exa Z h a C)
    (L : (Cond.lays C O n d).before a0 Z = true ∨ ((Cond.laysFinal C O n d).before a0 Z = true ∧ y.cls = O ∧ y.name = "<init>")) (wi : (Cond.instantiable C kk).before a0 Z = true) (hty : parseFieldDescriptor d = some ty) (hn : narrow ty v = v) (hf : fits ty v = true) (ge : n0 ≤ a) (hd : D bytes pc (.putfield index) 3 nx)
    (K : ∀ h', Wr h h' a (Jvm.RoadKit.slotOf Z O n d) v → ORun l y bytes maxL ret R Z n0 as' Q h' cells slots nx ls st) : ORun l y bytes maxL ret R Z n0 as' Q h cells slots pc ls (v :: .ref a :: st) := by
  obtain ⟨hd, rfl⟩ := hd
  refine ORun.lawK (fun p e s m below meth c T locs hx hZ hby hml hown hnm X eT N => ?_) K
  obtain ⟨T', h', X', rfl, W, st'⟩ := putF X hx hZ hown w Via.refl eT F E (L.imp id fun q => ⟨q.1, q.2.1, hnm.trans q.2.2⟩) wi hty hn hf (g := mkF m pc ls.toArray (v :: .ref a :: st)) rfl rfl (hb hby hd)
  exact ⟨T', _, X', W, Fr.snoc X' N ge, st'⟩
theorem r_putFN {index kk : Nat} {O n d C : String} {ty : FieldType} {a : Addr} {v v' old : Value} (w : (Cond.fieldLink y.cls index O n d).before a0 Z = true) (F : Fld Z h a O n d old) (E : Exa Z h a C)
    (L : (Cond.lays C O n d).before a0 Z = true ∨ ((Cond.laysFinal C O n d).before a0 Z = true ∧ y.cls = O ∧ y.name = "<init>")) (wi : (Cond.instantiable C kk).before a0 Z = true) (hty : parseFieldDescriptor d = some ty) (hn : narrow ty v = v') (hf : fits ty v' = true) (ge : n0 ≤ a) (hd : D bytes pc (.putfield index) 3 nx)
    (K : ∀ h', Wr h h' a (Jvm.RoadKit.slotOf Z O n d) v' → ORun l y bytes maxL ret R Z n0 as' Q h' cells slots nx ls st) : ORun l y bytes maxL ret R Z n0 as' Q h cells slots pc ls (v :: .ref a :: st) := by
  obtain ⟨hd, rfl⟩ := hd
  refine ORun.lawK (fun p e s m below meth c T locs hx hZ hby hml hown hnm X eT N => ?_) K
  obtain ⟨T', h', X', rfl, W, st'⟩ := putFN X hx hZ hown w Via.refl eT F E (L.imp id fun q => ⟨q.1, q.2.1, hnm.trans q.2.2⟩) wi hty hn hf (g := mkF m pc ls.toArray (v :: .ref a :: st)) rfl rfl (hb hby hd)
  exact ⟨T', _, X', W, Fr.snoc X' N ge, st'⟩
theorem r_new {index n : Nat} {C : String} (w : (Cond.classLink y.cls index C).before a0 Z = true) (wi : (Cond.instantiable C n).before a0 Z = true) (wz : (Cond.initialized C).before a0 Z = true) (hd : D bytes pc (.new index) 3 nx) (hc : cells + 1 ≤ R.cells) (hl : slots + n ≤ R.slots)
    (K : ∀ h', Ext h h' ∧ Exa Z h' h.size C ∧ (∀ {O nm d : String} {ty : FieldType}, Laid Z a0 C O nm d → parseFieldDescriptor d = some ty → Fld Z h' h.size O nm d (defaultValue ty)) → ORun l y bytes maxL ret R Z n0 as' Q h' (cells + 1) (slots + n) nx ls (.ref h.size :: st)) : ORun l y bytes maxL ret R Z n0 as' Q h cells slots pc ls st := by
  obtain ⟨hd, rfl⟩ := hd
  refine ORun.lawK (fun p e s m below meth c T locs hx hZ hby hml hown hnm X eT N => ?_) K
  obtain ⟨T', h', X', rfl, E, A, D', -, st'⟩ := newO X hx hZ hown w wi wz eT (g := mkF m pc ls.toArray st) rfl (hb hby hd) hc hl
  exact ⟨T', _, X', ⟨E, A, D'⟩, N, st'⟩
theorem r_newarr {aty : ArrayType} {n : Int32} (cap : Nat) (w : (Cond.arrayClass (newarray.typeOf aty)).before a0 Z = true) (hd : D bytes pc (.newarray aty) 2 nx) (hn : ¬ n < 0) (hcap : n.toNatClampNeg ≤ cap) (hb' : cap * 8 ≤ 536870912) (hc : cells + 1 ≤ R.cells) (hl : slots + cap ≤ R.slots)
    (K : ∀ h' cA, Ext h h' → Arr Z h' h.size (newA cA (newarray.typeOf aty) n) (newarray.typeOf aty) → ORun l y bytes maxL ret R Z n0 as' Q h' (cells + 1) (slots + cap) nx ls (.ref h.size :: st)) : ORun l y bytes maxL ret R Z n0 as' Q h cells slots pc ls (.int n :: st) := by
  obtain ⟨hd, rfl⟩ := hd
  refine ORun.lawK (P := fun h' => ∃ cA, Ext h h' ∧ Arr Z h' h.size (newA cA (newarray.typeOf aty) n) (newarray.typeOf aty)) (fun p e s m below meth c T locs hx hZ hby hml hown hnm X eT N => ?_) (fun h' q => by obtain ⟨cA, E, A⟩ := q; exact K h' cA E A)
  obtain ⟨T', h', cA, X', rfl, E, A, st'⟩ := newP X hx hZ w eT (g := mkF m pc ls.toArray (.int n :: st)) rfl (hb hby hd) rfl hn hcap hb' hc hl
  exact ⟨T', _, X', ⟨cA, E, A⟩, N, st'⟩
/-! arrays -/
theorem r_len {a : Addr} {cl : Cell} {ty : FieldType} (A : Arr Z h a cl ty) (hd : D bytes pc .arraylength 1 nx) (K : ORun l y bytes maxL ret R Z n0 as' Q h cells slots nx ls (.int cl.slots.size.toInt32 :: st)) : ORun l y bytes maxL ret R Z n0 as' Q h cells slots pc ls (.ref a :: st) := by
  obtain ⟨hd, rfl⟩ := hd
  exact K.step fun p e s m below meth c T locs hx hZ hby hown X eT t k => X.arraylength hx (by rw [eT]; exact A.1) (State.isArrayOf_alike hZ.alike A.2.1) (g := mkF m pc ls.toArray (.ref a :: st)) rfl rfl (hb hby hd) _ k
theorem r_iaload {a : Addr} {cl : Cell} {j : Int32} {v : Value} (A : Arr Z h a cl .int) (hj : ¬ (j < 0 ∨ cl.slots.size ≤ j.toNatClampNeg)) (hv : cl.slots[j.toNatClampNeg]? = some v) (hd : D bytes pc .iaload 1 nx) (K : ORun l y bytes maxL ret R Z n0 as' Q h cells slots nx ls (v :: st)) : ORun l y bytes maxL ret R Z n0 as' Q h cells slots pc ls (.int j :: .ref a :: st) := by
  obtain ⟨hd, rfl⟩ := hd
  exact K.step fun p e s m below meth c T locs hx hZ hby hown X eT t k => X.iaload hx (j := j) (v := v) (by rw [eT]; exact A.1) (State.isArrayOf_alike hZ.alike A.2.1) A.2.2 hj hv (g := mkF m pc ls.toArray (.int j :: .ref a :: st)) rfl rfl (hb hby hd) _ k
theorem r_caload {a : Addr} {cl : Cell} {j : Int32} {v : Value} (A : Arr Z h a cl .char) (hj : ¬ (j < 0 ∨ cl.slots.size ≤ j.toNatClampNeg)) (hv : cl.slots[j.toNatClampNeg]? = some v) (hd : D bytes pc .caload 1 nx) (K : ORun l y bytes maxL ret R Z n0 as' Q h cells slots nx ls (v :: st)) : ORun l y bytes maxL ret R Z n0 as' Q h cells slots pc ls (.int j :: .ref a :: st) := by
  obtain ⟨hd, rfl⟩ := hd
  exact K.step fun p e s m below meth c T locs hx hZ hby hown X eT t k => X.caload hx (j := j) (v := v) (by rw [eT]; exact A.1) (State.isArrayOf_alike hZ.alike A.2.1) A.2.2 hj hv (g := mkF m pc ls.toArray (.int j :: .ref a :: st)) rfl rfl (hb hby hd) _ k
theorem r_baload {a : Addr} {cl : Cell} {j : Int32} {v : Value} (A : Arr Z h a cl .byte) (hj : ¬ (j < 0 ∨ cl.slots.size ≤ j.toNatClampNeg)) (hv : cl.slots[j.toNatClampNeg]? = some v) (hd : D bytes pc .baload 1 nx) (K : ORun l y bytes maxL ret R Z n0 as' Q h cells slots nx ls (v :: st)) : ORun l y bytes maxL ret R Z n0 as' Q h cells slots pc ls (.int j :: .ref a :: st) := by
  obtain ⟨hd, rfl⟩ := hd
  exact K.step fun p e s m below meth c T locs hx hZ hby hown X eT t k => X.baloadBytes hx (j := j) (v := v) (by rw [eT]; exact A.1) (State.isArrayOf_alike hZ.alike A.2.1) A.2.2 hj hv (g := mkF m pc ls.toArray (.int j :: .ref a :: st)) rfl rfl (hb hby hd) _ k
theorem r_laload {a : Addr} {cl : Cell} {j : Int32} {v : Value} (A : Arr Z h a cl .long) (hj : ¬ (j < 0 ∨ cl.slots.size ≤ j.toNatClampNeg)) (hv : cl.slots[j.toNatClampNeg]? = some v) (hd : D bytes pc .laload 1 nx) (K : ORun l y bytes maxL ret R Z n0 as' Q h cells slots nx ls (v :: st)) : ORun l y bytes maxL ret R Z n0 as' Q h cells slots pc ls (.int j :: .ref a :: st) := by
  obtain ⟨hd, rfl⟩ := hd
  exact K.step fun p e s m below meth c T locs hx hZ hby hown X eT t k => X.laload hx (j := j) (v := v) (by rw [eT]; exact A.1) (State.isArrayOf_alike hZ.alike A.2.1) A.2.2 hj hv (g := mkF m pc ls.toArray (.int j :: .ref a :: st)) rfl rfl (hb hby hd) _ k
theorem r_saload {a : Addr} {cl : Cell} {j : Int32} {v : Value} (A : Arr Z h a cl .short) (hj : ¬ (j < 0 ∨ cl.slots.size ≤ j.toNatClampNeg)) (hv : cl.slots[j.toNatClampNeg]? = some v) (hd : D bytes pc .saload 1 nx) (K : ORun l y bytes maxL ret R Z n0 as' Q h cells slots nx ls (v :: st)) : ORun l y bytes maxL ret R Z n0 as' Q h cells slots pc ls (.int j :: .ref a :: st) := by
  obtain ⟨hd, rfl⟩ := hd
  exact K.step fun p e s m below meth c T locs hx hZ hby hown X eT t k => X.saload hx (j := j) (v := v) (by rw [eT]; exact A.1) (State.isArrayOf_alike hZ.alike A.2.1) A.2.2 hj hv (g := mkF m pc ls.toArray (.int j :: .ref a :: st)) rfl rfl (hb hby hd) _ k
theorem r_aaload {a : Addr} {cl : Cell} {j : Int32} {v : Value} {ty : FieldType} (A : Arr Z h a cl ty) (hty : ty.isReference = true) (hj : ¬ (j < 0 ∨ cl.slots.size ≤ j.toNatClampNeg)) (hv : cl.slots[j.toNatClampNeg]? = some v) (hd : D bytes pc .aaload 1 nx) (K : ORun l y bytes maxL ret R Z n0 as' Q h cells slots nx ls (v :: st)) : ORun l y bytes maxL ret R Z n0 as' Q h cells slots pc ls (.int j :: .ref a :: st) := by
  obtain ⟨hd, rfl⟩ := hd
  exact K.step fun p e s m below meth c T locs hx hZ hby hown X eT t k => X.aaload hx (j := j) (v := v) (by rw [eT]; exact A.1) (State.isArrayOf_alike hZ.alike A.2.1) hty A.2.2 hj hv (g := mkF m pc ls.toArray (.int j :: .ref a :: st)) rfl rfl (hb hby hd) _ k
theorem r_iastore {a : Addr} {cl : Cell} {j : Int32} {x : Int32} (A : Arr Z h a cl .int) (hj : ¬ (j < 0 ∨ cl.slots.size ≤ j.toNatClampNeg)) (ge : n0 ≤ a) (hd : D bytes pc .iastore 1 nx) (K : ∀ h', Wr h h' a j.toNatClampNeg (.int x) → ORun l y bytes maxL ret R Z n0 as' Q h' cells slots nx ls st) : ORun l y bytes maxL ret R Z n0 as' Q h cells slots pc ls (.int x :: .int j :: .ref a :: st) := by
  obtain ⟨hd, rfl⟩ := hd
  refine ORun.lawK (fun p e s m below meth c T locs hx hZ hby hml hown hnm X eT N => ?_) K
  obtain ⟨T', h', X', rfl, W, st'⟩ := stI X hx hZ eT A hj (g := mkF m pc ls.toArray (.int x :: .int j :: .ref a :: st)) rfl rfl (hb hby hd)
  exact ⟨T', _, X', W, Fr.snoc X' N ge, st'⟩
theorem r_castore {a : Addr} {cl : Cell} {j : Int32} {x : Int32} (A : Arr Z h a cl .char) (hj : ¬ (j < 0 ∨ cl.slots.size ≤ j.toNatClampNeg)) (ge : n0 ≤ a) (hd : D bytes pc .castore 1 nx) (K : ∀ h', Wr h h' a j.toNatClampNeg (.int (nar .char x)) → ORun l y bytes maxL ret R Z n0 as' Q h' cells slots nx ls st) : ORun l y bytes maxL ret R Z n0 as' Q h cells slots pc ls (.int x :: .int j :: .ref a :: st) := by
  obtain ⟨hd, rfl⟩ := hd
  refine ORun.lawK (fun p e s m below meth c T locs hx hZ hby hml hown hnm X eT N => ?_) K
  obtain ⟨T', h', X', rfl, W, st'⟩ := stC X hx hZ eT A hj (g := mkF m pc ls.toArray (.int x :: .int j :: .ref a :: st)) rfl rfl (hb hby hd)
  exact ⟨T', _, X', W, Fr.snoc X' N ge, st'⟩
theorem r_bastore {a : Addr} {cl : Cell} {j : Int32} {x : Int32} (A : Arr Z h a cl .byte) (hj : ¬ (j < 0 ∨ cl.slots.size ≤ j.toNatClampNeg)) (ge : n0 ≤ a) (hd : D bytes pc .bastore 1 nx) (K : ∀ h', Wr h h' a j.toNatClampNeg (.int (nar .byte x)) → ORun l y bytes maxL ret R Z n0 as' Q h' cells slots nx ls st) : ORun l y bytes maxL ret R Z n0 as' Q h cells slots pc ls (.int x :: .int j :: .ref a :: st) := by
  obtain ⟨hd, rfl⟩ := hd
  refine ORun.lawK (fun p e s m below meth c T locs hx hZ hby hml hown hnm X eT N => ?_) K
  obtain ⟨T', h', X', rfl, W, st'⟩ := stB X hx hZ eT A hj (g := mkF m pc ls.toArray (.int x :: .int j :: .ref a :: st)) rfl rfl (hb hby hd)
  exact ⟨T', _, X', W, Fr.snoc X' N ge, st'⟩
theorem r_lastore {a : Addr} {cl : Cell} {j : Int32} {x : Int64} (A : Arr Z h a cl .long) (hj : ¬ (j < 0 ∨ cl.slots.size ≤ j.toNatClampNeg)) (ge : n0 ≤ a) (hd : D bytes pc .lastore 1 nx) (K : ∀ h', Wr h h' a j.toNatClampNeg (.long x) → ORun l y bytes maxL ret R Z n0 as' Q h' cells slots nx ls st) : ORun l y bytes maxL ret R Z n0 as' Q h cells slots pc ls (.long x :: .int j :: .ref a :: st) := by
  obtain ⟨hd, rfl⟩ := hd
  refine ORun.lawK (fun p e s m below meth c T locs hx hZ hby hml hown hnm X eT N => ?_) K
  obtain ⟨T', h', X', rfl, W, st'⟩ := stJ X hx hZ eT A hj (g := mkF m pc ls.toArray (.long x :: .int j :: .ref a :: st)) rfl rfl (hb hby hd)
  exact ⟨T', _, X', W, Fr.snoc X' N ge, st'⟩
theorem r_lenA {a : Addr} {ty : FieldType} {vs : List Int32} (n : Int32) (A : Ary Z h a ty vs) (hn : vs.length.toInt32 = n) (hd : D bytes pc .arraylength 1 nx) (K : ORun l y bytes maxL ret R Z n0 as' Q h cells slots nx ls (.int n :: st)) : ORun l y bytes maxL ret R Z n0 as' Q h cells slots pc ls (.ref a :: st) := by
  obtain ⟨c, A, q⟩ := A
  refine r_len A hd ?_
  rw [Ary.size q, hn]; exact K
theorem r_ldI {a : Addr} {vs : List Int32} {j : Int32} (x : Int32) (A : Ary Z h a .int vs) (hj : ¬ j < 0) (hv : vs[j.toNatClampNeg]? = some x) (hd : D bytes pc .iaload 1 nx) (K : ORun l y bytes maxL ret R Z n0 as' Q h cells slots nx ls (.int x :: st)) : ORun l y bytes maxL ret R Z n0 as' Q h cells slots pc ls (.int j :: .ref a :: st) := by
  obtain ⟨c, A, q⟩ := A
  have e := Ary.inb q hj hv
  exact r_iaload A e.1 e.2 hd K
theorem r_ldC {a : Addr} {vs : List Int32} {j : Int32} (x : Int32) (A : Ary Z h a .char vs) (hj : ¬ j < 0) (hv : vs[j.toNatClampNeg]? = some x) (hd : D bytes pc .caload 1 nx) (K : ORun l y bytes maxL ret R Z n0 as' Q h cells slots nx ls (.int x :: st)) : ORun l y bytes maxL ret R Z n0 as' Q h cells slots pc ls (.int j :: .ref a :: st) := by
  obtain ⟨c, A, q⟩ := A
  have e := Ary.inb q hj hv
  exact r_caload A e.1 e.2 hd K
theorem r_ldB {a : Addr} {vs : List Int32} {j : Int32} (x : Int32) (A : Ary Z h a .byte vs) (hj : ¬ j < 0) (hv : vs[j.toNatClampNeg]? = some x) (hd : D bytes pc .baload 1 nx) (K : ORun l y bytes maxL ret R Z n0 as' Q h cells slots nx ls (.int x :: st)) : ORun l y bytes maxL ret R Z n0 as' Q h cells slots pc ls (.int j :: .ref a :: st) := by
  obtain ⟨c, A, q⟩ := A
  have e := Ary.inb q hj hv
  exact r_baload A e.1 e.2 hd K
theorem r_stI {a : Addr} {vs : List Int32} {j x : Int32} (i : Nat) (vs' : List Int32) (A : Ary Z h a .int vs) (hj : ¬ j < 0) (hi : j.toNatClampNeg = i) (hl : i < vs.length) (hvs : vs.set i x = vs') (ge : n0 ≤ a) (hd : D bytes pc .iastore 1 nx) (K : ∀ h', Wr h h' a i (.int x) → Ary Z h' a .int vs' → ORun l y bytes maxL ret R Z n0 as' Q h' cells slots nx ls st) : ORun l y bytes maxL ret R Z n0 as' Q h cells slots pc ls (.int x :: .int j :: .ref a :: st) := by
  have A' := A
  obtain ⟨c, A, q⟩ := A
  subst hi
  refine r_iastore A (fun r => ?_) ge hd fun h' W => K h' W (A'.set W hvs)
  rcases r with r | r
  · exact hj r
  · rw [Ary.size q] at r; omega
theorem r_stC {a : Addr} {vs : List Int32} {j x : Int32} (i : Nat) (vs' : List Int32) (A : Ary Z h a .char vs) (hj : ¬ j < 0) (hi : j.toNatClampNeg = i) (hl : i < vs.length) (hvs : vs.set i (nar .char x) = vs') (ge : n0 ≤ a) (hd : D bytes pc .castore 1 nx) (K : ∀ h', Wr h h' a i (.int (nar .char x)) → Ary Z h' a .char vs' → ORun l y bytes maxL ret R Z n0 as' Q h' cells slots nx ls st) : ORun l y bytes maxL ret R Z n0 as' Q h cells slots pc ls (.int x :: .int j :: .ref a :: st) := by
  have A' := A
  obtain ⟨c, A, q⟩ := A
  subst hi
  refine r_castore A (fun r => ?_) ge hd fun h' W => K h' W (A'.set W hvs)
  rcases r with r | r
  · exact hj r
  · rw [Ary.size q] at r; omega
theorem r_stB {a : Addr} {vs : List Int32} {j x : Int32} (i : Nat) (vs' : List Int32) (A : Ary Z h a .byte vs) (hj : ¬ j < 0) (hi : j.toNatClampNeg = i) (hl : i < vs.length) (hvs : vs.set i (nar .byte x) = vs') (ge : n0 ≤ a) (hd : D bytes pc .bastore 1 nx) (K : ∀ h', Wr h h' a i (.int (nar .byte x)) → Ary Z h' a .byte vs' → ORun l y bytes maxL ret R Z n0 as' Q h' cells slots nx ls st) : ORun l y bytes maxL ret R Z n0 as' Q h cells slots pc ls (.int x :: .int j :: .ref a :: st) := by
  have A' := A
  obtain ⟨c, A, q⟩ := A
  subst hi
  refine r_bastore A (fun r => ?_) ge hd fun h' W => K h' W (A'.set W hvs)
  rcases r with r | r
  · exact hj r
  · rw [Ary.size q] at r; omega
/-! calls -/
theorem r_initO {idx : Nat} {a : Addr} (w1 : (Cond.methodLink y.cls idx Lib.objectInit).before a0 Z = true) (w2 : (Cond.instanceMethod Lib.objectInit).before a0 Z = true) (w3 : (Cond.code Lib.objectInit ⟨#[0xb1]⟩ 1 none).before a0 Z = true) (hd : D bytes pc (.invokespecial idx) 3 nx) (hsz : ls.length = maxL) (hf : 1 ≤ R.frames) (W : Nat) (hW : (st.map fun v => v.category).sum = W) (hl : W + 12 ≤ R.locals)
    (K : ORun l y bytes maxL ret R Z n0 as' Q h cells slots nx ls st) : ORun l y bytes maxL ret R Z n0 as' Q h cells slots pc ls (.ref a :: st) := by
  obtain ⟨hd, rfl⟩ := hd
  refine K.law fun p e s m below meth c T locs hx hZ hby hml hown hnm X eT N => ?_
  obtain ⟨T', X', e', st'⟩ := initO X hx hZ hown w1 w2 w3 eT (g := mkF m pc ls.toArray (.ref a :: st)) rfl (by rw [hml]; simpa using hsz) rfl (hb hby hd) hf (W := W) (by show 2 * 0 + _ ≤ _; omega) hl
  exact ⟨T', locs, X', e', N, st'⟩
theorem ORun.call {y' : MethodName} {R' : Room} {Q' : Option Value → Heap → Prop} {rest : List Value}
    (hs : ∀ (p : Program) (e : Env) (s : State) (m : MethodId) (below : List Frame) (meth : Method) (c : Code) (T : State) (locs : List Loc), p.tables.exec = Jvm.exec → Z.Warmed39 s.vm → c.code = bytes → c.maxLocals = maxL → s.vm.findClass y.cls = some m.cls → Stand p l e R s m as' below meth c T locs cells slots → T.heap = h →
      ∃ (v : Option Value) (B : Pt), Stand p l e R s m as' below meth c B.U B.locs B.cells B.slots ∧ (∃ L, (Q' v B.U.heap ∧ Fr n0 L) ∧ B.locs = locs ++ L ∧ B.cells = cells + R'.cells ∧ B.slots = slots + R'.slots) ∧
        ∀ target, Steps p.tables e below (B.U.setTop (mkF m nx ls.toArray (v.toList ++ rest))) target → Steps p.tables e below (T.setTop (mkF m pc ls.toArray st)) target)
    (K : ∀ v h', Q' v h' → ORun l y bytes maxL ret R Z n0 as' Q h' (cells + R'.cells) (slots + R'.slots) nx ls (v.toList ++ rest)) : ORun l y bytes maxL ret R Z n0 as' Q h cells slots pc ls st :=
  fun p e s m below meth c T locs hx hZ hby hml hown hnm hret hlk X eT N => by
    obtain ⟨v, ⟨T', L', k', n'⟩, X', ⟨L, ⟨hq, N'⟩, q1, q2, q3⟩, st⟩ := hs p e s m below meth c T locs hx hZ hby hml hown X eT
    dsimp only [Pt.U, Pt.locs, Pt.cells, Pt.slots] at X' q1 q2 q3 st hq
    subst q1 q2 q3
    obtain ⟨U, o, h1, h2⟩ := K v _ hq p e s m below meth c T' _ hx hZ hby hml hown hnm hret hlk X' rfl (Fr.app N N')
    exact ⟨U, o, st _ h1, h2⟩
variable {b' : ByteArray} {mL' : Nat} {ret' : Option FieldType} {R' : Room} {Q' : Option Value → Heap → Prop} {y' : MethodName} {idx : Nat}
theorem r_static (argsL rest : List Value) (hst : st = argsL.reverse ++ rest) {ps : List FieldType} (hpd : parseMethodDescriptor y'.desc = some ⟨ps, ret'⟩) (hlen : argsL.length = ps.length)
    (w1 : (Cond.methodLink y.cls idx y').before a0 Z = true) (w2 : (Cond.static y').before a0 Z = true) (w3 : (Cond.initialized y'.cls).before a0 Z = true) (w4 : (Cond.code y' b' mL' ret').before a0 Z = true) (hy : y'.cls ≠ "java/lang/invoke/MethodHandle" ∧ y'.cls ≠ "java/lang/invoke/VarHandle")
    (C : Ct l y' b' mL' ret' [] R' Z n0 argsL.toArray h Q') (hd : D bytes pc (.invokestatic idx) 3 nx) (hsz : ls.length = maxL) (hf : R'.frames + 1 ≤ R.frames) (W : Nat) (hW : (rest.map fun v => v.category).sum = W) (hl : W + (mL' + 11) + R'.locals ≤ R.locals) (hc : cells + R'.cells ≤ R.cells) (hs : slots + R'.slots ≤ R.slots)
    (K : ∀ v h', Q' v h' → ORun l y bytes maxL ret R Z n0 as' Q h' (cells + R'.cells) (slots + R'.slots) nx ls (v.toList ++ rest)) : ORun l y bytes maxL ret R Z n0 as' Q h cells slots pc ls st := by
  obtain ⟨hd, rfl⟩ := hd
  subst hst
  refine ORun.call (y' := y') (fun p e s m below meth c T locs hx hZ hby hml hown X eT => ?_) K
  obtain ⟨v, _, B, -, X', hq, st'⟩ := Jvm.LawKit.callS X hx (y := y') hown (mvT hZ w1) (mvT hZ w2) (mvT hZ w3) (mvT hZ w4) hy (backOf (len := 3) (W := W) (Q := fun v h L => Q' v h ∧ Fr n0 L) C hZ w4 w3 hf hl) (g := mkF m pc ls.toArray (argsL.reverse ++ rest)) rfl (by rw [hml]; simpa using hsz) (argsL := argsL) (rest := rest) (lenOf hpd hlen) rfl (by show 2 * 0 + _ ≤ _; omega) (hb hby hd) (fun _ _ => ⟨rfl, eT, hc, hs⟩)
  exact ⟨v, B, X', hq, st'⟩
theorem r_special (argsL rest : List Value) (a : Addr) (hst : st = argsL.reverse ++ .ref a :: rest) {ps : List FieldType} (hpd : parseMethodDescriptor y'.desc = some ⟨ps, none⟩) (hlen : argsL.length = ps.length) (hn : y'.name = "<init>")
    (w1 : (Cond.methodLink y.cls idx y').before a0 Z = true) (w2 : (Cond.instanceMethod y').before a0 Z = true) (w3 : (Cond.initialized y'.cls).before a0 Z = true) (w4 : (Cond.code y' b' mL' none).before a0 Z = true) (hy : y'.cls ≠ "java/lang/invoke/MethodHandle" ∧ y'.cls ≠ "java/lang/invoke/VarHandle")
    (C : Ct l y' b' mL' none [] R' Z n0 (.ref a :: argsL).toArray h Q') (hd : D bytes pc (.invokespecial idx) 3 nx) (hsz : ls.length = maxL) (hf : R'.frames + 1 ≤ R.frames) (W : Nat) (hW : (rest.map fun v => v.category).sum = W) (hl : W + (mL' + 11) + R'.locals ≤ R.locals) (hc : cells + R'.cells ≤ R.cells) (hs : slots + R'.slots ≤ R.slots)
    (K : ∀ v h', Q' v h' → ORun l y bytes maxL ret R Z n0 as' Q h' (cells + R'.cells) (slots + R'.slots) nx ls (v.toList ++ rest)) : ORun l y bytes maxL ret R Z n0 as' Q h cells slots pc ls st := by
  obtain ⟨hd, rfl⟩ := hd
  subst hst
  refine ORun.call (y' := y') (fun p e s m below meth c T locs hx hZ hby hml hown X eT => ?_) K
  obtain ⟨v, _, B, -, X', hq, st'⟩ := X.specialBack hx (y := y') hn hown (mvT hZ w1) (mvT hZ w2) (mvT hZ w4) hy (backOf (len := 3) (W := W) (Q := fun v h L => Q' v h ∧ Fr n0 L) C hZ w4 w3 hf hl) (g := mkF m pc ls.toArray (argsL.reverse ++ .ref a :: rest)) rfl (by rw [hml]; simpa using hsz) (Steps.refl _) (a := a) (argsL := argsL) (rest := rest) (lenOf hpd hlen) rfl (by show 2 * 0 + _ ≤ _; omega) (hb hby hd) (fun _ _ => ⟨rfl, eT, hc, hs⟩)
  exact ⟨v, B, X', hq, fun t k => st'.trans k⟩
theorem r_virtual (argsL rest : List Value) (a : Addr) {C : String} (E : Exa Z h a C) (hst : st = argsL.reverse ++ .ref a :: rest) {ps : List FieldType} (hpd : parseMethodDescriptor y'.desc = some ⟨ps, ret'⟩) (hlen : argsL.length = ps.length)
    (w1 : (Cond.methodLink y.cls idx y').before a0 Z = true) (w2 : (Cond.declares y').before a0 Z = true) (ws : (Cond.selects C y' y').before a0 Z = true) (w5 : (Cond.instanceMethod y').before a0 Z = true) (w3 : (Cond.initialized y'.cls).before a0 Z = true) (w4 : (Cond.code y' b' mL' ret').before a0 Z = true) (hC : C = y'.cls) (hy : y'.cls ≠ "java/lang/invoke/MethodHandle" ∧ y'.cls ≠ "java/lang/invoke/VarHandle")
    (C' : Ct l y' b' mL' ret' [] R' Z n0 (.ref a :: argsL).toArray h Q') (hd : D bytes pc (.invokevirtual idx) 3 nx) (hsz : ls.length = maxL) (hf : R'.frames + 1 ≤ R.frames) (W : Nat) (hW : (rest.map fun v => v.category).sum = W) (hl : W + (mL' + 11) + R'.locals ≤ R.locals) (hc : cells + R'.cells ≤ R.cells) (hs : slots + R'.slots ≤ R.slots)
    (K : ∀ v h', Q' v h' → ORun l y bytes maxL ret R Z n0 as' Q h' (cells + R'.cells) (slots + R'.slots) nx ls (v.toList ++ rest)) : ORun l y bytes maxL ret R Z n0 as' Q h cells slots pc ls st := by
  obtain ⟨hd, rfl⟩ := hd
  subst hst hC
  refine ORun.call (y' := y') (fun p e s m below meth c T locs hx hZ hby hml hown X eT => ?_) K
  obtain ⟨cq, kq, q1, q2, q3⟩ := isOf hZ eT E
  obtain ⟨v, _, B, -, X', hq, st'⟩ := X.virtualBack hx (y := y') (z := y') hown (mvT hZ w1) (mvT hZ w2) (notFace_of_selects (args := #[]) (mvT hZ ws)) (mvT hZ ws) (mvT hZ w5) hy (backOf (len := 3) (W := W) (Q := fun v h L => Q' v h ∧ Fr n0 L) C' hZ w4 w3 hf hl) q1 q3 (g := mkF m pc ls.toArray (argsL.reverse ++ .ref a :: rest)) rfl (by rw [hml]; simpa using hsz) (Steps.refl _) (argsL := argsL) (rest := rest) (lenOf hpd hlen) rfl (by show 2 * 0 + _ ≤ _; omega) (hb hby hd) (fun _ _ => ⟨rfl, eT, hc, hs⟩)
  exact ⟨v, B, X', hq, fun t k => st'.trans k⟩
theorem r_staticP (argsL rest : List Value) (hst : st = argsL.reverse ++ rest) {ps : List FieldType} (hpd : parseMethodDescriptor y'.desc = some ⟨ps, ret'⟩) (hlen : argsL.length = ps.length)
    (w1 : (Cond.methodLink y.cls idx y').before a0 Z = true) (w2 : (Cond.static y').before a0 Z = true) (w3 : (Cond.initialized y'.cls).before a0 Z = true) (w4 : (Cond.code y' b' mL' ret').before a0 Z = true) (hy : y'.cls ≠ "java/lang/invoke/MethodHandle" ∧ y'.cls ≠ "java/lang/invoke/VarHandle") {w : Value}
    (C : Ct l y' b' mL' ret' [] R' Z n0 argsL.toArray h (fun v h' => v = some w ∧ h' = h)) (hd : D bytes pc (.invokestatic idx) 3 nx) (hsz : ls.length = maxL) (hf : R'.frames + 1 ≤ R.frames) (W : Nat) (hW : (rest.map fun v => v.category).sum = W) (hl : W + (mL' + 11) + R'.locals ≤ R.locals) (h0c : R'.cells = 0) (h0s : R'.slots = 0) (hc : cells ≤ R.cells) (hs : slots ≤ R.slots)
    (K : ORun l y bytes maxL ret R Z n0 as' Q h cells slots nx ls (w :: rest)) : ORun l y bytes maxL ret R Z n0 as' Q h cells slots pc ls st :=
  r_static argsL rest hst hpd hlen w1 w2 w3 w4 hy C hd hsz hf W hW hl (by omega) (by omega) fun v h' q => by
    obtain ⟨rfl, rfl⟩ := q
    rw [h0c, h0s]; exact K
theorem r_virtualP (argsL rest : List Value) (a : Addr) {C : String} (E : Exa Z h a C) (hst : st = argsL.reverse ++ .ref a :: rest) {ps : List FieldType} (hpd : parseMethodDescriptor y'.desc = some ⟨ps, ret'⟩) (hlen : argsL.length = ps.length)
    (w1 : (Cond.methodLink y.cls idx y').before a0 Z = true) (w2 : (Cond.declares y').before a0 Z = true) (ws : (Cond.selects C y' y').before a0 Z = true) (w5 : (Cond.instanceMethod y').before a0 Z = true) (w3 : (Cond.initialized y'.cls).before a0 Z = true) (w4 : (Cond.code y' b' mL' ret').before a0 Z = true) (hC : C = y'.cls) (hy : y'.cls ≠ "java/lang/invoke/MethodHandle" ∧ y'.cls ≠ "java/lang/invoke/VarHandle") {w : Value}
    (C' : Ct l y' b' mL' ret' [] R' Z n0 (.ref a :: argsL).toArray h (fun v h' => v = some w ∧ h' = h)) (hd : D bytes pc (.invokevirtual idx) 3 nx) (hsz : ls.length = maxL) (hf : R'.frames + 1 ≤ R.frames) (W : Nat) (hW : (rest.map fun v => v.category).sum = W) (hl : W + (mL' + 11) + R'.locals ≤ R.locals) (h0c : R'.cells = 0) (h0s : R'.slots = 0) (hc : cells ≤ R.cells) (hs : slots ≤ R.slots)
    (K : ORun l y bytes maxL ret R Z n0 as' Q h cells slots nx ls (w :: rest)) : ORun l y bytes maxL ret R Z n0 as' Q h cells slots pc ls st :=
  r_virtual argsL rest a E hst hpd hlen w1 w2 ws w5 w3 w4 hC hy C' hd hsz hf W hW hl (by omega) (by omega) fun v h' q => by
    obtain ⟨rfl, rfl⟩ := q
    rw [h0c, h0s]; exact K
theorem r_private (argsL rest : List Value) (a : Addr) {C : String} {kk : Nat} (E : Exa Z h a C) (hst : st = argsL.reverse ++ .ref a :: rest) {ps : List FieldType} (hpd : parseMethodDescriptor y'.desc = some ⟨ps, ret'⟩) (hlen : argsL.length = ps.length)
    (w1 : (Cond.methodLink y.cls idx y').before a0 Z = true) (w5 : (Cond.instanceMethod y').before a0 Z = true) (wp : (Cond.privateMethod y').before a0 Z = true) (wi : (Cond.instantiable y'.cls kk).before a0 Z = true) (w3 : (Cond.initialized y'.cls).before a0 Z = true) (w4 : (Cond.code y' b' mL' ret').before a0 Z = true) (hy : y'.cls ≠ "java/lang/invoke/MethodHandle" ∧ y'.cls ≠ "java/lang/invoke/VarHandle")
    (C' : Ct l y' b' mL' ret' [] R' Z n0 (.ref a :: argsL).toArray h Q') (hd : D bytes pc (.invokevirtual idx) 3 nx) (hsz : ls.length = maxL) (hf : R'.frames + 1 ≤ R.frames) (W : Nat) (hW : (rest.map fun v => v.category).sum = W) (hl : W + (mL' + 11) + R'.locals ≤ R.locals) (hc : cells + R'.cells ≤ R.cells) (hs : slots + R'.slots ≤ R.slots)
    (K : ∀ v h', Q' v h' → ORun l y bytes maxL ret R Z n0 as' Q h' (cells + R'.cells) (slots + R'.slots) nx ls (v.toList ++ rest)) : ORun l y bytes maxL ret R Z n0 as' Q h cells slots pc ls st := by
  obtain ⟨hd, rfl⟩ := hd
  subst hst
  refine ORun.call (y' := y') (fun p e s m below meth c T locs hx hZ hby hml hown X eT => ?_) K
  obtain ⟨cell, hcl, hob⟩ := E.cell
  have hi : (Cond.instanceMethod y').before as' s = true := mvT hZ w5
  have hp : s.PrivateAt y' := Cond.privateMethod_at (mvP hZ wp (args := as'))
  obtain ⟨cc, k, i1, i2, -, i4, -⟩ := Cond.instantiable_spec (show (Cond.instantiable y'.cls kk).before as' s = true from mvT hZ wi)
  have hni : k.isInterface = false := by simp only [Bool.or_eq_false_iff] at i4; exact i4.1
  have hsel : (Cond.selects y'.cls y' y').before as' s = true := selects_self_of_private i1 i2 hni hp hi hy
  obtain ⟨v, _, B, -, X', hq, st'⟩ := X.privateBack hx (y := y') hown (mvT hZ w1) hi hsel hp (mvT hZ w4) hy (backOf (len := 3) (W := W) (Q := fun v h L => Q' v h ∧ Fr n0 L) C' hZ w4 w3 hf hl) (g := mkF m pc ls.toArray (argsL.reverse ++ .ref a :: rest)) rfl (by rw [hml]; simpa using hsz) (Steps.refl _) (a := a) (by rw [eT]; exact hcl) hob (argsL := argsL) (rest := rest) (lenOf hpd hlen) rfl (by show 2 * 0 + _ ≤ _; omega) (hb hby hd) (fun _ _ => ⟨rfl, eT, hc, hs⟩)
  exact ⟨v, B, X', hq, fun t k => st'.trans k⟩
theorem r_cast {index : Nat} {K : String} {a : Addr} (w : (Cond.classLink y.cls index K).before a0 Z = true) (F : Ins Z h a K true) (hd : D bytes pc (.checkcast index) 3 nx) (K' : ORun l y bytes maxL ret R Z n0 as' Q h cells slots nx ls (.ref a :: st)) : ORun l y bytes maxL ret R Z n0 as' Q h cells slots pc ls (.ref a :: st) := by
  obtain ⟨hd, rfl⟩ := hd
  refine K'.law fun p e s m below meth c T locs hx hZ hby hml hown hnm X eT N => ?_
  obtain ⟨T', X', e', st'⟩ := castY X hx hZ hown w eT F (g := mkF m pc ls.toArray (.ref a :: st)) rfl rfl (hb hby hd)
  exact ⟨T', locs, X', e', N, st'⟩
theorem r_clone {index : Nat} {ad : String} {a : Addr} {cl : Cell} {ty : FieldType} (cap : Nat) (w1 : (Cond.methodLink y.cls index ⟨ad, "clone", "()Ljava/lang/Object;"⟩).before a0 Z = true) (w2 : (Cond.sameMethod ad "java/lang/Object" "clone" "()Ljava/lang/Object;").before a0 Z = true) (w3 : (Cond.native ⟨"java/lang/Object", "clone", "()Ljava/lang/Object;"⟩).before a0 Z = true)
    (w4 : (Cond.instanceMethod ⟨"java/lang/Object", "clone", "()Ljava/lang/Object;"⟩).before a0 Z = true) (w5 : (Cond.selects ad ⟨ad, "clone", "()Ljava/lang/Object;"⟩ ⟨"java/lang/Object", "clone", "()Ljava/lang/Object;"⟩).before a0 Z = true) (w6 : (Cond.castable ad "java/lang/Cloneable").before a0 Z = true)
    (A : Arr Z h a cl ty) (E : Exa Z h a ad) (F : FitC Z cl) (hd : D bytes pc (.invokevirtual index) 3 nx) (hsz : ls.length = maxL) (hf : 1 ≤ R.frames) (W : Nat) (hW : (st.map fun v => v.category).sum = W) (hl : W + 14 ≤ R.locals) (hcap : cl.slots.size ≤ cap) (hc : cells + 1 ≤ R.cells) (hs : slots + cap ≤ R.slots)
    (K : ∀ h', Ext h h' ∧ Arr Z h' h.size (cloneOf cl) ty ∧ Exa Z h' h.size ad → ORun l y bytes maxL ret R Z n0 as' Q h' (cells + 1) (slots + cap) nx ls (.ref h.size :: st)) : ORun l y bytes maxL ret R Z n0 as' Q h cells slots pc ls (.ref a :: st) := by
  obtain ⟨hd, rfl⟩ := hd
  refine ORun.lawK (fun p e s m below meth c T locs hx hZ hby hml hown hnm X eT N => ?_) K
  obtain ⟨T', h', X', rfl, E', A', Y', st'⟩ := cloneA X hx hZ hown w1 w2 w3 w4 w5 w6 eT A E F (g := mkF m pc ls.toArray (.ref a :: st)) rfl (by rw [hml]; simpa using hsz) rfl (hb hby hd) hf (W := W) (by show 2 * 0 + _ ≤ _; omega) hl hcap hc hs
  exact ⟨T', _, X', ⟨E', A', Y'⟩, N, st'⟩
end Logic
end Jvm.OwnKit
namespace Jvm.Pilot.@@N@@
open Jvm Jvm.ClassFile Sem Op Lib Jvm.Free Jvm.Stand Jvm.LawKit Jvm.RoadKit Jvm.OwnKit Bundle Jvm.Pilot.@@N@@.Jvm.D
def own_at (vs : List Int32) (i : Nat) : Int32 := (vs[i]?).getD 0
theorem own_get {vs : List Int32} {i : Nat} (h : i < vs.length) : vs[i]? = some (own_at vs i) := by
  unfold own_at; rw [List.getElem?_eq_getElem h]; rfl
def own_bt (vs : List Int32) (i : Nat) : Nat := (own_at vs i &&& (255 : Int32)).toNatClampNeg
theorem own_bt_lt (vs : List Int32) (i : Nat) : own_bt vs i < 256 := by
  obtain ⟨n, e, h⟩ := n32_and (own_at vs i) 255 8 (by decide) (by decide)
  unfold own_bt
  rw [e, n32_clamp (by omega)]; omega
theorem own_bt_eq (vs : List Int32) (i : Nat) : own_at vs i &&& (255 : Int32) = (own_bt vs i).toInt32 := by
  obtain ⟨n, e, h⟩ := n32_and (own_at vs i) 255 8 (by decide) (by decide)
  unfold own_bt
  rw [e, n32_clamp (by omega)]
def own_G (vs : List Int32) : Nat → Nat → Int32 → Nat → Nat
  | 0, _, _, _ => 0
  | t + 1, i, last, run => if run = 4 then own_bt vs i + own_G vs t (i + 1) last 0 else 1 + own_G vs t (i + 1) (own_bt vs i).toInt32 (if (own_bt vs i).toInt32 = last then run + 1 else 1)
theorem own_Gle (vs : List Int32) : ∀ (t i : Nat) (last : Int32) (run : Nat), own_G vs t i last run ≤ 255 * t := by
  intro t
  induction t with
  | zero => intro i last run; simp [own_G]
  | succ t ih =>
    intro i last run
    have h1 := own_bt_lt vs i
    unfold own_G
    split
    · have := ih (i + 1) last 0; omega
    · have := ih (i + 1) (own_bt vs i).toInt32 (if (own_bt vs i).toInt32 = last then run + 1 else 1); omega
theorem own_G4 (vs : List Int32) (n i : Nat) (last : Int32) (h : i < n) : own_G vs (n - i) i last 4 = own_bt vs i + own_G vs (n - (i + 1)) (i + 1) last 0 := by
  rw [show n - i = (n - (i + 1)) + 1 by omega]
  show (if 4 = 4 then _ else _) = _
  rw [if_pos rfl]
theorem own_Gn (vs : List Int32) (n i : Nat) (last : Int32) (run : Nat) (h : i < n) (hr : ¬ run = 4) : own_G vs (n - i) i last run = 1 + own_G vs (n - (i + 1)) (i + 1) (own_bt vs i).toInt32 (if (own_bt vs i).toInt32 = last then run + 1 else 1) := by
  rw [show n - i = (n - (i + 1)) + 1 by omega]
  show (if run = 4 then _ else _) = _
  rw [if_neg hr]
theorem own_Gpos {vs : List Int32} {n i : Nat} {last : Int32} {run : Nat} (h : 0 < own_G vs (n - i) i last run) : i < n := by
  rcases Nat.lt_or_ge i n with q | q
  · exact q
  · rw [show n - i = 0 by omega] at h; exact absurd h (Nat.lt_irrefl 0)
/-! the counts' places, by the bits 'this byte equals the one before it' -/
def own_N (e : Nat → Bool) : Nat → Nat → Nat → List Nat
  | 0, _, _ => []
  | t + 1, i, run => if run = 4 then i :: own_N e t (i + 1) 0 else own_N e t (i + 1) (if run = 0 then 1 else if e i then run + 1 else 1)
def own_e (vs : List Int32) (i : Nat) : Bool := decide (own_bt vs i = own_bt vs (i - 1))
def own_sum (vs : List Int32) (L : List Nat) : Int := (L.map fun j => (own_bt vs j : Int) - 1).sum
theorem own_GN (vs : List Int32) : ∀ (t i : Nat) (last : Int32) (run : Nat), (run = 0 ∨ (0 < i ∧ last = (own_bt vs (i - 1)).toInt32)) → (own_G vs t i last run : Int) = t + own_sum vs (own_N (own_e vs) t i run) := by
  intro t
  induction t with
  | zero => intro i last run _; rfl
  | succ t ih =>
    intro i last run h
    unfold own_G own_N
    by_cases c : run = 4
    · rw [if_pos c, if_pos c]
      have := ih (i + 1) last 0 (Or.inl rfl)
      unfold own_sum at this ⊢
      rw [List.map_cons, List.sum_cons]
      omega
    · rw [if_neg c, if_neg c]
      have e : (if (own_bt vs i).toInt32 = last then run + 1 else 1) = (if run = 0 then 1 else if own_e vs i = true then run + 1 else 1) := by
        rcases h with h | h
        · subst h; rw [if_pos rfl]; split <;> rfl
        · by_cases r0 : run = 0
          · subst r0; rw [if_pos rfl]; split <;> rfl
          · rw [if_neg r0, h.2]
            have b1 := own_bt_lt vs i
            have b2 := own_bt_lt vs (i - 1)
            by_cases d : own_bt vs i = own_bt vs (i - 1)
            · rw [if_pos (by rw [d]), if_pos (by unfold own_e; exact decide_eq_true d)]
            · rw [if_neg (fun q => d ((n32_eq (by omega) (by omega)).mp q)), if_neg (by unfold own_e; simpa using d)]
      rw [e]
      have := ih (i + 1) (own_bt vs i).toInt32 (if run = 0 then 1 else if own_e vs i = true then run + 1 else 1) (Or.inr ⟨by omega, rfl⟩)
      omega
theorem own_Nc {e e' : Nat → Bool} : ∀ (t i run : Nat), (∀ j, i ≤ j → j < i + t → e j = e' j) → own_N e t i run = own_N e' t i run := by
  intro t
  induction t with
  | zero => intro i run _; rfl
  | succ t ih =>
    intro i run h
    unfold own_N
    rw [ih (i + 1) 0 (fun j a b => h j (by omega) (by omega)), h i (Nat.le_refl _) (by omega), ih (i + 1) _ (fun j a b => h j (by omega) (by omega))]
def own_T (n : Nat) (e : Nat → Bool) : List Nat := if 5 ≤ n ∧ e 1 ∧ e 2 ∧ e 3 then [4] else if 6 ≤ n ∧ e 2 ∧ e 3 ∧ e 4 then [5] else if 7 ≤ n ∧ e 3 ∧ e 4 ∧ e 5 then [6] else if 8 ≤ n ∧ e 4 ∧ e 5 ∧ e 6 then [7] else []
def own_bits (a b c d f g i j : Bool) (k : Nat) : Bool := match k with | 0 => a | 1 => b | 2 => c | 3 => d | 4 => f | 5 => g | 6 => i | _ => j
theorem own_all : ∀ (n : Fin 9) (a b c d f g i j : Bool), own_N (own_bits a b c d f g i j) n.1 0 0 = own_T n.1 (own_bits a b c d f g i j) := by decide +kernel
theorem own_NT (e : Nat → Bool) (n : Nat) (h : n ≤ 8) : own_N e n 0 0 = own_T n e := by
  have hb : ∀ j, j < 8 → e j = own_bits (e 0) (e 1) (e 2) (e 3) (e 4) (e 5) (e 6) (e 7) j := fun j hj => by
    have : j = 0 ∨ j = 1 ∨ j = 2 ∨ j = 3 ∨ j = 4 ∨ j = 5 ∨ j = 6 ∨ j = 7 := by omega
    rcases this with rfl | rfl | rfl | rfl | rfl | rfl | rfl | rfl <;> rfl
  rw [own_Nc n 0 0 (fun j _ q => hb j (by omega))]
  exact own_all ⟨n, by omega⟩ _ _ _ _ _ _ _ _
abbrev own_S (vs : List Int32) (i : Nat) : Prop := own_bt vs i = own_bt vs (i + 1) ∧ own_bt vs (i + 1) = own_bt vs (i + 2) ∧ own_bt vs (i + 2) = own_bt vs (i + 3)
abbrev own_P4 (vs : List Int32) (n : Nat) : Prop := 5 ≤ n ∧ own_S vs 0
abbrev own_P5 (vs : List Int32) (n : Nat) : Prop := 6 ≤ n ∧ ¬ own_P4 vs n ∧ own_S vs 1
abbrev own_P6 (vs : List Int32) (n : Nat) : Prop := 7 ≤ n ∧ ¬ own_P4 vs n ∧ ¬ own_P5 vs n ∧ own_S vs 2
abbrev own_P7 (vs : List Int32) (n : Nat) : Prop := 8 ≤ n ∧ ¬ own_P4 vs n ∧ ¬ own_P5 vs n ∧ ¬ own_P6 vs n ∧ own_S vs 3
theorem own_eS (vs : List Int32) (i : Nat) : (own_e vs (i + 1) = true ∧ own_e vs (i + 2) = true ∧ own_e vs (i + 3) = true) ↔ own_S vs i := by
  unfold own_e own_S
  simp only [decide_eq_true_eq]
  constructor
  · rintro ⟨a, b, c⟩; exact ⟨a.symm, b.symm, c.symm⟩
  · rintro ⟨a, b, c⟩; exact ⟨a.symm, b.symm, c.symm⟩
theorem own_law (vs : List Int32) (n : Nat) (h : n ≤ 8) : (own_P4 vs n → own_G vs n 0 (-1) 0 = n - 1 + own_bt vs 4) ∧ (own_P5 vs n → own_G vs n 0 (-1) 0 = n - 1 + own_bt vs 5) ∧ (own_P6 vs n → own_G vs n 0 (-1) 0 = n - 1 + own_bt vs 6) ∧ (own_P7 vs n → own_G vs n 0 (-1) 0 = n - 1 + own_bt vs 7) ∧ (¬ own_P4 vs n → ¬ own_P5 vs n → ¬ own_P6 vs n → ¬ own_P7 vs n → own_G vs n 0 (-1) 0 = n) := by
  have e := own_GN vs n 0 (-1) 0 (Or.inl rfl)
  rw [own_NT _ n h] at e
  have q1 : (5 ≤ n ∧ own_e vs 1 = true ∧ own_e vs 2 = true ∧ own_e vs 3 = true) ↔ (5 ≤ n ∧ own_S vs 0) := and_congr_right fun _ => own_eS vs 0
  have q2 : (6 ≤ n ∧ own_e vs 2 = true ∧ own_e vs 3 = true ∧ own_e vs 4 = true) ↔ (6 ≤ n ∧ own_S vs 1) := and_congr_right fun _ => own_eS vs 1
  have q3 : (7 ≤ n ∧ own_e vs 3 = true ∧ own_e vs 4 = true ∧ own_e vs 5 = true) ↔ (7 ≤ n ∧ own_S vs 2) := and_congr_right fun _ => own_eS vs 2
  have q4 : (8 ≤ n ∧ own_e vs 4 = true ∧ own_e vs 5 = true ∧ own_e vs 6 = true) ↔ (8 ≤ n ∧ own_S vs 3) := and_congr_right fun _ => own_eS vs 3
  unfold own_T own_sum at e
  refine ⟨fun p => ?_, fun p => ?_, fun p => ?_, fun p => ?_, fun p4 p5 p6 p7 => ?_⟩
  · rw [if_pos (q1.mpr p)] at e
    simp only [List.map_cons, List.map_nil, List.sum_cons, List.sum_nil] at e
    have := p.1; omega
  · rw [if_neg (fun z => p.2.1 (q1.mp z)), if_pos (q2.mpr ⟨p.1, p.2.2⟩)] at e
    simp only [List.map_cons, List.map_nil, List.sum_cons, List.sum_nil] at e
    have := p.1; omega
  · rw [if_neg (fun z => p.2.1 (q1.mp z)), if_neg (fun z => p.2.2.1 ⟨(q2.mp z).1, p.2.1, (q2.mp z).2⟩), if_pos (q3.mpr ⟨p.1, p.2.2.2⟩)] at e
    simp only [List.map_cons, List.map_nil, List.sum_cons, List.sum_nil] at e
    have := p.1; omega
  · rw [if_neg (fun z => p.2.1 (q1.mp z)), if_neg (fun z => p.2.2.1 ⟨(q2.mp z).1, p.2.1, (q2.mp z).2⟩), if_neg (fun z => p.2.2.2.1 ⟨(q3.mp z).1, p.2.1, p.2.2.1, (q3.mp z).2⟩), if_pos (q4.mpr ⟨p.1, p.2.2.2.2⟩)] at e
    simp only [List.map_cons, List.map_nil, List.sum_cons, List.sum_nil] at e
    have := p.1; omega
  · rw [if_neg (fun z => p4 (q1.mp z)), if_neg (fun z => p5 ⟨(q2.mp z).1, p4, (q2.mp z).2⟩), if_neg (fun z => p6 ⟨(q3.mp z).1, p4, p5, (q3.mp z).2⟩), if_neg (fun z => p7 ⟨(q4.mp z).1, p4, p5, p6, (q4.mp z).2⟩)] at e
    simp only [List.map_nil, List.sum_nil] at e
    omega
theorem own_i0 {p : Prop} [Decidable p] (h : (if p then (1 : Int32) else 0) = 0) : ¬ p := fun q => by rw [if_pos q] at h; exact absurd h (by decide)
theorem own_i1 {p : Prop} [Decidable p] (h : ¬ (if p then (1 : Int32) else 0) = 0) : p := Decidable.byContradiction fun q => h (if_neg q)
theorem own_ltN {a b : Nat} (ha : a < 2 ^ 31) (hb : b < 2 ^ 31) (h : ¬ a.toInt32 < b.toInt32) : b ≤ a := Nat.le_of_not_lt fun q => h ((n32_lt ha hb).mpr q)
/-! byte arrays of eight that the copier takes -/
def own_B (Z : State) (h : Heap) (a : Addr) (vs : List Int32) : Prop := Ary Z h a .byte vs ∧ vs.length = 8 ∧ ∀ v ∈ vs, fits .byte (.int v) = true
def own_O (Z : State) (h : Heap) (a : Addr) : Prop := ∃ os, own_B Z h a os
theorem own_fit (x : Int32) : fits .byte (.int (nar .byte x)) = true := by
  show (decide ((-128 : Int32) ≤ x.toInt8.toInt32) && decide (x.toInt8.toInt32 ≤ (127 : Int32))) = true
  have h1 := Int8.le_toInt x.toInt8
  have h2 := Int8.toInt_lt x.toInt8
  have e : x.toInt8.toInt32.toInt = x.toInt8.toInt := Int8.toInt_toInt32 _
  have z1 : (-128 : Int32).toInt = -128 := by decide
  have z2 : (127 : Int32).toInt = 127 := by decide
  rw [Bool.and_eq_true, decide_eq_true_eq, decide_eq_true_eq, Int32.le_iff_toInt_le, Int32.le_iff_toInt_le]
  omega
theorem own_B.ext {Z : State} {h h' : Heap} {a : Addr} {vs : List Int32} (B : own_B Z h a vs) (E : Ext h h') : own_B Z h' a vs := ⟨B.1.ext E, B.2⟩
theorem own_B.keep {Z : State} {h h' : Heap} {a : Addr} {vs : List Int32} {ws : List Addr} (B : own_B Z h a vs) (K : Keep h h' ws) (q : a ∉ ws) : own_B Z h' a vs := ⟨B.1.keep K q, B.2⟩
theorem own_B.other {Z : State} {h h' : Heap} {a b : Addr} {vs : List Int32} {sl : Nat} {v : Value} (B : own_B Z h b vs) (W : Wr h h' a sl v) (q : b ≠ a) : own_B Z h' b vs := ⟨B.1.other W q, B.2⟩
theorem own_O.other {Z : State} {h h' : Heap} {a b : Addr} {sl : Nat} {v : Value} (B : own_O Z h b) (W : Wr h h' a sl v) (q : b ≠ a) : own_O Z h' b := by obtain ⟨os, B⟩ := B; exact ⟨os, B.other W q⟩
theorem own_B.st {Z : State} {h' : Heap} {a : Addr} {vs : List Int32} {i : Nat} {x : Int32} (l : vs.length = 8) (f : ∀ v ∈ vs, fits .byte (.int v) = true) (V : Ary Z h' a .byte (vs.set i (nar .byte x))) : own_B Z h' a (vs.set i (nar .byte x)) :=
  ⟨V, by simpa using l, fun v hv => by
    rcases List.mem_or_eq_of_mem_set hv with q | q
    · exact f v q
    · rw [q]; exact own_fit x⟩
theorem own_arv {Z : State} {h : Heap} {a : Addr} {vs : List Int32} (B : own_B Z h a vs) : ∃ kk, Arv Z h a kk .byte 8 (vs.map Value.int) (.int 0) := by
  obtain ⟨⟨c, A, q⟩, l, f⟩ := B
  have sz : c.slots.size = 8 := by rw [q]; simpa using l
  refine ⟨c.cls, c, A, rfl, sz, by decide, fun i hi => ?_, fun i hi => ?_⟩
  · rw [q]
    have : i < vs.length := by omega
    simp [this]
  · have hi' : i < vs.length := by omega
    have : (vs.map Value.int).getD i (.int 0) = .int vs[i] := by simp [hi']
    rw [this]; exact f _ (List.getElem_mem hi')
theorem own_arvb {Z : State} {h : Heap} {a : Addr} {kk : ClassId} {us : List Int32} (A : Arv Z h a kk .byte 8 (us.map Value.int) (.int 0)) (l : us.length = 8) : own_B Z h a us := by
  obtain ⟨c, A, -, S, -, H, F⟩ := A
  have S' : c.slots.size = 8 := S
  refine ⟨⟨c, A, ?_⟩, l, fun v hv => ?_⟩
  · apply Array.ext_getElem?
    intro i
    by_cases hi : i < 8
    · rw [H i (by omega)]
      have : i < us.length := by omega
      simp [this]
    · rw [Array.getElem?_eq_none (by omega), Array.getElem?_eq_none (by simp; omega)]
  · obtain ⟨i, hi, rfl⟩ := List.mem_iff_getElem.mp hv
    have := F i (by omega)
    simpa [hi] using this
theorem r_copyB {l : Launch} {y : MethodName} {bytes : ByteArray} {maxL : Nat} {ret : Option FieldType} {R : Room} {Z : State} {n0 : Nat} {as' : Array Value} {Q : Option Value → Heap → Prop} {h : Heap} {cells slots pc nx : Nat} {ls : List Slot} {st : List Value} {a0 : Array Value} {index : Nat} {a b : Addr} {vs : List Int32} {sp dp nn : Int32}
    (w1 : (Cond.methodLink y.cls index Jvm.Stand.acN).before a0 Z = true) (w2 : (Cond.native Jvm.Stand.acN).before a0 Z = true) (w3 : (Cond.static Jvm.Stand.acN).before a0 Z = true) (w4 : (Cond.initialized "java/lang/System").before a0 Z = true) (A : own_B Z h a vs) (B : own_O Z h b) (h1 : ¬ sp < 0) (h2 : ¬ dp < 0) (h3 : ¬ nn < 0) (h4 : sp.toNatClampNeg + nn.toNatClampNeg ≤ 8) (h5 : dp.toNatClampNeg + nn.toNatClampNeg ≤ 8) (ge : n0 ≤ b)
    (hd : OwnKit.D bytes pc (.invokestatic index) 3 nx) (hsz : ls.length = maxL) (hf : 1 ≤ R.frames) (W : Nat) (hW : (st.map fun v => v.category).sum = W) (hlo : W + (nativeFrameWords "java/lang/System" "arraycopy" 5 + 11) ≤ R.locals)
    (K : ∀ h', Keep h h' [b] ∧ own_O Z h' b → ORun l y bytes maxL ret R Z n0 as' Q h' cells slots nx ls st) : ORun l y bytes maxL ret R Z n0 as' Q h cells slots pc ls (.int nn :: .int dp :: .ref b :: .int sp :: .ref a :: st) := by
  obtain ⟨hd, rfl⟩ := hd
  refine ORun.lawK (fun p e s m below meth c T locs hx hZ hby hml hown hnm X eT N => ?_) K
  obtain ⟨ka, AA⟩ := own_arv A
  obtain ⟨os, BO⟩ := B
  obtain ⟨kb, BB⟩ := own_arv BO
  have e8 : (8 : Int32).toNatClampNeg = 8 := by decide
  have lo := BO.2.1
  obtain ⟨T', h', L, X', rfl, N', K', B', st'⟩ := cpA X hx hZ hown w1 w2 w3 w4 eT AA BB (Or.inl ⟨rfl, rfl⟩) h1 h2 h3 (by rw [e8]; exact h4) (by rw [e8]; exact h5) rfl (by simp; omega) N ge (g := mkF m pc ls.toArray (.int nn :: .int dp :: .ref b :: .int sp :: .ref a :: st)) rfl (by rw [hml]; simpa using hsz) rfl (hb hby hd) hf (W := W) (by show 2 * 0 + _ ≤ _; omega) hlo
  refine ⟨T', L, X', ⟨K', os.take dp.toNatClampNeg ++ (List.range nn.toNatClampNeg).map (fun i => own_at vs (sp.toNatClampNeg + i)) ++ os.drop (dp.toNatClampNeg + nn.toNatClampNeg), own_arvb (kk := kb) ?_ (by simp; omega)⟩, N', st'⟩
  have e : (List.range nn.toNatClampNeg).map (fun i => (vs.map Value.int).getD (sp.toNatClampNeg + i) (.int 0)) = ((List.range nn.toNatClampNeg).map (fun i => own_at vs (sp.toNatClampNeg + i))).map Value.int := by
    rw [List.map_map]
    refine List.map_congr_left fun i _ => ?_
    show (vs.map Value.int).getD (sp.toNatClampNeg + i) (.int 0) = Value.int (own_at vs (sp.toNatClampNeg + i))
    unfold own_at
    rw [List.getD_eq_getElem?_getD, List.getElem?_map]
    cases vs[sp.toNatClampNeg + i]? <;> rfl
  rw [e] at B'
  rw [List.map_append, List.map_append, List.map_take, List.map_drop]
  exact B'
def own_R (Z : State) (h : Heap) (a : Addr) (bv : Value) (ln gi nx gv pv eq rp : Int32) : Prop := Exa Z h a "com/example/quire/quire/core/Bzip2Runs" ∧ Fld Z h a "com/example/quire/quire/core/Bzip2Runs" "bytes" "[B" bv ∧ Fld Z h a "com/example/quire/quire/core/Bzip2Runs" "length" "I" (.int ln) ∧ Fld Z h a "com/example/quire/quire/core/Bzip2Runs" "gives" "I" (.int gi) ∧ Fld Z h a "com/example/quire/quire/core/Bzip2Runs" "next" "I" (.int nx) ∧ Fld Z h a "com/example/quire/quire/core/Bzip2Runs" "given" "I" (.int gv) ∧ Fld Z h a "com/example/quire/quire/core/Bzip2Runs" "previous" "I" (.int pv) ∧ Fld Z h a "com/example/quire/quire/core/Bzip2Runs" "equal" "I" (.int eq) ∧ Fld Z h a "com/example/quire/quire/core/Bzip2Runs" "repeats" "I" (.int rp)
theorem own_R_bytes {Z : State} {a0 : Array Value} (hw : ∀ d ∈ tables_1, d.before a0 Z = true) {h h' : Heap} {a : Addr} {bv : Value} {ln gi nx gv pv eq rp : Int32} {v : Value} (X : own_R Z h a bv ln gi nx gv pv eq rp) (W : Wr h h' a (Jvm.RoadKit.slotOf Z "com/example/quire/quire/core/Bzip2Runs" "bytes" "[B") v) : own_R Z h' a v ln gi nx gv pv eq rp := by
  obtain ⟨E, F0, F1, F2, F3, F4, F5, F6, F7⟩ := X
  exact ⟨E.wr W, Fld.same W F0, Fld.other W F1 (Or.inr (slot_ne (Or.inl (hw _ (List.mem_of_getElem? (i := 23) rfl))) (Or.inl (hw _ (List.mem_of_getElem? (i := 16) rfl))) (by decide) (t := .int) (t' := (.array .byte)) (by decide) (by decide))), Fld.other W F2 (Or.inr (slot_ne (Or.inl (hw _ (List.mem_of_getElem? (i := 25) rfl))) (Or.inl (hw _ (List.mem_of_getElem? (i := 16) rfl))) (by decide) (t := .int) (t' := (.array .byte)) (by decide) (by decide))), Fld.other W F3 (Or.inr (slot_ne (Or.inl (hw _ (List.mem_of_getElem? (i := 27) rfl))) (Or.inl (hw _ (List.mem_of_getElem? (i := 16) rfl))) (by decide) (t := .int) (t' := (.array .byte)) (by decide) (by decide))), Fld.other W F4 (Or.inr (slot_ne (Or.inl (hw _ (List.mem_of_getElem? (i := 29) rfl))) (Or.inl (hw _ (List.mem_of_getElem? (i := 16) rfl))) (by decide) (t := .int) (t' := (.array .byte)) (by decide) (by decide))), Fld.other W F5 (Or.inr (slot_ne (Or.inl (hw _ (List.mem_of_getElem? (i := 31) rfl))) (Or.inl (hw _ (List.mem_of_getElem? (i := 16) rfl))) (by decide) (t := .int) (t' := (.array .byte)) (by decide) (by decide))), Fld.other W F6 (Or.inr (slot_ne (Or.inl (hw _ (List.mem_of_getElem? (i := 33) rfl))) (Or.inl (hw _ (List.mem_of_getElem? (i := 16) rfl))) (by decide) (t := .int) (t' := (.array .byte)) (by decide) (by decide))), Fld.other W F7 (Or.inr (slot_ne (Or.inl (hw _ (List.mem_of_getElem? (i := 35) rfl))) (Or.inl (hw _ (List.mem_of_getElem? (i := 16) rfl))) (by decide) (t := .int) (t' := (.array .byte)) (by decide) (by decide)))⟩
theorem own_R_length {Z : State} {a0 : Array Value} (hw : ∀ d ∈ tables_1, d.before a0 Z = true) {h h' : Heap} {a : Addr} {bv : Value} {ln gi nx gv pv eq rp : Int32} {v : Int32} (X : own_R Z h a bv ln gi nx gv pv eq rp) (W : Wr h h' a (Jvm.RoadKit.slotOf Z "com/example/quire/quire/core/Bzip2Runs" "length" "I") (.int v)) : own_R Z h' a bv v gi nx gv pv eq rp := by
  obtain ⟨E, F0, F1, F2, F3, F4, F5, F6, F7⟩ := X
  exact ⟨E.wr W, Fld.other W F0 (Or.inr (slot_ne (Or.inl (hw _ (List.mem_of_getElem? (i := 16) rfl))) (Or.inl (hw _ (List.mem_of_getElem? (i := 23) rfl))) (by decide) (t := (.array .byte)) (t' := .int) (by decide) (by decide))), Fld.same W F1, Fld.other W F2 (Or.inr (slot_ne (Or.inl (hw _ (List.mem_of_getElem? (i := 25) rfl))) (Or.inl (hw _ (List.mem_of_getElem? (i := 23) rfl))) (by decide) (t := .int) (t' := .int) (by decide) (by decide))), Fld.other W F3 (Or.inr (slot_ne (Or.inl (hw _ (List.mem_of_getElem? (i := 27) rfl))) (Or.inl (hw _ (List.mem_of_getElem? (i := 23) rfl))) (by decide) (t := .int) (t' := .int) (by decide) (by decide))), Fld.other W F4 (Or.inr (slot_ne (Or.inl (hw _ (List.mem_of_getElem? (i := 29) rfl))) (Or.inl (hw _ (List.mem_of_getElem? (i := 23) rfl))) (by decide) (t := .int) (t' := .int) (by decide) (by decide))), Fld.other W F5 (Or.inr (slot_ne (Or.inl (hw _ (List.mem_of_getElem? (i := 31) rfl))) (Or.inl (hw _ (List.mem_of_getElem? (i := 23) rfl))) (by decide) (t := .int) (t' := .int) (by decide) (by decide))), Fld.other W F6 (Or.inr (slot_ne (Or.inl (hw _ (List.mem_of_getElem? (i := 33) rfl))) (Or.inl (hw _ (List.mem_of_getElem? (i := 23) rfl))) (by decide) (t := .int) (t' := .int) (by decide) (by decide))), Fld.other W F7 (Or.inr (slot_ne (Or.inl (hw _ (List.mem_of_getElem? (i := 35) rfl))) (Or.inl (hw _ (List.mem_of_getElem? (i := 23) rfl))) (by decide) (t := .int) (t' := .int) (by decide) (by decide)))⟩
theorem own_R_gives {Z : State} {a0 : Array Value} (hw : ∀ d ∈ tables_1, d.before a0 Z = true) {h h' : Heap} {a : Addr} {bv : Value} {ln gi nx gv pv eq rp : Int32} {v : Int32} (X : own_R Z h a bv ln gi nx gv pv eq rp) (W : Wr h h' a (Jvm.RoadKit.slotOf Z "com/example/quire/quire/core/Bzip2Runs" "gives" "I") (.int v)) : own_R Z h' a bv ln v nx gv pv eq rp := by
  obtain ⟨E, F0, F1, F2, F3, F4, F5, F6, F7⟩ := X
  exact ⟨E.wr W, Fld.other W F0 (Or.inr (slot_ne (Or.inl (hw _ (List.mem_of_getElem? (i := 16) rfl))) (Or.inl (hw _ (List.mem_of_getElem? (i := 25) rfl))) (by decide) (t := (.array .byte)) (t' := .int) (by decide) (by decide))), Fld.other W F1 (Or.inr (slot_ne (Or.inl (hw _ (List.mem_of_getElem? (i := 23) rfl))) (Or.inl (hw _ (List.mem_of_getElem? (i := 25) rfl))) (by decide) (t := .int) (t' := .int) (by decide) (by decide))), Fld.same W F2, Fld.other W F3 (Or.inr (slot_ne (Or.inl (hw _ (List.mem_of_getElem? (i := 27) rfl))) (Or.inl (hw _ (List.mem_of_getElem? (i := 25) rfl))) (by decide) (t := .int) (t' := .int) (by decide) (by decide))), Fld.other W F4 (Or.inr (slot_ne (Or.inl (hw _ (List.mem_of_getElem? (i := 29) rfl))) (Or.inl (hw _ (List.mem_of_getElem? (i := 25) rfl))) (by decide) (t := .int) (t' := .int) (by decide) (by decide))), Fld.other W F5 (Or.inr (slot_ne (Or.inl (hw _ (List.mem_of_getElem? (i := 31) rfl))) (Or.inl (hw _ (List.mem_of_getElem? (i := 25) rfl))) (by decide) (t := .int) (t' := .int) (by decide) (by decide))), Fld.other W F6 (Or.inr (slot_ne (Or.inl (hw _ (List.mem_of_getElem? (i := 33) rfl))) (Or.inl (hw _ (List.mem_of_getElem? (i := 25) rfl))) (by decide) (t := .int) (t' := .int) (by decide) (by decide))), Fld.other W F7 (Or.inr (slot_ne (Or.inl (hw _ (List.mem_of_getElem? (i := 35) rfl))) (Or.inl (hw _ (List.mem_of_getElem? (i := 25) rfl))) (by decide) (t := .int) (t' := .int) (by decide) (by decide)))⟩
theorem own_R_next {Z : State} {a0 : Array Value} (hw : ∀ d ∈ tables_1, d.before a0 Z = true) {h h' : Heap} {a : Addr} {bv : Value} {ln gi nx gv pv eq rp : Int32} {v : Int32} (X : own_R Z h a bv ln gi nx gv pv eq rp) (W : Wr h h' a (Jvm.RoadKit.slotOf Z "com/example/quire/quire/core/Bzip2Runs" "next" "I") (.int v)) : own_R Z h' a bv ln gi v gv pv eq rp := by
  obtain ⟨E, F0, F1, F2, F3, F4, F5, F6, F7⟩ := X
  exact ⟨E.wr W, Fld.other W F0 (Or.inr (slot_ne (Or.inl (hw _ (List.mem_of_getElem? (i := 16) rfl))) (Or.inl (hw _ (List.mem_of_getElem? (i := 27) rfl))) (by decide) (t := (.array .byte)) (t' := .int) (by decide) (by decide))), Fld.other W F1 (Or.inr (slot_ne (Or.inl (hw _ (List.mem_of_getElem? (i := 23) rfl))) (Or.inl (hw _ (List.mem_of_getElem? (i := 27) rfl))) (by decide) (t := .int) (t' := .int) (by decide) (by decide))), Fld.other W F2 (Or.inr (slot_ne (Or.inl (hw _ (List.mem_of_getElem? (i := 25) rfl))) (Or.inl (hw _ (List.mem_of_getElem? (i := 27) rfl))) (by decide) (t := .int) (t' := .int) (by decide) (by decide))), Fld.same W F3, Fld.other W F4 (Or.inr (slot_ne (Or.inl (hw _ (List.mem_of_getElem? (i := 29) rfl))) (Or.inl (hw _ (List.mem_of_getElem? (i := 27) rfl))) (by decide) (t := .int) (t' := .int) (by decide) (by decide))), Fld.other W F5 (Or.inr (slot_ne (Or.inl (hw _ (List.mem_of_getElem? (i := 31) rfl))) (Or.inl (hw _ (List.mem_of_getElem? (i := 27) rfl))) (by decide) (t := .int) (t' := .int) (by decide) (by decide))), Fld.other W F6 (Or.inr (slot_ne (Or.inl (hw _ (List.mem_of_getElem? (i := 33) rfl))) (Or.inl (hw _ (List.mem_of_getElem? (i := 27) rfl))) (by decide) (t := .int) (t' := .int) (by decide) (by decide))), Fld.other W F7 (Or.inr (slot_ne (Or.inl (hw _ (List.mem_of_getElem? (i := 35) rfl))) (Or.inl (hw _ (List.mem_of_getElem? (i := 27) rfl))) (by decide) (t := .int) (t' := .int) (by decide) (by decide)))⟩
theorem own_R_given {Z : State} {a0 : Array Value} (hw : ∀ d ∈ tables_1, d.before a0 Z = true) {h h' : Heap} {a : Addr} {bv : Value} {ln gi nx gv pv eq rp : Int32} {v : Int32} (X : own_R Z h a bv ln gi nx gv pv eq rp) (W : Wr h h' a (Jvm.RoadKit.slotOf Z "com/example/quire/quire/core/Bzip2Runs" "given" "I") (.int v)) : own_R Z h' a bv ln gi nx v pv eq rp := by
  obtain ⟨E, F0, F1, F2, F3, F4, F5, F6, F7⟩ := X
  exact ⟨E.wr W, Fld.other W F0 (Or.inr (slot_ne (Or.inl (hw _ (List.mem_of_getElem? (i := 16) rfl))) (Or.inl (hw _ (List.mem_of_getElem? (i := 29) rfl))) (by decide) (t := (.array .byte)) (t' := .int) (by decide) (by decide))), Fld.other W F1 (Or.inr (slot_ne (Or.inl (hw _ (List.mem_of_getElem? (i := 23) rfl))) (Or.inl (hw _ (List.mem_of_getElem? (i := 29) rfl))) (by decide) (t := .int) (t' := .int) (by decide) (by decide))), Fld.other W F2 (Or.inr (slot_ne (Or.inl (hw _ (List.mem_of_getElem? (i := 25) rfl))) (Or.inl (hw _ (List.mem_of_getElem? (i := 29) rfl))) (by decide) (t := .int) (t' := .int) (by decide) (by decide))), Fld.other W F3 (Or.inr (slot_ne (Or.inl (hw _ (List.mem_of_getElem? (i := 27) rfl))) (Or.inl (hw _ (List.mem_of_getElem? (i := 29) rfl))) (by decide) (t := .int) (t' := .int) (by decide) (by decide))), Fld.same W F4, Fld.other W F5 (Or.inr (slot_ne (Or.inl (hw _ (List.mem_of_getElem? (i := 31) rfl))) (Or.inl (hw _ (List.mem_of_getElem? (i := 29) rfl))) (by decide) (t := .int) (t' := .int) (by decide) (by decide))), Fld.other W F6 (Or.inr (slot_ne (Or.inl (hw _ (List.mem_of_getElem? (i := 33) rfl))) (Or.inl (hw _ (List.mem_of_getElem? (i := 29) rfl))) (by decide) (t := .int) (t' := .int) (by decide) (by decide))), Fld.other W F7 (Or.inr (slot_ne (Or.inl (hw _ (List.mem_of_getElem? (i := 35) rfl))) (Or.inl (hw _ (List.mem_of_getElem? (i := 29) rfl))) (by decide) (t := .int) (t' := .int) (by decide) (by decide)))⟩
theorem own_R_previous {Z : State} {a0 : Array Value} (hw : ∀ d ∈ tables_1, d.before a0 Z = true) {h h' : Heap} {a : Addr} {bv : Value} {ln gi nx gv pv eq rp : Int32} {v : Int32} (X : own_R Z h a bv ln gi nx gv pv eq rp) (W : Wr h h' a (Jvm.RoadKit.slotOf Z "com/example/quire/quire/core/Bzip2Runs" "previous" "I") (.int v)) : own_R Z h' a bv ln gi nx gv v eq rp := by
  obtain ⟨E, F0, F1, F2, F3, F4, F5, F6, F7⟩ := X
  exact ⟨E.wr W, Fld.other W F0 (Or.inr (slot_ne (Or.inl (hw _ (List.mem_of_getElem? (i := 16) rfl))) (Or.inl (hw _ (List.mem_of_getElem? (i := 31) rfl))) (by decide) (t := (.array .byte)) (t' := .int) (by decide) (by decide))), Fld.other W F1 (Or.inr (slot_ne (Or.inl (hw _ (List.mem_of_getElem? (i := 23) rfl))) (Or.inl (hw _ (List.mem_of_getElem? (i := 31) rfl))) (by decide) (t := .int) (t' := .int) (by decide) (by decide))), Fld.other W F2 (Or.inr (slot_ne (Or.inl (hw _ (List.mem_of_getElem? (i := 25) rfl))) (Or.inl (hw _ (List.mem_of_getElem? (i := 31) rfl))) (by decide) (t := .int) (t' := .int) (by decide) (by decide))), Fld.other W F3 (Or.inr (slot_ne (Or.inl (hw _ (List.mem_of_getElem? (i := 27) rfl))) (Or.inl (hw _ (List.mem_of_getElem? (i := 31) rfl))) (by decide) (t := .int) (t' := .int) (by decide) (by decide))), Fld.other W F4 (Or.inr (slot_ne (Or.inl (hw _ (List.mem_of_getElem? (i := 29) rfl))) (Or.inl (hw _ (List.mem_of_getElem? (i := 31) rfl))) (by decide) (t := .int) (t' := .int) (by decide) (by decide))), Fld.same W F5, Fld.other W F6 (Or.inr (slot_ne (Or.inl (hw _ (List.mem_of_getElem? (i := 33) rfl))) (Or.inl (hw _ (List.mem_of_getElem? (i := 31) rfl))) (by decide) (t := .int) (t' := .int) (by decide) (by decide))), Fld.other W F7 (Or.inr (slot_ne (Or.inl (hw _ (List.mem_of_getElem? (i := 35) rfl))) (Or.inl (hw _ (List.mem_of_getElem? (i := 31) rfl))) (by decide) (t := .int) (t' := .int) (by decide) (by decide)))⟩
theorem own_R_equal {Z : State} {a0 : Array Value} (hw : ∀ d ∈ tables_1, d.before a0 Z = true) {h h' : Heap} {a : Addr} {bv : Value} {ln gi nx gv pv eq rp : Int32} {v : Int32} (X : own_R Z h a bv ln gi nx gv pv eq rp) (W : Wr h h' a (Jvm.RoadKit.slotOf Z "com/example/quire/quire/core/Bzip2Runs" "equal" "I") (.int v)) : own_R Z h' a bv ln gi nx gv pv v rp := by
  obtain ⟨E, F0, F1, F2, F3, F4, F5, F6, F7⟩ := X
  exact ⟨E.wr W, Fld.other W F0 (Or.inr (slot_ne (Or.inl (hw _ (List.mem_of_getElem? (i := 16) rfl))) (Or.inl (hw _ (List.mem_of_getElem? (i := 33) rfl))) (by decide) (t := (.array .byte)) (t' := .int) (by decide) (by decide))), Fld.other W F1 (Or.inr (slot_ne (Or.inl (hw _ (List.mem_of_getElem? (i := 23) rfl))) (Or.inl (hw _ (List.mem_of_getElem? (i := 33) rfl))) (by decide) (t := .int) (t' := .int) (by decide) (by decide))), Fld.other W F2 (Or.inr (slot_ne (Or.inl (hw _ (List.mem_of_getElem? (i := 25) rfl))) (Or.inl (hw _ (List.mem_of_getElem? (i := 33) rfl))) (by decide) (t := .int) (t' := .int) (by decide) (by decide))), Fld.other W F3 (Or.inr (slot_ne (Or.inl (hw _ (List.mem_of_getElem? (i := 27) rfl))) (Or.inl (hw _ (List.mem_of_getElem? (i := 33) rfl))) (by decide) (t := .int) (t' := .int) (by decide) (by decide))), Fld.other W F4 (Or.inr (slot_ne (Or.inl (hw _ (List.mem_of_getElem? (i := 29) rfl))) (Or.inl (hw _ (List.mem_of_getElem? (i := 33) rfl))) (by decide) (t := .int) (t' := .int) (by decide) (by decide))), Fld.other W F5 (Or.inr (slot_ne (Or.inl (hw _ (List.mem_of_getElem? (i := 31) rfl))) (Or.inl (hw _ (List.mem_of_getElem? (i := 33) rfl))) (by decide) (t := .int) (t' := .int) (by decide) (by decide))), Fld.same W F6, Fld.other W F7 (Or.inr (slot_ne (Or.inl (hw _ (List.mem_of_getElem? (i := 35) rfl))) (Or.inl (hw _ (List.mem_of_getElem? (i := 33) rfl))) (by decide) (t := .int) (t' := .int) (by decide) (by decide)))⟩
theorem own_R_repeats {Z : State} {a0 : Array Value} (hw : ∀ d ∈ tables_1, d.before a0 Z = true) {h h' : Heap} {a : Addr} {bv : Value} {ln gi nx gv pv eq rp : Int32} {v : Int32} (X : own_R Z h a bv ln gi nx gv pv eq rp) (W : Wr h h' a (Jvm.RoadKit.slotOf Z "com/example/quire/quire/core/Bzip2Runs" "repeats" "I") (.int v)) : own_R Z h' a bv ln gi nx gv pv eq v := by
  obtain ⟨E, F0, F1, F2, F3, F4, F5, F6, F7⟩ := X
  exact ⟨E.wr W, Fld.other W F0 (Or.inr (slot_ne (Or.inl (hw _ (List.mem_of_getElem? (i := 16) rfl))) (Or.inl (hw _ (List.mem_of_getElem? (i := 35) rfl))) (by decide) (t := (.array .byte)) (t' := .int) (by decide) (by decide))), Fld.other W F1 (Or.inr (slot_ne (Or.inl (hw _ (List.mem_of_getElem? (i := 23) rfl))) (Or.inl (hw _ (List.mem_of_getElem? (i := 35) rfl))) (by decide) (t := .int) (t' := .int) (by decide) (by decide))), Fld.other W F2 (Or.inr (slot_ne (Or.inl (hw _ (List.mem_of_getElem? (i := 25) rfl))) (Or.inl (hw _ (List.mem_of_getElem? (i := 35) rfl))) (by decide) (t := .int) (t' := .int) (by decide) (by decide))), Fld.other W F3 (Or.inr (slot_ne (Or.inl (hw _ (List.mem_of_getElem? (i := 27) rfl))) (Or.inl (hw _ (List.mem_of_getElem? (i := 35) rfl))) (by decide) (t := .int) (t' := .int) (by decide) (by decide))), Fld.other W F4 (Or.inr (slot_ne (Or.inl (hw _ (List.mem_of_getElem? (i := 29) rfl))) (Or.inl (hw _ (List.mem_of_getElem? (i := 35) rfl))) (by decide) (t := .int) (t' := .int) (by decide) (by decide))), Fld.other W F5 (Or.inr (slot_ne (Or.inl (hw _ (List.mem_of_getElem? (i := 31) rfl))) (Or.inl (hw _ (List.mem_of_getElem? (i := 35) rfl))) (by decide) (t := .int) (t' := .int) (by decide) (by decide))), Fld.other W F6 (Or.inr (slot_ne (Or.inl (hw _ (List.mem_of_getElem? (i := 33) rfl))) (Or.inl (hw _ (List.mem_of_getElem? (i := 35) rfl))) (by decide) (t := .int) (t' := .int) (by decide) (by decide))), Fld.same W F7⟩
theorem own_R.ext {Z : State} {h h' : Heap} {a : Addr} {bv : Value} {ln gi nx gv pv eq rp : Int32} (X : own_R Z h a bv ln gi nx gv pv eq rp) (E : Ext h h') : own_R Z h' a bv ln gi nx gv pv eq rp := by
  obtain ⟨E0, F0, F1, F2, F3, F4, F5, F6, F7⟩ := X
  exact ⟨E0.ext E, F0.ext E, F1.ext E, F2.ext E, F3.ext E, F4.ext E, F5.ext E, F6.ext E, F7.ext E⟩
theorem own_R.keep {Z : State} {h h' : Heap} {a : Addr} {bv : Value} {ln gi nx gv pv eq rp : Int32} {ws : List Addr} (X : own_R Z h a bv ln gi nx gv pv eq rp) (K : Keep h h' ws) (q : a ∉ ws) : own_R Z h' a bv ln gi nx gv pv eq rp := by
  obtain ⟨E0, F0, F1, F2, F3, F4, F5, F6, F7⟩ := X
  exact ⟨E0.keep K, F0.keep K q, F1.keep K q, F2.keep K q, F3.keep K q, F4.keep K q, F5.keep K q, F6.keep K q, F7.keep K q⟩
theorem d8_0 : D prog_76_method_2_code 0 (.aload_n 0) 1 1 := ⟨by decide +kernel, rfl⟩
theorem d8_1 : D prog_76_method_2_code 1 (.getfield 7) 3 4 := ⟨by decide +kernel, rfl⟩
theorem d8_4 : D prog_76_method_2_code 4 (.areturn) 1 5 := ⟨by decide +kernel, rfl⟩
theorem pn8 : plainFor (⟨"com/example/quire/quire/core/Bzip2Runs", "array", "()[B"⟩ : MethodName) = true := by first | exact plainFor_of_name (by first | (simp [plainName, overriddenIn]; done) | decide +kernel) | exact Jvm.Free.JP.mathPlain rfl (by decide +kernel) | decide +kernel
set_option maxRecDepth 65536 in
set_option maxHeartbeats 40000000 in
theorem ct8 {l : Launch} {Z : State} {a0 : Array Value} (hw : ∀ d ∈ tables_1, d.before a0 Z = true) {n0 : Nat} {h0 : Heap} (a1 b1 : Addr) (ln gi nx gv pv eq rp : Int32) (X : own_R Z h0 a1 (.ref b1) ln gi nx gv pv eq rp) : Ct l ⟨"com/example/quire/quire/core/Bzip2Runs", "array", "()[B"⟩ prog_76_method_2_code 1 (some (.array .byte)) [] ({ frames := 0, cells := 0, slots := 0, locals := 0 } : Room) Z n0 #[(.ref a1)] h0 (fun v h => v = some (.ref b1) ∧ h = h0) := by
  refine Ct.of (ls := [.val (.ref a1)]) pn8 (fun m => by first | (simp [entryFrame, mkF, argsToLocals, Value.category]; done) | rfl) ?_
  refine r_aloadN d8_0 rfl rfl ?_
  refine r_getF (host := "") (Or.inl (hw _ (List.mem_of_getElem? (i := 15) rfl))) (v := (.ref b1)) (X.2.1) d8_1 ?_
  exact r_aret rfl rfl rfl d8_4 (by decide) (by decide) (⟨rfl, rfl⟩)
theorem d9_0 : D prog_76_method_4_code 0 (.aload_n 0) 1 1 := ⟨by decide +kernel, rfl⟩
theorem d9_1 : D prog_76_method_4_code 1 (.getfield 13) 3 4 := ⟨by decide +kernel, rfl⟩
theorem d9_4 : D prog_76_method_4_code 4 (.ireturn) 1 5 := ⟨by decide +kernel, rfl⟩
theorem pn9 : plainFor (⟨"com/example/quire/quire/core/Bzip2Runs", "length", "()I"⟩ : MethodName) = true := by first | exact plainFor_of_name (by first | (simp [plainName, overriddenIn]; done) | decide +kernel) | exact Jvm.Free.JP.mathPlain rfl (by decide +kernel) | decide +kernel
set_option maxRecDepth 65536 in
set_option maxHeartbeats 40000000 in
theorem ct9 {l : Launch} {Z : State} {a0 : Array Value} (hw : ∀ d ∈ tables_1, d.before a0 Z = true) {n0 : Nat} {h0 : Heap} (a1 : Addr) (bv : Value) (ln gi nx gv pv eq rp : Int32) (X : own_R Z h0 a1 bv ln gi nx gv pv eq rp) : Ct l ⟨"com/example/quire/quire/core/Bzip2Runs", "length", "()I"⟩ prog_76_method_4_code 1 (some .int) [] ({ frames := 0, cells := 0, slots := 0, locals := 0 } : Room) Z n0 #[(.ref a1)] h0 (fun v h => v = some (.int ln) ∧ h = h0) := by
  refine Ct.of (ls := [.val (.ref a1)]) pn9 (fun m => by first | (simp [entryFrame, mkF, argsToLocals, Value.category]; done) | rfl) ?_
  refine r_aloadN d9_0 rfl rfl ?_
  refine r_getF (host := "") (Or.inl (hw _ (List.mem_of_getElem? (i := 22) rfl))) (v := (.int ln)) (X.2.2.1) d9_1 ?_
  exact r_iret d9_4 (by decide) (by decide) (⟨rfl, rfl⟩)
theorem d10_0 : D prog_76_method_5_code 0 (.aload_n 0) 1 1 := ⟨by decide +kernel, rfl⟩
theorem d10_1 : D prog_76_method_5_code 1 (.getfield 17) 3 4 := ⟨by decide +kernel, rfl⟩
theorem d10_4 : D prog_76_method_5_code 4 (.ireturn) 1 5 := ⟨by decide +kernel, rfl⟩
theorem pn10 : plainFor (⟨"com/example/quire/quire/core/Bzip2Runs", "gives", "()I"⟩ : MethodName) = true := by first | exact plainFor_of_name (by first | (simp [plainName, overriddenIn]; done) | decide +kernel) | exact Jvm.Free.JP.mathPlain rfl (by decide +kernel) | decide +kernel
set_option maxRecDepth 65536 in
set_option maxHeartbeats 40000000 in
theorem ct10 {l : Launch} {Z : State} {a0 : Array Value} (hw : ∀ d ∈ tables_1, d.before a0 Z = true) {n0 : Nat} {h0 : Heap} (a1 : Addr) (bv : Value) (ln gi nx gv pv eq rp : Int32) (X : own_R Z h0 a1 bv ln gi nx gv pv eq rp) : Ct l ⟨"com/example/quire/quire/core/Bzip2Runs", "gives", "()I"⟩ prog_76_method_5_code 1 (some .int) [] ({ frames := 0, cells := 0, slots := 0, locals := 0 } : Room) Z n0 #[(.ref a1)] h0 (fun v h => v = some (.int gi) ∧ h = h0) := by
  refine Ct.of (ls := [.val (.ref a1)]) pn10 (fun m => by first | (simp [entryFrame, mkF, argsToLocals, Value.category]; done) | rfl) ?_
  refine r_aloadN d10_0 rfl rfl ?_
  refine r_getF (host := "") (Or.inl (hw _ (List.mem_of_getElem? (i := 24) rfl))) (v := (.int gi)) (X.2.2.2.1) d10_1 ?_
  exact r_iret d10_4 (by decide) (by decide) (⟨rfl, rfl⟩)
theorem d11_0 : D prog_76_method_6_code 0 (.aload_n 0) 1 1 := ⟨by decide +kernel, rfl⟩
theorem d11_1 : D prog_76_method_6_code 1 (.getfield 17) 3 4 := ⟨by decide +kernel, rfl⟩
theorem d11_4 : D prog_76_method_6_code 4 (.aload_n 0) 1 5 := ⟨by decide +kernel, rfl⟩
theorem d11_5 : D prog_76_method_6_code 5 (.getfield 23) 3 8 := ⟨by decide +kernel, rfl⟩
theorem d11_8 : D prog_76_method_6_code 8 (.isub) 1 9 := ⟨by decide +kernel, rfl⟩
theorem d11_9 : D prog_76_method_6_code 9 (.ireturn) 1 10 := ⟨by decide +kernel, rfl⟩
theorem pn11 : plainFor (⟨"com/example/quire/quire/core/Bzip2Runs", "left", "()I"⟩ : MethodName) = true := by first | exact plainFor_of_name (by first | (simp [plainName, overriddenIn]; done) | decide +kernel) | exact Jvm.Free.JP.mathPlain rfl (by decide +kernel) | decide +kernel
set_option maxRecDepth 65536 in
set_option maxHeartbeats 40000000 in
theorem ct11 {l : Launch} {Z : State} {a0 : Array Value} (hw : ∀ d ∈ tables_1, d.before a0 Z = true) {n0 : Nat} {h0 : Heap} (a1 : Addr) (bv : Value) (ln gi nx pv eq rp : Int32) (X : own_R Z h0 a1 bv ln gi nx (0 : Int32) pv eq rp) : Ct l ⟨"com/example/quire/quire/core/Bzip2Runs", "left", "()I"⟩ prog_76_method_6_code 1 (some .int) [] ({ frames := 0, cells := 0, slots := 0, locals := 0 } : Room) Z n0 #[(.ref a1)] h0 (fun v h => v = some (.int gi) ∧ h = h0) := by
  refine Ct.of (ls := [.val (.ref a1)]) pn11 (fun m => by first | (simp [entryFrame, mkF, argsToLocals, Value.category]; done) | rfl) ?_
  refine r_aloadN d11_0 rfl rfl ?_
  refine r_getF (host := "") (Or.inl (hw _ (List.mem_of_getElem? (i := 24) rfl))) (v := (.int gi)) (X.2.2.2.1) d11_1 ?_
  refine r_aloadN d11_4 rfl rfl ?_
  refine r_getF (host := "") (Or.inl (hw _ (List.mem_of_getElem? (i := 28) rfl))) (v := (.int (0 : Int32))) (X.2.2.2.2.2.1) d11_5 ?_
  refine r_isub d11_8 ?_
  exact r_iret d11_9 (by decide) (by decide) (⟨by rw [Int32.sub_zero], rfl⟩)
theorem d12_0 : D prog_76_method_7_code 0 (.aload_n 0) 1 1 := ⟨by decide +kernel, rfl⟩
theorem d12_1 : D prog_76_method_7_code 1 (.getfield 23) 3 4 := ⟨by decide +kernel, rfl⟩
theorem d12_4 : D prog_76_method_7_code 4 (.aload_n 0) 1 5 := ⟨by decide +kernel, rfl⟩
theorem d12_5 : D prog_76_method_7_code 5 (.getfield 17) 3 8 := ⟨by decide +kernel, rfl⟩
theorem d12_8 : DB prog_76_method_7_code 8 (.if_icmp .ne) 7 11 15 := ⟨by decide +kernel, rfl, by decide, by decide⟩
theorem d12_11 : D prog_76_method_7_code 11 (.iconst 1) 1 12 := ⟨by decide +kernel, rfl⟩
theorem d12_12 : DB prog_76_method_7_code 12 (.goto) 4 15 16 := ⟨by decide +kernel, rfl, by decide, by decide⟩
theorem d12_15 : D prog_76_method_7_code 15 (.iconst 0) 1 16 := ⟨by decide +kernel, rfl⟩
theorem d12_16 : D prog_76_method_7_code 16 (.ireturn) 1 17 := ⟨by decide +kernel, rfl⟩
theorem pn12 : plainFor (⟨"com/example/quire/quire/core/Bzip2Runs", "done", "()Z"⟩ : MethodName) = true := by first | exact plainFor_of_name (by first | (simp [plainName, overriddenIn]; done) | decide +kernel) | exact Jvm.Free.JP.mathPlain rfl (by decide +kernel) | decide +kernel
set_option maxRecDepth 65536 in
set_option maxHeartbeats 40000000 in
theorem ct12 {l : Launch} {Z : State} {a0 : Array Value} (hw : ∀ d ∈ tables_1, d.before a0 Z = true) {n0 : Nat} {h0 : Heap} (a1 : Addr) (bv : Value) (ln gi nx pv eq rp : Int32) (X : own_R Z h0 a1 bv ln gi nx (0 : Int32) pv eq rp) : Ct l ⟨"com/example/quire/quire/core/Bzip2Runs", "done", "()Z"⟩ prog_76_method_7_code 1 (some .boolean) [] ({ frames := 0, cells := 0, slots := 0, locals := 0 } : Room) Z n0 #[(.ref a1)] h0 (fun v h => v = some (.int (if (0 : Int32) = gi then 1 else 0)) ∧ h = h0) := by
  refine Ct.of (ls := [.val (.ref a1)]) pn12 (fun m => by first | (simp [entryFrame, mkF, argsToLocals, Value.category]; done) | rfl) ?_
  refine r_aloadN d12_0 rfl rfl ?_
  refine r_getF (host := "") (Or.inl (hw _ (List.mem_of_getElem? (i := 28) rfl))) (v := (.int (0 : Int32))) (X.2.2.2.2.2.1) d12_1 ?_
  refine r_aloadN d12_4 rfl rfl ?_
  refine r_getF (host := "") (Or.inl (hw _ (List.mem_of_getElem? (i := 24) rfl))) (v := (.int gi)) (X.2.2.2.1) d12_5 ?_
  refine r_icmp_ne d12_8 (fun hc8 => ?_) (fun hc8 => ?_)
  · refine r_iconst (0 : Int32) rfl d12_15 ?_
    refine r_nret (t := .boolean) (by simp) d12_16 (by decide) (by decide) ?_
    refine ⟨?_, rfl⟩
    simp [nar, hc8]
  · refine r_iconst (1 : Int32) rfl d12_11 ?_
    refine r_goto d12_12 ?_
    refine r_nret (t := .boolean) (by simp) d12_16 (by decide) (by decide) ?_
    refine ⟨?_, rfl⟩
    simp [nar, hc8]
theorem d1_0 : D method_3_code 0 (.iload_n 0) 1 1 := ⟨by decide +kernel, rfl⟩
theorem d1_1 : D method_3_code 1 (.iload_n 1) 1 2 := ⟨by decide +kernel, rfl⟩
theorem d1_2 : D method_3_code 2 (.iushr) 1 3 := ⟨by decide +kernel, rfl⟩
theorem d1_3 : D method_3_code 3 (.iconst 1) 1 4 := ⟨by decide +kernel, rfl⟩
theorem d1_4 : D method_3_code 4 (.iand) 1 5 := ⟨by decide +kernel, rfl⟩
theorem d1_5 : DB method_3_code 5 (.ifCond .eq) 5 8 10 := ⟨by decide +kernel, rfl, by decide, by decide⟩
theorem d1_8 : D method_3_code 8 (.iload_n 2) 1 9 := ⟨by decide +kernel, rfl⟩
theorem d1_9 : D method_3_code 9 (.ireturn) 1 10 := ⟨by decide +kernel, rfl⟩
theorem d1_10 : D method_3_code 10 (.lload_n 3) 1 11 := ⟨by decide +kernel, rfl⟩
theorem d1_11 : D method_3_code 11 (.bipush 8) 2 13 := ⟨by decide +kernel, rfl⟩
theorem d1_13 : D method_3_code 13 (.iload_n 1) 1 14 := ⟨by decide +kernel, rfl⟩
theorem d1_14 : D method_3_code 14 (.imul) 1 15 := ⟨by decide +kernel, rfl⟩
theorem d1_15 : D method_3_code 15 (.lushr) 1 16 := ⟨by decide +kernel, rfl⟩
theorem d1_16 : D method_3_code 16 (.l2i) 1 17 := ⟨by decide +kernel, rfl⟩
theorem d1_17 : D method_3_code 17 (.i2b) 1 18 := ⟨by decide +kernel, rfl⟩
theorem d1_18 : D method_3_code 18 (.ireturn) 1 19 := ⟨by decide +kernel, rfl⟩
theorem pn1 : plainFor (⟨"com/example/quire/quire/core/Bzip2RunsHoldPinLaw", "pick", "(IIBJ)B"⟩ : MethodName) = true := by first | exact plainFor_of_name (by first | (simp [plainName, overriddenIn]; done) | decide +kernel) | exact Jvm.Free.JP.mathPlain rfl (by decide +kernel) | decide +kernel
set_option maxRecDepth 65536 in
set_option maxHeartbeats 40000000 in
theorem ct1 {l : Launch} {Z : State} {a0 : Array Value} (hw : ∀ d ∈ tables_1, d.before a0 Z = true) {n0 : Nat} {h0 : Heap} (p1 p2 p3 : Int32) (p4 : Int64) : Ct l ⟨"com/example/quire/quire/core/Bzip2RunsHoldPinLaw", "pick", "(IIBJ)B"⟩ method_3_code 5 (some .byte) [] ({ frames := 0, cells := 0, slots := 0, locals := 0 } : Room) Z n0 #[(.int p1), (.int p2), (.int p3), (.long p4)] h0 (fun v h => ∃ r : Int32, v = some (.int r) ∧ h = h0) := by
  refine Ct.of (ls := [.val (.int p1), .val (.int p2), .val (.int p3), .val (.long p4), .second]) pn1 (fun m => by first | (simp [entryFrame, mkF, argsToLocals, Value.category]; done) | rfl) ?_
  refine r_iloadN d1_0 rfl ?_
  refine r_iloadN d1_1 rfl ?_
  refine r_iushr d1_2 ?_
  refine r_iconst (1 : Int32) rfl d1_3 ?_
  refine r_iand d1_4 ?_
  refine r_if_eq d1_5 (fun hc5 => ?_) (fun hc5 => ?_)
  · refine r_lloadN d1_10 rfl ?_
    refine r_bipush (8 : Int32) rfl d1_11 ?_
    refine r_iloadN d1_13 rfl ?_
    refine r_imul d1_14 ?_
    refine r_lushr d1_15 ?_
    refine r_l2i d1_16 ?_
    refine r_i2b d1_17 ?_
    exact r_nret (t := .byte) (by simp) d1_18 (by decide) (by decide) (⟨_, rfl, rfl⟩)
  · refine r_iloadN d1_8 rfl ?_
    exact r_nret (t := .byte) (by simp) d1_9 (by decide) (by decide) (⟨_, rfl, rfl⟩)
theorem d13_0 : D method_4_code 0 (.iload_n 0) 1 1 := ⟨by decide +kernel, rfl⟩
theorem d13_1 : D method_4_code 1 (.iload_n 1) 1 2 := ⟨by decide +kernel, rfl⟩
theorem d13_2 : DB method_4_code 2 (.if_icmp .ne) 17 5 19 := ⟨by decide +kernel, rfl, by decide, by decide⟩
theorem d13_5 : D method_4_code 5 (.iload_n 1) 1 6 := ⟨by decide +kernel, rfl⟩
theorem d13_6 : D method_4_code 6 (.iload_n 2) 1 7 := ⟨by decide +kernel, rfl⟩
theorem d13_7 : DB method_4_code 7 (.if_icmp .ne) 12 10 19 := ⟨by decide +kernel, rfl, by decide, by decide⟩
theorem d13_10 : D method_4_code 10 (.iload_n 2) 1 11 := ⟨by decide +kernel, rfl⟩
theorem d13_11 : D method_4_code 11 (.iload_n 3) 1 12 := ⟨by decide +kernel, rfl⟩
theorem d13_12 : DB method_4_code 12 (.if_icmp .ne) 7 15 19 := ⟨by decide +kernel, rfl, by decide, by decide⟩
theorem d13_15 : D method_4_code 15 (.iconst 1) 1 16 := ⟨by decide +kernel, rfl⟩
theorem d13_16 : DB method_4_code 16 (.goto) 4 19 20 := ⟨by decide +kernel, rfl, by decide, by decide⟩
theorem d13_19 : D method_4_code 19 (.iconst 0) 1 20 := ⟨by decide +kernel, rfl⟩
theorem d13_20 : D method_4_code 20 (.ireturn) 1 21 := ⟨by decide +kernel, rfl⟩
theorem pn13 : plainFor (⟨"com/example/quire/quire/core/Bzip2RunsHoldPinLaw", "same4", "(IIII)Z"⟩ : MethodName) = true := by first | exact plainFor_of_name (by first | (simp [plainName, overriddenIn]; done) | decide +kernel) | exact Jvm.Free.JP.mathPlain rfl (by decide +kernel) | decide +kernel
set_option maxRecDepth 65536 in
set_option maxHeartbeats 40000000 in
theorem ct13 {l : Launch} {Z : State} {a0 : Array Value} (hw : ∀ d ∈ tables_1, d.before a0 Z = true) {n0 : Nat} {h0 : Heap} (x y z u : Nat) (hx : x < 256) (hy : y < 256) (hz : z < 256) (hu : u < 256) : Ct l ⟨"com/example/quire/quire/core/Bzip2RunsHoldPinLaw", "same4", "(IIII)Z"⟩ method_4_code 4 (some .boolean) [] ({ frames := 0, cells := 0, slots := 0, locals := 0 } : Room) Z n0 #[(.int x.toInt32), (.int y.toInt32), (.int z.toInt32), (.int u.toInt32)] h0 (fun v h => v = some (.int (if x = y ∧ y = z ∧ z = u then 1 else 0)) ∧ h = h0) := by
  refine Ct.of (ls := [.val (.int x.toInt32), .val (.int y.toInt32), .val (.int z.toInt32), .val (.int u.toInt32)]) pn13 (fun m => by first | (simp [entryFrame, mkF, argsToLocals, Value.category]; done) | rfl) ?_
  refine r_iloadN d13_0 rfl ?_
  refine r_iloadN d13_1 rfl ?_
  refine r_icmp_ne d13_2 (fun hc2 => ?_) (fun hc2 => ?_)
  · refine r_iconst (0 : Int32) rfl d13_19 ?_
    refine r_nret (t := .boolean) (by simp) d13_20 (by decide) (by decide) ?_
    refine ⟨?_, rfl⟩
    rw [if_neg (fun q => hc2 (by rw [q.1]))]; rfl
  · refine r_iloadN d13_5 rfl ?_
    refine r_iloadN d13_6 rfl ?_
    refine r_icmp_ne d13_7 (fun hc7 => ?_) (fun hc7 => ?_)
    · refine r_iconst (0 : Int32) rfl d13_19 ?_
      refine r_nret (t := .boolean) (by simp) d13_20 (by decide) (by decide) ?_
      refine ⟨?_, rfl⟩
      rw [if_neg (fun q => hc7 (by rw [q.2.1]))]; rfl
    · refine r_iloadN d13_10 rfl ?_
      refine r_iloadN d13_11 rfl ?_
      refine r_icmp_ne d13_12 (fun hc12 => ?_) (fun hc12 => ?_)
      · refine r_iconst (0 : Int32) rfl d13_19 ?_
        refine r_nret (t := .boolean) (by simp) d13_20 (by decide) (by decide) ?_
        refine ⟨?_, rfl⟩
        rw [if_neg (fun q => hc12 (by rw [q.2.2]))]; rfl
      · refine r_iconst (1 : Int32) rfl d13_15 ?_
        refine r_goto d13_16 ?_
        refine r_nret (t := .boolean) (by simp) d13_20 (by decide) (by decide) ?_
        refine ⟨?_, rfl⟩
        rw [if_pos ⟨(n32_eq (by omega) (by omega)).mp hc2, (n32_eq (by omega) (by omega)).mp hc7, (n32_eq (by omega) (by omega)).mp hc12⟩]; rfl
def own_min (a b : Int32) : Int32 := if b < a then b else a
theorem d6_0 : D jdk_29_method_69_code 0 (.iload_n 0) 1 1 := ⟨by decide +kernel, rfl⟩
theorem d6_1 : D jdk_29_method_69_code 1 (.iload_n 1) 1 2 := ⟨by decide +kernel, rfl⟩
theorem d6_2 : DB jdk_29_method_69_code 2 (.if_icmp .gt) 7 5 9 := ⟨by decide +kernel, rfl, by decide, by decide⟩
theorem d6_5 : D jdk_29_method_69_code 5 (.iload_n 0) 1 6 := ⟨by decide +kernel, rfl⟩
theorem d6_6 : DB jdk_29_method_69_code 6 (.goto) 4 9 10 := ⟨by decide +kernel, rfl, by decide, by decide⟩
theorem d6_9 : D jdk_29_method_69_code 9 (.iload_n 1) 1 10 := ⟨by decide +kernel, rfl⟩
theorem d6_10 : D jdk_29_method_69_code 10 (.ireturn) 1 11 := ⟨by decide +kernel, rfl⟩
theorem pn6 : plainFor (⟨"java/lang/Math", "min", "(II)I"⟩ : MethodName) = true := by first | exact plainFor_of_name (by first | (simp [plainName, overriddenIn]; done) | decide +kernel) | exact Jvm.Free.JP.mathPlain rfl (by decide +kernel) | decide +kernel
set_option maxRecDepth 65536 in
set_option maxHeartbeats 40000000 in
theorem ct6 {l : Launch} {Z : State} {a0 : Array Value} (hw : ∀ d ∈ tables_1, d.before a0 Z = true) {n0 : Nat} {h0 : Heap} (p1 p2 : Int32) : Ct l ⟨"java/lang/Math", "min", "(II)I"⟩ jdk_29_method_69_code 2 (some .int) [] ({ frames := 0, cells := 0, slots := 0, locals := 0 } : Room) Z n0 #[(.int p1), (.int p2)] h0 (fun v h => v = some (.int (own_min p1 p2)) ∧ h = h0) := by
  refine Ct.of (ls := [.val (.int p1), .val (.int p2)]) pn6 (fun m => by first | (simp [entryFrame, mkF, argsToLocals, Value.category]; done) | rfl) ?_
  refine r_iloadN d6_0 rfl ?_
  refine r_iloadN d6_1 rfl ?_
  refine r_icmp_gt d6_2 (fun hc2 => ?_) (fun hc2 => ?_)
  · refine r_iloadN d6_9 rfl ?_
    refine r_iret d6_10 (by decide) (by decide) ?_
    refine ⟨?_, rfl⟩
    simp [own_min, hc2]
  · refine r_iloadN d6_5 rfl ?_
    refine r_goto d6_6 ?_
    refine r_iret d6_10 (by decide) (by decide) ?_
    refine ⟨?_, rfl⟩
    simp [own_min, hc2]
theorem own_minN {a b : Nat} (ha : a < 2 ^ 31) (hb : b < 2 ^ 31) : own_min a.toInt32 b.toInt32 = (min a b).toInt32 := by
  unfold own_min
  by_cases c : b < a
  · rw [if_pos ((n32_lt hb ha).mpr c), show min a b = b by omega]
  · rw [if_neg (fun q => c ((n32_lt hb ha).mp q)), show min a b = a by omega]
theorem d15_0 : D jdk_65_method_30_code 0 (.iload_n 1) 1 1 := ⟨by decide +kernel, rfl⟩
theorem d15_1 : D jdk_65_method_30_code 1 (.iload_n 2) 1 2 := ⟨by decide +kernel, rfl⟩
theorem d15_2 : DB jdk_65_method_30_code 2 (.if_icmp .le) 44 5 46 := ⟨by decide +kernel, rfl, by decide, by decide⟩
theorem d15_46 : D jdk_65_method_30_code 46 (.iload_n 1) 1 47 := ⟨by decide +kernel, rfl⟩
theorem d15_47 : DB jdk_65_method_30_code 47 (.ifCond .ge) 12 50 59 := ⟨by decide +kernel, rfl, by decide, by decide⟩
theorem d15_59 : D jdk_65_method_30_code 59 (.iload_n 2) 1 60 := ⟨by decide +kernel, rfl⟩
theorem d15_60 : D jdk_65_method_30_code 60 (.iload_n 0) 1 61 := ⟨by decide +kernel, rfl⟩
theorem d15_61 : DB jdk_65_method_30_code 61 (.if_icmp .le) 12 64 73 := ⟨by decide +kernel, rfl, by decide, by decide⟩
theorem d15_73 : D jdk_65_method_30_code 73 (.return_) 1 74 := ⟨by decide +kernel, rfl⟩
theorem pn15 : plainFor (⟨"java/util/Arrays", "rangeCheck", "(III)V"⟩ : MethodName) = true := by first | exact plainFor_of_name (by first | (simp [plainName, overriddenIn]; done) | decide +kernel) | exact Jvm.Free.JP.mathPlain rfl (by decide +kernel) | decide +kernel
set_option maxRecDepth 65536 in
set_option maxHeartbeats 40000000 in
theorem ct15 {l : Launch} {Z : State} {a0 : Array Value} (hw : ∀ d ∈ tables_1, d.before a0 Z = true) {n0 : Nat} {h0 : Heap} (f t : Nat) (hf : f ≤ t) (ht : t ≤ 8) : Ct l ⟨"java/util/Arrays", "rangeCheck", "(III)V"⟩ jdk_65_method_30_code 3 none [] ({ frames := 0, cells := 0, slots := 0, locals := 0 } : Room) Z n0 #[(.int (8 : Int32)), (.int f.toInt32), (.int t.toInt32)] h0 (fun v h => v = none ∧ h = h0) := by
  refine Ct.of (ls := [.val (.int (8 : Int32)), .val (.int f.toInt32), .val (.int t.toInt32)]) pn15 (fun m => by first | (simp [entryFrame, mkF, argsToLocals, Value.category]; done) | rfl) ?_
  refine r_iloadN d15_0 rfl ?_
  refine r_iloadN d15_1 rfl ?_
  refine r_icmp_le d15_2 (fun hc2 => ?_) (fun hc2 => ?_)
  · refine r_iloadN d15_46 rfl ?_
    refine r_if_ge d15_47 (fun hc47 => ?_) (fun hc47 => ?_)
    · refine r_iloadN d15_59 rfl ?_
      refine r_iloadN d15_60 rfl ?_
      refine r_icmp_le d15_61 (fun hc61 => ?_) (fun hc61 => ?_)
      · exact r_ret d15_73 (by decide) (by decide) (⟨rfl, rfl⟩)
      · exfalso; have := (n32_lt (a := 8) (by omega) (by omega)).mp hc61; omega
    · exfalso; exact n32_nn (by omega) hc47
  · exfalso; have := (n32_lt (by omega) (by omega)).mp hc2; omega
theorem d14_0 : D jdk_65_method_110_code 0 (.aload_n 0) 1 1 := ⟨by decide +kernel, rfl⟩
theorem d14_1 : D jdk_65_method_110_code 1 (.arraylength) 1 2 := ⟨by decide +kernel, rfl⟩
theorem d14_2 : D jdk_65_method_110_code 2 (.iload_n 1) 1 3 := ⟨by decide +kernel, rfl⟩
theorem d14_3 : D jdk_65_method_110_code 3 (.iload_n 2) 1 4 := ⟨by decide +kernel, rfl⟩
theorem d14_4 : D jdk_65_method_110_code 4 (.invokestatic 13) 3 7 := ⟨by decide +kernel, rfl⟩
theorem d14_7 : D jdk_65_method_110_code 7 (.iload_n 1) 1 8 := ⟨by decide +kernel, rfl⟩
theorem d14_8 : D jdk_65_method_110_code 8 (.istore 4) 2 10 := ⟨by decide +kernel, rfl⟩
theorem d14_10 : D jdk_65_method_110_code 10 (.iload 4) 2 12 := ⟨by decide +kernel, rfl⟩
theorem d14_12 : D jdk_65_method_110_code 12 (.iload_n 2) 1 13 := ⟨by decide +kernel, rfl⟩
theorem d14_13 : DB jdk_65_method_110_code 13 (.if_icmp .ge) 14 16 27 := ⟨by decide +kernel, rfl, by decide, by decide⟩
theorem d14_16 : D jdk_65_method_110_code 16 (.aload_n 0) 1 17 := ⟨by decide +kernel, rfl⟩
theorem d14_17 : D jdk_65_method_110_code 17 (.iload 4) 2 19 := ⟨by decide +kernel, rfl⟩
theorem d14_19 : D jdk_65_method_110_code 19 (.iload_n 3) 1 20 := ⟨by decide +kernel, rfl⟩
theorem d14_20 : D jdk_65_method_110_code 20 (.bastore) 1 21 := ⟨by decide +kernel, rfl⟩
theorem d14_21 : D jdk_65_method_110_code 21 (.iinc 4 1) 3 24 := ⟨by decide +kernel, rfl⟩
theorem d14_24 : DB jdk_65_method_110_code 24 (.goto) (-14) 27 10 := ⟨by decide +kernel, rfl, by decide, by decide⟩
theorem d14_27 : D jdk_65_method_110_code 27 (.return_) 1 28 := ⟨by decide +kernel, rfl⟩
theorem pd14_0 : parseMethodDescriptor "(III)V" = some ⟨[.int, .int, .int], none⟩ := by decide +kernel
theorem pn14 : plainFor (⟨"java/util/Arrays", "fill", "([BIIB)V"⟩ : MethodName) = true := by first | exact plainFor_of_name (by first | (simp [plainName, overriddenIn]; done) | decide +kernel) | exact Jvm.Free.JP.mathPlain rfl (by decide +kernel) | decide +kernel
set_option maxRecDepth 65536 in
set_option maxHeartbeats 40000000 in
theorem lp14 {l : Launch} {Z : State} {a0 : Array Value} (hw : ∀ d ∈ tables_1, d.before a0 Z = true) {n0 : Nat} {h0 : Heap} (o1 : Addr) (f t : Nat) (x : Int32) (ht : t ≤ 8) (g1 : n0 ≤ o1) : ∀ (u i : Nat) (h : Heap), i + u = t → Keep h0 h [o1] → own_O Z h o1 → ORun l ⟨"java/util/Arrays", "fill", "([BIIB)V"⟩ jdk_65_method_110_code 5 none ({ frames := 1, cells := 0, slots := 0, locals := 14 } : Room) Z n0 #[(.ref o1), (.int f.toInt32), (.int t.toInt32), (.int x)] (fun v h => v = none ∧ Keep h0 h [o1] ∧ own_O Z h o1) h 0 0 10 [.val (.ref o1), .val (.int f.toInt32), .val (.int t.toInt32), .val (.int x), .val (.int i.toInt32)] [] := by
  intro u
  induction u with
  | zero =>
    intro i h hi K O
    refine r_iload d14_10 rfl ?_
    refine r_iloadN d14_12 rfl ?_
    refine r_icmp_ge d14_13 (fun hc13 => ?_) (fun hc13 => ?_)
    · exact r_ret d14_27 (by decide) (by decide) (⟨rfl, K, O⟩)
    · exfalso; have := (n32_lt (a := i) (b := t) (by omega) (by omega)).mp hc13; omega
  | succ u ih =>
    intro i h hi K O
    refine r_iload d14_10 rfl ?_
    refine r_iloadN d14_12 rfl ?_
    refine r_icmp_ge d14_13 (fun hc13 => ?_) (fun hc13 => ?_)
    · exfalso; exact hc13 ((n32_lt (by omega) (by omega)).mpr (by omega))
    · refine r_aloadN d14_16 rfl rfl ?_
      refine r_iload d14_17 rfl ?_
      refine r_iloadN d14_19 rfl ?_
      obtain ⟨os, B⟩ := O
      refine r_stB i _ B.1 (n32_nn (by omega)) (n32_clamp (by omega)) (by rw [B.2.1]; omega) rfl g1 d14_20 ?_
      intro h20 W20 V20
      refine r_iinc d14_21 rfl (n32_add i 1) [.val (.ref o1), .val (.int f.toInt32), .val (.int t.toInt32), .val (.int x), .val (.int (i + 1).toInt32)] rfl ?_
      refine r_goto d14_24 ?_
      exact ih (i + 1) h20 (by omega) (Keep.wr K W20 (Or.inl (List.mem_of_getElem? (i := 0) rfl))) ⟨_, own_B.st B.2.1 B.2.2 V20⟩
set_option maxRecDepth 65536 in
set_option maxHeartbeats 40000000 in
theorem ct14 {l : Launch} {Z : State} {a0 : Array Value} (hw : ∀ d ∈ tables_1, d.before a0 Z = true) {n0 : Nat} {h0 : Heap} (o1 : Addr) (f t : Nat) (x : Int32) (O : own_O Z h0 o1) (hf : f ≤ t) (ht : t ≤ 8) (g1 : n0 ≤ o1) : Ct l ⟨"java/util/Arrays", "fill", "([BIIB)V"⟩ jdk_65_method_110_code 5 none [] ({ frames := 1, cells := 0, slots := 0, locals := 14 } : Room) Z n0 #[(.ref o1), (.int f.toInt32), (.int t.toInt32), (.int x)] h0 (fun v h => v = none ∧ Keep h0 h [o1] ∧ own_O Z h o1) := by
  refine Ct.of (ls := [.val (.ref o1), .val (.int f.toInt32), .val (.int t.toInt32), .val (.int x), .unset]) pn14 (fun m => by first | (simp [entryFrame, mkF, argsToLocals, Value.category]; done) | rfl) ?_
  refine r_aloadN d14_0 rfl rfl ?_
  obtain ⟨os, B⟩ := O
  refine r_lenA (8 : Int32) B.1 (by rw [B.2.1]; rfl) d14_1 ?_
  refine r_iloadN d14_2 rfl ?_
  refine r_iloadN d14_3 rfl ?_
  refine r_static [(.int (8 : Int32)), (.int f.toInt32), (.int t.toInt32)] [] rfl pd14_0 rfl (hw _ (List.mem_of_getElem? (i := 84) rfl)) (hw _ (List.mem_of_getElem? (i := 85) rfl)) (hw _ (List.mem_of_getElem? (i := 82) rfl)) (hw _ (List.mem_of_getElem? (i := 86) rfl)) (by decide) (R' := ({ frames := 0, cells := 0, slots := 0, locals := 0 } : Room)) (ct15 hw f t hf ht) d14_4 rfl (by decide) 0 rfl (by decide) (by decide) (by decide) ?_
  rintro _ hq4 ⟨rfl, eq4⟩
  rw [eq4]
  show ORun _ _ _ _ _ _ _ _ _ _ h0 0 0 7 [.val (.ref o1), .val (.int f.toInt32), .val (.int t.toInt32), .val (.int x), .unset] []
  refine r_iloadN d14_7 rfl ?_
  refine r_istore d14_8 [.val (.ref o1), .val (.int f.toInt32), .val (.int t.toInt32), .val (.int x), .val (.int f.toInt32)] rfl ?_
  exact lp14 hw o1 f t x ht g1 (t - f) f h0 (by omega) (Keep.refl h0 [o1]) ⟨os, B⟩
theorem d2_0 : D prog_76_method_1_code 0 (.aload_n 0) 1 1 := ⟨by decide +kernel, rfl⟩
theorem d2_1 : D prog_76_method_1_code 1 (.invokespecial 1) 3 4 := ⟨by decide +kernel, rfl⟩
theorem d2_4 : D prog_76_method_1_code 4 (.aload_n 0) 1 5 := ⟨by decide +kernel, rfl⟩
theorem d2_5 : D prog_76_method_1_code 5 (.iconst 0) 1 6 := ⟨by decide +kernel, rfl⟩
theorem d2_6 : D prog_76_method_1_code 6 (.newarray .byte) 2 8 := ⟨by decide +kernel, rfl⟩
theorem d2_8 : D prog_76_method_1_code 8 (.putfield 7) 3 11 := ⟨by decide +kernel, rfl⟩
theorem d2_11 : D prog_76_method_1_code 11 (.return_) 1 12 := ⟨by decide +kernel, rfl⟩
theorem pn2 : plainFor (⟨"com/example/quire/quire/core/Bzip2Runs", "<init>", "()V"⟩ : MethodName) = true := by first | exact plainFor_of_name (by first | (simp [plainName, overriddenIn]; done) | decide +kernel) | exact Jvm.Free.JP.mathPlain rfl (by decide +kernel) | decide +kernel
set_option maxRecDepth 65536 in
set_option maxHeartbeats 40000000 in
theorem ct2 {l : Launch} {Z : State} {a0 : Array Value} (hw : ∀ d ∈ tables_1, d.before a0 Z = true) {n0 : Nat} {h0 : Heap} (a1 : Addr) (X : own_R Z h0 a1 .null 0 0 0 0 0 0 0) (g1 : n0 ≤ a1) : Ct l ⟨"com/example/quire/quire/core/Bzip2Runs", "<init>", "()V"⟩ prog_76_method_1_code 1 none [] ({ frames := 1, cells := 1, slots := 0, locals := 12 } : Room) Z n0 #[(.ref a1)] h0 (fun v h => v = none ∧ Keep h0 h [a1] ∧ ∃ bv, own_R Z h a1 bv 0 0 0 0 0 0 0) := by
  refine Ct.of (ls := [.val (.ref a1)]) pn2 (fun m => by first | (simp [entryFrame, mkF, argsToLocals, Value.category]; done) | rfl) ?_
  refine r_aloadN d2_0 rfl rfl ?_
  refine r_initO (hw _ (List.mem_of_getElem? (i := 12) rfl)) (hw _ (List.mem_of_getElem? (i := 13) rfl)) (hw _ (List.mem_of_getElem? (i := 14) rfl)) d2_1 rfl (by decide) 0 rfl (by decide) ?_
  refine r_aloadN d2_4 rfl rfl ?_
  refine r_iconst (0 : Int32) rfl d2_5 ?_
  refine r_newarr 0 (hw _ (List.mem_of_getElem? (i := 0) rfl)) d2_6 (by decide) (by decide) (by decide) (by decide) (by decide) ?_
  intro hn6 cA6 E6 A6
  obtain ⟨b6, g6⟩ : ∃ z, z = h0.size := ⟨_, rfl⟩
  rw [← g6] at A6 ⊢
  have V6 : Ary Z hn6 b6 .byte [] := Ary.new A6 rfl rfl
  show ORun _ _ _ _ _ _ _ _ _ _ hn6 1 0 8 [.val (.ref a1)] [(.ref b6), (.ref a1)]
  have X6 := X.ext E6
  refine r_putF (host := "") (Or.inl (hw _ (List.mem_of_getElem? (i := 15) rfl))) (X6.2.1) (X6.1) (Or.inl (hw _ (List.mem_of_getElem? (i := 16) rfl))) (hw _ (List.mem_of_getElem? (i := 7) rfl)) (ty := (.array .byte)) (by decide) rfl rfl g1 d2_8 ?_
  intro h8 W8
  have R8 := own_R_bytes hw X6 W8
  have K8 := Keep.wr ((Keep.refl h0 [a1]).ext E6) W8 (Or.inl (List.mem_of_getElem? (i := 0) rfl))
  exact r_ret d2_11 (by decide) (by decide) (⟨rfl, K8, _, R8⟩)
theorem d4_0 : D prog_76_method_3_code 0 (.aload_n 0) 1 1 := ⟨by decide +kernel, rfl⟩
theorem d4_1 : D prog_76_method_3_code 1 (.aload_n 1) 1 2 := ⟨by decide +kernel, rfl⟩
theorem d4_2 : D prog_76_method_3_code 2 (.putfield 7) 3 5 := ⟨by decide +kernel, rfl⟩
theorem d4_5 : D prog_76_method_3_code 5 (.aload_n 0) 1 6 := ⟨by decide +kernel, rfl⟩
theorem d4_6 : D prog_76_method_3_code 6 (.iload_n 2) 1 7 := ⟨by decide +kernel, rfl⟩
theorem d4_7 : D prog_76_method_3_code 7 (.putfield 13) 3 10 := ⟨by decide +kernel, rfl⟩
theorem d4_10 : D prog_76_method_3_code 10 (.aload_n 0) 1 11 := ⟨by decide +kernel, rfl⟩
theorem d4_11 : D prog_76_method_3_code 11 (.iconst 0) 1 12 := ⟨by decide +kernel, rfl⟩
theorem d4_12 : D prog_76_method_3_code 12 (.putfield 17) 3 15 := ⟨by decide +kernel, rfl⟩
theorem d4_15 : D prog_76_method_3_code 15 (.iconst (-1)) 1 16 := ⟨by decide +kernel, rfl⟩
theorem d4_16 : D prog_76_method_3_code 16 (.istore_n 3) 1 17 := ⟨by decide +kernel, rfl⟩
theorem d4_17 : D prog_76_method_3_code 17 (.iconst 0) 1 18 := ⟨by decide +kernel, rfl⟩
theorem d4_18 : D prog_76_method_3_code 18 (.istore 4) 2 20 := ⟨by decide +kernel, rfl⟩
theorem d4_20 : D prog_76_method_3_code 20 (.iconst 0) 1 21 := ⟨by decide +kernel, rfl⟩
theorem d4_21 : D prog_76_method_3_code 21 (.istore 5) 2 23 := ⟨by decide +kernel, rfl⟩
theorem d4_23 : D prog_76_method_3_code 23 (.iload 5) 2 25 := ⟨by decide +kernel, rfl⟩
theorem d4_25 : D prog_76_method_3_code 25 (.iload_n 2) 1 26 := ⟨by decide +kernel, rfl⟩
theorem d4_26 : DB prog_76_method_3_code 26 (.if_icmp .ge) 71 29 97 := ⟨by decide +kernel, rfl, by decide, by decide⟩
theorem d4_29 : D prog_76_method_3_code 29 (.aload_n 1) 1 30 := ⟨by decide +kernel, rfl⟩
theorem d4_30 : D prog_76_method_3_code 30 (.iload 5) 2 32 := ⟨by decide +kernel, rfl⟩
theorem d4_32 : D prog_76_method_3_code 32 (.baload) 1 33 := ⟨by decide +kernel, rfl⟩
theorem d4_33 : D prog_76_method_3_code 33 (.sipush 255) 3 36 := ⟨by decide +kernel, rfl⟩
theorem d4_36 : D prog_76_method_3_code 36 (.iand) 1 37 := ⟨by decide +kernel, rfl⟩
theorem d4_37 : D prog_76_method_3_code 37 (.istore 6) 2 39 := ⟨by decide +kernel, rfl⟩
theorem d4_39 : D prog_76_method_3_code 39 (.iload 4) 2 41 := ⟨by decide +kernel, rfl⟩
theorem d4_41 : D prog_76_method_3_code 41 (.iconst 4) 1 42 := ⟨by decide +kernel, rfl⟩
theorem d4_42 : DB prog_76_method_3_code 42 (.if_icmp .ne) 20 45 62 := ⟨by decide +kernel, rfl, by decide, by decide⟩
theorem d4_45 : D prog_76_method_3_code 45 (.aload_n 0) 1 46 := ⟨by decide +kernel, rfl⟩
theorem d4_46 : D prog_76_method_3_code 46 (.dup) 1 47 := ⟨by decide +kernel, rfl⟩
theorem d4_47 : D prog_76_method_3_code 47 (.getfield 17) 3 50 := ⟨by decide +kernel, rfl⟩
theorem d4_50 : D prog_76_method_3_code 50 (.iload 6) 2 52 := ⟨by decide +kernel, rfl⟩
theorem d4_52 : D prog_76_method_3_code 52 (.iadd) 1 53 := ⟨by decide +kernel, rfl⟩
theorem d4_53 : D prog_76_method_3_code 53 (.putfield 17) 3 56 := ⟨by decide +kernel, rfl⟩
theorem d4_56 : D prog_76_method_3_code 56 (.iconst 0) 1 57 := ⟨by decide +kernel, rfl⟩
theorem d4_57 : D prog_76_method_3_code 57 (.istore 4) 2 59 := ⟨by decide +kernel, rfl⟩
theorem d4_59 : DB prog_76_method_3_code 59 (.goto) 32 62 91 := ⟨by decide +kernel, rfl, by decide, by decide⟩
theorem d4_62 : D prog_76_method_3_code 62 (.aload_n 0) 1 63 := ⟨by decide +kernel, rfl⟩
theorem d4_63 : D prog_76_method_3_code 63 (.dup) 1 64 := ⟨by decide +kernel, rfl⟩
theorem d4_64 : D prog_76_method_3_code 64 (.getfield 17) 3 67 := ⟨by decide +kernel, rfl⟩
theorem d4_67 : D prog_76_method_3_code 67 (.iconst 1) 1 68 := ⟨by decide +kernel, rfl⟩
theorem d4_68 : D prog_76_method_3_code 68 (.iadd) 1 69 := ⟨by decide +kernel, rfl⟩
theorem d4_69 : D prog_76_method_3_code 69 (.putfield 17) 3 72 := ⟨by decide +kernel, rfl⟩
theorem d4_72 : D prog_76_method_3_code 72 (.iload 6) 2 74 := ⟨by decide +kernel, rfl⟩
theorem d4_74 : D prog_76_method_3_code 74 (.iload_n 3) 1 75 := ⟨by decide +kernel, rfl⟩
theorem d4_75 : DB prog_76_method_3_code 75 (.if_icmp .ne) 10 78 85 := ⟨by decide +kernel, rfl, by decide, by decide⟩
theorem d4_78 : D prog_76_method_3_code 78 (.iload 4) 2 80 := ⟨by decide +kernel, rfl⟩
theorem d4_80 : D prog_76_method_3_code 80 (.iconst 1) 1 81 := ⟨by decide +kernel, rfl⟩
theorem d4_81 : D prog_76_method_3_code 81 (.iadd) 1 82 := ⟨by decide +kernel, rfl⟩
theorem d4_82 : DB prog_76_method_3_code 82 (.goto) 4 85 86 := ⟨by decide +kernel, rfl, by decide, by decide⟩
theorem d4_85 : D prog_76_method_3_code 85 (.iconst 1) 1 86 := ⟨by decide +kernel, rfl⟩
theorem d4_86 : D prog_76_method_3_code 86 (.istore 4) 2 88 := ⟨by decide +kernel, rfl⟩
theorem d4_88 : D prog_76_method_3_code 88 (.iload 6) 2 90 := ⟨by decide +kernel, rfl⟩
theorem d4_90 : D prog_76_method_3_code 90 (.istore_n 3) 1 91 := ⟨by decide +kernel, rfl⟩
theorem d4_91 : D prog_76_method_3_code 91 (.iinc 5 1) 3 94 := ⟨by decide +kernel, rfl⟩
theorem d4_94 : DB prog_76_method_3_code 94 (.goto) (-71) 97 23 := ⟨by decide +kernel, rfl, by decide, by decide⟩
theorem d4_97 : D prog_76_method_3_code 97 (.aload_n 0) 1 98 := ⟨by decide +kernel, rfl⟩
theorem d4_98 : D prog_76_method_3_code 98 (.iconst 0) 1 99 := ⟨by decide +kernel, rfl⟩
theorem d4_99 : D prog_76_method_3_code 99 (.putfield 20) 3 102 := ⟨by decide +kernel, rfl⟩
theorem d4_102 : D prog_76_method_3_code 102 (.aload_n 0) 1 103 := ⟨by decide +kernel, rfl⟩
theorem d4_103 : D prog_76_method_3_code 103 (.iconst 0) 1 104 := ⟨by decide +kernel, rfl⟩
theorem d4_104 : D prog_76_method_3_code 104 (.putfield 23) 3 107 := ⟨by decide +kernel, rfl⟩
theorem d4_107 : D prog_76_method_3_code 107 (.aload_n 0) 1 108 := ⟨by decide +kernel, rfl⟩
theorem d4_108 : D prog_76_method_3_code 108 (.iconst (-1)) 1 109 := ⟨by decide +kernel, rfl⟩
theorem d4_109 : D prog_76_method_3_code 109 (.putfield 26) 3 112 := ⟨by decide +kernel, rfl⟩
theorem d4_112 : D prog_76_method_3_code 112 (.aload_n 0) 1 113 := ⟨by decide +kernel, rfl⟩
theorem d4_113 : D prog_76_method_3_code 113 (.iconst 0) 1 114 := ⟨by decide +kernel, rfl⟩
theorem d4_114 : D prog_76_method_3_code 114 (.putfield 29) 3 117 := ⟨by decide +kernel, rfl⟩
theorem d4_117 : D prog_76_method_3_code 117 (.aload_n 0) 1 118 := ⟨by decide +kernel, rfl⟩
theorem d4_118 : D prog_76_method_3_code 118 (.iconst 0) 1 119 := ⟨by decide +kernel, rfl⟩
theorem d4_119 : D prog_76_method_3_code 119 (.putfield 32) 3 122 := ⟨by decide +kernel, rfl⟩
theorem d4_122 : D prog_76_method_3_code 122 (.return_) 1 123 := ⟨by decide +kernel, rfl⟩
theorem pn4 : plainFor (⟨"com/example/quire/quire/core/Bzip2Runs", "hold", "([BI)V"⟩ : MethodName) = true := by first | exact plainFor_of_name (by first | (simp [plainName, overriddenIn]; done) | decide +kernel) | exact Jvm.Free.JP.mathPlain rfl (by decide +kernel) | decide +kernel
set_option maxRecDepth 65536 in
set_option maxHeartbeats 40000000 in
theorem lp4 {l : Launch} {Z : State} {a0 : Array Value} (hw : ∀ d ∈ tables_1, d.before a0 Z = true) {n0 : Nat} {h0 : Heap} (a1 b1 : Addr) (vs : List Int32) (n : Nat) (nx gv pv eq rp : Int32) (hn : n ≤ 8) (ne : b1 ≠ a1) (g1 : n0 ≤ a1) : ∀ (t i : Nat) (last : Int32) (run g : Nat) (h : Heap) (s6 : Slot), i + t = n → run ≤ 4 → g + own_G vs t i last run = (own_G vs n 0 (-1) 0) → (s6 = .unset ∨ ∃ x : Int32, s6 = .val (.int x)) → own_R Z h a1 (.ref b1) n.toInt32 g.toInt32 nx gv pv eq rp → own_B Z h b1 vs → Keep h0 h [a1] → ORun l ⟨"com/example/quire/quire/core/Bzip2Runs", "hold", "([BI)V"⟩ prog_76_method_3_code 7 none ({ frames := 0, cells := 0, slots := 0, locals := 0 } : Room) Z n0 #[(.ref a1), (.ref b1), (.int n.toInt32)] (fun v h => v = none ∧ Keep h0 h [a1] ∧ own_R Z h a1 (.ref b1) n.toInt32 (own_G vs n 0 (-1) 0).toInt32 0 0 (-1) 0 0) h 0 0 23 [.val (.ref a1), .val (.ref b1), .val (.int n.toInt32), .val (.int last), .val (.int run.toInt32), .val (.int i.toInt32), s6] [] := by
  intro t
  induction t with
  | zero =>
    intro i last run g h s6 hi hr hg h6 X B K
    have hle := own_Gle vs n 0 (-1) 0
    have eg : g = (own_G vs n 0 (-1) 0) := hg
    refine r_iload d4_23 rfl ?_
    refine r_iloadN d4_25 rfl ?_
    refine r_icmp_ge d4_26 (fun hc26 => ?_) (fun hc26 => ?_)
    · refine r_aloadN d4_97 rfl rfl ?_
      refine r_iconst (0 : Int32) rfl d4_98 ?_
      refine r_putF (host := "") (Or.inl (hw _ (List.mem_of_getElem? (i := 26) rfl))) (X.2.2.2.2.1) (X.1) (Or.inl (hw _ (List.mem_of_getElem? (i := 27) rfl))) (hw _ (List.mem_of_getElem? (i := 7) rfl)) (ty := .int) (by decide) rfl rfl g1 d4_99 ?_
      intro h99 W99
      have R99 := own_R_next hw X W99
      have K99 := Keep.wr K W99 (Or.inl (List.mem_of_getElem? (i := 0) rfl))
      refine r_aloadN d4_102 rfl rfl ?_
      refine r_iconst (0 : Int32) rfl d4_103 ?_
      refine r_putF (host := "") (Or.inl (hw _ (List.mem_of_getElem? (i := 28) rfl))) (R99.2.2.2.2.2.1) (R99.1) (Or.inl (hw _ (List.mem_of_getElem? (i := 29) rfl))) (hw _ (List.mem_of_getElem? (i := 7) rfl)) (ty := .int) (by decide) rfl rfl g1 d4_104 ?_
      intro h104 W104
      have R104 := own_R_given hw R99 W104
      have K104 := Keep.wr K99 W104 (Or.inl (List.mem_of_getElem? (i := 0) rfl))
      refine r_aloadN d4_107 rfl rfl ?_
      refine r_iconst (-1 : Int32) rfl d4_108 ?_
      refine r_putF (host := "") (Or.inl (hw _ (List.mem_of_getElem? (i := 30) rfl))) (R104.2.2.2.2.2.2.1) (R104.1) (Or.inl (hw _ (List.mem_of_getElem? (i := 31) rfl))) (hw _ (List.mem_of_getElem? (i := 7) rfl)) (ty := .int) (by decide) rfl rfl g1 d4_109 ?_
      intro h109 W109
      have R109 := own_R_previous hw R104 W109
      have K109 := Keep.wr K104 W109 (Or.inl (List.mem_of_getElem? (i := 0) rfl))
      refine r_aloadN d4_112 rfl rfl ?_
      refine r_iconst (0 : Int32) rfl d4_113 ?_
      refine r_putF (host := "") (Or.inl (hw _ (List.mem_of_getElem? (i := 32) rfl))) (R109.2.2.2.2.2.2.2.1) (R109.1) (Or.inl (hw _ (List.mem_of_getElem? (i := 33) rfl))) (hw _ (List.mem_of_getElem? (i := 7) rfl)) (ty := .int) (by decide) rfl rfl g1 d4_114 ?_
      intro h114 W114
      have R114 := own_R_equal hw R109 W114
      have K114 := Keep.wr K109 W114 (Or.inl (List.mem_of_getElem? (i := 0) rfl))
      refine r_aloadN d4_117 rfl rfl ?_
      refine r_iconst (0 : Int32) rfl d4_118 ?_
      refine r_putF (host := "") (Or.inl (hw _ (List.mem_of_getElem? (i := 34) rfl))) (R114.2.2.2.2.2.2.2.2) (R114.1) (Or.inl (hw _ (List.mem_of_getElem? (i := 35) rfl))) (hw _ (List.mem_of_getElem? (i := 7) rfl)) (ty := .int) (by decide) rfl rfl g1 d4_119 ?_
      intro h119 W119
      have R119 := own_R_repeats hw R114 W119
      have K119 := Keep.wr K114 W119 (Or.inl (List.mem_of_getElem? (i := 0) rfl))
      refine r_ret d4_122 (by decide) (by decide) ?_
      rw [← eg]
      exact ⟨rfl, K119, R119⟩
    · exfalso; have := (n32_lt (a := i) (b := n) (by omega) (by omega)).mp hc26; omega
  | succ t ih =>
    intro i last run g h s6 hi hr hg h6 X B K
    refine r_iload d4_23 rfl ?_
    refine r_iloadN d4_25 rfl ?_
    refine r_icmp_ge d4_26 (fun hc26 => ?_) (fun hc26 => ?_)
    · exfalso; exact hc26 ((n32_lt (by omega) (by omega)).mpr (by omega))
    · have hle := own_Gle vs n 0 (-1) 0
      have hbl := own_bt_lt vs i
      refine r_aloadN d4_29 rfl rfl ?_
      refine r_iload d4_30 rfl ?_
      refine r_ldB (own_at vs i) B.1 (n32_nn (by omega)) (by rw [n32_clamp (by omega)]; exact own_get (by rw [B.2.1]; omega)) d4_32 ?_
      refine r_sipush (255 : Int32) rfl d4_33 ?_
      refine r_iand d4_36 ?_
      rw [own_bt_eq vs i]
      refine r_istore d4_37 [.val (.ref a1), .val (.ref b1), .val (.int n.toInt32), .val (.int last), .val (.int run.toInt32), .val (.int i.toInt32), .val (.int (own_bt vs i).toInt32)] (by rcases h6 with rfl | ⟨x, rfl⟩ <;> rfl) ?_
      refine r_iload d4_39 rfl ?_
      refine r_iconst (4 : Int32) rfl d4_41 ?_
      refine r_icmp_ne d4_42 (fun hc42 => ?_) (fun hc42 => ?_)
      · refine r_aloadN d4_62 rfl rfl ?_
        refine r_dup d4_63 rfl ?_
        refine r_getF (host := "") (Or.inl (hw _ (List.mem_of_getElem? (i := 24) rfl))) (v := (.int g.toInt32)) (X.2.2.2.1) d4_64 ?_
        refine r_iconst (1 : Int32) rfl d4_67 ?_
        refine r_iadd d4_68 ?_
        rw [show g.toInt32 + (1 : Int32) = (g + 1).toInt32 from n32_add g 1]
        refine r_putF (host := "") (Or.inl (hw _ (List.mem_of_getElem? (i := 24) rfl))) (X.2.2.2.1) (X.1) (Or.inl (hw _ (List.mem_of_getElem? (i := 25) rfl))) (hw _ (List.mem_of_getElem? (i := 7) rfl)) (ty := .int) (by decide) rfl rfl g1 d4_69 ?_
        intro h69 W69
        have R69 := own_R_gives hw X W69
        have K69 := Keep.wr K W69 (Or.inl (List.mem_of_getElem? (i := 0) rfl))
        refine r_iload d4_72 rfl ?_
        refine r_iloadN d4_74 rfl ?_
        refine r_icmp_ne d4_75 (fun hc75 => ?_) (fun hc75 => ?_)
        · refine r_iconst (1 : Int32) rfl d4_85 ?_
          refine r_istore d4_86 [.val (.ref a1), .val (.ref b1), .val (.int n.toInt32), .val (.int last), .val (.int (1 : Int32)), .val (.int i.toInt32), .val (.int (own_bt vs i).toInt32)] rfl ?_
          refine r_iload d4_88 rfl ?_
          refine r_istoreN d4_90 [.val (.ref a1), .val (.ref b1), .val (.int n.toInt32), .val (.int (own_bt vs i).toInt32), .val (.int (1 : Int32)), .val (.int i.toInt32), .val (.int (own_bt vs i).toInt32)] rfl ?_
          refine r_iinc d4_91 rfl (n32_add i 1) [.val (.ref a1), .val (.ref b1), .val (.int n.toInt32), .val (.int (own_bt vs i).toInt32), .val (.int (1 : Int32)), .val (.int (i + 1).toInt32), .val (.int (own_bt vs i).toInt32)] rfl ?_
          refine r_goto d4_94 ?_
          have er : ¬ run = 4 := fun q => hc42 (by rw [q]; rfl)
          have hG := own_Gn vs n i last run (by omega) er
          rw [if_neg hc75] at hG
          rw [show n - i = t + 1 by omega, show n - (i + 1) = t by omega] at hG
          exact ih (i + 1) (own_bt vs i).toInt32 1 (g + 1) h69 _ (by omega) (by omega) (by omega) (Or.inr ⟨_, rfl⟩) R69 (B.other W69 ne) K69
        · refine r_iload d4_78 rfl ?_
          refine r_iconst (1 : Int32) rfl d4_80 ?_
          refine r_iadd d4_81 ?_
          rw [show run.toInt32 + (1 : Int32) = (run + 1).toInt32 from n32_add run 1]
          refine r_goto d4_82 ?_
          refine r_istore d4_86 [.val (.ref a1), .val (.ref b1), .val (.int n.toInt32), .val (.int last), .val (.int (run + 1).toInt32), .val (.int i.toInt32), .val (.int (own_bt vs i).toInt32)] rfl ?_
          refine r_iload d4_88 rfl ?_
          refine r_istoreN d4_90 [.val (.ref a1), .val (.ref b1), .val (.int n.toInt32), .val (.int (own_bt vs i).toInt32), .val (.int (run + 1).toInt32), .val (.int i.toInt32), .val (.int (own_bt vs i).toInt32)] rfl ?_
          refine r_iinc d4_91 rfl (n32_add i 1) [.val (.ref a1), .val (.ref b1), .val (.int n.toInt32), .val (.int (own_bt vs i).toInt32), .val (.int (run + 1).toInt32), .val (.int (i + 1).toInt32), .val (.int (own_bt vs i).toInt32)] rfl ?_
          refine r_goto d4_94 ?_
          have er : ¬ run = 4 := fun q => hc42 (by rw [q]; rfl)
          have hG := own_Gn vs n i last run (by omega) er
          rw [if_pos hc75] at hG
          rw [show n - i = t + 1 by omega, show n - (i + 1) = t by omega] at hG
          exact ih (i + 1) (own_bt vs i).toInt32 (run + 1) (g + 1) h69 _ (by omega) (by omega) (by omega) (Or.inr ⟨_, rfl⟩) R69 (B.other W69 ne) K69
      · refine r_aloadN d4_45 rfl rfl ?_
        refine r_dup d4_46 rfl ?_
        refine r_getF (host := "") (Or.inl (hw _ (List.mem_of_getElem? (i := 24) rfl))) (v := (.int g.toInt32)) (X.2.2.2.1) d4_47 ?_
        refine r_iload d4_50 rfl ?_
        refine r_iadd d4_52 ?_
        rw [n32_add g (own_bt vs i)]
        refine r_putF (host := "") (Or.inl (hw _ (List.mem_of_getElem? (i := 24) rfl))) (X.2.2.2.1) (X.1) (Or.inl (hw _ (List.mem_of_getElem? (i := 25) rfl))) (hw _ (List.mem_of_getElem? (i := 7) rfl)) (ty := .int) (by decide) rfl rfl g1 d4_53 ?_
        intro h53 W53
        have R53 := own_R_gives hw X W53
        have K53 := Keep.wr K W53 (Or.inl (List.mem_of_getElem? (i := 0) rfl))
        refine r_iconst (0 : Int32) rfl d4_56 ?_
        refine r_istore d4_57 [.val (.ref a1), .val (.ref b1), .val (.int n.toInt32), .val (.int last), .val (.int (0 : Int32)), .val (.int i.toInt32), .val (.int (own_bt vs i).toInt32)] rfl ?_
        refine r_goto d4_59 ?_
        refine r_iinc d4_91 rfl (n32_add i 1) [.val (.ref a1), .val (.ref b1), .val (.int n.toInt32), .val (.int last), .val (.int (0 : Int32)), .val (.int (i + 1).toInt32), .val (.int (own_bt vs i).toInt32)] rfl ?_
        refine r_goto d4_94 ?_
        have er : run = 4 := (n32_eq (b := 4) (by omega) (by decide)).mp hc42
        subst er
        have hG := own_G4 vs n i last (by omega)
        rw [show n - i = t + 1 by omega, show n - (i + 1) = t by omega] at hG
        exact ih (i + 1) last 0 (g + own_bt vs i) h53 _ (by omega) (by omega) (by omega) (Or.inr ⟨_, rfl⟩) R53 (B.other W53 ne) K53
set_option maxRecDepth 65536 in
set_option maxHeartbeats 40000000 in
theorem ct4 {l : Launch} {Z : State} {a0 : Array Value} (hw : ∀ d ∈ tables_1, d.before a0 Z = true) {n0 : Nat} {h0 : Heap} (a1 b1 : Addr) (vs : List Int32) (n : Nat) (bv : Value) (ln gi nx gv pv eq rp : Int32) (X : own_R Z h0 a1 bv ln gi nx gv pv eq rp) (B : own_B Z h0 b1 vs) (hn : n ≤ 8) (ne : b1 ≠ a1) (g1 : n0 ≤ a1) : Ct l ⟨"com/example/quire/quire/core/Bzip2Runs", "hold", "([BI)V"⟩ prog_76_method_3_code 7 none [] ({ frames := 0, cells := 0, slots := 0, locals := 0 } : Room) Z n0 #[(.ref a1), (.ref b1), (.int n.toInt32)] h0 (fun v h => v = none ∧ Keep h0 h [a1] ∧ own_R Z h a1 (.ref b1) n.toInt32 (own_G vs n 0 (-1) 0).toInt32 0 0 (-1) 0 0) := by
  refine Ct.of (ls := [.val (.ref a1), .val (.ref b1), .val (.int n.toInt32), .unset, .unset, .unset, .unset]) pn4 (fun m => by first | (simp [entryFrame, mkF, argsToLocals, Value.category]; done) | rfl) ?_
  refine r_aloadN d4_0 rfl rfl ?_
  refine r_aloadN d4_1 rfl rfl ?_
  refine r_putF (host := "") (Or.inl (hw _ (List.mem_of_getElem? (i := 15) rfl))) (X.2.1) (X.1) (Or.inl (hw _ (List.mem_of_getElem? (i := 16) rfl))) (hw _ (List.mem_of_getElem? (i := 7) rfl)) (ty := (.array .byte)) (by decide) rfl rfl g1 d4_2 ?_
  intro h2 W2
  have R2 := own_R_bytes hw X W2
  have K2 := Keep.wr (Keep.refl h0 [a1]) W2 (Or.inl (List.mem_of_getElem? (i := 0) rfl))
  refine r_aloadN d4_5 rfl rfl ?_
  refine r_iloadN d4_6 rfl ?_
  refine r_putF (host := "") (Or.inl (hw _ (List.mem_of_getElem? (i := 22) rfl))) (R2.2.2.1) (R2.1) (Or.inl (hw _ (List.mem_of_getElem? (i := 23) rfl))) (hw _ (List.mem_of_getElem? (i := 7) rfl)) (ty := .int) (by decide) rfl rfl g1 d4_7 ?_
  intro h7 W7
  have R7 := own_R_length hw R2 W7
  have K7 := Keep.wr K2 W7 (Or.inl (List.mem_of_getElem? (i := 0) rfl))
  refine r_aloadN d4_10 rfl rfl ?_
  refine r_iconst (0 : Int32) rfl d4_11 ?_
  refine r_putF (host := "") (Or.inl (hw _ (List.mem_of_getElem? (i := 24) rfl))) (R7.2.2.2.1) (R7.1) (Or.inl (hw _ (List.mem_of_getElem? (i := 25) rfl))) (hw _ (List.mem_of_getElem? (i := 7) rfl)) (ty := .int) (by decide) rfl rfl g1 d4_12 ?_
  intro h12 W12
  have R12 := own_R_gives hw R7 W12
  have K12 := Keep.wr K7 W12 (Or.inl (List.mem_of_getElem? (i := 0) rfl))
  refine r_iconst (-1 : Int32) rfl d4_15 ?_
  refine r_istoreN d4_16 [.val (.ref a1), .val (.ref b1), .val (.int n.toInt32), .val (.int (-1 : Int32)), .unset, .unset, .unset] rfl ?_
  refine r_iconst (0 : Int32) rfl d4_17 ?_
  refine r_istore d4_18 [.val (.ref a1), .val (.ref b1), .val (.int n.toInt32), .val (.int (-1 : Int32)), .val (.int (0 : Int32)), .unset, .unset] rfl ?_
  refine r_iconst (0 : Int32) rfl d4_20 ?_
  refine r_istore d4_21 [.val (.ref a1), .val (.ref b1), .val (.int n.toInt32), .val (.int (-1 : Int32)), .val (.int (0 : Int32)), .val (.int (0 : Int32)), .unset] rfl ?_
  exact lp4 hw a1 b1 vs n nx gv pv eq rp hn ne g1 n 0 (-1) 0 0 h12 .unset (by omega) (by omega) (by omega) (Or.inl rfl) R12 (((B.other W2 ne).other W7 ne).other W12 ne) K12
theorem d5_0 : D prog_76_method_8_code 0 (.iload_n 3) 1 1 := ⟨by decide +kernel, rfl⟩
theorem d5_1 : D prog_76_method_8_code 1 (.aload_n 0) 1 2 := ⟨by decide +kernel, rfl⟩
theorem d5_2 : D prog_76_method_8_code 2 (.getfield 17) 3 5 := ⟨by decide +kernel, rfl⟩
theorem d5_5 : D prog_76_method_8_code 5 (.aload_n 0) 1 6 := ⟨by decide +kernel, rfl⟩
theorem d5_6 : D prog_76_method_8_code 6 (.getfield 23) 3 9 := ⟨by decide +kernel, rfl⟩
theorem d5_9 : D prog_76_method_8_code 9 (.isub) 1 10 := ⟨by decide +kernel, rfl⟩
theorem d5_10 : D prog_76_method_8_code 10 (.invokestatic 35) 3 13 := ⟨by decide +kernel, rfl⟩
theorem d5_13 : D prog_76_method_8_code 13 (.istore 4) 2 15 := ⟨by decide +kernel, rfl⟩
theorem d5_15 : D prog_76_method_8_code 15 (.iconst 0) 1 16 := ⟨by decide +kernel, rfl⟩
theorem d5_16 : D prog_76_method_8_code 16 (.istore 5) 2 18 := ⟨by decide +kernel, rfl⟩
theorem d5_18 : D prog_76_method_8_code 18 (.iload 5) 2 20 := ⟨by decide +kernel, rfl⟩
theorem d5_20 : D prog_76_method_8_code 20 (.iload 4) 2 22 := ⟨by decide +kernel, rfl⟩
theorem d5_22 : DB prog_76_method_8_code 22 (.if_icmp .ge) 230 25 252 := ⟨by decide +kernel, rfl, by decide, by decide⟩
theorem d5_25 : D prog_76_method_8_code 25 (.aload_n 0) 1 26 := ⟨by decide +kernel, rfl⟩
theorem d5_26 : D prog_76_method_8_code 26 (.getfield 32) 3 29 := ⟨by decide +kernel, rfl⟩
theorem d5_29 : DB prog_76_method_8_code 29 (.ifCond .le) 58 32 87 := ⟨by decide +kernel, rfl, by decide, by decide⟩
theorem d5_32 : D prog_76_method_8_code 32 (.aload_n 0) 1 33 := ⟨by decide +kernel, rfl⟩
theorem d5_33 : D prog_76_method_8_code 33 (.getfield 32) 3 36 := ⟨by decide +kernel, rfl⟩
theorem d5_36 : D prog_76_method_8_code 36 (.iload 4) 2 38 := ⟨by decide +kernel, rfl⟩
theorem d5_38 : D prog_76_method_8_code 38 (.iload 5) 2 40 := ⟨by decide +kernel, rfl⟩
theorem d5_40 : D prog_76_method_8_code 40 (.isub) 1 41 := ⟨by decide +kernel, rfl⟩
theorem d5_41 : D prog_76_method_8_code 41 (.invokestatic 35) 3 44 := ⟨by decide +kernel, rfl⟩
theorem d5_44 : D prog_76_method_8_code 44 (.istore 6) 2 46 := ⟨by decide +kernel, rfl⟩
theorem d5_46 : D prog_76_method_8_code 46 (.aload_n 1) 1 47 := ⟨by decide +kernel, rfl⟩
theorem d5_47 : D prog_76_method_8_code 47 (.iload_n 2) 1 48 := ⟨by decide +kernel, rfl⟩
theorem d5_48 : D prog_76_method_8_code 48 (.iload 5) 2 50 := ⟨by decide +kernel, rfl⟩
theorem d5_50 : D prog_76_method_8_code 50 (.iadd) 1 51 := ⟨by decide +kernel, rfl⟩
theorem d5_51 : D prog_76_method_8_code 51 (.iload_n 2) 1 52 := ⟨by decide +kernel, rfl⟩
theorem d5_52 : D prog_76_method_8_code 52 (.iload 5) 2 54 := ⟨by decide +kernel, rfl⟩
theorem d5_54 : D prog_76_method_8_code 54 (.iadd) 1 55 := ⟨by decide +kernel, rfl⟩
theorem d5_55 : D prog_76_method_8_code 55 (.iload 6) 2 57 := ⟨by decide +kernel, rfl⟩
theorem d5_57 : D prog_76_method_8_code 57 (.iadd) 1 58 := ⟨by decide +kernel, rfl⟩
theorem d5_58 : D prog_76_method_8_code 58 (.aload_n 0) 1 59 := ⟨by decide +kernel, rfl⟩
theorem d5_59 : D prog_76_method_8_code 59 (.getfield 26) 3 62 := ⟨by decide +kernel, rfl⟩
theorem d5_62 : D prog_76_method_8_code 62 (.i2b) 1 63 := ⟨by decide +kernel, rfl⟩
theorem d5_63 : D prog_76_method_8_code 63 (.invokestatic 41) 3 66 := ⟨by decide +kernel, rfl⟩
theorem d5_66 : D prog_76_method_8_code 66 (.iload 5) 2 68 := ⟨by decide +kernel, rfl⟩
theorem d5_68 : D prog_76_method_8_code 68 (.iload 6) 2 70 := ⟨by decide +kernel, rfl⟩
theorem d5_70 : D prog_76_method_8_code 70 (.iadd) 1 71 := ⟨by decide +kernel, rfl⟩
theorem d5_71 : D prog_76_method_8_code 71 (.istore 5) 2 73 := ⟨by decide +kernel, rfl⟩
theorem d5_73 : D prog_76_method_8_code 73 (.aload_n 0) 1 74 := ⟨by decide +kernel, rfl⟩
theorem d5_74 : D prog_76_method_8_code 74 (.dup) 1 75 := ⟨by decide +kernel, rfl⟩
theorem d5_75 : D prog_76_method_8_code 75 (.getfield 32) 3 78 := ⟨by decide +kernel, rfl⟩
theorem d5_78 : D prog_76_method_8_code 78 (.iload 6) 2 80 := ⟨by decide +kernel, rfl⟩
theorem d5_80 : D prog_76_method_8_code 80 (.isub) 1 81 := ⟨by decide +kernel, rfl⟩
theorem d5_81 : D prog_76_method_8_code 81 (.putfield 32) 3 84 := ⟨by decide +kernel, rfl⟩
theorem d5_84 : DB prog_76_method_8_code 84 (.goto) (-66) 87 18 := ⟨by decide +kernel, rfl, by decide, by decide⟩
theorem d5_87 : D prog_76_method_8_code 87 (.aload_n 0) 1 88 := ⟨by decide +kernel, rfl⟩
theorem d5_88 : D prog_76_method_8_code 88 (.getfield 29) 3 91 := ⟨by decide +kernel, rfl⟩
theorem d5_91 : D prog_76_method_8_code 91 (.iconst 4) 1 92 := ⟨by decide +kernel, rfl⟩
theorem d5_92 : DB prog_76_method_8_code 92 (.if_icmp .ne) 35 95 127 := ⟨by decide +kernel, rfl, by decide, by decide⟩
theorem d5_95 : D prog_76_method_8_code 95 (.aload_n 0) 1 96 := ⟨by decide +kernel, rfl⟩
theorem d5_96 : D prog_76_method_8_code 96 (.aload_n 0) 1 97 := ⟨by decide +kernel, rfl⟩
theorem d5_97 : D prog_76_method_8_code 97 (.getfield 7) 3 100 := ⟨by decide +kernel, rfl⟩
theorem d5_100 : D prog_76_method_8_code 100 (.aload_n 0) 1 101 := ⟨by decide +kernel, rfl⟩
theorem d5_101 : D prog_76_method_8_code 101 (.dup) 1 102 := ⟨by decide +kernel, rfl⟩
theorem d5_102 : D prog_76_method_8_code 102 (.getfield 20) 3 105 := ⟨by decide +kernel, rfl⟩
theorem d5_105 : D prog_76_method_8_code 105 (.dup_x1) 1 106 := ⟨by decide +kernel, rfl⟩
theorem d5_106 : D prog_76_method_8_code 106 (.iconst 1) 1 107 := ⟨by decide +kernel, rfl⟩
theorem d5_107 : D prog_76_method_8_code 107 (.iadd) 1 108 := ⟨by decide +kernel, rfl⟩
theorem d5_108 : D prog_76_method_8_code 108 (.putfield 20) 3 111 := ⟨by decide +kernel, rfl⟩
theorem d5_111 : D prog_76_method_8_code 111 (.baload) 1 112 := ⟨by decide +kernel, rfl⟩
theorem d5_112 : D prog_76_method_8_code 112 (.sipush 255) 3 115 := ⟨by decide +kernel, rfl⟩
theorem d5_115 : D prog_76_method_8_code 115 (.iand) 1 116 := ⟨by decide +kernel, rfl⟩
theorem d5_116 : D prog_76_method_8_code 116 (.putfield 32) 3 119 := ⟨by decide +kernel, rfl⟩
theorem d5_119 : D prog_76_method_8_code 119 (.aload_n 0) 1 120 := ⟨by decide +kernel, rfl⟩
theorem d5_120 : D prog_76_method_8_code 120 (.iconst 0) 1 121 := ⟨by decide +kernel, rfl⟩
theorem d5_121 : D prog_76_method_8_code 121 (.putfield 29) 3 124 := ⟨by decide +kernel, rfl⟩
theorem d5_124 : DB prog_76_method_8_code 124 (.goto) (-106) 127 18 := ⟨by decide +kernel, rfl, by decide, by decide⟩
theorem d5_127 : D prog_76_method_8_code 127 (.aload_n 0) 1 128 := ⟨by decide +kernel, rfl⟩
theorem d5_128 : D prog_76_method_8_code 128 (.getfield 20) 3 131 := ⟨by decide +kernel, rfl⟩
theorem d5_131 : D prog_76_method_8_code 131 (.istore 6) 2 133 := ⟨by decide +kernel, rfl⟩
theorem d5_133 : D prog_76_method_8_code 133 (.aload_n 0) 1 134 := ⟨by decide +kernel, rfl⟩
theorem d5_134 : D prog_76_method_8_code 134 (.getfield 20) 3 137 := ⟨by decide +kernel, rfl⟩
theorem d5_137 : D prog_76_method_8_code 137 (.iload 4) 2 139 := ⟨by decide +kernel, rfl⟩
theorem d5_139 : D prog_76_method_8_code 139 (.iload 5) 2 141 := ⟨by decide +kernel, rfl⟩
theorem d5_141 : D prog_76_method_8_code 141 (.isub) 1 142 := ⟨by decide +kernel, rfl⟩
theorem d5_142 : D prog_76_method_8_code 142 (.iadd) 1 143 := ⟨by decide +kernel, rfl⟩
theorem d5_143 : D prog_76_method_8_code 143 (.istore 7) 2 145 := ⟨by decide +kernel, rfl⟩
theorem d5_145 : D prog_76_method_8_code 145 (.aload_n 0) 1 146 := ⟨by decide +kernel, rfl⟩
theorem d5_146 : D prog_76_method_8_code 146 (.getfield 20) 3 149 := ⟨by decide +kernel, rfl⟩
theorem d5_149 : D prog_76_method_8_code 149 (.iload 7) 2 151 := ⟨by decide +kernel, rfl⟩
theorem d5_151 : DB prog_76_method_8_code 151 (.if_icmp .ge) 65 154 216 := ⟨by decide +kernel, rfl, by decide, by decide⟩
theorem d5_154 : D prog_76_method_8_code 154 (.aload_n 0) 1 155 := ⟨by decide +kernel, rfl⟩
theorem d5_155 : D prog_76_method_8_code 155 (.getfield 29) 3 158 := ⟨by decide +kernel, rfl⟩
theorem d5_158 : D prog_76_method_8_code 158 (.iconst 4) 1 159 := ⟨by decide +kernel, rfl⟩
theorem d5_159 : DB prog_76_method_8_code 159 (.if_icmp .ge) 57 162 216 := ⟨by decide +kernel, rfl, by decide, by decide⟩
theorem d5_162 : D prog_76_method_8_code 162 (.aload_n 0) 1 163 := ⟨by decide +kernel, rfl⟩
theorem d5_163 : D prog_76_method_8_code 163 (.getfield 7) 3 166 := ⟨by decide +kernel, rfl⟩
theorem d5_166 : D prog_76_method_8_code 166 (.aload_n 0) 1 167 := ⟨by decide +kernel, rfl⟩
theorem d5_167 : D prog_76_method_8_code 167 (.dup) 1 168 := ⟨by decide +kernel, rfl⟩
theorem d5_168 : D prog_76_method_8_code 168 (.getfield 20) 3 171 := ⟨by decide +kernel, rfl⟩
theorem d5_171 : D prog_76_method_8_code 171 (.dup_x1) 1 172 := ⟨by decide +kernel, rfl⟩
theorem d5_172 : D prog_76_method_8_code 172 (.iconst 1) 1 173 := ⟨by decide +kernel, rfl⟩
theorem d5_173 : D prog_76_method_8_code 173 (.iadd) 1 174 := ⟨by decide +kernel, rfl⟩
theorem d5_174 : D prog_76_method_8_code 174 (.putfield 20) 3 177 := ⟨by decide +kernel, rfl⟩
theorem d5_177 : D prog_76_method_8_code 177 (.baload) 1 178 := ⟨by decide +kernel, rfl⟩
theorem d5_178 : D prog_76_method_8_code 178 (.sipush 255) 3 181 := ⟨by decide +kernel, rfl⟩
theorem d5_181 : D prog_76_method_8_code 181 (.iand) 1 182 := ⟨by decide +kernel, rfl⟩
theorem d5_182 : D prog_76_method_8_code 182 (.istore 8) 2 184 := ⟨by decide +kernel, rfl⟩
theorem d5_184 : D prog_76_method_8_code 184 (.aload_n 0) 1 185 := ⟨by decide +kernel, rfl⟩
theorem d5_185 : D prog_76_method_8_code 185 (.iload 8) 2 187 := ⟨by decide +kernel, rfl⟩
theorem d5_187 : D prog_76_method_8_code 187 (.aload_n 0) 1 188 := ⟨by decide +kernel, rfl⟩
theorem d5_188 : D prog_76_method_8_code 188 (.getfield 26) 3 191 := ⟨by decide +kernel, rfl⟩
theorem d5_191 : DB prog_76_method_8_code 191 (.if_icmp .ne) 12 194 203 := ⟨by decide +kernel, rfl, by decide, by decide⟩
theorem d5_194 : D prog_76_method_8_code 194 (.aload_n 0) 1 195 := ⟨by decide +kernel, rfl⟩
theorem d5_195 : D prog_76_method_8_code 195 (.getfield 29) 3 198 := ⟨by decide +kernel, rfl⟩
theorem d5_198 : D prog_76_method_8_code 198 (.iconst 1) 1 199 := ⟨by decide +kernel, rfl⟩
theorem d5_199 : D prog_76_method_8_code 199 (.iadd) 1 200 := ⟨by decide +kernel, rfl⟩
theorem d5_200 : DB prog_76_method_8_code 200 (.goto) 4 203 204 := ⟨by decide +kernel, rfl, by decide, by decide⟩
theorem d5_203 : D prog_76_method_8_code 203 (.iconst 1) 1 204 := ⟨by decide +kernel, rfl⟩
theorem d5_204 : D prog_76_method_8_code 204 (.putfield 29) 3 207 := ⟨by decide +kernel, rfl⟩
theorem d5_207 : D prog_76_method_8_code 207 (.aload_n 0) 1 208 := ⟨by decide +kernel, rfl⟩
theorem d5_208 : D prog_76_method_8_code 208 (.iload 8) 2 210 := ⟨by decide +kernel, rfl⟩
theorem d5_210 : D prog_76_method_8_code 210 (.putfield 26) 3 213 := ⟨by decide +kernel, rfl⟩
theorem d5_213 : DB prog_76_method_8_code 213 (.goto) (-68) 216 145 := ⟨by decide +kernel, rfl, by decide, by decide⟩
theorem d5_216 : D prog_76_method_8_code 216 (.aload_n 0) 1 217 := ⟨by decide +kernel, rfl⟩
theorem d5_217 : D prog_76_method_8_code 217 (.getfield 7) 3 220 := ⟨by decide +kernel, rfl⟩
theorem d5_220 : D prog_76_method_8_code 220 (.iload 6) 2 222 := ⟨by decide +kernel, rfl⟩
theorem d5_222 : D prog_76_method_8_code 222 (.aload_n 1) 1 223 := ⟨by decide +kernel, rfl⟩
theorem d5_223 : D prog_76_method_8_code 223 (.iload_n 2) 1 224 := ⟨by decide +kernel, rfl⟩
theorem d5_224 : D prog_76_method_8_code 224 (.iload 5) 2 226 := ⟨by decide +kernel, rfl⟩
theorem d5_226 : D prog_76_method_8_code 226 (.iadd) 1 227 := ⟨by decide +kernel, rfl⟩
theorem d5_227 : D prog_76_method_8_code 227 (.aload_n 0) 1 228 := ⟨by decide +kernel, rfl⟩
theorem d5_228 : D prog_76_method_8_code 228 (.getfield 20) 3 231 := ⟨by decide +kernel, rfl⟩
theorem d5_231 : D prog_76_method_8_code 231 (.iload 6) 2 233 := ⟨by decide +kernel, rfl⟩
theorem d5_233 : D prog_76_method_8_code 233 (.isub) 1 234 := ⟨by decide +kernel, rfl⟩
theorem d5_234 : D prog_76_method_8_code 234 (.invokestatic 47) 3 237 := ⟨by decide +kernel, rfl⟩
theorem d5_237 : D prog_76_method_8_code 237 (.iload 5) 2 239 := ⟨by decide +kernel, rfl⟩
theorem d5_239 : D prog_76_method_8_code 239 (.aload_n 0) 1 240 := ⟨by decide +kernel, rfl⟩
theorem d5_240 : D prog_76_method_8_code 240 (.getfield 20) 3 243 := ⟨by decide +kernel, rfl⟩
theorem d5_243 : D prog_76_method_8_code 243 (.iload 6) 2 245 := ⟨by decide +kernel, rfl⟩
theorem d5_245 : D prog_76_method_8_code 245 (.isub) 1 246 := ⟨by decide +kernel, rfl⟩
theorem d5_246 : D prog_76_method_8_code 246 (.iadd) 1 247 := ⟨by decide +kernel, rfl⟩
theorem d5_247 : D prog_76_method_8_code 247 (.istore 5) 2 249 := ⟨by decide +kernel, rfl⟩
theorem d5_249 : DB prog_76_method_8_code 249 (.goto) (-231) 252 18 := ⟨by decide +kernel, rfl, by decide, by decide⟩
theorem d5_252 : D prog_76_method_8_code 252 (.aload_n 0) 1 253 := ⟨by decide +kernel, rfl⟩
theorem d5_253 : D prog_76_method_8_code 253 (.dup) 1 254 := ⟨by decide +kernel, rfl⟩
theorem d5_254 : D prog_76_method_8_code 254 (.getfield 23) 3 257 := ⟨by decide +kernel, rfl⟩
theorem d5_257 : D prog_76_method_8_code 257 (.iload 5) 2 259 := ⟨by decide +kernel, rfl⟩
theorem d5_259 : D prog_76_method_8_code 259 (.iadd) 1 260 := ⟨by decide +kernel, rfl⟩
theorem d5_260 : D prog_76_method_8_code 260 (.putfield 23) 3 263 := ⟨by decide +kernel, rfl⟩
theorem d5_263 : D prog_76_method_8_code 263 (.iload 5) 2 265 := ⟨by decide +kernel, rfl⟩
theorem d5_265 : D prog_76_method_8_code 265 (.ireturn) 1 266 := ⟨by decide +kernel, rfl⟩
theorem pd5_0 : parseMethodDescriptor "(II)I" = some ⟨[.int, .int], some .int⟩ := by decide +kernel
theorem pd5_1 : parseMethodDescriptor "([BIIB)V" = some ⟨[(.array .byte), .int, .int, .byte], none⟩ := by decide +kernel
theorem pn5 : plainFor (⟨"com/example/quire/quire/core/Bzip2Runs", "emit", "([BII)I"⟩ : MethodName) = true := by first | exact plainFor_of_name (by first | (simp [plainName, overriddenIn]; done) | decide +kernel) | exact Jvm.Free.JP.mathPlain rfl (by decide +kernel) | decide +kernel
set_option maxRecDepth 65536 in
set_option maxHeartbeats 40000000 in
theorem lp5 {l : Launch} {Z : State} {a0 : Array Value} (hw : ∀ d ∈ tables_1, d.before a0 Z = true) {n0 : Nat} {h0 : Heap} (a1 b1 o1 : Addr) (vs : List Int32) (n c gi mo : Nat) (hn : n ≤ 8) (hmo : mo ≤ 8) (hmg : mo ≤ gi) (hgi : gi ≤ 2040) (hab : b1 ≠ a1) (hoa : o1 ≠ a1) (hbo : b1 ≠ o1) (g1 : n0 ≤ a1) (go : n0 ≤ o1) : ∀ (t m nx eq rp : Nat) (pv : Int32) (h : Heap) (s6 s7 s8 : Slot), (mo - m) + (n - nx) < t → m ≤ mo → nx ≤ n → eq ≤ 4 → rp ≤ 255 → m + rp + own_G vs (n - nx) nx pv eq = gi → (s6 = .unset ∨ ∃ x : Int32, s6 = .val (.int x)) → (s7 = .unset ∨ ∃ x : Int32, s7 = .val (.int x)) → (s8 = .unset ∨ ∃ x : Int32, s8 = .val (.int x)) → own_R Z h a1 (.ref b1) n.toInt32 gi.toInt32 nx.toInt32 0 pv eq.toInt32 rp.toInt32 → own_B Z h b1 vs → own_O Z h o1 → Keep h0 h [a1, o1] → ORun l ⟨"com/example/quire/quire/core/Bzip2Runs", "emit", "([BII)I"⟩ prog_76_method_8_code 9 (some .int) ({ frames := 2, cells := 0, slots := 0, locals := 40 } : Room) Z n0 #[(.ref a1), (.ref o1), (.int (0 : Int32)), (.int c.toInt32)] (fun v h => ∃ (r nx' gv' pv' eq' rp' : Int32), v = some (.int r) ∧ Keep h0 h [a1, o1] ∧ own_R Z h a1 (.ref b1) n.toInt32 gi.toInt32 nx' gv' pv' eq' rp') h 0 0 18 [.val (.ref a1), .val (.ref o1), .val (.int (0 : Int32)), .val (.int c.toInt32), .val (.int mo.toInt32), .val (.int m.toInt32), s6, s7, s8] [] := by
  intro t
  induction t with
  | zero =>
    intro m nx eq rp pv h s6 s7 s8 hm; omega
  | succ t ih =>
    intro m nx eq rp pv h s6 s7 s8 ht hm hnx heq hrp hG h6 h7 h8 X B O K
    refine r_iload d5_18 rfl ?_
    refine r_iload d5_20 rfl ?_
    refine r_icmp_ge d5_22 (fun hc22 => ?_) (fun hc22 => ?_)
    · refine r_aloadN d5_252 rfl rfl ?_
      refine r_dup d5_253 rfl ?_
      refine r_getF (host := "") (Or.inl (hw _ (List.mem_of_getElem? (i := 28) rfl))) (v := (.int (0 : Int32))) (X.2.2.2.2.2.1) d5_254 ?_
      refine r_iload d5_257 rfl ?_
      refine r_iadd d5_259 ?_
      refine r_putF (host := "") (Or.inl (hw _ (List.mem_of_getElem? (i := 28) rfl))) (X.2.2.2.2.2.1) (X.1) (Or.inl (hw _ (List.mem_of_getElem? (i := 29) rfl))) (hw _ (List.mem_of_getElem? (i := 7) rfl)) (ty := .int) (by decide) rfl rfl g1 d5_260 ?_
      intro h260 W260
      have R260 := own_R_given hw X W260
      have K260 := Keep.wr K W260 (Or.inl (List.mem_of_getElem? (i := 0) rfl))
      have B260 := B.other W260 hab
      have O260 := O.other W260 hoa
      refine r_iload d5_263 rfl ?_
      exact r_iret d5_265 (by decide) (by decide) (⟨_, _, _, _, _, _, rfl, K260, R260⟩)
    · have hlt : m < mo := (n32_lt (a := m) (b := mo) (by omega) (by omega)).mp hc22
      refine r_aloadN d5_25 rfl rfl ?_
      refine r_getF (host := "") (Or.inl (hw _ (List.mem_of_getElem? (i := 34) rfl))) (v := (.int rp.toInt32)) (X.2.2.2.2.2.2.2.2) d5_26 ?_
      refine r_if_le d5_29 (fun hc29 => ?_) (fun hc29 => ?_)
      · have hr0 : rp = 0 := by have := own_ltN (a := 0) (b := rp) (by omega) (by omega) hc29; omega
        refine r_aloadN d5_87 rfl rfl ?_
        refine r_getF (host := "") (Or.inl (hw _ (List.mem_of_getElem? (i := 32) rfl))) (v := (.int eq.toInt32)) (X.2.2.2.2.2.2.2.1) d5_88 ?_
        refine r_iconst (4 : Int32) rfl d5_91 ?_
        refine r_icmp_ne d5_92 (fun hc92 => ?_) (fun hc92 => ?_)
        · have he4 : ¬ eq = 4 := fun q => hc92 (by rw [q]; rfl)
          subst hr0
          refine r_aloadN d5_127 rfl rfl ?_
          refine r_getF (host := "") (Or.inl (hw _ (List.mem_of_getElem? (i := 26) rfl))) (v := (.int nx.toInt32)) (X.2.2.2.2.1) d5_128 ?_
          refine r_istore d5_131 [.val (.ref a1), .val (.ref o1), .val (.int (0 : Int32)), .val (.int c.toInt32), .val (.int mo.toInt32), .val (.int m.toInt32), .val (.int nx.toInt32), s7, s8] (by rcases h6 with rfl | ⟨x, rfl⟩ <;> rfl) ?_
          refine r_aloadN d5_133 rfl rfl ?_
          refine r_getF (host := "") (Or.inl (hw _ (List.mem_of_getElem? (i := 26) rfl))) (v := (.int nx.toInt32)) (X.2.2.2.2.1) d5_134 ?_
          refine r_iload d5_137 rfl ?_
          refine r_iload d5_139 rfl ?_
          refine r_isub d5_141 ?_
          rw [n32_sub (a := mo) (b := m) (by omega)]
          refine r_iadd d5_142 ?_
          rw [n32_add nx (mo - m)]
          refine r_istore d5_143 [.val (.ref a1), .val (.ref o1), .val (.int (0 : Int32)), .val (.int c.toInt32), .val (.int mo.toInt32), .val (.int m.toInt32), .val (.int nx.toInt32), .val (.int (nx + (mo - m)).toInt32), s8] (by rcases h7 with rfl | ⟨x, rfl⟩ <;> rfl) ?_
          have inner : ∀ (u j ej : Nat) (pj : Int32) (h : Heap) (r8 : Slot), (nx + (mo - m)) - j < u → nx ≤ j → j ≤ nx + (mo - m) → j ≤ n → ej ≤ 4 → (nx < j ∨ ej < 4) → m + (j - nx) + own_G vs (n - j) j pj ej = gi → (r8 = .unset ∨ ∃ x : Int32, r8 = .val (.int x)) → own_R Z h a1 (.ref b1) n.toInt32 gi.toInt32 j.toInt32 0 pj ej.toInt32 (Nat.toInt32 0) → own_B Z h b1 vs → own_O Z h o1 → Keep h0 h [a1, o1] → ORun l ⟨"com/example/quire/quire/core/Bzip2Runs", "emit", "([BII)I"⟩ prog_76_method_8_code 9 (some .int) ({ frames := 2, cells := 0, slots := 0, locals := 40 } : Room) Z n0 #[(.ref a1), (.ref o1), (.int (0 : Int32)), (.int c.toInt32)] (fun v h => ∃ (r nx' gv' pv' eq' rp' : Int32), v = some (.int r) ∧ Keep h0 h [a1, o1] ∧ own_R Z h a1 (.ref b1) n.toInt32 gi.toInt32 nx' gv' pv' eq' rp') h 0 0 145 [.val (.ref a1), .val (.ref o1), .val (.int (0 : Int32)), .val (.int c.toInt32), .val (.int mo.toInt32), .val (.int m.toInt32), .val (.int nx.toInt32), .val (.int (nx + (mo - m)).toInt32), r8] [] := by
            intro u
            induction u with
            | zero => intro j ej pj h r8 hu; omega
            | succ u ihu =>
              intro j ej pj h r8 hu hj1 hj2 hj3 hej hor hGj hr8 X B O K
              refine r_aloadN d5_145 rfl rfl ?_
              refine r_getF (host := "") (Or.inl (hw _ (List.mem_of_getElem? (i := 26) rfl))) (v := (.int j.toInt32)) (X.2.2.2.2.1) d5_146 ?_
              refine r_iload d5_149 rfl ?_
              refine r_icmp_ge d5_151 (fun hc151 => ?_) (fun hc151 => ?_)
              · have hjx : nx < j := by have := own_ltN (a := j) (b := nx + (mo - m)) (by omega) (by omega) hc151; omega
                refine r_aloadN d5_216 rfl rfl ?_
                refine r_getF (host := "") (Or.inl (hw _ (List.mem_of_getElem? (i := 15) rfl))) (v := (.ref b1)) (X.2.1) d5_217 ?_
                refine r_iload d5_220 rfl ?_
                refine r_aloadN d5_222 rfl rfl ?_
                refine r_iloadN d5_223 rfl ?_
                refine r_iload d5_224 rfl ?_
                refine r_iadd d5_226 ?_
                rw [Int32.zero_add]
                refine r_aloadN d5_227 rfl rfl ?_
                refine r_getF (host := "") (Or.inl (hw _ (List.mem_of_getElem? (i := 26) rfl))) (v := (.int j.toInt32)) (X.2.2.2.2.1) d5_228 ?_
                refine r_iload d5_231 rfl ?_
                refine r_isub d5_233 ?_
                rw [n32_sub (a := j) (b := nx) (by omega)]
                refine r_copyB (hw _ (List.mem_of_getElem? (i := 73) rfl)) (hw _ (List.mem_of_getElem? (i := 76) rfl)) (hw _ (List.mem_of_getElem? (i := 74) rfl)) (hw _ (List.mem_of_getElem? (i := 75) rfl)) B O (n32_nn (by omega)) (n32_nn (by omega)) (n32_nn (by omega)) (by rw [n32_clamp (by omega), n32_clamp (by omega)]; omega) (by rw [n32_clamp (by omega), n32_clamp (by omega)]; omega) go d5_234 rfl (by decide) 0 rfl (by decide +kernel) ?_
                rintro h234 ⟨K234', O234⟩
                have R234 := X.keep K234' (ninS hoa.symm nin0)
                have B234 := B.keep K234' (ninS hbo nin0)
                have K234 := Keep.trans K K234' (fun x q => Or.inl (by cases List.mem_singleton.mp q; simp))
                show ORun _ _ _ _ _ _ _ _ _ _ h234 0 0 237 [.val (.ref a1), .val (.ref o1), .val (.int (0 : Int32)), .val (.int c.toInt32), .val (.int mo.toInt32), .val (.int m.toInt32), .val (.int nx.toInt32), .val (.int (nx + (mo - m)).toInt32), r8] []
                refine r_iload d5_237 rfl ?_
                refine r_aloadN d5_239 rfl rfl ?_
                refine r_getF (host := "") (Or.inl (hw _ (List.mem_of_getElem? (i := 26) rfl))) (v := (.int j.toInt32)) (R234.2.2.2.2.1) d5_240 ?_
                refine r_iload d5_243 rfl ?_
                refine r_isub d5_245 ?_
                rw [n32_sub (a := j) (b := nx) (by omega)]
                refine r_iadd d5_246 ?_
                rw [n32_add m (j - nx)]
                refine r_istore d5_247 [.val (.ref a1), .val (.ref o1), .val (.int (0 : Int32)), .val (.int c.toInt32), .val (.int mo.toInt32), .val (.int (m + (j - nx)).toInt32), .val (.int nx.toInt32), .val (.int (nx + (mo - m)).toInt32), r8] rfl ?_
                refine r_goto d5_249 ?_
                exact ih (m + (j - nx)) j ej 0 pj h234 _ _ _ (by omega) (by omega) (by omega) (by omega) (by omega) (by omega) (Or.inr ⟨_, rfl⟩) (Or.inr ⟨_, rfl⟩) hr8 R234 B234 O234 K234
              · have hjs : j < nx + (mo - m) := (n32_lt (a := j) (b := nx + (mo - m)) (by omega) (by omega)).mp hc151
                have hjn : j < n := own_Gpos (vs := vs) (last := pj) (run := ej) (by omega)
                refine r_aloadN d5_154 rfl rfl ?_
                refine r_getF (host := "") (Or.inl (hw _ (List.mem_of_getElem? (i := 32) rfl))) (v := (.int ej.toInt32)) (X.2.2.2.2.2.2.2.1) d5_155 ?_
                refine r_iconst (4 : Int32) rfl d5_158 ?_
                refine r_icmp_ge d5_159 (fun hc159 => ?_) (fun hc159 => ?_)
                · have hjx : nx < j := by have := own_ltN (a := ej) (b := 4) (by omega) (by omega) hc159; omega
                  refine r_aloadN d5_216 rfl rfl ?_
                  refine r_getF (host := "") (Or.inl (hw _ (List.mem_of_getElem? (i := 15) rfl))) (v := (.ref b1)) (X.2.1) d5_217 ?_
                  refine r_iload d5_220 rfl ?_
                  refine r_aloadN d5_222 rfl rfl ?_
                  refine r_iloadN d5_223 rfl ?_
                  refine r_iload d5_224 rfl ?_
                  refine r_iadd d5_226 ?_
                  rw [Int32.zero_add]
                  refine r_aloadN d5_227 rfl rfl ?_
                  refine r_getF (host := "") (Or.inl (hw _ (List.mem_of_getElem? (i := 26) rfl))) (v := (.int j.toInt32)) (X.2.2.2.2.1) d5_228 ?_
                  refine r_iload d5_231 rfl ?_
                  refine r_isub d5_233 ?_
                  rw [n32_sub (a := j) (b := nx) (by omega)]
                  refine r_copyB (hw _ (List.mem_of_getElem? (i := 73) rfl)) (hw _ (List.mem_of_getElem? (i := 76) rfl)) (hw _ (List.mem_of_getElem? (i := 74) rfl)) (hw _ (List.mem_of_getElem? (i := 75) rfl)) B O (n32_nn (by omega)) (n32_nn (by omega)) (n32_nn (by omega)) (by rw [n32_clamp (by omega), n32_clamp (by omega)]; omega) (by rw [n32_clamp (by omega), n32_clamp (by omega)]; omega) go d5_234 rfl (by decide) 0 rfl (by decide +kernel) ?_
                  rintro h234 ⟨K234', O234⟩
                  have R234 := X.keep K234' (ninS hoa.symm nin0)
                  have B234 := B.keep K234' (ninS hbo nin0)
                  have K234 := Keep.trans K K234' (fun x q => Or.inl (by cases List.mem_singleton.mp q; simp))
                  show ORun _ _ _ _ _ _ _ _ _ _ h234 0 0 237 [.val (.ref a1), .val (.ref o1), .val (.int (0 : Int32)), .val (.int c.toInt32), .val (.int mo.toInt32), .val (.int m.toInt32), .val (.int nx.toInt32), .val (.int (nx + (mo - m)).toInt32), r8] []
                  refine r_iload d5_237 rfl ?_
                  refine r_aloadN d5_239 rfl rfl ?_
                  refine r_getF (host := "") (Or.inl (hw _ (List.mem_of_getElem? (i := 26) rfl))) (v := (.int j.toInt32)) (R234.2.2.2.2.1) d5_240 ?_
                  refine r_iload d5_243 rfl ?_
                  refine r_isub d5_245 ?_
                  rw [n32_sub (a := j) (b := nx) (by omega)]
                  refine r_iadd d5_246 ?_
                  rw [n32_add m (j - nx)]
                  refine r_istore d5_247 [.val (.ref a1), .val (.ref o1), .val (.int (0 : Int32)), .val (.int c.toInt32), .val (.int mo.toInt32), .val (.int (m + (j - nx)).toInt32), .val (.int nx.toInt32), .val (.int (nx + (mo - m)).toInt32), r8] rfl ?_
                  refine r_goto d5_249 ?_
                  exact ih (m + (j - nx)) j ej 0 pj h234 _ _ _ (by omega) (by omega) (by omega) (by omega) (by omega) (by omega) (Or.inr ⟨_, rfl⟩) (Or.inr ⟨_, rfl⟩) hr8 R234 B234 O234 K234
                · have hej4 : ej < 4 := (n32_lt (a := ej) (b := 4) (by omega) (by omega)).mp hc159
                  have hbl := own_bt_lt vs j
                  refine r_aloadN d5_162 rfl rfl ?_
                  refine r_getF (host := "") (Or.inl (hw _ (List.mem_of_getElem? (i := 15) rfl))) (v := (.ref b1)) (X.2.1) d5_163 ?_
                  refine r_aloadN d5_166 rfl rfl ?_
                  refine r_dup d5_167 rfl ?_
                  refine r_getF (host := "") (Or.inl (hw _ (List.mem_of_getElem? (i := 26) rfl))) (v := (.int j.toInt32)) (X.2.2.2.2.1) d5_168 ?_
                  refine r_dupX1 d5_171 rfl rfl ?_
                  refine r_iconst (1 : Int32) rfl d5_172 ?_
                  refine r_iadd d5_173 ?_
                  rw [show j.toInt32 + (1 : Int32) = (j + 1).toInt32 from n32_add j 1]
                  refine r_putF (host := "") (Or.inl (hw _ (List.mem_of_getElem? (i := 26) rfl))) (X.2.2.2.2.1) (X.1) (Or.inl (hw _ (List.mem_of_getElem? (i := 27) rfl))) (hw _ (List.mem_of_getElem? (i := 7) rfl)) (ty := .int) (by decide) rfl rfl g1 d5_174 ?_
                  intro h174 W174
                  have R174 := own_R_next hw X W174
                  have K174 := Keep.wr K W174 (Or.inl (List.mem_of_getElem? (i := 0) rfl))
                  have B174 := B.other W174 hab
                  have O174 := O.other W174 hoa
                  refine r_ldB (own_at vs j) B174.1 (n32_nn (by omega)) (by rw [n32_clamp (by omega)]; exact own_get (by rw [B174.2.1]; omega)) d5_177 ?_
                  refine r_sipush (255 : Int32) rfl d5_178 ?_
                  refine r_iand d5_181 ?_
                  rw [own_bt_eq vs j]
                  refine r_istore d5_182 [.val (.ref a1), .val (.ref o1), .val (.int (0 : Int32)), .val (.int c.toInt32), .val (.int mo.toInt32), .val (.int m.toInt32), .val (.int nx.toInt32), .val (.int (nx + (mo - m)).toInt32), .val (.int (own_bt vs j).toInt32)] (by rcases hr8 with rfl | ⟨x, rfl⟩ <;> rfl) ?_
                  refine r_aloadN d5_184 rfl rfl ?_
                  refine r_iload d5_185 rfl ?_
                  refine r_aloadN d5_187 rfl rfl ?_
                  refine r_getF (host := "") (Or.inl (hw _ (List.mem_of_getElem? (i := 30) rfl))) (v := (.int pj)) (R174.2.2.2.2.2.2.1) d5_188 ?_
                  refine r_icmp_ne d5_191 (fun hc191 => ?_) (fun hc191 => ?_)
                  · refine r_iconst (1 : Int32) rfl d5_203 ?_
                    refine r_putF (host := "") (Or.inl (hw _ (List.mem_of_getElem? (i := 32) rfl))) (R174.2.2.2.2.2.2.2.1) (R174.1) (Or.inl (hw _ (List.mem_of_getElem? (i := 33) rfl))) (hw _ (List.mem_of_getElem? (i := 7) rfl)) (ty := .int) (by decide) rfl rfl g1 d5_204 ?_
                    intro h204 W204
                    have R204 := own_R_equal hw R174 W204
                    have K204 := Keep.wr K174 W204 (Or.inl (List.mem_of_getElem? (i := 0) rfl))
                    have B204 := B174.other W204 hab
                    have O204 := O174.other W204 hoa
                    refine r_aloadN d5_207 rfl rfl ?_
                    refine r_iload d5_208 rfl ?_
                    refine r_putF (host := "") (Or.inl (hw _ (List.mem_of_getElem? (i := 30) rfl))) (R204.2.2.2.2.2.2.1) (R204.1) (Or.inl (hw _ (List.mem_of_getElem? (i := 31) rfl))) (hw _ (List.mem_of_getElem? (i := 7) rfl)) (ty := .int) (by decide) rfl rfl g1 d5_210 ?_
                    intro h210 W210
                    have R210 := own_R_previous hw R204 W210
                    have K210 := Keep.wr K204 W210 (Or.inl (List.mem_of_getElem? (i := 0) rfl))
                    have B210 := B204.other W210 hab
                    have O210 := O204.other W210 hoa
                    refine r_goto d5_213 ?_
                    have hGn := own_Gn vs n j pj ej hjn (by omega)
                    rw [if_neg hc191] at hGn
                    exact ihu (j + 1) 1 _ h210 _ (by omega) (by omega) (by omega) (by omega) (by omega) (Or.inl (by omega)) (by omega) (Or.inr ⟨_, rfl⟩) R210 B210 O210 K210
                  · refine r_aloadN d5_194 rfl rfl ?_
                    refine r_getF (host := "") (Or.inl (hw _ (List.mem_of_getElem? (i := 32) rfl))) (v := (.int ej.toInt32)) (R174.2.2.2.2.2.2.2.1) d5_195 ?_
                    refine r_iconst (1 : Int32) rfl d5_198 ?_
                    refine r_iadd d5_199 ?_
                    rw [show ej.toInt32 + (1 : Int32) = (ej + 1).toInt32 from n32_add ej 1]
                    refine r_goto d5_200 ?_
                    refine r_putF (host := "") (Or.inl (hw _ (List.mem_of_getElem? (i := 32) rfl))) (R174.2.2.2.2.2.2.2.1) (R174.1) (Or.inl (hw _ (List.mem_of_getElem? (i := 33) rfl))) (hw _ (List.mem_of_getElem? (i := 7) rfl)) (ty := .int) (by decide) rfl rfl g1 d5_204 ?_
                    intro h204 W204
                    have R204 := own_R_equal hw R174 W204
                    have K204 := Keep.wr K174 W204 (Or.inl (List.mem_of_getElem? (i := 0) rfl))
                    have B204 := B174.other W204 hab
                    have O204 := O174.other W204 hoa
                    refine r_aloadN d5_207 rfl rfl ?_
                    refine r_iload d5_208 rfl ?_
                    refine r_putF (host := "") (Or.inl (hw _ (List.mem_of_getElem? (i := 30) rfl))) (R204.2.2.2.2.2.2.1) (R204.1) (Or.inl (hw _ (List.mem_of_getElem? (i := 31) rfl))) (hw _ (List.mem_of_getElem? (i := 7) rfl)) (ty := .int) (by decide) rfl rfl g1 d5_210 ?_
                    intro h210 W210
                    have R210 := own_R_previous hw R204 W210
                    have K210 := Keep.wr K204 W210 (Or.inl (List.mem_of_getElem? (i := 0) rfl))
                    have B210 := B204.other W210 hab
                    have O210 := O204.other W210 hoa
                    refine r_goto d5_213 ?_
                    have hGn := own_Gn vs n j pj ej hjn (by omega)
                    rw [if_pos hc191] at hGn
                    exact ihu (j + 1) (ej + 1) _ h210 _ (by omega) (by omega) (by omega) (by omega) (by omega) (Or.inl (by omega)) (by omega) (Or.inr ⟨_, rfl⟩) R210 B210 O210 K210
          exact inner (mo - m + 1) nx eq pv h _ (by omega) (by omega) (by omega) (by omega) (by omega) (Or.inr (by omega)) (by omega) h8 X B O K
        · have he4 : eq = 4 := (n32_eq (b := 4) (by omega) (by decide)).mp hc92
          have hnn : nx < n := own_Gpos (vs := vs) (last := pv) (run := eq) (by omega)
          have hG4 := own_G4 vs n nx pv hnn
          have hbl := own_bt_lt vs nx
          refine r_aloadN d5_95 rfl rfl ?_
          refine r_aloadN d5_96 rfl rfl ?_
          refine r_getF (host := "") (Or.inl (hw _ (List.mem_of_getElem? (i := 15) rfl))) (v := (.ref b1)) (X.2.1) d5_97 ?_
          refine r_aloadN d5_100 rfl rfl ?_
          refine r_dup d5_101 rfl ?_
          refine r_getF (host := "") (Or.inl (hw _ (List.mem_of_getElem? (i := 26) rfl))) (v := (.int nx.toInt32)) (X.2.2.2.2.1) d5_102 ?_
          refine r_dupX1 d5_105 rfl rfl ?_
          refine r_iconst (1 : Int32) rfl d5_106 ?_
          refine r_iadd d5_107 ?_
          rw [show nx.toInt32 + (1 : Int32) = (nx + 1).toInt32 from n32_add nx 1]
          refine r_putF (host := "") (Or.inl (hw _ (List.mem_of_getElem? (i := 26) rfl))) (X.2.2.2.2.1) (X.1) (Or.inl (hw _ (List.mem_of_getElem? (i := 27) rfl))) (hw _ (List.mem_of_getElem? (i := 7) rfl)) (ty := .int) (by decide) rfl rfl g1 d5_108 ?_
          intro h108 W108
          have R108 := own_R_next hw X W108
          have K108 := Keep.wr K W108 (Or.inl (List.mem_of_getElem? (i := 0) rfl))
          have B108 := B.other W108 hab
          have O108 := O.other W108 hoa
          refine r_ldB (own_at vs nx) B108.1 (n32_nn (by omega)) (by rw [n32_clamp (by omega)]; exact own_get (by rw [B108.2.1]; omega)) d5_111 ?_
          refine r_sipush (255 : Int32) rfl d5_112 ?_
          refine r_iand d5_115 ?_
          rw [own_bt_eq vs nx]
          refine r_putF (host := "") (Or.inl (hw _ (List.mem_of_getElem? (i := 34) rfl))) (R108.2.2.2.2.2.2.2.2) (R108.1) (Or.inl (hw _ (List.mem_of_getElem? (i := 35) rfl))) (hw _ (List.mem_of_getElem? (i := 7) rfl)) (ty := .int) (by decide) rfl rfl g1 d5_116 ?_
          intro h116 W116
          have R116 := own_R_repeats hw R108 W116
          have K116 := Keep.wr K108 W116 (Or.inl (List.mem_of_getElem? (i := 0) rfl))
          have B116 := B108.other W116 hab
          have O116 := O108.other W116 hoa
          refine r_aloadN d5_119 rfl rfl ?_
          refine r_iconst (0 : Int32) rfl d5_120 ?_
          refine r_putF (host := "") (Or.inl (hw _ (List.mem_of_getElem? (i := 32) rfl))) (R116.2.2.2.2.2.2.2.1) (R116.1) (Or.inl (hw _ (List.mem_of_getElem? (i := 33) rfl))) (hw _ (List.mem_of_getElem? (i := 7) rfl)) (ty := .int) (by decide) rfl rfl g1 d5_121 ?_
          intro h121 W121
          have R121 := own_R_equal hw R116 W121
          have K121 := Keep.wr K116 W121 (Or.inl (List.mem_of_getElem? (i := 0) rfl))
          have B121 := B116.other W121 hab
          have O121 := O116.other W121 hoa
          refine r_goto d5_124 ?_
          rw [he4] at hG
          rw [hG4] at hG
          exact ih m (nx + 1) 0 (own_bt vs nx) pv h121 _ _ _ (by omega) (by omega) (by omega) (by omega) (by omega) (by omega) h6 h7 h8 R121 B121 O121 K121
      · have hr1 : 0 < rp := (n32_lt (a := 0) (by omega) (by omega)).mp hc29
        refine r_aloadN d5_32 rfl rfl ?_
        refine r_getF (host := "") (Or.inl (hw _ (List.mem_of_getElem? (i := 34) rfl))) (v := (.int rp.toInt32)) (X.2.2.2.2.2.2.2.2) d5_33 ?_
        refine r_iload d5_36 rfl ?_
        refine r_iload d5_38 rfl ?_
        refine r_isub d5_40 ?_
        rw [n32_sub (a := mo) (b := m) (by omega)]
        refine r_staticP [(.int rp.toInt32), (.int (mo - m).toInt32)] [] rfl pd5_0 rfl (hw _ (List.mem_of_getElem? (i := 41) rfl)) (hw _ (List.mem_of_getElem? (i := 42) rfl)) (hw _ (List.mem_of_getElem? (i := 43) rfl)) (hw _ (List.mem_of_getElem? (i := 44) rfl)) (by decide) (w := (.int (min rp (mo - m)).toInt32)) (R' := ({ frames := 0, cells := 0, slots := 0, locals := 0 } : Room)) (by have q := ct6 (l := l) (n0 := n0) (h0 := h) hw rp.toInt32 (mo - m).toInt32; rw [own_minN (by omega) (by omega)] at q; exact q) d5_41 rfl (by decide) 0 rfl (by decide) rfl rfl (by decide) (by decide) ?_
        obtain ⟨k, e_k⟩ : ∃ k, k = min rp (mo - m) := ⟨_, rfl⟩
        rw [← e_k]
        have hk : k ≤ rp ∧ k ≤ mo - m ∧ 0 < k := by omega
        refine r_istore d5_44 [.val (.ref a1), .val (.ref o1), .val (.int (0 : Int32)), .val (.int c.toInt32), .val (.int mo.toInt32), .val (.int m.toInt32), .val (.int k.toInt32), s7, s8] (by rcases h6 with rfl | ⟨x, rfl⟩ <;> rfl) ?_
        refine r_aloadN d5_46 rfl rfl ?_
        refine r_iloadN d5_47 rfl ?_
        refine r_iload d5_48 rfl ?_
        refine r_iadd d5_50 ?_
        rw [Int32.zero_add]
        refine r_iloadN d5_51 rfl ?_
        refine r_iload d5_52 rfl ?_
        refine r_iadd d5_54 ?_
        rw [Int32.zero_add]
        refine r_iload d5_55 rfl ?_
        refine r_iadd d5_57 ?_
        rw [n32_add m k]
        refine r_aloadN d5_58 rfl rfl ?_
        refine r_getF (host := "") (Or.inl (hw _ (List.mem_of_getElem? (i := 30) rfl))) (v := (.int pv)) (X.2.2.2.2.2.2.1) d5_59 ?_
        refine r_i2b d5_62 ?_
        refine r_static [(.ref o1), (.int m.toInt32), (.int (m + k).toInt32), (.int (pv.toInt8.toInt32))] [] rfl pd5_1 rfl (hw _ (List.mem_of_getElem? (i := 80) rfl)) (hw _ (List.mem_of_getElem? (i := 81) rfl)) (hw _ (List.mem_of_getElem? (i := 82) rfl)) (hw _ (List.mem_of_getElem? (i := 83) rfl)) (by decide) (R' := ({ frames := 1, cells := 0, slots := 0, locals := 14 } : Room)) (ct14 hw o1 m (m + k) (pv.toInt8.toInt32) O (by omega) (by omega) go) d5_63 rfl (by decide) 0 rfl (by decide) (by decide) (by decide) ?_
        rintro _ h63 ⟨rfl, K63', O63⟩
        have R63 := X.keep K63' (ninS hoa.symm nin0)
        have B63 := B.keep K63' (ninS hbo nin0)
        have K63 := Keep.trans K K63' (fun x q => Or.inl (by cases List.mem_singleton.mp q; simp))
        show ORun _ _ _ _ _ _ _ _ _ _ h63 0 0 66 [.val (.ref a1), .val (.ref o1), .val (.int (0 : Int32)), .val (.int c.toInt32), .val (.int mo.toInt32), .val (.int m.toInt32), .val (.int k.toInt32), s7, s8] []
        refine r_iload d5_66 rfl ?_
        refine r_iload d5_68 rfl ?_
        refine r_iadd d5_70 ?_
        rw [n32_add m k]
        refine r_istore d5_71 [.val (.ref a1), .val (.ref o1), .val (.int (0 : Int32)), .val (.int c.toInt32), .val (.int mo.toInt32), .val (.int (m + k).toInt32), .val (.int k.toInt32), s7, s8] rfl ?_
        refine r_aloadN d5_73 rfl rfl ?_
        refine r_dup d5_74 rfl ?_
        refine r_getF (host := "") (Or.inl (hw _ (List.mem_of_getElem? (i := 34) rfl))) (v := (.int rp.toInt32)) (R63.2.2.2.2.2.2.2.2) d5_75 ?_
        refine r_iload d5_78 rfl ?_
        refine r_isub d5_80 ?_
        rw [n32_sub (a := rp) (b := k) (by omega)]
        refine r_putF (host := "") (Or.inl (hw _ (List.mem_of_getElem? (i := 34) rfl))) (R63.2.2.2.2.2.2.2.2) (R63.1) (Or.inl (hw _ (List.mem_of_getElem? (i := 35) rfl))) (hw _ (List.mem_of_getElem? (i := 7) rfl)) (ty := .int) (by decide) rfl rfl g1 d5_81 ?_
        intro h81 W81
        have R81 := own_R_repeats hw R63 W81
        have K81 := Keep.wr K63 W81 (Or.inl (List.mem_of_getElem? (i := 0) rfl))
        have B81 := B63.other W81 hab
        have O81 := O63.other W81 hoa
        refine r_goto d5_84 ?_
        exact ih (m + k) nx eq (rp - k) pv h81 _ _ _ (by omega) (by omega) (by omega) (by omega) (by omega) (by omega) (Or.inr ⟨_, rfl⟩) h7 h8 R81 B81 O81 K81
set_option maxRecDepth 65536 in
set_option maxHeartbeats 40000000 in
theorem ct5 {l : Launch} {Z : State} {a0 : Array Value} (hw : ∀ d ∈ tables_1, d.before a0 Z = true) {n0 : Nat} {h0 : Heap} (a1 b1 o1 : Addr) (vs : List Int32) (n c gi : Nat) (hc : c ≤ 8) (hn : n ≤ 8) (hgi : gi = (own_G vs n 0 (-1) 0)) (X : own_R Z h0 a1 (.ref b1) n.toInt32 gi.toInt32 0 0 (-1) 0 0) (B : own_B Z h0 b1 vs) (O : own_O Z h0 o1) (hab : b1 ≠ a1) (hoa : o1 ≠ a1) (hbo : b1 ≠ o1) (g1 : n0 ≤ a1) (go : n0 ≤ o1) : Ct l ⟨"com/example/quire/quire/core/Bzip2Runs", "emit", "([BII)I"⟩ prog_76_method_8_code 9 (some .int) [] ({ frames := 2, cells := 0, slots := 0, locals := 40 } : Room) Z n0 #[(.ref a1), (.ref o1), (.int (0 : Int32)), (.int c.toInt32)] h0 (fun v h => ∃ (r nx' gv' pv' eq' rp' : Int32), v = some (.int r) ∧ Keep h0 h [a1, o1] ∧ own_R Z h a1 (.ref b1) n.toInt32 gi.toInt32 nx' gv' pv' eq' rp') := by
  refine Ct.of (ls := [.val (.ref a1), .val (.ref o1), .val (.int (0 : Int32)), .val (.int c.toInt32), .unset, .unset, .unset, .unset, .unset]) pn5 (fun m => by first | (simp [entryFrame, mkF, argsToLocals, Value.category]; done) | rfl) ?_
  have hle := own_Gle vs n 0 (-1) 0
  refine r_iloadN d5_0 rfl ?_
  refine r_aloadN d5_1 rfl rfl ?_
  refine r_getF (host := "") (Or.inl (hw _ (List.mem_of_getElem? (i := 24) rfl))) (v := (.int gi.toInt32)) (X.2.2.2.1) d5_2 ?_
  refine r_aloadN d5_5 rfl rfl ?_
  refine r_getF (host := "") (Or.inl (hw _ (List.mem_of_getElem? (i := 28) rfl))) (v := (.int (0 : Int32))) (X.2.2.2.2.2.1) d5_6 ?_
  refine r_isub d5_9 ?_
  rw [Int32.sub_zero]
  refine r_staticP [(.int c.toInt32), (.int gi.toInt32)] [] rfl pd5_0 rfl (hw _ (List.mem_of_getElem? (i := 41) rfl)) (hw _ (List.mem_of_getElem? (i := 42) rfl)) (hw _ (List.mem_of_getElem? (i := 43) rfl)) (hw _ (List.mem_of_getElem? (i := 44) rfl)) (by decide) (w := (.int (min c gi).toInt32)) (R' := ({ frames := 0, cells := 0, slots := 0, locals := 0 } : Room)) (by have q := ct6 (l := l) (n0 := n0) (h0 := h0) hw c.toInt32 gi.toInt32; rw [own_minN (by omega) (by omega)] at q; exact q) d5_10 rfl (by decide) 0 rfl (by decide) rfl rfl (by decide) (by decide) ?_
  obtain ⟨mo, e_mo⟩ : ∃ mo, mo = min c gi := ⟨_, rfl⟩
  rw [← e_mo]
  refine r_istore d5_13 [.val (.ref a1), .val (.ref o1), .val (.int (0 : Int32)), .val (.int c.toInt32), .val (.int mo.toInt32), .unset, .unset, .unset, .unset] rfl ?_
  refine r_iconst (0 : Int32) rfl d5_15 ?_
  refine r_istore d5_16 [.val (.ref a1), .val (.ref o1), .val (.int (0 : Int32)), .val (.int c.toInt32), .val (.int mo.toInt32), .val (.int (0 : Int32)), .unset, .unset, .unset] rfl ?_
  exact lp5 hw a1 b1 o1 vs n c gi mo hn (by omega) (by omega) (by omega) hab hoa hbo g1 go (mo + n + 1) 0 0 0 0 (-1) h0 .unset .unset .unset (by omega) (by omega) (by omega) (by omega) (by omega) (by rw [hgi]; show 0 + 0 + own_G vs (n - 0) 0 (-1) 0 = _; rw [Nat.sub_zero]; omega) (Or.inl rfl) (Or.inl rfl) (Or.inl rfl) X B O (Keep.refl h0 [a1, o1])
theorem d7_0 : D method_5_code 0 (.aload_n 0) 1 1 := ⟨by decide +kernel, rfl⟩
theorem d7_1 : D method_5_code 1 (.iconst 0) 1 2 := ⟨by decide +kernel, rfl⟩
theorem d7_2 : D method_5_code 2 (.baload) 1 3 := ⟨by decide +kernel, rfl⟩
theorem d7_3 : D method_5_code 3 (.sipush 255) 3 6 := ⟨by decide +kernel, rfl⟩
theorem d7_6 : D method_5_code 6 (.iand) 1 7 := ⟨by decide +kernel, rfl⟩
theorem d7_7 : D method_5_code 7 (.istore_n 2) 1 8 := ⟨by decide +kernel, rfl⟩
theorem d7_8 : D method_5_code 8 (.aload_n 0) 1 9 := ⟨by decide +kernel, rfl⟩
theorem d7_9 : D method_5_code 9 (.iconst 1) 1 10 := ⟨by decide +kernel, rfl⟩
theorem d7_10 : D method_5_code 10 (.baload) 1 11 := ⟨by decide +kernel, rfl⟩
theorem d7_11 : D method_5_code 11 (.sipush 255) 3 14 := ⟨by decide +kernel, rfl⟩
theorem d7_14 : D method_5_code 14 (.iand) 1 15 := ⟨by decide +kernel, rfl⟩
theorem d7_15 : D method_5_code 15 (.istore_n 3) 1 16 := ⟨by decide +kernel, rfl⟩
theorem d7_16 : D method_5_code 16 (.aload_n 0) 1 17 := ⟨by decide +kernel, rfl⟩
theorem d7_17 : D method_5_code 17 (.iconst 2) 1 18 := ⟨by decide +kernel, rfl⟩
theorem d7_18 : D method_5_code 18 (.baload) 1 19 := ⟨by decide +kernel, rfl⟩
theorem d7_19 : D method_5_code 19 (.sipush 255) 3 22 := ⟨by decide +kernel, rfl⟩
theorem d7_22 : D method_5_code 22 (.iand) 1 23 := ⟨by decide +kernel, rfl⟩
theorem d7_23 : D method_5_code 23 (.istore 4) 2 25 := ⟨by decide +kernel, rfl⟩
theorem d7_25 : D method_5_code 25 (.aload_n 0) 1 26 := ⟨by decide +kernel, rfl⟩
theorem d7_26 : D method_5_code 26 (.iconst 3) 1 27 := ⟨by decide +kernel, rfl⟩
theorem d7_27 : D method_5_code 27 (.baload) 1 28 := ⟨by decide +kernel, rfl⟩
theorem d7_28 : D method_5_code 28 (.sipush 255) 3 31 := ⟨by decide +kernel, rfl⟩
theorem d7_31 : D method_5_code 31 (.iand) 1 32 := ⟨by decide +kernel, rfl⟩
theorem d7_32 : D method_5_code 32 (.istore 5) 2 34 := ⟨by decide +kernel, rfl⟩
theorem d7_34 : D method_5_code 34 (.aload_n 0) 1 35 := ⟨by decide +kernel, rfl⟩
theorem d7_35 : D method_5_code 35 (.iconst 4) 1 36 := ⟨by decide +kernel, rfl⟩
theorem d7_36 : D method_5_code 36 (.baload) 1 37 := ⟨by decide +kernel, rfl⟩
theorem d7_37 : D method_5_code 37 (.sipush 255) 3 40 := ⟨by decide +kernel, rfl⟩
theorem d7_40 : D method_5_code 40 (.iand) 1 41 := ⟨by decide +kernel, rfl⟩
theorem d7_41 : D method_5_code 41 (.istore 6) 2 43 := ⟨by decide +kernel, rfl⟩
theorem d7_43 : D method_5_code 43 (.aload_n 0) 1 44 := ⟨by decide +kernel, rfl⟩
theorem d7_44 : D method_5_code 44 (.iconst 5) 1 45 := ⟨by decide +kernel, rfl⟩
theorem d7_45 : D method_5_code 45 (.baload) 1 46 := ⟨by decide +kernel, rfl⟩
theorem d7_46 : D method_5_code 46 (.sipush 255) 3 49 := ⟨by decide +kernel, rfl⟩
theorem d7_49 : D method_5_code 49 (.iand) 1 50 := ⟨by decide +kernel, rfl⟩
theorem d7_50 : D method_5_code 50 (.istore 7) 2 52 := ⟨by decide +kernel, rfl⟩
theorem d7_52 : D method_5_code 52 (.aload_n 0) 1 53 := ⟨by decide +kernel, rfl⟩
theorem d7_53 : D method_5_code 53 (.bipush 6) 2 55 := ⟨by decide +kernel, rfl⟩
theorem d7_55 : D method_5_code 55 (.baload) 1 56 := ⟨by decide +kernel, rfl⟩
theorem d7_56 : D method_5_code 56 (.sipush 255) 3 59 := ⟨by decide +kernel, rfl⟩
theorem d7_59 : D method_5_code 59 (.iand) 1 60 := ⟨by decide +kernel, rfl⟩
theorem d7_60 : D method_5_code 60 (.istore 8) 2 62 := ⟨by decide +kernel, rfl⟩
theorem d7_62 : D method_5_code 62 (.aload_n 0) 1 63 := ⟨by decide +kernel, rfl⟩
theorem d7_63 : D method_5_code 63 (.bipush 7) 2 65 := ⟨by decide +kernel, rfl⟩
theorem d7_65 : D method_5_code 65 (.baload) 1 66 := ⟨by decide +kernel, rfl⟩
theorem d7_66 : D method_5_code 66 (.sipush 255) 3 69 := ⟨by decide +kernel, rfl⟩
theorem d7_69 : D method_5_code 69 (.iand) 1 70 := ⟨by decide +kernel, rfl⟩
theorem d7_70 : D method_5_code 70 (.istore 9) 2 72 := ⟨by decide +kernel, rfl⟩
theorem d7_72 : D method_5_code 72 (.iload_n 1) 1 73 := ⟨by decide +kernel, rfl⟩
theorem d7_73 : D method_5_code 73 (.iconst 5) 1 74 := ⟨by decide +kernel, rfl⟩
theorem d7_74 : DB method_5_code 74 (.if_icmp .lt) 19 77 93 := ⟨by decide +kernel, rfl, by decide, by decide⟩
theorem d7_77 : D method_5_code 77 (.iload_n 2) 1 78 := ⟨by decide +kernel, rfl⟩
theorem d7_78 : D method_5_code 78 (.iload_n 3) 1 79 := ⟨by decide +kernel, rfl⟩
theorem d7_79 : D method_5_code 79 (.iload 4) 2 81 := ⟨by decide +kernel, rfl⟩
theorem d7_81 : D method_5_code 81 (.iload 5) 2 83 := ⟨by decide +kernel, rfl⟩
theorem d7_83 : D method_5_code 83 (.invokestatic 47) 3 86 := ⟨by decide +kernel, rfl⟩
theorem d7_86 : DB method_5_code 86 (.ifCond .eq) 7 89 93 := ⟨by decide +kernel, rfl, by decide, by decide⟩
theorem d7_89 : D method_5_code 89 (.iconst 1) 1 90 := ⟨by decide +kernel, rfl⟩
theorem d7_90 : DB method_5_code 90 (.goto) 4 93 94 := ⟨by decide +kernel, rfl, by decide, by decide⟩
theorem d7_93 : D method_5_code 93 (.iconst 0) 1 94 := ⟨by decide +kernel, rfl⟩
theorem d7_94 : D method_5_code 94 (.istore 10) 2 96 := ⟨by decide +kernel, rfl⟩
theorem d7_96 : D method_5_code 96 (.iload_n 1) 1 97 := ⟨by decide +kernel, rfl⟩
theorem d7_97 : D method_5_code 97 (.bipush 6) 2 99 := ⟨by decide +kernel, rfl⟩
theorem d7_99 : DB method_5_code 99 (.if_icmp .lt) 25 102 124 := ⟨by decide +kernel, rfl, by decide, by decide⟩
theorem d7_102 : D method_5_code 102 (.iload 10) 2 104 := ⟨by decide +kernel, rfl⟩
theorem d7_104 : DB method_5_code 104 (.ifCond .ne) 20 107 124 := ⟨by decide +kernel, rfl, by decide, by decide⟩
theorem d7_107 : D method_5_code 107 (.iload_n 3) 1 108 := ⟨by decide +kernel, rfl⟩
theorem d7_108 : D method_5_code 108 (.iload 4) 2 110 := ⟨by decide +kernel, rfl⟩
theorem d7_110 : D method_5_code 110 (.iload 5) 2 112 := ⟨by decide +kernel, rfl⟩
theorem d7_112 : D method_5_code 112 (.iload 6) 2 114 := ⟨by decide +kernel, rfl⟩
theorem d7_114 : D method_5_code 114 (.invokestatic 47) 3 117 := ⟨by decide +kernel, rfl⟩
theorem d7_117 : DB method_5_code 117 (.ifCond .eq) 7 120 124 := ⟨by decide +kernel, rfl, by decide, by decide⟩
theorem d7_120 : D method_5_code 120 (.iconst 1) 1 121 := ⟨by decide +kernel, rfl⟩
theorem d7_121 : DB method_5_code 121 (.goto) 4 124 125 := ⟨by decide +kernel, rfl, by decide, by decide⟩
theorem d7_124 : D method_5_code 124 (.iconst 0) 1 125 := ⟨by decide +kernel, rfl⟩
theorem d7_125 : D method_5_code 125 (.istore 11) 2 127 := ⟨by decide +kernel, rfl⟩
theorem d7_127 : D method_5_code 127 (.iload_n 1) 1 128 := ⟨by decide +kernel, rfl⟩
theorem d7_128 : D method_5_code 128 (.bipush 7) 2 130 := ⟨by decide +kernel, rfl⟩
theorem d7_130 : DB method_5_code 130 (.if_icmp .lt) 31 133 161 := ⟨by decide +kernel, rfl, by decide, by decide⟩
theorem d7_133 : D method_5_code 133 (.iload 10) 2 135 := ⟨by decide +kernel, rfl⟩
theorem d7_135 : DB method_5_code 135 (.ifCond .ne) 26 138 161 := ⟨by decide +kernel, rfl, by decide, by decide⟩
theorem d7_138 : D method_5_code 138 (.iload 11) 2 140 := ⟨by decide +kernel, rfl⟩
theorem d7_140 : DB method_5_code 140 (.ifCond .ne) 21 143 161 := ⟨by decide +kernel, rfl, by decide, by decide⟩
theorem d7_143 : D method_5_code 143 (.iload 4) 2 145 := ⟨by decide +kernel, rfl⟩
theorem d7_145 : D method_5_code 145 (.iload 5) 2 147 := ⟨by decide +kernel, rfl⟩
theorem d7_147 : D method_5_code 147 (.iload 6) 2 149 := ⟨by decide +kernel, rfl⟩
theorem d7_149 : D method_5_code 149 (.iload 7) 2 151 := ⟨by decide +kernel, rfl⟩
theorem d7_151 : D method_5_code 151 (.invokestatic 47) 3 154 := ⟨by decide +kernel, rfl⟩
theorem d7_154 : DB method_5_code 154 (.ifCond .eq) 7 157 161 := ⟨by decide +kernel, rfl, by decide, by decide⟩
theorem d7_157 : D method_5_code 157 (.iconst 1) 1 158 := ⟨by decide +kernel, rfl⟩
theorem d7_158 : DB method_5_code 158 (.goto) 4 161 162 := ⟨by decide +kernel, rfl, by decide, by decide⟩
theorem d7_161 : D method_5_code 161 (.iconst 0) 1 162 := ⟨by decide +kernel, rfl⟩
theorem d7_162 : D method_5_code 162 (.istore 12) 2 164 := ⟨by decide +kernel, rfl⟩
theorem d7_164 : D method_5_code 164 (.iload_n 1) 1 165 := ⟨by decide +kernel, rfl⟩
theorem d7_165 : D method_5_code 165 (.bipush 8) 2 167 := ⟨by decide +kernel, rfl⟩
theorem d7_167 : DB method_5_code 167 (.if_icmp .lt) 36 170 203 := ⟨by decide +kernel, rfl, by decide, by decide⟩
theorem d7_170 : D method_5_code 170 (.iload 10) 2 172 := ⟨by decide +kernel, rfl⟩
theorem d7_172 : DB method_5_code 172 (.ifCond .ne) 31 175 203 := ⟨by decide +kernel, rfl, by decide, by decide⟩
theorem d7_175 : D method_5_code 175 (.iload 11) 2 177 := ⟨by decide +kernel, rfl⟩
theorem d7_177 : DB method_5_code 177 (.ifCond .ne) 26 180 203 := ⟨by decide +kernel, rfl, by decide, by decide⟩
theorem d7_180 : D method_5_code 180 (.iload 12) 2 182 := ⟨by decide +kernel, rfl⟩
theorem d7_182 : DB method_5_code 182 (.ifCond .ne) 21 185 203 := ⟨by decide +kernel, rfl, by decide, by decide⟩
theorem d7_185 : D method_5_code 185 (.iload 5) 2 187 := ⟨by decide +kernel, rfl⟩
theorem d7_187 : D method_5_code 187 (.iload 6) 2 189 := ⟨by decide +kernel, rfl⟩
theorem d7_189 : D method_5_code 189 (.iload 7) 2 191 := ⟨by decide +kernel, rfl⟩
theorem d7_191 : D method_5_code 191 (.iload 8) 2 193 := ⟨by decide +kernel, rfl⟩
theorem d7_193 : D method_5_code 193 (.invokestatic 47) 3 196 := ⟨by decide +kernel, rfl⟩
theorem d7_196 : DB method_5_code 196 (.ifCond .eq) 7 199 203 := ⟨by decide +kernel, rfl, by decide, by decide⟩
theorem d7_199 : D method_5_code 199 (.iconst 1) 1 200 := ⟨by decide +kernel, rfl⟩
theorem d7_200 : DB method_5_code 200 (.goto) 4 203 204 := ⟨by decide +kernel, rfl, by decide, by decide⟩
theorem d7_203 : D method_5_code 203 (.iconst 0) 1 204 := ⟨by decide +kernel, rfl⟩
theorem d7_204 : D method_5_code 204 (.istore 13) 2 206 := ⟨by decide +kernel, rfl⟩
theorem d7_206 : D method_5_code 206 (.iload_n 1) 1 207 := ⟨by decide +kernel, rfl⟩
theorem d7_207 : D method_5_code 207 (.istore 14) 2 209 := ⟨by decide +kernel, rfl⟩
theorem d7_209 : D method_5_code 209 (.iload 10) 2 211 := ⟨by decide +kernel, rfl⟩
theorem d7_211 : DB method_5_code 211 (.ifCond .eq) 12 214 223 := ⟨by decide +kernel, rfl, by decide, by decide⟩
theorem d7_214 : D method_5_code 214 (.iload 14) 2 216 := ⟨by decide +kernel, rfl⟩
theorem d7_216 : D method_5_code 216 (.iconst 1) 1 217 := ⟨by decide +kernel, rfl⟩
theorem d7_217 : D method_5_code 217 (.isub) 1 218 := ⟨by decide +kernel, rfl⟩
theorem d7_218 : D method_5_code 218 (.iload 6) 2 220 := ⟨by decide +kernel, rfl⟩
theorem d7_220 : D method_5_code 220 (.iadd) 1 221 := ⟨by decide +kernel, rfl⟩
theorem d7_221 : D method_5_code 221 (.istore 14) 2 223 := ⟨by decide +kernel, rfl⟩
theorem d7_223 : D method_5_code 223 (.iload 11) 2 225 := ⟨by decide +kernel, rfl⟩
theorem d7_225 : DB method_5_code 225 (.ifCond .eq) 12 228 237 := ⟨by decide +kernel, rfl, by decide, by decide⟩
theorem d7_228 : D method_5_code 228 (.iload 14) 2 230 := ⟨by decide +kernel, rfl⟩
theorem d7_230 : D method_5_code 230 (.iconst 1) 1 231 := ⟨by decide +kernel, rfl⟩
theorem d7_231 : D method_5_code 231 (.isub) 1 232 := ⟨by decide +kernel, rfl⟩
theorem d7_232 : D method_5_code 232 (.iload 7) 2 234 := ⟨by decide +kernel, rfl⟩
theorem d7_234 : D method_5_code 234 (.iadd) 1 235 := ⟨by decide +kernel, rfl⟩
theorem d7_235 : D method_5_code 235 (.istore 14) 2 237 := ⟨by decide +kernel, rfl⟩
theorem d7_237 : D method_5_code 237 (.iload 12) 2 239 := ⟨by decide +kernel, rfl⟩
theorem d7_239 : DB method_5_code 239 (.ifCond .eq) 12 242 251 := ⟨by decide +kernel, rfl, by decide, by decide⟩
theorem d7_242 : D method_5_code 242 (.iload 14) 2 244 := ⟨by decide +kernel, rfl⟩
theorem d7_244 : D method_5_code 244 (.iconst 1) 1 245 := ⟨by decide +kernel, rfl⟩
theorem d7_245 : D method_5_code 245 (.isub) 1 246 := ⟨by decide +kernel, rfl⟩
theorem d7_246 : D method_5_code 246 (.iload 8) 2 248 := ⟨by decide +kernel, rfl⟩
theorem d7_248 : D method_5_code 248 (.iadd) 1 249 := ⟨by decide +kernel, rfl⟩
theorem d7_249 : D method_5_code 249 (.istore 14) 2 251 := ⟨by decide +kernel, rfl⟩
theorem d7_251 : D method_5_code 251 (.iload 13) 2 253 := ⟨by decide +kernel, rfl⟩
theorem d7_253 : DB method_5_code 253 (.ifCond .eq) 12 256 265 := ⟨by decide +kernel, rfl, by decide, by decide⟩
theorem d7_256 : D method_5_code 256 (.iload 14) 2 258 := ⟨by decide +kernel, rfl⟩
theorem d7_258 : D method_5_code 258 (.iconst 1) 1 259 := ⟨by decide +kernel, rfl⟩
theorem d7_259 : D method_5_code 259 (.isub) 1 260 := ⟨by decide +kernel, rfl⟩
theorem d7_260 : D method_5_code 260 (.iload 9) 2 262 := ⟨by decide +kernel, rfl⟩
theorem d7_262 : D method_5_code 262 (.iadd) 1 263 := ⟨by decide +kernel, rfl⟩
theorem d7_263 : D method_5_code 263 (.istore 14) 2 265 := ⟨by decide +kernel, rfl⟩
theorem d7_265 : D method_5_code 265 (.iload 14) 2 267 := ⟨by decide +kernel, rfl⟩
theorem d7_267 : D method_5_code 267 (.ireturn) 1 268 := ⟨by decide +kernel, rfl⟩
theorem pd7_0 : parseMethodDescriptor "(IIII)Z" = some ⟨[.int, .int, .int, .int], some .boolean⟩ := by decide +kernel
theorem pn7 : plainFor (⟨"com/example/quire/quire/core/Bzip2RunsHoldPinLaw", "ref", "([BI)I"⟩ : MethodName) = true := by first | exact plainFor_of_name (by first | (simp [plainName, overriddenIn]; done) | decide +kernel) | exact Jvm.Free.JP.mathPlain rfl (by decide +kernel) | decide +kernel
set_option maxRecDepth 65536 in
set_option maxHeartbeats 40000000 in
theorem ct7 {l : Launch} {Z : State} {a0 : Array Value} (hw : ∀ d ∈ tables_1, d.before a0 Z = true) {n0 : Nat} {h0 : Heap} (b1 : Addr) (vs : List Int32) (n : Nat) (B : own_B Z h0 b1 vs) (hn : n ≤ 8) : Ct l ⟨"com/example/quire/quire/core/Bzip2RunsHoldPinLaw", "ref", "([BI)I"⟩ method_5_code 15 (some .int) [] ({ frames := 1, cells := 0, slots := 0, locals := 20 } : Room) Z n0 #[(.ref b1), (.int n.toInt32)] h0 (fun v h => v = some (.int (own_G vs n 0 (-1) 0).toInt32) ∧ h = h0) := by
  refine Ct.of (ls := [.val (.ref b1), .val (.int n.toInt32), .unset, .unset, .unset, .unset, .unset, .unset, .unset, .unset, .unset, .unset, .unset, .unset, .unset]) pn7 (fun m => by first | (simp [entryFrame, mkF, argsToLocals, Value.category]; done) | rfl) ?_
  refine r_aloadN d7_0 rfl rfl ?_
  refine r_iconst (0 : Int32) rfl d7_1 ?_
  refine r_ldB (own_at vs 0) B.1 (by decide) (own_get (by rw [B.2.1]; decide)) d7_2 ?_
  refine r_sipush (255 : Int32) rfl d7_3 ?_
  refine r_iand d7_6 ?_
  rw [own_bt_eq vs 0]
  refine r_istoreN d7_7 [.val (.ref b1), .val (.int n.toInt32), .val (.int (own_bt vs 0).toInt32), .unset, .unset, .unset, .unset, .unset, .unset, .unset, .unset, .unset, .unset, .unset, .unset] rfl ?_
  refine r_aloadN d7_8 rfl rfl ?_
  refine r_iconst (1 : Int32) rfl d7_9 ?_
  refine r_ldB (own_at vs 1) B.1 (by decide) (own_get (by rw [B.2.1]; decide)) d7_10 ?_
  refine r_sipush (255 : Int32) rfl d7_11 ?_
  refine r_iand d7_14 ?_
  rw [own_bt_eq vs 1]
  refine r_istoreN d7_15 [.val (.ref b1), .val (.int n.toInt32), .val (.int (own_bt vs 0).toInt32), .val (.int (own_bt vs 1).toInt32), .unset, .unset, .unset, .unset, .unset, .unset, .unset, .unset, .unset, .unset, .unset] rfl ?_
  refine r_aloadN d7_16 rfl rfl ?_
  refine r_iconst (2 : Int32) rfl d7_17 ?_
  refine r_ldB (own_at vs 2) B.1 (by decide) (own_get (by rw [B.2.1]; decide)) d7_18 ?_
  refine r_sipush (255 : Int32) rfl d7_19 ?_
  refine r_iand d7_22 ?_
  rw [own_bt_eq vs 2]
  refine r_istore d7_23 [.val (.ref b1), .val (.int n.toInt32), .val (.int (own_bt vs 0).toInt32), .val (.int (own_bt vs 1).toInt32), .val (.int (own_bt vs 2).toInt32), .unset, .unset, .unset, .unset, .unset, .unset, .unset, .unset, .unset, .unset] rfl ?_
  refine r_aloadN d7_25 rfl rfl ?_
  refine r_iconst (3 : Int32) rfl d7_26 ?_
  refine r_ldB (own_at vs 3) B.1 (by decide) (own_get (by rw [B.2.1]; decide)) d7_27 ?_
  refine r_sipush (255 : Int32) rfl d7_28 ?_
  refine r_iand d7_31 ?_
  rw [own_bt_eq vs 3]
  refine r_istore d7_32 [.val (.ref b1), .val (.int n.toInt32), .val (.int (own_bt vs 0).toInt32), .val (.int (own_bt vs 1).toInt32), .val (.int (own_bt vs 2).toInt32), .val (.int (own_bt vs 3).toInt32), .unset, .unset, .unset, .unset, .unset, .unset, .unset, .unset, .unset] rfl ?_
  refine r_aloadN d7_34 rfl rfl ?_
  refine r_iconst (4 : Int32) rfl d7_35 ?_
  refine r_ldB (own_at vs 4) B.1 (by decide) (own_get (by rw [B.2.1]; decide)) d7_36 ?_
  refine r_sipush (255 : Int32) rfl d7_37 ?_
  refine r_iand d7_40 ?_
  rw [own_bt_eq vs 4]
  refine r_istore d7_41 [.val (.ref b1), .val (.int n.toInt32), .val (.int (own_bt vs 0).toInt32), .val (.int (own_bt vs 1).toInt32), .val (.int (own_bt vs 2).toInt32), .val (.int (own_bt vs 3).toInt32), .val (.int (own_bt vs 4).toInt32), .unset, .unset, .unset, .unset, .unset, .unset, .unset, .unset] rfl ?_
  refine r_aloadN d7_43 rfl rfl ?_
  refine r_iconst (5 : Int32) rfl d7_44 ?_
  refine r_ldB (own_at vs 5) B.1 (by decide) (own_get (by rw [B.2.1]; decide)) d7_45 ?_
  refine r_sipush (255 : Int32) rfl d7_46 ?_
  refine r_iand d7_49 ?_
  rw [own_bt_eq vs 5]
  refine r_istore d7_50 [.val (.ref b1), .val (.int n.toInt32), .val (.int (own_bt vs 0).toInt32), .val (.int (own_bt vs 1).toInt32), .val (.int (own_bt vs 2).toInt32), .val (.int (own_bt vs 3).toInt32), .val (.int (own_bt vs 4).toInt32), .val (.int (own_bt vs 5).toInt32), .unset, .unset, .unset, .unset, .unset, .unset, .unset] rfl ?_
  refine r_aloadN d7_52 rfl rfl ?_
  refine r_bipush (6 : Int32) rfl d7_53 ?_
  refine r_ldB (own_at vs 6) B.1 (by decide) (own_get (by rw [B.2.1]; decide)) d7_55 ?_
  refine r_sipush (255 : Int32) rfl d7_56 ?_
  refine r_iand d7_59 ?_
  rw [own_bt_eq vs 6]
  refine r_istore d7_60 [.val (.ref b1), .val (.int n.toInt32), .val (.int (own_bt vs 0).toInt32), .val (.int (own_bt vs 1).toInt32), .val (.int (own_bt vs 2).toInt32), .val (.int (own_bt vs 3).toInt32), .val (.int (own_bt vs 4).toInt32), .val (.int (own_bt vs 5).toInt32), .val (.int (own_bt vs 6).toInt32), .unset, .unset, .unset, .unset, .unset, .unset] rfl ?_
  refine r_aloadN d7_62 rfl rfl ?_
  refine r_bipush (7 : Int32) rfl d7_63 ?_
  refine r_ldB (own_at vs 7) B.1 (by decide) (own_get (by rw [B.2.1]; decide)) d7_65 ?_
  refine r_sipush (255 : Int32) rfl d7_66 ?_
  refine r_iand d7_69 ?_
  rw [own_bt_eq vs 7]
  refine r_istore d7_70 [.val (.ref b1), .val (.int n.toInt32), .val (.int (own_bt vs 0).toInt32), .val (.int (own_bt vs 1).toInt32), .val (.int (own_bt vs 2).toInt32), .val (.int (own_bt vs 3).toInt32), .val (.int (own_bt vs 4).toInt32), .val (.int (own_bt vs 5).toInt32), .val (.int (own_bt vs 6).toInt32), .val (.int (own_bt vs 7).toInt32), .unset, .unset, .unset, .unset, .unset] rfl ?_
  have l0 := own_bt_lt vs 0
  have l1 := own_bt_lt vs 1
  have l2 := own_bt_lt vs 2
  have l3 := own_bt_lt vs 3
  have l4 := own_bt_lt vs 4
  have l5 := own_bt_lt vs 5
  have l6 := own_bt_lt vs 6
  have l7 := own_bt_lt vs 7
  refine r_iloadN d7_72 rfl ?_
  refine r_iconst (5 : Int32) rfl d7_73 ?_
  have J94 : ∀ (c4 : Int32) (h4 : ¬ c4 = 0 ↔ own_P4 vs n), ORun l ⟨"com/example/quire/quire/core/Bzip2RunsHoldPinLaw", "ref", "([BI)I"⟩ method_5_code 15 (some .int) ({ frames := 1, cells := 0, slots := 0, locals := 20 } : Room) Z n0 #[(.ref b1), (.int n.toInt32)] (fun v h => v = some (.int (own_G vs n 0 (-1) 0).toInt32) ∧ h = h0) h0 0 0 94 [.val (.ref b1), .val (.int n.toInt32), .val (.int (own_bt vs 0).toInt32), .val (.int (own_bt vs 1).toInt32), .val (.int (own_bt vs 2).toInt32), .val (.int (own_bt vs 3).toInt32), .val (.int (own_bt vs 4).toInt32), .val (.int (own_bt vs 5).toInt32), .val (.int (own_bt vs 6).toInt32), .val (.int (own_bt vs 7).toInt32), .unset, .unset, .unset, .unset, .unset] [(.int c4)] := by
    intro c4 h4
    refine r_istore d7_94 [.val (.ref b1), .val (.int n.toInt32), .val (.int (own_bt vs 0).toInt32), .val (.int (own_bt vs 1).toInt32), .val (.int (own_bt vs 2).toInt32), .val (.int (own_bt vs 3).toInt32), .val (.int (own_bt vs 4).toInt32), .val (.int (own_bt vs 5).toInt32), .val (.int (own_bt vs 6).toInt32), .val (.int (own_bt vs 7).toInt32), .val (.int c4), .unset, .unset, .unset, .unset] rfl ?_
    refine r_iloadN d7_96 rfl ?_
    refine r_bipush (6 : Int32) rfl d7_97 ?_
    have J125 : ∀ (c5 : Int32) (h5 : ¬ c5 = 0 ↔ own_P5 vs n), ORun l ⟨"com/example/quire/quire/core/Bzip2RunsHoldPinLaw", "ref", "([BI)I"⟩ method_5_code 15 (some .int) ({ frames := 1, cells := 0, slots := 0, locals := 20 } : Room) Z n0 #[(.ref b1), (.int n.toInt32)] (fun v h => v = some (.int (own_G vs n 0 (-1) 0).toInt32) ∧ h = h0) h0 0 0 125 [.val (.ref b1), .val (.int n.toInt32), .val (.int (own_bt vs 0).toInt32), .val (.int (own_bt vs 1).toInt32), .val (.int (own_bt vs 2).toInt32), .val (.int (own_bt vs 3).toInt32), .val (.int (own_bt vs 4).toInt32), .val (.int (own_bt vs 5).toInt32), .val (.int (own_bt vs 6).toInt32), .val (.int (own_bt vs 7).toInt32), .val (.int c4), .unset, .unset, .unset, .unset] [(.int c5)] := by
      intro c5 h5
      refine r_istore d7_125 [.val (.ref b1), .val (.int n.toInt32), .val (.int (own_bt vs 0).toInt32), .val (.int (own_bt vs 1).toInt32), .val (.int (own_bt vs 2).toInt32), .val (.int (own_bt vs 3).toInt32), .val (.int (own_bt vs 4).toInt32), .val (.int (own_bt vs 5).toInt32), .val (.int (own_bt vs 6).toInt32), .val (.int (own_bt vs 7).toInt32), .val (.int c4), .val (.int c5), .unset, .unset, .unset] rfl ?_
      refine r_iloadN d7_127 rfl ?_
      refine r_bipush (7 : Int32) rfl d7_128 ?_
      have J162 : ∀ (c6 : Int32) (h6 : ¬ c6 = 0 ↔ own_P6 vs n), ORun l ⟨"com/example/quire/quire/core/Bzip2RunsHoldPinLaw", "ref", "([BI)I"⟩ method_5_code 15 (some .int) ({ frames := 1, cells := 0, slots := 0, locals := 20 } : Room) Z n0 #[(.ref b1), (.int n.toInt32)] (fun v h => v = some (.int (own_G vs n 0 (-1) 0).toInt32) ∧ h = h0) h0 0 0 162 [.val (.ref b1), .val (.int n.toInt32), .val (.int (own_bt vs 0).toInt32), .val (.int (own_bt vs 1).toInt32), .val (.int (own_bt vs 2).toInt32), .val (.int (own_bt vs 3).toInt32), .val (.int (own_bt vs 4).toInt32), .val (.int (own_bt vs 5).toInt32), .val (.int (own_bt vs 6).toInt32), .val (.int (own_bt vs 7).toInt32), .val (.int c4), .val (.int c5), .unset, .unset, .unset] [(.int c6)] := by
        intro c6 h6
        refine r_istore d7_162 [.val (.ref b1), .val (.int n.toInt32), .val (.int (own_bt vs 0).toInt32), .val (.int (own_bt vs 1).toInt32), .val (.int (own_bt vs 2).toInt32), .val (.int (own_bt vs 3).toInt32), .val (.int (own_bt vs 4).toInt32), .val (.int (own_bt vs 5).toInt32), .val (.int (own_bt vs 6).toInt32), .val (.int (own_bt vs 7).toInt32), .val (.int c4), .val (.int c5), .val (.int c6), .unset, .unset] rfl ?_
        refine r_iloadN d7_164 rfl ?_
        refine r_bipush (8 : Int32) rfl d7_165 ?_
        have J204 : ∀ (c7 : Int32) (h7 : ¬ c7 = 0 ↔ own_P7 vs n), ORun l ⟨"com/example/quire/quire/core/Bzip2RunsHoldPinLaw", "ref", "([BI)I"⟩ method_5_code 15 (some .int) ({ frames := 1, cells := 0, slots := 0, locals := 20 } : Room) Z n0 #[(.ref b1), (.int n.toInt32)] (fun v h => v = some (.int (own_G vs n 0 (-1) 0).toInt32) ∧ h = h0) h0 0 0 204 [.val (.ref b1), .val (.int n.toInt32), .val (.int (own_bt vs 0).toInt32), .val (.int (own_bt vs 1).toInt32), .val (.int (own_bt vs 2).toInt32), .val (.int (own_bt vs 3).toInt32), .val (.int (own_bt vs 4).toInt32), .val (.int (own_bt vs 5).toInt32), .val (.int (own_bt vs 6).toInt32), .val (.int (own_bt vs 7).toInt32), .val (.int c4), .val (.int c5), .val (.int c6), .unset, .unset] [(.int c7)] := by
          intro c7 h7
          refine r_istore d7_204 [.val (.ref b1), .val (.int n.toInt32), .val (.int (own_bt vs 0).toInt32), .val (.int (own_bt vs 1).toInt32), .val (.int (own_bt vs 2).toInt32), .val (.int (own_bt vs 3).toInt32), .val (.int (own_bt vs 4).toInt32), .val (.int (own_bt vs 5).toInt32), .val (.int (own_bt vs 6).toInt32), .val (.int (own_bt vs 7).toInt32), .val (.int c4), .val (.int c5), .val (.int c6), .val (.int c7), .unset] rfl ?_
          refine r_iloadN d7_206 rfl ?_
          refine r_istore d7_207 [.val (.ref b1), .val (.int n.toInt32), .val (.int (own_bt vs 0).toInt32), .val (.int (own_bt vs 1).toInt32), .val (.int (own_bt vs 2).toInt32), .val (.int (own_bt vs 3).toInt32), .val (.int (own_bt vs 4).toInt32), .val (.int (own_bt vs 5).toInt32), .val (.int (own_bt vs 6).toInt32), .val (.int (own_bt vs 7).toInt32), .val (.int c4), .val (.int c5), .val (.int c6), .val (.int c7), .val (.int n.toInt32)] rfl ?_
          refine r_iload d7_209 rfl ?_
          refine r_if_eq d7_211 (fun hc211 => ?_) (fun hc211 => ?_)
          · refine r_iload d7_223 rfl ?_
            refine r_if_eq d7_225 (fun hc225 => ?_) (fun hc225 => ?_)
            · refine r_iload d7_237 rfl ?_
              refine r_if_eq d7_239 (fun hc239 => ?_) (fun hc239 => ?_)
              · refine r_iload d7_251 rfl ?_
                refine r_if_eq d7_253 (fun hc253 => ?_) (fun hc253 => ?_)
                · refine r_iload d7_265 rfl ?_
                  refine r_iret d7_267 (by decide) (by decide) ?_
                  refine ⟨?_, rfl⟩
                  rw [(own_law vs n hn).2.2.2.2 (fun z => (h4.mpr z) hc211) (fun z => (h5.mpr z) hc225) (fun z => (h6.mpr z) hc239) (fun z => (h7.mpr z) hc253)]
                · refine r_iload d7_256 rfl ?_
                  refine r_iconst (1 : Int32) rfl d7_258 ?_
                  refine r_isub d7_259 ?_
                  refine r_iload d7_260 rfl ?_
                  refine r_iadd d7_262 ?_
                  refine r_istore d7_263 [.val (.ref b1), .val (.int n.toInt32), .val (.int (own_bt vs 0).toInt32), .val (.int (own_bt vs 1).toInt32), .val (.int (own_bt vs 2).toInt32), .val (.int (own_bt vs 3).toInt32), .val (.int (own_bt vs 4).toInt32), .val (.int (own_bt vs 5).toInt32), .val (.int (own_bt vs 6).toInt32), .val (.int (own_bt vs 7).toInt32), .val (.int c4), .val (.int c5), .val (.int c6), .val (.int c7), .val (.int ((n.toInt32 - (1 : Int32)) + (own_bt vs 7).toInt32))] rfl ?_
                  refine r_iload d7_265 rfl ?_
                  refine r_iret d7_267 (by decide) (by decide) ?_
                  have hp := h7.mp hc253
                  have h1 : 1 ≤ n := by have := hp.1; omega
                  refine ⟨?_, rfl⟩
                  rw [(own_law vs n hn).2.2.2.1 hp, show n.toInt32 - (1 : Int32) = (n - 1).toInt32 from n32_sub (a := n) (b := 1) h1, n32_add]
              · refine r_iload d7_242 rfl ?_
                refine r_iconst (1 : Int32) rfl d7_244 ?_
                refine r_isub d7_245 ?_
                refine r_iload d7_246 rfl ?_
                refine r_iadd d7_248 ?_
                refine r_istore d7_249 [.val (.ref b1), .val (.int n.toInt32), .val (.int (own_bt vs 0).toInt32), .val (.int (own_bt vs 1).toInt32), .val (.int (own_bt vs 2).toInt32), .val (.int (own_bt vs 3).toInt32), .val (.int (own_bt vs 4).toInt32), .val (.int (own_bt vs 5).toInt32), .val (.int (own_bt vs 6).toInt32), .val (.int (own_bt vs 7).toInt32), .val (.int c4), .val (.int c5), .val (.int c6), .val (.int c7), .val (.int ((n.toInt32 - (1 : Int32)) + (own_bt vs 6).toInt32))] rfl ?_
                refine r_iload d7_251 rfl ?_
                refine r_if_eq d7_253 (fun hc253 => ?_) (fun hc253 => ?_)
                · refine r_iload d7_265 rfl ?_
                  refine r_iret d7_267 (by decide) (by decide) ?_
                  have hp := h6.mp hc239
                  have h1 : 1 ≤ n := by have := hp.1; omega
                  refine ⟨?_, rfl⟩
                  rw [(own_law vs n hn).2.2.1 hp, show n.toInt32 - (1 : Int32) = (n - 1).toInt32 from n32_sub (a := n) (b := 1) h1, n32_add]
                · exfalso; exact absurd (h6.mp hc239) (h7.mp hc253).2.2.2.1
            · refine r_iload d7_228 rfl ?_
              refine r_iconst (1 : Int32) rfl d7_230 ?_
              refine r_isub d7_231 ?_
              refine r_iload d7_232 rfl ?_
              refine r_iadd d7_234 ?_
              refine r_istore d7_235 [.val (.ref b1), .val (.int n.toInt32), .val (.int (own_bt vs 0).toInt32), .val (.int (own_bt vs 1).toInt32), .val (.int (own_bt vs 2).toInt32), .val (.int (own_bt vs 3).toInt32), .val (.int (own_bt vs 4).toInt32), .val (.int (own_bt vs 5).toInt32), .val (.int (own_bt vs 6).toInt32), .val (.int (own_bt vs 7).toInt32), .val (.int c4), .val (.int c5), .val (.int c6), .val (.int c7), .val (.int ((n.toInt32 - (1 : Int32)) + (own_bt vs 5).toInt32))] rfl ?_
              refine r_iload d7_237 rfl ?_
              refine r_if_eq d7_239 (fun hc239 => ?_) (fun hc239 => ?_)
              · refine r_iload d7_251 rfl ?_
                refine r_if_eq d7_253 (fun hc253 => ?_) (fun hc253 => ?_)
                · refine r_iload d7_265 rfl ?_
                  refine r_iret d7_267 (by decide) (by decide) ?_
                  have hp := h5.mp hc225
                  have h1 : 1 ≤ n := by have := hp.1; omega
                  refine ⟨?_, rfl⟩
                  rw [(own_law vs n hn).2.1 hp, show n.toInt32 - (1 : Int32) = (n - 1).toInt32 from n32_sub (a := n) (b := 1) h1, n32_add]
                · exfalso; exact absurd (h5.mp hc225) (h7.mp hc253).2.2.1
              · exfalso; exact absurd (h5.mp hc225) (h6.mp hc239).2.2.1
          · refine r_iload d7_214 rfl ?_
            refine r_iconst (1 : Int32) rfl d7_216 ?_
            refine r_isub d7_217 ?_
            refine r_iload d7_218 rfl ?_
            refine r_iadd d7_220 ?_
            refine r_istore d7_221 [.val (.ref b1), .val (.int n.toInt32), .val (.int (own_bt vs 0).toInt32), .val (.int (own_bt vs 1).toInt32), .val (.int (own_bt vs 2).toInt32), .val (.int (own_bt vs 3).toInt32), .val (.int (own_bt vs 4).toInt32), .val (.int (own_bt vs 5).toInt32), .val (.int (own_bt vs 6).toInt32), .val (.int (own_bt vs 7).toInt32), .val (.int c4), .val (.int c5), .val (.int c6), .val (.int c7), .val (.int ((n.toInt32 - (1 : Int32)) + (own_bt vs 4).toInt32))] rfl ?_
            refine r_iload d7_223 rfl ?_
            refine r_if_eq d7_225 (fun hc225 => ?_) (fun hc225 => ?_)
            · refine r_iload d7_237 rfl ?_
              refine r_if_eq d7_239 (fun hc239 => ?_) (fun hc239 => ?_)
              · refine r_iload d7_251 rfl ?_
                refine r_if_eq d7_253 (fun hc253 => ?_) (fun hc253 => ?_)
                · refine r_iload d7_265 rfl ?_
                  refine r_iret d7_267 (by decide) (by decide) ?_
                  have hp := h4.mp hc211
                  have h1 : 1 ≤ n := by have := hp.1; omega
                  refine ⟨?_, rfl⟩
                  rw [(own_law vs n hn).1 hp, show n.toInt32 - (1 : Int32) = (n - 1).toInt32 from n32_sub (a := n) (b := 1) h1, n32_add]
                · exfalso; exact absurd (h4.mp hc211) (h7.mp hc253).2.1
              · exfalso; exact absurd (h4.mp hc211) (h6.mp hc239).2.1
            · exfalso; exact absurd (h4.mp hc211) (h5.mp hc225).2.1
        refine r_icmp_lt d7_167 (fun hc167 => ?_) (fun hc167 => ?_)
        · refine r_iconst (0 : Int32) rfl d7_203 ?_
          exact J204 0 ⟨fun q => absurd rfl q, fun q => absurd ((n32_lt (a := n) (b := 8) (by omega) (by omega)).mp hc167) (by have := q.1; omega)⟩
        · refine r_iload d7_170 rfl ?_
          refine r_if_ne d7_172 (fun hc172 => ?_) (fun hc172 => ?_)
          · refine r_iconst (0 : Int32) rfl d7_203 ?_
            exact J204 0 ⟨fun q => absurd rfl q, fun q => absurd (h4.mp hc172) (q.2.1)⟩
          · refine r_iload d7_175 rfl ?_
            refine r_if_ne d7_177 (fun hc177 => ?_) (fun hc177 => ?_)
            · refine r_iconst (0 : Int32) rfl d7_203 ?_
              exact J204 0 ⟨fun q => absurd rfl q, fun q => absurd (h5.mp hc177) (q.2.2.1)⟩
            · refine r_iload d7_180 rfl ?_
              refine r_if_ne d7_182 (fun hc182 => ?_) (fun hc182 => ?_)
              · refine r_iconst (0 : Int32) rfl d7_203 ?_
                exact J204 0 ⟨fun q => absurd rfl q, fun q => absurd (h6.mp hc182) (q.2.2.2.1)⟩
              · refine r_iload d7_185 rfl ?_
                refine r_iload d7_187 rfl ?_
                refine r_iload d7_189 rfl ?_
                refine r_iload d7_191 rfl ?_
                refine r_staticP [(.int (own_bt vs 3).toInt32), (.int (own_bt vs 4).toInt32), (.int (own_bt vs 5).toInt32), (.int (own_bt vs 6).toInt32)] [] rfl pd7_0 rfl (hw _ (List.mem_of_getElem? (i := 77) rfl)) (hw _ (List.mem_of_getElem? (i := 78) rfl)) (hw _ (List.mem_of_getElem? (i := 3) rfl)) (hw _ (List.mem_of_getElem? (i := 79) rfl)) (by decide) (w := (.int (if own_S vs 3 then 1 else 0))) (R' := ({ frames := 0, cells := 0, slots := 0, locals := 0 } : Room)) (ct13 hw (own_bt vs 3) (own_bt vs 4) (own_bt vs 5) (own_bt vs 6) l3 l4 l5 l6) d7_193 rfl (by decide) 0 rfl (by decide) rfl rfl (by decide) (by decide) ?_
                refine r_if_eq d7_196 (fun hc196 => ?_) (fun hc196 => ?_)
                · refine r_iconst (0 : Int32) rfl d7_203 ?_
                  exact J204 0 ⟨fun q => absurd rfl q, fun q => (own_i0 hc196 q.2.2.2.2).elim⟩
                · refine r_iconst (1 : Int32) rfl d7_199 ?_
                  refine r_goto d7_200 ?_
                  exact J204 1 ⟨fun _ => ⟨own_ltN (b := 8) (by omega) (by omega) hc167, fun z => (h4.mpr z) hc172, fun z => (h5.mpr z) hc177, fun z => (h6.mpr z) hc182, own_i1 hc196⟩, fun _ => by decide⟩
      refine r_icmp_lt d7_130 (fun hc130 => ?_) (fun hc130 => ?_)
      · refine r_iconst (0 : Int32) rfl d7_161 ?_
        exact J162 0 ⟨fun q => absurd rfl q, fun q => absurd ((n32_lt (a := n) (b := 7) (by omega) (by omega)).mp hc130) (by have := q.1; omega)⟩
      · refine r_iload d7_133 rfl ?_
        refine r_if_ne d7_135 (fun hc135 => ?_) (fun hc135 => ?_)
        · refine r_iconst (0 : Int32) rfl d7_161 ?_
          exact J162 0 ⟨fun q => absurd rfl q, fun q => absurd (h4.mp hc135) (q.2.1)⟩
        · refine r_iload d7_138 rfl ?_
          refine r_if_ne d7_140 (fun hc140 => ?_) (fun hc140 => ?_)
          · refine r_iconst (0 : Int32) rfl d7_161 ?_
            exact J162 0 ⟨fun q => absurd rfl q, fun q => absurd (h5.mp hc140) (q.2.2.1)⟩
          · refine r_iload d7_143 rfl ?_
            refine r_iload d7_145 rfl ?_
            refine r_iload d7_147 rfl ?_
            refine r_iload d7_149 rfl ?_
            refine r_staticP [(.int (own_bt vs 2).toInt32), (.int (own_bt vs 3).toInt32), (.int (own_bt vs 4).toInt32), (.int (own_bt vs 5).toInt32)] [] rfl pd7_0 rfl (hw _ (List.mem_of_getElem? (i := 77) rfl)) (hw _ (List.mem_of_getElem? (i := 78) rfl)) (hw _ (List.mem_of_getElem? (i := 3) rfl)) (hw _ (List.mem_of_getElem? (i := 79) rfl)) (by decide) (w := (.int (if own_S vs 2 then 1 else 0))) (R' := ({ frames := 0, cells := 0, slots := 0, locals := 0 } : Room)) (ct13 hw (own_bt vs 2) (own_bt vs 3) (own_bt vs 4) (own_bt vs 5) l2 l3 l4 l5) d7_151 rfl (by decide) 0 rfl (by decide) rfl rfl (by decide) (by decide) ?_
            refine r_if_eq d7_154 (fun hc154 => ?_) (fun hc154 => ?_)
            · refine r_iconst (0 : Int32) rfl d7_161 ?_
              exact J162 0 ⟨fun q => absurd rfl q, fun q => (own_i0 hc154 q.2.2.2).elim⟩
            · refine r_iconst (1 : Int32) rfl d7_157 ?_
              refine r_goto d7_158 ?_
              exact J162 1 ⟨fun _ => ⟨own_ltN (b := 7) (by omega) (by omega) hc130, fun z => (h4.mpr z) hc135, fun z => (h5.mpr z) hc140, own_i1 hc154⟩, fun _ => by decide⟩
    refine r_icmp_lt d7_99 (fun hc99 => ?_) (fun hc99 => ?_)
    · refine r_iconst (0 : Int32) rfl d7_124 ?_
      exact J125 0 ⟨fun q => absurd rfl q, fun q => absurd ((n32_lt (a := n) (b := 6) (by omega) (by omega)).mp hc99) (by have := q.1; omega)⟩
    · refine r_iload d7_102 rfl ?_
      refine r_if_ne d7_104 (fun hc104 => ?_) (fun hc104 => ?_)
      · refine r_iconst (0 : Int32) rfl d7_124 ?_
        exact J125 0 ⟨fun q => absurd rfl q, fun q => absurd (h4.mp hc104) (q.2.1)⟩
      · refine r_iloadN d7_107 rfl ?_
        refine r_iload d7_108 rfl ?_
        refine r_iload d7_110 rfl ?_
        refine r_iload d7_112 rfl ?_
        refine r_staticP [(.int (own_bt vs 1).toInt32), (.int (own_bt vs 2).toInt32), (.int (own_bt vs 3).toInt32), (.int (own_bt vs 4).toInt32)] [] rfl pd7_0 rfl (hw _ (List.mem_of_getElem? (i := 77) rfl)) (hw _ (List.mem_of_getElem? (i := 78) rfl)) (hw _ (List.mem_of_getElem? (i := 3) rfl)) (hw _ (List.mem_of_getElem? (i := 79) rfl)) (by decide) (w := (.int (if own_S vs 1 then 1 else 0))) (R' := ({ frames := 0, cells := 0, slots := 0, locals := 0 } : Room)) (ct13 hw (own_bt vs 1) (own_bt vs 2) (own_bt vs 3) (own_bt vs 4) l1 l2 l3 l4) d7_114 rfl (by decide) 0 rfl (by decide) rfl rfl (by decide) (by decide) ?_
        refine r_if_eq d7_117 (fun hc117 => ?_) (fun hc117 => ?_)
        · refine r_iconst (0 : Int32) rfl d7_124 ?_
          exact J125 0 ⟨fun q => absurd rfl q, fun q => (own_i0 hc117 q.2.2).elim⟩
        · refine r_iconst (1 : Int32) rfl d7_120 ?_
          refine r_goto d7_121 ?_
          exact J125 1 ⟨fun _ => ⟨own_ltN (b := 6) (by omega) (by omega) hc99, fun z => (h4.mpr z) hc104, own_i1 hc117⟩, fun _ => by decide⟩
  refine r_icmp_lt d7_74 (fun hc74 => ?_) (fun hc74 => ?_)
  · refine r_iconst (0 : Int32) rfl d7_93 ?_
    exact J94 0 ⟨fun q => absurd rfl q, fun q => absurd ((n32_lt (a := n) (b := 5) (by omega) (by omega)).mp hc74) (by have := q.1; omega)⟩
  · refine r_iloadN d7_77 rfl ?_
    refine r_iloadN d7_78 rfl ?_
    refine r_iload d7_79 rfl ?_
    refine r_iload d7_81 rfl ?_
    refine r_staticP [(.int (own_bt vs 0).toInt32), (.int (own_bt vs 1).toInt32), (.int (own_bt vs 2).toInt32), (.int (own_bt vs 3).toInt32)] [] rfl pd7_0 rfl (hw _ (List.mem_of_getElem? (i := 77) rfl)) (hw _ (List.mem_of_getElem? (i := 78) rfl)) (hw _ (List.mem_of_getElem? (i := 3) rfl)) (hw _ (List.mem_of_getElem? (i := 79) rfl)) (by decide) (w := (.int (if own_S vs 0 then 1 else 0))) (R' := ({ frames := 0, cells := 0, slots := 0, locals := 0 } : Room)) (ct13 hw (own_bt vs 0) (own_bt vs 1) (own_bt vs 2) (own_bt vs 3) l0 l1 l2 l3) d7_83 rfl (by decide) 0 rfl (by decide) rfl rfl (by decide) (by decide) ?_
    refine r_if_eq d7_86 (fun hc86 => ?_) (fun hc86 => ?_)
    · refine r_iconst (0 : Int32) rfl d7_93 ?_
      exact J94 0 ⟨fun q => absurd rfl q, fun q => (own_i0 hc86 q.2).elim⟩
    · refine r_iconst (1 : Int32) rfl d7_89 ?_
      refine r_goto d7_90 ?_
      exact J94 1 ⟨fun _ => ⟨own_ltN (b := 5) (by omega) (by omega) hc74, own_i1 hc86⟩, fun _ => by decide⟩
theorem d0_0 : D code 0 (.bipush 8) 2 2 := ⟨by decide +kernel, rfl⟩
theorem d0_2 : D code 2 (.newarray .byte) 2 4 := ⟨by decide +kernel, rfl⟩
theorem d0_4 : D code 4 (.astore 5) 2 6 := ⟨by decide +kernel, rfl⟩
theorem d0_6 : D code 6 (.aload 5) 2 8 := ⟨by decide +kernel, rfl⟩
theorem d0_8 : D code 8 (.iconst 0) 1 9 := ⟨by decide +kernel, rfl⟩
theorem d0_9 : D code 9 (.lload_n 0) 1 10 := ⟨by decide +kernel, rfl⟩
theorem d0_10 : D code 10 (.l2i) 1 11 := ⟨by decide +kernel, rfl⟩
theorem d0_11 : D code 11 (.i2b) 1 12 := ⟨by decide +kernel, rfl⟩
theorem d0_12 : D code 12 (.bastore) 1 13 := ⟨by decide +kernel, rfl⟩
theorem d0_13 : D code 13 (.aload 5) 2 15 := ⟨by decide +kernel, rfl⟩
theorem d0_15 : D code 15 (.iconst 1) 1 16 := ⟨by decide +kernel, rfl⟩
theorem d0_16 : D code 16 (.iload_n 2) 1 17 := ⟨by decide +kernel, rfl⟩
theorem d0_17 : D code 17 (.iconst 1) 1 18 := ⟨by decide +kernel, rfl⟩
theorem d0_18 : D code 18 (.aload 5) 2 20 := ⟨by decide +kernel, rfl⟩
theorem d0_20 : D code 20 (.iconst 0) 1 21 := ⟨by decide +kernel, rfl⟩
theorem d0_21 : D code 21 (.baload) 1 22 := ⟨by decide +kernel, rfl⟩
theorem d0_22 : D code 22 (.lload_n 0) 1 23 := ⟨by decide +kernel, rfl⟩
theorem d0_23 : D code 23 (.invokestatic 7) 3 26 := ⟨by decide +kernel, rfl⟩
theorem d0_26 : D code 26 (.bastore) 1 27 := ⟨by decide +kernel, rfl⟩
theorem d0_27 : D code 27 (.aload 5) 2 29 := ⟨by decide +kernel, rfl⟩
theorem d0_29 : D code 29 (.iconst 2) 1 30 := ⟨by decide +kernel, rfl⟩
theorem d0_30 : D code 30 (.iload_n 2) 1 31 := ⟨by decide +kernel, rfl⟩
theorem d0_31 : D code 31 (.iconst 2) 1 32 := ⟨by decide +kernel, rfl⟩
theorem d0_32 : D code 32 (.aload 5) 2 34 := ⟨by decide +kernel, rfl⟩
theorem d0_34 : D code 34 (.iconst 1) 1 35 := ⟨by decide +kernel, rfl⟩
theorem d0_35 : D code 35 (.baload) 1 36 := ⟨by decide +kernel, rfl⟩
theorem d0_36 : D code 36 (.lload_n 0) 1 37 := ⟨by decide +kernel, rfl⟩
theorem d0_37 : D code 37 (.invokestatic 7) 3 40 := ⟨by decide +kernel, rfl⟩
theorem d0_40 : D code 40 (.bastore) 1 41 := ⟨by decide +kernel, rfl⟩
theorem d0_41 : D code 41 (.aload 5) 2 43 := ⟨by decide +kernel, rfl⟩
theorem d0_43 : D code 43 (.iconst 3) 1 44 := ⟨by decide +kernel, rfl⟩
theorem d0_44 : D code 44 (.iload_n 2) 1 45 := ⟨by decide +kernel, rfl⟩
theorem d0_45 : D code 45 (.iconst 3) 1 46 := ⟨by decide +kernel, rfl⟩
theorem d0_46 : D code 46 (.aload 5) 2 48 := ⟨by decide +kernel, rfl⟩
theorem d0_48 : D code 48 (.iconst 2) 1 49 := ⟨by decide +kernel, rfl⟩
theorem d0_49 : D code 49 (.baload) 1 50 := ⟨by decide +kernel, rfl⟩
theorem d0_50 : D code 50 (.lload_n 0) 1 51 := ⟨by decide +kernel, rfl⟩
theorem d0_51 : D code 51 (.invokestatic 7) 3 54 := ⟨by decide +kernel, rfl⟩
theorem d0_54 : D code 54 (.bastore) 1 55 := ⟨by decide +kernel, rfl⟩
theorem d0_55 : D code 55 (.aload 5) 2 57 := ⟨by decide +kernel, rfl⟩
theorem d0_57 : D code 57 (.iconst 4) 1 58 := ⟨by decide +kernel, rfl⟩
theorem d0_58 : D code 58 (.iload_n 2) 1 59 := ⟨by decide +kernel, rfl⟩
theorem d0_59 : D code 59 (.iconst 4) 1 60 := ⟨by decide +kernel, rfl⟩
theorem d0_60 : D code 60 (.aload 5) 2 62 := ⟨by decide +kernel, rfl⟩
theorem d0_62 : D code 62 (.iconst 3) 1 63 := ⟨by decide +kernel, rfl⟩
theorem d0_63 : D code 63 (.baload) 1 64 := ⟨by decide +kernel, rfl⟩
theorem d0_64 : D code 64 (.lload_n 0) 1 65 := ⟨by decide +kernel, rfl⟩
theorem d0_65 : D code 65 (.invokestatic 7) 3 68 := ⟨by decide +kernel, rfl⟩
theorem d0_68 : D code 68 (.bastore) 1 69 := ⟨by decide +kernel, rfl⟩
theorem d0_69 : D code 69 (.aload 5) 2 71 := ⟨by decide +kernel, rfl⟩
theorem d0_71 : D code 71 (.iconst 5) 1 72 := ⟨by decide +kernel, rfl⟩
theorem d0_72 : D code 72 (.iload_n 2) 1 73 := ⟨by decide +kernel, rfl⟩
theorem d0_73 : D code 73 (.iconst 5) 1 74 := ⟨by decide +kernel, rfl⟩
theorem d0_74 : D code 74 (.aload 5) 2 76 := ⟨by decide +kernel, rfl⟩
theorem d0_76 : D code 76 (.iconst 4) 1 77 := ⟨by decide +kernel, rfl⟩
theorem d0_77 : D code 77 (.baload) 1 78 := ⟨by decide +kernel, rfl⟩
theorem d0_78 : D code 78 (.lload_n 0) 1 79 := ⟨by decide +kernel, rfl⟩
theorem d0_79 : D code 79 (.invokestatic 7) 3 82 := ⟨by decide +kernel, rfl⟩
theorem d0_82 : D code 82 (.bastore) 1 83 := ⟨by decide +kernel, rfl⟩
theorem d0_83 : D code 83 (.aload 5) 2 85 := ⟨by decide +kernel, rfl⟩
theorem d0_85 : D code 85 (.bipush 6) 2 87 := ⟨by decide +kernel, rfl⟩
theorem d0_87 : D code 87 (.iload_n 2) 1 88 := ⟨by decide +kernel, rfl⟩
theorem d0_88 : D code 88 (.bipush 6) 2 90 := ⟨by decide +kernel, rfl⟩
theorem d0_90 : D code 90 (.aload 5) 2 92 := ⟨by decide +kernel, rfl⟩
theorem d0_92 : D code 92 (.iconst 5) 1 93 := ⟨by decide +kernel, rfl⟩
theorem d0_93 : D code 93 (.baload) 1 94 := ⟨by decide +kernel, rfl⟩
theorem d0_94 : D code 94 (.lload_n 0) 1 95 := ⟨by decide +kernel, rfl⟩
theorem d0_95 : D code 95 (.invokestatic 7) 3 98 := ⟨by decide +kernel, rfl⟩
theorem d0_98 : D code 98 (.bastore) 1 99 := ⟨by decide +kernel, rfl⟩
theorem d0_99 : D code 99 (.aload 5) 2 101 := ⟨by decide +kernel, rfl⟩
theorem d0_101 : D code 101 (.bipush 7) 2 103 := ⟨by decide +kernel, rfl⟩
theorem d0_103 : D code 103 (.iload_n 2) 1 104 := ⟨by decide +kernel, rfl⟩
theorem d0_104 : D code 104 (.bipush 7) 2 106 := ⟨by decide +kernel, rfl⟩
theorem d0_106 : D code 106 (.aload 5) 2 108 := ⟨by decide +kernel, rfl⟩
theorem d0_108 : D code 108 (.bipush 6) 2 110 := ⟨by decide +kernel, rfl⟩
theorem d0_110 : D code 110 (.baload) 1 111 := ⟨by decide +kernel, rfl⟩
theorem d0_111 : D code 111 (.lload_n 0) 1 112 := ⟨by decide +kernel, rfl⟩
theorem d0_112 : D code 112 (.invokestatic 7) 3 115 := ⟨by decide +kernel, rfl⟩
theorem d0_115 : D code 115 (.bastore) 1 116 := ⟨by decide +kernel, rfl⟩
theorem d0_116 : D code 116 (.iload_n 3) 1 117 := ⟨by decide +kernel, rfl⟩
theorem d0_117 : D code 117 (.ldc 13) 2 119 := ⟨by decide +kernel, rfl⟩
theorem d0_119 : D code 119 (.iand) 1 120 := ⟨by decide +kernel, rfl⟩
theorem d0_120 : D code 120 (.bipush 9) 2 122 := ⟨by decide +kernel, rfl⟩
theorem d0_122 : D code 122 (.irem) 1 123 := ⟨by decide +kernel, rfl⟩
theorem d0_123 : D code 123 (.istore 6) 2 125 := ⟨by decide +kernel, rfl⟩
theorem d0_125 : D code 125 (.iload 4) 2 127 := ⟨by decide +kernel, rfl⟩
theorem d0_127 : D code 127 (.ldc 13) 2 129 := ⟨by decide +kernel, rfl⟩
theorem d0_129 : D code 129 (.iand) 1 130 := ⟨by decide +kernel, rfl⟩
theorem d0_130 : D code 130 (.bipush 9) 2 132 := ⟨by decide +kernel, rfl⟩
theorem d0_132 : D code 132 (.irem) 1 133 := ⟨by decide +kernel, rfl⟩
theorem d0_133 : D code 133 (.istore 7) 2 135 := ⟨by decide +kernel, rfl⟩
theorem d0_135 : D code 135 (.bipush 8) 2 137 := ⟨by decide +kernel, rfl⟩
theorem d0_137 : D code 137 (.newarray .byte) 2 139 := ⟨by decide +kernel, rfl⟩
theorem d0_139 : D code 139 (.astore 8) 2 141 := ⟨by decide +kernel, rfl⟩
theorem d0_141 : D code 141 (.new 14) 3 144 := ⟨by decide +kernel, rfl⟩
theorem d0_144 : D code 144 (.dup) 1 145 := ⟨by decide +kernel, rfl⟩
theorem d0_145 : D code 145 (.invokespecial 16) 3 148 := ⟨by decide +kernel, rfl⟩
theorem d0_148 : D code 148 (.astore 9) 2 150 := ⟨by decide +kernel, rfl⟩
theorem d0_150 : D code 150 (.aload 9) 2 152 := ⟨by decide +kernel, rfl⟩
theorem d0_152 : D code 152 (.aload 5) 2 154 := ⟨by decide +kernel, rfl⟩
theorem d0_154 : D code 154 (.iload 6) 2 156 := ⟨by decide +kernel, rfl⟩
theorem d0_156 : D code 156 (.invokevirtual 17) 3 159 := ⟨by decide +kernel, rfl⟩
theorem d0_159 : D code 159 (.aload 9) 2 161 := ⟨by decide +kernel, rfl⟩
theorem d0_161 : D code 161 (.aload 8) 2 163 := ⟨by decide +kernel, rfl⟩
theorem d0_163 : D code 163 (.iconst 0) 1 164 := ⟨by decide +kernel, rfl⟩
theorem d0_164 : D code 164 (.iload 7) 2 166 := ⟨by decide +kernel, rfl⟩
theorem d0_166 : D code 166 (.invokevirtual 21) 3 169 := ⟨by decide +kernel, rfl⟩
theorem d0_169 : D code 169 (.pop) 1 170 := ⟨by decide +kernel, rfl⟩
theorem d0_170 : D code 170 (.aload 9) 2 172 := ⟨by decide +kernel, rfl⟩
theorem d0_172 : D code 172 (.aload 5) 2 174 := ⟨by decide +kernel, rfl⟩
theorem d0_174 : D code 174 (.iload 6) 2 176 := ⟨by decide +kernel, rfl⟩
theorem d0_176 : D code 176 (.invokevirtual 17) 3 179 := ⟨by decide +kernel, rfl⟩
theorem d0_179 : D code 179 (.aload 5) 2 181 := ⟨by decide +kernel, rfl⟩
theorem d0_181 : D code 181 (.iload 6) 2 183 := ⟨by decide +kernel, rfl⟩
theorem d0_183 : D code 183 (.invokestatic 25) 3 186 := ⟨by decide +kernel, rfl⟩
theorem d0_186 : D code 186 (.istore 10) 2 188 := ⟨by decide +kernel, rfl⟩
theorem d0_188 : D code 188 (.aload 9) 2 190 := ⟨by decide +kernel, rfl⟩
theorem d0_190 : D code 190 (.invokevirtual 29) 3 193 := ⟨by decide +kernel, rfl⟩
theorem d0_193 : D code 193 (.aload 5) 2 195 := ⟨by decide +kernel, rfl⟩
theorem d0_195 : DB code 195 (.if_acmp .ne) 55 198 250 := ⟨by decide +kernel, rfl, by decide, by decide⟩
theorem d0_198 : D code 198 (.aload 9) 2 200 := ⟨by decide +kernel, rfl⟩
theorem d0_200 : D code 200 (.invokevirtual 33) 3 203 := ⟨by decide +kernel, rfl⟩
theorem d0_203 : D code 203 (.iload 6) 2 205 := ⟨by decide +kernel, rfl⟩
theorem d0_205 : DB code 205 (.if_icmp .ne) 45 208 250 := ⟨by decide +kernel, rfl, by decide, by decide⟩
theorem d0_208 : D code 208 (.aload 9) 2 210 := ⟨by decide +kernel, rfl⟩
theorem d0_210 : D code 210 (.invokevirtual 37) 3 213 := ⟨by decide +kernel, rfl⟩
theorem d0_213 : D code 213 (.iload 10) 2 215 := ⟨by decide +kernel, rfl⟩
theorem d0_215 : DB code 215 (.if_icmp .ne) 35 218 250 := ⟨by decide +kernel, rfl, by decide, by decide⟩
theorem d0_218 : D code 218 (.aload 9) 2 220 := ⟨by decide +kernel, rfl⟩
theorem d0_220 : D code 220 (.invokevirtual 40) 3 223 := ⟨by decide +kernel, rfl⟩
theorem d0_223 : D code 223 (.iload 10) 2 225 := ⟨by decide +kernel, rfl⟩
theorem d0_225 : DB code 225 (.if_icmp .ne) 25 228 250 := ⟨by decide +kernel, rfl, by decide, by decide⟩
theorem d0_228 : D code 228 (.aload 9) 2 230 := ⟨by decide +kernel, rfl⟩
theorem d0_230 : D code 230 (.invokevirtual 43) 3 233 := ⟨by decide +kernel, rfl⟩
theorem d0_233 : D code 233 (.iload 10) 2 235 := ⟨by decide +kernel, rfl⟩
theorem d0_235 : DB code 235 (.ifCond .ne) 7 238 242 := ⟨by decide +kernel, rfl, by decide, by decide⟩
theorem d0_238 : D code 238 (.iconst 1) 1 239 := ⟨by decide +kernel, rfl⟩
theorem d0_239 : DB code 239 (.goto) 4 242 243 := ⟨by decide +kernel, rfl, by decide, by decide⟩
theorem d0_242 : D code 242 (.iconst 0) 1 243 := ⟨by decide +kernel, rfl⟩
theorem d0_243 : DB code 243 (.if_icmp .ne) 7 246 250 := ⟨by decide +kernel, rfl, by decide, by decide⟩
theorem d0_246 : D code 246 (.iconst 1) 1 247 := ⟨by decide +kernel, rfl⟩
theorem d0_247 : DB code 247 (.goto) 4 250 251 := ⟨by decide +kernel, rfl, by decide, by decide⟩
theorem d0_251 : D code 251 (.ireturn) 1 252 := ⟨by decide +kernel, rfl⟩
theorem pd0_0 : parseMethodDescriptor "(IIBJ)B" = some ⟨[.int, .int, .byte, .long], some .byte⟩ := by decide +kernel
theorem pd0_1 : parseMethodDescriptor "()V" = some ⟨[], none⟩ := by decide +kernel
theorem pd0_2 : parseMethodDescriptor "([BI)V" = some ⟨[(.array .byte), .int], none⟩ := by decide +kernel
theorem pd0_3 : parseMethodDescriptor "([BII)I" = some ⟨[(.array .byte), .int, .int], some .int⟩ := by decide +kernel
theorem pd0_4 : parseMethodDescriptor "([BI)I" = some ⟨[(.array .byte), .int], some .int⟩ := by decide +kernel
theorem pd0_5 : parseMethodDescriptor "()[B" = some ⟨[], some (.array .byte)⟩ := by decide +kernel
theorem pd0_6 : parseMethodDescriptor "()I" = some ⟨[], some .int⟩ := by decide +kernel
theorem pd0_7 : parseMethodDescriptor "()Z" = some ⟨[], some .boolean⟩ := by decide +kernel
theorem pn0 : plainFor (⟨"com/example/quire/quire/core/Bzip2RunsHoldPinLaw", "law", "(JIII)Z"⟩ : MethodName) = true := by first | exact plainFor_of_name (by first | (simp [plainName, overriddenIn]; done) | decide +kernel) | exact Jvm.Free.JP.mathPlain rfl (by decide +kernel) | decide +kernel
set_option maxRecDepth 65536 in
set_option maxHeartbeats 40000000 in
theorem ct0 {l : Launch} {Z : State} {a0 : Array Value} (hw : ∀ d ∈ tables_1, d.before a0 Z = true) {n0 : Nat} {h0 : Heap} (hz : n0 ≤ h0.size) (p1 : Int64) (p2 p3 p4 : Int32) : Ct l x code maxLocals ret tables_1 room_1 Z n0 #[(.long p1), (.int p2), (.int p3), (.int p4)] h0 (fun v h => v = some (.int 1)) := by
  refine Ct.of (ls := [.val (.long p1), .second, .val (.int p2), .val (.int p3), .val (.int p4), .unset, .unset, .unset, .unset, .unset, .unset]) pn0 (fun m => by first | (simp [entryFrame, mkF, argsToLocals, Value.category, maxLocals]; done) | rfl) ?_
  refine r_bipush (8 : Int32) rfl d0_0 ?_
  refine r_newarr 8 (hw _ (List.mem_of_getElem? (i := 0) rfl)) d0_2 (by decide) (by decide) (by decide) (by decide) (by decide) ?_
  intro hn2 cA2 E2 A2
  obtain ⟨b2, g2⟩ : ∃ z, z = h0.size := ⟨_, rfl⟩
  rw [← g2] at A2 ⊢
  have V2 : Ary Z hn2 b2 .byte [0, 0, 0, 0, 0, 0, 0, 0] := Ary.new A2 rfl rfl
  show ORun _ _ _ _ _ _ _ _ _ _ hn2 1 8 4 [.val (.long p1), .second, .val (.int p2), .val (.int p3), .val (.int p4), .unset, .unset, .unset, .unset, .unset, .unset] [(.ref b2)]
  have ge2 : n0 ≤ b2 := by rw [g2]; exact hz
  refine r_astore d0_4 rfl [.val (.long p1), .second, .val (.int p2), .val (.int p3), .val (.int p4), .val (.ref b2), .unset, .unset, .unset, .unset, .unset] rfl ?_
  refine r_aload d0_6 rfl rfl ?_
  refine r_iconst (0 : Int32) rfl d0_8 ?_
  refine r_lloadN d0_9 rfl ?_
  refine r_l2i d0_10 ?_
  refine r_i2b d0_11 ?_
  refine r_stB 0 [(nar .byte ((p1.toInt32).toInt8.toInt32)), (0 : Int32), (0 : Int32), (0 : Int32), (0 : Int32), (0 : Int32), (0 : Int32), (0 : Int32)] V2 (by decide) rfl (Nat.le_of_ble_eq_true rfl) rfl ge2 d0_12 ?_
  intro h12 W12 V12
  refine r_aload d0_13 rfl rfl ?_
  refine r_iconst (1 : Int32) rfl d0_15 ?_
  refine r_iloadN d0_16 rfl ?_
  refine r_iconst (1 : Int32) rfl d0_17 ?_
  refine r_aload d0_18 rfl rfl ?_
  refine r_iconst (0 : Int32) rfl d0_20 ?_
  refine r_ldB (nar .byte ((p1.toInt32).toInt8.toInt32)) V12 (by decide) rfl d0_21 ?_
  refine r_lloadN d0_22 rfl ?_
  refine r_static [(.int p2), (.int (1 : Int32)), (.int (nar .byte ((p1.toInt32).toInt8.toInt32))), (.long p1)] [(.int (1 : Int32)), (.ref b2)] rfl pd0_0 rfl (hw _ (List.mem_of_getElem? (i := 1) rfl)) (hw _ (List.mem_of_getElem? (i := 2) rfl)) (hw _ (List.mem_of_getElem? (i := 3) rfl)) (hw _ (List.mem_of_getElem? (i := 4) rfl)) (by decide) (R' := ({ frames := 0, cells := 0, slots := 0, locals := 0 } : Room)) (ct1 hw p2 (1 : Int32) (nar .byte ((p1.toInt32).toInt8.toInt32)) p1) d0_23 rfl (by decide) 2 rfl (by decide) (by decide) (by decide) ?_
  rintro _ hq23 ⟨x23, rfl, eq23⟩
  rw [eq23]
  show ORun _ _ _ _ _ _ _ _ _ _ h12 1 8 26 [.val (.long p1), .second, .val (.int p2), .val (.int p3), .val (.int p4), .val (.ref b2), .unset, .unset, .unset, .unset, .unset] [(.int x23), (.int (1 : Int32)), (.ref b2)]
  refine r_stB 1 [(nar .byte ((p1.toInt32).toInt8.toInt32)), (nar .byte x23), (0 : Int32), (0 : Int32), (0 : Int32), (0 : Int32), (0 : Int32), (0 : Int32)] V12 (by decide) rfl (Nat.le_of_ble_eq_true rfl) rfl ge2 d0_26 ?_
  intro h26 W26 V26
  refine r_aload d0_27 rfl rfl ?_
  refine r_iconst (2 : Int32) rfl d0_29 ?_
  refine r_iloadN d0_30 rfl ?_
  refine r_iconst (2 : Int32) rfl d0_31 ?_
  refine r_aload d0_32 rfl rfl ?_
  refine r_iconst (1 : Int32) rfl d0_34 ?_
  refine r_ldB (nar .byte x23) V26 (by decide) rfl d0_35 ?_
  refine r_lloadN d0_36 rfl ?_
  refine r_static [(.int p2), (.int (2 : Int32)), (.int (nar .byte x23)), (.long p1)] [(.int (2 : Int32)), (.ref b2)] rfl pd0_0 rfl (hw _ (List.mem_of_getElem? (i := 1) rfl)) (hw _ (List.mem_of_getElem? (i := 2) rfl)) (hw _ (List.mem_of_getElem? (i := 3) rfl)) (hw _ (List.mem_of_getElem? (i := 4) rfl)) (by decide) (R' := ({ frames := 0, cells := 0, slots := 0, locals := 0 } : Room)) (ct1 hw p2 (2 : Int32) (nar .byte x23) p1) d0_37 rfl (by decide) 2 rfl (by decide) (by decide) (by decide) ?_
  rintro _ hq37 ⟨x37, rfl, eq37⟩
  rw [eq37]
  show ORun _ _ _ _ _ _ _ _ _ _ h26 1 8 40 [.val (.long p1), .second, .val (.int p2), .val (.int p3), .val (.int p4), .val (.ref b2), .unset, .unset, .unset, .unset, .unset] [(.int x37), (.int (2 : Int32)), (.ref b2)]
  refine r_stB 2 [(nar .byte ((p1.toInt32).toInt8.toInt32)), (nar .byte x23), (nar .byte x37), (0 : Int32), (0 : Int32), (0 : Int32), (0 : Int32), (0 : Int32)] V26 (by decide) rfl (Nat.le_of_ble_eq_true rfl) rfl ge2 d0_40 ?_
  intro h40 W40 V40
  refine r_aload d0_41 rfl rfl ?_
  refine r_iconst (3 : Int32) rfl d0_43 ?_
  refine r_iloadN d0_44 rfl ?_
  refine r_iconst (3 : Int32) rfl d0_45 ?_
  refine r_aload d0_46 rfl rfl ?_
  refine r_iconst (2 : Int32) rfl d0_48 ?_
  refine r_ldB (nar .byte x37) V40 (by decide) rfl d0_49 ?_
  refine r_lloadN d0_50 rfl ?_
  refine r_static [(.int p2), (.int (3 : Int32)), (.int (nar .byte x37)), (.long p1)] [(.int (3 : Int32)), (.ref b2)] rfl pd0_0 rfl (hw _ (List.mem_of_getElem? (i := 1) rfl)) (hw _ (List.mem_of_getElem? (i := 2) rfl)) (hw _ (List.mem_of_getElem? (i := 3) rfl)) (hw _ (List.mem_of_getElem? (i := 4) rfl)) (by decide) (R' := ({ frames := 0, cells := 0, slots := 0, locals := 0 } : Room)) (ct1 hw p2 (3 : Int32) (nar .byte x37) p1) d0_51 rfl (by decide) 2 rfl (by decide) (by decide) (by decide) ?_
  rintro _ hq51 ⟨x51, rfl, eq51⟩
  rw [eq51]
  show ORun _ _ _ _ _ _ _ _ _ _ h40 1 8 54 [.val (.long p1), .second, .val (.int p2), .val (.int p3), .val (.int p4), .val (.ref b2), .unset, .unset, .unset, .unset, .unset] [(.int x51), (.int (3 : Int32)), (.ref b2)]
  refine r_stB 3 [(nar .byte ((p1.toInt32).toInt8.toInt32)), (nar .byte x23), (nar .byte x37), (nar .byte x51), (0 : Int32), (0 : Int32), (0 : Int32), (0 : Int32)] V40 (by decide) rfl (Nat.le_of_ble_eq_true rfl) rfl ge2 d0_54 ?_
  intro h54 W54 V54
  refine r_aload d0_55 rfl rfl ?_
  refine r_iconst (4 : Int32) rfl d0_57 ?_
  refine r_iloadN d0_58 rfl ?_
  refine r_iconst (4 : Int32) rfl d0_59 ?_
  refine r_aload d0_60 rfl rfl ?_
  refine r_iconst (3 : Int32) rfl d0_62 ?_
  refine r_ldB (nar .byte x51) V54 (by decide) rfl d0_63 ?_
  refine r_lloadN d0_64 rfl ?_
  refine r_static [(.int p2), (.int (4 : Int32)), (.int (nar .byte x51)), (.long p1)] [(.int (4 : Int32)), (.ref b2)] rfl pd0_0 rfl (hw _ (List.mem_of_getElem? (i := 1) rfl)) (hw _ (List.mem_of_getElem? (i := 2) rfl)) (hw _ (List.mem_of_getElem? (i := 3) rfl)) (hw _ (List.mem_of_getElem? (i := 4) rfl)) (by decide) (R' := ({ frames := 0, cells := 0, slots := 0, locals := 0 } : Room)) (ct1 hw p2 (4 : Int32) (nar .byte x51) p1) d0_65 rfl (by decide) 2 rfl (by decide) (by decide) (by decide) ?_
  rintro _ hq65 ⟨x65, rfl, eq65⟩
  rw [eq65]
  show ORun _ _ _ _ _ _ _ _ _ _ h54 1 8 68 [.val (.long p1), .second, .val (.int p2), .val (.int p3), .val (.int p4), .val (.ref b2), .unset, .unset, .unset, .unset, .unset] [(.int x65), (.int (4 : Int32)), (.ref b2)]
  refine r_stB 4 [(nar .byte ((p1.toInt32).toInt8.toInt32)), (nar .byte x23), (nar .byte x37), (nar .byte x51), (nar .byte x65), (0 : Int32), (0 : Int32), (0 : Int32)] V54 (by decide) rfl (Nat.le_of_ble_eq_true rfl) rfl ge2 d0_68 ?_
  intro h68 W68 V68
  refine r_aload d0_69 rfl rfl ?_
  refine r_iconst (5 : Int32) rfl d0_71 ?_
  refine r_iloadN d0_72 rfl ?_
  refine r_iconst (5 : Int32) rfl d0_73 ?_
  refine r_aload d0_74 rfl rfl ?_
  refine r_iconst (4 : Int32) rfl d0_76 ?_
  refine r_ldB (nar .byte x65) V68 (by decide) rfl d0_77 ?_
  refine r_lloadN d0_78 rfl ?_
  refine r_static [(.int p2), (.int (5 : Int32)), (.int (nar .byte x65)), (.long p1)] [(.int (5 : Int32)), (.ref b2)] rfl pd0_0 rfl (hw _ (List.mem_of_getElem? (i := 1) rfl)) (hw _ (List.mem_of_getElem? (i := 2) rfl)) (hw _ (List.mem_of_getElem? (i := 3) rfl)) (hw _ (List.mem_of_getElem? (i := 4) rfl)) (by decide) (R' := ({ frames := 0, cells := 0, slots := 0, locals := 0 } : Room)) (ct1 hw p2 (5 : Int32) (nar .byte x65) p1) d0_79 rfl (by decide) 2 rfl (by decide) (by decide) (by decide) ?_
  rintro _ hq79 ⟨x79, rfl, eq79⟩
  rw [eq79]
  show ORun _ _ _ _ _ _ _ _ _ _ h68 1 8 82 [.val (.long p1), .second, .val (.int p2), .val (.int p3), .val (.int p4), .val (.ref b2), .unset, .unset, .unset, .unset, .unset] [(.int x79), (.int (5 : Int32)), (.ref b2)]
  refine r_stB 5 [(nar .byte ((p1.toInt32).toInt8.toInt32)), (nar .byte x23), (nar .byte x37), (nar .byte x51), (nar .byte x65), (nar .byte x79), (0 : Int32), (0 : Int32)] V68 (by decide) rfl (Nat.le_of_ble_eq_true rfl) rfl ge2 d0_82 ?_
  intro h82 W82 V82
  refine r_aload d0_83 rfl rfl ?_
  refine r_bipush (6 : Int32) rfl d0_85 ?_
  refine r_iloadN d0_87 rfl ?_
  refine r_bipush (6 : Int32) rfl d0_88 ?_
  refine r_aload d0_90 rfl rfl ?_
  refine r_iconst (5 : Int32) rfl d0_92 ?_
  refine r_ldB (nar .byte x79) V82 (by decide) rfl d0_93 ?_
  refine r_lloadN d0_94 rfl ?_
  refine r_static [(.int p2), (.int (6 : Int32)), (.int (nar .byte x79)), (.long p1)] [(.int (6 : Int32)), (.ref b2)] rfl pd0_0 rfl (hw _ (List.mem_of_getElem? (i := 1) rfl)) (hw _ (List.mem_of_getElem? (i := 2) rfl)) (hw _ (List.mem_of_getElem? (i := 3) rfl)) (hw _ (List.mem_of_getElem? (i := 4) rfl)) (by decide) (R' := ({ frames := 0, cells := 0, slots := 0, locals := 0 } : Room)) (ct1 hw p2 (6 : Int32) (nar .byte x79) p1) d0_95 rfl (by decide) 2 rfl (by decide) (by decide) (by decide) ?_
  rintro _ hq95 ⟨x95, rfl, eq95⟩
  rw [eq95]
  show ORun _ _ _ _ _ _ _ _ _ _ h82 1 8 98 [.val (.long p1), .second, .val (.int p2), .val (.int p3), .val (.int p4), .val (.ref b2), .unset, .unset, .unset, .unset, .unset] [(.int x95), (.int (6 : Int32)), (.ref b2)]
  refine r_stB 6 [(nar .byte ((p1.toInt32).toInt8.toInt32)), (nar .byte x23), (nar .byte x37), (nar .byte x51), (nar .byte x65), (nar .byte x79), (nar .byte x95), (0 : Int32)] V82 (by decide) rfl (Nat.le_of_ble_eq_true rfl) rfl ge2 d0_98 ?_
  intro h98 W98 V98
  refine r_aload d0_99 rfl rfl ?_
  refine r_bipush (7 : Int32) rfl d0_101 ?_
  refine r_iloadN d0_103 rfl ?_
  refine r_bipush (7 : Int32) rfl d0_104 ?_
  refine r_aload d0_106 rfl rfl ?_
  refine r_bipush (6 : Int32) rfl d0_108 ?_
  refine r_ldB (nar .byte x95) V98 (by decide) rfl d0_110 ?_
  refine r_lloadN d0_111 rfl ?_
  refine r_static [(.int p2), (.int (7 : Int32)), (.int (nar .byte x95)), (.long p1)] [(.int (7 : Int32)), (.ref b2)] rfl pd0_0 rfl (hw _ (List.mem_of_getElem? (i := 1) rfl)) (hw _ (List.mem_of_getElem? (i := 2) rfl)) (hw _ (List.mem_of_getElem? (i := 3) rfl)) (hw _ (List.mem_of_getElem? (i := 4) rfl)) (by decide) (R' := ({ frames := 0, cells := 0, slots := 0, locals := 0 } : Room)) (ct1 hw p2 (7 : Int32) (nar .byte x95) p1) d0_112 rfl (by decide) 2 rfl (by decide) (by decide) (by decide) ?_
  rintro _ hq112 ⟨x112, rfl, eq112⟩
  rw [eq112]
  show ORun _ _ _ _ _ _ _ _ _ _ h98 1 8 115 [.val (.long p1), .second, .val (.int p2), .val (.int p3), .val (.int p4), .val (.ref b2), .unset, .unset, .unset, .unset, .unset] [(.int x112), (.int (7 : Int32)), (.ref b2)]
  refine r_stB 7 [(nar .byte ((p1.toInt32).toInt8.toInt32)), (nar .byte x23), (nar .byte x37), (nar .byte x51), (nar .byte x65), (nar .byte x79), (nar .byte x95), (nar .byte x112)] V98 (by decide) rfl (Nat.le_of_ble_eq_true rfl) rfl ge2 d0_115 ?_
  intro h115 W115 V115
  obtain ⟨vs, V⟩ : ∃ vs : List Int32, own_B Z h115 b2 vs := ⟨_, V115, rfl, fun v hv => by
    simp only [List.mem_cons, List.not_mem_nil, or_false] at hv
    rcases hv with rfl | rfl | rfl | rfl | rfl | rfl | rfl | rfl <;> exact own_fit _⟩
  refine r_iloadN d0_116 rfl ?_
  refine r_ldc (v := (2147483647 : Int32)) (hw _ (List.mem_of_getElem? (i := 5) rfl)) d0_117 ?_
  refine r_iand d0_119 ?_
  refine r_bipush (9 : Int32) rfl d0_120 ?_
  refine r_irem d0_122 (by decide) ?_
  obtain ⟨n, e_n, l_n⟩ := n32_mod p3 9 (by decide) (by decide)
  rw [show (p3 &&& (2147483647 : Int32)) % (9 : Int32) = n.toInt32 from e_n]
  refine r_istore d0_123 [.val (.long p1), .second, .val (.int p2), .val (.int p3), .val (.int p4), .val (.ref b2), .val (.int n.toInt32), .unset, .unset, .unset, .unset] rfl ?_
  refine r_iload d0_125 rfl ?_
  refine r_ldc (v := (2147483647 : Int32)) (hw _ (List.mem_of_getElem? (i := 5) rfl)) d0_127 ?_
  refine r_iand d0_129 ?_
  refine r_bipush (9 : Int32) rfl d0_130 ?_
  refine r_irem d0_132 (by decide) ?_
  obtain ⟨c, e_c, l_c⟩ := n32_mod p4 9 (by decide) (by decide)
  rw [show (p4 &&& (2147483647 : Int32)) % (9 : Int32) = c.toInt32 from e_c]
  refine r_istore d0_133 [.val (.long p1), .second, .val (.int p2), .val (.int p3), .val (.int p4), .val (.ref b2), .val (.int n.toInt32), .val (.int c.toInt32), .unset, .unset, .unset] rfl ?_
  refine r_bipush (8 : Int32) rfl d0_135 ?_
  refine r_newarr 8 (hw _ (List.mem_of_getElem? (i := 0) rfl)) d0_137 (by decide) (by decide) (by decide) (by decide) (by decide) ?_
  intro hn137 cA137 E137 A137
  obtain ⟨b137, g137⟩ : ∃ z, z = h115.size := ⟨_, rfl⟩
  rw [← g137] at A137 ⊢
  have V137 : Ary Z hn137 b137 .byte [0, 0, 0, 0, 0, 0, 0, 0] := Ary.new A137 rfl rfl
  show ORun _ _ _ _ _ _ _ _ _ _ hn137 2 16 139 [.val (.long p1), .second, .val (.int p2), .val (.int p3), .val (.int p4), .val (.ref b2), .val (.int n.toInt32), .val (.int c.toInt32), .unset, .unset, .unset] [(.ref b137)]
  have V137b := V.ext E137
  have hbo : b2 ≠ b137 := by rw [g137]; exact Nat.ne_of_lt V.1.lt
  have go : n0 ≤ b137 := by rw [g137]; exact Nat.le_trans ge2 (Nat.le_of_lt V.1.lt)
  have O137 : own_O Z hn137 b137 := ⟨_, V137, rfl, fun v hv => by
    simp only [List.mem_cons, List.not_mem_nil, or_false] at hv
    rcases hv with rfl | rfl | rfl | rfl | rfl | rfl | rfl | rfl <;> rfl⟩
  refine r_astore d0_139 rfl [.val (.long p1), .second, .val (.int p2), .val (.int p3), .val (.int p4), .val (.ref b2), .val (.int n.toInt32), .val (.int c.toInt32), .val (.ref b137), .unset, .unset] rfl ?_
  refine r_new (hw _ (List.mem_of_getElem? (i := 6) rfl)) (hw _ (List.mem_of_getElem? (i := 7) rfl)) (hw _ (List.mem_of_getElem? (i := 8) rfl)) d0_141 (by decide) (by decide) ?_
  rintro hn141 ⟨E141, A141, D141⟩
  obtain ⟨b141, g141⟩ : ∃ z, z = hn137.size := ⟨_, rfl⟩
  rw [← g141] at A141 ⊢
  simp only [← g141] at D141
  have F141_bytes : Fld Z hn141 b141 "com/example/quire/quire/core/Bzip2Runs" "bytes" "[B" .null := D141 (Or.inl (hw _ (List.mem_of_getElem? (i := 16) rfl))) (ty := (.array .byte)) (by decide)
  have F141_length : Fld Z hn141 b141 "com/example/quire/quire/core/Bzip2Runs" "length" "I" (.int (0 : Int32)) := D141 (Or.inl (hw _ (List.mem_of_getElem? (i := 23) rfl))) (ty := .int) (by decide)
  have F141_gives : Fld Z hn141 b141 "com/example/quire/quire/core/Bzip2Runs" "gives" "I" (.int (0 : Int32)) := D141 (Or.inl (hw _ (List.mem_of_getElem? (i := 25) rfl))) (ty := .int) (by decide)
  have F141_next : Fld Z hn141 b141 "com/example/quire/quire/core/Bzip2Runs" "next" "I" (.int (0 : Int32)) := D141 (Or.inl (hw _ (List.mem_of_getElem? (i := 27) rfl))) (ty := .int) (by decide)
  have F141_given : Fld Z hn141 b141 "com/example/quire/quire/core/Bzip2Runs" "given" "I" (.int (0 : Int32)) := D141 (Or.inl (hw _ (List.mem_of_getElem? (i := 29) rfl))) (ty := .int) (by decide)
  have F141_previous : Fld Z hn141 b141 "com/example/quire/quire/core/Bzip2Runs" "previous" "I" (.int (0 : Int32)) := D141 (Or.inl (hw _ (List.mem_of_getElem? (i := 31) rfl))) (ty := .int) (by decide)
  have F141_equal : Fld Z hn141 b141 "com/example/quire/quire/core/Bzip2Runs" "equal" "I" (.int (0 : Int32)) := D141 (Or.inl (hw _ (List.mem_of_getElem? (i := 33) rfl))) (ty := .int) (by decide)
  have F141_repeats : Fld Z hn141 b141 "com/example/quire/quire/core/Bzip2Runs" "repeats" "I" (.int (0 : Int32)) := D141 (Or.inl (hw _ (List.mem_of_getElem? (i := 35) rfl))) (ty := .int) (by decide)
  show ORun _ _ _ _ _ _ _ _ _ _ hn141 3 24 144 [.val (.long p1), .second, .val (.int p2), .val (.int p3), .val (.int p4), .val (.ref b2), .val (.int n.toInt32), .val (.int c.toInt32), .val (.ref b137), .unset, .unset] [(.ref b141)]
  have V141 := V137b.ext E141
  obtain ⟨os141, O141⟩ := O137
  have hab : b2 ≠ b141 := by rw [g141]; exact Nat.ne_of_lt V137b.1.lt
  have hoa : b137 ≠ b141 := by rw [g141]; exact Nat.ne_of_lt O141.1.lt
  have gr : n0 ≤ b141 := by rw [g141]; exact Nat.le_trans go (Nat.le_of_lt O141.1.lt)
  have X141 : own_R Z hn141 b141 .null 0 0 0 0 0 0 0 := ⟨A141, F141_bytes, F141_length, F141_gives, F141_next, F141_given, F141_previous, F141_equal, F141_repeats⟩
  refine r_dup d0_144 rfl ?_
  refine r_special [] [(.ref b141)] b141 rfl pd0_1 rfl rfl (hw _ (List.mem_of_getElem? (i := 9) rfl)) (hw _ (List.mem_of_getElem? (i := 10) rfl)) (hw _ (List.mem_of_getElem? (i := 8) rfl)) (hw _ (List.mem_of_getElem? (i := 11) rfl)) (by decide) (R' := ({ frames := 1, cells := 1, slots := 0, locals := 12 } : Room)) (ct2 hw b141 X141 gr) d0_145 rfl (by decide) 1 rfl (by decide) (by decide) (by decide) ?_
  rintro _ h145 ⟨rfl, K145, bv, X145⟩
  have V145 := V141.keep K145 (ninS hab nin0)
  have O145 := (O141.ext E141).keep K145 (ninS hoa nin0)
  show ORun _ _ _ _ _ _ _ _ _ _ h145 4 24 148 [.val (.long p1), .second, .val (.int p2), .val (.int p3), .val (.int p4), .val (.ref b2), .val (.int n.toInt32), .val (.int c.toInt32), .val (.ref b137), .unset, .unset] [(.ref b141)]
  refine r_astore d0_148 rfl [.val (.long p1), .second, .val (.int p2), .val (.int p3), .val (.int p4), .val (.ref b2), .val (.int n.toInt32), .val (.int c.toInt32), .val (.ref b137), .val (.ref b141), .unset] rfl ?_
  refine r_aload d0_150 rfl rfl ?_
  refine r_aload d0_152 rfl rfl ?_
  refine r_iload d0_154 rfl ?_
  refine r_virtual [(.ref b2), (.int n.toInt32)] [] b141 X145.1 rfl pd0_2 rfl (hw _ (List.mem_of_getElem? (i := 17) rfl)) (hw _ (List.mem_of_getElem? (i := 18) rfl)) (hw _ (List.mem_of_getElem? (i := 20) rfl)) (hw _ (List.mem_of_getElem? (i := 19) rfl)) (hw _ (List.mem_of_getElem? (i := 8) rfl)) (hw _ (List.mem_of_getElem? (i := 21) rfl)) rfl (by decide) (R' := ({ frames := 0, cells := 0, slots := 0, locals := 0 } : Room)) (ct4 hw b141 b2 vs n _ _ _ _ _ _ _ _ X145 V145 (by omega) hab gr) d0_156 rfl (by decide) 0 rfl (by decide) (by decide) (by decide) ?_
  rintro _ h156 ⟨rfl, K156, X156⟩
  have V156 := V145.keep K156 (ninS hab nin0)
  have O156 := O145.keep K156 (ninS hoa nin0)
  show ORun _ _ _ _ _ _ _ _ _ _ h156 4 24 159 [.val (.long p1), .second, .val (.int p2), .val (.int p3), .val (.int p4), .val (.ref b2), .val (.int n.toInt32), .val (.int c.toInt32), .val (.ref b137), .val (.ref b141), .unset] []
  refine r_aload d0_159 rfl rfl ?_
  refine r_aload d0_161 rfl rfl ?_
  refine r_iconst (0 : Int32) rfl d0_163 ?_
  refine r_iload d0_164 rfl ?_
  refine r_virtual [(.ref b137), (.int (0 : Int32)), (.int c.toInt32)] [] b141 X156.1 rfl pd0_3 rfl (hw _ (List.mem_of_getElem? (i := 36) rfl)) (hw _ (List.mem_of_getElem? (i := 37) rfl)) (hw _ (List.mem_of_getElem? (i := 39) rfl)) (hw _ (List.mem_of_getElem? (i := 38) rfl)) (hw _ (List.mem_of_getElem? (i := 8) rfl)) (hw _ (List.mem_of_getElem? (i := 40) rfl)) rfl (by decide) (R' := ({ frames := 2, cells := 0, slots := 0, locals := 40 } : Room)) (ct5 hw b141 b2 b137 vs n c _ (by omega) (by omega) rfl X156 V156 ⟨_, O156⟩ hab hoa hbo gr go) d0_166 rfl (by decide) 0 rfl (by decide) (by decide) (by decide) ?_
  rintro _ h166 ⟨r166, n166, y166, v166, q166, t166, rfl, K166, X166⟩
  have V166 := V156.keep K166 (ninS hab (ninS hbo nin0))
  show ORun _ _ _ _ _ _ _ _ _ _ h166 4 24 169 [.val (.long p1), .second, .val (.int p2), .val (.int p3), .val (.int p4), .val (.ref b2), .val (.int n.toInt32), .val (.int c.toInt32), .val (.ref b137), .val (.ref b141), .unset] [(.int r166)]
  refine r_pop d0_169 rfl ?_
  refine r_aload d0_170 rfl rfl ?_
  refine r_aload d0_172 rfl rfl ?_
  refine r_iload d0_174 rfl ?_
  refine r_virtual [(.ref b2), (.int n.toInt32)] [] b141 X166.1 rfl pd0_2 rfl (hw _ (List.mem_of_getElem? (i := 17) rfl)) (hw _ (List.mem_of_getElem? (i := 18) rfl)) (hw _ (List.mem_of_getElem? (i := 20) rfl)) (hw _ (List.mem_of_getElem? (i := 19) rfl)) (hw _ (List.mem_of_getElem? (i := 8) rfl)) (hw _ (List.mem_of_getElem? (i := 21) rfl)) rfl (by decide) (R' := ({ frames := 0, cells := 0, slots := 0, locals := 0 } : Room)) (ct4 hw b141 b2 vs n _ _ _ _ _ _ _ _ X166 V166 (by omega) hab gr) d0_176 rfl (by decide) 0 rfl (by decide) (by decide) (by decide) ?_
  rintro _ h176 ⟨rfl, K176, X176⟩
  have V176 := V166.keep K176 (ninS hab nin0)
  obtain ⟨G, e_G⟩ : ∃ G, G = own_G vs n 0 (-1) 0 := ⟨_, rfl⟩
  rw [← e_G] at X176
  show ORun _ _ _ _ _ _ _ _ _ _ h176 4 24 179 [.val (.long p1), .second, .val (.int p2), .val (.int p3), .val (.int p4), .val (.ref b2), .val (.int n.toInt32), .val (.int c.toInt32), .val (.ref b137), .val (.ref b141), .unset] []
  refine r_aload d0_179 rfl rfl ?_
  refine r_iload d0_181 rfl ?_
  refine r_staticP [(.ref b2), (.int n.toInt32)] [] rfl pd0_4 rfl (hw _ (List.mem_of_getElem? (i := 45) rfl)) (hw _ (List.mem_of_getElem? (i := 46) rfl)) (hw _ (List.mem_of_getElem? (i := 3) rfl)) (hw _ (List.mem_of_getElem? (i := 47) rfl)) (by decide) (w := (.int G.toInt32)) (R' := ({ frames := 1, cells := 0, slots := 0, locals := 20 } : Room)) (by rw [e_G]; exact ct7 hw b2 vs n V176 (by omega)) d0_183 rfl (by decide) 0 rfl (by decide) rfl rfl (by decide) (by decide) ?_
  refine r_istore d0_186 [.val (.long p1), .second, .val (.int p2), .val (.int p3), .val (.int p4), .val (.ref b2), .val (.int n.toInt32), .val (.int c.toInt32), .val (.ref b137), .val (.ref b141), .val (.int G.toInt32)] rfl ?_
  refine r_aload d0_188 rfl rfl ?_
  refine r_virtualP [] [] b141 X176.1 rfl pd0_5 rfl (hw _ (List.mem_of_getElem? (i := 48) rfl)) (hw _ (List.mem_of_getElem? (i := 49) rfl)) (hw _ (List.mem_of_getElem? (i := 51) rfl)) (hw _ (List.mem_of_getElem? (i := 50) rfl)) (hw _ (List.mem_of_getElem? (i := 8) rfl)) (hw _ (List.mem_of_getElem? (i := 52) rfl)) rfl (by decide) (w := (.ref b2)) (R' := ({ frames := 0, cells := 0, slots := 0, locals := 0 } : Room)) (ct8 hw b141 b2 _ _ _ _ _ _ _ X176) d0_190 rfl (by decide) 0 rfl (by decide) rfl rfl (by decide) (by decide) ?_
  refine r_aload d0_193 rfl rfl ?_
  refine r_acmp_ne rfl rfl d0_195 (fun hc195 => ?_) (fun hc195 => ?_)
  · exfalso; exact hc195 rfl
  · refine r_aload d0_198 rfl rfl ?_
    refine r_virtualP [] [] b141 X176.1 rfl pd0_6 rfl (hw _ (List.mem_of_getElem? (i := 53) rfl)) (hw _ (List.mem_of_getElem? (i := 54) rfl)) (hw _ (List.mem_of_getElem? (i := 56) rfl)) (hw _ (List.mem_of_getElem? (i := 55) rfl)) (hw _ (List.mem_of_getElem? (i := 8) rfl)) (hw _ (List.mem_of_getElem? (i := 57) rfl)) rfl (by decide) (w := (.int n.toInt32)) (R' := ({ frames := 0, cells := 0, slots := 0, locals := 0 } : Room)) (ct9 hw b141 _ _ _ _ _ _ _ _ X176) d0_200 rfl (by decide) 0 rfl (by decide) rfl rfl (by decide) (by decide) ?_
    refine r_iload d0_203 rfl ?_
    refine r_icmp_ne d0_205 (fun hc205 => ?_) (fun hc205 => ?_)
    · exfalso; exact hc205 rfl
    · refine r_aload d0_208 rfl rfl ?_
      refine r_virtualP [] [] b141 X176.1 rfl pd0_6 rfl (hw _ (List.mem_of_getElem? (i := 58) rfl)) (hw _ (List.mem_of_getElem? (i := 59) rfl)) (hw _ (List.mem_of_getElem? (i := 61) rfl)) (hw _ (List.mem_of_getElem? (i := 60) rfl)) (hw _ (List.mem_of_getElem? (i := 8) rfl)) (hw _ (List.mem_of_getElem? (i := 62) rfl)) rfl (by decide) (w := (.int G.toInt32)) (R' := ({ frames := 0, cells := 0, slots := 0, locals := 0 } : Room)) (ct10 hw b141 _ _ _ _ _ _ _ _ X176) d0_210 rfl (by decide) 0 rfl (by decide) rfl rfl (by decide) (by decide) ?_
      refine r_iload d0_213 rfl ?_
      refine r_icmp_ne d0_215 (fun hc215 => ?_) (fun hc215 => ?_)
      · exfalso; exact hc215 rfl
      · refine r_aload d0_218 rfl rfl ?_
        refine r_virtualP [] [] b141 X176.1 rfl pd0_6 rfl (hw _ (List.mem_of_getElem? (i := 63) rfl)) (hw _ (List.mem_of_getElem? (i := 64) rfl)) (hw _ (List.mem_of_getElem? (i := 66) rfl)) (hw _ (List.mem_of_getElem? (i := 65) rfl)) (hw _ (List.mem_of_getElem? (i := 8) rfl)) (hw _ (List.mem_of_getElem? (i := 67) rfl)) rfl (by decide) (w := (.int G.toInt32)) (R' := ({ frames := 0, cells := 0, slots := 0, locals := 0 } : Room)) (ct11 hw b141 _ _ _ _ _ _ _ X176) d0_220 rfl (by decide) 0 rfl (by decide) rfl rfl (by decide) (by decide) ?_
        refine r_iload d0_223 rfl ?_
        refine r_icmp_ne d0_225 (fun hc225 => ?_) (fun hc225 => ?_)
        · exfalso; exact hc225 rfl
        · refine r_aload d0_228 rfl rfl ?_
          refine r_virtualP [] [] b141 X176.1 rfl pd0_7 rfl (hw _ (List.mem_of_getElem? (i := 68) rfl)) (hw _ (List.mem_of_getElem? (i := 69) rfl)) (hw _ (List.mem_of_getElem? (i := 71) rfl)) (hw _ (List.mem_of_getElem? (i := 70) rfl)) (hw _ (List.mem_of_getElem? (i := 8) rfl)) (hw _ (List.mem_of_getElem? (i := 72) rfl)) rfl (by decide) (w := (.int (if (0 : Int32) = G.toInt32 then 1 else 0))) (R' := ({ frames := 0, cells := 0, slots := 0, locals := 0 } : Room)) (ct12 hw b141 _ _ _ _ _ _ _ X176) d0_230 rfl (by decide) 0 rfl (by decide) rfl rfl (by decide) (by decide) ?_
          refine r_iload d0_233 rfl ?_
          refine r_if_ne d0_235 (fun hc235 => ?_) (fun hc235 => ?_)
          · refine r_iconst (0 : Int32) rfl d0_242 ?_
            refine r_icmp_ne d0_243 (fun hc243 => ?_) (fun hc243 => ?_)
            · exfalso; exact hc243 (by rw [if_neg (Ne.symm hc235)])
            · refine r_iconst (1 : Int32) rfl d0_246 ?_
              refine r_goto d0_247 ?_
              exact r_nret (t := .boolean) (by simp) d0_251 (by decide) (by decide) (rfl)
          · refine r_iconst (1 : Int32) rfl d0_238 ?_
            refine r_goto d0_239 ?_
            refine r_icmp_ne d0_243 (fun hc243 => ?_) (fun hc243 => ?_)
            · exfalso; exact hc243 (by rw [if_pos hc235.symm])
            · refine r_iconst (1 : Int32) rfl d0_246 ?_
              refine r_goto d0_247 ?_
              exact r_nret (t := .boolean) (by simp) d0_251 (by decide) (by decide) (rfl)
set_option maxRecDepth 65536 in
set_option maxHeartbeats 40000000 in
theorem comes_1 {Post : Tables → Env → Array Value → State → Outcome → State → Prop} (hpost : ∀ tb e args s v u, (limb_1_1.after args s (.returned v) u = true ∧ limb_1_2.after args s (.returned v) u = true ∧ True) → FrameEnd s (.returned v) u (Jvm.fieldLocs frame_1_writes args s ++ Jvm.arrayLocs frame_1_arrays args s ++ Jvm.staticLocs frame_1_statics s) 16 128 → Post tb e args s (.returned v) u) :
    ArmFor flags0 classFile x code maxLocals ret World_1 tables_1 room_1 Calls_1 rest_1 Pre_1 Post := by
  intro l hfl _ _ p e ha hc hk s m args below hf hA hF happ hP
  obtain ⟨hcalls, hrest, hpre⟩ := hP
  obtain ⟨-, -, -, hnamed, -, -, -, hat⟩ := (Spec.applies_iff hf).mp happ
  obtain ⟨hg, hn⟩ := and_e (Cond.before_iff.mp (show (Jvm.Cond.and given_1 narrow_1).before args s = true from hpre))
  obtain ⟨g1, g2⟩ := and_e hg
  obtain ⟨g3, g4⟩ := and_e g2
  obtain ⟨g5, g6⟩ := and_e g4
  obtain ⟨g7, g8⟩ := and_e g6
  obtain ⟨w0, w1, w2, w3, rfl⟩ : ∃ w0 w1 w2 w3 : Value, args = #[w0, w1, w2, w3] := by
    have hs : args.size = 4 := by simpa [Cond.value, given_1] using g1
    obtain ⟨L⟩ := args
    match L, hs with
    | [w0, w1, w2, w3], _ => exact ⟨w0, w1, w2, w3, rfl⟩
  have hw := fun d (hd : d ∈ tables_1) => atoms_spec (ws := Jvm.Cond.code x code maxLocals ret :: tables_1) hat d (List.mem_cons_of_mem _ hd)
  have hfit : Fit s := fun {y c} hc i hi => by
    obtain ⟨ha, rfl⟩ := Array.getElem?_eq_some_iff.mp hc
    have q := List.all_eq_true.mp ((Array.all_eq_true_iff_forall_mem.mp hF) _ (Array.getElem_mem ha)) i (List.mem_range.mpr hi)
    simpa [Array.getElem?_eq_getElem hi] using q
  obtain ⟨i0, ei0⟩ := isL_v g3
  obtain rfl : w0 = (.long i0) := Option.some.inj ei0
  obtain ⟨i1, ei1⟩ := is_v g5
  obtain rfl : w1 = (.int i1) := Option.some.inj ei1
  obtain ⟨i2, ei2⟩ := is_v g7
  obtain rfl : w2 = (.int i2) := Option.some.inj ei2
  obtain ⟨i3, ei3⟩ := is_v g8
  obtain rfl : w3 = (.int i3) := Option.some.inj ei3
  obtain ⟨n, o, h1, h2, h3, _, L, rfl, ⟨rfl, N⟩, hq⟩ := ct0 (n0 := s.heap.size) hw (Nat.le_refl _) i0 i1 i2 i3 p e ha hc hk s m _ below hf ((Spec.applies_iff_loose hf).mp happ).1 ⟨rfl, State.Warmed39.refl s, rfl⟩ trivial
  exact ⟨n, _, h1, h2, h3, hpost _ _ _ _ _ _ ⟨Cond.after_iff.mpr rfl, Cond.after_iff.mpr (eq_i res_at (Term.int_eval (1)) rfl), trivial⟩ ⟨hq.1, hq.2.1, (hq.2.2.sift fun y hy => Or.inr (N y hy)).mono (by decide) (by decide)⟩⟩
theorem main_1_1 : Claimed_1_1 := comes_1 fun _ _ _ _ _ _ h hF => ⟨h.1, hF⟩
theorem main_1_2 : Claimed_1_2 := comes_1 fun _ _ _ _ _ _ h hF => ⟨h.2.1, hF⟩
end Jvm.Pilot.@@N@@
namespace Jvm.Pilot.@@N@@
open Jvm Jvm.ClassFile Sem Op Lib Jvm.Free Jvm.Stand Jvm.Pilot.@@N@@.Jvm.D
/-! MADE BY PROGRAM (witnessworld.py) out of the Statement's table words and the real class files: 12 classes; the members and pool entries that the words name. The judged class is class 1, her method 1. -/
namespace start1
open Jvm.ClassFile
def u (s : String) : CpInfo := .utf8 (stringToUtf16 s)
/-- a pool by its gaps: so many unusable entries, then the entry; so many at the end -/
def gap : Nat → List CpInfo → List CpInfo
  | 0, r => r
  | n + 1, r => .unusable :: gap n r
def poolList (es : List (Nat × CpInfo)) (last : Nat) : List CpInfo := es.foldr (fun e r => gap e.1 (e.2 :: r)) (gap last [])
def pool (es : List (Nat × CpInfo)) (last : Nat) : Array CpInfo := ⟨poolList es last⟩
def fileOf (pool : Array CpInfo) (this : Nat) (attrs : Array Attribute := #[]) (ms : Array MethodInfo := #[]) (fl : Nat := 33) (sup : Nat := 0) (ifs : Array Nat := #[]) (fds : Array FieldInfo := #[]) : ClassFile where
  minorVersion := 0
  majorVersion := 65
  constantPool := pool
  accessFlags := fl
  thisClass := this
  superClass := sup
  interfaces := ifs
  fields := fds
  methods := ms
  attributes := attrs
def plain (name : String) (sup : Option ClassId) : Class where
  name := name
  kind := .ordinary
  loader := none
  accessFlags := 33
  super := sup
  interfaces := #[]
  cf := none
  fields := #[]
  methods := #[]
  instanceTypes := #[]
  staticTypes := #[]
  resolved := #[]
  callSites := []
  init := .initialized
  statics := none
  mirror := none

def pool0 : Array CpInfo := pool [(5, u "<init>"), (0, u "()V"), (1, .class_ 10), (1, u "java/lang/Object")] 113

def k0c0 : Code := { maxStack := 0, maxLocals := 1, code := object_method_1_code, exceptionTable := #[], attributes := #[] }
def k0m0 : Method := { name := "<init>", desc := "()V", sig := { parameters := [], returnType := none }, accessFlags := 1, code := some k0c0 }
/-- java/lang/Object -/
def k0 : Class := { plain "java/lang/Object" none with
  accessFlags := 33
  interfaces := #[]
  cf := some (fileOf pool0 8 #[] #[{ accessFlags := 1, nameIndex := 5, descriptorIndex := 6, attributes := #[] }] 33 0 #[] #[])
  fields := #[]
  methods := #[k0m0]
  instanceTypes := #[]
  staticTypes := #[]
  resolved := Array.replicate 124 none
  statics := none }

def pool1 : Array CpInfo := pool [(2, .class_ 4), (0, .nameAndType 5 6), (0, u "java/lang/Object"), (0, u "<init>"), (0, u "()V"), (0, .methodref 8 9), (0, .class_ 10), (0, .nameAndType 11 12), (0, u "com/example/quire/quire/core/Bzip2RunsHoldPinLaw"), (0, u "pick"), (0, u "(IIBJ)B"), (0, .integer 2147483647), (0, .class_ 15), (0, u "com/example/quire/quire/core/Bzip2Runs"), (0, .methodref 14 3), (0, .methodref 14 18), (0, .nameAndType 19 20), (0, u "hold"), (0, u "([BI)V"), (0, .methodref 14 22), (0, .nameAndType 23 24), (0, u "emit"), (0, u "([BII)I"), (0, .methodref 8 26), (0, .nameAndType 27 28), (0, u "ref"), (0, u "([BI)I"), (0, .methodref 14 30), (0, .nameAndType 31 32), (0, u "array"), (0, u "()[B"), (0, .methodref 14 34), (0, .nameAndType 35 36), (0, u "length"), (0, u "()I"), (0, .methodref 14 38), (0, .nameAndType 39 36), (0, u "gives"), (0, .methodref 14 41), (0, .nameAndType 42 36), (0, u "left"), (0, .methodref 14 44), (0, .nameAndType 45 46), (0, u "done"), (0, u "()Z"), (0, .methodref 8 48), (0, .nameAndType 49 50), (0, u "same4"), (0, u "(IIII)Z"), (2, u "law"), (0, u "(JIII)Z")] 5

def k1m0 : Method := { name := "<init>", desc := "()V", sig := { parameters := [], returnType := none }, accessFlags := 1, code := none }
def k1c1 : Code := { maxStack := 7, maxLocals := 11, code := code, exceptionTable := #[], attributes := #[] }
def k1m1 : Method := { name := "law", desc := "(JIII)Z", sig := { parameters := [.long, .int, .int, .int], returnType := some .boolean }, accessFlags := 9, code := some k1c1 }
def k1c2 : Code := { maxStack := 4, maxLocals := 5, code := method_3_code, exceptionTable := #[], attributes := #[] }
def k1m2 : Method := { name := "pick", desc := "(IIBJ)B", sig := { parameters := [.int, .int, .byte, .long], returnType := some .byte }, accessFlags := 10, code := some k1c2 }
def k1c3 : Code := { maxStack := 2, maxLocals := 4, code := method_4_code, exceptionTable := #[], attributes := #[] }
def k1m3 : Method := { name := "same4", desc := "(IIII)Z", sig := { parameters := [.int, .int, .int, .int], returnType := some .boolean }, accessFlags := 10, code := some k1c3 }
def k1c4 : Code := { maxStack := 4, maxLocals := 15, code := method_5_code, exceptionTable := #[], attributes := #[] }
def k1m4 : Method := { name := "ref", desc := "([BI)I", sig := { parameters := [(.array .byte), .int], returnType := some .int }, accessFlags := 10, code := some k1c4 }
/-- com/example/quire/quire/core/Bzip2RunsHoldPinLaw -/
def k1 : Class := { plain "com/example/quire/quire/core/Bzip2RunsHoldPinLaw" (some 0) with
  accessFlags := 49
  interfaces := #[]
  cf := some (fileOf pool1 8 #[] #[{ accessFlags := 1, nameIndex := 5, descriptorIndex := 6, attributes := #[] }, { accessFlags := 9, nameIndex := 53, descriptorIndex := 54, attributes := #[] }, { accessFlags := 10, nameIndex := 11, descriptorIndex := 12, attributes := #[] }, { accessFlags := 10, nameIndex := 49, descriptorIndex := 50, attributes := #[] }, { accessFlags := 10, nameIndex := 27, descriptorIndex := 28, attributes := #[] }] 49 2 #[] #[])
  fields := #[]
  methods := #[k1m0, k1m1, k1m2, k1m3, k1m4]
  instanceTypes := #[]
  staticTypes := #[]
  resolved := Array.replicate 60 none
  statics := none }

def pool2 : Array CpInfo := pool [(1, .methodref 2 3), (0, .class_ 4), (0, .nameAndType 5 6), (0, u "java/lang/Object"), (0, u "<init>"), (0, u "()V"), (0, .fieldref 8 9), (0, .class_ 10), (0, .nameAndType 11 12), (0, u "com/example/quire/quire/core/Bzip2Runs"), (0, u "bytes"), (0, u "[B"), (0, .fieldref 8 14), (0, .nameAndType 15 16), (0, u "length"), (0, u "I"), (0, .fieldref 8 18), (0, .nameAndType 19 16), (0, u "gives"), (0, .fieldref 8 21), (0, .nameAndType 22 16), (0, u "next"), (0, .fieldref 8 24), (0, .nameAndType 25 16), (0, u "given"), (0, .fieldref 8 27), (0, .nameAndType 28 16), (0, u "previous"), (0, .fieldref 8 30), (0, .nameAndType 31 16), (0, u "equal"), (0, .fieldref 8 33), (0, .nameAndType 34 16), (0, u "repeats"), (0, .methodref 36 37), (0, .class_ 38), (0, .nameAndType 39 40), (0, u "java/lang/Math"), (0, u "min"), (0, u "(II)I"), (0, .methodref 42 43), (0, .class_ 44), (0, .nameAndType 45 46), (0, u "java/util/Arrays"), (0, u "fill"), (0, u "([BIIB)V"), (0, .methodref 48 49), (0, .class_ 50), (0, .nameAndType 51 52), (0, u "java/lang/System"), (0, u "arraycopy"), (0, u "(Ljava/lang/Object;ILjava/lang/Object;II)V"), (0, u "RUN_BEFORE_COUNT"), (4, u "array"), (0, u "()[B"), (0, u "hold"), (0, u "([BI)V"), (1, u "()I"), (0, u "left"), (0, u "done"), (0, u "()Z"), (0, u "emit"), (0, u "([BII)I")] 3

def k2c0 : Code := { maxStack := 2, maxLocals := 1, code := prog_76_method_1_code, exceptionTable := #[], attributes := #[] }
def k2m0 : Method := { name := "<init>", desc := "()V", sig := { parameters := [], returnType := none }, accessFlags := 0, code := some k2c0 }
def k2c1 : Code := { maxStack := 1, maxLocals := 1, code := prog_76_method_2_code, exceptionTable := #[], attributes := #[] }
def k2m1 : Method := { name := "array", desc := "()[B", sig := { parameters := [], returnType := some (.array .byte) }, accessFlags := 0, code := some k2c1 }
def k2c2 : Code := { maxStack := 3, maxLocals := 7, code := prog_76_method_3_code, exceptionTable := #[], attributes := #[] }
def k2m2 : Method := { name := "hold", desc := "([BI)V", sig := { parameters := [(.array .byte), .int], returnType := none }, accessFlags := 0, code := some k2c2 }
def k2c3 : Code := { maxStack := 1, maxLocals := 1, code := prog_76_method_4_code, exceptionTable := #[], attributes := #[] }
def k2m3 : Method := { name := "length", desc := "()I", sig := { parameters := [], returnType := some .int }, accessFlags := 0, code := some k2c3 }
def k2c4 : Code := { maxStack := 1, maxLocals := 1, code := prog_76_method_5_code, exceptionTable := #[], attributes := #[] }
def k2m4 : Method := { name := "gives", desc := "()I", sig := { parameters := [], returnType := some .int }, accessFlags := 0, code := some k2c4 }
def k2c5 : Code := { maxStack := 2, maxLocals := 1, code := prog_76_method_6_code, exceptionTable := #[], attributes := #[] }
def k2m5 : Method := { name := "left", desc := "()I", sig := { parameters := [], returnType := some .int }, accessFlags := 0, code := some k2c5 }
def k2c6 : Code := { maxStack := 2, maxLocals := 1, code := prog_76_method_7_code, exceptionTable := #[], attributes := #[] }
def k2m6 : Method := { name := "done", desc := "()Z", sig := { parameters := [], returnType := some .boolean }, accessFlags := 0, code := some k2c6 }
def k2c7 : Code := { maxStack := 6, maxLocals := 9, code := prog_76_method_8_code, exceptionTable := #[], attributes := #[] }
def k2m7 : Method := { name := "emit", desc := "([BII)I", sig := { parameters := [(.array .byte), .int, .int], returnType := some .int }, accessFlags := 0, code := some k2c7 }
/-- com/example/quire/quire/core/Bzip2Runs -/
def k2 : Class := { plain "com/example/quire/quire/core/Bzip2Runs" (some 0) with
  accessFlags := 48
  interfaces := #[]
  cf := some (fileOf pool2 8 #[] #[{ accessFlags := 0, nameIndex := 5, descriptorIndex := 6, attributes := #[] }, { accessFlags := 0, nameIndex := 58, descriptorIndex := 59, attributes := #[] }, { accessFlags := 0, nameIndex := 60, descriptorIndex := 61, attributes := #[] }, { accessFlags := 0, nameIndex := 15, descriptorIndex := 63, attributes := #[] }, { accessFlags := 0, nameIndex := 19, descriptorIndex := 63, attributes := #[] }, { accessFlags := 0, nameIndex := 64, descriptorIndex := 63, attributes := #[] }, { accessFlags := 0, nameIndex := 65, descriptorIndex := 66, attributes := #[] }, { accessFlags := 0, nameIndex := 67, descriptorIndex := 68, attributes := #[] }] 48 2 #[] #[{ accessFlags := 26, nameIndex := 53, descriptorIndex := 16, attributes := #[] }, { accessFlags := 2, nameIndex := 11, descriptorIndex := 12, attributes := #[] }, { accessFlags := 2, nameIndex := 15, descriptorIndex := 16, attributes := #[] }, { accessFlags := 2, nameIndex := 19, descriptorIndex := 16, attributes := #[] }, { accessFlags := 2, nameIndex := 22, descriptorIndex := 16, attributes := #[] }, { accessFlags := 2, nameIndex := 25, descriptorIndex := 16, attributes := #[] }, { accessFlags := 2, nameIndex := 28, descriptorIndex := 16, attributes := #[] }, { accessFlags := 2, nameIndex := 31, descriptorIndex := 16, attributes := #[] }, { accessFlags := 2, nameIndex := 34, descriptorIndex := 16, attributes := #[] }])
  fields := #[{ name := "RUN_BEFORE_COUNT", type := .int, accessFlags := 26, slot := 0, constantValue := 0 }, { name := "bytes", type := (.array .byte), accessFlags := 2, slot := 0, constantValue := 0 }, { name := "length", type := .int, accessFlags := 2, slot := 1, constantValue := 0 }, { name := "gives", type := .int, accessFlags := 2, slot := 2, constantValue := 0 }, { name := "next", type := .int, accessFlags := 2, slot := 3, constantValue := 0 }, { name := "given", type := .int, accessFlags := 2, slot := 4, constantValue := 0 }, { name := "previous", type := .int, accessFlags := 2, slot := 5, constantValue := 0 }, { name := "equal", type := .int, accessFlags := 2, slot := 6, constantValue := 0 }, { name := "repeats", type := .int, accessFlags := 2, slot := 7, constantValue := 0 }]
  methods := #[k2m0, k2m1, k2m2, k2m3, k2m4, k2m5, k2m6, k2m7]
  instanceTypes := #[(.array .byte), .int, .int, .int, .int, .int, .int, .int]
  staticTypes := #[.int]
  resolved := Array.replicate 72 none
  statics := none }

def pool3 : Array CpInfo := pool [(1, .class_ 2), (0, u "java/lang/Math"), (1, .class_ 6), (1, u "java/lang/Object"), (0, u "<init>"), (0, u "()V"), (89, .class_ 100), (1, u "java/lang/Math$RandomNumberGeneratorHolder"), (71, u "negativeZeroFloatBits"), (0, u "J"), (2, u "negativeZeroDoubleBits"), (24, u "min"), (43, u "$assertionsDisabled"), (0, u "Z"), (88, u "(II)I"), (2, u "twoToTheDoubleScaleDown"), (0, u "D"), (4, u "twoToTheDoubleScaleUp"), (9, u "E"), (3, u "PI"), (2, u "TAU"), (2, u "DEGREES_TO_RADIANS"), (0, u "RADIANS_TO_DEGREES")] 94

def k3m0 : Method := { name := "<init>", desc := "()V", sig := { parameters := [], returnType := none }, accessFlags := 2, code := none }
def k3c1 : Code := { maxStack := 2, maxLocals := 2, code := jdk_29_method_69_code, exceptionTable := #[], attributes := #[] }
def k3m1 : Method := { name := "min", desc := "(II)I", sig := { parameters := [.int, .int], returnType := some .int }, accessFlags := 9, code := some k3c1 }
/-- java/lang/Math -/
def k3 : Class := { plain "java/lang/Math" (some 0) with
  accessFlags := 49
  interfaces := #[]
  cf := some (fileOf pool3 1 #[.nestMembers #[98]] #[{ accessFlags := 2, nameIndex := 7, descriptorIndex := 8, attributes := #[] }, { accessFlags := 9, nameIndex := 201, descriptorIndex := 335, attributes := #[] }] 49 4 #[] #[{ accessFlags := 25, nameIndex := 354, descriptorIndex := 339, attributes := #[] }, { accessFlags := 25, nameIndex := 358, descriptorIndex := 339, attributes := #[] }, { accessFlags := 25, nameIndex := 361, descriptorIndex := 339, attributes := #[] }, { accessFlags := 26, nameIndex := 364, descriptorIndex := 339, attributes := #[] }, { accessFlags := 26, nameIndex := 365, descriptorIndex := 339, attributes := #[] }, { accessFlags := 26, nameIndex := 172, descriptorIndex := 173, attributes := #[] }, { accessFlags := 26, nameIndex := 176, descriptorIndex := 173, attributes := #[] }, { accessFlags := 8, nameIndex := 344, descriptorIndex := 339, attributes := #[] }, { accessFlags := 8, nameIndex := 338, descriptorIndex := 339, attributes := #[] }, { accessFlags := 4120, nameIndex := 245, descriptorIndex := 246, attributes := #[] }])
  fields := #[{ name := "E", type := .double, accessFlags := 25, slot := 0, constantValue := 0 }, { name := "PI", type := .double, accessFlags := 25, slot := 1, constantValue := 0 }, { name := "TAU", type := .double, accessFlags := 25, slot := 2, constantValue := 0 }, { name := "DEGREES_TO_RADIANS", type := .double, accessFlags := 26, slot := 3, constantValue := 0 }, { name := "RADIANS_TO_DEGREES", type := .double, accessFlags := 26, slot := 4, constantValue := 0 }, { name := "negativeZeroFloatBits", type := .long, accessFlags := 26, slot := 5, constantValue := 0 }, { name := "negativeZeroDoubleBits", type := .long, accessFlags := 26, slot := 6, constantValue := 0 }, { name := "twoToTheDoubleScaleUp", type := .double, accessFlags := 8, slot := 7, constantValue := 0 }, { name := "twoToTheDoubleScaleDown", type := .double, accessFlags := 8, slot := 8, constantValue := 0 }, { name := "$assertionsDisabled", type := .boolean, accessFlags := 4120, slot := 9, constantValue := 0 }]
  methods := #[k3m0, k3m1]
  instanceTypes := #[]
  staticTypes := #[.double, .double, .double, .double, .double, .long, .long, .double, .double, .boolean]
  resolved := Array.replicate 460 none
  statics := none }

def pool4 : Array CpInfo := pool [(2, .class_ 4), (1, u "java/lang/Object"), (0, u "<init>"), (0, u "()V"), (1, .class_ 10), (1, u "java/lang/System"), (0, u "allowSecurityManager"), (0, u "I"), (16, u "cons"), (0, u "Ljava/io/Console;"), (77, .class_ 110), (1, u "java/lang/System$CallersHolder"), (43, u "initialErrStream"), (0, u "Ljava/io/PrintStream;"), (19, u "security"), (0, u "Ljava/lang/SecurityManager;"), (31, .class_ 209), (0, u "java/lang/System$1"), (7, u "props"), (0, u "Ljava/util/Properties;"), (2, u "lineSeparator"), (0, u "Ljava/lang/String;"), (96, .class_ 321), (1, u "java/lang/System$LoggerFinder"), (5, .class_ 328), (0, u "java/lang/System$Logger"), (67, u "err"), (2, u "out"), (91, u "notSupportedJnuEncoding"), (15, u "in"), (17, u "initialIn"), (0, u "Ljava/io/InputStream;"), (35, u "bootLayer"), (0, u "Ljava/lang/ModuleLayer;"), (99, .class_ 664), (0, u "java/lang/System$2"), (9, u "NEVER"), (2, u "MAYBE"), (49, u "arraycopy"), (0, u "(Ljava/lang/Object;ILjava/lang/Object;II)V"), (72, .class_ 802), (0, u "java/lang/System$Logger$Level")] 31

def k4m0 : Method := { name := "<init>", desc := "()V", sig := { parameters := [], returnType := none }, accessFlags := 2, code := none }
def k4m1 : Method := { name := "arraycopy", desc := "(Ljava/lang/Object;ILjava/lang/Object;II)V", sig := { parameters := [(.object "java/lang/Object"), .int, (.object "java/lang/Object"), .int, .int], returnType := none }, accessFlags := 265, code := none }
/-- java/lang/System -/
def k4 : Class := { plain "java/lang/System" (some 0) with
  accessFlags := 49
  interfaces := #[]
  cf := some (fileOf pool4 8 #[.nestMembers #[319, 327, 801, 108, 663, 208]] #[{ accessFlags := 2, nameIndex := 5, descriptorIndex := 6, attributes := #[] }, { accessFlags := 265, nameIndex := 727, descriptorIndex := 728, attributes := #[] }] 49 2 #[] #[{ accessFlags := 25, nameIndex := 507, descriptorIndex := 526, attributes := #[] }, { accessFlags := 25, nameIndex := 399, descriptorIndex := 155, attributes := #[] }, { accessFlags := 25, nameIndex := 396, descriptorIndex := 155, attributes := #[] }, { accessFlags := 10, nameIndex := 525, descriptorIndex := 526, attributes := #[] }, { accessFlags := 26, nameIndex := 674, descriptorIndex := 12, attributes := #[] }, { accessFlags := 26, nameIndex := 677, descriptorIndex := 12, attributes := #[] }, { accessFlags := 10, nameIndex := 11, descriptorIndex := 12, attributes := #[] }, { accessFlags := 74, nameIndex := 175, descriptorIndex := 176, attributes := #[] }, { accessFlags := 10, nameIndex := 491, descriptorIndex := 222, attributes := #[] }, { accessFlags := 74, nameIndex := 29, descriptorIndex := 30, attributes := #[] }, { accessFlags := 74, nameIndex := 154, descriptorIndex := 155, attributes := #[] }, { accessFlags := 10, nameIndex := 217, descriptorIndex := 218, attributes := #[] }, { accessFlags := 10, nameIndex := 221, descriptorIndex := 222, attributes := #[] }, { accessFlags := 8, nameIndex := 562, descriptorIndex := 563, attributes := #[] }])
  fields := #[{ name := "in", type := (.object "java/io/InputStream"), accessFlags := 25, slot := 0, constantValue := 0 }, { name := "out", type := (.object "java/io/PrintStream"), accessFlags := 25, slot := 1, constantValue := 0 }, { name := "err", type := (.object "java/io/PrintStream"), accessFlags := 25, slot := 2, constantValue := 0 }, { name := "initialIn", type := (.object "java/io/InputStream"), accessFlags := 10, slot := 3, constantValue := 0 }, { name := "NEVER", type := .int, accessFlags := 26, slot := 4, constantValue := 0 }, { name := "MAYBE", type := .int, accessFlags := 26, slot := 5, constantValue := 0 }, { name := "allowSecurityManager", type := .int, accessFlags := 10, slot := 6, constantValue := 0 }, { name := "security", type := (.object "java/lang/SecurityManager"), accessFlags := 74, slot := 7, constantValue := 0 }, { name := "notSupportedJnuEncoding", type := (.object "java/lang/String"), accessFlags := 10, slot := 8, constantValue := 0 }, { name := "cons", type := (.object "java/io/Console"), accessFlags := 74, slot := 9, constantValue := 0 }, { name := "initialErrStream", type := (.object "java/io/PrintStream"), accessFlags := 74, slot := 10, constantValue := 0 }, { name := "props", type := (.object "java/util/Properties"), accessFlags := 10, slot := 11, constantValue := 0 }, { name := "lineSeparator", type := (.object "java/lang/String"), accessFlags := 10, slot := 12, constantValue := 0 }, { name := "bootLayer", type := (.object "java/lang/ModuleLayer"), accessFlags := 8, slot := 13, constantValue := 0 }]
  methods := #[k4m0, k4m1]
  instanceTypes := #[]
  staticTypes := #[(.object "java/io/InputStream"), (.object "java/io/PrintStream"), (.object "java/io/PrintStream"), (.object "java/io/InputStream"), .int, .int, .int, (.object "java/lang/SecurityManager"), (.object "java/lang/String"), (.object "java/io/Console"), (.object "java/io/PrintStream"), (.object "java/util/Properties"), (.object "java/lang/String"), (.object "java/lang/ModuleLayer")]
  resolved := Array.replicate 834 none
  statics := none }

def pool5 : Array CpInfo := pool [(2, .class_ 4), (1, u "java/lang/Object"), (0, u "<init>"), (0, u "()V"), (6, .methodref 14 15), (0, .class_ 16), (0, .nameAndType 17 18), (0, u "java/util/Arrays"), (0, u "rangeCheck"), (0, u "(III)V"), (55, .class_ 76), (1, u "java/util/Arrays$NaturalOrder"), (36, .class_ 115), (1, u "java/util/Arrays$LegacyMergeSort"), (1, u "Z"), (257, .class_ 376), (0, u "java/util/Arrays$ArrayList"), (68, u "$assertionsDisabled"), (269, u "MIN_ARRAY_SORT_GRAN"), (0, u "I"), (2, u "INSERTIONSORT_THRESHOLD"), (120, u "fill"), (10, u "([BIIB)V"), (123, .class_ 976), (0, u "java/util/Arrays$ArrayItr")] 52

def k5m0 : Method := { name := "<init>", desc := "()V", sig := { parameters := [], returnType := none }, accessFlags := 2, code := none }
def k5c1 : Code := { maxStack := 4, maxLocals := 3, code := jdk_65_method_30_code, exceptionTable := #[], attributes := #[] }
def k5m1 : Method := { name := "rangeCheck", desc := "(III)V", sig := { parameters := [.int, .int, .int], returnType := none }, accessFlags := 8, code := some k5c1 }
def k5c2 : Code := { maxStack := 3, maxLocals := 5, code := jdk_65_method_110_code, exceptionTable := #[], attributes := #[] }
def k5m2 : Method := { name := "fill", desc := "([BIIB)V", sig := { parameters := [(.array .byte), .int, .int, .byte], returnType := none }, accessFlags := 9, code := some k5c2 }
/-- java/util/Arrays -/
def k5 : Class := { plain "java/util/Arrays" (some 0) with
  accessFlags := 49
  interfaces := #[]
  cf := some (fileOf pool5 14 #[.nestMembers #[975, 375, 113, 74]] #[{ accessFlags := 2, nameIndex := 5, descriptorIndex := 6, attributes := #[] }, { accessFlags := 8, nameIndex := 17, descriptorIndex := 18, attributes := #[] }, { accessFlags := 9, nameIndex := 840, descriptorIndex := 851, attributes := #[] }] 49 2 #[] #[{ accessFlags := 26, nameIndex := 715, descriptorIndex := 716, attributes := #[] }, { accessFlags := 26, nameIndex := 719, descriptorIndex := 716, attributes := #[] }, { accessFlags := 4120, nameIndex := 445, descriptorIndex := 117, attributes := #[] }])
  fields := #[{ name := "MIN_ARRAY_SORT_GRAN", type := .int, accessFlags := 26, slot := 0, constantValue := 0 }, { name := "INSERTIONSORT_THRESHOLD", type := .int, accessFlags := 26, slot := 1, constantValue := 0 }, { name := "$assertionsDisabled", type := .boolean, accessFlags := 4120, slot := 2, constantValue := 0 }]
  methods := #[k5m0, k5m1, k5m2]
  instanceTypes := #[]
  staticTypes := #[.int, .int, .boolean]
  resolved := Array.replicate 1029 none
  statics := none }

def pool6 : Array CpInfo := pool [(1, u "java/lang/Cloneable"), (0, .class_ 1), (0, u "java/lang/Object"), (0, .class_ 3)] 3

/-- java/lang/Cloneable -/
def k6 : Class := { plain "java/lang/Cloneable" (some 0) with
  accessFlags := 1537
  interfaces := #[]
  cf := some (fileOf pool6 2 #[] #[] 1537 4 #[] #[])
  fields := #[]
  methods := #[]
  instanceTypes := #[]
  staticTypes := #[]
  resolved := Array.replicate 8 none
  statics := none }

def pool7 : Array CpInfo := pool [(1, u "java/io/Serializable"), (0, .class_ 1), (0, u "java/lang/Object"), (0, .class_ 3)] 3

/-- java/io/Serializable -/
def k7 : Class := { plain "java/io/Serializable" (some 0) with
  accessFlags := 1537
  interfaces := #[]
  cf := some (fileOf pool7 2 #[] #[] 1537 4 #[] #[])
  fields := #[]
  methods := #[]
  instanceTypes := #[]
  staticTypes := #[]
  resolved := Array.replicate 8 none
  statics := none }

/-- the primitive byte -/
def k8 : Class := { plain "byte" none with kind := .primitive 'B', accessFlags := 0x411 }
/-- [B -/
def k9 : Class := { plain "[B" (some 0) with kind := .array 8 .byte, interfaces := #[6, 7], accessFlags := 1041 }

/-- the primitive int -/
def k10 : Class := { plain "int" none with kind := .primitive 'I', accessFlags := 0x411 }
/-- [I -/
def k11 : Class := { plain "[I" (some 0) with kind := .array 10 .int, interfaces := #[6, 7], accessFlags := 1041 }

def heap : Heap := #[]
def classes : Array Class := #[k0, k1, k2, k3, k4, k5, k6, k7, k8, k9, k10, k11]
def interned : List (Array UInt16 × Addr) := []
def slotsUsed : Nat := 0
def theMethod : MethodId := ⟨1, 1⟩
def args0 : Array Value := #[.long 5, .int 7, .int 9, .int 3]
def aboutOver (below : List Frame) : State where
  vm := { classes := classes, interned := interned.toArray }
  heap := heap
  slotsUsed := slotsUsed
  threads := #[{ frames := .invoking theMethod args0 :: below }]
def below0 : List Frame := [.native { method := ⟨0, 0⟩, args := #[] }]
def about1 : State := aboutOver below0
def p0 : Program := .bare "" "" ""
def e0 : Env := launch0.env 0 0 0
theorem w_frames : about1.frames = Frame.invoking theMethod args0 :: below0 := rfl
set_option maxRecDepth 65536 in
theorem w_args : argsFit about1.vm theMethod args0 = true := by decide +kernel
set_option maxRecDepth 65536 in
theorem w_heap : heapFits about1 = true := by decide +kernel
set_option maxRecDepth 65536 in
theorem w_runnable : about1.curStatus? = some .runnable := by decide +kernel
set_option maxRecDepth 65536 in
theorem w_alone : about1.alone = true := by decide +kernel
set_option maxRecDepth 65536 in
theorem w_named : about1.methodNamed? x = some theMethod := by decide +kernel
set_option maxRecDepth 65536 in
theorem w_hears : about1.hears theMethod below0 = true := by decide +kernel
set_option maxRecDepth 65536 in
theorem w_ripe : about1.ripe theMethod args0 below0 = true := by decide +kernel
theorem w_running : about1.status = .running := rfl
set_option maxRecDepth 65536 in
theorem w_room : about1.hasRoom e0.platform room_1 = true :=
  launch0.hasRoom_least _ room_1 (by decide +kernel) (by decide +kernel) (by decide +kernel) (by decide +kernel) (by decide +kernel) (by decide +kernel)
theorem allAtoms_all (ts : List Jvm.Cond) (a : Array Jvm.Value) (st : Jvm.State) : (allAtoms ts).before a st = ts.all (fun c => c.before a st) := by
  induction ts with
  | nil => rfl
  | cons c t ih =>
    show (Jvm.Cond.and c (allAtoms t)).before a st = _
    rw [Jvm.Cond.before_and, ih, List.all_cons]
def words1 : List Jvm.Cond := Jvm.Cond.code x code maxLocals ret :: tables_1
/-- a 'code' word, met by the world's own term for the bytes: nothing is compared byte by byte -/
theorem code_word {y : MethodName} {bytes : ByteArray} {mx : Nat} {rt : Option FieldType} {a : Array Value} {s : State} {m : MethodId} {meth : Method} {c : Code} (h1 : s.methodNamed? y = some m) (h2 : s.vm.method? m = some meth) (h3 : meth.code = some c) (h4 : c.code = bytes)
    (h5 : (c.maxLocals == mx && c.exceptionTable.isEmpty && decide (c.maxStack ≤ mostOperands) && decide (meth.sig.returnType = rt) && !meth.locks && decide (parseMethodDescriptor y.desc = some meth.sig)) = true) : (Jvm.Cond.code y bytes mx rt).before a s = true := by
  simp only [Bool.and_eq_true, beq_iff_eq, Bool.not_eq_true', decide_eq_true_eq] at h5
  obtain ⟨⟨⟨⟨⟨g1, g2⟩, g3⟩, g4⟩, g5⟩, g6⟩ := h5
  simp [Cond.before, Cond.holds, Cond.value, h1, h2, h3, h4, g1, g2, g3, g4, g5, g6]
def isCode : Jvm.Cond → Bool
  | .code _ _ _ _ => true
  | _ => false
theorem all_split {L : List Jvm.Cond} {P : Jvm.Cond → Bool} (h1 : L.all (fun c => isCode c || P c) = true) (h2 : ∀ c ∈ L.filter isCode, P c = true) : L.all P = true := by
  refine List.all_eq_true.mpr fun c hc => ?_
  have h := List.all_eq_true.mp h1 c hc
  rcases Bool.eq_false_or_eq_true (isCode c) with hi | hi
  · exact h2 c (List.mem_filter.mpr ⟨hc, hi⟩)
  · simpa [hi] using h
set_option maxRecDepth 65536 in
theorem w_c0 : (Jvm.Cond.code x code maxLocals ret).before args0 about1 = true := code_word (m := ⟨1, 1⟩) (meth := k1m1) (c := k1c1) (by decide +kernel) rfl rfl rfl (by decide +kernel)
set_option maxRecDepth 65536 in
theorem w_c1 : (Jvm.Cond.code ({ cls := "com/example/quire/quire/core/Bzip2RunsHoldPinLaw", name := "pick", desc := "(IIBJ)B" } : Jvm.MethodName) method_3_code (5 : Nat) (Option.some Jvm.ClassFile.FieldType.byte)).before args0 about1 = true := code_word (m := ⟨1, 2⟩) (meth := k1m2) (c := k1c2) (by decide +kernel) rfl rfl rfl (by decide +kernel)
set_option maxRecDepth 65536 in
theorem w_c2 : (Jvm.Cond.code ({ cls := "com/example/quire/quire/core/Bzip2Runs", name := "<init>", desc := "()V" } : Jvm.MethodName) prog_76_method_1_code (1 : Nat) (Option.none : Option Jvm.ClassFile.FieldType)).before args0 about1 = true := code_word (m := ⟨2, 0⟩) (meth := k2m0) (c := k2c0) (by decide +kernel) rfl rfl rfl (by decide +kernel)
set_option maxRecDepth 65536 in
theorem w_c3 : (Jvm.Cond.code ({ cls := "java/lang/Object", name := "<init>", desc := "()V" } : Jvm.MethodName) object_method_1_code (1 : Nat) (Option.none : Option Jvm.ClassFile.FieldType)).before args0 about1 = true := code_word (m := ⟨0, 0⟩) (meth := k0m0) (c := k0c0) (by decide +kernel) rfl rfl rfl (by decide +kernel)
set_option maxRecDepth 65536 in
theorem w_c4 : (Jvm.Cond.code ({ cls := "com/example/quire/quire/core/Bzip2Runs", name := "hold", desc := "([BI)V" } : Jvm.MethodName) prog_76_method_3_code (7 : Nat) (Option.none : Option Jvm.ClassFile.FieldType)).before args0 about1 = true := code_word (m := ⟨2, 2⟩) (meth := k2m2) (c := k2c2) (by decide +kernel) rfl rfl rfl (by decide +kernel)
set_option maxRecDepth 65536 in
theorem w_c5 : (Jvm.Cond.code ({ cls := "com/example/quire/quire/core/Bzip2Runs", name := "emit", desc := "([BII)I" } : Jvm.MethodName) prog_76_method_8_code (9 : Nat) (Option.some Jvm.ClassFile.FieldType.int)).before args0 about1 = true := code_word (m := ⟨2, 7⟩) (meth := k2m7) (c := k2c7) (by decide +kernel) rfl rfl rfl (by decide +kernel)
set_option maxRecDepth 65536 in
theorem w_c6 : (Jvm.Cond.code ({ cls := "java/lang/Math", name := "min", desc := "(II)I" } : Jvm.MethodName) jdk_29_method_69_code (2 : Nat) (Option.some Jvm.ClassFile.FieldType.int)).before args0 about1 = true := code_word (m := ⟨3, 1⟩) (meth := k3m1) (c := k3c1) (by decide +kernel) rfl rfl rfl (by decide +kernel)
set_option maxRecDepth 65536 in
theorem w_c7 : (Jvm.Cond.code ({ cls := "com/example/quire/quire/core/Bzip2RunsHoldPinLaw", name := "ref", desc := "([BI)I" } : Jvm.MethodName) method_5_code (15 : Nat) (Option.some Jvm.ClassFile.FieldType.int)).before args0 about1 = true := code_word (m := ⟨1, 4⟩) (meth := k1m4) (c := k1c4) (by decide +kernel) rfl rfl rfl (by decide +kernel)
set_option maxRecDepth 65536 in
theorem w_c8 : (Jvm.Cond.code ({ cls := "com/example/quire/quire/core/Bzip2Runs", name := "array", desc := "()[B" } : Jvm.MethodName) prog_76_method_2_code (1 : Nat) (Option.some (Jvm.ClassFile.FieldType.array Jvm.ClassFile.FieldType.byte))).before args0 about1 = true := code_word (m := ⟨2, 1⟩) (meth := k2m1) (c := k2c1) (by decide +kernel) rfl rfl rfl (by decide +kernel)
set_option maxRecDepth 65536 in
theorem w_c9 : (Jvm.Cond.code ({ cls := "com/example/quire/quire/core/Bzip2Runs", name := "length", desc := "()I" } : Jvm.MethodName) prog_76_method_4_code (1 : Nat) (Option.some Jvm.ClassFile.FieldType.int)).before args0 about1 = true := code_word (m := ⟨2, 3⟩) (meth := k2m3) (c := k2c3) (by decide +kernel) rfl rfl rfl (by decide +kernel)
set_option maxRecDepth 65536 in
theorem w_c10 : (Jvm.Cond.code ({ cls := "com/example/quire/quire/core/Bzip2Runs", name := "gives", desc := "()I" } : Jvm.MethodName) prog_76_method_5_code (1 : Nat) (Option.some Jvm.ClassFile.FieldType.int)).before args0 about1 = true := code_word (m := ⟨2, 4⟩) (meth := k2m4) (c := k2c4) (by decide +kernel) rfl rfl rfl (by decide +kernel)
set_option maxRecDepth 65536 in
theorem w_c11 : (Jvm.Cond.code ({ cls := "com/example/quire/quire/core/Bzip2Runs", name := "left", desc := "()I" } : Jvm.MethodName) prog_76_method_6_code (1 : Nat) (Option.some Jvm.ClassFile.FieldType.int)).before args0 about1 = true := code_word (m := ⟨2, 5⟩) (meth := k2m5) (c := k2c5) (by decide +kernel) rfl rfl rfl (by decide +kernel)
set_option maxRecDepth 65536 in
theorem w_c12 : (Jvm.Cond.code ({ cls := "com/example/quire/quire/core/Bzip2Runs", name := "done", desc := "()Z" } : Jvm.MethodName) prog_76_method_7_code (1 : Nat) (Option.some Jvm.ClassFile.FieldType.boolean)).before args0 about1 = true := code_word (m := ⟨2, 6⟩) (meth := k2m6) (c := k2c6) (by decide +kernel) rfl rfl rfl (by decide +kernel)
set_option maxRecDepth 65536 in
theorem w_c13 : (Jvm.Cond.code ({ cls := "com/example/quire/quire/core/Bzip2RunsHoldPinLaw", name := "same4", desc := "(IIII)Z" } : Jvm.MethodName) method_4_code (4 : Nat) (Option.some Jvm.ClassFile.FieldType.boolean)).before args0 about1 = true := code_word (m := ⟨1, 3⟩) (meth := k1m3) (c := k1c3) (by decide +kernel) rfl rfl rfl (by decide +kernel)
set_option maxRecDepth 65536 in
theorem w_c14 : (Jvm.Cond.code ({ cls := "java/util/Arrays", name := "fill", desc := "([BIIB)V" } : Jvm.MethodName) jdk_65_method_110_code (5 : Nat) (Option.none : Option Jvm.ClassFile.FieldType)).before args0 about1 = true := code_word (m := ⟨5, 2⟩) (meth := k5m2) (c := k5c2) (by decide +kernel) rfl rfl rfl (by decide +kernel)
set_option maxRecDepth 65536 in
theorem w_c15 : (Jvm.Cond.code ({ cls := "java/util/Arrays", name := "rangeCheck", desc := "(III)V" } : Jvm.MethodName) jdk_65_method_30_code (3 : Nat) (Option.none : Option Jvm.ClassFile.FieldType)).before args0 about1 = true := code_word (m := ⟨5, 1⟩) (meth := k5m1) (c := k5c1) (by decide +kernel) rfl rfl rfl (by decide +kernel)
def codes1 : List Jvm.Cond := [Jvm.Cond.code x code maxLocals ret, Jvm.Cond.code ({ cls := "com/example/quire/quire/core/Bzip2RunsHoldPinLaw", name := "pick", desc := "(IIBJ)B" } : Jvm.MethodName) method_3_code (5 : Nat) (Option.some Jvm.ClassFile.FieldType.byte), Jvm.Cond.code ({ cls := "com/example/quire/quire/core/Bzip2Runs", name := "<init>", desc := "()V" } : Jvm.MethodName) prog_76_method_1_code (1 : Nat) (Option.none : Option Jvm.ClassFile.FieldType), Jvm.Cond.code ({ cls := "java/lang/Object", name := "<init>", desc := "()V" } : Jvm.MethodName) object_method_1_code (1 : Nat) (Option.none : Option Jvm.ClassFile.FieldType), Jvm.Cond.code ({ cls := "com/example/quire/quire/core/Bzip2Runs", name := "hold", desc := "([BI)V" } : Jvm.MethodName) prog_76_method_3_code (7 : Nat) (Option.none : Option Jvm.ClassFile.FieldType), Jvm.Cond.code ({ cls := "com/example/quire/quire/core/Bzip2Runs", name := "emit", desc := "([BII)I" } : Jvm.MethodName) prog_76_method_8_code (9 : Nat) (Option.some Jvm.ClassFile.FieldType.int), Jvm.Cond.code ({ cls := "java/lang/Math", name := "min", desc := "(II)I" } : Jvm.MethodName) jdk_29_method_69_code (2 : Nat) (Option.some Jvm.ClassFile.FieldType.int), Jvm.Cond.code ({ cls := "com/example/quire/quire/core/Bzip2RunsHoldPinLaw", name := "ref", desc := "([BI)I" } : Jvm.MethodName) method_5_code (15 : Nat) (Option.some Jvm.ClassFile.FieldType.int), Jvm.Cond.code ({ cls := "com/example/quire/quire/core/Bzip2Runs", name := "array", desc := "()[B" } : Jvm.MethodName) prog_76_method_2_code (1 : Nat) (Option.some (Jvm.ClassFile.FieldType.array Jvm.ClassFile.FieldType.byte)), Jvm.Cond.code ({ cls := "com/example/quire/quire/core/Bzip2Runs", name := "length", desc := "()I" } : Jvm.MethodName) prog_76_method_4_code (1 : Nat) (Option.some Jvm.ClassFile.FieldType.int), Jvm.Cond.code ({ cls := "com/example/quire/quire/core/Bzip2Runs", name := "gives", desc := "()I" } : Jvm.MethodName) prog_76_method_5_code (1 : Nat) (Option.some Jvm.ClassFile.FieldType.int), Jvm.Cond.code ({ cls := "com/example/quire/quire/core/Bzip2Runs", name := "left", desc := "()I" } : Jvm.MethodName) prog_76_method_6_code (1 : Nat) (Option.some Jvm.ClassFile.FieldType.int), Jvm.Cond.code ({ cls := "com/example/quire/quire/core/Bzip2Runs", name := "done", desc := "()Z" } : Jvm.MethodName) prog_76_method_7_code (1 : Nat) (Option.some Jvm.ClassFile.FieldType.boolean), Jvm.Cond.code ({ cls := "com/example/quire/quire/core/Bzip2RunsHoldPinLaw", name := "same4", desc := "(IIII)Z" } : Jvm.MethodName) method_4_code (4 : Nat) (Option.some Jvm.ClassFile.FieldType.boolean), Jvm.Cond.code ({ cls := "java/util/Arrays", name := "fill", desc := "([BIIB)V" } : Jvm.MethodName) jdk_65_method_110_code (5 : Nat) (Option.none : Option Jvm.ClassFile.FieldType), Jvm.Cond.code ({ cls := "java/util/Arrays", name := "rangeCheck", desc := "(III)V" } : Jvm.MethodName) jdk_65_method_30_code (3 : Nat) (Option.none : Option Jvm.ClassFile.FieldType)]
set_option maxRecDepth 65536 in
theorem codes_eq : words1.filter isCode = codes1 := rfl
theorem w_codes : ∀ c ∈ words1.filter isCode, c.before args0 about1 = true := by
  rw [codes_eq]
  intro c hc
  simp only [codes1, List.mem_cons, List.not_mem_nil, or_false] at hc
  rcases hc with rfl | rfl | rfl | rfl | rfl | rfl | rfl | rfl | rfl | rfl | rfl | rfl | rfl | rfl | rfl | rfl
  · exact w_c0
  · exact w_c1
  · exact w_c2
  · exact w_c3
  · exact w_c4
  · exact w_c5
  · exact w_c6
  · exact w_c7
  · exact w_c8
  · exact w_c9
  · exact w_c10
  · exact w_c11
  · exact w_c12
  · exact w_c13
  · exact w_c14
  · exact w_c15
set_option maxRecDepth 65536 in
theorem w_t1 : (words1.take 24).all (fun c => isCode c || c.before args0 about1) = true := by decide +kernel
set_option maxRecDepth 65536 in
theorem w_t2 : ((words1.drop 24).take 24).all (fun c => isCode c || c.before args0 about1) = true := by decide +kernel
set_option maxRecDepth 65536 in
theorem w_t3 : (((words1.drop 24).drop 24).take 24).all (fun c => isCode c || c.before args0 about1) = true := by decide +kernel
set_option maxRecDepth 65536 in
theorem w_t4 : (((words1.drop 24).drop 24).drop 24).all (fun c => isCode c || c.before args0 about1) = true := by decide +kernel
theorem w_tables : (allAtoms (Jvm.Cond.code x code maxLocals ret :: tables_1)).before args0 about1 = true := by
  rw [allAtoms_all]
  show words1.all (fun c => c.before args0 about1) = true
  refine all_split ?_ w_codes
  rw [← List.take_append_drop 24 words1, List.all_append, w_t1, ← List.take_append_drop 24 (words1.drop 24), List.all_append, w_t2, ← List.take_append_drop 24 ((words1.drop 24).drop 24), List.all_append, w_t3, w_t4]
  rfl
set_option maxRecDepth 65536 in
theorem w_case : (Jvm.Cond.and given_1 narrow_1).before args0 about1 = true := by decide +kernel
theorem w_applies : (headSpec (Jvm.Cond.code x code maxLocals ret :: tables_1) room_1).applies x e0.platform about1 = true :=
  (Spec.applies_iff w_frames).mpr ⟨w_running, w_runnable, w_alone, w_named, w_hears, w_ripe, w_room, w_tables⟩
theorem atStart : AtStart classFile x code maxLocals ret World_1 tables_1 room_1 Calls_1 rest_1 Pre_1 launch0 p0 e0 about1 theMethod args0 below0 :=
  ⟨lists_1, trivial, launch0.admits_env _ _ _, launch0.least_env, fairChoices_fair.cas, fairChoices_fair.clock, w_frames, w_args, w_heap, w_applies, trivial, trivial, w_case⟩
end start1
theorem witness_1 : WitnessClaimed_1 := ⟨start1.p0, start1.e0, start1.about1, start1.theMethod, start1.args0, start1.below0, start1.atStart⟩
end Jvm.Pilot.@@N@@
