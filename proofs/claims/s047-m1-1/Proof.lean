import JvmDerived
import JvmDerived.Pilot.@@N@@Statement
import JvmDerived.Pilot.@@N@@Code
set_option linter.unusedVariables false
set_option linter.unusedSimpArgs false
namespace Jvm.OwnKit
open Sem ClassFile Op Lib Jvm.Stand Jvm.Free Jvm.LawKit Jvm.RoadKit
/-- a run of the method y that stands at pc with the locals ls, the stack st and the heap h comes to a return that Q allows -/
def ORun (l : Launch) (y : MethodName) (bytes : ByteArray) (maxL : Nat) (ret : Option FieldType) (R : Room) (Z : State) (n0 : Nat) (as' : Array Value) (Q : Option Value → Heap → Prop) (h : Heap) (cells slots pc : Nat) (ls : List Slot) (st : List Value) : Prop :=
  ∀ (p : Program) (e : Env) (s : State) (m : MethodId) (below : List Frame) (meth : Method) (c : Code) (T : State) (locs : List Loc),
    p.tables.exec = Jvm.exec → Z.Warmed39 s.vm → c.code = bytes → c.maxLocals = maxL → s.vm.findClass y.cls = some m.cls → meth.name = y.name → meth.sig.returnType = ret → meth.locks = false →
    Stand p l e R s m as' below meth c T locs cells slots → T.heap = h → Fr n0 locs →
    ∃ (U : State) (o : Outcome), Steps p.tables e below (T.setTop (mkF m pc ls.toArray st)) U ∧ U.status = .running ∧ Ended U below o ∧ ∃ v L, o = .returned v ∧ (Q v U.heap ∧ Fr n0 L) ∧ FrameEnd s o U L R.cells R.slots
/-- the contract of a method at the heap h and the arguments as' -/
def Ct (l : Launch) (y : MethodName) (bytes : ByteArray) (maxL : Nat) (ret : Option FieldType) (ws : List Jvm.Cond) (R : Room) (Z : State) (n0 : Nat) (as' : Array Value) (h : Heap) (Q : Option Value → Heap → Prop) : Prop :=
  MetFree l y (head1 (Jvm.Cond.code y bytes maxL ret :: ws) R) (fun a U => a = as' ∧ Z.Warmed39 U.vm ∧ U.heap = h) (fun _ _ _ _ _ => True) (fun _ U o U' => ∃ v L, o = .returned v ∧ (Q v U'.heap ∧ Fr n0 L) ∧ FrameEnd U o U' L R.cells R.slots)
def D (bytes : ByteArray) (pc : Nat) (i : Instr) (len nx : Nat) : Prop := decode bytes pc = .ok (i, len) ∧ pc + len = nx
def DB (bytes : ByteArray) (pc : Nat) (i : Int → Instr) (off : Int) (nx tgt : Nat) : Prop := decode bytes pc = .ok (i off, 3) ∧ pc + 3 = nx ∧ 0 ≤ (pc : Int) + off ∧ ((pc : Int) + off).toNat = tgt
/-- an array of a primitive kind whose elements are kept as ints, by their list -/
def Ary (Z : State) (h : Heap) (a : Addr) (ty : FieldType) (vs : List Int32) : Prop := ∃ c : Cell, Arr Z h a c ty ∧ c.slots = (vs.map Value.int).toArray
theorem eq_ints {args : Array Value} {first s : State} {o : Option Outcome} {idx : List Nat} {a b : Term} {x y : Int32} (ha : a.eval args first o idx s = some (.int x)) (hb : b.eval args first o idx s = some (.int y)) : (Jvm.Cond.eq a b).value args first o s idx = some (decide (x = y)) := by simp [Cond.value, ha, hb]
theorem fldEq {args : Array Value} {s : State} {t : Term} {C n d : String} {x : Addr} {k : Int32} (ht : t.eval args s none [] s = some (.ref x)) (h : (Jvm.Cond.eq (.field t C n d) (.int k)).value args s none s [] = some true) : Fld s s.heap x C n d (.int k) := by
  have e : (Term.field t C n d).eval args s none [] s = some (.int k) := by
    obtain ⟨v, w, e1, e2, k1, k2⟩ := cmp_v (Or.inl h)
    cases (show some (Value.int k) = some w from e2)
    obtain ⟨z, rfl⟩ := k2
    have q := gotT (eq_ints e1 e2) h
    rw [q] at e1; exact e1
  exact Fld.start (by rw [← fld_at ht]; exact e)
theorem n32_add (a b : Nat) : a.toInt32 + b.toInt32 = (a + b).toInt32 := (Int32.ofNat_add a b).symm
theorem n32_int {a : Nat} (h : a < 2 ^ 31) : a.toInt32.toInt = a := Int32.toInt_ofNat_of_lt h
theorem n32_sub {a b : Nat} (h : b ≤ a) : a.toInt32 - b.toInt32 = (a - b).toInt32 := by
  have e : (a - b).toInt32 + b.toInt32 = a.toInt32 := by rw [n32_add]; congr 1; omega
  rw [← e, Int32.add_sub_cancel]
theorem n32_lt {a b : Nat} (ha : a < 2 ^ 31) (hb : b < 2 ^ 31) : a.toInt32 < b.toInt32 ↔ a < b := by
  rw [Int32.lt_iff_toInt_lt, n32_int ha, n32_int hb]; omega
theorem n32_eq {a b : Nat} (ha : a < 2 ^ 31) (hb : b < 2 ^ 31) : a.toInt32 = b.toInt32 ↔ a = b := by
  rw [← Int32.toInt_inj, n32_int ha, n32_int hb]; omega
theorem n32_clamp {a : Nat} (h : a < 2 ^ 31) : a.toInt32.toNatClampNeg = a := by
  show a.toInt32.toInt.toNat = a
  rw [n32_int h]; rfl
theorem n32_nn {a : Nat} (h : a < 2 ^ 31) : ¬ a.toInt32 < 0 := by
  have h0 : (0 : Int32).toInt = 0 := by decide
  rw [Int32.lt_iff_toInt_lt, n32_int h]; omega
theorem n32_of {x : Int32} (h : ¬ x < 0) : ∃ n : Nat, x = n.toInt32 ∧ n < 2 ^ 31 ∧ x.toInt = n := ⟨x.toNatClampNeg, (back32 h).1.symm, (back32 h).2, nat_of h⟩
theorem n32_and (x m : Int32) (k : Nat) (hk : k ≤ 31) (hm : m.toBitVec.toNat = 2 ^ k - 1) : ∃ n : Nat, x &&& m = n.toInt32 ∧ n < 2 ^ k := by
  have h1 := c_mask x m k hk hm
  have h2 : (0 : Int) ≤ (x &&& m).toInt := by rw [h1]; exact Int.emod_nonneg _ (by have := Nat.pow_pos (n := k) (show 0 < 2 by decide); omega)
  have h3 : (x &&& m).toInt < (2 ^ k : Nat) := by rw [h1]; exact Int.emod_lt_of_pos _ (by have := Nat.pow_pos (n := k) (show 0 < 2 by decide); omega)
  have h0 : (0 : Int32).toInt = 0 := by decide
  obtain ⟨n, e1, e2, e3⟩ := n32_of (x := x &&& m) (by rw [Int32.lt_iff_toInt_lt]; omega)
  exact ⟨n, e1, by omega⟩
theorem n32_rem {u k : Nat} (hu : u < 2 ^ 31) (hk : 0 < k) (hk2 : k < 2 ^ 31) : u.toInt32 % k.toInt32 = (u % k).toInt32 := by
  have h2 := (c_irem u.toInt32 k.toInt32 k (n32_int hk2)).1 (by rw [n32_int hu]; omega)
  have h3 := Nat.mod_lt u hk
  refine Int32.toInt_inj.mp ?_
  rw [h2, n32_int hu, n32_int (by omega)]
  omega
theorem n32_ushr (x q : Int32) (k : Nat) (hk : q.toBitVec.toNat % 32 = k) (h0 : 0 < k) : ∃ u : Nat, (x.toUInt32 >>> (q &&& 31).toUInt32).toInt32 = u.toInt32 ∧ u < 2 ^ 31 := by
  have h1 := c_iushr x q k hk h0
  have h2 : (2 : Nat) ≤ 2 ^ k := Nat.le_trans (by decide) (Nat.pow_le_pow_right (by decide) h0)
  have h3 : 0 ≤ (x.toInt % 4294967296) / ((2 ^ k : Nat) : Int) := Int.ediv_nonneg (by omega) (by omega)
  have z : (0 : Int32).toInt = 0 := by decide
  obtain ⟨n, e1, e2, e3⟩ := n32_of (x := (x.toUInt32 >>> (q &&& 31).toUInt32).toInt32) (by rw [Int32.lt_iff_toInt_lt]; omega)
  exact ⟨n, e1, e2⟩
theorem n32_mod (x : Int32) (k : Nat) (hk : 0 < k) (hk2 : k < 2 ^ 31) : ∃ n : Nat, (x &&& (2147483647 : Int32)) % k.toInt32 = n.toInt32 ∧ n < k := by
  have h1 := c_mask x 2147483647 31 (by decide) (by decide)
  have h2 := (c_irem (x &&& 2147483647) k.toInt32 k (n32_int hk2)).1 (by omega)
  have h4 := Int.emod_nonneg (x &&& 2147483647).toInt (b := (k : Int)) (by omega)
  have h5 := Int.emod_lt_of_pos (x &&& 2147483647).toInt (b := (k : Int)) (by omega)
  have h0 : (0 : Int32).toInt = 0 := by decide
  obtain ⟨n, e1, e2, e3⟩ := n32_of (x := (x &&& (2147483647 : Int32)) % k.toInt32) (by rw [Int32.lt_iff_toInt_lt]; omega)
  exact ⟨n, e1, by omega⟩
theorem lenEq {args : Array Value} {s : State} {t : Term} {a : Addr} {cl : Cell} {ty : FieldType} {k : Int32} (ht : t.eval args s none [] s = some (.ref a)) (A : Arr s s.heap a cl ty) (h : (Jvm.Cond.eq (.length t) (.int k)).value args s none s [] = some true) : cl.slots.size < 2 ^ 31 ∧ cl.slots.size.toInt32 = k := by
  have ha := A.fin (Vm.Alike.refl _)
  obtain ⟨v, w, e1, e2, k1, k2⟩ := cmp_v (Or.inl h)
  by_cases hl : cl.slots.size < 2 ^ 31
  · have e := len_f ht ha hl
    exact ⟨hl, gotT (eq_ints e (show (Term.int k).eval args s none [] s = some (.int k) from rfl)) h⟩
  · simp [Term.eval, ht, ha, hl] at e1
theorem elemEq {args : Array Value} {s : State} {t u : Term} {a b : Addr} {cl : Cell} {ty : FieldType} {j : Int32} (ht : t.eval args s none [] s = some (.ref a)) (A : Arr s s.heap a cl ty) (hu : u.eval args s none [] s = some (.ref b)) (h : (Jvm.Cond.eq (.elem t (.int j)) u).value args s none s [] = some true) : cl.slots[j.toNatClampNeg]? = some (.ref b) := by
  obtain ⟨v, w, e1, e2, k1, k2⟩ := cmp_v (Or.inl h)
  cases hu.symm.trans e2
  have hv : v.isRef = true := k2.2
  have q := gotT (eq_R e1 hu hv rfl) h
  rw [q] at e1
  exact (elem_in e1 ht rfl A.1).2
section AryFacts
variable {Z : State} {h h' : Heap} {a b : Addr} {ty : FieldType} {vs vs' : List Int32} {sl : Nat} {v : Value} {ws : List Addr}
theorem Ary.lt (F : Ary Z h a ty vs) : a < h.size := by obtain ⟨c, A, -⟩ := F; exact A.lt
theorem Ary.ext (F : Ary Z h a ty vs) (E : Ext h h') : Ary Z h' a ty vs := by obtain ⟨c, A, q⟩ := F; exact ⟨c, A.ext E, q⟩
theorem Ary.other (F : Ary Z h b ty vs) (W : Wr h h' a sl v) (q : b ≠ a) : Ary Z h' b ty vs := by obtain ⟨c, A, r⟩ := F; exact ⟨c, A.other W q, r⟩
theorem Ary.keep (F : Ary Z h a ty vs) (K : Keep h h' ws) (q : a ∉ ws) : Ary Z h' a ty vs := by obtain ⟨c, A, r⟩ := F; exact ⟨c, ⟨K.2.1 a c A.1 q, A.2⟩, r⟩
theorem Ary.set {i : Nat} {x : Int32} (F : Ary Z h a ty vs) (W : Wr h h' a i (.int x)) (e : vs.set i x = vs') : Ary Z h' a ty vs' := by
  obtain ⟨c, A, r⟩ := F
  refine ⟨_, A.same W, ?_⟩
  subst e
  simp [Cell.setSlot, r, List.map_set]
theorem Ary.new {k : ClassId} {n : Int32} {m : Nat} (A : Arr Z h a (newA k ty n) ty) (hd : defaultValue ty = .int 0) (hn : n.toNatClampNeg = m) : Ary Z h a ty (List.replicate m 0) := by
  refine ⟨_, A, ?_⟩
  subst hn
  simp [newA, hd]
theorem Ary.inb {j : Int32} {x : Int32} {c : Cell} (q : c.slots = (vs.map Value.int).toArray) (hj : ¬ j < 0) (hv : vs[j.toNatClampNeg]? = some x) : ¬ (j < 0 ∨ c.slots.size ≤ j.toNatClampNeg) ∧ c.slots[j.toNatClampNeg]? = some (.int x) := by
  have h1 : j.toNatClampNeg < vs.length := by
    rcases Nat.lt_or_ge j.toNatClampNeg vs.length with h | h
    · exact h
    · rw [List.getElem?_eq_none h] at hv; cases hv
  refine ⟨fun r => ?_, ?_⟩
  · rcases r with r | r
    · exact hj r
    · rw [q] at r; simp at r; omega
  · rw [q]; simp [hv]
theorem Ary.size {c : Cell} (q : c.slots = (vs.map Value.int).toArray) : c.slots.size = vs.length := by rw [q]; simp
end AryFacts
section Logic
variable {l : Launch} {y : MethodName} {bytes : ByteArray} {maxL : Nat} {ret : Option FieldType} {ws : List Jvm.Cond} {R : Room} {Z : State} {n0 : Nat} {as' : Array Value} {Q : Option Value → Heap → Prop} {h : Heap} {cells slots pc nx tgt : Nat} {ls ls' : List Slot} {st : List Value} {a0 : Array Value}
theorem Ct.of (hpl : plainFor y = true) (hef : ∀ m, entryFrame m as' maxL = mkF m 0 ls.toArray []) (H : ORun l y bytes maxL ret R Z n0 as' Q h 0 0 0 ls []) : Ct l y bytes maxL ret ws R Z n0 as' h Q := by
  refine MetFree.of_bodySF hpl hisR ?_
  intro p e s m args below meth c s₁ Bd hml0 hP hK
  obtain ⟨rfl, hZ, hh⟩ := hP
  rw [hef m]
  exact H p e s m below meth c s₁ [] Bd.exec hZ Bd.bytes hml0 (findClass_of_methodNamed Bd.named) (name_of_methodNamed Bd.named Bd.method).1 Bd.returns Bd.notSynchronized (Stand.of_body Bd) (by rw [← hh, Bd.state]; rfl) (Fr.nil n0)
theorem ORun.weak {cells' slots' : Nat} (hc : cells ≤ cells') (hs : slots ≤ slots') (K : ORun l y bytes maxL ret R Z n0 as' Q h cells' slots' pc ls st) : ORun l y bytes maxL ret R Z n0 as' Q h cells slots pc ls st :=
  fun p e s m below meth c T locs hx hZ hby hml hown hnm hret hlk X eT N => K p e s m below meth c T locs hx hZ hby hml hown hnm hret hlk ⟨X.admits, X.cas, X.clock, X.frames, X.room, X.hears, X.method, X.code, X.here, X.tail, X.warmed, X.limits, X.bytes, X.same.mono hc hs⟩ eT N
/-- one step that moves neither heap nor tables -/
theorem ORun.step {pc' : Nat} {st' : List Value}
    (hs : ∀ (p : Program) (e : Env) (s : State) (m : MethodId) (below : List Frame) (meth : Method) (c : Code) (T : State) (locs : List Loc), p.tables.exec = Jvm.exec → Z.Warmed39 s.vm → c.code = bytes → s.vm.findClass y.cls = some m.cls → Stand p l e R s m as' below meth c T locs cells slots → T.heap = h →
      ∀ target, Steps p.tables e below (T.setTop (mkF m pc' ls'.toArray st')) target → Steps p.tables e below (T.setTop (mkF m pc ls.toArray st)) target)
    (K : ORun l y bytes maxL ret R Z n0 as' Q h cells slots pc' ls' st') : ORun l y bytes maxL ret R Z n0 as' Q h cells slots pc ls st :=
  fun p e s m below meth c T locs hx hZ hby hml hown hnm hret hlk X eT N => by
    obtain ⟨U, o, h1, h2⟩ := K p e s m below meth c T locs hx hZ hby hml hown hnm hret hlk X eT N
    exact ⟨U, o, hs p e s m below meth c T locs hx hZ hby hown X eT _ h1, h2⟩
/-- one step by a law that hands back a new state -/
theorem ORun.law {pc' : Nat} {st' : List Value} {h' : Heap} {cells' slots' : Nat}
    (hs : ∀ (p : Program) (e : Env) (s : State) (m : MethodId) (below : List Frame) (meth : Method) (c : Code) (T : State) (locs : List Loc), p.tables.exec = Jvm.exec → Z.Warmed39 s.vm → c.code = bytes → c.maxLocals = maxL → s.vm.findClass y.cls = some m.cls → meth.name = y.name → Stand p l e R s m as' below meth c T locs cells slots → T.heap = h → Fr n0 locs →
      ∃ T' locs', Stand p l e R s m as' below meth c T' locs' cells' slots' ∧ T'.heap = h' ∧ Fr n0 locs' ∧ ∀ target, Steps p.tables e below (T'.setTop (mkF m pc' ls'.toArray st')) target → Steps p.tables e below (T.setTop (mkF m pc ls.toArray st)) target)
    (K : ORun l y bytes maxL ret R Z n0 as' Q h' cells' slots' pc' ls' st') : ORun l y bytes maxL ret R Z n0 as' Q h cells slots pc ls st :=
  fun p e s m below meth c T locs hx hZ hby hml hown hnm hret hlk X eT N => by
    obtain ⟨T', locs', X', eT', N', st⟩ := hs p e s m below meth c T locs hx hZ hby hml hown hnm X eT N
    obtain ⟨U, o, h1, h2⟩ := K p e s m below meth c T' locs' hx hZ hby hml hown hnm hret hlk X' eT' N'
    exact ⟨U, o, st _ h1, h2⟩
theorem getL {k : Nat} {v : Slot} (q : ls[k]? = some v) : ls.toArray[k]? = some v := by simpa using q
/-! loads, stores -/
theorem r_iloadN {k : Fin 4} {v : Int32} (hd : D bytes pc (.iload_n k) 1 nx) (hl : ls[k.val]? = some (.val (.int v))) (K : ORun l y bytes maxL ret R Z n0 as' Q h cells slots nx ls (.int v :: st)) : ORun l y bytes maxL ret R Z n0 as' Q h cells slots pc ls st := by
  obtain ⟨hd, rfl⟩ := hd
  exact K.step fun p e s m below meth c T locs hx hZ hby hown X eT t k => XS.iloadN X.here hx rfl (hb hby hd) (getL hl) k
theorem r_iload {k : Nat} {v : Int32} (hd : D bytes pc (.iload k) 2 nx) (hl : ls[k]? = some (.val (.int v))) (K : ORun l y bytes maxL ret R Z n0 as' Q h cells slots nx ls (.int v :: st)) : ORun l y bytes maxL ret R Z n0 as' Q h cells slots pc ls st := by
  obtain ⟨hd, rfl⟩ := hd
  exact K.step fun p e s m below meth c T locs hx hZ hby hown X eT t k => XS.iload X.here hx rfl (hb hby hd) (getL hl) k
theorem r_aloadN {k : Fin 4} {v : Value} (hd : D bytes pc (.aload_n k) 1 nx) (hl : ls[k.val]? = some (.val v)) (hv : v.isRef = true) (K : ORun l y bytes maxL ret R Z n0 as' Q h cells slots nx ls (v :: st)) : ORun l y bytes maxL ret R Z n0 as' Q h cells slots pc ls st := by
  obtain ⟨hd, rfl⟩ := hd
  exact K.step fun p e s m below meth c T locs hx hZ hby hown X eT t k => XS.aloadN X.here hx rfl (hb hby hd) (getL hl) hv k
theorem r_aload {k : Nat} {v : Value} (hd : D bytes pc (.aload k) 2 nx) (hl : ls[k]? = some (.val v)) (hv : v.isRef = true) (K : ORun l y bytes maxL ret R Z n0 as' Q h cells slots nx ls (v :: st)) : ORun l y bytes maxL ret R Z n0 as' Q h cells slots pc ls st := by
  obtain ⟨hd, rfl⟩ := hd
  exact K.step fun p e s m below meth c T locs hx hZ hby hown X eT t k => XS.aload X.here hx rfl (hb hby hd) (getL hl) hv k
theorem r_lloadN {k : Fin 4} {v : Int64} (hd : D bytes pc (.lload_n k) 1 nx) (hl : ls[k.val]? = some (.val (.long v))) (K : ORun l y bytes maxL ret R Z n0 as' Q h cells slots nx ls (.long v :: st)) : ORun l y bytes maxL ret R Z n0 as' Q h cells slots pc ls st := by
  obtain ⟨hd, rfl⟩ := hd
  exact K.step fun p e s m below meth c T locs hx hZ hby hown X eT t k => XS.lloadN X.here hx rfl (hb hby hd) (getL hl) k
theorem r_lload {k : Nat} {v : Int64} (hd : D bytes pc (.lload k) 2 nx) (hl : ls[k]? = some (.val (.long v))) (K : ORun l y bytes maxL ret R Z n0 as' Q h cells slots nx ls (.long v :: st)) : ORun l y bytes maxL ret R Z n0 as' Q h cells slots pc ls st := by
  obtain ⟨hd, rfl⟩ := hd
  exact K.step fun p e s m below meth c T locs hx hZ hby hown X eT t k => XS.lload X.here hx rfl (hb hby hd) (getL hl) k
theorem r_istoreN {k : Fin 4} {v : Int32} (hd : D bytes pc (.istore_n k) 1 nx) (ls' : List Slot) (hl : storeLocals ls.toArray k.val (.int v) = some ls'.toArray) (K : ORun l y bytes maxL ret R Z n0 as' Q h cells slots nx ls' st) : ORun l y bytes maxL ret R Z n0 as' Q h cells slots pc ls (.int v :: st) := by
  obtain ⟨hd, rfl⟩ := hd
  exact K.step fun p e s m below meth c T locs hx hZ hby hown X eT t k => XS.istoreN X.here hx rfl (hb hby hd) rfl hl k
theorem r_istore {k : Nat} {v : Int32} (hd : D bytes pc (.istore k) 2 nx) (ls' : List Slot) (hl : storeLocals ls.toArray k (.int v) = some ls'.toArray) (K : ORun l y bytes maxL ret R Z n0 as' Q h cells slots nx ls' st) : ORun l y bytes maxL ret R Z n0 as' Q h cells slots pc ls (.int v :: st) := by
  obtain ⟨hd, rfl⟩ := hd
  exact K.step fun p e s m below meth c T locs hx hZ hby hown X eT t k => XS.istore X.here hx rfl (hb hby hd) rfl hl k
theorem r_astoreN {k : Fin 4} {v : Value} (hd : D bytes pc (.astore_n k) 1 nx) (hv : v.isRef = true) (ls' : List Slot) (hl : storeLocals ls.toArray k.val v = some ls'.toArray) (K : ORun l y bytes maxL ret R Z n0 as' Q h cells slots nx ls' st) : ORun l y bytes maxL ret R Z n0 as' Q h cells slots pc ls (v :: st) := by
  obtain ⟨hd, rfl⟩ := hd
  exact K.step fun p e s m below meth c T locs hx hZ hby hown X eT t k => XS.astoreN X.here hx rfl (hb hby hd) rfl hv hl k
theorem r_astore {k : Nat} {v : Value} (hd : D bytes pc (.astore k) 2 nx) (hv : v.isRef = true) (ls' : List Slot) (hl : storeLocals ls.toArray k v = some ls'.toArray) (K : ORun l y bytes maxL ret R Z n0 as' Q h cells slots nx ls' st) : ORun l y bytes maxL ret R Z n0 as' Q h cells slots pc ls (v :: st) := by
  obtain ⟨hd, rfl⟩ := hd
  exact K.step fun p e s m below meth c T locs hx hZ hby hown X eT t k => XS.astore X.here hx rfl (hb hby hd) rfl hv hl k
theorem r_lstoreN {k : Fin 4} {v : Int64} (hd : D bytes pc (.lstore_n k) 1 nx) (ls' : List Slot) (hl : storeLocals ls.toArray k.val (.long v) = some ls'.toArray) (K : ORun l y bytes maxL ret R Z n0 as' Q h cells slots nx ls' st) : ORun l y bytes maxL ret R Z n0 as' Q h cells slots pc ls (.long v :: st) := by
  obtain ⟨hd, rfl⟩ := hd
  exact K.step fun p e s m below meth c T locs hx hZ hby hown X eT t k => XS.lstoreN X.here hx rfl (hb hby hd) rfl hl k
theorem r_lstore {k : Nat} {v : Int64} (hd : D bytes pc (.lstore k) 2 nx) (ls' : List Slot) (hl : storeLocals ls.toArray k (.long v) = some ls'.toArray) (K : ORun l y bytes maxL ret R Z n0 as' Q h cells slots nx ls' st) : ORun l y bytes maxL ret R Z n0 as' Q h cells slots pc ls (.long v :: st) := by
  obtain ⟨hd, rfl⟩ := hd
  exact K.step fun p e s m below meth c T locs hx hZ hby hown X eT t k => XS.lstore X.here hx rfl (hb hby hd) rfl hl k
theorem r_iinc {k : Nat} {i : Int} {v w : Int32} (hd : D bytes pc (.iinc k i) 3 nx) (hl : ls[k]? = some (.val (.int v))) (hw : v + Int32.ofInt i = w) (ls' : List Slot) (hl' : storeLocals ls.toArray k (.int w) = some ls'.toArray) (K : ORun l y bytes maxL ret R Z n0 as' Q h cells slots nx ls' st) : ORun l y bytes maxL ret R Z n0 as' Q h cells slots pc ls st := by
  obtain ⟨hd, rfl⟩ := hd
  subst hw
  exact K.step fun p e s m below meth c T locs hx hZ hby hown X eT t k => XS.iinc X.here hx rfl (hb hby hd) (getL hl) hl' k
/-! constants -/
theorem r_iconst {i : Int} (v : Int32) (hv : Int32.ofInt i = v) (hd : D bytes pc (.iconst i) 1 nx) (K : ORun l y bytes maxL ret R Z n0 as' Q h cells slots nx ls (.int v :: st)) : ORun l y bytes maxL ret R Z n0 as' Q h cells slots pc ls st := by
  obtain ⟨hd, rfl⟩ := hd
  subst hv
  exact K.step fun p e s m below meth c T locs hx hZ hby hown X eT t k => XS.iconst X.here hx rfl (hb hby hd) k
theorem r_bipush {i : Int} (v : Int32) (hv : (Int8.ofInt i).toInt32 = v) (hd : D bytes pc (.bipush i) 2 nx) (K : ORun l y bytes maxL ret R Z n0 as' Q h cells slots nx ls (.int v :: st)) : ORun l y bytes maxL ret R Z n0 as' Q h cells slots pc ls st := by
  obtain ⟨hd, rfl⟩ := hd
  subst hv
  exact K.step fun p e s m below meth c T locs hx hZ hby hown X eT t k => XS.bipush X.here hx rfl (hb hby hd) k
theorem r_sipush {i : Int} (v : Int32) (hv : (Int16.ofInt i).toInt32 = v) (hd : D bytes pc (.sipush i) 3 nx) (K : ORun l y bytes maxL ret R Z n0 as' Q h cells slots nx ls (.int v :: st)) : ORun l y bytes maxL ret R Z n0 as' Q h cells slots pc ls st := by
  obtain ⟨hd, rfl⟩ := hd
  subst hv
  exact K.step fun p e s m below meth c T locs hx hZ hby hown X eT t k => XS.sipush X.here hx rfl (hb hby hd) k
theorem r_lconst {i : Fin 2} (v : Int64) (hv : Int64.ofNat i = v) (hd : D bytes pc (.lconst i) 1 nx) (K : ORun l y bytes maxL ret R Z n0 as' Q h cells slots nx ls (.long v :: st)) : ORun l y bytes maxL ret R Z n0 as' Q h cells slots pc ls st := by
  obtain ⟨hd, rfl⟩ := hd
  subst hv
  exact K.step fun p e s m below meth c T locs hx hZ hby hown X eT t k => XS.lconst X.here hx rfl (hb hby hd) k
theorem r_null (hd : D bytes pc .aconst_null 1 nx) (K : ORun l y bytes maxL ret R Z n0 as' Q h cells slots nx ls (.null :: st)) : ORun l y bytes maxL ret R Z n0 as' Q h cells slots pc ls st := by
  obtain ⟨hd, rfl⟩ := hd
  exact K.step fun p e s m below meth c T locs hx hZ hby hown X eT t k => XS.aconstNull X.here hx rfl (hb hby hd) k
theorem r_ldc {i : Nat} {v : Int32} (w : (Cond.constant y.cls i v).before a0 Z = true) (hd : D bytes pc (.ldc i) 2 nx) (K : ORun l y bytes maxL ret R Z n0 as' Q h cells slots nx ls (.int v :: st)) : ORun l y bytes maxL ret R Z n0 as' Q h cells slots pc ls st := by
  obtain ⟨hd, rfl⟩ := hd
  exact K.step fun p e s m below meth c T locs hx hZ hby hown X eT t k => X.ldcInt hx hown (mvT hZ w) (g := mkF m pc ls.toArray st) rfl (hb hby hd) _ k
theorem r_ldc2 {i : Nat} {v : Int64} (w : (Cond.constantLong y.cls i v).before a0 Z = true) (hd : D bytes pc (.ldc2_w i) 3 nx) (K : ORun l y bytes maxL ret R Z n0 as' Q h cells slots nx ls (.long v :: st)) : ORun l y bytes maxL ret R Z n0 as' Q h cells slots pc ls st := by
  obtain ⟨hd, rfl⟩ := hd
  exact K.step fun p e s m below meth c T locs hx hZ hby hown X eT t k => X.ldc2Long hx hown (mvT hZ w) (g := mkF m pc ls.toArray st) rfl (hb hby hd) _ k
theorem r_ldcS {i : Nat} {text : String} {a : Addr} (w : (Cond.stringRef y.cls i text).before a0 Z = true) (L : Lit Z y.cls i a) (hd : D bytes pc (.ldc i) 2 nx) (K : ORun l y bytes maxL ret R Z n0 as' Q h cells slots nx ls (.ref a :: st)) : ORun l y bytes maxL ret R Z n0 as' Q h cells slots pc ls st := by
  obtain ⟨hd, rfl⟩ := hd
  exact K.step fun p e s m below meth c T locs hx hZ hby hown X eT t k => ldcR X hx hZ hown w L (g := mkF m pc ls.toArray st) rfl (hb hby hd) _ k
/-! arithmetic -/
theorem r_iadd {x z : Int32} (hd : D bytes pc .iadd 1 nx) (K : ORun l y bytes maxL ret R Z n0 as' Q h cells slots nx ls (.int (x + z) :: st)) : ORun l y bytes maxL ret R Z n0 as' Q h cells slots pc ls (.int z :: .int x :: st) := by
  obtain ⟨hd, rfl⟩ := hd
  exact K.step fun p e s m below meth c T locs hx hZ hby hown X eT t k => XS.iadd X.here hx rfl (hb hby hd) rfl k
theorem r_isub {x z : Int32} (hd : D bytes pc .isub 1 nx) (K : ORun l y bytes maxL ret R Z n0 as' Q h cells slots nx ls (.int (x - z) :: st)) : ORun l y bytes maxL ret R Z n0 as' Q h cells slots pc ls (.int z :: .int x :: st) := by
  obtain ⟨hd, rfl⟩ := hd
  exact K.step fun p e s m below meth c T locs hx hZ hby hown X eT t k => XS.isub X.here hx rfl (hb hby hd) rfl k
theorem r_iand {x z : Int32} (hd : D bytes pc .iand 1 nx) (K : ORun l y bytes maxL ret R Z n0 as' Q h cells slots nx ls (.int (x &&& z) :: st)) : ORun l y bytes maxL ret R Z n0 as' Q h cells slots pc ls (.int z :: .int x :: st) := by
  obtain ⟨hd, rfl⟩ := hd
  exact K.step fun p e s m below meth c T locs hx hZ hby hown X eT t k => XS.iand X.here hx rfl (hb hby hd) rfl k
theorem r_imul {x z : Int32} (hd : D bytes pc .imul 1 nx) (K : ORun l y bytes maxL ret R Z n0 as' Q h cells slots nx ls (.int (x * z) :: st)) : ORun l y bytes maxL ret R Z n0 as' Q h cells slots pc ls (.int z :: .int x :: st) := by
  obtain ⟨hd, rfl⟩ := hd
  exact K.step fun p e s m below meth c T locs hx hZ hby hown X eT t k => XS.imul X.here hx rfl (hb hby hd) rfl k
theorem r_ior {x z : Int32} (hd : D bytes pc .ior 1 nx) (K : ORun l y bytes maxL ret R Z n0 as' Q h cells slots nx ls (.int (x ||| z) :: st)) : ORun l y bytes maxL ret R Z n0 as' Q h cells slots pc ls (.int z :: .int x :: st) := by
  obtain ⟨hd, rfl⟩ := hd
  exact K.step fun p e s m below meth c T locs hx hZ hby hown X eT t k => XS.ior X.here hx rfl (hb hby hd) rfl k
theorem r_ixor {x z : Int32} (hd : D bytes pc .ixor 1 nx) (K : ORun l y bytes maxL ret R Z n0 as' Q h cells slots nx ls (.int (x ^^^ z) :: st)) : ORun l y bytes maxL ret R Z n0 as' Q h cells slots pc ls (.int z :: .int x :: st) := by
  obtain ⟨hd, rfl⟩ := hd
  exact K.step fun p e s m below meth c T locs hx hZ hby hown X eT t k => XS.ixor X.here hx rfl (hb hby hd) rfl k
theorem r_ishl {x z : Int32} (hd : D bytes pc .ishl 1 nx) (K : ORun l y bytes maxL ret R Z n0 as' Q h cells slots nx ls (.int (x <<< (z &&& 31)) :: st)) : ORun l y bytes maxL ret R Z n0 as' Q h cells slots pc ls (.int z :: .int x :: st) := by
  obtain ⟨hd, rfl⟩ := hd
  exact K.step fun p e s m below meth c T locs hx hZ hby hown X eT t k => XS.ishl X.here hx rfl (hb hby hd) rfl k
theorem r_ishr {x z : Int32} (hd : D bytes pc .ishr 1 nx) (K : ORun l y bytes maxL ret R Z n0 as' Q h cells slots nx ls (.int (x >>> (z &&& 31)) :: st)) : ORun l y bytes maxL ret R Z n0 as' Q h cells slots pc ls (.int z :: .int x :: st) := by
  obtain ⟨hd, rfl⟩ := hd
  exact K.step fun p e s m below meth c T locs hx hZ hby hown X eT t k => XS.ishr X.here hx rfl (hb hby hd) rfl k
theorem r_iushr {x z : Int32} (hd : D bytes pc .iushr 1 nx) (K : ORun l y bytes maxL ret R Z n0 as' Q h cells slots nx ls (.int ((x.toUInt32 >>> (z &&& 31).toUInt32).toInt32) :: st)) : ORun l y bytes maxL ret R Z n0 as' Q h cells slots pc ls (.int z :: .int x :: st) := by
  obtain ⟨hd, rfl⟩ := hd
  exact K.step fun p e s m below meth c T locs hx hZ hby hown X eT t k => XS.iushr X.here hx rfl (hb hby hd) rfl k
theorem r_ladd {x z : Int64} (hd : D bytes pc .ladd 1 nx) (K : ORun l y bytes maxL ret R Z n0 as' Q h cells slots nx ls (.long (x + z) :: st)) : ORun l y bytes maxL ret R Z n0 as' Q h cells slots pc ls (.long z :: .long x :: st) := by
  obtain ⟨hd, rfl⟩ := hd
  exact K.step fun p e s m below meth c T locs hx hZ hby hown X eT t k => XS.ladd X.here hx rfl (hb hby hd) rfl k
theorem r_lsub {x z : Int64} (hd : D bytes pc .lsub 1 nx) (K : ORun l y bytes maxL ret R Z n0 as' Q h cells slots nx ls (.long (x - z) :: st)) : ORun l y bytes maxL ret R Z n0 as' Q h cells slots pc ls (.long z :: .long x :: st) := by
  obtain ⟨hd, rfl⟩ := hd
  exact K.step fun p e s m below meth c T locs hx hZ hby hown X eT t k => XS.lsub X.here hx rfl (hb hby hd) rfl k
theorem r_land {x z : Int64} (hd : D bytes pc .land 1 nx) (K : ORun l y bytes maxL ret R Z n0 as' Q h cells slots nx ls (.long (x &&& z) :: st)) : ORun l y bytes maxL ret R Z n0 as' Q h cells slots pc ls (.long z :: .long x :: st) := by
  obtain ⟨hd, rfl⟩ := hd
  exact K.step fun p e s m below meth c T locs hx hZ hby hown X eT t k => XS.land X.here hx rfl (hb hby hd) rfl k
theorem r_lmul {x z : Int64} (hd : D bytes pc .lmul 1 nx) (K : ORun l y bytes maxL ret R Z n0 as' Q h cells slots nx ls (.long (x * z) :: st)) : ORun l y bytes maxL ret R Z n0 as' Q h cells slots pc ls (.long z :: .long x :: st) := by
  obtain ⟨hd, rfl⟩ := hd
  exact K.step fun p e s m below meth c T locs hx hZ hby hown X eT t k => XS.lmul X.here hx rfl (hb hby hd) rfl k
theorem r_lor {x z : Int64} (hd : D bytes pc .lor 1 nx) (K : ORun l y bytes maxL ret R Z n0 as' Q h cells slots nx ls (.long (x ||| z) :: st)) : ORun l y bytes maxL ret R Z n0 as' Q h cells slots pc ls (.long z :: .long x :: st) := by
  obtain ⟨hd, rfl⟩ := hd
  exact K.step fun p e s m below meth c T locs hx hZ hby hown X eT t k => XS.lor X.here hx rfl (hb hby hd) rfl k
theorem r_lxor {x z : Int64} (hd : D bytes pc .lxor 1 nx) (K : ORun l y bytes maxL ret R Z n0 as' Q h cells slots nx ls (.long (x ^^^ z) :: st)) : ORun l y bytes maxL ret R Z n0 as' Q h cells slots pc ls (.long z :: .long x :: st) := by
  obtain ⟨hd, rfl⟩ := hd
  exact K.step fun p e s m below meth c T locs hx hZ hby hown X eT t k => XS.lxor X.here hx rfl (hb hby hd) rfl k
theorem r_lshl {x : Int64} {z : Int32} (hd : D bytes pc .lshl 1 nx) (K : ORun l y bytes maxL ret R Z n0 as' Q h cells slots nx ls (.long (x <<< (z &&& 63).toInt64) :: st)) : ORun l y bytes maxL ret R Z n0 as' Q h cells slots pc ls (.int z :: .long x :: st) := by
  obtain ⟨hd, rfl⟩ := hd
  exact K.step fun p e s m below meth c T locs hx hZ hby hown X eT t k => XS.lshl X.here hx rfl (hb hby hd) rfl k
theorem r_lshr {x : Int64} {z : Int32} (hd : D bytes pc .lshr 1 nx) (K : ORun l y bytes maxL ret R Z n0 as' Q h cells slots nx ls (.long (x >>> (z &&& 63).toInt64) :: st)) : ORun l y bytes maxL ret R Z n0 as' Q h cells slots pc ls (.int z :: .long x :: st) := by
  obtain ⟨hd, rfl⟩ := hd
  exact K.step fun p e s m below meth c T locs hx hZ hby hown X eT t k => XS.lshr X.here hx rfl (hb hby hd) rfl k
theorem r_lushr {x : Int64} {z : Int32} (hd : D bytes pc .lushr 1 nx) (K : ORun l y bytes maxL ret R Z n0 as' Q h cells slots nx ls (.long ((x.toUInt64 >>> (z &&& 63).toInt64.toUInt64).toInt64) :: st)) : ORun l y bytes maxL ret R Z n0 as' Q h cells slots pc ls (.int z :: .long x :: st) := by
  obtain ⟨hd, rfl⟩ := hd
  exact K.step fun p e s m below meth c T locs hx hZ hby hown X eT t k => XS.lushr X.here hx rfl (hb hby hd) rfl k
theorem r_idiv {x z : Int32} (hd : D bytes pc .idiv 1 nx) (hz : z ≠ 0) (K : ORun l y bytes maxL ret R Z n0 as' Q h cells slots nx ls (.int (x / z) :: st)) : ORun l y bytes maxL ret R Z n0 as' Q h cells slots pc ls (.int z :: .int x :: st) := by
  obtain ⟨hd, rfl⟩ := hd
  exact K.step fun p e s m below meth c T locs hx hZ hby hown X eT t k => XS.idiv X.here hx rfl (hb hby hd) rfl hz k
theorem r_ldiv {x z : Int64} (hd : D bytes pc .ldiv 1 nx) (hz : z ≠ 0) (K : ORun l y bytes maxL ret R Z n0 as' Q h cells slots nx ls (.long (x / z) :: st)) : ORun l y bytes maxL ret R Z n0 as' Q h cells slots pc ls (.long z :: .long x :: st) := by
  obtain ⟨hd, rfl⟩ := hd
  exact K.step fun p e s m below meth c T locs hx hZ hby hown X eT t k => XS.ldiv X.here hx rfl (hb hby hd) rfl hz k
theorem r_ineg {x : Int32} (hd : D bytes pc .ineg 1 nx) (K : ORun l y bytes maxL ret R Z n0 as' Q h cells slots nx ls (.int (-x) :: st)) : ORun l y bytes maxL ret R Z n0 as' Q h cells slots pc ls (.int x :: st) := by
  obtain ⟨hd, rfl⟩ := hd
  exact K.step fun p e s m below meth c T locs hx hZ hby hown X eT t k => XS.ineg X.here hx rfl (hb hby hd) rfl k
theorem r_lneg {x : Int64} (hd : D bytes pc .lneg 1 nx) (K : ORun l y bytes maxL ret R Z n0 as' Q h cells slots nx ls (.long (-x) :: st)) : ORun l y bytes maxL ret R Z n0 as' Q h cells slots pc ls (.long x :: st) := by
  obtain ⟨hd, rfl⟩ := hd
  exact K.step fun p e s m below meth c T locs hx hZ hby hown X eT t k => XS.lneg X.here hx rfl (hb hby hd) rfl k
theorem r_i2l {x : Int32} (hd : D bytes pc .i2l 1 nx) (K : ORun l y bytes maxL ret R Z n0 as' Q h cells slots nx ls (.long (x.toInt64) :: st)) : ORun l y bytes maxL ret R Z n0 as' Q h cells slots pc ls (.int x :: st) := by
  obtain ⟨hd, rfl⟩ := hd
  exact K.step fun p e s m below meth c T locs hx hZ hby hown X eT t k => XS.i2l X.here hx rfl (hb hby hd) rfl k
theorem r_l2i {x : Int64} (hd : D bytes pc .l2i 1 nx) (K : ORun l y bytes maxL ret R Z n0 as' Q h cells slots nx ls (.int (x.toInt32) :: st)) : ORun l y bytes maxL ret R Z n0 as' Q h cells slots pc ls (.long x :: st) := by
  obtain ⟨hd, rfl⟩ := hd
  exact K.step fun p e s m below meth c T locs hx hZ hby hown X eT t k => XS.l2i X.here hx rfl (hb hby hd) rfl k
theorem r_i2b {x : Int32} (hd : D bytes pc .i2b 1 nx) (K : ORun l y bytes maxL ret R Z n0 as' Q h cells slots nx ls (.int (x.toInt8.toInt32) :: st)) : ORun l y bytes maxL ret R Z n0 as' Q h cells slots pc ls (.int x :: st) := by
  obtain ⟨hd, rfl⟩ := hd
  exact K.step fun p e s m below meth c T locs hx hZ hby hown X eT t k => XS.i2b X.here hx rfl (hb hby hd) rfl k
theorem r_i2s {x : Int32} (hd : D bytes pc .i2s 1 nx) (K : ORun l y bytes maxL ret R Z n0 as' Q h cells slots nx ls (.int (x.toInt16.toInt32) :: st)) : ORun l y bytes maxL ret R Z n0 as' Q h cells slots pc ls (.int x :: st) := by
  obtain ⟨hd, rfl⟩ := hd
  exact K.step fun p e s m below meth c T locs hx hZ hby hown X eT t k => XS.i2s X.here hx rfl (hb hby hd) rfl k
theorem r_i2c {x : Int32} (hd : D bytes pc .i2c 1 nx) (K : ORun l y bytes maxL ret R Z n0 as' Q h cells slots nx ls (.int (x.toUInt32.toUInt16.toUInt32.toInt32) :: st)) : ORun l y bytes maxL ret R Z n0 as' Q h cells slots pc ls (.int x :: st) := by
  obtain ⟨hd, rfl⟩ := hd
  exact K.step fun p e s m below meth c T locs hx hZ hby hown X eT t k => XS.i2c X.here hx rfl (hb hby hd) rfl k
theorem r_lcmp {x z : Int64} (hd : D bytes pc .lcmp 1 nx) (K : ORun l y bytes maxL ret R Z n0 as' Q h cells slots nx ls (.int (lcmpW x z) :: st)) : ORun l y bytes maxL ret R Z n0 as' Q h cells slots pc ls (.long z :: .long x :: st) := by
  obtain ⟨hd, rfl⟩ := hd
  exact K.step fun p e s m below meth c T locs hx hZ hby hown X eT t k => XS.lcmp X.here hx rfl (hb hby hd) rfl k
theorem r_dup {x : Value} (hd : D bytes pc .dup 1 nx) (hc : x.category = 1) (K : ORun l y bytes maxL ret R Z n0 as' Q h cells slots nx ls (x :: x :: st)) : ORun l y bytes maxL ret R Z n0 as' Q h cells slots pc ls (x :: st) := by
  obtain ⟨hd, rfl⟩ := hd
  exact K.step fun p e s m below meth c T locs hx hZ hby hown X eT t k => XS.dup X.here hx rfl (hb hby hd) rfl hc k
theorem r_pop {x : Value} (hd : D bytes pc .pop 1 nx) (hc : x.category = 1) (K : ORun l y bytes maxL ret R Z n0 as' Q h cells slots nx ls st) : ORun l y bytes maxL ret R Z n0 as' Q h cells slots pc ls (x :: st) := by
  obtain ⟨hd, rfl⟩ := hd
  exact K.step fun p e s m below meth c T locs hx hZ hby hown X eT t k => XS.pop X.here hx rfl (hb hby hd) rfl hc k
theorem r_dupX1 {x z : Value} (hd : D bytes pc .dup_x1 1 nx) (hc : x.category = 1) (hc2 : z.category = 1) (K : ORun l y bytes maxL ret R Z n0 as' Q h cells slots nx ls (x :: z :: x :: st)) : ORun l y bytes maxL ret R Z n0 as' Q h cells slots pc ls (x :: z :: st) := by
  obtain ⟨hd, rfl⟩ := hd
  exact K.step fun p e s m below meth c T locs hx hZ hby hown X eT t k => XS.dupX1 X.here hx rfl (hb hby hd) rfl hc hc2 k
theorem r_dup2 {x z : Value} (hd : D bytes pc .dup2 1 nx) (hc : x.category = 1) (hc2 : z.category = 1) (K : ORun l y bytes maxL ret R Z n0 as' Q h cells slots nx ls (x :: z :: x :: z :: st)) : ORun l y bytes maxL ret R Z n0 as' Q h cells slots pc ls (x :: z :: st) := by
  obtain ⟨hd, rfl⟩ := hd
  exact K.step fun p e s m below meth c T locs hx hZ hby hown X eT t k => XT.dup2 X.here hx rfl (hb hby hd) rfl hc hc2 k
theorem r_dup2L {x : Int64} (hd : D bytes pc .dup2 1 nx) (K : ORun l y bytes maxL ret R Z n0 as' Q h cells slots nx ls (.long x :: .long x :: st)) : ORun l y bytes maxL ret R Z n0 as' Q h cells slots pc ls (.long x :: st) := by
  obtain ⟨hd, rfl⟩ := hd
  exact K.step fun p e s m below meth c T locs hx hZ hby hown X eT t k => XT.dup2L X.here hx rfl (hb hby hd) rfl k
theorem r_irem {x z : Int32} (hd : D bytes pc .irem 1 nx) (hz : z ≠ 0) (K : ORun l y bytes maxL ret R Z n0 as' Q h cells slots nx ls (.int (x % z) :: st)) : ORun l y bytes maxL ret R Z n0 as' Q h cells slots pc ls (.int z :: .int x :: st) := by
  obtain ⟨hd, rfl⟩ := hd
  exact K.step fun p e s m below meth c T locs hx hZ hby hown X eT t k => iremM X hx rfl (hb hby hd) rfl hz k
theorem r_lrem {x z : Int64} (hd : D bytes pc .lrem 1 nx) (hz : z ≠ 0) (K : ORun l y bytes maxL ret R Z n0 as' Q h cells slots nx ls (.long (x % z) :: st)) : ORun l y bytes maxL ret R Z n0 as' Q h cells slots pc ls (.long z :: .long x :: st) := by
  obtain ⟨hd, rfl⟩ := hd
  rw [← lrem_mod] at K
  exact K.step fun p e s m below meth c T locs hx hZ hby hown X eT t k => XS.lrem X.here hx rfl (hb hby hd) rfl hz k
/-! branches -/
theorem r_goto {off : Int} (hd : DB bytes pc .goto off nx tgt) (K : ORun l y bytes maxL ret R Z n0 as' Q h cells slots tgt ls st) : ORun l y bytes maxL ret R Z n0 as' Q h cells slots pc ls st := by
  obtain ⟨hd, rfl, ho, rfl⟩ := hd
  exact K.step fun p e s m below meth c T locs hx hZ hby hown X eT t k => XS.goto X.here hx rfl rfl (hb hby hd) ho rfl k
theorem r_icmp {cd : ClassFile.Cond} {off : Int} {x z : Int32} (hd : DB bytes pc (.if_icmp cd) off nx tgt) (K1 : if_icmp.holds cd x z = true → ORun l y bytes maxL ret R Z n0 as' Q h cells slots tgt ls st) (K2 : if_icmp.holds cd x z = false → ORun l y bytes maxL ret R Z n0 as' Q h cells slots nx ls st) : ORun l y bytes maxL ret R Z n0 as' Q h cells slots pc ls (.int z :: .int x :: st) := by
  obtain ⟨hd, rfl, ho, rfl⟩ := hd
  cases hc : if_icmp.holds cd x z
  · exact (K2 hc).step fun p e s m below meth c T locs hx hZ hby hown X eT t k => XS.icmpNo X.here hx rfl (hb hby hd) rfl hc k
  · exact (K1 hc).step fun p e s m below meth c T locs hx hZ hby hown X eT t k => XS.icmpYes X.here hx rfl rfl (hb hby hd) rfl hc ho rfl k
theorem r_if {cd : ClassFile.Cond} {off : Int} {x : Int32} (hd : DB bytes pc (.ifCond cd) off nx tgt) (K1 : if_icmp.holds cd x 0 = true → ORun l y bytes maxL ret R Z n0 as' Q h cells slots tgt ls st) (K2 : if_icmp.holds cd x 0 = false → ORun l y bytes maxL ret R Z n0 as' Q h cells slots nx ls st) : ORun l y bytes maxL ret R Z n0 as' Q h cells slots pc ls (.int x :: st) := by
  obtain ⟨hd, rfl, ho, rfl⟩ := hd
  cases hc : if_icmp.holds cd x 0
  · exact (K2 hc).step fun p e s m below meth c T locs hx hZ hby hown X eT t k => XS.ifNo X.here hx rfl (hb hby hd) rfl ((if0 _ _).trans hc) k
  · exact (K1 hc).step fun p e s m below meth c T locs hx hZ hby hown X eT t k => XS.ifYes X.here hx rfl rfl (hb hby hd) rfl ((if0 _ _).trans hc) ho rfl k
theorem r_icmp_lt {off : Int} {x z : Int32} (hd : DB bytes pc (.if_icmp .lt) off nx tgt) (K1 : x < z → ORun l y bytes maxL ret R Z n0 as' Q h cells slots tgt ls st) (K2 : ¬ x < z → ORun l y bytes maxL ret R Z n0 as' Q h cells slots nx ls st) : ORun l y bytes maxL ret R Z n0 as' Q h cells slots pc ls (.int z :: .int x :: st) :=
  r_icmp hd (fun q => K1 (Decidable.byContradiction fun r => by rw [(flt r).1] at q; cases q)) (fun q => K2 (fun r => by rw [(tlt r).1] at q; cases q))
theorem r_if_lt {off : Int} {x : Int32} (hd : DB bytes pc (.ifCond .lt) off nx tgt) (K1 : x < 0 → ORun l y bytes maxL ret R Z n0 as' Q h cells slots tgt ls st) (K2 : ¬ x < 0 → ORun l y bytes maxL ret R Z n0 as' Q h cells slots nx ls st) : ORun l y bytes maxL ret R Z n0 as' Q h cells slots pc ls (.int x :: st) :=
  r_if hd (fun q => K1 (Decidable.byContradiction fun r => by rw [(flt r).1] at q; cases q)) (fun q => K2 (fun r => by rw [(tlt r).1] at q; cases q))
theorem r_icmp_ge {off : Int} {x z : Int32} (hd : DB bytes pc (.if_icmp .ge) off nx tgt) (K1 : ¬ x < z → ORun l y bytes maxL ret R Z n0 as' Q h cells slots tgt ls st) (K2 : x < z → ORun l y bytes maxL ret R Z n0 as' Q h cells slots nx ls st) : ORun l y bytes maxL ret R Z n0 as' Q h cells slots pc ls (.int z :: .int x :: st) :=
  r_icmp hd (fun q => K1 (fun r => by rw [(tlt r).2.1] at q; cases q)) (fun q => K2 (Decidable.byContradiction fun r => by rw [(flt r).2.1] at q; cases q))
theorem r_if_ge {off : Int} {x : Int32} (hd : DB bytes pc (.ifCond .ge) off nx tgt) (K1 : ¬ x < 0 → ORun l y bytes maxL ret R Z n0 as' Q h cells slots tgt ls st) (K2 : x < 0 → ORun l y bytes maxL ret R Z n0 as' Q h cells slots nx ls st) : ORun l y bytes maxL ret R Z n0 as' Q h cells slots pc ls (.int x :: st) :=
  r_if hd (fun q => K1 (fun r => by rw [(tlt r).2.1] at q; cases q)) (fun q => K2 (Decidable.byContradiction fun r => by rw [(flt r).2.1] at q; cases q))
theorem r_icmp_gt {off : Int} {x z : Int32} (hd : DB bytes pc (.if_icmp .gt) off nx tgt) (K1 : z < x → ORun l y bytes maxL ret R Z n0 as' Q h cells slots tgt ls st) (K2 : ¬ z < x → ORun l y bytes maxL ret R Z n0 as' Q h cells slots nx ls st) : ORun l y bytes maxL ret R Z n0 as' Q h cells slots pc ls (.int z :: .int x :: st) :=
  r_icmp hd (fun q => K1 (Decidable.byContradiction fun r => by rw [(flt r).2.2.1] at q; cases q)) (fun q => K2 (fun r => by rw [(tlt r).2.2.1] at q; cases q))
theorem r_if_gt {off : Int} {x : Int32} (hd : DB bytes pc (.ifCond .gt) off nx tgt) (K1 : 0 < x → ORun l y bytes maxL ret R Z n0 as' Q h cells slots tgt ls st) (K2 : ¬ 0 < x → ORun l y bytes maxL ret R Z n0 as' Q h cells slots nx ls st) : ORun l y bytes maxL ret R Z n0 as' Q h cells slots pc ls (.int x :: st) :=
  r_if hd (fun q => K1 (Decidable.byContradiction fun r => by rw [(flt r).2.2.1] at q; cases q)) (fun q => K2 (fun r => by rw [(tlt r).2.2.1] at q; cases q))
theorem r_icmp_le {off : Int} {x z : Int32} (hd : DB bytes pc (.if_icmp .le) off nx tgt) (K1 : ¬ z < x → ORun l y bytes maxL ret R Z n0 as' Q h cells slots tgt ls st) (K2 : z < x → ORun l y bytes maxL ret R Z n0 as' Q h cells slots nx ls st) : ORun l y bytes maxL ret R Z n0 as' Q h cells slots pc ls (.int z :: .int x :: st) :=
  r_icmp hd (fun q => K1 (fun r => by rw [(tlt r).2.2.2] at q; cases q)) (fun q => K2 (Decidable.byContradiction fun r => by rw [(flt r).2.2.2] at q; cases q))
theorem r_if_le {off : Int} {x : Int32} (hd : DB bytes pc (.ifCond .le) off nx tgt) (K1 : ¬ 0 < x → ORun l y bytes maxL ret R Z n0 as' Q h cells slots tgt ls st) (K2 : 0 < x → ORun l y bytes maxL ret R Z n0 as' Q h cells slots nx ls st) : ORun l y bytes maxL ret R Z n0 as' Q h cells slots pc ls (.int x :: st) :=
  r_if hd (fun q => K1 (fun r => by rw [(tlt r).2.2.2] at q; cases q)) (fun q => K2 (Decidable.byContradiction fun r => by rw [(flt r).2.2.2] at q; cases q))
theorem r_icmp_eq {off : Int} {x z : Int32} (hd : DB bytes pc (.if_icmp .eq) off nx tgt) (K1 : x = z → ORun l y bytes maxL ret R Z n0 as' Q h cells slots tgt ls st) (K2 : ¬ x = z → ORun l y bytes maxL ret R Z n0 as' Q h cells slots nx ls st) : ORun l y bytes maxL ret R Z n0 as' Q h cells slots pc ls (.int z :: .int x :: st) :=
  r_icmp hd (fun q => K1 (Decidable.byContradiction fun r => by rw [(feq r).1] at q; cases q)) (fun q => K2 (fun r => by rw [(teq r).1] at q; cases q))
theorem r_if_eq {off : Int} {x : Int32} (hd : DB bytes pc (.ifCond .eq) off nx tgt) (K1 : x = 0 → ORun l y bytes maxL ret R Z n0 as' Q h cells slots tgt ls st) (K2 : ¬ x = 0 → ORun l y bytes maxL ret R Z n0 as' Q h cells slots nx ls st) : ORun l y bytes maxL ret R Z n0 as' Q h cells slots pc ls (.int x :: st) :=
  r_if hd (fun q => K1 (Decidable.byContradiction fun r => by rw [(feq r).1] at q; cases q)) (fun q => K2 (fun r => by rw [(teq r).1] at q; cases q))
theorem r_icmp_ne {off : Int} {x z : Int32} (hd : DB bytes pc (.if_icmp .ne) off nx tgt) (K1 : ¬ x = z → ORun l y bytes maxL ret R Z n0 as' Q h cells slots tgt ls st) (K2 : x = z → ORun l y bytes maxL ret R Z n0 as' Q h cells slots nx ls st) : ORun l y bytes maxL ret R Z n0 as' Q h cells slots pc ls (.int z :: .int x :: st) :=
  r_icmp hd (fun q => K1 (fun r => by rw [(teq r).2] at q; cases q)) (fun q => K2 (Decidable.byContradiction fun r => by rw [(feq r).2] at q; cases q))
theorem r_if_ne {off : Int} {x : Int32} (hd : DB bytes pc (.ifCond .ne) off nx tgt) (K1 : ¬ x = 0 → ORun l y bytes maxL ret R Z n0 as' Q h cells slots tgt ls st) (K2 : x = 0 → ORun l y bytes maxL ret R Z n0 as' Q h cells slots nx ls st) : ORun l y bytes maxL ret R Z n0 as' Q h cells slots pc ls (.int x :: st) :=
  r_if hd (fun q => K1 (fun r => by rw [(teq r).2] at q; cases q)) (fun q => K2 (Decidable.byContradiction fun r => by rw [(feq r).2] at q; cases q))
theorem r_ifnull0 {off : Int} (hd : DB bytes pc .ifnull off nx tgt) (K : ORun l y bytes maxL ret R Z n0 as' Q h cells slots tgt ls st) : ORun l y bytes maxL ret R Z n0 as' Q h cells slots pc ls (.null :: st) := by
  obtain ⟨hd, rfl, ho, rfl⟩ := hd
  exact K.step fun p e s m below meth c T locs hx hZ hby hown X eT t k => XS.ifnullYes X.here hx rfl rfl (hb hby hd) rfl ho rfl k
theorem r_ifnull1 {off : Int} {b : Addr} (hd : DB bytes pc .ifnull off nx tgt) (K : ORun l y bytes maxL ret R Z n0 as' Q h cells slots nx ls st) : ORun l y bytes maxL ret R Z n0 as' Q h cells slots pc ls (.ref b :: st) := by
  obtain ⟨hd, rfl, ho, rfl⟩ := hd
  exact K.step fun p e s m below meth c T locs hx hZ hby hown X eT t k => XS.ifnullNo X.here hx rfl (hb hby hd) rfl k
theorem r_ifnonnull0 {off : Int} (hd : DB bytes pc .ifnonnull off nx tgt) (K : ORun l y bytes maxL ret R Z n0 as' Q h cells slots nx ls st) : ORun l y bytes maxL ret R Z n0 as' Q h cells slots pc ls (.null :: st) := by
  obtain ⟨hd, rfl, ho, rfl⟩ := hd
  exact K.step fun p e s m below meth c T locs hx hZ hby hown X eT t k => XS.ifnonnullNo X.here hx rfl (hb hby hd) rfl k
theorem r_ifnonnull1 {off : Int} {b : Addr} (hd : DB bytes pc .ifnonnull off nx tgt) (K : ORun l y bytes maxL ret R Z n0 as' Q h cells slots tgt ls st) : ORun l y bytes maxL ret R Z n0 as' Q h cells slots pc ls (.ref b :: st) := by
  obtain ⟨hd, rfl, ho, rfl⟩ := hd
  exact K.step fun p e s m below meth c T locs hx hZ hby hown X eT t k => XS.ifnonnullYes X.here hx rfl rfl (hb hby hd) rfl ho rfl k
theorem r_acmp {cd : ACond} {off : Int} {x z : Value} (h1 : x.isRef = true) (h2 : z.isRef = true) (hd : DB bytes pc (.if_acmp cd) off nx tgt) (K1 : acV cd (decide (x = z)) = true → ORun l y bytes maxL ret R Z n0 as' Q h cells slots tgt ls st) (K2 : acV cd (decide (x = z)) = false → ORun l y bytes maxL ret R Z n0 as' Q h cells slots nx ls st) : ORun l y bytes maxL ret R Z n0 as' Q h cells slots pc ls (z :: x :: st) := by
  obtain ⟨hd, rfl, ho, rfl⟩ := hd
  cases hc : acV cd (decide (x = z))
  · exact (K2 hc).step fun p e s m below meth c T locs hx hZ hby hown X eT t k => Jvm.RoadKit.acmp (g := mkF m pc ls.toArray (z :: x :: st)) X hx rfl h1 h2 (same := decide (x = z)) rfl (hb hby hd) rfl rfl ho (by rw [hc]; rfl) k
  · exact (K1 hc).step fun p e s m below meth c T locs hx hZ hby hown X eT t k => Jvm.RoadKit.acmp (g := mkF m pc ls.toArray (z :: x :: st)) X hx rfl h1 h2 (same := decide (x = z)) rfl (hb hby hd) rfl rfl ho (by rw [hc]; rfl) k
theorem r_acmp_eq {off : Int} {x z : Value} (h1 : x.isRef = true) (h2 : z.isRef = true) (hd : DB bytes pc (.if_acmp .eq) off nx tgt) (K1 : x = z → ORun l y bytes maxL ret R Z n0 as' Q h cells slots tgt ls st) (K2 : ¬ x = z → ORun l y bytes maxL ret R Z n0 as' Q h cells slots nx ls st) : ORun l y bytes maxL ret R Z n0 as' Q h cells slots pc ls (z :: x :: st) :=
  r_acmp h1 h2 hd (fun q => K1 (by simpa [acV] using q)) (fun q => K2 (by simpa [acV] using q))
theorem r_acmp_ne {off : Int} {x z : Value} (h1 : x.isRef = true) (h2 : z.isRef = true) (hd : DB bytes pc (.if_acmp .ne) off nx tgt) (K1 : ¬ x = z → ORun l y bytes maxL ret R Z n0 as' Q h cells slots tgt ls st) (K2 : x = z → ORun l y bytes maxL ret R Z n0 as' Q h cells slots nx ls st) : ORun l y bytes maxL ret R Z n0 as' Q h cells slots pc ls (z :: x :: st) :=
  r_acmp h1 h2 hd (fun q => K1 (by simpa [acV] using q)) (fun q => K2 (by simpa [acV] using q))
/-! returns -/
theorem ORun.back {v : Option Value} (hv : ret = none → v = none) (hc : cells ≤ R.cells) (hs : slots ≤ R.slots) (hq : Q v h)
    (hl : ∀ (p : Program) (e : Env) (s : State) (m : MethodId) (below : List Frame) (meth : Method) (c : Code) (T : State) (locs : List Loc), p.tables.exec = Jvm.exec → c.code = bytes → meth.sig.returnType = ret → Stand p l e R s m as' below meth c T locs cells slots → ∀ fs : List Frame,
      (∀ (f : JFrame) (acts : List Action), f.method = m → f.locked = none → f.entered = [] → (doReturn e (T.setTop f) acts v).1 = T.setFrames fs) → Steps p.tables e below (T.setTop (mkF m pc ls.toArray st)) (T.setFrames fs)) : ORun l y bytes maxL ret R Z n0 as' Q h cells slots pc ls st :=
  fun p e s m below meth c T locs hx hZ hby hml hown hnm hret hlk X eT N => by
    obtain ⟨fs, hr, hrun, hended, hW, hsame⟩ := X.leave (v := v) (fun q => hv (hret ▸ q)) hlk
    exact ⟨_, _, hl p e s m below meth c T locs hx hby hret X fs hr, hrun, hended, v, locs, rfl, ⟨by show Q v T.heap; rw [eT]; exact hq, N⟩, ⟨v, rfl⟩, hW, hsame.mono hc hs⟩
theorem r_ret (hd : D bytes pc .return_ 1 nx) (hc : cells ≤ R.cells) (hs : slots ≤ R.slots) (hq : Q none h) : ORun l y bytes maxL none R Z n0 as' Q h cells slots pc ls [] :=
  ORun.back (fun _ => rfl) hc hs hq fun p e s m below meth c T locs hx hby hret X fs hr => X.returnOut hx hret (hb hby hd.1) hr
theorem r_iret {v : Int32} (hd : D bytes pc .ireturn 1 nx) (hc : cells ≤ R.cells) (hs : slots ≤ R.slots) (hq : Q (some (.int v)) h) : ORun l y bytes maxL (some .int) R Z n0 as' Q h cells slots pc ls (.int v :: st) :=
  ORun.back (fun q => nomatch q) hc hs hq fun p e s m below meth c T locs hx hby hret X fs hr => retOut X hx (t := .int) hret rfl (Or.inl ⟨rfl, Or.inl rfl, _, rfl⟩) (hb hby hd.1) hr
theorem r_nret {v : Int32} {t : FieldType} (ht : t = .boolean ∨ t = .byte ∨ t = .char ∨ t = .short) (hd : D bytes pc .ireturn 1 nx) (hc : cells ≤ R.cells) (hs : slots ≤ R.slots) (hq : Q (some (.int (nar t v))) h) : ORun l y bytes maxL (some t) R Z n0 as' Q h cells slots pc ls (.int v :: st) :=
  ORun.back (fun q => nomatch q) hc hs hq fun p e s m below meth c T locs hx hby hret X fs hr => retN X hx (t := t) hret ht (hb hby hd.1) hr
theorem r_lret {v : Int64} (hd : D bytes pc .lreturn 1 nx) (hc : cells ≤ R.cells) (hs : slots ≤ R.slots) (hq : Q (some (.long v)) h) : ORun l y bytes maxL (some .long) R Z n0 as' Q h cells slots pc ls (.long v :: st) :=
  ORun.back (fun q => nomatch q) hc hs hq fun p e s m below meth c T locs hx hby hret X fs hr => retOut X hx (t := .long) hret rfl (Or.inr (Or.inl ⟨rfl, rfl, _, rfl⟩)) (hb hby hd.1) hr
theorem r_aret {v : Value} {t : FieldType} (ht : t.isReference = true) (hv : v.isRef = true) (hn : narrow t v = v) (hd : D bytes pc .areturn 1 nx) (hc : cells ≤ R.cells) (hs : slots ≤ R.slots) (hq : Q (some v) h) : ORun l y bytes maxL (some t) R Z n0 as' Q h cells slots pc ls (v :: st) :=
  ORun.back (fun q => nomatch q) hc hs hq fun p e s m below meth c T locs hx hby hret X fs hr => retOut X hx (t := t) hret hn (Or.inr (Or.inr (Or.inr (Or.inr ⟨rfl, ht, hv⟩)))) (hb hby hd.1) hr
/-! fields, objects -/
theorem r_getF {index : Nat} {O n d host : String} {a : Addr} {v : Value} (w : (Cond.fieldLink y.cls index O n d).before a0 Z = true ∨ (Cond.fieldLinkNest y.cls index O n d host).before a0 Z = true) (F : Fld Z h a O n d v) (hd : D bytes pc (.getfield index) 3 nx) (K : ORun l y bytes maxL ret R Z n0 as' Q h cells slots nx ls (v :: st)) : ORun l y bytes maxL ret R Z n0 as' Q h cells slots pc ls (.ref a :: st) := by
  obtain ⟨hd, rfl⟩ := hd
  refine K.law fun p e s m below meth c T locs hx hZ hby hml hown hnm X eT N => ?_
  obtain ⟨T', X', e', st'⟩ := getF X hx hZ hown w Via.refl eT F (g := mkF m pc ls.toArray (.ref a :: st)) rfl rfl (hb hby hd)
  exact ⟨T', locs, X', e', N, st'⟩
theorem r_getS {index : Nat} {O n d : String} {v : Value} (w : (Cond.fieldLink y.cls index O n d).before a0 Z = true) (F : Sta Z h O n d v) (hd : D bytes pc (.getstatic index) 3 nx) (K : ORun l y bytes maxL ret R Z n0 as' Q h cells slots nx ls (v :: st)) : ORun l y bytes maxL ret R Z n0 as' Q h cells slots pc ls st := by
  obtain ⟨hd, rfl⟩ := hd
  refine K.law fun p e s m below meth c T locs hx hZ hby hml hown hnm X eT N => ?_
  obtain ⟨T', X', e', st'⟩ := getS2 X hx hZ hown (host := "") (Or.inl w) Via.refl eT F (g := mkF m pc ls.toArray st) rfl (hb hby hd)
  exact ⟨T', locs, X', e', N, st'⟩
theorem ORun.lawK {pc' : Nat} {st' : List Value} {cells' slots' : Nat} {P : Heap → Prop}
    (hs : ∀ (p : Program) (e : Env) (s : State) (m : MethodId) (below : List Frame) (meth : Method) (c : Code) (T : State) (locs : List Loc), p.tables.exec = Jvm.exec → Z.Warmed39 s.vm → c.code = bytes → c.maxLocals = maxL → s.vm.findClass y.cls = some m.cls → meth.name = y.name → Stand p l e R s m as' below meth c T locs cells slots → T.heap = h → Fr n0 locs →
      ∃ T' locs', Stand p l e R s m as' below meth c T' locs' cells' slots' ∧ P T'.heap ∧ Fr n0 locs' ∧ ∀ target, Steps p.tables e below (T'.setTop (mkF m pc' ls'.toArray st')) target → Steps p.tables e below (T.setTop (mkF m pc ls.toArray st)) target)
    (K : ∀ h', P h' → ORun l y bytes maxL ret R Z n0 as' Q h' cells' slots' pc' ls' st') : ORun l y bytes maxL ret R Z n0 as' Q h cells slots pc ls st :=
  fun p e s m below meth c T locs hx hZ hby hml hown hnm hret hlk X eT N => by
    obtain ⟨T', locs', X', eT', N', st⟩ := hs p e s m below meth c T locs hx hZ hby hml hown hnm X eT N
    obtain ⟨U, o, h1, h2⟩ := K _ eT' p e s m below meth c T' locs' hx hZ hby hml hown hnm hret hlk X' rfl N'
    exact ⟨U, o, st _ h1, h2⟩
theorem r_putF {index kk : Nat} {O n d C host : String} {ty : FieldType} {a : Addr} {v old : Value} (w : (Cond.fieldLink y.cls index O n d).before a0 Z = true ∨ (Cond.fieldLinkNest y.cls index O n d host).before a0 Z = true) (F : Fld Z h a O n d old) (E : Exa Z h a C)
    (L : (Cond.lays C O n d).before a0 Z = true ∨ ((Cond.laysFinal C O n d).before a0 Z = true ∧ y.cls = O ∧ y.name = "<init>")) (wi : (Cond.instantiable C kk).before a0 Z = true) (hty : parseFieldDescriptor d = some ty) (hn : narrow ty v = v) (hf : fits ty v = true) (ge : n0 ≤ a) (hd : D bytes pc (.putfield index) 3 nx)
    (K : ∀ h', Wr h h' a (Jvm.RoadKit.slotOf Z O n d) v → ORun l y bytes maxL ret R Z n0 as' Q h' cells slots nx ls st) : ORun l y bytes maxL ret R Z n0 as' Q h cells slots pc ls (v :: .ref a :: st) := by
  obtain ⟨hd, rfl⟩ := hd
  refine ORun.lawK (fun p e s m below meth c T locs hx hZ hby hml hown hnm X eT N => ?_) K
  obtain ⟨T', h', X', rfl, W, st'⟩ := putF X hx hZ hown w Via.refl eT F E (L.imp id fun q => ⟨q.1, q.2.1, hnm.trans q.2.2⟩) wi hty hn hf (g := mkF m pc ls.toArray (v :: .ref a :: st)) rfl rfl (hb hby hd)
  exact ⟨T', _, X', W, Fr.snoc X' N ge, st'⟩
theorem r_putFN {index kk : Nat} {O n d C : String} {ty : FieldType} {a : Addr} {v v' old : Value} (w : (Cond.fieldLink y.cls index O n d).before a0 Z = true) (F : Fld Z h a O n d old) (E : Exa Z h a C)
    (L : (Cond.lays C O n d).before a0 Z = true ∨ ((Cond.laysFinal C O n d).before a0 Z = true ∧ y.cls = O ∧ y.name = "<init>")) (wi : (Cond.instantiable C kk).before a0 Z = true) (hty : parseFieldDescriptor d = some ty) (hn : narrow ty v = v') (hf : fits ty v' = true) (ge : n0 ≤ a) (hd : D bytes pc (.putfield index) 3 nx)
    (K : ∀ h', Wr h h' a (Jvm.RoadKit.slotOf Z O n d) v' → ORun l y bytes maxL ret R Z n0 as' Q h' cells slots nx ls st) : ORun l y bytes maxL ret R Z n0 as' Q h cells slots pc ls (v :: .ref a :: st) := by
  obtain ⟨hd, rfl⟩ := hd
  refine ORun.lawK (fun p e s m below meth c T locs hx hZ hby hml hown hnm X eT N => ?_) K
  obtain ⟨T', h', X', rfl, W, st'⟩ := putFN X hx hZ hown w Via.refl eT F E (L.imp id fun q => ⟨q.1, q.2.1, hnm.trans q.2.2⟩) wi hty hn hf (g := mkF m pc ls.toArray (v :: .ref a :: st)) rfl rfl (hb hby hd)
  exact ⟨T', _, X', W, Fr.snoc X' N ge, st'⟩
theorem r_new {index n : Nat} {C : String} (w : (Cond.classLink y.cls index C).before a0 Z = true) (wi : (Cond.instantiable C n).before a0 Z = true) (wz : (Cond.initialized C).before a0 Z = true) (hd : D bytes pc (.new index) 3 nx) (hc : cells + 1 ≤ R.cells) (hl : slots + n ≤ R.slots)
    (K : ∀ h', Ext h h' ∧ Exa Z h' h.size C ∧ (∀ {O nm d : String} {ty : FieldType}, Laid Z a0 C O nm d → parseFieldDescriptor d = some ty → Fld Z h' h.size O nm d (defaultValue ty)) → ORun l y bytes maxL ret R Z n0 as' Q h' (cells + 1) (slots + n) nx ls (.ref h.size :: st)) : ORun l y bytes maxL ret R Z n0 as' Q h cells slots pc ls st := by
  obtain ⟨hd, rfl⟩ := hd
  refine ORun.lawK (fun p e s m below meth c T locs hx hZ hby hml hown hnm X eT N => ?_) K
  obtain ⟨T', h', X', rfl, E, A, D', -, st'⟩ := newO X hx hZ hown w wi wz eT (g := mkF m pc ls.toArray st) rfl (hb hby hd) hc hl
  exact ⟨T', _, X', ⟨E, A, D'⟩, N, st'⟩
theorem r_newarr {aty : ArrayType} {n : Int32} (cap : Nat) (w : (Cond.arrayClass (newarray.typeOf aty)).before a0 Z = true) (hd : D bytes pc (.newarray aty) 2 nx) (hn : ¬ n < 0) (hcap : n.toNatClampNeg ≤ cap) (hb' : cap * 8 ≤ 536870912) (hc : cells + 1 ≤ R.cells) (hl : slots + cap ≤ R.slots)
    (K : ∀ h' cA, Ext h h' → Arr Z h' h.size (newA cA (newarray.typeOf aty) n) (newarray.typeOf aty) → ORun l y bytes maxL ret R Z n0 as' Q h' (cells + 1) (slots + cap) nx ls (.ref h.size :: st)) : ORun l y bytes maxL ret R Z n0 as' Q h cells slots pc ls (.int n :: st) := by
  obtain ⟨hd, rfl⟩ := hd
  refine ORun.lawK (P := fun h' => ∃ cA, Ext h h' ∧ Arr Z h' h.size (newA cA (newarray.typeOf aty) n) (newarray.typeOf aty)) (fun p e s m below meth c T locs hx hZ hby hml hown hnm X eT N => ?_) (fun h' q => by obtain ⟨cA, E, A⟩ := q; exact K h' cA E A)
  obtain ⟨T', h', cA, X', rfl, E, A, st'⟩ := newP X hx hZ w eT (g := mkF m pc ls.toArray (.int n :: st)) rfl (hb hby hd) rfl hn hcap hb' hc hl
  exact ⟨T', _, X', ⟨cA, E, A⟩, N, st'⟩
/-! arrays -/
theorem r_len {a : Addr} {cl : Cell} {ty : FieldType} (A : Arr Z h a cl ty) (hd : D bytes pc .arraylength 1 nx) (K : ORun l y bytes maxL ret R Z n0 as' Q h cells slots nx ls (.int cl.slots.size.toInt32 :: st)) : ORun l y bytes maxL ret R Z n0 as' Q h cells slots pc ls (.ref a :: st) := by
  obtain ⟨hd, rfl⟩ := hd
  exact K.step fun p e s m below meth c T locs hx hZ hby hown X eT t k => X.arraylength hx (by rw [eT]; exact A.1) (State.isArrayOf_alike hZ.alike A.2.1) (g := mkF m pc ls.toArray (.ref a :: st)) rfl rfl (hb hby hd) _ k
theorem r_iaload {a : Addr} {cl : Cell} {j : Int32} {v : Value} (A : Arr Z h a cl .int) (hj : ¬ (j < 0 ∨ cl.slots.size ≤ j.toNatClampNeg)) (hv : cl.slots[j.toNatClampNeg]? = some v) (hd : D bytes pc .iaload 1 nx) (K : ORun l y bytes maxL ret R Z n0 as' Q h cells slots nx ls (v :: st)) : ORun l y bytes maxL ret R Z n0 as' Q h cells slots pc ls (.int j :: .ref a :: st) := by
  obtain ⟨hd, rfl⟩ := hd
  exact K.step fun p e s m below meth c T locs hx hZ hby hown X eT t k => X.iaload hx (j := j) (v := v) (by rw [eT]; exact A.1) (State.isArrayOf_alike hZ.alike A.2.1) A.2.2 hj hv (g := mkF m pc ls.toArray (.int j :: .ref a :: st)) rfl rfl (hb hby hd) _ k
theorem r_caload {a : Addr} {cl : Cell} {j : Int32} {v : Value} (A : Arr Z h a cl .char) (hj : ¬ (j < 0 ∨ cl.slots.size ≤ j.toNatClampNeg)) (hv : cl.slots[j.toNatClampNeg]? = some v) (hd : D bytes pc .caload 1 nx) (K : ORun l y bytes maxL ret R Z n0 as' Q h cells slots nx ls (v :: st)) : ORun l y bytes maxL ret R Z n0 as' Q h cells slots pc ls (.int j :: .ref a :: st) := by
  obtain ⟨hd, rfl⟩ := hd
  exact K.step fun p e s m below meth c T locs hx hZ hby hown X eT t k => X.caload hx (j := j) (v := v) (by rw [eT]; exact A.1) (State.isArrayOf_alike hZ.alike A.2.1) A.2.2 hj hv (g := mkF m pc ls.toArray (.int j :: .ref a :: st)) rfl rfl (hb hby hd) _ k
theorem r_baload {a : Addr} {cl : Cell} {j : Int32} {v : Value} (A : Arr Z h a cl .byte) (hj : ¬ (j < 0 ∨ cl.slots.size ≤ j.toNatClampNeg)) (hv : cl.slots[j.toNatClampNeg]? = some v) (hd : D bytes pc .baload 1 nx) (K : ORun l y bytes maxL ret R Z n0 as' Q h cells slots nx ls (v :: st)) : ORun l y bytes maxL ret R Z n0 as' Q h cells slots pc ls (.int j :: .ref a :: st) := by
  obtain ⟨hd, rfl⟩ := hd
  exact K.step fun p e s m below meth c T locs hx hZ hby hown X eT t k => X.baloadBytes hx (j := j) (v := v) (by rw [eT]; exact A.1) (State.isArrayOf_alike hZ.alike A.2.1) A.2.2 hj hv (g := mkF m pc ls.toArray (.int j :: .ref a :: st)) rfl rfl (hb hby hd) _ k
theorem r_laload {a : Addr} {cl : Cell} {j : Int32} {v : Value} (A : Arr Z h a cl .long) (hj : ¬ (j < 0 ∨ cl.slots.size ≤ j.toNatClampNeg)) (hv : cl.slots[j.toNatClampNeg]? = some v) (hd : D bytes pc .laload 1 nx) (K : ORun l y bytes maxL ret R Z n0 as' Q h cells slots nx ls (v :: st)) : ORun l y bytes maxL ret R Z n0 as' Q h cells slots pc ls (.int j :: .ref a :: st) := by
  obtain ⟨hd, rfl⟩ := hd
  exact K.step fun p e s m below meth c T locs hx hZ hby hown X eT t k => X.laload hx (j := j) (v := v) (by rw [eT]; exact A.1) (State.isArrayOf_alike hZ.alike A.2.1) A.2.2 hj hv (g := mkF m pc ls.toArray (.int j :: .ref a :: st)) rfl rfl (hb hby hd) _ k
theorem r_saload {a : Addr} {cl : Cell} {j : Int32} {v : Value} (A : Arr Z h a cl .short) (hj : ¬ (j < 0 ∨ cl.slots.size ≤ j.toNatClampNeg)) (hv : cl.slots[j.toNatClampNeg]? = some v) (hd : D bytes pc .saload 1 nx) (K : ORun l y bytes maxL ret R Z n0 as' Q h cells slots nx ls (v :: st)) : ORun l y bytes maxL ret R Z n0 as' Q h cells slots pc ls (.int j :: .ref a :: st) := by
  obtain ⟨hd, rfl⟩ := hd
  exact K.step fun p e s m below meth c T locs hx hZ hby hown X eT t k => X.saload hx (j := j) (v := v) (by rw [eT]; exact A.1) (State.isArrayOf_alike hZ.alike A.2.1) A.2.2 hj hv (g := mkF m pc ls.toArray (.int j :: .ref a :: st)) rfl rfl (hb hby hd) _ k
theorem r_aaload {a : Addr} {cl : Cell} {j : Int32} {v : Value} {ty : FieldType} (A : Arr Z h a cl ty) (hty : ty.isReference = true) (hj : ¬ (j < 0 ∨ cl.slots.size ≤ j.toNatClampNeg)) (hv : cl.slots[j.toNatClampNeg]? = some v) (hd : D bytes pc .aaload 1 nx) (K : ORun l y bytes maxL ret R Z n0 as' Q h cells slots nx ls (v :: st)) : ORun l y bytes maxL ret R Z n0 as' Q h cells slots pc ls (.int j :: .ref a :: st) := by
  obtain ⟨hd, rfl⟩ := hd
  exact K.step fun p e s m below meth c T locs hx hZ hby hown X eT t k => X.aaload hx (j := j) (v := v) (by rw [eT]; exact A.1) (State.isArrayOf_alike hZ.alike A.2.1) hty A.2.2 hj hv (g := mkF m pc ls.toArray (.int j :: .ref a :: st)) rfl rfl (hb hby hd) _ k
theorem r_iastore {a : Addr} {cl : Cell} {j : Int32} {x : Int32} (A : Arr Z h a cl .int) (hj : ¬ (j < 0 ∨ cl.slots.size ≤ j.toNatClampNeg)) (ge : n0 ≤ a) (hd : D bytes pc .iastore 1 nx) (K : ∀ h', Wr h h' a j.toNatClampNeg (.int x) → ORun l y bytes maxL ret R Z n0 as' Q h' cells slots nx ls st) : ORun l y bytes maxL ret R Z n0 as' Q h cells slots pc ls (.int x :: .int j :: .ref a :: st) := by
  obtain ⟨hd, rfl⟩ := hd
  refine ORun.lawK (fun p e s m below meth c T locs hx hZ hby hml hown hnm X eT N => ?_) K
  obtain ⟨T', h', X', rfl, W, st'⟩ := stI X hx hZ eT A hj (g := mkF m pc ls.toArray (.int x :: .int j :: .ref a :: st)) rfl rfl (hb hby hd)
  exact ⟨T', _, X', W, Fr.snoc X' N ge, st'⟩
theorem r_castore {a : Addr} {cl : Cell} {j : Int32} {x : Int32} (A : Arr Z h a cl .char) (hj : ¬ (j < 0 ∨ cl.slots.size ≤ j.toNatClampNeg)) (ge : n0 ≤ a) (hd : D bytes pc .castore 1 nx) (K : ∀ h', Wr h h' a j.toNatClampNeg (.int (nar .char x)) → ORun l y bytes maxL ret R Z n0 as' Q h' cells slots nx ls st) : ORun l y bytes maxL ret R Z n0 as' Q h cells slots pc ls (.int x :: .int j :: .ref a :: st) := by
  obtain ⟨hd, rfl⟩ := hd
  refine ORun.lawK (fun p e s m below meth c T locs hx hZ hby hml hown hnm X eT N => ?_) K
  obtain ⟨T', h', X', rfl, W, st'⟩ := stC X hx hZ eT A hj (g := mkF m pc ls.toArray (.int x :: .int j :: .ref a :: st)) rfl rfl (hb hby hd)
  exact ⟨T', _, X', W, Fr.snoc X' N ge, st'⟩
theorem r_bastore {a : Addr} {cl : Cell} {j : Int32} {x : Int32} (A : Arr Z h a cl .byte) (hj : ¬ (j < 0 ∨ cl.slots.size ≤ j.toNatClampNeg)) (ge : n0 ≤ a) (hd : D bytes pc .bastore 1 nx) (K : ∀ h', Wr h h' a j.toNatClampNeg (.int (nar .byte x)) → ORun l y bytes maxL ret R Z n0 as' Q h' cells slots nx ls st) : ORun l y bytes maxL ret R Z n0 as' Q h cells slots pc ls (.int x :: .int j :: .ref a :: st) := by
  obtain ⟨hd, rfl⟩ := hd
  refine ORun.lawK (fun p e s m below meth c T locs hx hZ hby hml hown hnm X eT N => ?_) K
  obtain ⟨T', h', X', rfl, W, st'⟩ := stB X hx hZ eT A hj (g := mkF m pc ls.toArray (.int x :: .int j :: .ref a :: st)) rfl rfl (hb hby hd)
  exact ⟨T', _, X', W, Fr.snoc X' N ge, st'⟩
theorem r_lastore {a : Addr} {cl : Cell} {j : Int32} {x : Int64} (A : Arr Z h a cl .long) (hj : ¬ (j < 0 ∨ cl.slots.size ≤ j.toNatClampNeg)) (ge : n0 ≤ a) (hd : D bytes pc .lastore 1 nx) (K : ∀ h', Wr h h' a j.toNatClampNeg (.long x) → ORun l y bytes maxL ret R Z n0 as' Q h' cells slots nx ls st) : ORun l y bytes maxL ret R Z n0 as' Q h cells slots pc ls (.long x :: .int j :: .ref a :: st) := by
  obtain ⟨hd, rfl⟩ := hd
  refine ORun.lawK (fun p e s m below meth c T locs hx hZ hby hml hown hnm X eT N => ?_) K
  obtain ⟨T', h', X', rfl, W, st'⟩ := stJ X hx hZ eT A hj (g := mkF m pc ls.toArray (.long x :: .int j :: .ref a :: st)) rfl rfl (hb hby hd)
  exact ⟨T', _, X', W, Fr.snoc X' N ge, st'⟩
theorem r_lenA {a : Addr} {ty : FieldType} {vs : List Int32} (n : Int32) (A : Ary Z h a ty vs) (hn : vs.length.toInt32 = n) (hd : D bytes pc .arraylength 1 nx) (K : ORun l y bytes maxL ret R Z n0 as' Q h cells slots nx ls (.int n :: st)) : ORun l y bytes maxL ret R Z n0 as' Q h cells slots pc ls (.ref a :: st) := by
  obtain ⟨c, A, q⟩ := A
  refine r_len A hd ?_
  rw [Ary.size q, hn]; exact K
theorem r_ldI {a : Addr} {vs : List Int32} {j : Int32} (x : Int32) (A : Ary Z h a .int vs) (hj : ¬ j < 0) (hv : vs[j.toNatClampNeg]? = some x) (hd : D bytes pc .iaload 1 nx) (K : ORun l y bytes maxL ret R Z n0 as' Q h cells slots nx ls (.int x :: st)) : ORun l y bytes maxL ret R Z n0 as' Q h cells slots pc ls (.int j :: .ref a :: st) := by
  obtain ⟨c, A, q⟩ := A
  have e := Ary.inb q hj hv
  exact r_iaload A e.1 e.2 hd K
theorem r_ldC {a : Addr} {vs : List Int32} {j : Int32} (x : Int32) (A : Ary Z h a .char vs) (hj : ¬ j < 0) (hv : vs[j.toNatClampNeg]? = some x) (hd : D bytes pc .caload 1 nx) (K : ORun l y bytes maxL ret R Z n0 as' Q h cells slots nx ls (.int x :: st)) : ORun l y bytes maxL ret R Z n0 as' Q h cells slots pc ls (.int j :: .ref a :: st) := by
  obtain ⟨c, A, q⟩ := A
  have e := Ary.inb q hj hv
  exact r_caload A e.1 e.2 hd K
theorem r_ldB {a : Addr} {vs : List Int32} {j : Int32} (x : Int32) (A : Ary Z h a .byte vs) (hj : ¬ j < 0) (hv : vs[j.toNatClampNeg]? = some x) (hd : D bytes pc .baload 1 nx) (K : ORun l y bytes maxL ret R Z n0 as' Q h cells slots nx ls (.int x :: st)) : ORun l y bytes maxL ret R Z n0 as' Q h cells slots pc ls (.int j :: .ref a :: st) := by
  obtain ⟨c, A, q⟩ := A
  have e := Ary.inb q hj hv
  exact r_baload A e.1 e.2 hd K
theorem r_stI {a : Addr} {vs : List Int32} {j x : Int32} (i : Nat) (vs' : List Int32) (A : Ary Z h a .int vs) (hj : ¬ j < 0) (hi : j.toNatClampNeg = i) (hl : i < vs.length) (hvs : vs.set i x = vs') (ge : n0 ≤ a) (hd : D bytes pc .iastore 1 nx) (K : ∀ h', Wr h h' a i (.int x) → Ary Z h' a .int vs' → ORun l y bytes maxL ret R Z n0 as' Q h' cells slots nx ls st) : ORun l y bytes maxL ret R Z n0 as' Q h cells slots pc ls (.int x :: .int j :: .ref a :: st) := by
  have A' := A
  obtain ⟨c, A, q⟩ := A
  subst hi
  refine r_iastore A (fun r => ?_) ge hd fun h' W => K h' W (A'.set W hvs)
  rcases r with r | r
  · exact hj r
  · rw [Ary.size q] at r; omega
theorem r_stC {a : Addr} {vs : List Int32} {j x : Int32} (i : Nat) (vs' : List Int32) (A : Ary Z h a .char vs) (hj : ¬ j < 0) (hi : j.toNatClampNeg = i) (hl : i < vs.length) (hvs : vs.set i (nar .char x) = vs') (ge : n0 ≤ a) (hd : D bytes pc .castore 1 nx) (K : ∀ h', Wr h h' a i (.int (nar .char x)) → Ary Z h' a .char vs' → ORun l y bytes maxL ret R Z n0 as' Q h' cells slots nx ls st) : ORun l y bytes maxL ret R Z n0 as' Q h cells slots pc ls (.int x :: .int j :: .ref a :: st) := by
  have A' := A
  obtain ⟨c, A, q⟩ := A
  subst hi
  refine r_castore A (fun r => ?_) ge hd fun h' W => K h' W (A'.set W hvs)
  rcases r with r | r
  · exact hj r
  · rw [Ary.size q] at r; omega
theorem r_stB {a : Addr} {vs : List Int32} {j x : Int32} (i : Nat) (vs' : List Int32) (A : Ary Z h a .byte vs) (hj : ¬ j < 0) (hi : j.toNatClampNeg = i) (hl : i < vs.length) (hvs : vs.set i (nar .byte x) = vs') (ge : n0 ≤ a) (hd : D bytes pc .bastore 1 nx) (K : ∀ h', Wr h h' a i (.int (nar .byte x)) → Ary Z h' a .byte vs' → ORun l y bytes maxL ret R Z n0 as' Q h' cells slots nx ls st) : ORun l y bytes maxL ret R Z n0 as' Q h cells slots pc ls (.int x :: .int j :: .ref a :: st) := by
  have A' := A
  obtain ⟨c, A, q⟩ := A
  subst hi
  refine r_bastore A (fun r => ?_) ge hd fun h' W => K h' W (A'.set W hvs)
  rcases r with r | r
  · exact hj r
  · rw [Ary.size q] at r; omega
/-! calls -/
theorem r_initO {idx : Nat} {a : Addr} (w1 : (Cond.methodLink y.cls idx Lib.objectInit).before a0 Z = true) (w2 : (Cond.instanceMethod Lib.objectInit).before a0 Z = true) (w3 : (Cond.code Lib.objectInit ⟨#[0xb1]⟩ 1 none).before a0 Z = true) (hd : D bytes pc (.invokespecial idx) 3 nx) (hsz : ls.length = maxL) (hf : 1 ≤ R.frames) (W : Nat) (hW : (st.map fun v => v.category).sum = W) (hl : W + 12 ≤ R.locals)
    (K : ORun l y bytes maxL ret R Z n0 as' Q h cells slots nx ls st) : ORun l y bytes maxL ret R Z n0 as' Q h cells slots pc ls (.ref a :: st) := by
  obtain ⟨hd, rfl⟩ := hd
  refine K.law fun p e s m below meth c T locs hx hZ hby hml hown hnm X eT N => ?_
  obtain ⟨T', X', e', st'⟩ := initO X hx hZ hown w1 w2 w3 eT (g := mkF m pc ls.toArray (.ref a :: st)) rfl (by rw [hml]; simpa using hsz) rfl (hb hby hd) hf (W := W) (by show 2 * 0 + _ ≤ _; omega) hl
  exact ⟨T', locs, X', e', N, st'⟩
theorem ORun.call {y' : MethodName} {R' : Room} {Q' : Option Value → Heap → Prop} {rest : List Value}
    (hs : ∀ (p : Program) (e : Env) (s : State) (m : MethodId) (below : List Frame) (meth : Method) (c : Code) (T : State) (locs : List Loc), p.tables.exec = Jvm.exec → Z.Warmed39 s.vm → c.code = bytes → c.maxLocals = maxL → s.vm.findClass y.cls = some m.cls → Stand p l e R s m as' below meth c T locs cells slots → T.heap = h →
      ∃ (v : Option Value) (B : Pt), Stand p l e R s m as' below meth c B.U B.locs B.cells B.slots ∧ (∃ L, (Q' v B.U.heap ∧ Fr n0 L) ∧ B.locs = locs ++ L ∧ B.cells = cells + R'.cells ∧ B.slots = slots + R'.slots) ∧
        ∀ target, Steps p.tables e below (B.U.setTop (mkF m nx ls.toArray (v.toList ++ rest))) target → Steps p.tables e below (T.setTop (mkF m pc ls.toArray st)) target)
    (K : ∀ v h', Q' v h' → ORun l y bytes maxL ret R Z n0 as' Q h' (cells + R'.cells) (slots + R'.slots) nx ls (v.toList ++ rest)) : ORun l y bytes maxL ret R Z n0 as' Q h cells slots pc ls st :=
  fun p e s m below meth c T locs hx hZ hby hml hown hnm hret hlk X eT N => by
    obtain ⟨v, ⟨T', L', k', n'⟩, X', ⟨L, ⟨hq, N'⟩, q1, q2, q3⟩, st⟩ := hs p e s m below meth c T locs hx hZ hby hml hown X eT
    dsimp only [Pt.U, Pt.locs, Pt.cells, Pt.slots] at X' q1 q2 q3 st hq
    subst q1 q2 q3
    obtain ⟨U, o, h1, h2⟩ := K v _ hq p e s m below meth c T' _ hx hZ hby hml hown hnm hret hlk X' rfl (Fr.app N N')
    exact ⟨U, o, st _ h1, h2⟩
variable {b' : ByteArray} {mL' : Nat} {ret' : Option FieldType} {R' : Room} {Q' : Option Value → Heap → Prop} {y' : MethodName} {idx : Nat}
theorem r_static (argsL rest : List Value) (hst : st = argsL.reverse ++ rest) {ps : List FieldType} (hpd : parseMethodDescriptor y'.desc = some ⟨ps, ret'⟩) (hlen : argsL.length = ps.length)
    (w1 : (Cond.methodLink y.cls idx y').before a0 Z = true) (w2 : (Cond.static y').before a0 Z = true) (w3 : (Cond.initialized y'.cls).before a0 Z = true) (w4 : (Cond.code y' b' mL' ret').before a0 Z = true) (hy : y'.cls ≠ "java/lang/invoke/MethodHandle" ∧ y'.cls ≠ "java/lang/invoke/VarHandle")
    (C : Ct l y' b' mL' ret' [] R' Z n0 argsL.toArray h Q') (hd : D bytes pc (.invokestatic idx) 3 nx) (hsz : ls.length = maxL) (hf : R'.frames + 1 ≤ R.frames) (W : Nat) (hW : (rest.map fun v => v.category).sum = W) (hl : W + (mL' + 11) + R'.locals ≤ R.locals) (hc : cells + R'.cells ≤ R.cells) (hs : slots + R'.slots ≤ R.slots)
    (K : ∀ v h', Q' v h' → ORun l y bytes maxL ret R Z n0 as' Q h' (cells + R'.cells) (slots + R'.slots) nx ls (v.toList ++ rest)) : ORun l y bytes maxL ret R Z n0 as' Q h cells slots pc ls st := by
  obtain ⟨hd, rfl⟩ := hd
  subst hst
  refine ORun.call (y' := y') (fun p e s m below meth c T locs hx hZ hby hml hown X eT => ?_) K
  obtain ⟨v, _, B, -, X', hq, st'⟩ := Jvm.LawKit.callS X hx (y := y') hown (mvT hZ w1) (mvT hZ w2) (mvT hZ w3) (mvT hZ w4) hy (backOf (len := 3) (W := W) (Q := fun v h L => Q' v h ∧ Fr n0 L) C hZ w4 w3 hf hl) (g := mkF m pc ls.toArray (argsL.reverse ++ rest)) rfl (by rw [hml]; simpa using hsz) (argsL := argsL) (rest := rest) (lenOf hpd hlen) rfl (by show 2 * 0 + _ ≤ _; omega) (hb hby hd) (fun _ _ => ⟨rfl, eT, hc, hs⟩)
  exact ⟨v, B, X', hq, st'⟩
theorem r_special (argsL rest : List Value) (a : Addr) (hst : st = argsL.reverse ++ .ref a :: rest) {ps : List FieldType} (hpd : parseMethodDescriptor y'.desc = some ⟨ps, none⟩) (hlen : argsL.length = ps.length) (hn : y'.name = "<init>")
    (w1 : (Cond.methodLink y.cls idx y').before a0 Z = true) (w2 : (Cond.instanceMethod y').before a0 Z = true) (w3 : (Cond.initialized y'.cls).before a0 Z = true) (w4 : (Cond.code y' b' mL' none).before a0 Z = true) (hy : y'.cls ≠ "java/lang/invoke/MethodHandle" ∧ y'.cls ≠ "java/lang/invoke/VarHandle")
    (C : Ct l y' b' mL' none [] R' Z n0 (.ref a :: argsL).toArray h Q') (hd : D bytes pc (.invokespecial idx) 3 nx) (hsz : ls.length = maxL) (hf : R'.frames + 1 ≤ R.frames) (W : Nat) (hW : (rest.map fun v => v.category).sum = W) (hl : W + (mL' + 11) + R'.locals ≤ R.locals) (hc : cells + R'.cells ≤ R.cells) (hs : slots + R'.slots ≤ R.slots)
    (K : ∀ v h', Q' v h' → ORun l y bytes maxL ret R Z n0 as' Q h' (cells + R'.cells) (slots + R'.slots) nx ls (v.toList ++ rest)) : ORun l y bytes maxL ret R Z n0 as' Q h cells slots pc ls st := by
  obtain ⟨hd, rfl⟩ := hd
  subst hst
  refine ORun.call (y' := y') (fun p e s m below meth c T locs hx hZ hby hml hown X eT => ?_) K
  obtain ⟨v, _, B, -, X', hq, st'⟩ := X.specialBack hx (y := y') hn hown (mvT hZ w1) (mvT hZ w2) (mvT hZ w4) hy (backOf (len := 3) (W := W) (Q := fun v h L => Q' v h ∧ Fr n0 L) C hZ w4 w3 hf hl) (g := mkF m pc ls.toArray (argsL.reverse ++ .ref a :: rest)) rfl (by rw [hml]; simpa using hsz) (Steps.refl _) (a := a) (argsL := argsL) (rest := rest) (lenOf hpd hlen) rfl (by show 2 * 0 + _ ≤ _; omega) (hb hby hd) (fun _ _ => ⟨rfl, eT, hc, hs⟩)
  exact ⟨v, B, X', hq, fun t k => st'.trans k⟩
theorem r_virtual (argsL rest : List Value) (a : Addr) {C : String} (E : Exa Z h a C) (hst : st = argsL.reverse ++ .ref a :: rest) {ps : List FieldType} (hpd : parseMethodDescriptor y'.desc = some ⟨ps, ret'⟩) (hlen : argsL.length = ps.length)
    (w1 : (Cond.methodLink y.cls idx y').before a0 Z = true) (w2 : (Cond.declares y').before a0 Z = true) (ws : (Cond.selects C y' y').before a0 Z = true) (w5 : (Cond.instanceMethod y').before a0 Z = true) (w3 : (Cond.initialized y'.cls).before a0 Z = true) (w4 : (Cond.code y' b' mL' ret').before a0 Z = true) (hC : C = y'.cls) (hy : y'.cls ≠ "java/lang/invoke/MethodHandle" ∧ y'.cls ≠ "java/lang/invoke/VarHandle")
    (C' : Ct l y' b' mL' ret' [] R' Z n0 (.ref a :: argsL).toArray h Q') (hd : D bytes pc (.invokevirtual idx) 3 nx) (hsz : ls.length = maxL) (hf : R'.frames + 1 ≤ R.frames) (W : Nat) (hW : (rest.map fun v => v.category).sum = W) (hl : W + (mL' + 11) + R'.locals ≤ R.locals) (hc : cells + R'.cells ≤ R.cells) (hs : slots + R'.slots ≤ R.slots)
    (K : ∀ v h', Q' v h' → ORun l y bytes maxL ret R Z n0 as' Q h' (cells + R'.cells) (slots + R'.slots) nx ls (v.toList ++ rest)) : ORun l y bytes maxL ret R Z n0 as' Q h cells slots pc ls st := by
  obtain ⟨hd, rfl⟩ := hd
  subst hst hC
  refine ORun.call (y' := y') (fun p e s m below meth c T locs hx hZ hby hml hown X eT => ?_) K
  obtain ⟨cq, kq, q1, q2, q3⟩ := isOf hZ eT E
  obtain ⟨v, _, B, -, X', hq, st'⟩ := X.virtualBack hx (y := y') (z := y') hown (mvT hZ w1) (mvT hZ w2) (notFace_of_selects (args := #[]) (mvT hZ ws)) (mvT hZ ws) (mvT hZ w5) hy (backOf (len := 3) (W := W) (Q := fun v h L => Q' v h ∧ Fr n0 L) C' hZ w4 w3 hf hl) q1 q3 (g := mkF m pc ls.toArray (argsL.reverse ++ .ref a :: rest)) rfl (by rw [hml]; simpa using hsz) (Steps.refl _) (argsL := argsL) (rest := rest) (lenOf hpd hlen) rfl (by show 2 * 0 + _ ≤ _; omega) (hb hby hd) (fun _ _ => ⟨rfl, eT, hc, hs⟩)
  exact ⟨v, B, X', hq, fun t k => st'.trans k⟩
theorem r_staticP (argsL rest : List Value) (hst : st = argsL.reverse ++ rest) {ps : List FieldType} (hpd : parseMethodDescriptor y'.desc = some ⟨ps, ret'⟩) (hlen : argsL.length = ps.length)
    (w1 : (Cond.methodLink y.cls idx y').before a0 Z = true) (w2 : (Cond.static y').before a0 Z = true) (w3 : (Cond.initialized y'.cls).before a0 Z = true) (w4 : (Cond.code y' b' mL' ret').before a0 Z = true) (hy : y'.cls ≠ "java/lang/invoke/MethodHandle" ∧ y'.cls ≠ "java/lang/invoke/VarHandle") {w : Value}
    (C : Ct l y' b' mL' ret' [] R' Z n0 argsL.toArray h (fun v h' => v = some w ∧ h' = h)) (hd : D bytes pc (.invokestatic idx) 3 nx) (hsz : ls.length = maxL) (hf : R'.frames + 1 ≤ R.frames) (W : Nat) (hW : (rest.map fun v => v.category).sum = W) (hl : W + (mL' + 11) + R'.locals ≤ R.locals) (h0c : R'.cells = 0) (h0s : R'.slots = 0) (hc : cells ≤ R.cells) (hs : slots ≤ R.slots)
    (K : ORun l y bytes maxL ret R Z n0 as' Q h cells slots nx ls (w :: rest)) : ORun l y bytes maxL ret R Z n0 as' Q h cells slots pc ls st :=
  r_static argsL rest hst hpd hlen w1 w2 w3 w4 hy C hd hsz hf W hW hl (by omega) (by omega) fun v h' q => by
    obtain ⟨rfl, rfl⟩ := q
    rw [h0c, h0s]; exact K
theorem r_virtualP (argsL rest : List Value) (a : Addr) {C : String} (E : Exa Z h a C) (hst : st = argsL.reverse ++ .ref a :: rest) {ps : List FieldType} (hpd : parseMethodDescriptor y'.desc = some ⟨ps, ret'⟩) (hlen : argsL.length = ps.length)
    (w1 : (Cond.methodLink y.cls idx y').before a0 Z = true) (w2 : (Cond.declares y').before a0 Z = true) (ws : (Cond.selects C y' y').before a0 Z = true) (w5 : (Cond.instanceMethod y').before a0 Z = true) (w3 : (Cond.initialized y'.cls).before a0 Z = true) (w4 : (Cond.code y' b' mL' ret').before a0 Z = true) (hC : C = y'.cls) (hy : y'.cls ≠ "java/lang/invoke/MethodHandle" ∧ y'.cls ≠ "java/lang/invoke/VarHandle") {w : Value}
    (C' : Ct l y' b' mL' ret' [] R' Z n0 (.ref a :: argsL).toArray h (fun v h' => v = some w ∧ h' = h)) (hd : D bytes pc (.invokevirtual idx) 3 nx) (hsz : ls.length = maxL) (hf : R'.frames + 1 ≤ R.frames) (W : Nat) (hW : (rest.map fun v => v.category).sum = W) (hl : W + (mL' + 11) + R'.locals ≤ R.locals) (h0c : R'.cells = 0) (h0s : R'.slots = 0) (hc : cells ≤ R.cells) (hs : slots ≤ R.slots)
    (K : ORun l y bytes maxL ret R Z n0 as' Q h cells slots nx ls (w :: rest)) : ORun l y bytes maxL ret R Z n0 as' Q h cells slots pc ls st :=
  r_virtual argsL rest a E hst hpd hlen w1 w2 ws w5 w3 w4 hC hy C' hd hsz hf W hW hl (by omega) (by omega) fun v h' q => by
    obtain ⟨rfl, rfl⟩ := q
    rw [h0c, h0s]; exact K
theorem r_private (argsL rest : List Value) (a : Addr) {C : String} {kk : Nat} (E : Exa Z h a C) (hst : st = argsL.reverse ++ .ref a :: rest) {ps : List FieldType} (hpd : parseMethodDescriptor y'.desc = some ⟨ps, ret'⟩) (hlen : argsL.length = ps.length)
    (w1 : (Cond.methodLink y.cls idx y').before a0 Z = true) (w5 : (Cond.instanceMethod y').before a0 Z = true) (wp : (Cond.privateMethod y').before a0 Z = true) (wi : (Cond.instantiable y'.cls kk).before a0 Z = true) (w3 : (Cond.initialized y'.cls).before a0 Z = true) (w4 : (Cond.code y' b' mL' ret').before a0 Z = true) (hy : y'.cls ≠ "java/lang/invoke/MethodHandle" ∧ y'.cls ≠ "java/lang/invoke/VarHandle")
    (C' : Ct l y' b' mL' ret' [] R' Z n0 (.ref a :: argsL).toArray h Q') (hd : D bytes pc (.invokevirtual idx) 3 nx) (hsz : ls.length = maxL) (hf : R'.frames + 1 ≤ R.frames) (W : Nat) (hW : (rest.map fun v => v.category).sum = W) (hl : W + (mL' + 11) + R'.locals ≤ R.locals) (hc : cells + R'.cells ≤ R.cells) (hs : slots + R'.slots ≤ R.slots)
    (K : ∀ v h', Q' v h' → ORun l y bytes maxL ret R Z n0 as' Q h' (cells + R'.cells) (slots + R'.slots) nx ls (v.toList ++ rest)) : ORun l y bytes maxL ret R Z n0 as' Q h cells slots pc ls st := by
  obtain ⟨hd, rfl⟩ := hd
  subst hst
  refine ORun.call (y' := y') (fun p e s m below meth c T locs hx hZ hby hml hown X eT => ?_) K
  obtain ⟨cell, hcl, hob⟩ := E.cell
  have hi : (Cond.instanceMethod y').before as' s = true := mvT hZ w5
  have hp : s.PrivateAt y' := Cond.privateMethod_at (mvP hZ wp (args := as'))
  obtain ⟨cc, k, i1, i2, -, i4, -⟩ := Cond.instantiable_spec (show (Cond.instantiable y'.cls kk).before as' s = true from mvT hZ wi)
  have hni : k.isInterface = false := by simp only [Bool.or_eq_false_iff] at i4; exact i4.1
  have hsel : (Cond.selects y'.cls y' y').before as' s = true := selects_self_of_private i1 i2 hni hp hi hy
  obtain ⟨v, _, B, -, X', hq, st'⟩ := X.privateBack hx (y := y') hown (mvT hZ w1) hi hsel hp (mvT hZ w4) hy (backOf (len := 3) (W := W) (Q := fun v h L => Q' v h ∧ Fr n0 L) C' hZ w4 w3 hf hl) (g := mkF m pc ls.toArray (argsL.reverse ++ .ref a :: rest)) rfl (by rw [hml]; simpa using hsz) (Steps.refl _) (a := a) (by rw [eT]; exact hcl) hob (argsL := argsL) (rest := rest) (lenOf hpd hlen) rfl (by show 2 * 0 + _ ≤ _; omega) (hb hby hd) (fun _ _ => ⟨rfl, eT, hc, hs⟩)
  exact ⟨v, B, X', hq, fun t k => st'.trans k⟩
theorem r_cast {index : Nat} {K : String} {a : Addr} (w : (Cond.classLink y.cls index K).before a0 Z = true) (F : Ins Z h a K true) (hd : D bytes pc (.checkcast index) 3 nx) (K' : ORun l y bytes maxL ret R Z n0 as' Q h cells slots nx ls (.ref a :: st)) : ORun l y bytes maxL ret R Z n0 as' Q h cells slots pc ls (.ref a :: st) := by
  obtain ⟨hd, rfl⟩ := hd
  refine K'.law fun p e s m below meth c T locs hx hZ hby hml hown hnm X eT N => ?_
  obtain ⟨T', X', e', st'⟩ := castY X hx hZ hown w eT F (g := mkF m pc ls.toArray (.ref a :: st)) rfl rfl (hb hby hd)
  exact ⟨T', locs, X', e', N, st'⟩
theorem r_clone {index : Nat} {ad : String} {a : Addr} {cl : Cell} {ty : FieldType} (cap : Nat) (w1 : (Cond.methodLink y.cls index ⟨ad, "clone", "()Ljava/lang/Object;"⟩).before a0 Z = true) (w2 : (Cond.sameMethod ad "java/lang/Object" "clone" "()Ljava/lang/Object;").before a0 Z = true) (w3 : (Cond.native ⟨"java/lang/Object", "clone", "()Ljava/lang/Object;"⟩).before a0 Z = true)
    (w4 : (Cond.instanceMethod ⟨"java/lang/Object", "clone", "()Ljava/lang/Object;"⟩).before a0 Z = true) (w5 : (Cond.selects ad ⟨ad, "clone", "()Ljava/lang/Object;"⟩ ⟨"java/lang/Object", "clone", "()Ljava/lang/Object;"⟩).before a0 Z = true) (w6 : (Cond.castable ad "java/lang/Cloneable").before a0 Z = true)
    (A : Arr Z h a cl ty) (E : Exa Z h a ad) (F : FitC Z cl) (hd : D bytes pc (.invokevirtual index) 3 nx) (hsz : ls.length = maxL) (hf : 1 ≤ R.frames) (W : Nat) (hW : (st.map fun v => v.category).sum = W) (hl : W + 14 ≤ R.locals) (hcap : cl.slots.size ≤ cap) (hc : cells + 1 ≤ R.cells) (hs : slots + cap ≤ R.slots)
    (K : ∀ h', Ext h h' ∧ Arr Z h' h.size (cloneOf cl) ty ∧ Exa Z h' h.size ad → ORun l y bytes maxL ret R Z n0 as' Q h' (cells + 1) (slots + cap) nx ls (.ref h.size :: st)) : ORun l y bytes maxL ret R Z n0 as' Q h cells slots pc ls (.ref a :: st) := by
  obtain ⟨hd, rfl⟩ := hd
  refine ORun.lawK (fun p e s m below meth c T locs hx hZ hby hml hown hnm X eT N => ?_) K
  obtain ⟨T', h', X', rfl, E', A', Y', st'⟩ := cloneA X hx hZ hown w1 w2 w3 w4 w5 w6 eT A E F (g := mkF m pc ls.toArray (.ref a :: st)) rfl (by rw [hml]; simpa using hsz) rfl (hb hby hd) hf (W := W) (by show 2 * 0 + _ ≤ _; omega) hl hcap hc hs
  exact ⟨T', _, X', ⟨E', A', Y'⟩, N, st'⟩
end Logic
end Jvm.OwnKit
namespace Jvm.Pilot.@@N@@
open Jvm Jvm.ClassFile Sem Op Lib Jvm.Free Jvm.Stand Jvm.LawKit Jvm.RoadKit Jvm.OwnKit Bundle Jvm.Pilot.@@N@@.Jvm.D
theorem r_dloadN {l : Launch} {y : MethodName} {bytes : ByteArray} {maxL : Nat} {ret : Option FieldType} {R : Room} {Z : State} {n0 : Nat} {as' : Array Value} {Q : Option Value → Heap → Prop} {h : Heap} {cells slots pc nx : Nat} {ls : List Slot} {st : List Value} {k : Fin 4} {v : UInt64} (hl : ls[k.val]? = some (.val (.double v))) (hd : OwnKit.D bytes pc (.dload_n k) 1 nx) (K : ORun l y bytes maxL ret R Z n0 as' Q h cells slots nx ls (.double v :: st)) : ORun l y bytes maxL ret R Z n0 as' Q h cells slots pc ls st := by
  obtain ⟨hd, rfl⟩ := hd
  exact K.step fun p e s m below meth c T locs hx hZ hby hown X eT t k => XS.dloadN X.here hx rfl (hb hby hd) (getL hl) k
theorem r_dload {l : Launch} {y : MethodName} {bytes : ByteArray} {maxL : Nat} {ret : Option FieldType} {R : Room} {Z : State} {n0 : Nat} {as' : Array Value} {Q : Option Value → Heap → Prop} {h : Heap} {cells slots pc nx : Nat} {ls : List Slot} {st : List Value} {k : Nat} {v : UInt64} (hl : ls[k]? = some (.val (.double v))) (hd : OwnKit.D bytes pc (.dload k) 2 nx) (K : ORun l y bytes maxL ret R Z n0 as' Q h cells slots nx ls (.double v :: st)) : ORun l y bytes maxL ret R Z n0 as' Q h cells slots pc ls st := by
  obtain ⟨hd, rfl⟩ := hd
  exact K.step fun p e s m below meth c T locs hx hZ hby hown X eT t k => XS.dload X.here hx rfl (hb hby hd) (getL hl) k
theorem r_dstore {l : Launch} {y : MethodName} {bytes : ByteArray} {maxL : Nat} {ret : Option FieldType} {R : Room} {Z : State} {n0 : Nat} {as' : Array Value} {Q : Option Value → Heap → Prop} {h : Heap} {cells slots pc nx : Nat} {ls : List Slot} {st : List Value} {k : Nat} {v : UInt64} (ls' : List Slot) (hl : storeLocals ls.toArray k (.double v) = some ls'.toArray) (hd : OwnKit.D bytes pc (.dstore k) 2 nx) (K : ORun l y bytes maxL ret R Z n0 as' Q h cells slots nx ls' st) : ORun l y bytes maxL ret R Z n0 as' Q h cells slots pc ls (.double v :: st) := by
  obtain ⟨hd, rfl⟩ := hd
  exact K.step fun p e s m below meth c T locs hx hZ hby hown X eT t k => XS.dstore X.here hx rfl (hb hby hd) rfl hl k
theorem r_dconst0 {l : Launch} {y : MethodName} {bytes : ByteArray} {maxL : Nat} {ret : Option FieldType} {R : Room} {Z : State} {n0 : Nat} {as' : Array Value} {Q : Option Value → Heap → Prop} {h : Heap} {cells slots pc nx : Nat} {ls : List Slot} {st : List Value} (v : UInt64) (hv : FP.dconst0 = v) (hd : OwnKit.D bytes pc (.dconst 0) 1 nx) (K : ORun l y bytes maxL ret R Z n0 as' Q h cells slots nx ls (.double v :: st)) : ORun l y bytes maxL ret R Z n0 as' Q h cells slots pc ls st := by
  obtain ⟨hd, rfl⟩ := hd
  exact K.step fun p e s m below meth c T locs hx hZ hby hown X eT t k => XS.dconst0 X.here hx rfl (hb hby hd) hv k
theorem r_l2d {l : Launch} {y : MethodName} {bytes : ByteArray} {maxL : Nat} {ret : Option FieldType} {R : Room} {Z : State} {n0 : Nat} {as' : Array Value} {Q : Option Value → Heap → Prop} {h : Heap} {cells slots pc nx : Nat} {ls : List Slot} {st : List Value} {x : Int64} (hd : OwnKit.D bytes pc (.l2d) 1 nx) (K : ORun l y bytes maxL ret R Z n0 as' Q h cells slots nx ls (.double (FP.l2d x) :: st)) : ORun l y bytes maxL ret R Z n0 as' Q h cells slots pc ls (.long x :: st) := by
  obtain ⟨hd, rfl⟩ := hd
  exact K.step fun p e s m below meth c T locs hx hZ hby hown X eT t k => XS.l2dS X.here hx rfl (hb hby hd) rfl rfl k
theorem r_dcmp {l : Launch} {y : MethodName} {bytes : ByteArray} {maxL : Nat} {ret : Option FieldType} {R : Room} {Z : State} {n0 : Nat} {as' : Array Value} {Q : Option Value → Heap → Prop} {h : Heap} {cells slots pc nx : Nat} {ls : List Slot} {st : List Value} {o : CmpOp} {x z : UInt64} (v : Int32) (hv : cmpValue (FP.dcmp x z) o = v) (hd : OwnKit.D bytes pc (.dcmp o) 1 nx) (K : ORun l y bytes maxL ret R Z n0 as' Q h cells slots nx ls (.int v :: st)) : ORun l y bytes maxL ret R Z n0 as' Q h cells slots pc ls (.double z :: .double x :: st) := by
  obtain ⟨hd, rfl⟩ := hd
  exact K.step fun p e s m below meth c T locs hx hZ hby hown X eT t k => XS.dcmpS X.here hx rfl (hb hby hd) rfl hv k
theorem r_dadd {l : Launch} {y : MethodName} {bytes : ByteArray} {maxL : Nat} {ret : Option FieldType} {R : Room} {Z : State} {n0 : Nat} {as' : Array Value} {Q : Option Value → Heap → Prop} {h : Heap} {cells slots pc nx : Nat} {ls : List Slot} {st : List Value} {x z : UInt64} (v : UInt64) (hv : FP.dadd x z = v) (hn : Jvm.Free.Fl.NoNaN64 v) (hd : OwnKit.D bytes pc (.dadd) 1 nx) (K : ORun l y bytes maxL ret R Z n0 as' Q h cells slots nx ls (.double v :: st)) : ORun l y bytes maxL ret R Z n0 as' Q h cells slots pc ls (.double z :: .double x :: st) := by
  obtain ⟨hd, rfl⟩ := hd
  exact K.step fun p e s m below meth c T locs hx hZ hby hown X eT t k => XS.daddS X.here hx rfl (hb hby hd) rfl (hv ▸ hn) hv k
theorem r_dmul {l : Launch} {y : MethodName} {bytes : ByteArray} {maxL : Nat} {ret : Option FieldType} {R : Room} {Z : State} {n0 : Nat} {as' : Array Value} {Q : Option Value → Heap → Prop} {h : Heap} {cells slots pc nx : Nat} {ls : List Slot} {st : List Value} {x z : UInt64} (hn : Jvm.Free.Fl.NoNaN64 (FP.dmul x z)) (hd : OwnKit.D bytes pc (.dmul) 1 nx) (K : ORun l y bytes maxL ret R Z n0 as' Q h cells slots nx ls (.double (FP.dmul x z) :: st)) : ORun l y bytes maxL ret R Z n0 as' Q h cells slots pc ls (.double z :: .double x :: st) := by
  obtain ⟨hd, rfl⟩ := hd
  exact K.step fun p e s m below meth c T locs hx hZ hby hown X eT t k => XS.dmulS X.here hx rfl (hb hby hd) rfl hn rfl k
theorem r_ldc2D {l : Launch} {y : MethodName} {bytes : ByteArray} {maxL : Nat} {ret : Option FieldType} {R : Room} {Z : State} {n0 : Nat} {as' : Array Value} {Q : Option Value → Heap → Prop} {h : Heap} {cells slots pc nx : Nat} {ls : List Slot} {st : List Value} {a0 : Array Value} {i : Nat} {v : UInt64} (w : (Cond.constantDouble y.cls i v).before a0 Z = true) (hd : OwnKit.D bytes pc (.ldc2_w i) 3 nx) (K : ORun l y bytes maxL ret R Z n0 as' Q h cells slots nx ls (.double v :: st)) : ORun l y bytes maxL ret R Z n0 as' Q h cells slots pc ls st := by
  obtain ⟨hd, rfl⟩ := hd
  exact K.step fun p e s m below meth c T locs hx hZ hby hown X eT t k => X.ldc2DoubleC hx hown (mvT hZ w) (g := mkF m pc ls.toArray st) rfl (hb hby hd) _ k
theorem r_dret {l : Launch} {y : MethodName} {bytes : ByteArray} {maxL : Nat} {R : Room} {Z : State} {n0 : Nat} {as' : Array Value} {Q : Option Value → Heap → Prop} {h : Heap} {cells slots pc nx : Nat} {ls : List Slot} {st : List Value} {v : UInt64} (hd : OwnKit.D bytes pc .dreturn 1 nx) (hc : cells ≤ R.cells) (hs : slots ≤ R.slots) (hq : Q (some (.double v)) h) : ORun l y bytes maxL (some .double) R Z n0 as' Q h cells slots pc ls (.double v :: st) :=
  ORun.back (fun q => nomatch q) hc hs hq fun p e s m below meth c T locs hx hby hret X fs hr => retOut X hx (t := .double) hret rfl (Or.inr (Or.inr (Or.inl ⟨rfl, rfl, _, rfl⟩))) (hb hby hd.1) hr
/-- an array of doubles that are whole numbers -/
def Dry (Z : State) (h : Heap) (a : Addr) (ks : List Int64) : Prop := ∃ c : Cell, Arr Z h a c .double ∧ c.slots = (ks.map fun k => Value.double (FP.l2d k)).toArray
section
variable {Z : State} {h h' : Heap} {a b : Addr} {ks ks' : List Int64} {sl : Nat} {v : Value} {ws : List Addr}
theorem Dry.lt (F : Dry Z h a ks) : a < h.size := by obtain ⟨c, A, -⟩ := F; exact A.lt
theorem Dry.ext (F : Dry Z h a ks) (E : Ext h h') : Dry Z h' a ks := by obtain ⟨c, A, q⟩ := F; exact ⟨c, A.ext E, q⟩
theorem Dry.other (F : Dry Z h b ks) (W : Wr h h' a sl v) (q : b ≠ a) : Dry Z h' b ks := by obtain ⟨c, A, r⟩ := F; exact ⟨c, A.other W q, r⟩
theorem Dry.set {i : Nat} {x : Int64} (F : Dry Z h a ks) (W : Wr h h' a i (.double (FP.l2d x))) (e : ks.set i x = ks') : Dry Z h' a ks' := by
  obtain ⟨c, A, r⟩ := F
  refine ⟨_, A.same W, ?_⟩
  subst e
  simp [Cell.setSlot, r, List.map_set]
theorem Dry.size {c : Cell} (q : c.slots = (ks.map fun k => Value.double (FP.l2d k)).toArray) : c.slots.size = ks.length := by rw [q]; simp
end
theorem r_lenD {l : Launch} {y : MethodName} {bytes : ByteArray} {maxL : Nat} {ret : Option FieldType} {R : Room} {Z : State} {n0 : Nat} {as' : Array Value} {Q : Option Value → Heap → Prop} {h : Heap} {cells slots pc nx : Nat} {ls : List Slot} {st : List Value} {a : Addr} {ks : List Int64} (n : Int32) (A : Dry Z h a ks) (hn : ks.length.toInt32 = n) (hd : OwnKit.D bytes pc .arraylength 1 nx) (K : ORun l y bytes maxL ret R Z n0 as' Q h cells slots nx ls (.int n :: st)) : ORun l y bytes maxL ret R Z n0 as' Q h cells slots pc ls (.ref a :: st) := by
  obtain ⟨c, A, q⟩ := A
  refine r_len A hd ?_
  rw [Dry.size q, hn]; exact K
theorem r_ldD {l : Launch} {y : MethodName} {bytes : ByteArray} {maxL : Nat} {ret : Option FieldType} {R : Room} {Z : State} {n0 : Nat} {as' : Array Value} {Q : Option Value → Heap → Prop} {h : Heap} {cells slots pc nx : Nat} {ls : List Slot} {st : List Value} {a : Addr} {ks : List Int64} {j : Int32} (x : Int64) (A : Dry Z h a ks) (hj : ¬ j < 0) (hv : ks[j.toNatClampNeg]? = some x) (hd : OwnKit.D bytes pc .daload 1 nx) (K : ORun l y bytes maxL ret R Z n0 as' Q h cells slots nx ls (.double (FP.l2d x) :: st)) : ORun l y bytes maxL ret R Z n0 as' Q h cells slots pc ls (.int j :: .ref a :: st) := by
  obtain ⟨c, A, q⟩ := A
  obtain ⟨hd, rfl⟩ := hd
  have h1 : j.toNatClampNeg < ks.length := by
    rcases Nat.lt_or_ge j.toNatClampNeg ks.length with h | h
    · exact h
    · rw [List.getElem?_eq_none h] at hv; cases hv
  exact K.step fun p e s m below meth c T locs hx hZ hby hown X eT t k => X.daload hx (j := j) (v := .double (FP.l2d x)) (by rw [eT]; exact A.1) (State.isArrayOf_alike hZ.alike A.2.1) A.2.2 (by rw [Dry.size q]; intro r; rcases r with r | r; exact hj r; omega) (by rw [q]; simp [hv]) (g := mkF m pc ls.toArray (.int j :: .ref a :: st)) rfl rfl (hb hby hd) _ k
theorem r_stD {l : Launch} {y : MethodName} {bytes : ByteArray} {maxL : Nat} {ret : Option FieldType} {R : Room} {Z : State} {n0 : Nat} {as' : Array Value} {Q : Option Value → Heap → Prop} {h : Heap} {cells slots pc nx : Nat} {ls : List Slot} {st : List Value} {a : Addr} {ks : List Int64} {j : Int32} {x : Int64} (i : Nat) (ks' : List Int64) (A : Dry Z h a ks) (hj : ¬ j < 0) (hi : j.toNatClampNeg = i) (hl : i < ks.length) (hks : ks.set i x = ks') (ge : n0 ≤ a) (hd : OwnKit.D bytes pc .dastore 1 nx) (K : ∀ h', Wr h h' a i (.double (FP.l2d x)) → Dry Z h' a ks' → ORun l y bytes maxL ret R Z n0 as' Q h' cells slots nx ls st) : ORun l y bytes maxL ret R Z n0 as' Q h cells slots pc ls (.double (FP.l2d x) :: .int j :: .ref a :: st) := by
  have A' := A
  obtain ⟨c, A, q⟩ := A
  obtain ⟨hd, rfl⟩ := hd
  subst hi
  refine ORun.lawK (P := fun h' => Wr h h' a j.toNatClampNeg (.double (FP.l2d x))) (fun p e s m below meth c' T locs hx hZ hby hml hown hnm X eT N => ?_) (fun h' W => K h' W (A'.set W hks))
  obtain ⟨T', h', X', rfl, W, st'⟩ := stD X hx hZ eT A (j := j) (x := FP.l2d x) (by rw [Dry.size q]; intro r; rcases r with r | r; exact hj r; omega) (g := mkF m pc ls.toArray (.double (FP.l2d x) :: .int j :: .ref a :: st)) rfl rfl (hb hby hd)
  exact ⟨T', _, X', W, Fr.snoc X' N ge, st'⟩
theorem r_newD {l : Launch} {y : MethodName} {bytes : ByteArray} {maxL : Nat} {ret : Option FieldType} {R : Room} {Z : State} {n0 : Nat} {as' : Array Value} {Q : Option Value → Heap → Prop} {h : Heap} {cells slots pc nx : Nat} {ls : List Slot} {st : List Value} {a0 : Array Value} {n : Int32} (cap : Nat) (w : (Cond.arrayClass .double).before a0 Z = true) (hd : OwnKit.D bytes pc (.newarray .double) 2 nx) (hn : ¬ n < 0) (hcap : n.toNatClampNeg = cap) (hb' : cap * 8 ≤ 536870912) (hc : cells + 1 ≤ R.cells) (hl : slots + cap ≤ R.slots)
    (K : ∀ h', Ext h h' ∧ Dry Z h' h.size (List.replicate cap 0) ∧ Exa Z h' h.size "[D" → ORun l y bytes maxL ret R Z n0 as' Q h' (cells + 1) (slots + cap) nx ls (.ref h.size :: st)) : ORun l y bytes maxL ret R Z n0 as' Q h cells slots pc ls (.int n :: st) := by
  obtain ⟨hd, rfl⟩ := hd
  refine ORun.lawK (fun p e s m below meth c T locs hx hZ hby hml hown hnm X eT N => ?_) K
  obtain ⟨T', h', cA, X', rfl, E, A, Ex, st'⟩ := newPE X hx hZ (aty := .double) w eT (g := mkF m pc ls.toArray (.int n :: st)) rfl (hb hby hd) rfl hn (Nat.le_of_eq hcap) hb' hc hl (ad := "[D") (by decide)
  refine ⟨T', _, X', ⟨E, ⟨_, A, ?_⟩, Ex⟩, N, st'⟩
  subst hcap
  have e : defaultValue (newarray.typeOf .double) = Value.double (FP.l2d 0) := by rw [l2d_zero]; rfl
  simp [newA, e]
theorem Dry.fit {Z : State} {h : Heap} {a : Addr} {c : Cell} {ks : List Int64} (A : Arr Z h a c .double) (q : c.slots = (ks.map fun k => Value.double (FP.l2d k)).toArray) : FitC Z c := fitC_of A fun i hi v hv => by
  rw [q] at hv
  simp at hv
  obtain ⟨x, -, rfl⟩ := hv
  rfl
theorem r_absD {l : Launch} {y : MethodName} {bytes : ByteArray} {maxL : Nat} {ret : Option FieldType} {R : Room} {Z : State} {n0 : Nat} {as' : Array Value} {Q : Option Value → Heap → Prop} {h : Heap} {cells slots pc nx : Nat} {ls : List Slot} {st : List Value} {a0 : Array Value} {idx : Nat} {x : UInt64} {b' : ByteArray} {mL' : Nat} (w1 : (Cond.methodLink y.cls idx NT.mathAbs64N).before a0 Z = true) (w2 : (Cond.static NT.mathAbs64N).before a0 Z = true) (w3 : (Cond.initialized "java/lang/Math").before a0 Z = true) (w4 : (Cond.code NT.mathAbs64N b' mL' (some .double)).before a0 Z = true) (hx' : x &&& 0x7fffffffffffffff ≤ 0x7ff0000000000000)
    (hd : OwnKit.D bytes pc (.invokestatic idx) 3 nx) (hsz : ls.length = maxL) (hf : 1 ≤ R.frames) (W : Nat) (hW : (st.map fun v => v.category).sum = W) (hl : W + (mL' + 11) ≤ R.locals) (K : ORun l y bytes maxL ret R Z n0 as' Q h cells slots nx ls (.double (x &&& 0x7fffffffffffffff) :: st)) : ORun l y bytes maxL ret R Z n0 as' Q h cells slots pc ls (.double x :: st) := by
  obtain ⟨hd, rfl⟩ := hd
  refine K.law fun p e s m below meth c T locs hx hZ hby hml hown hnm X eT N => ?_
  obtain ⟨v, vm1, B, -, X', ⟨hB, hv⟩, st'⟩ := Jvm.LawKit.callS X hx (y := NT.mathAbs64N) hown (mvT hZ w1) (mvT hZ w2) (mvT hZ w3) (mvT hZ w4) (by decide) (NT.Abs64.pays (len := 3) (W := W) (mvT hZ w4) (mvT hZ w2) hf hl) (g := mkF m pc ls.toArray (.double x :: st)) rfl (by rw [hml]; simpa using hsz) (argsL := [.double x]) (rest := st) (lenOf NT.mathAbs64_desc rfl) rfl (by show 2 * 0 + _ ≤ _; omega) (hb hby hd) (fun _ _ => ⟨x, rfl, hx'⟩)
  cases hv x ⟨rfl, hx'⟩
  subst hB
  exact ⟨T.setVm vm1, locs, X', eT, N, st'⟩
open Jvm.FP Jvm.Free.Fl in
theorem own_fin (v : Int64) : (∃ z : Int32, cmpValue (FP.dcmp (FP.l2d v &&& 0x7fffffffffffffff) 9218868437227405311) .g = z ∧ ¬ 0 < z) ∧ FP.l2d v &&& 0x7fffffffffffffff ≤ 0x7ff0000000000000 := by
  have f : Fin64 (FP.l2d v) := l2d_fin v
  refine ⟨?_, f.noNaN⟩
  rcases (Core.le_max (noNaN64_no.mp f.noNaN)).mpr (fin64_core.mp f) with q | q
  · exact ⟨_, congrArg (fun z => cmpValue z .g) q, by decide⟩
  · exact ⟨_, congrArg (fun z => cmpValue z .g) q, by decide⟩
open Jvm.FP Jvm.Free.Fl in
theorem own_H {A x c : Int64} {M : Int} (hA : -M ≤ A.toInt ∧ A.toInt ≤ M) (hx : -4096 ≤ x.toInt ∧ x.toInt ≤ 4096) (hc : -4096 ≤ c.toInt ∧ c.toInt ≤ 4096) (hM : M ≤ 68736258048) :
    FP.dadd (FP.dmul (FP.l2d A) (FP.l2d x)) (FP.l2d c) = FP.l2d (A * x + c) ∧ -(M * 4096 + 4096) ≤ (A * x + c).toInt ∧ (A * x + c).toInt ≤ M * 4096 + 4096 := by
  have bA : B53 A := ⟨by omega, by omega⟩
  have bx : B53 x := ⟨by omega, by omega⟩
  have bc : B53 c := ⟨by omega, by omega⟩
  have hm : (A.toInt * x.toInt).natAbs ≤ M.toNat * 4096 := by rw [Int.natAbs_mul]; exact Nat.mul_le_mul (by omega) (by omega)
  have e1 : (A * x).toInt = A.toInt * x.toInt := by rw [Int64.toInt_mul]; exact Int.bmod_eq_of_le (by omega) (by omega)
  have bm : B53 (A * x) := ⟨by rw [e1]; omega, by rw [e1]; omega⟩
  have e2 := add64 bm bc
  refine ⟨?_, by rw [e2, e1]; omega, by rw [e2, e1]; omega⟩
  by_cases z : (A = 0 ∧ x < 0) ∨ (x = 0 ∧ A < 0)
  · have hz : A = 0 ∨ x = 0 := z.imp (·.1) (·.1)
    have p0 : A * x = 0 := by rcases hz with rfl | rfl <;> simp
    have hs : (decide (A.toInt < 0) != decide (x.toInt < 0)) = true := by
      rcases z with ⟨rfl, q⟩ | ⟨rfl, q⟩
      · have := Int64.lt_iff_toInt_lt.mp q
        simp at this ⊢; exact this
      · have := Int64.lt_iff_toInt_lt.mp q
        simp at this ⊢; exact this
    rw [dmul_z bA bx hz, if_pos hs, p0, Int64.zero_add]
    have q := Core.dadd_zeroNeg (a := FP.l2d c) ((Core.notNaN_iff _).mp (noNaN64_no.mp (l2d_fin c).noNaN))
    exact (Core.dadd_comm _ _).trans q
  · rw [dmul_k (A := M) (B := 4096) hA.1 hA.2 hx.1 hx.2 (by omega) (by omega) (by omega) (fun q => z (Or.inl q)) (fun q => z (Or.inr q))]
    exact dadd_w bm bc
open Jvm.FP Jvm.Free.Fl in
theorem own_mulN (A x : Int64) : NoNaN64 (FP.dmul (FP.l2d A) (FP.l2d x)) := dmul_out (l2d_fin A) (l2d_fin x)
theorem own_ri2 (k0 k1 x : Int64) : k1 * x + k0 = k0 + k1 * x := by ac_rfl
theorem own_ri3 (k0 k1 k2 x : Int64) : (k2 * x + k1) * x + k0 = k0 + k1 * x + k2 * x * x := by simp only [Int64.add_mul]; ac_rfl
theorem own_ri4 (k0 k1 k2 k3 x : Int64) : ((k3 * x + k2) * x + k1) * x + k0 = k0 + k1 * x + k2 * x * x + k3 * x * x * x := by simp only [Int64.add_mul]; ac_rfl
theorem own_b {k : Int64} (h : -4096 ≤ k.toInt ∧ k.toInt ≤ 4096) : B53 k := ⟨by omega, by omega⟩
theorem own_s13 (x : Int32) : -4096 ≤ ((x <<< ((19 : Int32) &&& 31)) >>> ((19 : Int32) &&& 31)).toInt64.toInt ∧ ((x <<< ((19 : Int32) &&& 31)) >>> ((19 : Int32) &&& 31)).toInt64.toInt ≤ 4095 := by
  rw [c_i2l, c_ishr _ 19 19 (by decide)]
  have := rng32 (x <<< ((19 : Int32) &&& 31))
  omega
theorem d1_0 : D method_2_code 0 (.iload_n 0) 1 1 := ⟨by decide +kernel, rfl⟩
theorem d1_1 : D method_2_code 1 (.bipush 19) 2 3 := ⟨by decide +kernel, rfl⟩
theorem d1_3 : D method_2_code 3 (.ishl) 1 4 := ⟨by decide +kernel, rfl⟩
theorem d1_4 : D method_2_code 4 (.bipush 19) 2 6 := ⟨by decide +kernel, rfl⟩
theorem d1_6 : D method_2_code 6 (.ishr) 1 7 := ⟨by decide +kernel, rfl⟩
theorem d1_7 : D method_2_code 7 (.i2l) 1 8 := ⟨by decide +kernel, rfl⟩
theorem d1_8 : D method_2_code 8 (.lreturn) 1 9 := ⟨by decide +kernel, rfl⟩
theorem pn1 : plainFor (⟨"com/example/tempera/tempera/problem/PolynomialValueAtPinLaw", "signed13", "(I)J"⟩ : MethodName) = true := by first | exact plainFor_of_name (by first | (simp [plainName, overriddenIn]; done) | decide +kernel) | exact Jvm.Free.JP.mathPlain rfl (by decide +kernel) | decide +kernel
set_option maxRecDepth 65536 in
set_option maxHeartbeats 40000000 in
theorem ct1 {l : Launch} {Z : State} {a0 : Array Value} (hw : ∀ d ∈ tables_1, d.before a0 Z = true) {n0 : Nat} {h0 : Heap} (p1 : Int32) : Ct l ⟨"com/example/tempera/tempera/problem/PolynomialValueAtPinLaw", "signed13", "(I)J"⟩ method_2_code 1 (some .long) [] ({ frames := 0, cells := 0, slots := 0, locals := 0 } : Room) Z n0 #[(.int p1)] h0 (fun v h => ∃ k : Int64, v = some (.long k) ∧ h = h0 ∧ -4096 ≤ k.toInt ∧ k.toInt ≤ 4095) := by
  refine Ct.of (ls := [.val (.int p1)]) pn1 (fun m => by first | (simp [entryFrame, mkF, argsToLocals, Value.category]; done) | rfl) ?_
  refine r_iloadN d1_0 rfl ?_
  refine r_bipush (19 : Int32) rfl d1_1 ?_
  refine r_ishl d1_3 ?_
  refine r_bipush (19 : Int32) rfl d1_4 ?_
  refine r_ishr d1_6 ?_
  refine r_i2l d1_7 ?_
  exact r_lret d1_8 (by decide) (by decide) (⟨_, rfl, rfl, own_s13 p1⟩)
theorem d2_0 : D method_3_code 0 (.lload_n 0) 1 1 := ⟨by decide +kernel, rfl⟩
theorem d2_1 : D method_3_code 1 (.lconst 0) 1 2 := ⟨by decide +kernel, rfl⟩
theorem d2_2 : D method_3_code 2 (.lcmp) 1 3 := ⟨by decide +kernel, rfl⟩
theorem d2_3 : DB method_3_code 3 (.ifCond .lt) 9 6 12 := ⟨by decide +kernel, rfl, by decide, by decide⟩
theorem d2_6 : D method_3_code 6 (.lload_n 0) 1 7 := ⟨by decide +kernel, rfl⟩
theorem d2_7 : D method_3_code 7 (.lconst 1) 1 8 := ⟨by decide +kernel, rfl⟩
theorem d2_8 : D method_3_code 8 (.ladd) 1 9 := ⟨by decide +kernel, rfl⟩
theorem d2_9 : DB method_3_code 9 (.goto) 4 12 13 := ⟨by decide +kernel, rfl, by decide, by decide⟩
theorem d2_12 : D method_3_code 12 (.lload_n 0) 1 13 := ⟨by decide +kernel, rfl⟩
theorem d2_13 : D method_3_code 13 (.lreturn) 1 14 := ⟨by decide +kernel, rfl⟩
theorem pn2 : plainFor (⟨"com/example/tempera/tempera/problem/PolynomialValueAtPinLaw", "nonZero", "(J)J"⟩ : MethodName) = true := by first | exact plainFor_of_name (by first | (simp [plainName, overriddenIn]; done) | decide +kernel) | exact Jvm.Free.JP.mathPlain rfl (by decide +kernel) | decide +kernel
set_option maxRecDepth 65536 in
set_option maxHeartbeats 40000000 in
theorem ct2 {l : Launch} {Z : State} {a0 : Array Value} (hw : ∀ d ∈ tables_1, d.before a0 Z = true) {n0 : Nat} {h0 : Heap} (p1 : Int64) (hp : -4096 ≤ p1.toInt ∧ p1.toInt ≤ 4095) : Ct l ⟨"com/example/tempera/tempera/problem/PolynomialValueAtPinLaw", "nonZero", "(J)J"⟩ method_3_code 2 (some .long) [] ({ frames := 0, cells := 0, slots := 0, locals := 0 } : Room) Z n0 #[(.long p1)] h0 (fun v h => ∃ k : Int64, v = some (.long k) ∧ h = h0 ∧ (-4096 ≤ k.toInt ∧ k.toInt ≤ 4096) ∧ ¬ k = 0) := by
  refine Ct.of (ls := [.val (.long p1), .second]) pn2 (fun m => by first | (simp [entryFrame, mkF, argsToLocals, Value.category]; done) | rfl) ?_
  refine r_lloadN d2_0 rfl ?_
  refine r_lconst (0 : Int64) rfl d2_1 ?_
  refine r_lcmp d2_2 ?_
  refine r_if_lt d2_3 (fun hc3 => ?_) (fun hc3 => ?_)
  · refine r_lloadN d2_12 rfl ?_
    refine r_lret d2_13 (by decide) (by decide) ?_
    have q := (lw_lt p1 0).mp hc3
    rw [Int64.lt_iff_toInt_lt] at q
    have z : (0 : Int64).toInt = 0 := by decide
    exact ⟨_, rfl, rfl, ⟨by omega, by omega⟩, fun e => by rw [e] at q; omega⟩
  · refine r_lloadN d2_6 rfl ?_
    refine r_lconst (1 : Int64) rfl d2_7 ?_
    refine r_ladd d2_8 ?_
    refine r_goto d2_9 ?_
    refine r_lret d2_13 (by decide) (by decide) ?_
    have q : ¬ p1 < 0 := fun r => hc3 ((lw_lt p1 0).mpr r)
    rw [Int64.lt_iff_toInt_lt] at q
    have z : (0 : Int64).toInt = 0 := by decide
    have o : (1 : Int64).toInt = 1 := by decide
    have a := add64 (a := p1) (b := 1) ⟨by omega, by omega⟩ ⟨by omega, by omega⟩
    exact ⟨_, rfl, rfl, ⟨by omega, by omega⟩, fun e => by rw [e] at a; omega⟩
theorem d5_0 : D jdk_117_method_8_code 0 (.dload_n 0) 1 1 := ⟨by decide +kernel, rfl⟩
theorem d5_1 : D jdk_117_method_8_code 1 (.invokestatic 38) 3 4 := ⟨by decide +kernel, rfl⟩
theorem d5_4 : D jdk_117_method_8_code 4 (.ldc2_w 111) 3 7 := ⟨by decide +kernel, rfl⟩
theorem d5_7 : D jdk_117_method_8_code 7 (.dcmp .g) 1 8 := ⟨by decide +kernel, rfl⟩
theorem d5_8 : DB jdk_117_method_8_code 8 (.ifCond .gt) 7 11 15 := ⟨by decide +kernel, rfl, by decide, by decide⟩
theorem d5_11 : D jdk_117_method_8_code 11 (.iconst 1) 1 12 := ⟨by decide +kernel, rfl⟩
theorem d5_12 : DB jdk_117_method_8_code 12 (.goto) 4 15 16 := ⟨by decide +kernel, rfl, by decide, by decide⟩
theorem d5_16 : D jdk_117_method_8_code 16 (.ireturn) 1 17 := ⟨by decide +kernel, rfl⟩
theorem pn5 : plainFor (⟨"java/lang/Double", "isFinite", "(D)Z"⟩ : MethodName) = true := by first | exact plainFor_of_name (by first | (simp [plainName, overriddenIn]; done) | decide +kernel) | exact Jvm.Free.JP.mathPlain rfl (by decide +kernel) | decide +kernel
set_option maxRecDepth 65536 in
set_option maxHeartbeats 40000000 in
theorem ct5 {l : Launch} {Z : State} {a0 : Array Value} (hw : ∀ d ∈ tables_1, d.before a0 Z = true) {n0 : Nat} {h0 : Heap} (v : Int64) : Ct l ⟨"java/lang/Double", "isFinite", "(D)Z"⟩ jdk_117_method_8_code 2 (some .boolean) [] ({ frames := 1, cells := 0, slots := 0, locals := 13 } : Room) Z n0 #[(.double (FP.l2d v))] h0 (fun v h => v = some (.int 1) ∧ h = h0) := by
  refine Ct.of (ls := [.val (.double (FP.l2d v)), .second]) pn5 (fun m => by first | (simp [entryFrame, mkF, argsToLocals, Value.category]; done) | rfl) ?_
  refine r_dloadN rfl d5_0 ?_
  obtain ⟨⟨z, ez, hz⟩, hm⟩ := own_fin v
  refine r_absD (hw _ (List.mem_of_getElem? (i := 21) rfl)) (hw _ (List.mem_of_getElem? (i := 22) rfl)) (hw _ (List.mem_of_getElem? (i := 23) rfl)) (hw _ (List.mem_of_getElem? (i := 24) rfl)) hm d5_1 rfl (by decide) 0 rfl (by decide) ?_
  refine r_ldc2D (hw _ (List.mem_of_getElem? (i := 25) rfl)) d5_4 ?_
  refine r_dcmp z ez d5_7 ?_
  refine r_if_gt d5_8 (fun hc8 => ?_) (fun hc8 => ?_)
  · exfalso; exact hz hc8
  · refine r_iconst (1 : Int32) rfl d5_11 ?_
    refine r_goto d5_12 ?_
    exact r_nret (t := .boolean) (by simp) d5_16 (by decide) (by decide) (⟨rfl, rfl⟩)
theorem own_xlt {Z : State} {h : Heap} {a : Addr} {C : String} (E : Exa Z h a C) : a < h.size := by
  obtain ⟨c, k, e, -⟩ := E
  exact (Array.getElem?_eq_some_iff.mp e).1
theorem d3_0 : D prog_33_method_1_code 0 (.aload_n 0) 1 1 := ⟨by decide +kernel, rfl⟩
theorem d3_1 : D prog_33_method_1_code 1 (.invokespecial 1) 3 4 := ⟨by decide +kernel, rfl⟩
theorem d3_4 : D prog_33_method_1_code 4 (.aload_n 1) 1 5 := ⟨by decide +kernel, rfl⟩
theorem d3_5 : D prog_33_method_1_code 5 (.arraylength) 1 6 := ⟨by decide +kernel, rfl⟩
theorem d3_6 : DB prog_33_method_1_code 6 (.ifCond .ne) 13 9 19 := ⟨by decide +kernel, rfl, by decide, by decide⟩
theorem d3_19 : D prog_33_method_1_code 19 (.aload_n 1) 1 20 := ⟨by decide +kernel, rfl⟩
theorem d3_20 : D prog_33_method_1_code 20 (.astore_n 2) 1 21 := ⟨by decide +kernel, rfl⟩
theorem d3_21 : D prog_33_method_1_code 21 (.aload_n 2) 1 22 := ⟨by decide +kernel, rfl⟩
theorem d3_22 : D prog_33_method_1_code 22 (.arraylength) 1 23 := ⟨by decide +kernel, rfl⟩
theorem d3_23 : D prog_33_method_1_code 23 (.istore_n 3) 1 24 := ⟨by decide +kernel, rfl⟩
theorem d3_24 : D prog_33_method_1_code 24 (.iconst 0) 1 25 := ⟨by decide +kernel, rfl⟩
theorem d3_25 : D prog_33_method_1_code 25 (.istore 4) 2 27 := ⟨by decide +kernel, rfl⟩
theorem d3_27 : D prog_33_method_1_code 27 (.iload 4) 2 29 := ⟨by decide +kernel, rfl⟩
theorem d3_29 : D prog_33_method_1_code 29 (.iload_n 3) 1 30 := ⟨by decide +kernel, rfl⟩
theorem d3_30 : DB prog_33_method_1_code 30 (.if_icmp .ge) 38 33 68 := ⟨by decide +kernel, rfl, by decide, by decide⟩
theorem d3_33 : D prog_33_method_1_code 33 (.aload_n 2) 1 34 := ⟨by decide +kernel, rfl⟩
theorem d3_34 : D prog_33_method_1_code 34 (.iload 4) 2 36 := ⟨by decide +kernel, rfl⟩
theorem d3_36 : D prog_33_method_1_code 36 (.daload) 1 37 := ⟨by decide +kernel, rfl⟩
theorem d3_37 : D prog_33_method_1_code 37 (.dstore 5) 2 39 := ⟨by decide +kernel, rfl⟩
theorem d3_39 : D prog_33_method_1_code 39 (.dload 5) 2 41 := ⟨by decide +kernel, rfl⟩
theorem d3_41 : D prog_33_method_1_code 41 (.invokestatic 14) 3 44 := ⟨by decide +kernel, rfl⟩
theorem d3_44 : DB prog_33_method_1_code 44 (.ifCond .ne) 18 47 62 := ⟨by decide +kernel, rfl, by decide, by decide⟩
theorem d3_62 : D prog_33_method_1_code 62 (.iinc 4 1) 3 65 := ⟨by decide +kernel, rfl⟩
theorem d3_65 : DB prog_33_method_1_code 65 (.goto) (-38) 68 27 := ⟨by decide +kernel, rfl, by decide, by decide⟩
theorem d3_68 : D prog_33_method_1_code 68 (.aload_n 1) 1 69 := ⟨by decide +kernel, rfl⟩
theorem d3_69 : D prog_33_method_1_code 69 (.aload_n 1) 1 70 := ⟨by decide +kernel, rfl⟩
theorem d3_70 : D prog_33_method_1_code 70 (.arraylength) 1 71 := ⟨by decide +kernel, rfl⟩
theorem d3_71 : D prog_33_method_1_code 71 (.iconst 1) 1 72 := ⟨by decide +kernel, rfl⟩
theorem d3_72 : D prog_33_method_1_code 72 (.isub) 1 73 := ⟨by decide +kernel, rfl⟩
theorem d3_73 : D prog_33_method_1_code 73 (.daload) 1 74 := ⟨by decide +kernel, rfl⟩
theorem d3_74 : D prog_33_method_1_code 74 (.dconst 0) 1 75 := ⟨by decide +kernel, rfl⟩
theorem d3_75 : D prog_33_method_1_code 75 (.dcmp .l) 1 76 := ⟨by decide +kernel, rfl⟩
theorem d3_76 : DB prog_33_method_1_code 76 (.ifCond .ne) 13 79 89 := ⟨by decide +kernel, rfl, by decide, by decide⟩
theorem d3_89 : D prog_33_method_1_code 89 (.aload_n 0) 1 90 := ⟨by decide +kernel, rfl⟩
theorem d3_90 : D prog_33_method_1_code 90 (.aload_n 1) 1 91 := ⟨by decide +kernel, rfl⟩
theorem d3_91 : D prog_33_method_1_code 91 (.invokevirtual 26) 3 94 := ⟨by decide +kernel, rfl⟩
theorem d3_94 : D prog_33_method_1_code 94 (.checkcast 27) 3 97 := ⟨by decide +kernel, rfl⟩
theorem d3_97 : D prog_33_method_1_code 97 (.putfield 32) 3 100 := ⟨by decide +kernel, rfl⟩
theorem d3_100 : D prog_33_method_1_code 100 (.return_) 1 101 := ⟨by decide +kernel, rfl⟩
theorem pd3_0 : parseMethodDescriptor "(D)Z" = some ⟨[.double], some .boolean⟩ := by decide +kernel
theorem pn3 : plainFor (⟨"com/example/tempera/tempera/problem/Polynomial", "<init>", "([D)V"⟩ : MethodName) = true := by first | exact plainFor_of_name (by first | (simp [plainName, overriddenIn]; done) | decide +kernel) | exact Jvm.Free.JP.mathPlain rfl (by decide +kernel) | decide +kernel
set_option maxRecDepth 65536 in
set_option maxHeartbeats 40000000 in
theorem ct3_1 {l : Launch} {Z : State} {a0 : Array Value} (hw : ∀ d ∈ tables_1, d.before a0 Z = true) {n0 : Nat} {h0 : Heap} (a1 a2 : Addr) (k0 : Int64) (E1 : Exa Z h0 a1 "com/example/tempera/tempera/problem/Polynomial") (F1 : Fld Z h0 a1 "com/example/tempera/tempera/problem/Polynomial" "coefficients" "[D" .null) (g1 : n0 ≤ a1) (A : Dry Z h0 a2 [k0]) (EA : Exa Z h0 a2 "[D") (b0 : -4096 ≤ k0.toInt ∧ k0.toInt ≤ 4096) (nz : ¬ k0 = 0) : Ct l ⟨"com/example/tempera/tempera/problem/Polynomial", "<init>", "([D)V"⟩ prog_33_method_1_code 7 none [] ({ frames := 2, cells := 1, slots := 4, locals := 30 } : Room) Z n0 #[(.ref a1), (.ref a2)] h0 (fun v h => v = none ∧ ∃ b : Addr, Exa Z h a1 "com/example/tempera/tempera/problem/Polynomial" ∧ Fld Z h a1 "com/example/tempera/tempera/problem/Polynomial" "coefficients" "[D" (.ref b) ∧ Dry Z h b [k0]) := by
  refine Ct.of (ls := [.val (.ref a1), .val (.ref a2), .unset, .unset, .unset, .unset, .unset]) pn3 (fun m => by first | (simp [entryFrame, mkF, argsToLocals, Value.category]; done) | rfl) ?_
  refine r_aloadN d3_0 rfl rfl ?_
  refine r_initO (hw _ (List.mem_of_getElem? (i := 14) rfl)) (hw _ (List.mem_of_getElem? (i := 15) rfl)) (hw _ (List.mem_of_getElem? (i := 16) rfl)) d3_1 rfl (by decide) 0 rfl (by decide) ?_
  refine r_aloadN d3_4 rfl rfl ?_
  refine r_lenD (1 : Int32) A rfl d3_5 ?_
  refine r_if_ne d3_6 (fun hc6 => ?_) (fun hc6 => ?_)
  · refine r_aloadN d3_19 rfl rfl ?_
    refine r_astoreN d3_20 rfl [.val (.ref a1), .val (.ref a2), .val (.ref a2), .unset, .unset, .unset, .unset] rfl ?_
    refine r_aloadN d3_21 rfl rfl ?_
    refine r_lenD (1 : Int32) A rfl d3_22 ?_
    refine r_istoreN d3_23 [.val (.ref a1), .val (.ref a2), .val (.ref a2), .val (.int (1 : Int32)), .unset, .unset, .unset] rfl ?_
    refine r_iconst (0 : Int32) rfl d3_24 ?_
    refine r_istore d3_25 [.val (.ref a1), .val (.ref a2), .val (.ref a2), .val (.int (1 : Int32)), .val (.int (0 : Int32)), .unset, .unset] rfl ?_
    refine r_iload d3_27 rfl ?_
    refine r_iloadN d3_29 rfl ?_
    refine r_icmp_ge d3_30 (fun hc30 => ?_) (fun hc30 => ?_)
    · exfalso; exact hc30 (by decide)
    · refine r_aloadN d3_33 rfl rfl ?_
      refine r_iload d3_34 rfl ?_
      refine r_ldD k0 A (by decide) rfl d3_36 ?_
      refine r_dstore [.val (.ref a1), .val (.ref a2), .val (.ref a2), .val (.int (1 : Int32)), .val (.int (0 : Int32)), .val (.double (FP.l2d k0)), .second] rfl d3_37 ?_
      refine r_dload rfl d3_39 ?_
      refine r_staticP [(.double (FP.l2d k0))] [] rfl pd3_0 rfl (hw _ (List.mem_of_getElem? (i := 17) rfl)) (hw _ (List.mem_of_getElem? (i := 18) rfl)) (hw _ (List.mem_of_getElem? (i := 19) rfl)) (hw _ (List.mem_of_getElem? (i := 20) rfl)) (by decide) (w := (.int (1 : Int32))) (R' := ({ frames := 1, cells := 0, slots := 0, locals := 13 } : Room)) (ct5 hw k0) d3_41 rfl (by decide) 0 rfl (by decide) rfl rfl (by decide) (by decide) ?_
      refine r_if_ne d3_44 (fun hc44 => ?_) (fun hc44 => ?_)
      · refine r_iinc (w := ((0 : Int32) + (1 : Int32))) d3_62 rfl rfl [.val (.ref a1), .val (.ref a2), .val (.ref a2), .val (.int (1 : Int32)), .val (.int ((0 : Int32) + (1 : Int32))), .val (.double (FP.l2d k0)), .second] rfl ?_
        refine r_goto d3_65 ?_
        refine r_iload d3_27 rfl ?_
        refine r_iloadN d3_29 rfl ?_
        refine r_icmp_ge d3_30 (fun hc30 => ?_) (fun hc30 => ?_)
        · refine r_aloadN d3_68 rfl rfl ?_
          refine r_aloadN d3_69 rfl rfl ?_
          refine r_lenD (1 : Int32) A rfl d3_70 ?_
          refine r_iconst (1 : Int32) rfl d3_71 ?_
          refine r_isub d3_72 ?_
          refine r_ldD k0 A (by decide) rfl d3_73 ?_
          refine r_dconst0 (FP.l2d 0) (by decide +kernel) d3_74 ?_
          refine r_dcmp (lcmpW k0 0) (dcmpV_w (own_b b0) ⟨by decide, by decide⟩ _) d3_75 ?_
          refine r_if_ne d3_76 (fun hc76 => ?_) (fun hc76 => ?_)
          · refine r_aloadN d3_89 rfl rfl ?_
            refine r_aloadN d3_90 rfl rfl ?_
            obtain ⟨cl, AA, qA⟩ := A
            refine r_clone 1 (hw _ (List.mem_of_getElem? (i := 26) rfl)) (hw _ (List.mem_of_getElem? (i := 27) rfl)) (hw _ (List.mem_of_getElem? (i := 31) rfl)) (hw _ (List.mem_of_getElem? (i := 29) rfl)) (hw _ (List.mem_of_getElem? (i := 30) rfl)) (hw _ (List.mem_of_getElem? (i := 32) rfl)) AA EA (Dry.fit AA qA) d3_91 rfl (by decide) 1 rfl (by decide) (Nat.le_of_eq (Dry.size qA)) (by decide) (by decide) ?_
            rintro h91 ⟨E91, A91, Y91⟩
            obtain ⟨c91, g91⟩ : ∃ z, z = h0.size := ⟨_, rfl⟩
            rw [← g91] at A91 Y91 ⊢
            have D91 : Dry Z h91 c91 [k0] := ⟨_, A91, qA⟩
            have n91 : c91 ≠ a1 := by rw [g91]; exact Nat.ne_of_gt (own_xlt E1)
            show ORun _ _ _ _ _ _ _ _ _ _ h91 1 1 94 [.val (.ref a1), .val (.ref a2), .val (.ref a2), .val (.int (1 : Int32)), .val (.int ((0 : Int32) + (1 : Int32))), .val (.double (FP.l2d k0)), .second] [(.ref c91), (.ref a1)]
            refine r_cast (hw _ (List.mem_of_getElem? (i := 33) rfl)) (Ins.self Y91) d3_94 ?_
            refine r_putF (host := "") (Or.inl (hw _ (List.mem_of_getElem? (i := 35) rfl))) (F1.ext E91) (E1.ext E91) (Or.inr ⟨(hw _ (List.mem_of_getElem? (i := 36) rfl)), rfl, rfl⟩) (hw _ (List.mem_of_getElem? (i := 9) rfl)) (ty := (.array .double)) (by decide) rfl rfl g1 d3_97 ?_
            intro h97 W97
            have G97 := Fld.same W97 (F1.ext E91)
            exact r_ret d3_100 (by decide) (by decide) (⟨rfl, c91, (E1.ext E91).wr W97, G97, D91.other W97 n91⟩)
          · exfalso; exact nz ((lw_eq k0 0).mp hc76)
        · exfalso; exact absurd hc30 (by decide)
      · exfalso; exact absurd hc44 (by decide)
  · exfalso; exact absurd hc6 (by decide)
set_option maxRecDepth 65536 in
set_option maxHeartbeats 40000000 in
theorem ct3_2 {l : Launch} {Z : State} {a0 : Array Value} (hw : ∀ d ∈ tables_1, d.before a0 Z = true) {n0 : Nat} {h0 : Heap} (a1 a2 : Addr) (k0 k1 : Int64) (E1 : Exa Z h0 a1 "com/example/tempera/tempera/problem/Polynomial") (F1 : Fld Z h0 a1 "com/example/tempera/tempera/problem/Polynomial" "coefficients" "[D" .null) (g1 : n0 ≤ a1) (A : Dry Z h0 a2 [k0, k1]) (EA : Exa Z h0 a2 "[D") (b0 : -4096 ≤ k0.toInt ∧ k0.toInt ≤ 4096) (b1 : -4096 ≤ k1.toInt ∧ k1.toInt ≤ 4096) (nz : ¬ k1 = 0) : Ct l ⟨"com/example/tempera/tempera/problem/Polynomial", "<init>", "([D)V"⟩ prog_33_method_1_code 7 none [] ({ frames := 2, cells := 1, slots := 4, locals := 30 } : Room) Z n0 #[(.ref a1), (.ref a2)] h0 (fun v h => v = none ∧ ∃ b : Addr, Exa Z h a1 "com/example/tempera/tempera/problem/Polynomial" ∧ Fld Z h a1 "com/example/tempera/tempera/problem/Polynomial" "coefficients" "[D" (.ref b) ∧ Dry Z h b [k0, k1]) := by
  refine Ct.of (ls := [.val (.ref a1), .val (.ref a2), .unset, .unset, .unset, .unset, .unset]) pn3 (fun m => by first | (simp [entryFrame, mkF, argsToLocals, Value.category]; done) | rfl) ?_
  refine r_aloadN d3_0 rfl rfl ?_
  refine r_initO (hw _ (List.mem_of_getElem? (i := 14) rfl)) (hw _ (List.mem_of_getElem? (i := 15) rfl)) (hw _ (List.mem_of_getElem? (i := 16) rfl)) d3_1 rfl (by decide) 0 rfl (by decide) ?_
  refine r_aloadN d3_4 rfl rfl ?_
  refine r_lenD (2 : Int32) A rfl d3_5 ?_
  refine r_if_ne d3_6 (fun hc6 => ?_) (fun hc6 => ?_)
  · refine r_aloadN d3_19 rfl rfl ?_
    refine r_astoreN d3_20 rfl [.val (.ref a1), .val (.ref a2), .val (.ref a2), .unset, .unset, .unset, .unset] rfl ?_
    refine r_aloadN d3_21 rfl rfl ?_
    refine r_lenD (2 : Int32) A rfl d3_22 ?_
    refine r_istoreN d3_23 [.val (.ref a1), .val (.ref a2), .val (.ref a2), .val (.int (2 : Int32)), .unset, .unset, .unset] rfl ?_
    refine r_iconst (0 : Int32) rfl d3_24 ?_
    refine r_istore d3_25 [.val (.ref a1), .val (.ref a2), .val (.ref a2), .val (.int (2 : Int32)), .val (.int (0 : Int32)), .unset, .unset] rfl ?_
    refine r_iload d3_27 rfl ?_
    refine r_iloadN d3_29 rfl ?_
    refine r_icmp_ge d3_30 (fun hc30 => ?_) (fun hc30 => ?_)
    · exfalso; exact hc30 (by decide)
    · refine r_aloadN d3_33 rfl rfl ?_
      refine r_iload d3_34 rfl ?_
      refine r_ldD k0 A (by decide) rfl d3_36 ?_
      refine r_dstore [.val (.ref a1), .val (.ref a2), .val (.ref a2), .val (.int (2 : Int32)), .val (.int (0 : Int32)), .val (.double (FP.l2d k0)), .second] rfl d3_37 ?_
      refine r_dload rfl d3_39 ?_
      refine r_staticP [(.double (FP.l2d k0))] [] rfl pd3_0 rfl (hw _ (List.mem_of_getElem? (i := 17) rfl)) (hw _ (List.mem_of_getElem? (i := 18) rfl)) (hw _ (List.mem_of_getElem? (i := 19) rfl)) (hw _ (List.mem_of_getElem? (i := 20) rfl)) (by decide) (w := (.int (1 : Int32))) (R' := ({ frames := 1, cells := 0, slots := 0, locals := 13 } : Room)) (ct5 hw k0) d3_41 rfl (by decide) 0 rfl (by decide) rfl rfl (by decide) (by decide) ?_
      refine r_if_ne d3_44 (fun hc44 => ?_) (fun hc44 => ?_)
      · refine r_iinc (w := ((0 : Int32) + (1 : Int32))) d3_62 rfl rfl [.val (.ref a1), .val (.ref a2), .val (.ref a2), .val (.int (2 : Int32)), .val (.int ((0 : Int32) + (1 : Int32))), .val (.double (FP.l2d k0)), .second] rfl ?_
        refine r_goto d3_65 ?_
        refine r_iload d3_27 rfl ?_
        refine r_iloadN d3_29 rfl ?_
        refine r_icmp_ge d3_30 (fun hc30 => ?_) (fun hc30 => ?_)
        · exfalso; exact hc30 (by decide)
        · refine r_aloadN d3_33 rfl rfl ?_
          refine r_iload d3_34 rfl ?_
          refine r_ldD k1 A (by decide) rfl d3_36 ?_
          refine r_dstore [.val (.ref a1), .val (.ref a2), .val (.ref a2), .val (.int (2 : Int32)), .val (.int ((0 : Int32) + (1 : Int32))), .val (.double (FP.l2d k1)), .second] rfl d3_37 ?_
          refine r_dload rfl d3_39 ?_
          refine r_staticP [(.double (FP.l2d k1))] [] rfl pd3_0 rfl (hw _ (List.mem_of_getElem? (i := 17) rfl)) (hw _ (List.mem_of_getElem? (i := 18) rfl)) (hw _ (List.mem_of_getElem? (i := 19) rfl)) (hw _ (List.mem_of_getElem? (i := 20) rfl)) (by decide) (w := (.int (1 : Int32))) (R' := ({ frames := 1, cells := 0, slots := 0, locals := 13 } : Room)) (ct5 hw k1) d3_41 rfl (by decide) 0 rfl (by decide) rfl rfl (by decide) (by decide) ?_
          refine r_if_ne d3_44 (fun hc44 => ?_) (fun hc44 => ?_)
          · refine r_iinc (w := (((0 : Int32) + (1 : Int32)) + (1 : Int32))) d3_62 rfl rfl [.val (.ref a1), .val (.ref a2), .val (.ref a2), .val (.int (2 : Int32)), .val (.int (((0 : Int32) + (1 : Int32)) + (1 : Int32))), .val (.double (FP.l2d k1)), .second] rfl ?_
            refine r_goto d3_65 ?_
            refine r_iload d3_27 rfl ?_
            refine r_iloadN d3_29 rfl ?_
            refine r_icmp_ge d3_30 (fun hc30 => ?_) (fun hc30 => ?_)
            · refine r_aloadN d3_68 rfl rfl ?_
              refine r_aloadN d3_69 rfl rfl ?_
              refine r_lenD (2 : Int32) A rfl d3_70 ?_
              refine r_iconst (1 : Int32) rfl d3_71 ?_
              refine r_isub d3_72 ?_
              refine r_ldD k1 A (by decide) rfl d3_73 ?_
              refine r_dconst0 (FP.l2d 0) (by decide +kernel) d3_74 ?_
              refine r_dcmp (lcmpW k1 0) (dcmpV_w (own_b b1) ⟨by decide, by decide⟩ _) d3_75 ?_
              refine r_if_ne d3_76 (fun hc76 => ?_) (fun hc76 => ?_)
              · refine r_aloadN d3_89 rfl rfl ?_
                refine r_aloadN d3_90 rfl rfl ?_
                obtain ⟨cl, AA, qA⟩ := A
                refine r_clone 2 (hw _ (List.mem_of_getElem? (i := 26) rfl)) (hw _ (List.mem_of_getElem? (i := 27) rfl)) (hw _ (List.mem_of_getElem? (i := 31) rfl)) (hw _ (List.mem_of_getElem? (i := 29) rfl)) (hw _ (List.mem_of_getElem? (i := 30) rfl)) (hw _ (List.mem_of_getElem? (i := 32) rfl)) AA EA (Dry.fit AA qA) d3_91 rfl (by decide) 1 rfl (by decide) (Nat.le_of_eq (Dry.size qA)) (by decide) (by decide) ?_
                rintro h91 ⟨E91, A91, Y91⟩
                obtain ⟨c91, g91⟩ : ∃ z, z = h0.size := ⟨_, rfl⟩
                rw [← g91] at A91 Y91 ⊢
                have D91 : Dry Z h91 c91 [k0, k1] := ⟨_, A91, qA⟩
                have n91 : c91 ≠ a1 := by rw [g91]; exact Nat.ne_of_gt (own_xlt E1)
                show ORun _ _ _ _ _ _ _ _ _ _ h91 1 2 94 [.val (.ref a1), .val (.ref a2), .val (.ref a2), .val (.int (2 : Int32)), .val (.int (((0 : Int32) + (1 : Int32)) + (1 : Int32))), .val (.double (FP.l2d k1)), .second] [(.ref c91), (.ref a1)]
                refine r_cast (hw _ (List.mem_of_getElem? (i := 33) rfl)) (Ins.self Y91) d3_94 ?_
                refine r_putF (host := "") (Or.inl (hw _ (List.mem_of_getElem? (i := 35) rfl))) (F1.ext E91) (E1.ext E91) (Or.inr ⟨(hw _ (List.mem_of_getElem? (i := 36) rfl)), rfl, rfl⟩) (hw _ (List.mem_of_getElem? (i := 9) rfl)) (ty := (.array .double)) (by decide) rfl rfl g1 d3_97 ?_
                intro h97 W97
                have G97 := Fld.same W97 (F1.ext E91)
                exact r_ret d3_100 (by decide) (by decide) (⟨rfl, c91, (E1.ext E91).wr W97, G97, D91.other W97 n91⟩)
              · exfalso; exact nz ((lw_eq k1 0).mp hc76)
            · exfalso; exact absurd hc30 (by decide)
          · exfalso; exact absurd hc44 (by decide)
      · exfalso; exact absurd hc44 (by decide)
  · exfalso; exact absurd hc6 (by decide)
set_option maxRecDepth 65536 in
set_option maxHeartbeats 40000000 in
theorem ct3_3 {l : Launch} {Z : State} {a0 : Array Value} (hw : ∀ d ∈ tables_1, d.before a0 Z = true) {n0 : Nat} {h0 : Heap} (a1 a2 : Addr) (k0 k1 k2 : Int64) (E1 : Exa Z h0 a1 "com/example/tempera/tempera/problem/Polynomial") (F1 : Fld Z h0 a1 "com/example/tempera/tempera/problem/Polynomial" "coefficients" "[D" .null) (g1 : n0 ≤ a1) (A : Dry Z h0 a2 [k0, k1, k2]) (EA : Exa Z h0 a2 "[D") (b0 : -4096 ≤ k0.toInt ∧ k0.toInt ≤ 4096) (b1 : -4096 ≤ k1.toInt ∧ k1.toInt ≤ 4096) (b2 : -4096 ≤ k2.toInt ∧ k2.toInt ≤ 4096) (nz : ¬ k2 = 0) : Ct l ⟨"com/example/tempera/tempera/problem/Polynomial", "<init>", "([D)V"⟩ prog_33_method_1_code 7 none [] ({ frames := 2, cells := 1, slots := 4, locals := 30 } : Room) Z n0 #[(.ref a1), (.ref a2)] h0 (fun v h => v = none ∧ ∃ b : Addr, Exa Z h a1 "com/example/tempera/tempera/problem/Polynomial" ∧ Fld Z h a1 "com/example/tempera/tempera/problem/Polynomial" "coefficients" "[D" (.ref b) ∧ Dry Z h b [k0, k1, k2]) := by
  refine Ct.of (ls := [.val (.ref a1), .val (.ref a2), .unset, .unset, .unset, .unset, .unset]) pn3 (fun m => by first | (simp [entryFrame, mkF, argsToLocals, Value.category]; done) | rfl) ?_
  refine r_aloadN d3_0 rfl rfl ?_
  refine r_initO (hw _ (List.mem_of_getElem? (i := 14) rfl)) (hw _ (List.mem_of_getElem? (i := 15) rfl)) (hw _ (List.mem_of_getElem? (i := 16) rfl)) d3_1 rfl (by decide) 0 rfl (by decide) ?_
  refine r_aloadN d3_4 rfl rfl ?_
  refine r_lenD (3 : Int32) A rfl d3_5 ?_
  refine r_if_ne d3_6 (fun hc6 => ?_) (fun hc6 => ?_)
  · refine r_aloadN d3_19 rfl rfl ?_
    refine r_astoreN d3_20 rfl [.val (.ref a1), .val (.ref a2), .val (.ref a2), .unset, .unset, .unset, .unset] rfl ?_
    refine r_aloadN d3_21 rfl rfl ?_
    refine r_lenD (3 : Int32) A rfl d3_22 ?_
    refine r_istoreN d3_23 [.val (.ref a1), .val (.ref a2), .val (.ref a2), .val (.int (3 : Int32)), .unset, .unset, .unset] rfl ?_
    refine r_iconst (0 : Int32) rfl d3_24 ?_
    refine r_istore d3_25 [.val (.ref a1), .val (.ref a2), .val (.ref a2), .val (.int (3 : Int32)), .val (.int (0 : Int32)), .unset, .unset] rfl ?_
    refine r_iload d3_27 rfl ?_
    refine r_iloadN d3_29 rfl ?_
    refine r_icmp_ge d3_30 (fun hc30 => ?_) (fun hc30 => ?_)
    · exfalso; exact hc30 (by decide)
    · refine r_aloadN d3_33 rfl rfl ?_
      refine r_iload d3_34 rfl ?_
      refine r_ldD k0 A (by decide) rfl d3_36 ?_
      refine r_dstore [.val (.ref a1), .val (.ref a2), .val (.ref a2), .val (.int (3 : Int32)), .val (.int (0 : Int32)), .val (.double (FP.l2d k0)), .second] rfl d3_37 ?_
      refine r_dload rfl d3_39 ?_
      refine r_staticP [(.double (FP.l2d k0))] [] rfl pd3_0 rfl (hw _ (List.mem_of_getElem? (i := 17) rfl)) (hw _ (List.mem_of_getElem? (i := 18) rfl)) (hw _ (List.mem_of_getElem? (i := 19) rfl)) (hw _ (List.mem_of_getElem? (i := 20) rfl)) (by decide) (w := (.int (1 : Int32))) (R' := ({ frames := 1, cells := 0, slots := 0, locals := 13 } : Room)) (ct5 hw k0) d3_41 rfl (by decide) 0 rfl (by decide) rfl rfl (by decide) (by decide) ?_
      refine r_if_ne d3_44 (fun hc44 => ?_) (fun hc44 => ?_)
      · refine r_iinc (w := ((0 : Int32) + (1 : Int32))) d3_62 rfl rfl [.val (.ref a1), .val (.ref a2), .val (.ref a2), .val (.int (3 : Int32)), .val (.int ((0 : Int32) + (1 : Int32))), .val (.double (FP.l2d k0)), .second] rfl ?_
        refine r_goto d3_65 ?_
        refine r_iload d3_27 rfl ?_
        refine r_iloadN d3_29 rfl ?_
        refine r_icmp_ge d3_30 (fun hc30 => ?_) (fun hc30 => ?_)
        · exfalso; exact hc30 (by decide)
        · refine r_aloadN d3_33 rfl rfl ?_
          refine r_iload d3_34 rfl ?_
          refine r_ldD k1 A (by decide) rfl d3_36 ?_
          refine r_dstore [.val (.ref a1), .val (.ref a2), .val (.ref a2), .val (.int (3 : Int32)), .val (.int ((0 : Int32) + (1 : Int32))), .val (.double (FP.l2d k1)), .second] rfl d3_37 ?_
          refine r_dload rfl d3_39 ?_
          refine r_staticP [(.double (FP.l2d k1))] [] rfl pd3_0 rfl (hw _ (List.mem_of_getElem? (i := 17) rfl)) (hw _ (List.mem_of_getElem? (i := 18) rfl)) (hw _ (List.mem_of_getElem? (i := 19) rfl)) (hw _ (List.mem_of_getElem? (i := 20) rfl)) (by decide) (w := (.int (1 : Int32))) (R' := ({ frames := 1, cells := 0, slots := 0, locals := 13 } : Room)) (ct5 hw k1) d3_41 rfl (by decide) 0 rfl (by decide) rfl rfl (by decide) (by decide) ?_
          refine r_if_ne d3_44 (fun hc44 => ?_) (fun hc44 => ?_)
          · refine r_iinc (w := (((0 : Int32) + (1 : Int32)) + (1 : Int32))) d3_62 rfl rfl [.val (.ref a1), .val (.ref a2), .val (.ref a2), .val (.int (3 : Int32)), .val (.int (((0 : Int32) + (1 : Int32)) + (1 : Int32))), .val (.double (FP.l2d k1)), .second] rfl ?_
            refine r_goto d3_65 ?_
            refine r_iload d3_27 rfl ?_
            refine r_iloadN d3_29 rfl ?_
            refine r_icmp_ge d3_30 (fun hc30 => ?_) (fun hc30 => ?_)
            · exfalso; exact hc30 (by decide)
            · refine r_aloadN d3_33 rfl rfl ?_
              refine r_iload d3_34 rfl ?_
              refine r_ldD k2 A (by decide) rfl d3_36 ?_
              refine r_dstore [.val (.ref a1), .val (.ref a2), .val (.ref a2), .val (.int (3 : Int32)), .val (.int (((0 : Int32) + (1 : Int32)) + (1 : Int32))), .val (.double (FP.l2d k2)), .second] rfl d3_37 ?_
              refine r_dload rfl d3_39 ?_
              refine r_staticP [(.double (FP.l2d k2))] [] rfl pd3_0 rfl (hw _ (List.mem_of_getElem? (i := 17) rfl)) (hw _ (List.mem_of_getElem? (i := 18) rfl)) (hw _ (List.mem_of_getElem? (i := 19) rfl)) (hw _ (List.mem_of_getElem? (i := 20) rfl)) (by decide) (w := (.int (1 : Int32))) (R' := ({ frames := 1, cells := 0, slots := 0, locals := 13 } : Room)) (ct5 hw k2) d3_41 rfl (by decide) 0 rfl (by decide) rfl rfl (by decide) (by decide) ?_
              refine r_if_ne d3_44 (fun hc44 => ?_) (fun hc44 => ?_)
              · refine r_iinc (w := ((((0 : Int32) + (1 : Int32)) + (1 : Int32)) + (1 : Int32))) d3_62 rfl rfl [.val (.ref a1), .val (.ref a2), .val (.ref a2), .val (.int (3 : Int32)), .val (.int ((((0 : Int32) + (1 : Int32)) + (1 : Int32)) + (1 : Int32))), .val (.double (FP.l2d k2)), .second] rfl ?_
                refine r_goto d3_65 ?_
                refine r_iload d3_27 rfl ?_
                refine r_iloadN d3_29 rfl ?_
                refine r_icmp_ge d3_30 (fun hc30 => ?_) (fun hc30 => ?_)
                · refine r_aloadN d3_68 rfl rfl ?_
                  refine r_aloadN d3_69 rfl rfl ?_
                  refine r_lenD (3 : Int32) A rfl d3_70 ?_
                  refine r_iconst (1 : Int32) rfl d3_71 ?_
                  refine r_isub d3_72 ?_
                  refine r_ldD k2 A (by decide) rfl d3_73 ?_
                  refine r_dconst0 (FP.l2d 0) (by decide +kernel) d3_74 ?_
                  refine r_dcmp (lcmpW k2 0) (dcmpV_w (own_b b2) ⟨by decide, by decide⟩ _) d3_75 ?_
                  refine r_if_ne d3_76 (fun hc76 => ?_) (fun hc76 => ?_)
                  · refine r_aloadN d3_89 rfl rfl ?_
                    refine r_aloadN d3_90 rfl rfl ?_
                    obtain ⟨cl, AA, qA⟩ := A
                    refine r_clone 3 (hw _ (List.mem_of_getElem? (i := 26) rfl)) (hw _ (List.mem_of_getElem? (i := 27) rfl)) (hw _ (List.mem_of_getElem? (i := 31) rfl)) (hw _ (List.mem_of_getElem? (i := 29) rfl)) (hw _ (List.mem_of_getElem? (i := 30) rfl)) (hw _ (List.mem_of_getElem? (i := 32) rfl)) AA EA (Dry.fit AA qA) d3_91 rfl (by decide) 1 rfl (by decide) (Nat.le_of_eq (Dry.size qA)) (by decide) (by decide) ?_
                    rintro h91 ⟨E91, A91, Y91⟩
                    obtain ⟨c91, g91⟩ : ∃ z, z = h0.size := ⟨_, rfl⟩
                    rw [← g91] at A91 Y91 ⊢
                    have D91 : Dry Z h91 c91 [k0, k1, k2] := ⟨_, A91, qA⟩
                    have n91 : c91 ≠ a1 := by rw [g91]; exact Nat.ne_of_gt (own_xlt E1)
                    show ORun _ _ _ _ _ _ _ _ _ _ h91 1 3 94 [.val (.ref a1), .val (.ref a2), .val (.ref a2), .val (.int (3 : Int32)), .val (.int ((((0 : Int32) + (1 : Int32)) + (1 : Int32)) + (1 : Int32))), .val (.double (FP.l2d k2)), .second] [(.ref c91), (.ref a1)]
                    refine r_cast (hw _ (List.mem_of_getElem? (i := 33) rfl)) (Ins.self Y91) d3_94 ?_
                    refine r_putF (host := "") (Or.inl (hw _ (List.mem_of_getElem? (i := 35) rfl))) (F1.ext E91) (E1.ext E91) (Or.inr ⟨(hw _ (List.mem_of_getElem? (i := 36) rfl)), rfl, rfl⟩) (hw _ (List.mem_of_getElem? (i := 9) rfl)) (ty := (.array .double)) (by decide) rfl rfl g1 d3_97 ?_
                    intro h97 W97
                    have G97 := Fld.same W97 (F1.ext E91)
                    exact r_ret d3_100 (by decide) (by decide) (⟨rfl, c91, (E1.ext E91).wr W97, G97, D91.other W97 n91⟩)
                  · exfalso; exact nz ((lw_eq k2 0).mp hc76)
                · exfalso; exact absurd hc30 (by decide)
              · exfalso; exact absurd hc44 (by decide)
          · exfalso; exact absurd hc44 (by decide)
      · exfalso; exact absurd hc44 (by decide)
  · exfalso; exact absurd hc6 (by decide)
set_option maxRecDepth 65536 in
set_option maxHeartbeats 40000000 in
theorem ct3_4 {l : Launch} {Z : State} {a0 : Array Value} (hw : ∀ d ∈ tables_1, d.before a0 Z = true) {n0 : Nat} {h0 : Heap} (a1 a2 : Addr) (k0 k1 k2 k3 : Int64) (E1 : Exa Z h0 a1 "com/example/tempera/tempera/problem/Polynomial") (F1 : Fld Z h0 a1 "com/example/tempera/tempera/problem/Polynomial" "coefficients" "[D" .null) (g1 : n0 ≤ a1) (A : Dry Z h0 a2 [k0, k1, k2, k3]) (EA : Exa Z h0 a2 "[D") (b0 : -4096 ≤ k0.toInt ∧ k0.toInt ≤ 4096) (b1 : -4096 ≤ k1.toInt ∧ k1.toInt ≤ 4096) (b2 : -4096 ≤ k2.toInt ∧ k2.toInt ≤ 4096) (b3 : -4096 ≤ k3.toInt ∧ k3.toInt ≤ 4096) (nz : ¬ k3 = 0) : Ct l ⟨"com/example/tempera/tempera/problem/Polynomial", "<init>", "([D)V"⟩ prog_33_method_1_code 7 none [] ({ frames := 2, cells := 1, slots := 4, locals := 30 } : Room) Z n0 #[(.ref a1), (.ref a2)] h0 (fun v h => v = none ∧ ∃ b : Addr, Exa Z h a1 "com/example/tempera/tempera/problem/Polynomial" ∧ Fld Z h a1 "com/example/tempera/tempera/problem/Polynomial" "coefficients" "[D" (.ref b) ∧ Dry Z h b [k0, k1, k2, k3]) := by
  refine Ct.of (ls := [.val (.ref a1), .val (.ref a2), .unset, .unset, .unset, .unset, .unset]) pn3 (fun m => by first | (simp [entryFrame, mkF, argsToLocals, Value.category]; done) | rfl) ?_
  refine r_aloadN d3_0 rfl rfl ?_
  refine r_initO (hw _ (List.mem_of_getElem? (i := 14) rfl)) (hw _ (List.mem_of_getElem? (i := 15) rfl)) (hw _ (List.mem_of_getElem? (i := 16) rfl)) d3_1 rfl (by decide) 0 rfl (by decide) ?_
  refine r_aloadN d3_4 rfl rfl ?_
  refine r_lenD (4 : Int32) A rfl d3_5 ?_
  refine r_if_ne d3_6 (fun hc6 => ?_) (fun hc6 => ?_)
  · refine r_aloadN d3_19 rfl rfl ?_
    refine r_astoreN d3_20 rfl [.val (.ref a1), .val (.ref a2), .val (.ref a2), .unset, .unset, .unset, .unset] rfl ?_
    refine r_aloadN d3_21 rfl rfl ?_
    refine r_lenD (4 : Int32) A rfl d3_22 ?_
    refine r_istoreN d3_23 [.val (.ref a1), .val (.ref a2), .val (.ref a2), .val (.int (4 : Int32)), .unset, .unset, .unset] rfl ?_
    refine r_iconst (0 : Int32) rfl d3_24 ?_
    refine r_istore d3_25 [.val (.ref a1), .val (.ref a2), .val (.ref a2), .val (.int (4 : Int32)), .val (.int (0 : Int32)), .unset, .unset] rfl ?_
    refine r_iload d3_27 rfl ?_
    refine r_iloadN d3_29 rfl ?_
    refine r_icmp_ge d3_30 (fun hc30 => ?_) (fun hc30 => ?_)
    · exfalso; exact hc30 (by decide)
    · refine r_aloadN d3_33 rfl rfl ?_
      refine r_iload d3_34 rfl ?_
      refine r_ldD k0 A (by decide) rfl d3_36 ?_
      refine r_dstore [.val (.ref a1), .val (.ref a2), .val (.ref a2), .val (.int (4 : Int32)), .val (.int (0 : Int32)), .val (.double (FP.l2d k0)), .second] rfl d3_37 ?_
      refine r_dload rfl d3_39 ?_
      refine r_staticP [(.double (FP.l2d k0))] [] rfl pd3_0 rfl (hw _ (List.mem_of_getElem? (i := 17) rfl)) (hw _ (List.mem_of_getElem? (i := 18) rfl)) (hw _ (List.mem_of_getElem? (i := 19) rfl)) (hw _ (List.mem_of_getElem? (i := 20) rfl)) (by decide) (w := (.int (1 : Int32))) (R' := ({ frames := 1, cells := 0, slots := 0, locals := 13 } : Room)) (ct5 hw k0) d3_41 rfl (by decide) 0 rfl (by decide) rfl rfl (by decide) (by decide) ?_
      refine r_if_ne d3_44 (fun hc44 => ?_) (fun hc44 => ?_)
      · refine r_iinc (w := ((0 : Int32) + (1 : Int32))) d3_62 rfl rfl [.val (.ref a1), .val (.ref a2), .val (.ref a2), .val (.int (4 : Int32)), .val (.int ((0 : Int32) + (1 : Int32))), .val (.double (FP.l2d k0)), .second] rfl ?_
        refine r_goto d3_65 ?_
        refine r_iload d3_27 rfl ?_
        refine r_iloadN d3_29 rfl ?_
        refine r_icmp_ge d3_30 (fun hc30 => ?_) (fun hc30 => ?_)
        · exfalso; exact hc30 (by decide)
        · refine r_aloadN d3_33 rfl rfl ?_
          refine r_iload d3_34 rfl ?_
          refine r_ldD k1 A (by decide) rfl d3_36 ?_
          refine r_dstore [.val (.ref a1), .val (.ref a2), .val (.ref a2), .val (.int (4 : Int32)), .val (.int ((0 : Int32) + (1 : Int32))), .val (.double (FP.l2d k1)), .second] rfl d3_37 ?_
          refine r_dload rfl d3_39 ?_
          refine r_staticP [(.double (FP.l2d k1))] [] rfl pd3_0 rfl (hw _ (List.mem_of_getElem? (i := 17) rfl)) (hw _ (List.mem_of_getElem? (i := 18) rfl)) (hw _ (List.mem_of_getElem? (i := 19) rfl)) (hw _ (List.mem_of_getElem? (i := 20) rfl)) (by decide) (w := (.int (1 : Int32))) (R' := ({ frames := 1, cells := 0, slots := 0, locals := 13 } : Room)) (ct5 hw k1) d3_41 rfl (by decide) 0 rfl (by decide) rfl rfl (by decide) (by decide) ?_
          refine r_if_ne d3_44 (fun hc44 => ?_) (fun hc44 => ?_)
          · refine r_iinc (w := (((0 : Int32) + (1 : Int32)) + (1 : Int32))) d3_62 rfl rfl [.val (.ref a1), .val (.ref a2), .val (.ref a2), .val (.int (4 : Int32)), .val (.int (((0 : Int32) + (1 : Int32)) + (1 : Int32))), .val (.double (FP.l2d k1)), .second] rfl ?_
            refine r_goto d3_65 ?_
            refine r_iload d3_27 rfl ?_
            refine r_iloadN d3_29 rfl ?_
            refine r_icmp_ge d3_30 (fun hc30 => ?_) (fun hc30 => ?_)
            · exfalso; exact hc30 (by decide)
            · refine r_aloadN d3_33 rfl rfl ?_
              refine r_iload d3_34 rfl ?_
              refine r_ldD k2 A (by decide) rfl d3_36 ?_
              refine r_dstore [.val (.ref a1), .val (.ref a2), .val (.ref a2), .val (.int (4 : Int32)), .val (.int (((0 : Int32) + (1 : Int32)) + (1 : Int32))), .val (.double (FP.l2d k2)), .second] rfl d3_37 ?_
              refine r_dload rfl d3_39 ?_
              refine r_staticP [(.double (FP.l2d k2))] [] rfl pd3_0 rfl (hw _ (List.mem_of_getElem? (i := 17) rfl)) (hw _ (List.mem_of_getElem? (i := 18) rfl)) (hw _ (List.mem_of_getElem? (i := 19) rfl)) (hw _ (List.mem_of_getElem? (i := 20) rfl)) (by decide) (w := (.int (1 : Int32))) (R' := ({ frames := 1, cells := 0, slots := 0, locals := 13 } : Room)) (ct5 hw k2) d3_41 rfl (by decide) 0 rfl (by decide) rfl rfl (by decide) (by decide) ?_
              refine r_if_ne d3_44 (fun hc44 => ?_) (fun hc44 => ?_)
              · refine r_iinc (w := ((((0 : Int32) + (1 : Int32)) + (1 : Int32)) + (1 : Int32))) d3_62 rfl rfl [.val (.ref a1), .val (.ref a2), .val (.ref a2), .val (.int (4 : Int32)), .val (.int ((((0 : Int32) + (1 : Int32)) + (1 : Int32)) + (1 : Int32))), .val (.double (FP.l2d k2)), .second] rfl ?_
                refine r_goto d3_65 ?_
                refine r_iload d3_27 rfl ?_
                refine r_iloadN d3_29 rfl ?_
                refine r_icmp_ge d3_30 (fun hc30 => ?_) (fun hc30 => ?_)
                · exfalso; exact hc30 (by decide)
                · refine r_aloadN d3_33 rfl rfl ?_
                  refine r_iload d3_34 rfl ?_
                  refine r_ldD k3 A (by decide) rfl d3_36 ?_
                  refine r_dstore [.val (.ref a1), .val (.ref a2), .val (.ref a2), .val (.int (4 : Int32)), .val (.int ((((0 : Int32) + (1 : Int32)) + (1 : Int32)) + (1 : Int32))), .val (.double (FP.l2d k3)), .second] rfl d3_37 ?_
                  refine r_dload rfl d3_39 ?_
                  refine r_staticP [(.double (FP.l2d k3))] [] rfl pd3_0 rfl (hw _ (List.mem_of_getElem? (i := 17) rfl)) (hw _ (List.mem_of_getElem? (i := 18) rfl)) (hw _ (List.mem_of_getElem? (i := 19) rfl)) (hw _ (List.mem_of_getElem? (i := 20) rfl)) (by decide) (w := (.int (1 : Int32))) (R' := ({ frames := 1, cells := 0, slots := 0, locals := 13 } : Room)) (ct5 hw k3) d3_41 rfl (by decide) 0 rfl (by decide) rfl rfl (by decide) (by decide) ?_
                  refine r_if_ne d3_44 (fun hc44 => ?_) (fun hc44 => ?_)
                  · refine r_iinc (w := (((((0 : Int32) + (1 : Int32)) + (1 : Int32)) + (1 : Int32)) + (1 : Int32))) d3_62 rfl rfl [.val (.ref a1), .val (.ref a2), .val (.ref a2), .val (.int (4 : Int32)), .val (.int (((((0 : Int32) + (1 : Int32)) + (1 : Int32)) + (1 : Int32)) + (1 : Int32))), .val (.double (FP.l2d k3)), .second] rfl ?_
                    refine r_goto d3_65 ?_
                    refine r_iload d3_27 rfl ?_
                    refine r_iloadN d3_29 rfl ?_
                    refine r_icmp_ge d3_30 (fun hc30 => ?_) (fun hc30 => ?_)
                    · refine r_aloadN d3_68 rfl rfl ?_
                      refine r_aloadN d3_69 rfl rfl ?_
                      refine r_lenD (4 : Int32) A rfl d3_70 ?_
                      refine r_iconst (1 : Int32) rfl d3_71 ?_
                      refine r_isub d3_72 ?_
                      refine r_ldD k3 A (by decide) rfl d3_73 ?_
                      refine r_dconst0 (FP.l2d 0) (by decide +kernel) d3_74 ?_
                      refine r_dcmp (lcmpW k3 0) (dcmpV_w (own_b b3) ⟨by decide, by decide⟩ _) d3_75 ?_
                      refine r_if_ne d3_76 (fun hc76 => ?_) (fun hc76 => ?_)
                      · refine r_aloadN d3_89 rfl rfl ?_
                        refine r_aloadN d3_90 rfl rfl ?_
                        obtain ⟨cl, AA, qA⟩ := A
                        refine r_clone 4 (hw _ (List.mem_of_getElem? (i := 26) rfl)) (hw _ (List.mem_of_getElem? (i := 27) rfl)) (hw _ (List.mem_of_getElem? (i := 31) rfl)) (hw _ (List.mem_of_getElem? (i := 29) rfl)) (hw _ (List.mem_of_getElem? (i := 30) rfl)) (hw _ (List.mem_of_getElem? (i := 32) rfl)) AA EA (Dry.fit AA qA) d3_91 rfl (by decide) 1 rfl (by decide) (Nat.le_of_eq (Dry.size qA)) (by decide) (by decide) ?_
                        rintro h91 ⟨E91, A91, Y91⟩
                        obtain ⟨c91, g91⟩ : ∃ z, z = h0.size := ⟨_, rfl⟩
                        rw [← g91] at A91 Y91 ⊢
                        have D91 : Dry Z h91 c91 [k0, k1, k2, k3] := ⟨_, A91, qA⟩
                        have n91 : c91 ≠ a1 := by rw [g91]; exact Nat.ne_of_gt (own_xlt E1)
                        show ORun _ _ _ _ _ _ _ _ _ _ h91 1 4 94 [.val (.ref a1), .val (.ref a2), .val (.ref a2), .val (.int (4 : Int32)), .val (.int (((((0 : Int32) + (1 : Int32)) + (1 : Int32)) + (1 : Int32)) + (1 : Int32))), .val (.double (FP.l2d k3)), .second] [(.ref c91), (.ref a1)]
                        refine r_cast (hw _ (List.mem_of_getElem? (i := 33) rfl)) (Ins.self Y91) d3_94 ?_
                        refine r_putF (host := "") (Or.inl (hw _ (List.mem_of_getElem? (i := 35) rfl))) (F1.ext E91) (E1.ext E91) (Or.inr ⟨(hw _ (List.mem_of_getElem? (i := 36) rfl)), rfl, rfl⟩) (hw _ (List.mem_of_getElem? (i := 9) rfl)) (ty := (.array .double)) (by decide) rfl rfl g1 d3_97 ?_
                        intro h97 W97
                        have G97 := Fld.same W97 (F1.ext E91)
                        exact r_ret d3_100 (by decide) (by decide) (⟨rfl, c91, (E1.ext E91).wr W97, G97, D91.other W97 n91⟩)
                      · exfalso; exact nz ((lw_eq k3 0).mp hc76)
                    · exfalso; exact absurd hc30 (by decide)
                  · exfalso; exact absurd hc44 (by decide)
              · exfalso; exact absurd hc44 (by decide)
          · exfalso; exact absurd hc44 (by decide)
      · exfalso; exact absurd hc44 (by decide)
  · exfalso; exact absurd hc6 (by decide)
theorem d7_0 : D prog_33_method_2_code 0 (.aload_n 0) 1 1 := ⟨by decide +kernel, rfl⟩
theorem d7_1 : D prog_33_method_2_code 1 (.getfield 32) 3 4 := ⟨by decide +kernel, rfl⟩
theorem d7_4 : D prog_33_method_2_code 4 (.arraylength) 1 5 := ⟨by decide +kernel, rfl⟩
theorem d7_5 : D prog_33_method_2_code 5 (.iconst 1) 1 6 := ⟨by decide +kernel, rfl⟩
theorem d7_6 : D prog_33_method_2_code 6 (.isub) 1 7 := ⟨by decide +kernel, rfl⟩
theorem d7_7 : D prog_33_method_2_code 7 (.istore_n 3) 1 8 := ⟨by decide +kernel, rfl⟩
theorem d7_8 : D prog_33_method_2_code 8 (.aload_n 0) 1 9 := ⟨by decide +kernel, rfl⟩
theorem d7_9 : D prog_33_method_2_code 9 (.getfield 32) 3 12 := ⟨by decide +kernel, rfl⟩
theorem d7_12 : D prog_33_method_2_code 12 (.iload_n 3) 1 13 := ⟨by decide +kernel, rfl⟩
theorem d7_13 : D prog_33_method_2_code 13 (.daload) 1 14 := ⟨by decide +kernel, rfl⟩
theorem d7_14 : D prog_33_method_2_code 14 (.dstore 4) 2 16 := ⟨by decide +kernel, rfl⟩
theorem d7_16 : D prog_33_method_2_code 16 (.iload_n 3) 1 17 := ⟨by decide +kernel, rfl⟩
theorem d7_17 : D prog_33_method_2_code 17 (.iconst 1) 1 18 := ⟨by decide +kernel, rfl⟩
theorem d7_18 : D prog_33_method_2_code 18 (.isub) 1 19 := ⟨by decide +kernel, rfl⟩
theorem d7_19 : D prog_33_method_2_code 19 (.istore 6) 2 21 := ⟨by decide +kernel, rfl⟩
theorem d7_21 : D prog_33_method_2_code 21 (.iload 6) 2 23 := ⟨by decide +kernel, rfl⟩
theorem d7_23 : DB prog_33_method_2_code 23 (.ifCond .lt) 23 26 46 := ⟨by decide +kernel, rfl, by decide, by decide⟩
theorem d7_46 : D prog_33_method_2_code 46 (.dload 4) 2 48 := ⟨by decide +kernel, rfl⟩
theorem d7_48 : D prog_33_method_2_code 48 (.dreturn) 1 49 := ⟨by decide +kernel, rfl⟩
theorem pn7 : plainFor (⟨"com/example/tempera/tempera/problem/Polynomial", "valueAt", "(D)D"⟩ : MethodName) = true := by first | exact plainFor_of_name (by first | (simp [plainName, overriddenIn]; done) | decide +kernel) | exact Jvm.Free.JP.mathPlain rfl (by decide +kernel) | decide +kernel
set_option maxRecDepth 65536 in
set_option maxHeartbeats 40000000 in
theorem ct7_1 {l : Launch} {Z : State} {a0 : Array Value} (hw : ∀ d ∈ tables_1, d.before a0 Z = true) {n0 : Nat} {h0 : Heap} (a1 a2 : Addr) (x : Int64) (k0 : Int64) (F1 : Fld Z h0 a1 "com/example/tempera/tempera/problem/Polynomial" "coefficients" "[D" (.ref a2)) (A : Dry Z h0 a2 [k0]) (bx : -4096 ≤ x.toInt ∧ x.toInt ≤ 4096) (b0 : -4096 ≤ k0.toInt ∧ k0.toInt ≤ 4096) : Ct l ⟨"com/example/tempera/tempera/problem/Polynomial", "valueAt", "(D)D"⟩ prog_33_method_2_code 7 (some .double) [] ({ frames := 0, cells := 0, slots := 0, locals := 0 } : Room) Z n0 #[(.ref a1), (.double (FP.l2d x))] h0 (fun v h => v = some (.double (FP.l2d k0)) ∧ h = h0) := by
  refine Ct.of (ls := [.val (.ref a1), .val (.double (FP.l2d x)), .second, .unset, .unset, .unset, .unset]) pn7 (fun m => by first | (simp [entryFrame, mkF, argsToLocals, Value.category]; done) | rfl) ?_
  refine r_aloadN d7_0 rfl rfl ?_
  refine r_getF (host := "") (Or.inl (hw _ (List.mem_of_getElem? (i := 35) rfl))) (v := (.ref a2)) (F1) d7_1 ?_
  refine r_lenD (1 : Int32) A rfl d7_4 ?_
  refine r_iconst (1 : Int32) rfl d7_5 ?_
  refine r_isub d7_6 ?_
  rw [show ((1 : Int32) - (1 : Int32)) = (0 : Int32) by decide]
  refine r_istoreN d7_7 [.val (.ref a1), .val (.double (FP.l2d x)), .second, .val (.int (0 : Int32)), .unset, .unset, .unset] rfl ?_
  refine r_aloadN d7_8 rfl rfl ?_
  refine r_getF (host := "") (Or.inl (hw _ (List.mem_of_getElem? (i := 35) rfl))) (v := (.ref a2)) (F1) d7_9 ?_
  refine r_iloadN d7_12 rfl ?_
  refine r_ldD k0 A (by decide) rfl d7_13 ?_
  refine r_dstore [.val (.ref a1), .val (.double (FP.l2d x)), .second, .val (.int (0 : Int32)), .val (.double (FP.l2d k0)), .second, .unset] rfl d7_14 ?_
  refine r_iloadN d7_16 rfl ?_
  refine r_iconst (1 : Int32) rfl d7_17 ?_
  refine r_isub d7_18 ?_
  rw [show ((0 : Int32) - (1 : Int32)) = (-1 : Int32) by decide]
  refine r_istore d7_19 [.val (.ref a1), .val (.double (FP.l2d x)), .second, .val (.int (0 : Int32)), .val (.double (FP.l2d k0)), .second, .val (.int (-1 : Int32))] rfl ?_
  refine r_iload d7_21 rfl ?_
  refine r_if_lt d7_23 (fun hc23 => ?_) (fun hc23 => ?_)
  · refine r_dload rfl d7_46 ?_
    refine r_dret d7_48 (by decide) (by decide) ?_
    exact ⟨rfl, rfl⟩
  · exfalso; exact hc23 (by decide)
theorem d7_26 : D prog_33_method_2_code 26 (.dload 4) 2 28 := ⟨by decide +kernel, rfl⟩
theorem d7_28 : D prog_33_method_2_code 28 (.dload_n 1) 1 29 := ⟨by decide +kernel, rfl⟩
theorem d7_29 : D prog_33_method_2_code 29 (.dmul) 1 30 := ⟨by decide +kernel, rfl⟩
theorem d7_30 : D prog_33_method_2_code 30 (.aload_n 0) 1 31 := ⟨by decide +kernel, rfl⟩
theorem d7_31 : D prog_33_method_2_code 31 (.getfield 32) 3 34 := ⟨by decide +kernel, rfl⟩
theorem d7_34 : D prog_33_method_2_code 34 (.iload 6) 2 36 := ⟨by decide +kernel, rfl⟩
theorem d7_36 : D prog_33_method_2_code 36 (.daload) 1 37 := ⟨by decide +kernel, rfl⟩
theorem d7_37 : D prog_33_method_2_code 37 (.dadd) 1 38 := ⟨by decide +kernel, rfl⟩
theorem d7_38 : D prog_33_method_2_code 38 (.dstore 4) 2 40 := ⟨by decide +kernel, rfl⟩
theorem d7_40 : D prog_33_method_2_code 40 (.iinc 6 (-1)) 3 43 := ⟨by decide +kernel, rfl⟩
theorem d7_43 : DB prog_33_method_2_code 43 (.goto) (-22) 46 21 := ⟨by decide +kernel, rfl, by decide, by decide⟩
set_option maxRecDepth 65536 in
set_option maxHeartbeats 40000000 in
theorem ct7_2 {l : Launch} {Z : State} {a0 : Array Value} (hw : ∀ d ∈ tables_1, d.before a0 Z = true) {n0 : Nat} {h0 : Heap} (a1 a2 : Addr) (x : Int64) (k0 k1 : Int64) (F1 : Fld Z h0 a1 "com/example/tempera/tempera/problem/Polynomial" "coefficients" "[D" (.ref a2)) (A : Dry Z h0 a2 [k0, k1]) (bx : -4096 ≤ x.toInt ∧ x.toInt ≤ 4096) (b0 : -4096 ≤ k0.toInt ∧ k0.toInt ≤ 4096) (b1 : -4096 ≤ k1.toInt ∧ k1.toInt ≤ 4096) : Ct l ⟨"com/example/tempera/tempera/problem/Polynomial", "valueAt", "(D)D"⟩ prog_33_method_2_code 7 (some .double) [] ({ frames := 0, cells := 0, slots := 0, locals := 0 } : Room) Z n0 #[(.ref a1), (.double (FP.l2d x))] h0 (fun v h => v = some (.double (FP.l2d (k1 * x + k0))) ∧ h = h0) := by
  refine Ct.of (ls := [.val (.ref a1), .val (.double (FP.l2d x)), .second, .unset, .unset, .unset, .unset]) pn7 (fun m => by first | (simp [entryFrame, mkF, argsToLocals, Value.category]; done) | rfl) ?_
  refine r_aloadN d7_0 rfl rfl ?_
  refine r_getF (host := "") (Or.inl (hw _ (List.mem_of_getElem? (i := 35) rfl))) (v := (.ref a2)) (F1) d7_1 ?_
  refine r_lenD (2 : Int32) A rfl d7_4 ?_
  refine r_iconst (1 : Int32) rfl d7_5 ?_
  refine r_isub d7_6 ?_
  rw [show ((2 : Int32) - (1 : Int32)) = (1 : Int32) by decide]
  refine r_istoreN d7_7 [.val (.ref a1), .val (.double (FP.l2d x)), .second, .val (.int (1 : Int32)), .unset, .unset, .unset] rfl ?_
  refine r_aloadN d7_8 rfl rfl ?_
  refine r_getF (host := "") (Or.inl (hw _ (List.mem_of_getElem? (i := 35) rfl))) (v := (.ref a2)) (F1) d7_9 ?_
  refine r_iloadN d7_12 rfl ?_
  refine r_ldD k1 A (by decide) rfl d7_13 ?_
  refine r_dstore [.val (.ref a1), .val (.double (FP.l2d x)), .second, .val (.int (1 : Int32)), .val (.double (FP.l2d k1)), .second, .unset] rfl d7_14 ?_
  refine r_iloadN d7_16 rfl ?_
  refine r_iconst (1 : Int32) rfl d7_17 ?_
  refine r_isub d7_18 ?_
  rw [show ((1 : Int32) - (1 : Int32)) = (0 : Int32) by decide]
  refine r_istore d7_19 [.val (.ref a1), .val (.double (FP.l2d x)), .second, .val (.int (1 : Int32)), .val (.double (FP.l2d k1)), .second, .val (.int (0 : Int32))] rfl ?_
  refine r_iload d7_21 rfl ?_
  refine r_if_lt d7_23 (fun hc23 => ?_) (fun hc23 => ?_)
  · exfalso; exact absurd hc23 (by decide)
  · refine r_dload rfl d7_26 ?_
    refine r_dloadN rfl d7_28 ?_
    refine r_dmul (own_mulN _ _) d7_29 ?_
    refine r_aloadN d7_30 rfl rfl ?_
    refine r_getF (host := "") (Or.inl (hw _ (List.mem_of_getElem? (i := 35) rfl))) (v := (.ref a2)) (F1) d7_31 ?_
    refine r_iload d7_34 rfl ?_
    refine r_ldD k0 A (by decide) rfl d7_36 ?_
    have H0 := own_H (A := k1) (x := x) (c := k0) (M := 4096) b1 bx b0 (by decide)
    refine r_dadd (FP.l2d (k1 * x + k0)) H0.1 (nn_w rfl) d7_37 ?_
    refine r_dstore [.val (.ref a1), .val (.double (FP.l2d x)), .second, .val (.int (1 : Int32)), .val (.double (FP.l2d (k1 * x + k0))), .second, .val (.int (0 : Int32))] rfl d7_38 ?_
    refine r_iinc (w := (-1 : Int32)) d7_40 rfl (by decide) [.val (.ref a1), .val (.double (FP.l2d x)), .second, .val (.int (1 : Int32)), .val (.double (FP.l2d (k1 * x + k0))), .second, .val (.int (-1 : Int32))] rfl ?_
    refine r_goto d7_43 ?_
    refine r_iload d7_21 rfl ?_
    refine r_if_lt d7_23 (fun hc23 => ?_) (fun hc23 => ?_)
    · refine r_dload rfl d7_46 ?_
      refine r_dret d7_48 (by decide) (by decide) ?_
      exact ⟨rfl, rfl⟩
    · exfalso; exact hc23 (by decide)
set_option maxRecDepth 65536 in
set_option maxHeartbeats 40000000 in
theorem ct7_3 {l : Launch} {Z : State} {a0 : Array Value} (hw : ∀ d ∈ tables_1, d.before a0 Z = true) {n0 : Nat} {h0 : Heap} (a1 a2 : Addr) (x : Int64) (k0 k1 k2 : Int64) (F1 : Fld Z h0 a1 "com/example/tempera/tempera/problem/Polynomial" "coefficients" "[D" (.ref a2)) (A : Dry Z h0 a2 [k0, k1, k2]) (bx : -4096 ≤ x.toInt ∧ x.toInt ≤ 4096) (b0 : -4096 ≤ k0.toInt ∧ k0.toInt ≤ 4096) (b1 : -4096 ≤ k1.toInt ∧ k1.toInt ≤ 4096) (b2 : -4096 ≤ k2.toInt ∧ k2.toInt ≤ 4096) : Ct l ⟨"com/example/tempera/tempera/problem/Polynomial", "valueAt", "(D)D"⟩ prog_33_method_2_code 7 (some .double) [] ({ frames := 0, cells := 0, slots := 0, locals := 0 } : Room) Z n0 #[(.ref a1), (.double (FP.l2d x))] h0 (fun v h => v = some (.double (FP.l2d ((k2 * x + k1) * x + k0))) ∧ h = h0) := by
  refine Ct.of (ls := [.val (.ref a1), .val (.double (FP.l2d x)), .second, .unset, .unset, .unset, .unset]) pn7 (fun m => by first | (simp [entryFrame, mkF, argsToLocals, Value.category]; done) | rfl) ?_
  refine r_aloadN d7_0 rfl rfl ?_
  refine r_getF (host := "") (Or.inl (hw _ (List.mem_of_getElem? (i := 35) rfl))) (v := (.ref a2)) (F1) d7_1 ?_
  refine r_lenD (3 : Int32) A rfl d7_4 ?_
  refine r_iconst (1 : Int32) rfl d7_5 ?_
  refine r_isub d7_6 ?_
  rw [show ((3 : Int32) - (1 : Int32)) = (2 : Int32) by decide]
  refine r_istoreN d7_7 [.val (.ref a1), .val (.double (FP.l2d x)), .second, .val (.int (2 : Int32)), .unset, .unset, .unset] rfl ?_
  refine r_aloadN d7_8 rfl rfl ?_
  refine r_getF (host := "") (Or.inl (hw _ (List.mem_of_getElem? (i := 35) rfl))) (v := (.ref a2)) (F1) d7_9 ?_
  refine r_iloadN d7_12 rfl ?_
  refine r_ldD k2 A (by decide) rfl d7_13 ?_
  refine r_dstore [.val (.ref a1), .val (.double (FP.l2d x)), .second, .val (.int (2 : Int32)), .val (.double (FP.l2d k2)), .second, .unset] rfl d7_14 ?_
  refine r_iloadN d7_16 rfl ?_
  refine r_iconst (1 : Int32) rfl d7_17 ?_
  refine r_isub d7_18 ?_
  rw [show ((2 : Int32) - (1 : Int32)) = (1 : Int32) by decide]
  refine r_istore d7_19 [.val (.ref a1), .val (.double (FP.l2d x)), .second, .val (.int (2 : Int32)), .val (.double (FP.l2d k2)), .second, .val (.int (1 : Int32))] rfl ?_
  refine r_iload d7_21 rfl ?_
  refine r_if_lt d7_23 (fun hc23 => ?_) (fun hc23 => ?_)
  · exfalso; exact absurd hc23 (by decide)
  · refine r_dload rfl d7_26 ?_
    refine r_dloadN rfl d7_28 ?_
    refine r_dmul (own_mulN _ _) d7_29 ?_
    refine r_aloadN d7_30 rfl rfl ?_
    refine r_getF (host := "") (Or.inl (hw _ (List.mem_of_getElem? (i := 35) rfl))) (v := (.ref a2)) (F1) d7_31 ?_
    refine r_iload d7_34 rfl ?_
    refine r_ldD k1 A (by decide) rfl d7_36 ?_
    have H1 := own_H (A := k2) (x := x) (c := k1) (M := 4096) b2 bx b1 (by decide)
    refine r_dadd (FP.l2d (k2 * x + k1)) H1.1 (nn_w rfl) d7_37 ?_
    refine r_dstore [.val (.ref a1), .val (.double (FP.l2d x)), .second, .val (.int (2 : Int32)), .val (.double (FP.l2d (k2 * x + k1))), .second, .val (.int (1 : Int32))] rfl d7_38 ?_
    refine r_iinc (w := (0 : Int32)) d7_40 rfl (by decide) [.val (.ref a1), .val (.double (FP.l2d x)), .second, .val (.int (2 : Int32)), .val (.double (FP.l2d (k2 * x + k1))), .second, .val (.int (0 : Int32))] rfl ?_
    refine r_goto d7_43 ?_
    refine r_iload d7_21 rfl ?_
    refine r_if_lt d7_23 (fun hc23 => ?_) (fun hc23 => ?_)
    · exfalso; exact absurd hc23 (by decide)
    · refine r_dload rfl d7_26 ?_
      refine r_dloadN rfl d7_28 ?_
      refine r_dmul (own_mulN _ _) d7_29 ?_
      refine r_aloadN d7_30 rfl rfl ?_
      refine r_getF (host := "") (Or.inl (hw _ (List.mem_of_getElem? (i := 35) rfl))) (v := (.ref a2)) (F1) d7_31 ?_
      refine r_iload d7_34 rfl ?_
      refine r_ldD k0 A (by decide) rfl d7_36 ?_
      have H0 := own_H (A := (k2 * x + k1)) (x := x) (c := k0) (M := 16781312) H1.2 bx b0 (by decide)
      refine r_dadd (FP.l2d ((k2 * x + k1) * x + k0)) H0.1 (nn_w rfl) d7_37 ?_
      refine r_dstore [.val (.ref a1), .val (.double (FP.l2d x)), .second, .val (.int (2 : Int32)), .val (.double (FP.l2d ((k2 * x + k1) * x + k0))), .second, .val (.int (0 : Int32))] rfl d7_38 ?_
      refine r_iinc (w := (-1 : Int32)) d7_40 rfl (by decide) [.val (.ref a1), .val (.double (FP.l2d x)), .second, .val (.int (2 : Int32)), .val (.double (FP.l2d ((k2 * x + k1) * x + k0))), .second, .val (.int (-1 : Int32))] rfl ?_
      refine r_goto d7_43 ?_
      refine r_iload d7_21 rfl ?_
      refine r_if_lt d7_23 (fun hc23 => ?_) (fun hc23 => ?_)
      · refine r_dload rfl d7_46 ?_
        refine r_dret d7_48 (by decide) (by decide) ?_
        exact ⟨rfl, rfl⟩
      · exfalso; exact hc23 (by decide)
set_option maxRecDepth 65536 in
set_option maxHeartbeats 40000000 in
theorem ct7_4 {l : Launch} {Z : State} {a0 : Array Value} (hw : ∀ d ∈ tables_1, d.before a0 Z = true) {n0 : Nat} {h0 : Heap} (a1 a2 : Addr) (x : Int64) (k0 k1 k2 k3 : Int64) (F1 : Fld Z h0 a1 "com/example/tempera/tempera/problem/Polynomial" "coefficients" "[D" (.ref a2)) (A : Dry Z h0 a2 [k0, k1, k2, k3]) (bx : -4096 ≤ x.toInt ∧ x.toInt ≤ 4096) (b0 : -4096 ≤ k0.toInt ∧ k0.toInt ≤ 4096) (b1 : -4096 ≤ k1.toInt ∧ k1.toInt ≤ 4096) (b2 : -4096 ≤ k2.toInt ∧ k2.toInt ≤ 4096) (b3 : -4096 ≤ k3.toInt ∧ k3.toInt ≤ 4096) : Ct l ⟨"com/example/tempera/tempera/problem/Polynomial", "valueAt", "(D)D"⟩ prog_33_method_2_code 7 (some .double) [] ({ frames := 0, cells := 0, slots := 0, locals := 0 } : Room) Z n0 #[(.ref a1), (.double (FP.l2d x))] h0 (fun v h => v = some (.double (FP.l2d (((k3 * x + k2) * x + k1) * x + k0))) ∧ h = h0) := by
  refine Ct.of (ls := [.val (.ref a1), .val (.double (FP.l2d x)), .second, .unset, .unset, .unset, .unset]) pn7 (fun m => by first | (simp [entryFrame, mkF, argsToLocals, Value.category]; done) | rfl) ?_
  refine r_aloadN d7_0 rfl rfl ?_
  refine r_getF (host := "") (Or.inl (hw _ (List.mem_of_getElem? (i := 35) rfl))) (v := (.ref a2)) (F1) d7_1 ?_
  refine r_lenD (4 : Int32) A rfl d7_4 ?_
  refine r_iconst (1 : Int32) rfl d7_5 ?_
  refine r_isub d7_6 ?_
  rw [show ((4 : Int32) - (1 : Int32)) = (3 : Int32) by decide]
  refine r_istoreN d7_7 [.val (.ref a1), .val (.double (FP.l2d x)), .second, .val (.int (3 : Int32)), .unset, .unset, .unset] rfl ?_
  refine r_aloadN d7_8 rfl rfl ?_
  refine r_getF (host := "") (Or.inl (hw _ (List.mem_of_getElem? (i := 35) rfl))) (v := (.ref a2)) (F1) d7_9 ?_
  refine r_iloadN d7_12 rfl ?_
  refine r_ldD k3 A (by decide) rfl d7_13 ?_
  refine r_dstore [.val (.ref a1), .val (.double (FP.l2d x)), .second, .val (.int (3 : Int32)), .val (.double (FP.l2d k3)), .second, .unset] rfl d7_14 ?_
  refine r_iloadN d7_16 rfl ?_
  refine r_iconst (1 : Int32) rfl d7_17 ?_
  refine r_isub d7_18 ?_
  rw [show ((3 : Int32) - (1 : Int32)) = (2 : Int32) by decide]
  refine r_istore d7_19 [.val (.ref a1), .val (.double (FP.l2d x)), .second, .val (.int (3 : Int32)), .val (.double (FP.l2d k3)), .second, .val (.int (2 : Int32))] rfl ?_
  refine r_iload d7_21 rfl ?_
  refine r_if_lt d7_23 (fun hc23 => ?_) (fun hc23 => ?_)
  · exfalso; exact absurd hc23 (by decide)
  · refine r_dload rfl d7_26 ?_
    refine r_dloadN rfl d7_28 ?_
    refine r_dmul (own_mulN _ _) d7_29 ?_
    refine r_aloadN d7_30 rfl rfl ?_
    refine r_getF (host := "") (Or.inl (hw _ (List.mem_of_getElem? (i := 35) rfl))) (v := (.ref a2)) (F1) d7_31 ?_
    refine r_iload d7_34 rfl ?_
    refine r_ldD k2 A (by decide) rfl d7_36 ?_
    have H2 := own_H (A := k3) (x := x) (c := k2) (M := 4096) b3 bx b2 (by decide)
    refine r_dadd (FP.l2d (k3 * x + k2)) H2.1 (nn_w rfl) d7_37 ?_
    refine r_dstore [.val (.ref a1), .val (.double (FP.l2d x)), .second, .val (.int (3 : Int32)), .val (.double (FP.l2d (k3 * x + k2))), .second, .val (.int (2 : Int32))] rfl d7_38 ?_
    refine r_iinc (w := (1 : Int32)) d7_40 rfl (by decide) [.val (.ref a1), .val (.double (FP.l2d x)), .second, .val (.int (3 : Int32)), .val (.double (FP.l2d (k3 * x + k2))), .second, .val (.int (1 : Int32))] rfl ?_
    refine r_goto d7_43 ?_
    refine r_iload d7_21 rfl ?_
    refine r_if_lt d7_23 (fun hc23 => ?_) (fun hc23 => ?_)
    · exfalso; exact absurd hc23 (by decide)
    · refine r_dload rfl d7_26 ?_
      refine r_dloadN rfl d7_28 ?_
      refine r_dmul (own_mulN _ _) d7_29 ?_
      refine r_aloadN d7_30 rfl rfl ?_
      refine r_getF (host := "") (Or.inl (hw _ (List.mem_of_getElem? (i := 35) rfl))) (v := (.ref a2)) (F1) d7_31 ?_
      refine r_iload d7_34 rfl ?_
      refine r_ldD k1 A (by decide) rfl d7_36 ?_
      have H1 := own_H (A := (k3 * x + k2)) (x := x) (c := k1) (M := 16781312) H2.2 bx b1 (by decide)
      refine r_dadd (FP.l2d ((k3 * x + k2) * x + k1)) H1.1 (nn_w rfl) d7_37 ?_
      refine r_dstore [.val (.ref a1), .val (.double (FP.l2d x)), .second, .val (.int (3 : Int32)), .val (.double (FP.l2d ((k3 * x + k2) * x + k1))), .second, .val (.int (1 : Int32))] rfl d7_38 ?_
      refine r_iinc (w := (0 : Int32)) d7_40 rfl (by decide) [.val (.ref a1), .val (.double (FP.l2d x)), .second, .val (.int (3 : Int32)), .val (.double (FP.l2d ((k3 * x + k2) * x + k1))), .second, .val (.int (0 : Int32))] rfl ?_
      refine r_goto d7_43 ?_
      refine r_iload d7_21 rfl ?_
      refine r_if_lt d7_23 (fun hc23 => ?_) (fun hc23 => ?_)
      · exfalso; exact absurd hc23 (by decide)
      · refine r_dload rfl d7_26 ?_
        refine r_dloadN rfl d7_28 ?_
        refine r_dmul (own_mulN _ _) d7_29 ?_
        refine r_aloadN d7_30 rfl rfl ?_
        refine r_getF (host := "") (Or.inl (hw _ (List.mem_of_getElem? (i := 35) rfl))) (v := (.ref a2)) (F1) d7_31 ?_
        refine r_iload d7_34 rfl ?_
        refine r_ldD k0 A (by decide) rfl d7_36 ?_
        have H0 := own_H (A := ((k3 * x + k2) * x + k1)) (x := x) (c := k0) (M := 68736258048) H1.2 bx b0 (by decide)
        refine r_dadd (FP.l2d (((k3 * x + k2) * x + k1) * x + k0)) H0.1 (nn_w rfl) d7_37 ?_
        refine r_dstore [.val (.ref a1), .val (.double (FP.l2d x)), .second, .val (.int (3 : Int32)), .val (.double (FP.l2d (((k3 * x + k2) * x + k1) * x + k0))), .second, .val (.int (0 : Int32))] rfl d7_38 ?_
        refine r_iinc (w := (-1 : Int32)) d7_40 rfl (by decide) [.val (.ref a1), .val (.double (FP.l2d x)), .second, .val (.int (3 : Int32)), .val (.double (FP.l2d (((k3 * x + k2) * x + k1) * x + k0))), .second, .val (.int (-1 : Int32))] rfl ?_
        refine r_goto d7_43 ?_
        refine r_iload d7_21 rfl ?_
        refine r_if_lt d7_23 (fun hc23 => ?_) (fun hc23 => ?_)
        · refine r_dload rfl d7_46 ?_
          refine r_dret d7_48 (by decide) (by decide) ?_
          exact ⟨rfl, rfl⟩
        · exfalso; exact hc23 (by decide)
theorem d0_0 : D code 0 (.iload_n 0) 1 1 := ⟨by decide +kernel, rfl⟩
theorem d0_1 : D code 1 (.iconst 3) 1 2 := ⟨by decide +kernel, rfl⟩
theorem d0_2 : D code 2 (.iand) 1 3 := ⟨by decide +kernel, rfl⟩
theorem d0_3 : D code 3 (.iconst 1) 1 4 := ⟨by decide +kernel, rfl⟩
theorem d0_4 : D code 4 (.iadd) 1 5 := ⟨by decide +kernel, rfl⟩
theorem d0_5 : D code 5 (.istore 6) 2 7 := ⟨by decide +kernel, rfl⟩
theorem d0_7 : D code 7 (.iload_n 1) 1 8 := ⟨by decide +kernel, rfl⟩
theorem d0_8 : D code 8 (.invokestatic 7) 3 11 := ⟨by decide +kernel, rfl⟩
theorem d0_11 : D code 11 (.lstore 7) 2 13 := ⟨by decide +kernel, rfl⟩
theorem d0_13 : D code 13 (.iload_n 2) 1 14 := ⟨by decide +kernel, rfl⟩
theorem d0_14 : D code 14 (.invokestatic 7) 3 17 := ⟨by decide +kernel, rfl⟩
theorem d0_17 : D code 17 (.lstore 9) 2 19 := ⟨by decide +kernel, rfl⟩
theorem d0_19 : D code 19 (.iload_n 3) 1 20 := ⟨by decide +kernel, rfl⟩
theorem d0_20 : D code 20 (.invokestatic 7) 3 23 := ⟨by decide +kernel, rfl⟩
theorem d0_23 : D code 23 (.lstore 11) 2 25 := ⟨by decide +kernel, rfl⟩
theorem d0_25 : D code 25 (.iload 4) 2 27 := ⟨by decide +kernel, rfl⟩
theorem d0_27 : D code 27 (.invokestatic 7) 3 30 := ⟨by decide +kernel, rfl⟩
theorem d0_30 : D code 30 (.lstore 13) 2 32 := ⟨by decide +kernel, rfl⟩
theorem d0_32 : D code 32 (.iload 5) 2 34 := ⟨by decide +kernel, rfl⟩
theorem d0_34 : D code 34 (.invokestatic 7) 3 37 := ⟨by decide +kernel, rfl⟩
theorem d0_37 : D code 37 (.lstore 15) 2 39 := ⟨by decide +kernel, rfl⟩
theorem d0_39 : D code 39 (.iload 6) 2 41 := ⟨by decide +kernel, rfl⟩
theorem d0_41 : D code 41 (.iconst 1) 1 42 := ⟨by decide +kernel, rfl⟩
theorem d0_42 : DB code 42 (.if_icmp .ne) 13 45 55 := ⟨by decide +kernel, rfl, by decide, by decide⟩
theorem d0_45 : D code 45 (.lload 9) 2 47 := ⟨by decide +kernel, rfl⟩
theorem d0_47 : D code 47 (.invokestatic 13) 3 50 := ⟨by decide +kernel, rfl⟩
theorem d0_50 : D code 50 (.lstore 9) 2 52 := ⟨by decide +kernel, rfl⟩
theorem d0_52 : DB code 52 (.goto) 42 55 94 := ⟨by decide +kernel, rfl, by decide, by decide⟩
theorem d0_55 : D code 55 (.iload 6) 2 57 := ⟨by decide +kernel, rfl⟩
theorem d0_57 : D code 57 (.iconst 2) 1 58 := ⟨by decide +kernel, rfl⟩
theorem d0_58 : DB code 58 (.if_icmp .ne) 13 61 71 := ⟨by decide +kernel, rfl, by decide, by decide⟩
theorem d0_61 : D code 61 (.lload 11) 2 63 := ⟨by decide +kernel, rfl⟩
theorem d0_63 : D code 63 (.invokestatic 13) 3 66 := ⟨by decide +kernel, rfl⟩
theorem d0_66 : D code 66 (.lstore 11) 2 68 := ⟨by decide +kernel, rfl⟩
theorem d0_68 : DB code 68 (.goto) 26 71 94 := ⟨by decide +kernel, rfl, by decide, by decide⟩
theorem d0_71 : D code 71 (.iload 6) 2 73 := ⟨by decide +kernel, rfl⟩
theorem d0_73 : D code 73 (.iconst 3) 1 74 := ⟨by decide +kernel, rfl⟩
theorem d0_74 : DB code 74 (.if_icmp .ne) 13 77 87 := ⟨by decide +kernel, rfl, by decide, by decide⟩
theorem d0_77 : D code 77 (.lload 13) 2 79 := ⟨by decide +kernel, rfl⟩
theorem d0_79 : D code 79 (.invokestatic 13) 3 82 := ⟨by decide +kernel, rfl⟩
theorem d0_82 : D code 82 (.lstore 13) 2 84 := ⟨by decide +kernel, rfl⟩
theorem d0_84 : DB code 84 (.goto) 10 87 94 := ⟨by decide +kernel, rfl, by decide, by decide⟩
theorem d0_87 : D code 87 (.lload 15) 2 89 := ⟨by decide +kernel, rfl⟩
theorem d0_89 : D code 89 (.invokestatic 13) 3 92 := ⟨by decide +kernel, rfl⟩
theorem d0_92 : D code 92 (.lstore 15) 2 94 := ⟨by decide +kernel, rfl⟩
theorem d0_94 : D code 94 (.iload 6) 2 96 := ⟨by decide +kernel, rfl⟩
theorem d0_96 : D code 96 (.newarray .double) 2 98 := ⟨by decide +kernel, rfl⟩
theorem d0_98 : D code 98 (.astore 17) 2 100 := ⟨by decide +kernel, rfl⟩
theorem d0_100 : D code 100 (.aload 17) 2 102 := ⟨by decide +kernel, rfl⟩
theorem d0_102 : D code 102 (.iconst 0) 1 103 := ⟨by decide +kernel, rfl⟩
theorem d0_103 : D code 103 (.lload 9) 2 105 := ⟨by decide +kernel, rfl⟩
theorem d0_105 : D code 105 (.l2d) 1 106 := ⟨by decide +kernel, rfl⟩
theorem d0_106 : D code 106 (.dastore) 1 107 := ⟨by decide +kernel, rfl⟩
theorem d0_107 : D code 107 (.iload 6) 2 109 := ⟨by decide +kernel, rfl⟩
theorem d0_109 : D code 109 (.iconst 2) 1 110 := ⟨by decide +kernel, rfl⟩
theorem d0_110 : DB code 110 (.if_icmp .lt) 10 113 120 := ⟨by decide +kernel, rfl, by decide, by decide⟩
theorem d0_113 : D code 113 (.aload 17) 2 115 := ⟨by decide +kernel, rfl⟩
theorem d0_115 : D code 115 (.iconst 1) 1 116 := ⟨by decide +kernel, rfl⟩
theorem d0_116 : D code 116 (.lload 11) 2 118 := ⟨by decide +kernel, rfl⟩
theorem d0_118 : D code 118 (.l2d) 1 119 := ⟨by decide +kernel, rfl⟩
theorem d0_119 : D code 119 (.dastore) 1 120 := ⟨by decide +kernel, rfl⟩
theorem d0_120 : D code 120 (.iload 6) 2 122 := ⟨by decide +kernel, rfl⟩
theorem d0_122 : D code 122 (.iconst 3) 1 123 := ⟨by decide +kernel, rfl⟩
theorem d0_123 : DB code 123 (.if_icmp .lt) 10 126 133 := ⟨by decide +kernel, rfl, by decide, by decide⟩
theorem d0_126 : D code 126 (.aload 17) 2 128 := ⟨by decide +kernel, rfl⟩
theorem d0_128 : D code 128 (.iconst 2) 1 129 := ⟨by decide +kernel, rfl⟩
theorem d0_129 : D code 129 (.lload 13) 2 131 := ⟨by decide +kernel, rfl⟩
theorem d0_131 : D code 131 (.l2d) 1 132 := ⟨by decide +kernel, rfl⟩
theorem d0_132 : D code 132 (.dastore) 1 133 := ⟨by decide +kernel, rfl⟩
theorem d0_133 : D code 133 (.iload 6) 2 135 := ⟨by decide +kernel, rfl⟩
theorem d0_135 : D code 135 (.iconst 4) 1 136 := ⟨by decide +kernel, rfl⟩
theorem d0_136 : DB code 136 (.if_icmp .lt) 10 139 146 := ⟨by decide +kernel, rfl, by decide, by decide⟩
theorem d0_139 : D code 139 (.aload 17) 2 141 := ⟨by decide +kernel, rfl⟩
theorem d0_141 : D code 141 (.iconst 3) 1 142 := ⟨by decide +kernel, rfl⟩
theorem d0_142 : D code 142 (.lload 15) 2 144 := ⟨by decide +kernel, rfl⟩
theorem d0_144 : D code 144 (.l2d) 1 145 := ⟨by decide +kernel, rfl⟩
theorem d0_145 : D code 145 (.dastore) 1 146 := ⟨by decide +kernel, rfl⟩
theorem d0_146 : D code 146 (.lload 9) 2 148 := ⟨by decide +kernel, rfl⟩
theorem d0_148 : D code 148 (.lstore 18) 2 150 := ⟨by decide +kernel, rfl⟩
theorem d0_150 : D code 150 (.iload 6) 2 152 := ⟨by decide +kernel, rfl⟩
theorem d0_152 : D code 152 (.iconst 2) 1 153 := ⟨by decide +kernel, rfl⟩
theorem d0_153 : DB code 153 (.if_icmp .lt) 13 156 166 := ⟨by decide +kernel, rfl, by decide, by decide⟩
theorem d0_156 : D code 156 (.lload 18) 2 158 := ⟨by decide +kernel, rfl⟩
theorem d0_158 : D code 158 (.lload 11) 2 160 := ⟨by decide +kernel, rfl⟩
theorem d0_160 : D code 160 (.lload 7) 2 162 := ⟨by decide +kernel, rfl⟩
theorem d0_162 : D code 162 (.lmul) 1 163 := ⟨by decide +kernel, rfl⟩
theorem d0_163 : D code 163 (.ladd) 1 164 := ⟨by decide +kernel, rfl⟩
theorem d0_164 : D code 164 (.lstore 18) 2 166 := ⟨by decide +kernel, rfl⟩
theorem d0_166 : D code 166 (.iload 6) 2 168 := ⟨by decide +kernel, rfl⟩
theorem d0_168 : D code 168 (.iconst 3) 1 169 := ⟨by decide +kernel, rfl⟩
theorem d0_169 : DB code 169 (.if_icmp .lt) 16 172 185 := ⟨by decide +kernel, rfl, by decide, by decide⟩
theorem d0_172 : D code 172 (.lload 18) 2 174 := ⟨by decide +kernel, rfl⟩
theorem d0_174 : D code 174 (.lload 13) 2 176 := ⟨by decide +kernel, rfl⟩
theorem d0_176 : D code 176 (.lload 7) 2 178 := ⟨by decide +kernel, rfl⟩
theorem d0_178 : D code 178 (.lmul) 1 179 := ⟨by decide +kernel, rfl⟩
theorem d0_179 : D code 179 (.lload 7) 2 181 := ⟨by decide +kernel, rfl⟩
theorem d0_181 : D code 181 (.lmul) 1 182 := ⟨by decide +kernel, rfl⟩
theorem d0_182 : D code 182 (.ladd) 1 183 := ⟨by decide +kernel, rfl⟩
theorem d0_183 : D code 183 (.lstore 18) 2 185 := ⟨by decide +kernel, rfl⟩
theorem d0_185 : D code 185 (.iload 6) 2 187 := ⟨by decide +kernel, rfl⟩
theorem d0_187 : D code 187 (.iconst 4) 1 188 := ⟨by decide +kernel, rfl⟩
theorem d0_188 : DB code 188 (.if_icmp .lt) 19 191 207 := ⟨by decide +kernel, rfl, by decide, by decide⟩
theorem d0_191 : D code 191 (.lload 18) 2 193 := ⟨by decide +kernel, rfl⟩
theorem d0_193 : D code 193 (.lload 15) 2 195 := ⟨by decide +kernel, rfl⟩
theorem d0_195 : D code 195 (.lload 7) 2 197 := ⟨by decide +kernel, rfl⟩
theorem d0_197 : D code 197 (.lmul) 1 198 := ⟨by decide +kernel, rfl⟩
theorem d0_198 : D code 198 (.lload 7) 2 200 := ⟨by decide +kernel, rfl⟩
theorem d0_200 : D code 200 (.lmul) 1 201 := ⟨by decide +kernel, rfl⟩
theorem d0_201 : D code 201 (.lload 7) 2 203 := ⟨by decide +kernel, rfl⟩
theorem d0_203 : D code 203 (.lmul) 1 204 := ⟨by decide +kernel, rfl⟩
theorem d0_204 : D code 204 (.ladd) 1 205 := ⟨by decide +kernel, rfl⟩
theorem d0_205 : D code 205 (.lstore 18) 2 207 := ⟨by decide +kernel, rfl⟩
theorem d0_207 : D code 207 (.new 17) 3 210 := ⟨by decide +kernel, rfl⟩
theorem d0_210 : D code 210 (.dup) 1 211 := ⟨by decide +kernel, rfl⟩
theorem d0_211 : D code 211 (.aload 17) 2 213 := ⟨by decide +kernel, rfl⟩
theorem d0_213 : D code 213 (.invokespecial 19) 3 216 := ⟨by decide +kernel, rfl⟩
theorem d0_216 : D code 216 (.astore 20) 2 218 := ⟨by decide +kernel, rfl⟩
theorem d0_218 : D code 218 (.aload 20) 2 220 := ⟨by decide +kernel, rfl⟩
theorem d0_220 : D code 220 (.lload 7) 2 222 := ⟨by decide +kernel, rfl⟩
theorem d0_222 : D code 222 (.l2d) 1 223 := ⟨by decide +kernel, rfl⟩
theorem d0_223 : D code 223 (.invokevirtual 22) 3 226 := ⟨by decide +kernel, rfl⟩
theorem d0_226 : D code 226 (.lload 18) 2 228 := ⟨by decide +kernel, rfl⟩
theorem d0_228 : D code 228 (.l2d) 1 229 := ⟨by decide +kernel, rfl⟩
theorem d0_229 : D code 229 (.dcmp .l) 1 230 := ⟨by decide +kernel, rfl⟩
theorem d0_230 : DB code 230 (.ifCond .ne) 7 233 237 := ⟨by decide +kernel, rfl, by decide, by decide⟩
theorem d0_233 : D code 233 (.iconst 1) 1 234 := ⟨by decide +kernel, rfl⟩
theorem d0_234 : DB code 234 (.goto) 4 237 238 := ⟨by decide +kernel, rfl, by decide, by decide⟩
theorem d0_238 : D code 238 (.ireturn) 1 239 := ⟨by decide +kernel, rfl⟩
theorem pd0_0 : parseMethodDescriptor "(I)J" = some ⟨[.int], some .long⟩ := by decide +kernel
theorem pd0_1 : parseMethodDescriptor "(J)J" = some ⟨[.long], some .long⟩ := by decide +kernel
theorem pd0_2 : parseMethodDescriptor "([D)V" = some ⟨[(.array .double)], none⟩ := by decide +kernel
theorem pd0_3 : parseMethodDescriptor "(D)D" = some ⟨[.double], some .double⟩ := by decide +kernel
theorem pn0 : plainFor (⟨"com/example/tempera/tempera/problem/PolynomialValueAtPinLaw", "law", "(IIIIII)Z"⟩ : MethodName) = true := by first | exact plainFor_of_name (by first | (simp [plainName, overriddenIn]; done) | decide +kernel) | exact Jvm.Free.JP.mathPlain rfl (by decide +kernel) | decide +kernel
set_option maxRecDepth 65536 in
set_option maxHeartbeats 40000000 in
theorem ct0 {l : Launch} {Z : State} {a0 : Array Value} (hw : ∀ d ∈ tables_1, d.before a0 Z = true) {n0 : Nat} {h0 : Heap} (hz : n0 ≤ h0.size) (p1 p2 p3 p4 p5 p6 : Int32) : Ct l x code maxLocals ret tables_1 room_1 Z n0 #[(.int p1), (.int p2), (.int p3), (.int p4), (.int p5), (.int p6)] h0 (fun v h => v = some (.int 1)) := by
  refine Ct.of (ls := [.val (.int p1), .val (.int p2), .val (.int p3), .val (.int p4), .val (.int p5), .val (.int p6), .unset, .unset, .unset, .unset, .unset, .unset, .unset, .unset, .unset, .unset, .unset, .unset, .unset, .unset, .unset]) pn0 (fun m => by first | (simp [entryFrame, mkF, argsToLocals, Value.category, maxLocals]; done) | rfl) ?_
  refine r_iloadN d0_0 rfl ?_
  refine r_iconst (3 : Int32) rfl d0_1 ?_
  refine r_iand d0_2 ?_
  obtain ⟨u, e_u, l_u⟩ := n32_and p1 3 2 (by decide) (by decide)
  rw [e_u]
  have hu : u = 0 ∨ u = 1 ∨ u = 2 ∨ u = 3 := by omega
  clear e_u l_u
  rcases hu with rfl | rfl | rfl | rfl
  · rw [show Nat.toInt32 0 = (0 : Int32) from rfl]
    refine r_iconst (1 : Int32) rfl d0_3 ?_
    refine r_iadd d0_4 ?_
    rw [show ((0 : Int32) + (1 : Int32)) = (1 : Int32) by decide]
    refine r_istore d0_5 [.val (.int p1), .val (.int p2), .val (.int p3), .val (.int p4), .val (.int p5), .val (.int p6), .val (.int (1 : Int32)), .unset, .unset, .unset, .unset, .unset, .unset, .unset, .unset, .unset, .unset, .unset, .unset, .unset, .unset] rfl ?_
    refine r_iloadN d0_7 rfl ?_
    refine r_static [(.int p2)] [] rfl pd0_0 rfl (hw _ (List.mem_of_getElem? (i := 0) rfl)) (hw _ (List.mem_of_getElem? (i := 1) rfl)) (hw _ (List.mem_of_getElem? (i := 2) rfl)) (hw _ (List.mem_of_getElem? (i := 3) rfl)) (by decide) (R' := ({ frames := 0, cells := 0, slots := 0, locals := 0 } : Room)) (ct1 hw p2) d0_8 rfl (by decide) 0 rfl (by decide) (by decide) (by decide) ?_
    rintro _ hq8 ⟨x, rfl, eq8, lx⟩
    rw [eq8]
    show ORun _ _ _ _ _ _ _ _ _ _ h0 0 0 11 [.val (.int p1), .val (.int p2), .val (.int p3), .val (.int p4), .val (.int p5), .val (.int p6), .val (.int (1 : Int32)), .unset, .unset, .unset, .unset, .unset, .unset, .unset, .unset, .unset, .unset, .unset, .unset, .unset, .unset] [(.long x)]
    refine r_lstore d0_11 [.val (.int p1), .val (.int p2), .val (.int p3), .val (.int p4), .val (.int p5), .val (.int p6), .val (.int (1 : Int32)), .val (.long x), .second, .unset, .unset, .unset, .unset, .unset, .unset, .unset, .unset, .unset, .unset, .unset, .unset] rfl ?_
    refine r_iloadN d0_13 rfl ?_
    refine r_static [(.int p3)] [] rfl pd0_0 rfl (hw _ (List.mem_of_getElem? (i := 0) rfl)) (hw _ (List.mem_of_getElem? (i := 1) rfl)) (hw _ (List.mem_of_getElem? (i := 2) rfl)) (hw _ (List.mem_of_getElem? (i := 3) rfl)) (by decide) (R' := ({ frames := 0, cells := 0, slots := 0, locals := 0 } : Room)) (ct1 hw p3) d0_14 rfl (by decide) 0 rfl (by decide) (by decide) (by decide) ?_
    rintro _ hq14 ⟨c0, rfl, eq14, lc0⟩
    rw [eq14]
    show ORun _ _ _ _ _ _ _ _ _ _ h0 0 0 17 [.val (.int p1), .val (.int p2), .val (.int p3), .val (.int p4), .val (.int p5), .val (.int p6), .val (.int (1 : Int32)), .val (.long x), .second, .unset, .unset, .unset, .unset, .unset, .unset, .unset, .unset, .unset, .unset, .unset, .unset] [(.long c0)]
    refine r_lstore d0_17 [.val (.int p1), .val (.int p2), .val (.int p3), .val (.int p4), .val (.int p5), .val (.int p6), .val (.int (1 : Int32)), .val (.long x), .second, .val (.long c0), .second, .unset, .unset, .unset, .unset, .unset, .unset, .unset, .unset, .unset, .unset] rfl ?_
    refine r_iloadN d0_19 rfl ?_
    refine r_static [(.int p4)] [] rfl pd0_0 rfl (hw _ (List.mem_of_getElem? (i := 0) rfl)) (hw _ (List.mem_of_getElem? (i := 1) rfl)) (hw _ (List.mem_of_getElem? (i := 2) rfl)) (hw _ (List.mem_of_getElem? (i := 3) rfl)) (by decide) (R' := ({ frames := 0, cells := 0, slots := 0, locals := 0 } : Room)) (ct1 hw p4) d0_20 rfl (by decide) 0 rfl (by decide) (by decide) (by decide) ?_
    rintro _ hq20 ⟨c1, rfl, eq20, lc1⟩
    rw [eq20]
    show ORun _ _ _ _ _ _ _ _ _ _ h0 0 0 23 [.val (.int p1), .val (.int p2), .val (.int p3), .val (.int p4), .val (.int p5), .val (.int p6), .val (.int (1 : Int32)), .val (.long x), .second, .val (.long c0), .second, .unset, .unset, .unset, .unset, .unset, .unset, .unset, .unset, .unset, .unset] [(.long c1)]
    refine r_lstore d0_23 [.val (.int p1), .val (.int p2), .val (.int p3), .val (.int p4), .val (.int p5), .val (.int p6), .val (.int (1 : Int32)), .val (.long x), .second, .val (.long c0), .second, .val (.long c1), .second, .unset, .unset, .unset, .unset, .unset, .unset, .unset, .unset] rfl ?_
    refine r_iload d0_25 rfl ?_
    refine r_static [(.int p5)] [] rfl pd0_0 rfl (hw _ (List.mem_of_getElem? (i := 0) rfl)) (hw _ (List.mem_of_getElem? (i := 1) rfl)) (hw _ (List.mem_of_getElem? (i := 2) rfl)) (hw _ (List.mem_of_getElem? (i := 3) rfl)) (by decide) (R' := ({ frames := 0, cells := 0, slots := 0, locals := 0 } : Room)) (ct1 hw p5) d0_27 rfl (by decide) 0 rfl (by decide) (by decide) (by decide) ?_
    rintro _ hq27 ⟨c2, rfl, eq27, lc2⟩
    rw [eq27]
    show ORun _ _ _ _ _ _ _ _ _ _ h0 0 0 30 [.val (.int p1), .val (.int p2), .val (.int p3), .val (.int p4), .val (.int p5), .val (.int p6), .val (.int (1 : Int32)), .val (.long x), .second, .val (.long c0), .second, .val (.long c1), .second, .unset, .unset, .unset, .unset, .unset, .unset, .unset, .unset] [(.long c2)]
    refine r_lstore d0_30 [.val (.int p1), .val (.int p2), .val (.int p3), .val (.int p4), .val (.int p5), .val (.int p6), .val (.int (1 : Int32)), .val (.long x), .second, .val (.long c0), .second, .val (.long c1), .second, .val (.long c2), .second, .unset, .unset, .unset, .unset, .unset, .unset] rfl ?_
    refine r_iload d0_32 rfl ?_
    refine r_static [(.int p6)] [] rfl pd0_0 rfl (hw _ (List.mem_of_getElem? (i := 0) rfl)) (hw _ (List.mem_of_getElem? (i := 1) rfl)) (hw _ (List.mem_of_getElem? (i := 2) rfl)) (hw _ (List.mem_of_getElem? (i := 3) rfl)) (by decide) (R' := ({ frames := 0, cells := 0, slots := 0, locals := 0 } : Room)) (ct1 hw p6) d0_34 rfl (by decide) 0 rfl (by decide) (by decide) (by decide) ?_
    rintro _ hq34 ⟨c3, rfl, eq34, lc3⟩
    rw [eq34]
    show ORun _ _ _ _ _ _ _ _ _ _ h0 0 0 37 [.val (.int p1), .val (.int p2), .val (.int p3), .val (.int p4), .val (.int p5), .val (.int p6), .val (.int (1 : Int32)), .val (.long x), .second, .val (.long c0), .second, .val (.long c1), .second, .val (.long c2), .second, .unset, .unset, .unset, .unset, .unset, .unset] [(.long c3)]
    refine r_lstore d0_37 [.val (.int p1), .val (.int p2), .val (.int p3), .val (.int p4), .val (.int p5), .val (.int p6), .val (.int (1 : Int32)), .val (.long x), .second, .val (.long c0), .second, .val (.long c1), .second, .val (.long c2), .second, .val (.long c3), .second, .unset, .unset, .unset, .unset] rfl ?_
    refine r_iload d0_39 rfl ?_
    refine r_iconst (1 : Int32) rfl d0_41 ?_
    refine r_icmp_ne d0_42 (fun hc42 => ?_) (fun hc42 => ?_)
    · exfalso; exact absurd hc42 (by decide)
    · refine r_lload d0_45 rfl ?_
      refine r_static [(.long c0)] [] rfl pd0_1 rfl (hw _ (List.mem_of_getElem? (i := 4) rfl)) (hw _ (List.mem_of_getElem? (i := 5) rfl)) (hw _ (List.mem_of_getElem? (i := 2) rfl)) (hw _ (List.mem_of_getElem? (i := 6) rfl)) (by decide) (R' := ({ frames := 0, cells := 0, slots := 0, locals := 0 } : Room)) (ct2 hw c0 lc0) d0_47 rfl (by decide) 0 rfl (by decide) (by decide) (by decide) ?_
      rintro _ hq47 ⟨d0, rfl, eq47, ld0, zd0⟩
      rw [eq47]
      show ORun _ _ _ _ _ _ _ _ _ _ h0 0 0 50 [.val (.int p1), .val (.int p2), .val (.int p3), .val (.int p4), .val (.int p5), .val (.int p6), .val (.int (1 : Int32)), .val (.long x), .second, .val (.long c0), .second, .val (.long c1), .second, .val (.long c2), .second, .val (.long c3), .second, .unset, .unset, .unset, .unset] [(.long d0)]
      refine r_lstore d0_50 [.val (.int p1), .val (.int p2), .val (.int p3), .val (.int p4), .val (.int p5), .val (.int p6), .val (.int (1 : Int32)), .val (.long x), .second, .val (.long d0), .second, .val (.long c1), .second, .val (.long c2), .second, .val (.long c3), .second, .unset, .unset, .unset, .unset] rfl ?_
      refine r_goto d0_52 ?_
      refine r_iload d0_94 rfl ?_
      refine r_newD 1 (hw _ (List.mem_of_getElem? (i := 7) rfl)) d0_96 (by decide) rfl (by decide) (by decide) (by decide) ?_
      rintro h96 ⟨E96, D96, X96⟩
      obtain ⟨b96, g96⟩ : ∃ z, z = h0.size := ⟨_, rfl⟩
      rw [← g96] at D96 X96 ⊢
      have ge96 : n0 ≤ b96 := by rw [g96]; exact hz
      show ORun _ _ _ _ _ _ _ _ _ _ h96 1 1 98 [.val (.int p1), .val (.int p2), .val (.int p3), .val (.int p4), .val (.int p5), .val (.int p6), .val (.int (1 : Int32)), .val (.long x), .second, .val (.long d0), .second, .val (.long c1), .second, .val (.long c2), .second, .val (.long c3), .second, .unset, .unset, .unset, .unset] [(.ref b96)]
      refine r_astore d0_98 rfl [.val (.int p1), .val (.int p2), .val (.int p3), .val (.int p4), .val (.int p5), .val (.int p6), .val (.int (1 : Int32)), .val (.long x), .second, .val (.long d0), .second, .val (.long c1), .second, .val (.long c2), .second, .val (.long c3), .second, .val (.ref b96), .unset, .unset, .unset] rfl ?_
      refine r_aload d0_100 rfl rfl ?_
      refine r_iconst (0 : Int32) rfl d0_102 ?_
      refine r_lload d0_103 rfl ?_
      refine r_l2d d0_105 ?_
      refine r_stD 0 [d0] D96 (by decide) rfl (Nat.le_of_ble_eq_true rfl) rfl ge96 d0_106 ?_
      intro h106 W106 D106
      have X106 := Exa.wr W106 X96
      refine r_iload d0_107 rfl ?_
      refine r_iconst (2 : Int32) rfl d0_109 ?_
      refine r_icmp_lt d0_110 (fun hc110 => ?_) (fun hc110 => ?_)
      · refine r_iload d0_120 rfl ?_
        refine r_iconst (3 : Int32) rfl d0_122 ?_
        refine r_icmp_lt d0_123 (fun hc123 => ?_) (fun hc123 => ?_)
        · refine r_iload d0_133 rfl ?_
          refine r_iconst (4 : Int32) rfl d0_135 ?_
          refine r_icmp_lt d0_136 (fun hc136 => ?_) (fun hc136 => ?_)
          · refine r_lload d0_146 rfl ?_
            refine r_lstore d0_148 [.val (.int p1), .val (.int p2), .val (.int p3), .val (.int p4), .val (.int p5), .val (.int p6), .val (.int (1 : Int32)), .val (.long x), .second, .val (.long d0), .second, .val (.long c1), .second, .val (.long c2), .second, .val (.long c3), .second, .val (.ref b96), .val (.long d0), .second, .unset] rfl ?_
            refine r_iload d0_150 rfl ?_
            refine r_iconst (2 : Int32) rfl d0_152 ?_
            refine r_icmp_lt d0_153 (fun hc153 => ?_) (fun hc153 => ?_)
            · refine r_iload d0_166 rfl ?_
              refine r_iconst (3 : Int32) rfl d0_168 ?_
              refine r_icmp_lt d0_169 (fun hc169 => ?_) (fun hc169 => ?_)
              · refine r_iload d0_185 rfl ?_
                refine r_iconst (4 : Int32) rfl d0_187 ?_
                refine r_icmp_lt d0_188 (fun hc188 => ?_) (fun hc188 => ?_)
                · refine r_new (hw _ (List.mem_of_getElem? (i := 8) rfl)) (hw _ (List.mem_of_getElem? (i := 9) rfl)) (hw _ (List.mem_of_getElem? (i := 10) rfl)) d0_207 (by decide) (by decide) ?_
                  rintro hn207 ⟨E207, A207, D207⟩
                  obtain ⟨b207, g207⟩ : ∃ z, z = h106.size := ⟨_, rfl⟩
                  rw [← g207] at A207 ⊢
                  simp only [← g207] at D207
                  have F207_coefficients : Fld Z hn207 b207 "com/example/tempera/tempera/problem/Polynomial" "coefficients" "[D" .null := D207 (Or.inr (hw _ (List.mem_of_getElem? (i := 36) rfl))) (ty := (.array .double)) (by decide)
                  show ORun _ _ _ _ _ _ _ _ _ _ hn207 2 2 210 [.val (.int p1), .val (.int p2), .val (.int p3), .val (.int p4), .val (.int p5), .val (.int p6), .val (.int (1 : Int32)), .val (.long x), .second, .val (.long d0), .second, .val (.long c1), .second, .val (.long c2), .second, .val (.long c3), .second, .val (.ref b96), .val (.long d0), .second, .unset] [(.ref b207)]
                  refine r_dup d0_210 rfl ?_
                  refine r_aload d0_211 rfl rfl ?_
                  have ge207 : n0 ≤ b207 := by rw [g207]; exact Nat.le_trans ge96 (Nat.le_of_lt D106.lt)
                  refine r_special [(.ref b96)] [(.ref b207)] b207 rfl pd0_2 rfl rfl (hw _ (List.mem_of_getElem? (i := 11) rfl)) (hw _ (List.mem_of_getElem? (i := 12) rfl)) (hw _ (List.mem_of_getElem? (i := 10) rfl)) (hw _ (List.mem_of_getElem? (i := 13) rfl)) (by decide) (R' := ({ frames := 2, cells := 1, slots := 4, locals := 30 } : Room)) (ct3_1 hw b207 b96 d0 A207 F207_coefficients ge207 (D106.ext E207) (X106.ext E207) ld0 zd0) d0_213 rfl (by decide) 1 rfl (by decide) (by decide) (by decide) ?_
                  rintro _ h213 ⟨rfl, b213, X213, F213, D213⟩
                  show ORun _ _ _ _ _ _ _ _ _ _ h213 3 6 216 [.val (.int p1), .val (.int p2), .val (.int p3), .val (.int p4), .val (.int p5), .val (.int p6), .val (.int (1 : Int32)), .val (.long x), .second, .val (.long d0), .second, .val (.long c1), .second, .val (.long c2), .second, .val (.long c3), .second, .val (.ref b96), .val (.long d0), .second, .unset] [(.ref b207)]
                  refine r_astore d0_216 rfl [.val (.int p1), .val (.int p2), .val (.int p3), .val (.int p4), .val (.int p5), .val (.int p6), .val (.int (1 : Int32)), .val (.long x), .second, .val (.long d0), .second, .val (.long c1), .second, .val (.long c2), .second, .val (.long c3), .second, .val (.ref b96), .val (.long d0), .second, .val (.ref b207)] rfl ?_
                  refine r_aload d0_218 rfl rfl ?_
                  refine r_lload d0_220 rfl ?_
                  refine r_l2d d0_222 ?_
                  refine r_virtualP [(.double (FP.l2d x))] [] b207 X213 rfl pd0_3 rfl (hw _ (List.mem_of_getElem? (i := 37) rfl)) (hw _ (List.mem_of_getElem? (i := 38) rfl)) (hw _ (List.mem_of_getElem? (i := 40) rfl)) (hw _ (List.mem_of_getElem? (i := 39) rfl)) (hw _ (List.mem_of_getElem? (i := 10) rfl)) (hw _ (List.mem_of_getElem? (i := 41) rfl)) rfl (by decide) (w := (.double (FP.l2d d0))) (R' := ({ frames := 0, cells := 0, slots := 0, locals := 0 } : Room)) (ct7_1 hw b207 b213 x d0 F213 D213 ⟨lx.1, Int.le_trans lx.2 (by decide)⟩ ld0) d0_223 rfl (by decide) 0 rfl (by decide) rfl rfl (by decide) (by decide) ?_
                  refine r_lload d0_226 rfl ?_
                  refine r_l2d d0_228 ?_
                  refine r_dcmp (0 : Int32) (dcmpV_self (nn_w rfl) _) d0_229 ?_
                  refine r_if_ne d0_230 (fun hc230 => ?_) (fun hc230 => ?_)
                  · exfalso; exact hc230 rfl
                  · refine r_iconst (1 : Int32) rfl d0_233 ?_
                    refine r_goto d0_234 ?_
                    exact r_nret (t := .boolean) (by simp) d0_238 (by decide) (by decide) (rfl)
                · exfalso; exact absurd hc188 (by decide)
              · exfalso; exact absurd hc169 (by decide)
            · exfalso; exact absurd hc153 (by decide)
          · exfalso; exact absurd hc136 (by decide)
        · exfalso; exact absurd hc123 (by decide)
      · exfalso; exact absurd hc110 (by decide)
  · rw [show Nat.toInt32 1 = (1 : Int32) from rfl]
    refine r_iconst (1 : Int32) rfl d0_3 ?_
    refine r_iadd d0_4 ?_
    rw [show ((1 : Int32) + (1 : Int32)) = (2 : Int32) by decide]
    refine r_istore d0_5 [.val (.int p1), .val (.int p2), .val (.int p3), .val (.int p4), .val (.int p5), .val (.int p6), .val (.int (2 : Int32)), .unset, .unset, .unset, .unset, .unset, .unset, .unset, .unset, .unset, .unset, .unset, .unset, .unset, .unset] rfl ?_
    refine r_iloadN d0_7 rfl ?_
    refine r_static [(.int p2)] [] rfl pd0_0 rfl (hw _ (List.mem_of_getElem? (i := 0) rfl)) (hw _ (List.mem_of_getElem? (i := 1) rfl)) (hw _ (List.mem_of_getElem? (i := 2) rfl)) (hw _ (List.mem_of_getElem? (i := 3) rfl)) (by decide) (R' := ({ frames := 0, cells := 0, slots := 0, locals := 0 } : Room)) (ct1 hw p2) d0_8 rfl (by decide) 0 rfl (by decide) (by decide) (by decide) ?_
    rintro _ hq8 ⟨x, rfl, eq8, lx⟩
    rw [eq8]
    show ORun _ _ _ _ _ _ _ _ _ _ h0 0 0 11 [.val (.int p1), .val (.int p2), .val (.int p3), .val (.int p4), .val (.int p5), .val (.int p6), .val (.int (2 : Int32)), .unset, .unset, .unset, .unset, .unset, .unset, .unset, .unset, .unset, .unset, .unset, .unset, .unset, .unset] [(.long x)]
    refine r_lstore d0_11 [.val (.int p1), .val (.int p2), .val (.int p3), .val (.int p4), .val (.int p5), .val (.int p6), .val (.int (2 : Int32)), .val (.long x), .second, .unset, .unset, .unset, .unset, .unset, .unset, .unset, .unset, .unset, .unset, .unset, .unset] rfl ?_
    refine r_iloadN d0_13 rfl ?_
    refine r_static [(.int p3)] [] rfl pd0_0 rfl (hw _ (List.mem_of_getElem? (i := 0) rfl)) (hw _ (List.mem_of_getElem? (i := 1) rfl)) (hw _ (List.mem_of_getElem? (i := 2) rfl)) (hw _ (List.mem_of_getElem? (i := 3) rfl)) (by decide) (R' := ({ frames := 0, cells := 0, slots := 0, locals := 0 } : Room)) (ct1 hw p3) d0_14 rfl (by decide) 0 rfl (by decide) (by decide) (by decide) ?_
    rintro _ hq14 ⟨c0, rfl, eq14, lc0⟩
    rw [eq14]
    show ORun _ _ _ _ _ _ _ _ _ _ h0 0 0 17 [.val (.int p1), .val (.int p2), .val (.int p3), .val (.int p4), .val (.int p5), .val (.int p6), .val (.int (2 : Int32)), .val (.long x), .second, .unset, .unset, .unset, .unset, .unset, .unset, .unset, .unset, .unset, .unset, .unset, .unset] [(.long c0)]
    refine r_lstore d0_17 [.val (.int p1), .val (.int p2), .val (.int p3), .val (.int p4), .val (.int p5), .val (.int p6), .val (.int (2 : Int32)), .val (.long x), .second, .val (.long c0), .second, .unset, .unset, .unset, .unset, .unset, .unset, .unset, .unset, .unset, .unset] rfl ?_
    refine r_iloadN d0_19 rfl ?_
    refine r_static [(.int p4)] [] rfl pd0_0 rfl (hw _ (List.mem_of_getElem? (i := 0) rfl)) (hw _ (List.mem_of_getElem? (i := 1) rfl)) (hw _ (List.mem_of_getElem? (i := 2) rfl)) (hw _ (List.mem_of_getElem? (i := 3) rfl)) (by decide) (R' := ({ frames := 0, cells := 0, slots := 0, locals := 0 } : Room)) (ct1 hw p4) d0_20 rfl (by decide) 0 rfl (by decide) (by decide) (by decide) ?_
    rintro _ hq20 ⟨c1, rfl, eq20, lc1⟩
    rw [eq20]
    show ORun _ _ _ _ _ _ _ _ _ _ h0 0 0 23 [.val (.int p1), .val (.int p2), .val (.int p3), .val (.int p4), .val (.int p5), .val (.int p6), .val (.int (2 : Int32)), .val (.long x), .second, .val (.long c0), .second, .unset, .unset, .unset, .unset, .unset, .unset, .unset, .unset, .unset, .unset] [(.long c1)]
    refine r_lstore d0_23 [.val (.int p1), .val (.int p2), .val (.int p3), .val (.int p4), .val (.int p5), .val (.int p6), .val (.int (2 : Int32)), .val (.long x), .second, .val (.long c0), .second, .val (.long c1), .second, .unset, .unset, .unset, .unset, .unset, .unset, .unset, .unset] rfl ?_
    refine r_iload d0_25 rfl ?_
    refine r_static [(.int p5)] [] rfl pd0_0 rfl (hw _ (List.mem_of_getElem? (i := 0) rfl)) (hw _ (List.mem_of_getElem? (i := 1) rfl)) (hw _ (List.mem_of_getElem? (i := 2) rfl)) (hw _ (List.mem_of_getElem? (i := 3) rfl)) (by decide) (R' := ({ frames := 0, cells := 0, slots := 0, locals := 0 } : Room)) (ct1 hw p5) d0_27 rfl (by decide) 0 rfl (by decide) (by decide) (by decide) ?_
    rintro _ hq27 ⟨c2, rfl, eq27, lc2⟩
    rw [eq27]
    show ORun _ _ _ _ _ _ _ _ _ _ h0 0 0 30 [.val (.int p1), .val (.int p2), .val (.int p3), .val (.int p4), .val (.int p5), .val (.int p6), .val (.int (2 : Int32)), .val (.long x), .second, .val (.long c0), .second, .val (.long c1), .second, .unset, .unset, .unset, .unset, .unset, .unset, .unset, .unset] [(.long c2)]
    refine r_lstore d0_30 [.val (.int p1), .val (.int p2), .val (.int p3), .val (.int p4), .val (.int p5), .val (.int p6), .val (.int (2 : Int32)), .val (.long x), .second, .val (.long c0), .second, .val (.long c1), .second, .val (.long c2), .second, .unset, .unset, .unset, .unset, .unset, .unset] rfl ?_
    refine r_iload d0_32 rfl ?_
    refine r_static [(.int p6)] [] rfl pd0_0 rfl (hw _ (List.mem_of_getElem? (i := 0) rfl)) (hw _ (List.mem_of_getElem? (i := 1) rfl)) (hw _ (List.mem_of_getElem? (i := 2) rfl)) (hw _ (List.mem_of_getElem? (i := 3) rfl)) (by decide) (R' := ({ frames := 0, cells := 0, slots := 0, locals := 0 } : Room)) (ct1 hw p6) d0_34 rfl (by decide) 0 rfl (by decide) (by decide) (by decide) ?_
    rintro _ hq34 ⟨c3, rfl, eq34, lc3⟩
    rw [eq34]
    show ORun _ _ _ _ _ _ _ _ _ _ h0 0 0 37 [.val (.int p1), .val (.int p2), .val (.int p3), .val (.int p4), .val (.int p5), .val (.int p6), .val (.int (2 : Int32)), .val (.long x), .second, .val (.long c0), .second, .val (.long c1), .second, .val (.long c2), .second, .unset, .unset, .unset, .unset, .unset, .unset] [(.long c3)]
    refine r_lstore d0_37 [.val (.int p1), .val (.int p2), .val (.int p3), .val (.int p4), .val (.int p5), .val (.int p6), .val (.int (2 : Int32)), .val (.long x), .second, .val (.long c0), .second, .val (.long c1), .second, .val (.long c2), .second, .val (.long c3), .second, .unset, .unset, .unset, .unset] rfl ?_
    refine r_iload d0_39 rfl ?_
    refine r_iconst (1 : Int32) rfl d0_41 ?_
    refine r_icmp_ne d0_42 (fun hc42 => ?_) (fun hc42 => ?_)
    · refine r_iload d0_55 rfl ?_
      refine r_iconst (2 : Int32) rfl d0_57 ?_
      refine r_icmp_ne d0_58 (fun hc58 => ?_) (fun hc58 => ?_)
      · exfalso; exact absurd hc58 (by decide)
      · refine r_lload d0_61 rfl ?_
        refine r_static [(.long c1)] [] rfl pd0_1 rfl (hw _ (List.mem_of_getElem? (i := 4) rfl)) (hw _ (List.mem_of_getElem? (i := 5) rfl)) (hw _ (List.mem_of_getElem? (i := 2) rfl)) (hw _ (List.mem_of_getElem? (i := 6) rfl)) (by decide) (R' := ({ frames := 0, cells := 0, slots := 0, locals := 0 } : Room)) (ct2 hw c1 lc1) d0_63 rfl (by decide) 0 rfl (by decide) (by decide) (by decide) ?_
        rintro _ hq63 ⟨d1, rfl, eq63, ld1, zd1⟩
        rw [eq63]
        show ORun _ _ _ _ _ _ _ _ _ _ h0 0 0 66 [.val (.int p1), .val (.int p2), .val (.int p3), .val (.int p4), .val (.int p5), .val (.int p6), .val (.int (2 : Int32)), .val (.long x), .second, .val (.long c0), .second, .val (.long c1), .second, .val (.long c2), .second, .val (.long c3), .second, .unset, .unset, .unset, .unset] [(.long d1)]
        refine r_lstore d0_66 [.val (.int p1), .val (.int p2), .val (.int p3), .val (.int p4), .val (.int p5), .val (.int p6), .val (.int (2 : Int32)), .val (.long x), .second, .val (.long c0), .second, .val (.long d1), .second, .val (.long c2), .second, .val (.long c3), .second, .unset, .unset, .unset, .unset] rfl ?_
        refine r_goto d0_68 ?_
        refine r_iload d0_94 rfl ?_
        refine r_newD 2 (hw _ (List.mem_of_getElem? (i := 7) rfl)) d0_96 (by decide) rfl (by decide) (by decide) (by decide) ?_
        rintro h96 ⟨E96, D96, X96⟩
        obtain ⟨b96, g96⟩ : ∃ z, z = h0.size := ⟨_, rfl⟩
        rw [← g96] at D96 X96 ⊢
        have ge96 : n0 ≤ b96 := by rw [g96]; exact hz
        show ORun _ _ _ _ _ _ _ _ _ _ h96 1 2 98 [.val (.int p1), .val (.int p2), .val (.int p3), .val (.int p4), .val (.int p5), .val (.int p6), .val (.int (2 : Int32)), .val (.long x), .second, .val (.long c0), .second, .val (.long d1), .second, .val (.long c2), .second, .val (.long c3), .second, .unset, .unset, .unset, .unset] [(.ref b96)]
        refine r_astore d0_98 rfl [.val (.int p1), .val (.int p2), .val (.int p3), .val (.int p4), .val (.int p5), .val (.int p6), .val (.int (2 : Int32)), .val (.long x), .second, .val (.long c0), .second, .val (.long d1), .second, .val (.long c2), .second, .val (.long c3), .second, .val (.ref b96), .unset, .unset, .unset] rfl ?_
        refine r_aload d0_100 rfl rfl ?_
        refine r_iconst (0 : Int32) rfl d0_102 ?_
        refine r_lload d0_103 rfl ?_
        refine r_l2d d0_105 ?_
        refine r_stD 0 [c0, 0] D96 (by decide) rfl (Nat.le_of_ble_eq_true rfl) rfl ge96 d0_106 ?_
        intro h106 W106 D106
        have X106 := Exa.wr W106 X96
        refine r_iload d0_107 rfl ?_
        refine r_iconst (2 : Int32) rfl d0_109 ?_
        refine r_icmp_lt d0_110 (fun hc110 => ?_) (fun hc110 => ?_)
        · exfalso; exact absurd hc110 (by decide)
        · refine r_aload d0_113 rfl rfl ?_
          refine r_iconst (1 : Int32) rfl d0_115 ?_
          refine r_lload d0_116 rfl ?_
          refine r_l2d d0_118 ?_
          refine r_stD 1 [c0, d1] D106 (by decide) rfl (Nat.le_of_ble_eq_true rfl) rfl ge96 d0_119 ?_
          intro h119 W119 D119
          have X119 := Exa.wr W119 X106
          refine r_iload d0_120 rfl ?_
          refine r_iconst (3 : Int32) rfl d0_122 ?_
          refine r_icmp_lt d0_123 (fun hc123 => ?_) (fun hc123 => ?_)
          · refine r_iload d0_133 rfl ?_
            refine r_iconst (4 : Int32) rfl d0_135 ?_
            refine r_icmp_lt d0_136 (fun hc136 => ?_) (fun hc136 => ?_)
            · refine r_lload d0_146 rfl ?_
              refine r_lstore d0_148 [.val (.int p1), .val (.int p2), .val (.int p3), .val (.int p4), .val (.int p5), .val (.int p6), .val (.int (2 : Int32)), .val (.long x), .second, .val (.long c0), .second, .val (.long d1), .second, .val (.long c2), .second, .val (.long c3), .second, .val (.ref b96), .val (.long c0), .second, .unset] rfl ?_
              refine r_iload d0_150 rfl ?_
              refine r_iconst (2 : Int32) rfl d0_152 ?_
              refine r_icmp_lt d0_153 (fun hc153 => ?_) (fun hc153 => ?_)
              · exfalso; exact absurd hc153 (by decide)
              · refine r_lload d0_156 rfl ?_
                refine r_lload d0_158 rfl ?_
                refine r_lload d0_160 rfl ?_
                refine r_lmul d0_162 ?_
                refine r_ladd d0_163 ?_
                refine r_lstore d0_164 [.val (.int p1), .val (.int p2), .val (.int p3), .val (.int p4), .val (.int p5), .val (.int p6), .val (.int (2 : Int32)), .val (.long x), .second, .val (.long c0), .second, .val (.long d1), .second, .val (.long c2), .second, .val (.long c3), .second, .val (.ref b96), .val (.long (c0 + (d1 * x))), .second, .unset] rfl ?_
                refine r_iload d0_166 rfl ?_
                refine r_iconst (3 : Int32) rfl d0_168 ?_
                refine r_icmp_lt d0_169 (fun hc169 => ?_) (fun hc169 => ?_)
                · refine r_iload d0_185 rfl ?_
                  refine r_iconst (4 : Int32) rfl d0_187 ?_
                  refine r_icmp_lt d0_188 (fun hc188 => ?_) (fun hc188 => ?_)
                  · refine r_new (hw _ (List.mem_of_getElem? (i := 8) rfl)) (hw _ (List.mem_of_getElem? (i := 9) rfl)) (hw _ (List.mem_of_getElem? (i := 10) rfl)) d0_207 (by decide) (by decide) ?_
                    rintro hn207 ⟨E207, A207, D207⟩
                    obtain ⟨b207, g207⟩ : ∃ z, z = h119.size := ⟨_, rfl⟩
                    rw [← g207] at A207 ⊢
                    simp only [← g207] at D207
                    have F207_coefficients : Fld Z hn207 b207 "com/example/tempera/tempera/problem/Polynomial" "coefficients" "[D" .null := D207 (Or.inr (hw _ (List.mem_of_getElem? (i := 36) rfl))) (ty := (.array .double)) (by decide)
                    show ORun _ _ _ _ _ _ _ _ _ _ hn207 2 3 210 [.val (.int p1), .val (.int p2), .val (.int p3), .val (.int p4), .val (.int p5), .val (.int p6), .val (.int (2 : Int32)), .val (.long x), .second, .val (.long c0), .second, .val (.long d1), .second, .val (.long c2), .second, .val (.long c3), .second, .val (.ref b96), .val (.long (c0 + (d1 * x))), .second, .unset] [(.ref b207)]
                    refine r_dup d0_210 rfl ?_
                    refine r_aload d0_211 rfl rfl ?_
                    have ge207 : n0 ≤ b207 := by rw [g207]; exact Nat.le_trans ge96 (Nat.le_of_lt D119.lt)
                    refine r_special [(.ref b96)] [(.ref b207)] b207 rfl pd0_2 rfl rfl (hw _ (List.mem_of_getElem? (i := 11) rfl)) (hw _ (List.mem_of_getElem? (i := 12) rfl)) (hw _ (List.mem_of_getElem? (i := 10) rfl)) (hw _ (List.mem_of_getElem? (i := 13) rfl)) (by decide) (R' := ({ frames := 2, cells := 1, slots := 4, locals := 30 } : Room)) (ct3_2 hw b207 b96 c0 d1 A207 F207_coefficients ge207 (D119.ext E207) (X119.ext E207) ⟨lc0.1, Int.le_trans lc0.2 (by decide)⟩ ld1 zd1) d0_213 rfl (by decide) 1 rfl (by decide) (by decide) (by decide) ?_
                    rintro _ h213 ⟨rfl, b213, X213, F213, D213⟩
                    show ORun _ _ _ _ _ _ _ _ _ _ h213 3 7 216 [.val (.int p1), .val (.int p2), .val (.int p3), .val (.int p4), .val (.int p5), .val (.int p6), .val (.int (2 : Int32)), .val (.long x), .second, .val (.long c0), .second, .val (.long d1), .second, .val (.long c2), .second, .val (.long c3), .second, .val (.ref b96), .val (.long (c0 + (d1 * x))), .second, .unset] [(.ref b207)]
                    refine r_astore d0_216 rfl [.val (.int p1), .val (.int p2), .val (.int p3), .val (.int p4), .val (.int p5), .val (.int p6), .val (.int (2 : Int32)), .val (.long x), .second, .val (.long c0), .second, .val (.long d1), .second, .val (.long c2), .second, .val (.long c3), .second, .val (.ref b96), .val (.long (c0 + (d1 * x))), .second, .val (.ref b207)] rfl ?_
                    refine r_aload d0_218 rfl rfl ?_
                    refine r_lload d0_220 rfl ?_
                    refine r_l2d d0_222 ?_
                    refine r_virtualP [(.double (FP.l2d x))] [] b207 X213 rfl pd0_3 rfl (hw _ (List.mem_of_getElem? (i := 37) rfl)) (hw _ (List.mem_of_getElem? (i := 38) rfl)) (hw _ (List.mem_of_getElem? (i := 40) rfl)) (hw _ (List.mem_of_getElem? (i := 39) rfl)) (hw _ (List.mem_of_getElem? (i := 10) rfl)) (hw _ (List.mem_of_getElem? (i := 41) rfl)) rfl (by decide) (w := (.double (FP.l2d (d1 * x + c0)))) (R' := ({ frames := 0, cells := 0, slots := 0, locals := 0 } : Room)) (ct7_2 hw b207 b213 x c0 d1 F213 D213 ⟨lx.1, Int.le_trans lx.2 (by decide)⟩ ⟨lc0.1, Int.le_trans lc0.2 (by decide)⟩ ld1) d0_223 rfl (by decide) 0 rfl (by decide) rfl rfl (by decide) (by decide) ?_
                    refine r_lload d0_226 rfl ?_
                    refine r_l2d d0_228 ?_
                    refine r_dcmp (0 : Int32) (by rw [own_ri2 c0 d1 x]; exact dcmpV_self (nn_w rfl) _) d0_229 ?_
                    refine r_if_ne d0_230 (fun hc230 => ?_) (fun hc230 => ?_)
                    · exfalso; exact hc230 rfl
                    · refine r_iconst (1 : Int32) rfl d0_233 ?_
                      refine r_goto d0_234 ?_
                      exact r_nret (t := .boolean) (by simp) d0_238 (by decide) (by decide) (rfl)
                  · exfalso; exact absurd hc188 (by decide)
                · exfalso; exact absurd hc169 (by decide)
            · exfalso; exact absurd hc136 (by decide)
          · exfalso; exact absurd hc123 (by decide)
    · exfalso; exact absurd hc42 (by decide)
  · rw [show Nat.toInt32 2 = (2 : Int32) from rfl]
    refine r_iconst (1 : Int32) rfl d0_3 ?_
    refine r_iadd d0_4 ?_
    rw [show ((2 : Int32) + (1 : Int32)) = (3 : Int32) by decide]
    refine r_istore d0_5 [.val (.int p1), .val (.int p2), .val (.int p3), .val (.int p4), .val (.int p5), .val (.int p6), .val (.int (3 : Int32)), .unset, .unset, .unset, .unset, .unset, .unset, .unset, .unset, .unset, .unset, .unset, .unset, .unset, .unset] rfl ?_
    refine r_iloadN d0_7 rfl ?_
    refine r_static [(.int p2)] [] rfl pd0_0 rfl (hw _ (List.mem_of_getElem? (i := 0) rfl)) (hw _ (List.mem_of_getElem? (i := 1) rfl)) (hw _ (List.mem_of_getElem? (i := 2) rfl)) (hw _ (List.mem_of_getElem? (i := 3) rfl)) (by decide) (R' := ({ frames := 0, cells := 0, slots := 0, locals := 0 } : Room)) (ct1 hw p2) d0_8 rfl (by decide) 0 rfl (by decide) (by decide) (by decide) ?_
    rintro _ hq8 ⟨x, rfl, eq8, lx⟩
    rw [eq8]
    show ORun _ _ _ _ _ _ _ _ _ _ h0 0 0 11 [.val (.int p1), .val (.int p2), .val (.int p3), .val (.int p4), .val (.int p5), .val (.int p6), .val (.int (3 : Int32)), .unset, .unset, .unset, .unset, .unset, .unset, .unset, .unset, .unset, .unset, .unset, .unset, .unset, .unset] [(.long x)]
    refine r_lstore d0_11 [.val (.int p1), .val (.int p2), .val (.int p3), .val (.int p4), .val (.int p5), .val (.int p6), .val (.int (3 : Int32)), .val (.long x), .second, .unset, .unset, .unset, .unset, .unset, .unset, .unset, .unset, .unset, .unset, .unset, .unset] rfl ?_
    refine r_iloadN d0_13 rfl ?_
    refine r_static [(.int p3)] [] rfl pd0_0 rfl (hw _ (List.mem_of_getElem? (i := 0) rfl)) (hw _ (List.mem_of_getElem? (i := 1) rfl)) (hw _ (List.mem_of_getElem? (i := 2) rfl)) (hw _ (List.mem_of_getElem? (i := 3) rfl)) (by decide) (R' := ({ frames := 0, cells := 0, slots := 0, locals := 0 } : Room)) (ct1 hw p3) d0_14 rfl (by decide) 0 rfl (by decide) (by decide) (by decide) ?_
    rintro _ hq14 ⟨c0, rfl, eq14, lc0⟩
    rw [eq14]
    show ORun _ _ _ _ _ _ _ _ _ _ h0 0 0 17 [.val (.int p1), .val (.int p2), .val (.int p3), .val (.int p4), .val (.int p5), .val (.int p6), .val (.int (3 : Int32)), .val (.long x), .second, .unset, .unset, .unset, .unset, .unset, .unset, .unset, .unset, .unset, .unset, .unset, .unset] [(.long c0)]
    refine r_lstore d0_17 [.val (.int p1), .val (.int p2), .val (.int p3), .val (.int p4), .val (.int p5), .val (.int p6), .val (.int (3 : Int32)), .val (.long x), .second, .val (.long c0), .second, .unset, .unset, .unset, .unset, .unset, .unset, .unset, .unset, .unset, .unset] rfl ?_
    refine r_iloadN d0_19 rfl ?_
    refine r_static [(.int p4)] [] rfl pd0_0 rfl (hw _ (List.mem_of_getElem? (i := 0) rfl)) (hw _ (List.mem_of_getElem? (i := 1) rfl)) (hw _ (List.mem_of_getElem? (i := 2) rfl)) (hw _ (List.mem_of_getElem? (i := 3) rfl)) (by decide) (R' := ({ frames := 0, cells := 0, slots := 0, locals := 0 } : Room)) (ct1 hw p4) d0_20 rfl (by decide) 0 rfl (by decide) (by decide) (by decide) ?_
    rintro _ hq20 ⟨c1, rfl, eq20, lc1⟩
    rw [eq20]
    show ORun _ _ _ _ _ _ _ _ _ _ h0 0 0 23 [.val (.int p1), .val (.int p2), .val (.int p3), .val (.int p4), .val (.int p5), .val (.int p6), .val (.int (3 : Int32)), .val (.long x), .second, .val (.long c0), .second, .unset, .unset, .unset, .unset, .unset, .unset, .unset, .unset, .unset, .unset] [(.long c1)]
    refine r_lstore d0_23 [.val (.int p1), .val (.int p2), .val (.int p3), .val (.int p4), .val (.int p5), .val (.int p6), .val (.int (3 : Int32)), .val (.long x), .second, .val (.long c0), .second, .val (.long c1), .second, .unset, .unset, .unset, .unset, .unset, .unset, .unset, .unset] rfl ?_
    refine r_iload d0_25 rfl ?_
    refine r_static [(.int p5)] [] rfl pd0_0 rfl (hw _ (List.mem_of_getElem? (i := 0) rfl)) (hw _ (List.mem_of_getElem? (i := 1) rfl)) (hw _ (List.mem_of_getElem? (i := 2) rfl)) (hw _ (List.mem_of_getElem? (i := 3) rfl)) (by decide) (R' := ({ frames := 0, cells := 0, slots := 0, locals := 0 } : Room)) (ct1 hw p5) d0_27 rfl (by decide) 0 rfl (by decide) (by decide) (by decide) ?_
    rintro _ hq27 ⟨c2, rfl, eq27, lc2⟩
    rw [eq27]
    show ORun _ _ _ _ _ _ _ _ _ _ h0 0 0 30 [.val (.int p1), .val (.int p2), .val (.int p3), .val (.int p4), .val (.int p5), .val (.int p6), .val (.int (3 : Int32)), .val (.long x), .second, .val (.long c0), .second, .val (.long c1), .second, .unset, .unset, .unset, .unset, .unset, .unset, .unset, .unset] [(.long c2)]
    refine r_lstore d0_30 [.val (.int p1), .val (.int p2), .val (.int p3), .val (.int p4), .val (.int p5), .val (.int p6), .val (.int (3 : Int32)), .val (.long x), .second, .val (.long c0), .second, .val (.long c1), .second, .val (.long c2), .second, .unset, .unset, .unset, .unset, .unset, .unset] rfl ?_
    refine r_iload d0_32 rfl ?_
    refine r_static [(.int p6)] [] rfl pd0_0 rfl (hw _ (List.mem_of_getElem? (i := 0) rfl)) (hw _ (List.mem_of_getElem? (i := 1) rfl)) (hw _ (List.mem_of_getElem? (i := 2) rfl)) (hw _ (List.mem_of_getElem? (i := 3) rfl)) (by decide) (R' := ({ frames := 0, cells := 0, slots := 0, locals := 0 } : Room)) (ct1 hw p6) d0_34 rfl (by decide) 0 rfl (by decide) (by decide) (by decide) ?_
    rintro _ hq34 ⟨c3, rfl, eq34, lc3⟩
    rw [eq34]
    show ORun _ _ _ _ _ _ _ _ _ _ h0 0 0 37 [.val (.int p1), .val (.int p2), .val (.int p3), .val (.int p4), .val (.int p5), .val (.int p6), .val (.int (3 : Int32)), .val (.long x), .second, .val (.long c0), .second, .val (.long c1), .second, .val (.long c2), .second, .unset, .unset, .unset, .unset, .unset, .unset] [(.long c3)]
    refine r_lstore d0_37 [.val (.int p1), .val (.int p2), .val (.int p3), .val (.int p4), .val (.int p5), .val (.int p6), .val (.int (3 : Int32)), .val (.long x), .second, .val (.long c0), .second, .val (.long c1), .second, .val (.long c2), .second, .val (.long c3), .second, .unset, .unset, .unset, .unset] rfl ?_
    refine r_iload d0_39 rfl ?_
    refine r_iconst (1 : Int32) rfl d0_41 ?_
    refine r_icmp_ne d0_42 (fun hc42 => ?_) (fun hc42 => ?_)
    · refine r_iload d0_55 rfl ?_
      refine r_iconst (2 : Int32) rfl d0_57 ?_
      refine r_icmp_ne d0_58 (fun hc58 => ?_) (fun hc58 => ?_)
      · refine r_iload d0_71 rfl ?_
        refine r_iconst (3 : Int32) rfl d0_73 ?_
        refine r_icmp_ne d0_74 (fun hc74 => ?_) (fun hc74 => ?_)
        · exfalso; exact absurd hc74 (by decide)
        · refine r_lload d0_77 rfl ?_
          refine r_static [(.long c2)] [] rfl pd0_1 rfl (hw _ (List.mem_of_getElem? (i := 4) rfl)) (hw _ (List.mem_of_getElem? (i := 5) rfl)) (hw _ (List.mem_of_getElem? (i := 2) rfl)) (hw _ (List.mem_of_getElem? (i := 6) rfl)) (by decide) (R' := ({ frames := 0, cells := 0, slots := 0, locals := 0 } : Room)) (ct2 hw c2 lc2) d0_79 rfl (by decide) 0 rfl (by decide) (by decide) (by decide) ?_
          rintro _ hq79 ⟨d2, rfl, eq79, ld2, zd2⟩
          rw [eq79]
          show ORun _ _ _ _ _ _ _ _ _ _ h0 0 0 82 [.val (.int p1), .val (.int p2), .val (.int p3), .val (.int p4), .val (.int p5), .val (.int p6), .val (.int (3 : Int32)), .val (.long x), .second, .val (.long c0), .second, .val (.long c1), .second, .val (.long c2), .second, .val (.long c3), .second, .unset, .unset, .unset, .unset] [(.long d2)]
          refine r_lstore d0_82 [.val (.int p1), .val (.int p2), .val (.int p3), .val (.int p4), .val (.int p5), .val (.int p6), .val (.int (3 : Int32)), .val (.long x), .second, .val (.long c0), .second, .val (.long c1), .second, .val (.long d2), .second, .val (.long c3), .second, .unset, .unset, .unset, .unset] rfl ?_
          refine r_goto d0_84 ?_
          refine r_iload d0_94 rfl ?_
          refine r_newD 3 (hw _ (List.mem_of_getElem? (i := 7) rfl)) d0_96 (by decide) rfl (by decide) (by decide) (by decide) ?_
          rintro h96 ⟨E96, D96, X96⟩
          obtain ⟨b96, g96⟩ : ∃ z, z = h0.size := ⟨_, rfl⟩
          rw [← g96] at D96 X96 ⊢
          have ge96 : n0 ≤ b96 := by rw [g96]; exact hz
          show ORun _ _ _ _ _ _ _ _ _ _ h96 1 3 98 [.val (.int p1), .val (.int p2), .val (.int p3), .val (.int p4), .val (.int p5), .val (.int p6), .val (.int (3 : Int32)), .val (.long x), .second, .val (.long c0), .second, .val (.long c1), .second, .val (.long d2), .second, .val (.long c3), .second, .unset, .unset, .unset, .unset] [(.ref b96)]
          refine r_astore d0_98 rfl [.val (.int p1), .val (.int p2), .val (.int p3), .val (.int p4), .val (.int p5), .val (.int p6), .val (.int (3 : Int32)), .val (.long x), .second, .val (.long c0), .second, .val (.long c1), .second, .val (.long d2), .second, .val (.long c3), .second, .val (.ref b96), .unset, .unset, .unset] rfl ?_
          refine r_aload d0_100 rfl rfl ?_
          refine r_iconst (0 : Int32) rfl d0_102 ?_
          refine r_lload d0_103 rfl ?_
          refine r_l2d d0_105 ?_
          refine r_stD 0 [c0, 0, 0] D96 (by decide) rfl (Nat.le_of_ble_eq_true rfl) rfl ge96 d0_106 ?_
          intro h106 W106 D106
          have X106 := Exa.wr W106 X96
          refine r_iload d0_107 rfl ?_
          refine r_iconst (2 : Int32) rfl d0_109 ?_
          refine r_icmp_lt d0_110 (fun hc110 => ?_) (fun hc110 => ?_)
          · exfalso; exact absurd hc110 (by decide)
          · refine r_aload d0_113 rfl rfl ?_
            refine r_iconst (1 : Int32) rfl d0_115 ?_
            refine r_lload d0_116 rfl ?_
            refine r_l2d d0_118 ?_
            refine r_stD 1 [c0, c1, 0] D106 (by decide) rfl (Nat.le_of_ble_eq_true rfl) rfl ge96 d0_119 ?_
            intro h119 W119 D119
            have X119 := Exa.wr W119 X106
            refine r_iload d0_120 rfl ?_
            refine r_iconst (3 : Int32) rfl d0_122 ?_
            refine r_icmp_lt d0_123 (fun hc123 => ?_) (fun hc123 => ?_)
            · exfalso; exact absurd hc123 (by decide)
            · refine r_aload d0_126 rfl rfl ?_
              refine r_iconst (2 : Int32) rfl d0_128 ?_
              refine r_lload d0_129 rfl ?_
              refine r_l2d d0_131 ?_
              refine r_stD 2 [c0, c1, d2] D119 (by decide) rfl (Nat.le_of_ble_eq_true rfl) rfl ge96 d0_132 ?_
              intro h132 W132 D132
              have X132 := Exa.wr W132 X119
              refine r_iload d0_133 rfl ?_
              refine r_iconst (4 : Int32) rfl d0_135 ?_
              refine r_icmp_lt d0_136 (fun hc136 => ?_) (fun hc136 => ?_)
              · refine r_lload d0_146 rfl ?_
                refine r_lstore d0_148 [.val (.int p1), .val (.int p2), .val (.int p3), .val (.int p4), .val (.int p5), .val (.int p6), .val (.int (3 : Int32)), .val (.long x), .second, .val (.long c0), .second, .val (.long c1), .second, .val (.long d2), .second, .val (.long c3), .second, .val (.ref b96), .val (.long c0), .second, .unset] rfl ?_
                refine r_iload d0_150 rfl ?_
                refine r_iconst (2 : Int32) rfl d0_152 ?_
                refine r_icmp_lt d0_153 (fun hc153 => ?_) (fun hc153 => ?_)
                · exfalso; exact absurd hc153 (by decide)
                · refine r_lload d0_156 rfl ?_
                  refine r_lload d0_158 rfl ?_
                  refine r_lload d0_160 rfl ?_
                  refine r_lmul d0_162 ?_
                  refine r_ladd d0_163 ?_
                  refine r_lstore d0_164 [.val (.int p1), .val (.int p2), .val (.int p3), .val (.int p4), .val (.int p5), .val (.int p6), .val (.int (3 : Int32)), .val (.long x), .second, .val (.long c0), .second, .val (.long c1), .second, .val (.long d2), .second, .val (.long c3), .second, .val (.ref b96), .val (.long (c0 + (c1 * x))), .second, .unset] rfl ?_
                  refine r_iload d0_166 rfl ?_
                  refine r_iconst (3 : Int32) rfl d0_168 ?_
                  refine r_icmp_lt d0_169 (fun hc169 => ?_) (fun hc169 => ?_)
                  · exfalso; exact absurd hc169 (by decide)
                  · refine r_lload d0_172 rfl ?_
                    refine r_lload d0_174 rfl ?_
                    refine r_lload d0_176 rfl ?_
                    refine r_lmul d0_178 ?_
                    refine r_lload d0_179 rfl ?_
                    refine r_lmul d0_181 ?_
                    refine r_ladd d0_182 ?_
                    refine r_lstore d0_183 [.val (.int p1), .val (.int p2), .val (.int p3), .val (.int p4), .val (.int p5), .val (.int p6), .val (.int (3 : Int32)), .val (.long x), .second, .val (.long c0), .second, .val (.long c1), .second, .val (.long d2), .second, .val (.long c3), .second, .val (.ref b96), .val (.long ((c0 + (c1 * x)) + ((d2 * x) * x))), .second, .unset] rfl ?_
                    refine r_iload d0_185 rfl ?_
                    refine r_iconst (4 : Int32) rfl d0_187 ?_
                    refine r_icmp_lt d0_188 (fun hc188 => ?_) (fun hc188 => ?_)
                    · refine r_new (hw _ (List.mem_of_getElem? (i := 8) rfl)) (hw _ (List.mem_of_getElem? (i := 9) rfl)) (hw _ (List.mem_of_getElem? (i := 10) rfl)) d0_207 (by decide) (by decide) ?_
                      rintro hn207 ⟨E207, A207, D207⟩
                      obtain ⟨b207, g207⟩ : ∃ z, z = h132.size := ⟨_, rfl⟩
                      rw [← g207] at A207 ⊢
                      simp only [← g207] at D207
                      have F207_coefficients : Fld Z hn207 b207 "com/example/tempera/tempera/problem/Polynomial" "coefficients" "[D" .null := D207 (Or.inr (hw _ (List.mem_of_getElem? (i := 36) rfl))) (ty := (.array .double)) (by decide)
                      show ORun _ _ _ _ _ _ _ _ _ _ hn207 2 4 210 [.val (.int p1), .val (.int p2), .val (.int p3), .val (.int p4), .val (.int p5), .val (.int p6), .val (.int (3 : Int32)), .val (.long x), .second, .val (.long c0), .second, .val (.long c1), .second, .val (.long d2), .second, .val (.long c3), .second, .val (.ref b96), .val (.long ((c0 + (c1 * x)) + ((d2 * x) * x))), .second, .unset] [(.ref b207)]
                      refine r_dup d0_210 rfl ?_
                      refine r_aload d0_211 rfl rfl ?_
                      have ge207 : n0 ≤ b207 := by rw [g207]; exact Nat.le_trans ge96 (Nat.le_of_lt D132.lt)
                      refine r_special [(.ref b96)] [(.ref b207)] b207 rfl pd0_2 rfl rfl (hw _ (List.mem_of_getElem? (i := 11) rfl)) (hw _ (List.mem_of_getElem? (i := 12) rfl)) (hw _ (List.mem_of_getElem? (i := 10) rfl)) (hw _ (List.mem_of_getElem? (i := 13) rfl)) (by decide) (R' := ({ frames := 2, cells := 1, slots := 4, locals := 30 } : Room)) (ct3_3 hw b207 b96 c0 c1 d2 A207 F207_coefficients ge207 (D132.ext E207) (X132.ext E207) ⟨lc0.1, Int.le_trans lc0.2 (by decide)⟩ ⟨lc1.1, Int.le_trans lc1.2 (by decide)⟩ ld2 zd2) d0_213 rfl (by decide) 1 rfl (by decide) (by decide) (by decide) ?_
                      rintro _ h213 ⟨rfl, b213, X213, F213, D213⟩
                      show ORun _ _ _ _ _ _ _ _ _ _ h213 3 8 216 [.val (.int p1), .val (.int p2), .val (.int p3), .val (.int p4), .val (.int p5), .val (.int p6), .val (.int (3 : Int32)), .val (.long x), .second, .val (.long c0), .second, .val (.long c1), .second, .val (.long d2), .second, .val (.long c3), .second, .val (.ref b96), .val (.long ((c0 + (c1 * x)) + ((d2 * x) * x))), .second, .unset] [(.ref b207)]
                      refine r_astore d0_216 rfl [.val (.int p1), .val (.int p2), .val (.int p3), .val (.int p4), .val (.int p5), .val (.int p6), .val (.int (3 : Int32)), .val (.long x), .second, .val (.long c0), .second, .val (.long c1), .second, .val (.long d2), .second, .val (.long c3), .second, .val (.ref b96), .val (.long ((c0 + (c1 * x)) + ((d2 * x) * x))), .second, .val (.ref b207)] rfl ?_
                      refine r_aload d0_218 rfl rfl ?_
                      refine r_lload d0_220 rfl ?_
                      refine r_l2d d0_222 ?_
                      refine r_virtualP [(.double (FP.l2d x))] [] b207 X213 rfl pd0_3 rfl (hw _ (List.mem_of_getElem? (i := 37) rfl)) (hw _ (List.mem_of_getElem? (i := 38) rfl)) (hw _ (List.mem_of_getElem? (i := 40) rfl)) (hw _ (List.mem_of_getElem? (i := 39) rfl)) (hw _ (List.mem_of_getElem? (i := 10) rfl)) (hw _ (List.mem_of_getElem? (i := 41) rfl)) rfl (by decide) (w := (.double (FP.l2d ((d2 * x + c1) * x + c0)))) (R' := ({ frames := 0, cells := 0, slots := 0, locals := 0 } : Room)) (ct7_3 hw b207 b213 x c0 c1 d2 F213 D213 ⟨lx.1, Int.le_trans lx.2 (by decide)⟩ ⟨lc0.1, Int.le_trans lc0.2 (by decide)⟩ ⟨lc1.1, Int.le_trans lc1.2 (by decide)⟩ ld2) d0_223 rfl (by decide) 0 rfl (by decide) rfl rfl (by decide) (by decide) ?_
                      refine r_lload d0_226 rfl ?_
                      refine r_l2d d0_228 ?_
                      refine r_dcmp (0 : Int32) (by rw [own_ri3 c0 c1 d2 x]; exact dcmpV_self (nn_w rfl) _) d0_229 ?_
                      refine r_if_ne d0_230 (fun hc230 => ?_) (fun hc230 => ?_)
                      · exfalso; exact hc230 rfl
                      · refine r_iconst (1 : Int32) rfl d0_233 ?_
                        refine r_goto d0_234 ?_
                        exact r_nret (t := .boolean) (by simp) d0_238 (by decide) (by decide) (rfl)
                    · exfalso; exact absurd hc188 (by decide)
              · exfalso; exact absurd hc136 (by decide)
      · exfalso; exact absurd hc58 (by decide)
    · exfalso; exact absurd hc42 (by decide)
  · rw [show Nat.toInt32 3 = (3 : Int32) from rfl]
    refine r_iconst (1 : Int32) rfl d0_3 ?_
    refine r_iadd d0_4 ?_
    rw [show ((3 : Int32) + (1 : Int32)) = (4 : Int32) by decide]
    refine r_istore d0_5 [.val (.int p1), .val (.int p2), .val (.int p3), .val (.int p4), .val (.int p5), .val (.int p6), .val (.int (4 : Int32)), .unset, .unset, .unset, .unset, .unset, .unset, .unset, .unset, .unset, .unset, .unset, .unset, .unset, .unset] rfl ?_
    refine r_iloadN d0_7 rfl ?_
    refine r_static [(.int p2)] [] rfl pd0_0 rfl (hw _ (List.mem_of_getElem? (i := 0) rfl)) (hw _ (List.mem_of_getElem? (i := 1) rfl)) (hw _ (List.mem_of_getElem? (i := 2) rfl)) (hw _ (List.mem_of_getElem? (i := 3) rfl)) (by decide) (R' := ({ frames := 0, cells := 0, slots := 0, locals := 0 } : Room)) (ct1 hw p2) d0_8 rfl (by decide) 0 rfl (by decide) (by decide) (by decide) ?_
    rintro _ hq8 ⟨x, rfl, eq8, lx⟩
    rw [eq8]
    show ORun _ _ _ _ _ _ _ _ _ _ h0 0 0 11 [.val (.int p1), .val (.int p2), .val (.int p3), .val (.int p4), .val (.int p5), .val (.int p6), .val (.int (4 : Int32)), .unset, .unset, .unset, .unset, .unset, .unset, .unset, .unset, .unset, .unset, .unset, .unset, .unset, .unset] [(.long x)]
    refine r_lstore d0_11 [.val (.int p1), .val (.int p2), .val (.int p3), .val (.int p4), .val (.int p5), .val (.int p6), .val (.int (4 : Int32)), .val (.long x), .second, .unset, .unset, .unset, .unset, .unset, .unset, .unset, .unset, .unset, .unset, .unset, .unset] rfl ?_
    refine r_iloadN d0_13 rfl ?_
    refine r_static [(.int p3)] [] rfl pd0_0 rfl (hw _ (List.mem_of_getElem? (i := 0) rfl)) (hw _ (List.mem_of_getElem? (i := 1) rfl)) (hw _ (List.mem_of_getElem? (i := 2) rfl)) (hw _ (List.mem_of_getElem? (i := 3) rfl)) (by decide) (R' := ({ frames := 0, cells := 0, slots := 0, locals := 0 } : Room)) (ct1 hw p3) d0_14 rfl (by decide) 0 rfl (by decide) (by decide) (by decide) ?_
    rintro _ hq14 ⟨c0, rfl, eq14, lc0⟩
    rw [eq14]
    show ORun _ _ _ _ _ _ _ _ _ _ h0 0 0 17 [.val (.int p1), .val (.int p2), .val (.int p3), .val (.int p4), .val (.int p5), .val (.int p6), .val (.int (4 : Int32)), .val (.long x), .second, .unset, .unset, .unset, .unset, .unset, .unset, .unset, .unset, .unset, .unset, .unset, .unset] [(.long c0)]
    refine r_lstore d0_17 [.val (.int p1), .val (.int p2), .val (.int p3), .val (.int p4), .val (.int p5), .val (.int p6), .val (.int (4 : Int32)), .val (.long x), .second, .val (.long c0), .second, .unset, .unset, .unset, .unset, .unset, .unset, .unset, .unset, .unset, .unset] rfl ?_
    refine r_iloadN d0_19 rfl ?_
    refine r_static [(.int p4)] [] rfl pd0_0 rfl (hw _ (List.mem_of_getElem? (i := 0) rfl)) (hw _ (List.mem_of_getElem? (i := 1) rfl)) (hw _ (List.mem_of_getElem? (i := 2) rfl)) (hw _ (List.mem_of_getElem? (i := 3) rfl)) (by decide) (R' := ({ frames := 0, cells := 0, slots := 0, locals := 0 } : Room)) (ct1 hw p4) d0_20 rfl (by decide) 0 rfl (by decide) (by decide) (by decide) ?_
    rintro _ hq20 ⟨c1, rfl, eq20, lc1⟩
    rw [eq20]
    show ORun _ _ _ _ _ _ _ _ _ _ h0 0 0 23 [.val (.int p1), .val (.int p2), .val (.int p3), .val (.int p4), .val (.int p5), .val (.int p6), .val (.int (4 : Int32)), .val (.long x), .second, .val (.long c0), .second, .unset, .unset, .unset, .unset, .unset, .unset, .unset, .unset, .unset, .unset] [(.long c1)]
    refine r_lstore d0_23 [.val (.int p1), .val (.int p2), .val (.int p3), .val (.int p4), .val (.int p5), .val (.int p6), .val (.int (4 : Int32)), .val (.long x), .second, .val (.long c0), .second, .val (.long c1), .second, .unset, .unset, .unset, .unset, .unset, .unset, .unset, .unset] rfl ?_
    refine r_iload d0_25 rfl ?_
    refine r_static [(.int p5)] [] rfl pd0_0 rfl (hw _ (List.mem_of_getElem? (i := 0) rfl)) (hw _ (List.mem_of_getElem? (i := 1) rfl)) (hw _ (List.mem_of_getElem? (i := 2) rfl)) (hw _ (List.mem_of_getElem? (i := 3) rfl)) (by decide) (R' := ({ frames := 0, cells := 0, slots := 0, locals := 0 } : Room)) (ct1 hw p5) d0_27 rfl (by decide) 0 rfl (by decide) (by decide) (by decide) ?_
    rintro _ hq27 ⟨c2, rfl, eq27, lc2⟩
    rw [eq27]
    show ORun _ _ _ _ _ _ _ _ _ _ h0 0 0 30 [.val (.int p1), .val (.int p2), .val (.int p3), .val (.int p4), .val (.int p5), .val (.int p6), .val (.int (4 : Int32)), .val (.long x), .second, .val (.long c0), .second, .val (.long c1), .second, .unset, .unset, .unset, .unset, .unset, .unset, .unset, .unset] [(.long c2)]
    refine r_lstore d0_30 [.val (.int p1), .val (.int p2), .val (.int p3), .val (.int p4), .val (.int p5), .val (.int p6), .val (.int (4 : Int32)), .val (.long x), .second, .val (.long c0), .second, .val (.long c1), .second, .val (.long c2), .second, .unset, .unset, .unset, .unset, .unset, .unset] rfl ?_
    refine r_iload d0_32 rfl ?_
    refine r_static [(.int p6)] [] rfl pd0_0 rfl (hw _ (List.mem_of_getElem? (i := 0) rfl)) (hw _ (List.mem_of_getElem? (i := 1) rfl)) (hw _ (List.mem_of_getElem? (i := 2) rfl)) (hw _ (List.mem_of_getElem? (i := 3) rfl)) (by decide) (R' := ({ frames := 0, cells := 0, slots := 0, locals := 0 } : Room)) (ct1 hw p6) d0_34 rfl (by decide) 0 rfl (by decide) (by decide) (by decide) ?_
    rintro _ hq34 ⟨c3, rfl, eq34, lc3⟩
    rw [eq34]
    show ORun _ _ _ _ _ _ _ _ _ _ h0 0 0 37 [.val (.int p1), .val (.int p2), .val (.int p3), .val (.int p4), .val (.int p5), .val (.int p6), .val (.int (4 : Int32)), .val (.long x), .second, .val (.long c0), .second, .val (.long c1), .second, .val (.long c2), .second, .unset, .unset, .unset, .unset, .unset, .unset] [(.long c3)]
    refine r_lstore d0_37 [.val (.int p1), .val (.int p2), .val (.int p3), .val (.int p4), .val (.int p5), .val (.int p6), .val (.int (4 : Int32)), .val (.long x), .second, .val (.long c0), .second, .val (.long c1), .second, .val (.long c2), .second, .val (.long c3), .second, .unset, .unset, .unset, .unset] rfl ?_
    refine r_iload d0_39 rfl ?_
    refine r_iconst (1 : Int32) rfl d0_41 ?_
    refine r_icmp_ne d0_42 (fun hc42 => ?_) (fun hc42 => ?_)
    · refine r_iload d0_55 rfl ?_
      refine r_iconst (2 : Int32) rfl d0_57 ?_
      refine r_icmp_ne d0_58 (fun hc58 => ?_) (fun hc58 => ?_)
      · refine r_iload d0_71 rfl ?_
        refine r_iconst (3 : Int32) rfl d0_73 ?_
        refine r_icmp_ne d0_74 (fun hc74 => ?_) (fun hc74 => ?_)
        · refine r_lload d0_87 rfl ?_
          refine r_static [(.long c3)] [] rfl pd0_1 rfl (hw _ (List.mem_of_getElem? (i := 4) rfl)) (hw _ (List.mem_of_getElem? (i := 5) rfl)) (hw _ (List.mem_of_getElem? (i := 2) rfl)) (hw _ (List.mem_of_getElem? (i := 6) rfl)) (by decide) (R' := ({ frames := 0, cells := 0, slots := 0, locals := 0 } : Room)) (ct2 hw c3 lc3) d0_89 rfl (by decide) 0 rfl (by decide) (by decide) (by decide) ?_
          rintro _ hq89 ⟨d3, rfl, eq89, ld3, zd3⟩
          rw [eq89]
          show ORun _ _ _ _ _ _ _ _ _ _ h0 0 0 92 [.val (.int p1), .val (.int p2), .val (.int p3), .val (.int p4), .val (.int p5), .val (.int p6), .val (.int (4 : Int32)), .val (.long x), .second, .val (.long c0), .second, .val (.long c1), .second, .val (.long c2), .second, .val (.long c3), .second, .unset, .unset, .unset, .unset] [(.long d3)]
          refine r_lstore d0_92 [.val (.int p1), .val (.int p2), .val (.int p3), .val (.int p4), .val (.int p5), .val (.int p6), .val (.int (4 : Int32)), .val (.long x), .second, .val (.long c0), .second, .val (.long c1), .second, .val (.long c2), .second, .val (.long d3), .second, .unset, .unset, .unset, .unset] rfl ?_
          refine r_iload d0_94 rfl ?_
          refine r_newD 4 (hw _ (List.mem_of_getElem? (i := 7) rfl)) d0_96 (by decide) rfl (by decide) (by decide) (by decide) ?_
          rintro h96 ⟨E96, D96, X96⟩
          obtain ⟨b96, g96⟩ : ∃ z, z = h0.size := ⟨_, rfl⟩
          rw [← g96] at D96 X96 ⊢
          have ge96 : n0 ≤ b96 := by rw [g96]; exact hz
          show ORun _ _ _ _ _ _ _ _ _ _ h96 1 4 98 [.val (.int p1), .val (.int p2), .val (.int p3), .val (.int p4), .val (.int p5), .val (.int p6), .val (.int (4 : Int32)), .val (.long x), .second, .val (.long c0), .second, .val (.long c1), .second, .val (.long c2), .second, .val (.long d3), .second, .unset, .unset, .unset, .unset] [(.ref b96)]
          refine r_astore d0_98 rfl [.val (.int p1), .val (.int p2), .val (.int p3), .val (.int p4), .val (.int p5), .val (.int p6), .val (.int (4 : Int32)), .val (.long x), .second, .val (.long c0), .second, .val (.long c1), .second, .val (.long c2), .second, .val (.long d3), .second, .val (.ref b96), .unset, .unset, .unset] rfl ?_
          refine r_aload d0_100 rfl rfl ?_
          refine r_iconst (0 : Int32) rfl d0_102 ?_
          refine r_lload d0_103 rfl ?_
          refine r_l2d d0_105 ?_
          refine r_stD 0 [c0, 0, 0, 0] D96 (by decide) rfl (Nat.le_of_ble_eq_true rfl) rfl ge96 d0_106 ?_
          intro h106 W106 D106
          have X106 := Exa.wr W106 X96
          refine r_iload d0_107 rfl ?_
          refine r_iconst (2 : Int32) rfl d0_109 ?_
          refine r_icmp_lt d0_110 (fun hc110 => ?_) (fun hc110 => ?_)
          · exfalso; exact absurd hc110 (by decide)
          · refine r_aload d0_113 rfl rfl ?_
            refine r_iconst (1 : Int32) rfl d0_115 ?_
            refine r_lload d0_116 rfl ?_
            refine r_l2d d0_118 ?_
            refine r_stD 1 [c0, c1, 0, 0] D106 (by decide) rfl (Nat.le_of_ble_eq_true rfl) rfl ge96 d0_119 ?_
            intro h119 W119 D119
            have X119 := Exa.wr W119 X106
            refine r_iload d0_120 rfl ?_
            refine r_iconst (3 : Int32) rfl d0_122 ?_
            refine r_icmp_lt d0_123 (fun hc123 => ?_) (fun hc123 => ?_)
            · exfalso; exact absurd hc123 (by decide)
            · refine r_aload d0_126 rfl rfl ?_
              refine r_iconst (2 : Int32) rfl d0_128 ?_
              refine r_lload d0_129 rfl ?_
              refine r_l2d d0_131 ?_
              refine r_stD 2 [c0, c1, c2, 0] D119 (by decide) rfl (Nat.le_of_ble_eq_true rfl) rfl ge96 d0_132 ?_
              intro h132 W132 D132
              have X132 := Exa.wr W132 X119
              refine r_iload d0_133 rfl ?_
              refine r_iconst (4 : Int32) rfl d0_135 ?_
              refine r_icmp_lt d0_136 (fun hc136 => ?_) (fun hc136 => ?_)
              · exfalso; exact absurd hc136 (by decide)
              · refine r_aload d0_139 rfl rfl ?_
                refine r_iconst (3 : Int32) rfl d0_141 ?_
                refine r_lload d0_142 rfl ?_
                refine r_l2d d0_144 ?_
                refine r_stD 3 [c0, c1, c2, d3] D132 (by decide) rfl (Nat.le_of_ble_eq_true rfl) rfl ge96 d0_145 ?_
                intro h145 W145 D145
                have X145 := Exa.wr W145 X132
                refine r_lload d0_146 rfl ?_
                refine r_lstore d0_148 [.val (.int p1), .val (.int p2), .val (.int p3), .val (.int p4), .val (.int p5), .val (.int p6), .val (.int (4 : Int32)), .val (.long x), .second, .val (.long c0), .second, .val (.long c1), .second, .val (.long c2), .second, .val (.long d3), .second, .val (.ref b96), .val (.long c0), .second, .unset] rfl ?_
                refine r_iload d0_150 rfl ?_
                refine r_iconst (2 : Int32) rfl d0_152 ?_
                refine r_icmp_lt d0_153 (fun hc153 => ?_) (fun hc153 => ?_)
                · exfalso; exact absurd hc153 (by decide)
                · refine r_lload d0_156 rfl ?_
                  refine r_lload d0_158 rfl ?_
                  refine r_lload d0_160 rfl ?_
                  refine r_lmul d0_162 ?_
                  refine r_ladd d0_163 ?_
                  refine r_lstore d0_164 [.val (.int p1), .val (.int p2), .val (.int p3), .val (.int p4), .val (.int p5), .val (.int p6), .val (.int (4 : Int32)), .val (.long x), .second, .val (.long c0), .second, .val (.long c1), .second, .val (.long c2), .second, .val (.long d3), .second, .val (.ref b96), .val (.long (c0 + (c1 * x))), .second, .unset] rfl ?_
                  refine r_iload d0_166 rfl ?_
                  refine r_iconst (3 : Int32) rfl d0_168 ?_
                  refine r_icmp_lt d0_169 (fun hc169 => ?_) (fun hc169 => ?_)
                  · exfalso; exact absurd hc169 (by decide)
                  · refine r_lload d0_172 rfl ?_
                    refine r_lload d0_174 rfl ?_
                    refine r_lload d0_176 rfl ?_
                    refine r_lmul d0_178 ?_
                    refine r_lload d0_179 rfl ?_
                    refine r_lmul d0_181 ?_
                    refine r_ladd d0_182 ?_
                    refine r_lstore d0_183 [.val (.int p1), .val (.int p2), .val (.int p3), .val (.int p4), .val (.int p5), .val (.int p6), .val (.int (4 : Int32)), .val (.long x), .second, .val (.long c0), .second, .val (.long c1), .second, .val (.long c2), .second, .val (.long d3), .second, .val (.ref b96), .val (.long ((c0 + (c1 * x)) + ((c2 * x) * x))), .second, .unset] rfl ?_
                    refine r_iload d0_185 rfl ?_
                    refine r_iconst (4 : Int32) rfl d0_187 ?_
                    refine r_icmp_lt d0_188 (fun hc188 => ?_) (fun hc188 => ?_)
                    · exfalso; exact absurd hc188 (by decide)
                    · refine r_lload d0_191 rfl ?_
                      refine r_lload d0_193 rfl ?_
                      refine r_lload d0_195 rfl ?_
                      refine r_lmul d0_197 ?_
                      refine r_lload d0_198 rfl ?_
                      refine r_lmul d0_200 ?_
                      refine r_lload d0_201 rfl ?_
                      refine r_lmul d0_203 ?_
                      refine r_ladd d0_204 ?_
                      refine r_lstore d0_205 [.val (.int p1), .val (.int p2), .val (.int p3), .val (.int p4), .val (.int p5), .val (.int p6), .val (.int (4 : Int32)), .val (.long x), .second, .val (.long c0), .second, .val (.long c1), .second, .val (.long c2), .second, .val (.long d3), .second, .val (.ref b96), .val (.long (((c0 + (c1 * x)) + ((c2 * x) * x)) + (((d3 * x) * x) * x))), .second, .unset] rfl ?_
                      refine r_new (hw _ (List.mem_of_getElem? (i := 8) rfl)) (hw _ (List.mem_of_getElem? (i := 9) rfl)) (hw _ (List.mem_of_getElem? (i := 10) rfl)) d0_207 (by decide) (by decide) ?_
                      rintro hn207 ⟨E207, A207, D207⟩
                      obtain ⟨b207, g207⟩ : ∃ z, z = h145.size := ⟨_, rfl⟩
                      rw [← g207] at A207 ⊢
                      simp only [← g207] at D207
                      have F207_coefficients : Fld Z hn207 b207 "com/example/tempera/tempera/problem/Polynomial" "coefficients" "[D" .null := D207 (Or.inr (hw _ (List.mem_of_getElem? (i := 36) rfl))) (ty := (.array .double)) (by decide)
                      show ORun _ _ _ _ _ _ _ _ _ _ hn207 2 5 210 [.val (.int p1), .val (.int p2), .val (.int p3), .val (.int p4), .val (.int p5), .val (.int p6), .val (.int (4 : Int32)), .val (.long x), .second, .val (.long c0), .second, .val (.long c1), .second, .val (.long c2), .second, .val (.long d3), .second, .val (.ref b96), .val (.long (((c0 + (c1 * x)) + ((c2 * x) * x)) + (((d3 * x) * x) * x))), .second, .unset] [(.ref b207)]
                      refine r_dup d0_210 rfl ?_
                      refine r_aload d0_211 rfl rfl ?_
                      have ge207 : n0 ≤ b207 := by rw [g207]; exact Nat.le_trans ge96 (Nat.le_of_lt D145.lt)
                      refine r_special [(.ref b96)] [(.ref b207)] b207 rfl pd0_2 rfl rfl (hw _ (List.mem_of_getElem? (i := 11) rfl)) (hw _ (List.mem_of_getElem? (i := 12) rfl)) (hw _ (List.mem_of_getElem? (i := 10) rfl)) (hw _ (List.mem_of_getElem? (i := 13) rfl)) (by decide) (R' := ({ frames := 2, cells := 1, slots := 4, locals := 30 } : Room)) (ct3_4 hw b207 b96 c0 c1 c2 d3 A207 F207_coefficients ge207 (D145.ext E207) (X145.ext E207) ⟨lc0.1, Int.le_trans lc0.2 (by decide)⟩ ⟨lc1.1, Int.le_trans lc1.2 (by decide)⟩ ⟨lc2.1, Int.le_trans lc2.2 (by decide)⟩ ld3 zd3) d0_213 rfl (by decide) 1 rfl (by decide) (by decide) (by decide) ?_
                      rintro _ h213 ⟨rfl, b213, X213, F213, D213⟩
                      show ORun _ _ _ _ _ _ _ _ _ _ h213 3 9 216 [.val (.int p1), .val (.int p2), .val (.int p3), .val (.int p4), .val (.int p5), .val (.int p6), .val (.int (4 : Int32)), .val (.long x), .second, .val (.long c0), .second, .val (.long c1), .second, .val (.long c2), .second, .val (.long d3), .second, .val (.ref b96), .val (.long (((c0 + (c1 * x)) + ((c2 * x) * x)) + (((d3 * x) * x) * x))), .second, .unset] [(.ref b207)]
                      refine r_astore d0_216 rfl [.val (.int p1), .val (.int p2), .val (.int p3), .val (.int p4), .val (.int p5), .val (.int p6), .val (.int (4 : Int32)), .val (.long x), .second, .val (.long c0), .second, .val (.long c1), .second, .val (.long c2), .second, .val (.long d3), .second, .val (.ref b96), .val (.long (((c0 + (c1 * x)) + ((c2 * x) * x)) + (((d3 * x) * x) * x))), .second, .val (.ref b207)] rfl ?_
                      refine r_aload d0_218 rfl rfl ?_
                      refine r_lload d0_220 rfl ?_
                      refine r_l2d d0_222 ?_
                      refine r_virtualP [(.double (FP.l2d x))] [] b207 X213 rfl pd0_3 rfl (hw _ (List.mem_of_getElem? (i := 37) rfl)) (hw _ (List.mem_of_getElem? (i := 38) rfl)) (hw _ (List.mem_of_getElem? (i := 40) rfl)) (hw _ (List.mem_of_getElem? (i := 39) rfl)) (hw _ (List.mem_of_getElem? (i := 10) rfl)) (hw _ (List.mem_of_getElem? (i := 41) rfl)) rfl (by decide) (w := (.double (FP.l2d (((d3 * x + c2) * x + c1) * x + c0)))) (R' := ({ frames := 0, cells := 0, slots := 0, locals := 0 } : Room)) (ct7_4 hw b207 b213 x c0 c1 c2 d3 F213 D213 ⟨lx.1, Int.le_trans lx.2 (by decide)⟩ ⟨lc0.1, Int.le_trans lc0.2 (by decide)⟩ ⟨lc1.1, Int.le_trans lc1.2 (by decide)⟩ ⟨lc2.1, Int.le_trans lc2.2 (by decide)⟩ ld3) d0_223 rfl (by decide) 0 rfl (by decide) rfl rfl (by decide) (by decide) ?_
                      refine r_lload d0_226 rfl ?_
                      refine r_l2d d0_228 ?_
                      refine r_dcmp (0 : Int32) (by rw [own_ri4 c0 c1 c2 d3 x]; exact dcmpV_self (nn_w rfl) _) d0_229 ?_
                      refine r_if_ne d0_230 (fun hc230 => ?_) (fun hc230 => ?_)
                      · exfalso; exact hc230 rfl
                      · refine r_iconst (1 : Int32) rfl d0_233 ?_
                        refine r_goto d0_234 ?_
                        exact r_nret (t := .boolean) (by simp) d0_238 (by decide) (by decide) (rfl)
        · exfalso; exact absurd hc74 (by decide)
      · exfalso; exact absurd hc58 (by decide)
    · exfalso; exact absurd hc42 (by decide)
set_option maxRecDepth 65536 in
set_option maxHeartbeats 40000000 in
theorem comes_1 {Post : Tables → Env → Array Value → State → Outcome → State → Prop} (hpost : ∀ tb e args s v u, (limb_1_1.after args s (.returned v) u = true ∧ limb_1_2.after args s (.returned v) u = true ∧ True) → FrameEnd s (.returned v) u (Jvm.fieldLocs frame_1_writes args s ++ Jvm.arrayLocs frame_1_arrays args s ++ Jvm.staticLocs frame_1_statics s) 16 128 → Post tb e args s (.returned v) u) :
    ArmFor flags0 classFile x code maxLocals ret World_1 tables_1 room_1 Calls_1 rest_1 Pre_1 Post := by
  intro l hfl _ _ p e ha hc hk s m args below hf hA hF happ hP
  obtain ⟨hcalls, hrest, hpre⟩ := hP
  obtain ⟨-, -, -, hnamed, -, -, -, hat⟩ := (Spec.applies_iff hf).mp happ
  obtain ⟨hg, hn⟩ := and_e (Cond.before_iff.mp (show (Jvm.Cond.and given_1 narrow_1).before args s = true from hpre))
  obtain ⟨g1, g2⟩ := and_e hg
  obtain ⟨g3, g4⟩ := and_e g2
  obtain ⟨g5, g6⟩ := and_e g4
  obtain ⟨g7, g8⟩ := and_e g6
  obtain ⟨g9, g10⟩ := and_e g8
  obtain ⟨g11, g12⟩ := and_e g10
  obtain ⟨w0, w1, w2, w3, w4, w5, rfl⟩ : ∃ w0 w1 w2 w3 w4 w5 : Value, args = #[w0, w1, w2, w3, w4, w5] := by
    have hs : args.size = 6 := by simpa [Cond.value, given_1] using g1
    obtain ⟨L⟩ := args
    match L, hs with
    | [w0, w1, w2, w3, w4, w5], _ => exact ⟨w0, w1, w2, w3, w4, w5, rfl⟩
  have hw := fun d (hd : d ∈ tables_1) => atoms_spec (ws := Jvm.Cond.code x code maxLocals ret :: tables_1) hat d (List.mem_cons_of_mem _ hd)
  have hfit : Fit s := fun {y c} hc i hi => by
    obtain ⟨ha, rfl⟩ := Array.getElem?_eq_some_iff.mp hc
    have q := List.all_eq_true.mp ((Array.all_eq_true_iff_forall_mem.mp hF) _ (Array.getElem_mem ha)) i (List.mem_range.mpr hi)
    simpa [Array.getElem?_eq_getElem hi] using q
  obtain ⟨i0, ei0⟩ := is_v g3
  obtain rfl : w0 = (.int i0) := Option.some.inj ei0
  obtain ⟨i1, ei1⟩ := is_v g5
  obtain rfl : w1 = (.int i1) := Option.some.inj ei1
  obtain ⟨i2, ei2⟩ := is_v g7
  obtain rfl : w2 = (.int i2) := Option.some.inj ei2
  obtain ⟨i3, ei3⟩ := is_v g9
  obtain rfl : w3 = (.int i3) := Option.some.inj ei3
  obtain ⟨i4, ei4⟩ := is_v g11
  obtain rfl : w4 = (.int i4) := Option.some.inj ei4
  obtain ⟨i5, ei5⟩ := is_v g12
  obtain rfl : w5 = (.int i5) := Option.some.inj ei5
  obtain ⟨n, o, h1, h2, h3, _, L, rfl, ⟨rfl, N⟩, hq⟩ := ct0 (n0 := s.heap.size) hw (Nat.le_refl _) i0 i1 i2 i3 i4 i5 p e ha hc hk s m _ below hf ((Spec.applies_iff_loose hf).mp happ).1 ⟨rfl, State.Warmed39.refl s, rfl⟩ trivial
  exact ⟨n, _, h1, h2, h3, hpost _ _ _ _ _ _ ⟨Cond.after_iff.mpr rfl, Cond.after_iff.mpr (eq_i res_at (Term.int_eval (1)) rfl), trivial⟩ ⟨hq.1, hq.2.1, (hq.2.2.sift fun y hy => Or.inr (N y hy)).mono (by decide) (by decide)⟩⟩
theorem main_1_1 : Claimed_1_1 := comes_1 fun _ _ _ _ _ _ h hF => ⟨h.1, hF⟩
theorem main_1_2 : Claimed_1_2 := comes_1 fun _ _ _ _ _ _ h hF => ⟨h.2.1, hF⟩
end Jvm.Pilot.@@N@@
namespace Jvm.Pilot.@@N@@
open Jvm Jvm.ClassFile Sem Op Lib Jvm.Free Jvm.Stand Jvm.Pilot.@@N@@.Jvm.D
/-! MADE BY PROGRAM (witnessworld.py) out of the Statement's table words and the real class files: 18 classes; the members and pool entries that the words name. The judged class is class 1, her method 3. -/
namespace start1
open Jvm.ClassFile
def u (s : String) : CpInfo := .utf8 (stringToUtf16 s)
/-- a pool by its gaps: so many unusable entries, then the entry; so many at the end -/
def gap : Nat → List CpInfo → List CpInfo
  | 0, r => r
  | n + 1, r => .unusable :: gap n r
def poolList (es : List (Nat × CpInfo)) (last : Nat) : List CpInfo := es.foldr (fun e r => gap e.1 (e.2 :: r)) (gap last [])
def pool (es : List (Nat × CpInfo)) (last : Nat) : Array CpInfo := ⟨poolList es last⟩
def fileOf (pool : Array CpInfo) (this : Nat) (attrs : Array Attribute := #[]) (ms : Array MethodInfo := #[]) (fl : Nat := 33) (sup : Nat := 0) (ifs : Array Nat := #[]) (fds : Array FieldInfo := #[]) : ClassFile where
  minorVersion := 0
  majorVersion := 65
  constantPool := pool
  accessFlags := fl
  thisClass := this
  superClass := sup
  interfaces := ifs
  fields := fds
  methods := ms
  attributes := attrs
def plain (name : String) (sup : Option ClassId) : Class where
  name := name
  kind := .ordinary
  loader := none
  accessFlags := 33
  super := sup
  interfaces := #[]
  cf := none
  fields := #[]
  methods := #[]
  instanceTypes := #[]
  staticTypes := #[]
  resolved := #[]
  callSites := []
  init := .initialized
  statics := none
  mirror := none

def pool0 : Array CpInfo := pool [(5, u "<init>"), (0, u "()V"), (1, .class_ 10), (1, u "java/lang/Object"), (85, u "clone"), (0, u "()Ljava/lang/Object;")] 26

def k0c0 : Code := { maxStack := 0, maxLocals := 1, code := object_method_1_code, exceptionTable := #[], attributes := #[] }
def k0m0 : Method := { name := "<init>", desc := "()V", sig := { parameters := [], returnType := none }, accessFlags := 1, code := some k0c0 }
def k0m1 : Method := { name := "clone", desc := "()Ljava/lang/Object;", sig := { parameters := [], returnType := some (.object "java/lang/Object") }, accessFlags := 260, code := none }
/-- java/lang/Object -/
def k0 : Class := { plain "java/lang/Object" none with
  accessFlags := 33
  interfaces := #[]
  cf := some (fileOf pool0 8 #[] #[{ accessFlags := 1, nameIndex := 5, descriptorIndex := 6, attributes := #[] }, { accessFlags := 260, nameIndex := 96, descriptorIndex := 97, attributes := #[] }] 33 0 #[] #[])
  fields := #[]
  methods := #[k0m0, k0m1]
  instanceTypes := #[]
  staticTypes := #[]
  resolved := Array.replicate 124 none
  statics := none }

def pool1 : Array CpInfo := pool [(2, .class_ 4), (1, u "java/lang/Object"), (0, u "<init>"), (0, u "()V"), (0, .methodref 8 9), (0, .class_ 10), (0, .nameAndType 11 12), (0, u "com/example/tempera/tempera/problem/PolynomialValueAtPinLaw"), (0, u "signed13"), (0, u "(I)J"), (0, .methodref 8 14), (0, .nameAndType 15 16), (0, u "nonZero"), (0, u "(J)J"), (0, .class_ 18), (0, u "com/example/tempera/tempera/problem/Polynomial"), (0, .methodref 17 20), (0, .nameAndType 5 21), (0, u "([D)V"), (0, .methodref 17 23), (0, .nameAndType 24 25), (0, u "valueAt"), (0, u "(D)D"), (3, u "law"), (0, u "(IIIIII)Z")] 4

def k1m0 : Method := { name := "<init>", desc := "()V", sig := { parameters := [], returnType := none }, accessFlags := 1, code := none }
def k1c1 : Code := { maxStack := 2, maxLocals := 1, code := method_2_code, exceptionTable := #[], attributes := #[] }
def k1m1 : Method := { name := "signed13", desc := "(I)J", sig := { parameters := [.int], returnType := some .long }, accessFlags := 10, code := some k1c1 }
def k1c2 : Code := { maxStack := 4, maxLocals := 2, code := method_3_code, exceptionTable := #[], attributes := #[] }
def k1m2 : Method := { name := "nonZero", desc := "(J)J", sig := { parameters := [.long], returnType := some .long }, accessFlags := 10, code := some k1c2 }
def k1c3 : Code := { maxStack := 6, maxLocals := 21, code := code, exceptionTable := #[], attributes := #[] }
def k1m3 : Method := { name := "law", desc := "(IIIIII)Z", sig := { parameters := [.int, .int, .int, .int, .int, .int], returnType := some .boolean }, accessFlags := 9, code := some k1c3 }
/-- com/example/tempera/tempera/problem/PolynomialValueAtPinLaw -/
def k1 : Class := { plain "com/example/tempera/tempera/problem/PolynomialValueAtPinLaw" (some 0) with
  accessFlags := 49
  interfaces := #[]
  cf := some (fileOf pool1 8 #[] #[{ accessFlags := 1, nameIndex := 5, descriptorIndex := 6, attributes := #[] }, { accessFlags := 10, nameIndex := 11, descriptorIndex := 12, attributes := #[] }, { accessFlags := 10, nameIndex := 15, descriptorIndex := 16, attributes := #[] }, { accessFlags := 9, nameIndex := 29, descriptorIndex := 30, attributes := #[] }] 49 2 #[] #[])
  fields := #[]
  methods := #[k1m0, k1m1, k1m2, k1m3]
  instanceTypes := #[]
  staticTypes := #[]
  resolved := Array.replicate 35 none
  statics := none }

def pool2 : Array CpInfo := pool [(7, .class_ 8), (0, u "com/example/tempera/tempera/problem/CostFunction"), (0, .class_ 10), (0, u "java/lang/Object")] 14

/-- com/example/tempera/tempera/problem/CostFunction -/
def k2 : Class := { plain "com/example/tempera/tempera/problem/CostFunction" (some 0) with
  accessFlags := 1537
  interfaces := #[]
  cf := some (fileOf pool2 7 #[] #[] 1537 9 #[] #[])
  fields := #[]
  methods := #[]
  instanceTypes := #[]
  staticTypes := #[]
  resolved := Array.replicate 25 none
  statics := none }

def pool3 : Array CpInfo := pool [(1, .methodref 2 3), (0, .class_ 4), (0, .nameAndType 5 6), (0, u "java/lang/Object"), (0, u "<init>"), (0, u "()V"), (7, .methodref 15 16), (0, .class_ 17), (0, .nameAndType 18 19), (0, u "java/lang/Double"), (0, u "isFinite"), (0, u "(D)Z"), (6, .methodref 27 28), (0, .class_ 29), (0, .nameAndType 30 31), (0, u "[D"), (0, u "clone"), (0, u "()Ljava/lang/Object;"), (0, .fieldref 33 34), (0, .class_ 35), (0, .nameAndType 36 29), (0, u "com/example/tempera/tempera/problem/Polynomial"), (0, u "coefficients"), (8, u "valueAt"), (0, u "(D)D"), (15, .class_ 63), (0, u "com/example/tempera/tempera/problem/CostFunction"), (0, u "([D)V")] 26

def k3c0 : Code := { maxStack := 4, maxLocals := 7, code := prog_33_method_1_code, exceptionTable := #[], attributes := #[] }
def k3m0 : Method := { name := "<init>", desc := "([D)V", sig := { parameters := [(.array .double)], returnType := none }, accessFlags := 129, code := some k3c0 }
def k3c1 : Code := { maxStack := 4, maxLocals := 7, code := prog_33_method_2_code, exceptionTable := #[], attributes := #[] }
def k3m1 : Method := { name := "valueAt", desc := "(D)D", sig := { parameters := [.double], returnType := some .double }, accessFlags := 1, code := some k3c1 }
/-- com/example/tempera/tempera/problem/Polynomial -/
def k3 : Class := { plain "com/example/tempera/tempera/problem/Polynomial" (some 0) with
  accessFlags := 49
  interfaces := #[2]
  cf := some (fileOf pool3 33 #[] #[{ accessFlags := 129, nameIndex := 5, descriptorIndex := 64, attributes := #[] }, { accessFlags := 1, nameIndex := 45, descriptorIndex := 46, attributes := #[] }] 49 2 #[62] #[{ accessFlags := 18, nameIndex := 36, descriptorIndex := 29, attributes := #[] }])
  fields := #[{ name := "coefficients", type := (.array .double), accessFlags := 18, slot := 0, constantValue := 0 }]
  methods := #[k3m0, k3m1]
  instanceTypes := #[(.array .double)]
  staticTypes := #[]
  resolved := Array.replicate 91 none
  statics := none }

def pool4 : Array CpInfo := pool [(1, .class_ 2), (0, u "java/io/Serializable"), (0, .class_ 4), (0, u "java/lang/Object")] 2

/-- java/io/Serializable -/
def k4 : Class := { plain "java/io/Serializable" (some 0) with
  accessFlags := 1537
  interfaces := #[]
  cf := some (fileOf pool4 1 #[] #[] 1537 3 #[] #[])
  fields := #[]
  methods := #[]
  instanceTypes := #[]
  staticTypes := #[]
  resolved := Array.replicate 7 none
  statics := none }

def pool5 : Array CpInfo := pool [(2, .class_ 4), (1, u "java/lang/Object"), (0, u "<init>"), (0, u "()V"), (1, .class_ 10), (1, u "java/lang/Number"), (2, .class_ 14), (0, u "java/io/Serializable"), (0, u "serialVersionUID"), (0, u "J")] 20

def k5m0 : Method := { name := "<init>", desc := "()V", sig := { parameters := [], returnType := none }, accessFlags := 1, code := none }
/-- java/lang/Number -/
def k5 : Class := { plain "java/lang/Number" (some 0) with
  accessFlags := 1057
  interfaces := #[4]
  cf := some (fileOf pool5 8 #[] #[{ accessFlags := 1, nameIndex := 5, descriptorIndex := 6, attributes := #[] }] 1057 2 #[13] #[{ accessFlags := 26, nameIndex := 15, descriptorIndex := 16, attributes := #[] }])
  fields := #[{ name := "serialVersionUID", type := .long, accessFlags := 26, slot := 0, constantValue := 0 }]
  methods := #[k5m0]
  instanceTypes := #[]
  staticTypes := #[.long]
  resolved := Array.replicate 37 none
  statics := none }

def pool6 : Array CpInfo := pool [(1, .class_ 2), (0, u "java/lang/Comparable"), (0, .class_ 4), (0, u "java/lang/Object")] 7

/-- java/lang/Comparable -/
def k6 : Class := { plain "java/lang/Comparable" (some 0) with
  accessFlags := 1537
  interfaces := #[]
  cf := some (fileOf pool6 1 #[] #[] 1537 3 #[] #[])
  fields := #[]
  methods := #[]
  instanceTypes := #[]
  staticTypes := #[]
  resolved := Array.replicate 12 none
  statics := none }

def pool7 : Array CpInfo := pool [(1, .class_ 2), (0, u "java/lang/constant/Constable"), (0, .class_ 4), (0, u "java/lang/Object")] 6

/-- java/lang/constant/Constable -/
def k7 : Class := { plain "java/lang/constant/Constable" (some 0) with
  accessFlags := 1537
  interfaces := #[]
  cf := some (fileOf pool7 1 #[] #[] 1537 3 #[] #[])
  fields := #[]
  methods := #[]
  instanceTypes := #[]
  staticTypes := #[]
  resolved := Array.replicate 11 none
  statics := none }

def pool8 : Array CpInfo := pool [(1, .class_ 2), (0, u "java/lang/constant/ConstantDesc"), (0, .class_ 4), (0, u "java/lang/Object")] 32

/-- java/lang/constant/ConstantDesc -/
def k8 : Class := { plain "java/lang/constant/ConstantDesc" (some 0) with
  accessFlags := 1537
  interfaces := #[]
  cf := some (fileOf pool8 1 #[] #[] 1537 3 #[] #[])
  fields := #[]
  methods := #[]
  instanceTypes := #[]
  staticTypes := #[]
  resolved := Array.replicate 37 none
  statics := none }

def pool9 : Array CpInfo := pool [(1, .class_ 2), (0, u "java/lang/Double"), (10, u "isFinite"), (0, u "(D)Z"), (8, .class_ 25), (1, u "java/lang/Math"), (12, .methodref 23 39), (0, .nameAndType 40 41), (0, u "abs"), (0, u "(D)D"), (69, .double 9218868437227405311), (2, .class_ 116), (1, u "java/lang/Number"), (3, u "value"), (0, u "D"), (51, u "TYPE"), (0, u "Ljava/lang/Class;"), (0, .class_ 176), (0, u "java/lang/Comparable"), (0, .class_ 178), (0, u "java/lang/constant/Constable"), (0, .class_ 180), (0, u "java/lang/constant/ConstantDesc"), (0, u "POSITIVE_INFINITY"), (3, u "NEGATIVE_INFINITY"), (2, u "NaN"), (2, u "MAX_VALUE"), (0, u "MIN_NORMAL"), (0, u "MIN_VALUE"), (2, u "SIZE"), (0, u "I"), (1, u "PRECISION"), (1, u "MAX_EXPONENT"), (1, u "MIN_EXPONENT"), (1, u "BYTES"), (3, u "serialVersionUID"), (0, u "J")] 79

def k9c0 : Code := { maxStack := 4, maxLocals := 2, code := jdk_117_method_8_code, exceptionTable := #[], attributes := #[] }
def k9m0 : Method := { name := "isFinite", desc := "(D)Z", sig := { parameters := [.double], returnType := some .boolean }, accessFlags := 9, code := some k9c0 }
/-- java/lang/Double -/
def k9 : Class := { plain "java/lang/Double" (some 5) with
  accessFlags := 49
  interfaces := #[6, 7, 8]
  cf := some (fileOf pool9 1 #[] #[{ accessFlags := 9, nameIndex := 13, descriptorIndex := 14, attributes := #[] }] 49 114 #[175, 177, 179] #[{ accessFlags := 25, nameIndex := 181, descriptorIndex := 121, attributes := #[] }, { accessFlags := 25, nameIndex := 185, descriptorIndex := 121, attributes := #[] }, { accessFlags := 25, nameIndex := 188, descriptorIndex := 121, attributes := #[] }, { accessFlags := 25, nameIndex := 191, descriptorIndex := 121, attributes := #[] }, { accessFlags := 25, nameIndex := 192, descriptorIndex := 121, attributes := #[] }, { accessFlags := 25, nameIndex := 193, descriptorIndex := 121, attributes := #[] }, { accessFlags := 25, nameIndex := 196, descriptorIndex := 197, attributes := #[] }, { accessFlags := 25, nameIndex := 199, descriptorIndex := 197, attributes := #[] }, { accessFlags := 25, nameIndex := 201, descriptorIndex := 197, attributes := #[] }, { accessFlags := 25, nameIndex := 203, descriptorIndex := 197, attributes := #[] }, { accessFlags := 25, nameIndex := 205, descriptorIndex := 197, attributes := #[] }, { accessFlags := 25, nameIndex := 173, descriptorIndex := 174, attributes := #[] }, { accessFlags := 18, nameIndex := 120, descriptorIndex := 121, attributes := #[] }, { accessFlags := 26, nameIndex := 209, descriptorIndex := 210, attributes := #[] }])
  fields := #[{ name := "POSITIVE_INFINITY", type := .double, accessFlags := 25, slot := 0, constantValue := 0 }, { name := "NEGATIVE_INFINITY", type := .double, accessFlags := 25, slot := 1, constantValue := 0 }, { name := "NaN", type := .double, accessFlags := 25, slot := 2, constantValue := 0 }, { name := "MAX_VALUE", type := .double, accessFlags := 25, slot := 3, constantValue := 0 }, { name := "MIN_NORMAL", type := .double, accessFlags := 25, slot := 4, constantValue := 0 }, { name := "MIN_VALUE", type := .double, accessFlags := 25, slot := 5, constantValue := 0 }, { name := "SIZE", type := .int, accessFlags := 25, slot := 6, constantValue := 0 }, { name := "PRECISION", type := .int, accessFlags := 25, slot := 7, constantValue := 0 }, { name := "MAX_EXPONENT", type := .int, accessFlags := 25, slot := 8, constantValue := 0 }, { name := "MIN_EXPONENT", type := .int, accessFlags := 25, slot := 9, constantValue := 0 }, { name := "BYTES", type := .int, accessFlags := 25, slot := 10, constantValue := 0 }, { name := "TYPE", type := (.object "java/lang/Class"), accessFlags := 25, slot := 11, constantValue := 0 }, { name := "value", type := .double, accessFlags := 18, slot := 0, constantValue := 0 }, { name := "serialVersionUID", type := .long, accessFlags := 26, slot := 12, constantValue := 0 }]
  methods := #[k9m0]
  instanceTypes := #[.double]
  staticTypes := #[.double, .double, .double, .double, .double, .double, .int, .int, .int, .int, .int, (.object "java/lang/Class"), .long]
  resolved := Array.replicate 290 none
  statics := none }

def pool10 : Array CpInfo := pool [(1, .class_ 2), (0, u "java/lang/Math"), (1, .class_ 6), (1, u "java/lang/Object"), (0, u "<init>"), (0, u "()V"), (5, u "(D)D"), (83, .class_ 100), (1, u "java/lang/Math$RandomNumberGeneratorHolder"), (23, u "abs"), (47, u "negativeZeroFloatBits"), (0, u "J"), (2, u "negativeZeroDoubleBits"), (68, u "$assertionsDisabled"), (0, u "Z"), (91, u "twoToTheDoubleScaleDown"), (0, u "D"), (4, u "twoToTheDoubleScaleUp"), (9, u "E"), (3, u "PI"), (2, u "TAU"), (2, u "DEGREES_TO_RADIANS"), (0, u "RADIANS_TO_DEGREES")] 94

def k10m0 : Method := { name := "<init>", desc := "()V", sig := { parameters := [], returnType := none }, accessFlags := 2, code := none }
def k10c1 : Code := { maxStack := 4, maxLocals := 2, code := jdk_29_method_64_code, exceptionTable := #[], attributes := #[] }
def k10m1 : Method := { name := "abs", desc := "(D)D", sig := { parameters := [.double], returnType := some .double }, accessFlags := 9, code := some k10c1 }
/-- java/lang/Math -/
def k10 : Class := { plain "java/lang/Math" (some 0) with
  accessFlags := 49
  interfaces := #[]
  cf := some (fileOf pool10 1 #[.nestMembers #[98]] #[{ accessFlags := 2, nameIndex := 7, descriptorIndex := 8, attributes := #[] }, { accessFlags := 9, nameIndex := 124, descriptorIndex := 14, attributes := #[] }] 49 4 #[] #[{ accessFlags := 25, nameIndex := 354, descriptorIndex := 339, attributes := #[] }, { accessFlags := 25, nameIndex := 358, descriptorIndex := 339, attributes := #[] }, { accessFlags := 25, nameIndex := 361, descriptorIndex := 339, attributes := #[] }, { accessFlags := 26, nameIndex := 364, descriptorIndex := 339, attributes := #[] }, { accessFlags := 26, nameIndex := 365, descriptorIndex := 339, attributes := #[] }, { accessFlags := 26, nameIndex := 172, descriptorIndex := 173, attributes := #[] }, { accessFlags := 26, nameIndex := 176, descriptorIndex := 173, attributes := #[] }, { accessFlags := 8, nameIndex := 344, descriptorIndex := 339, attributes := #[] }, { accessFlags := 8, nameIndex := 338, descriptorIndex := 339, attributes := #[] }, { accessFlags := 4120, nameIndex := 245, descriptorIndex := 246, attributes := #[] }])
  fields := #[{ name := "E", type := .double, accessFlags := 25, slot := 0, constantValue := 0 }, { name := "PI", type := .double, accessFlags := 25, slot := 1, constantValue := 0 }, { name := "TAU", type := .double, accessFlags := 25, slot := 2, constantValue := 0 }, { name := "DEGREES_TO_RADIANS", type := .double, accessFlags := 26, slot := 3, constantValue := 0 }, { name := "RADIANS_TO_DEGREES", type := .double, accessFlags := 26, slot := 4, constantValue := 0 }, { name := "negativeZeroFloatBits", type := .long, accessFlags := 26, slot := 5, constantValue := 0 }, { name := "negativeZeroDoubleBits", type := .long, accessFlags := 26, slot := 6, constantValue := 0 }, { name := "twoToTheDoubleScaleUp", type := .double, accessFlags := 8, slot := 7, constantValue := 0 }, { name := "twoToTheDoubleScaleDown", type := .double, accessFlags := 8, slot := 8, constantValue := 0 }, { name := "$assertionsDisabled", type := .boolean, accessFlags := 4120, slot := 9, constantValue := 0 }]
  methods := #[k10m0, k10m1]
  instanceTypes := #[]
  staticTypes := #[.double, .double, .double, .double, .double, .long, .long, .double, .double, .boolean]
  resolved := Array.replicate 460 none
  statics := none }

def pool11 : Array CpInfo := pool [(1, .class_ 2), (0, u "java/lang/Cloneable"), (0, .class_ 4), (0, u "java/lang/Object")] 2

/-- java/lang/Cloneable -/
def k11 : Class := { plain "java/lang/Cloneable" (some 0) with
  accessFlags := 1537
  interfaces := #[]
  cf := some (fileOf pool11 1 #[] #[] 1537 3 #[] #[])
  fields := #[]
  methods := #[]
  instanceTypes := #[]
  staticTypes := #[]
  resolved := Array.replicate 7 none
  statics := none }

/-- the primitive byte -/
def k12 : Class := { plain "byte" none with kind := .primitive 'B', accessFlags := 0x411 }
/-- [B -/
def k13 : Class := { plain "[B" (some 0) with kind := .array 12 .byte, interfaces := #[11, 4], accessFlags := 1041 }

/-- the primitive double -/
def k14 : Class := { plain "double" none with kind := .primitive 'D', accessFlags := 0x411 }
/-- [D -/
def k15 : Class := { plain "[D" (some 0) with kind := .array 14 .double, interfaces := #[11, 4], accessFlags := 1041 }

/-- the primitive int -/
def k16 : Class := { plain "int" none with kind := .primitive 'I', accessFlags := 0x411 }
/-- [I -/
def k17 : Class := { plain "[I" (some 0) with kind := .array 16 .int, interfaces := #[11, 4], accessFlags := 1041 }

def heap : Heap := #[]
def classes : Array Class := #[k0, k1, k2, k3, k4, k5, k6, k7, k8, k9, k10, k11, k12, k13, k14, k15, k16, k17]
def interned : List (Array UInt16 × Addr) := []
def slotsUsed : Nat := 0
def theMethod : MethodId := ⟨1, 3⟩
def args0 : Array Value := #[.int 5, .int 7, .int 9, .int 3, .int 3, .int 3]
def aboutOver (below : List Frame) : State where
  vm := { classes := classes, interned := interned.toArray }
  heap := heap
  slotsUsed := slotsUsed
  threads := #[{ frames := .invoking theMethod args0 :: below }]
def below0 : List Frame := [.native { method := ⟨0, 0⟩, args := #[] }]
def about1 : State := aboutOver below0
def p0 : Program := .bare "" "" ""
def e0 : Env := launch0.env 0 0 0
theorem w_frames : about1.frames = Frame.invoking theMethod args0 :: below0 := rfl
set_option maxRecDepth 65536 in
theorem w_args : argsFit about1.vm theMethod args0 = true := by decide +kernel
set_option maxRecDepth 65536 in
theorem w_heap : heapFits about1 = true := by decide +kernel
set_option maxRecDepth 65536 in
theorem w_runnable : about1.curStatus? = some .runnable := by decide +kernel
set_option maxRecDepth 65536 in
theorem w_alone : about1.alone = true := by decide +kernel
set_option maxRecDepth 65536 in
theorem w_named : about1.methodNamed? x = some theMethod := by decide +kernel
set_option maxRecDepth 65536 in
theorem w_hears : about1.hears theMethod below0 = true := by decide +kernel
set_option maxRecDepth 65536 in
theorem w_ripe : about1.ripe theMethod args0 below0 = true := by decide +kernel
theorem w_running : about1.status = .running := rfl
set_option maxRecDepth 65536 in
theorem w_room : about1.hasRoom e0.platform room_1 = true :=
  launch0.hasRoom_least _ room_1 (by decide +kernel) (by decide +kernel) (by decide +kernel) (by decide +kernel) (by decide +kernel) (by decide +kernel)
theorem allAtoms_all (ts : List Jvm.Cond) (a : Array Jvm.Value) (st : Jvm.State) : (allAtoms ts).before a st = ts.all (fun c => c.before a st) := by
  induction ts with
  | nil => rfl
  | cons c t ih =>
    show (Jvm.Cond.and c (allAtoms t)).before a st = _
    rw [Jvm.Cond.before_and, ih, List.all_cons]
def words1 : List Jvm.Cond := Jvm.Cond.code x code maxLocals ret :: tables_1
/-- a 'code' word, met by the world's own term for the bytes: nothing is compared byte by byte -/
theorem code_word {y : MethodName} {bytes : ByteArray} {mx : Nat} {rt : Option FieldType} {a : Array Value} {s : State} {m : MethodId} {meth : Method} {c : Code} (h1 : s.methodNamed? y = some m) (h2 : s.vm.method? m = some meth) (h3 : meth.code = some c) (h4 : c.code = bytes)
    (h5 : (c.maxLocals == mx && c.exceptionTable.isEmpty && decide (c.maxStack ≤ mostOperands) && decide (meth.sig.returnType = rt) && !meth.locks && decide (parseMethodDescriptor y.desc = some meth.sig)) = true) : (Jvm.Cond.code y bytes mx rt).before a s = true := by
  simp only [Bool.and_eq_true, beq_iff_eq, Bool.not_eq_true', decide_eq_true_eq] at h5
  obtain ⟨⟨⟨⟨⟨g1, g2⟩, g3⟩, g4⟩, g5⟩, g6⟩ := h5
  simp [Cond.before, Cond.holds, Cond.value, h1, h2, h3, h4, g1, g2, g3, g4, g5, g6]
def isCode : Jvm.Cond → Bool
  | .code _ _ _ _ => true
  | _ => false
theorem all_split {L : List Jvm.Cond} {P : Jvm.Cond → Bool} (h1 : L.all (fun c => isCode c || P c) = true) (h2 : ∀ c ∈ L.filter isCode, P c = true) : L.all P = true := by
  refine List.all_eq_true.mpr fun c hc => ?_
  have h := List.all_eq_true.mp h1 c hc
  rcases Bool.eq_false_or_eq_true (isCode c) with hi | hi
  · exact h2 c (List.mem_filter.mpr ⟨hc, hi⟩)
  · simpa [hi] using h
set_option maxRecDepth 65536 in
theorem w_c0 : (Jvm.Cond.code x code maxLocals ret).before args0 about1 = true := code_word (m := ⟨1, 3⟩) (meth := k1m3) (c := k1c3) (by decide +kernel) rfl rfl rfl (by decide +kernel)
set_option maxRecDepth 65536 in
theorem w_c1 : (Jvm.Cond.code ({ cls := "com/example/tempera/tempera/problem/PolynomialValueAtPinLaw", name := "signed13", desc := "(I)J" } : Jvm.MethodName) method_2_code (1 : Nat) (Option.some Jvm.ClassFile.FieldType.long)).before args0 about1 = true := code_word (m := ⟨1, 1⟩) (meth := k1m1) (c := k1c1) (by decide +kernel) rfl rfl rfl (by decide +kernel)
set_option maxRecDepth 65536 in
theorem w_c2 : (Jvm.Cond.code ({ cls := "com/example/tempera/tempera/problem/PolynomialValueAtPinLaw", name := "nonZero", desc := "(J)J" } : Jvm.MethodName) method_3_code (2 : Nat) (Option.some Jvm.ClassFile.FieldType.long)).before args0 about1 = true := code_word (m := ⟨1, 2⟩) (meth := k1m2) (c := k1c2) (by decide +kernel) rfl rfl rfl (by decide +kernel)
set_option maxRecDepth 65536 in
theorem w_c3 : (Jvm.Cond.code ({ cls := "com/example/tempera/tempera/problem/Polynomial", name := "<init>", desc := "([D)V" } : Jvm.MethodName) prog_33_method_1_code (7 : Nat) (Option.none : Option Jvm.ClassFile.FieldType)).before args0 about1 = true := code_word (m := ⟨3, 0⟩) (meth := k3m0) (c := k3c0) (by decide +kernel) rfl rfl rfl (by decide +kernel)
set_option maxRecDepth 65536 in
theorem w_c4 : (Jvm.Cond.code ({ cls := "java/lang/Object", name := "<init>", desc := "()V" } : Jvm.MethodName) object_method_1_code (1 : Nat) (Option.none : Option Jvm.ClassFile.FieldType)).before args0 about1 = true := code_word (m := ⟨0, 0⟩) (meth := k0m0) (c := k0c0) (by decide +kernel) rfl rfl rfl (by decide +kernel)
set_option maxRecDepth 65536 in
theorem w_c5 : (Jvm.Cond.code ({ cls := "java/lang/Double", name := "isFinite", desc := "(D)Z" } : Jvm.MethodName) jdk_117_method_8_code (2 : Nat) (Option.some Jvm.ClassFile.FieldType.boolean)).before args0 about1 = true := code_word (m := ⟨9, 0⟩) (meth := k9m0) (c := k9c0) (by decide +kernel) rfl rfl rfl (by decide +kernel)
set_option maxRecDepth 65536 in
theorem w_c6 : (Jvm.Cond.code ({ cls := "java/lang/Math", name := "abs", desc := "(D)D" } : Jvm.MethodName) jdk_29_method_64_code (2 : Nat) (Option.some Jvm.ClassFile.FieldType.double)).before args0 about1 = true := code_word (m := ⟨10, 1⟩) (meth := k10m1) (c := k10c1) (by decide +kernel) rfl rfl rfl (by decide +kernel)
set_option maxRecDepth 65536 in
theorem w_c7 : (Jvm.Cond.code ({ cls := "com/example/tempera/tempera/problem/Polynomial", name := "valueAt", desc := "(D)D" } : Jvm.MethodName) prog_33_method_2_code (7 : Nat) (Option.some Jvm.ClassFile.FieldType.double)).before args0 about1 = true := code_word (m := ⟨3, 1⟩) (meth := k3m1) (c := k3c1) (by decide +kernel) rfl rfl rfl (by decide +kernel)
def codes1 : List Jvm.Cond := [Jvm.Cond.code x code maxLocals ret, Jvm.Cond.code ({ cls := "com/example/tempera/tempera/problem/PolynomialValueAtPinLaw", name := "signed13", desc := "(I)J" } : Jvm.MethodName) method_2_code (1 : Nat) (Option.some Jvm.ClassFile.FieldType.long), Jvm.Cond.code ({ cls := "com/example/tempera/tempera/problem/PolynomialValueAtPinLaw", name := "nonZero", desc := "(J)J" } : Jvm.MethodName) method_3_code (2 : Nat) (Option.some Jvm.ClassFile.FieldType.long), Jvm.Cond.code ({ cls := "com/example/tempera/tempera/problem/Polynomial", name := "<init>", desc := "([D)V" } : Jvm.MethodName) prog_33_method_1_code (7 : Nat) (Option.none : Option Jvm.ClassFile.FieldType), Jvm.Cond.code ({ cls := "java/lang/Object", name := "<init>", desc := "()V" } : Jvm.MethodName) object_method_1_code (1 : Nat) (Option.none : Option Jvm.ClassFile.FieldType), Jvm.Cond.code ({ cls := "java/lang/Double", name := "isFinite", desc := "(D)Z" } : Jvm.MethodName) jdk_117_method_8_code (2 : Nat) (Option.some Jvm.ClassFile.FieldType.boolean), Jvm.Cond.code ({ cls := "java/lang/Math", name := "abs", desc := "(D)D" } : Jvm.MethodName) jdk_29_method_64_code (2 : Nat) (Option.some Jvm.ClassFile.FieldType.double), Jvm.Cond.code ({ cls := "com/example/tempera/tempera/problem/Polynomial", name := "valueAt", desc := "(D)D" } : Jvm.MethodName) prog_33_method_2_code (7 : Nat) (Option.some Jvm.ClassFile.FieldType.double)]
set_option maxRecDepth 65536 in
theorem codes_eq : words1.filter isCode = codes1 := rfl
theorem w_codes : ∀ c ∈ words1.filter isCode, c.before args0 about1 = true := by
  rw [codes_eq]
  intro c hc
  simp only [codes1, List.mem_cons, List.not_mem_nil, or_false] at hc
  rcases hc with rfl | rfl | rfl | rfl | rfl | rfl | rfl | rfl
  · exact w_c0
  · exact w_c1
  · exact w_c2
  · exact w_c3
  · exact w_c4
  · exact w_c5
  · exact w_c6
  · exact w_c7
set_option maxRecDepth 65536 in
theorem w_t1 : (words1.take 24).all (fun c => isCode c || c.before args0 about1) = true := by decide +kernel
set_option maxRecDepth 65536 in
theorem w_t2 : (words1.drop 24).all (fun c => isCode c || c.before args0 about1) = true := by decide +kernel
theorem w_tables : (allAtoms (Jvm.Cond.code x code maxLocals ret :: tables_1)).before args0 about1 = true := by
  rw [allAtoms_all]
  show words1.all (fun c => c.before args0 about1) = true
  refine all_split ?_ w_codes
  rw [← List.take_append_drop 24 words1, List.all_append, w_t1, w_t2]
  rfl
set_option maxRecDepth 65536 in
theorem w_case : (Jvm.Cond.and given_1 narrow_1).before args0 about1 = true := by decide +kernel
theorem w_applies : (headSpec (Jvm.Cond.code x code maxLocals ret :: tables_1) room_1).applies x e0.platform about1 = true :=
  (Spec.applies_iff w_frames).mpr ⟨w_running, w_runnable, w_alone, w_named, w_hears, w_ripe, w_room, w_tables⟩
theorem atStart : AtStart classFile x code maxLocals ret World_1 tables_1 room_1 Calls_1 rest_1 Pre_1 launch0 p0 e0 about1 theMethod args0 below0 :=
  ⟨lists_1, trivial, launch0.admits_env _ _ _, launch0.least_env, fairChoices_fair.cas, fairChoices_fair.clock, w_frames, w_args, w_heap, w_applies, trivial, trivial, w_case⟩
end start1
theorem witness_1 : WitnessClaimed_1 := ⟨start1.p0, start1.e0, start1.about1, start1.theMethod, start1.args0, start1.below0, start1.atStart⟩
end Jvm.Pilot.@@N@@
