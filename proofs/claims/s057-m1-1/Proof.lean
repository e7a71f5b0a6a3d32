import JvmDerived
import JvmDerived.Pilot.@@N@@Statement
import JvmDerived.Pilot.@@N@@Code
set_option linter.unusedVariables false
set_option linter.unusedSimpArgs false
namespace Jvm.OwnKit
open Sem ClassFile Op Lib Jvm.Stand Jvm.Free Jvm.LawKit Jvm.RoadKit
/-- a run of the method y that stands at pc with the locals ls, the stack st and the heap h comes to a return that Q allows -/
def ORun (l : Launch) (y : MethodName) (bytes : ByteArray) (maxL : Nat) (ret : Option FieldType) (R : Room) (Z : State) (n0 : Nat) (as' : Array Value) (Q : Option Value → Heap → Prop) (h : Heap) (cells slots pc : Nat) (ls : List Slot) (st : List Value) : Prop :=
  ∀ (p : Program) (e : Env) (s : State) (m : MethodId) (below : List Frame) (meth : Method) (c : Code) (T : State) (locs : List Loc),
    p.tables.exec = Jvm.exec → Z.Warmed39 s.vm → c.code = bytes → c.maxLocals = maxL → s.vm.findClass y.cls = some m.cls → meth.name = y.name → meth.sig.returnType = ret → meth.locks = false →
    Stand p l e R s m as' below meth c T locs cells slots → T.heap = h → Fr n0 locs →
    ∃ (U : State) (o : Outcome), Steps p.tables e below (T.setTop (mkF m pc ls.toArray st)) U ∧ U.status = .running ∧ Ended U below o ∧ ∃ v L, o = .returned v ∧ (Q v U.heap ∧ Fr n0 L) ∧ FrameEnd s o U L R.cells R.slots
/-- the contract of a method at the heap h and the arguments as' -/
def Ct (l : Launch) (y : MethodName) (bytes : ByteArray) (maxL : Nat) (ret : Option FieldType) (ws : List Jvm.Cond) (R : Room) (Z : State) (n0 : Nat) (as' : Array Value) (h : Heap) (Q : Option Value → Heap → Prop) : Prop :=
  MetFree l y (head1 (Jvm.Cond.code y bytes maxL ret :: ws) R) (fun a U => a = as' ∧ Z.Warmed39 U.vm ∧ U.heap = h) (fun _ _ _ _ _ => True) (fun _ U o U' => ∃ v L, o = .returned v ∧ (Q v U'.heap ∧ Fr n0 L) ∧ FrameEnd U o U' L R.cells R.slots)
def D (bytes : ByteArray) (pc : Nat) (i : Instr) (len nx : Nat) : Prop := decode bytes pc = .ok (i, len) ∧ pc + len = nx
def DB (bytes : ByteArray) (pc : Nat) (i : Int → Instr) (off : Int) (nx tgt : Nat) : Prop := decode bytes pc = .ok (i off, 3) ∧ pc + 3 = nx ∧ 0 ≤ (pc : Int) + off ∧ ((pc : Int) + off).toNat = tgt
/-- an array of a primitive kind whose elements are kept as ints, by their list -/
def Ary (Z : State) (h : Heap) (a : Addr) (ty : FieldType) (vs : List Int32) : Prop := ∃ c : Cell, Arr Z h a c ty ∧ c.slots = (vs.map Value.int).toArray
theorem eq_ints {args : Array Value} {first s : State} {o : Option Outcome} {idx : List Nat} {a b : Term} {x y : Int32} (ha : a.eval args first o idx s = some (.int x)) (hb : b.eval args first o idx s = some (.int y)) : (Jvm.Cond.eq a b).value args first o s idx = some (decide (x = y)) := by simp [Cond.value, ha, hb]
theorem fldEq {args : Array Value} {s : State} {t : Term} {C n d : String} {x : Addr} {k : Int32} (ht : t.eval args s none [] s = some (.ref x)) (h : (Jvm.Cond.eq (.field t C n d) (.int k)).value args s none s [] = some true) : Fld s s.heap x C n d (.int k) := by
  have e : (Term.field t C n d).eval args s none [] s = some (.int k) := by
    obtain ⟨v, w, e1, e2, k1, k2⟩ := cmp_v (Or.inl h)
    cases (show some (Value.int k) = some w from e2)
    obtain ⟨z, rfl⟩ := k2
    have q := gotT (eq_ints e1 e2) h
    rw [q] at e1; exact e1
  exact Fld.start (by rw [← fld_at ht]; exact e)
theorem n32_add (a b : Nat) : a.toInt32 + b.toInt32 = (a + b).toInt32 := (Int32.ofNat_add a b).symm
theorem n32_int {a : Nat} (h : a < 2 ^ 31) : a.toInt32.toInt = a := Int32.toInt_ofNat_of_lt h
theorem n32_sub {a b : Nat} (h : b ≤ a) : a.toInt32 - b.toInt32 = (a - b).toInt32 := by
  have e : (a - b).toInt32 + b.toInt32 = a.toInt32 := by rw [n32_add]; congr 1; omega
  rw [← e, Int32.add_sub_cancel]
theorem n32_lt {a b : Nat} (ha : a < 2 ^ 31) (hb : b < 2 ^ 31) : a.toInt32 < b.toInt32 ↔ a < b := by
  rw [Int32.lt_iff_toInt_lt, n32_int ha, n32_int hb]; omega
theorem n32_eq {a b : Nat} (ha : a < 2 ^ 31) (hb : b < 2 ^ 31) : a.toInt32 = b.toInt32 ↔ a = b := by
  rw [← Int32.toInt_inj, n32_int ha, n32_int hb]; omega
theorem n32_clamp {a : Nat} (h : a < 2 ^ 31) : a.toInt32.toNatClampNeg = a := by
  show a.toInt32.toInt.toNat = a
  rw [n32_int h]; rfl
theorem n32_nn {a : Nat} (h : a < 2 ^ 31) : ¬ a.toInt32 < 0 := by
  have h0 : (0 : Int32).toInt = 0 := by decide
  rw [Int32.lt_iff_toInt_lt, n32_int h]; omega
theorem n32_of {x : Int32} (h : ¬ x < 0) : ∃ n : Nat, x = n.toInt32 ∧ n < 2 ^ 31 ∧ x.toInt = n := ⟨x.toNatClampNeg, (back32 h).1.symm, (back32 h).2, nat_of h⟩
theorem n32_and (x m : Int32) (k : Nat) (hk : k ≤ 31) (hm : m.toBitVec.toNat = 2 ^ k - 1) : ∃ n : Nat, x &&& m = n.toInt32 ∧ n < 2 ^ k := by
  have h1 := c_mask x m k hk hm
  have h2 : (0 : Int) ≤ (x &&& m).toInt := by rw [h1]; exact Int.emod_nonneg _ (by have := Nat.pow_pos (n := k) (show 0 < 2 by decide); omega)
  have h3 : (x &&& m).toInt < (2 ^ k : Nat) := by rw [h1]; exact Int.emod_lt_of_pos _ (by have := Nat.pow_pos (n := k) (show 0 < 2 by decide); omega)
  have h0 : (0 : Int32).toInt = 0 := by decide
  obtain ⟨n, e1, e2, e3⟩ := n32_of (x := x &&& m) (by rw [Int32.lt_iff_toInt_lt]; omega)
  exact ⟨n, e1, by omega⟩
theorem n32_rem {u k : Nat} (hu : u < 2 ^ 31) (hk : 0 < k) (hk2 : k < 2 ^ 31) : u.toInt32 % k.toInt32 = (u % k).toInt32 := by
  have h2 := (c_irem u.toInt32 k.toInt32 k (n32_int hk2)).1 (by rw [n32_int hu]; omega)
  have h3 := Nat.mod_lt u hk
  refine Int32.toInt_inj.mp ?_
  rw [h2, n32_int hu, n32_int (by omega)]
  omega
theorem n32_ushr (x q : Int32) (k : Nat) (hk : q.toBitVec.toNat % 32 = k) (h0 : 0 < k) : ∃ u : Nat, (x.toUInt32 >>> (q &&& 31).toUInt32).toInt32 = u.toInt32 ∧ u < 2 ^ 31 := by
  have h1 := c_iushr x q k hk h0
  have h2 : (2 : Nat) ≤ 2 ^ k := Nat.le_trans (by decide) (Nat.pow_le_pow_right (by decide) h0)
  have h3 : 0 ≤ (x.toInt % 4294967296) / ((2 ^ k : Nat) : Int) := Int.ediv_nonneg (by omega) (by omega)
  have z : (0 : Int32).toInt = 0 := by decide
  obtain ⟨n, e1, e2, e3⟩ := n32_of (x := (x.toUInt32 >>> (q &&& 31).toUInt32).toInt32) (by rw [Int32.lt_iff_toInt_lt]; omega)
  exact ⟨n, e1, e2⟩
theorem n32_mod (x : Int32) (k : Nat) (hk : 0 < k) (hk2 : k < 2 ^ 31) : ∃ n : Nat, (x &&& (2147483647 : Int32)) % k.toInt32 = n.toInt32 ∧ n < k := by
  have h1 := c_mask x 2147483647 31 (by decide) (by decide)
  have h2 := (c_irem (x &&& 2147483647) k.toInt32 k (n32_int hk2)).1 (by omega)
  have h4 := Int.emod_nonneg (x &&& 2147483647).toInt (b := (k : Int)) (by omega)
  have h5 := Int.emod_lt_of_pos (x &&& 2147483647).toInt (b := (k : Int)) (by omega)
  have h0 : (0 : Int32).toInt = 0 := by decide
  obtain ⟨n, e1, e2, e3⟩ := n32_of (x := (x &&& (2147483647 : Int32)) % k.toInt32) (by rw [Int32.lt_iff_toInt_lt]; omega)
  exact ⟨n, e1, by omega⟩
theorem lenEq {args : Array Value} {s : State} {t : Term} {a : Addr} {cl : Cell} {ty : FieldType} {k : Int32} (ht : t.eval args s none [] s = some (.ref a)) (A : Arr s s.heap a cl ty) (h : (Jvm.Cond.eq (.length t) (.int k)).value args s none s [] = some true) : cl.slots.size < 2 ^ 31 ∧ cl.slots.size.toInt32 = k := by
  have ha := A.fin (Vm.Alike.refl _)
  obtain ⟨v, w, e1, e2, k1, k2⟩ := cmp_v (Or.inl h)
  by_cases hl : cl.slots.size < 2 ^ 31
  · have e := len_f ht ha hl
    exact ⟨hl, gotT (eq_ints e (show (Term.int k).eval args s none [] s = some (.int k) from rfl)) h⟩
  · simp [Term.eval, ht, ha, hl] at e1
theorem elemEq {args : Array Value} {s : State} {t u : Term} {a b : Addr} {cl : Cell} {ty : FieldType} {j : Int32} (ht : t.eval args s none [] s = some (.ref a)) (A : Arr s s.heap a cl ty) (hu : u.eval args s none [] s = some (.ref b)) (h : (Jvm.Cond.eq (.elem t (.int j)) u).value args s none s [] = some true) : cl.slots[j.toNatClampNeg]? = some (.ref b) := by
  obtain ⟨v, w, e1, e2, k1, k2⟩ := cmp_v (Or.inl h)
  cases hu.symm.trans e2
  have hv : v.isRef = true := k2.2
  have q := gotT (eq_R e1 hu hv rfl) h
  rw [q] at e1
  exact (elem_in e1 ht rfl A.1).2
section AryFacts
variable {Z : State} {h h' : Heap} {a b : Addr} {ty : FieldType} {vs vs' : List Int32} {sl : Nat} {v : Value} {ws : List Addr}
theorem Ary.lt (F : Ary Z h a ty vs) : a < h.size := by obtain ⟨c, A, -⟩ := F; exact A.lt
theorem Ary.ext (F : Ary Z h a ty vs) (E : Ext h h') : Ary Z h' a ty vs := by obtain ⟨c, A, q⟩ := F; exact ⟨c, A.ext E, q⟩
theorem Ary.other (F : Ary Z h b ty vs) (W : Wr h h' a sl v) (q : b ≠ a) : Ary Z h' b ty vs := by obtain ⟨c, A, r⟩ := F; exact ⟨c, A.other W q, r⟩
theorem Ary.keep (F : Ary Z h a ty vs) (K : Keep h h' ws) (q : a ∉ ws) : Ary Z h' a ty vs := by obtain ⟨c, A, r⟩ := F; exact ⟨c, ⟨K.2.1 a c A.1 q, A.2⟩, r⟩
theorem Ary.set {i : Nat} {x : Int32} (F : Ary Z h a ty vs) (W : Wr h h' a i (.int x)) (e : vs.set i x = vs') : Ary Z h' a ty vs' := by
  obtain ⟨c, A, r⟩ := F
  refine ⟨_, A.same W, ?_⟩
  subst e
  simp [Cell.setSlot, r, List.map_set]
theorem Ary.new {k : ClassId} {n : Int32} {m : Nat} (A : Arr Z h a (newA k ty n) ty) (hd : defaultValue ty = .int 0) (hn : n.toNatClampNeg = m) : Ary Z h a ty (List.replicate m 0) := by
  refine ⟨_, A, ?_⟩
  subst hn
  simp [newA, hd]
theorem Ary.inb {j : Int32} {x : Int32} {c : Cell} (q : c.slots = (vs.map Value.int).toArray) (hj : ¬ j < 0) (hv : vs[j.toNatClampNeg]? = some x) : ¬ (j < 0 ∨ c.slots.size ≤ j.toNatClampNeg) ∧ c.slots[j.toNatClampNeg]? = some (.int x) := by
  have h1 : j.toNatClampNeg < vs.length := by
    rcases Nat.lt_or_ge j.toNatClampNeg vs.length with h | h
    · exact h
    · rw [List.getElem?_eq_none h] at hv; cases hv
  refine ⟨fun r => ?_, ?_⟩
  · rcases r with r | r
    · exact hj r
    · rw [q] at r; simp at r; omega
  · rw [q]; simp [hv]
theorem Ary.size {c : Cell} (q : c.slots = (vs.map Value.int).toArray) : c.slots.size = vs.length := by rw [q]; simp
end AryFacts
section Logic
variable {l : Launch} {y : MethodName} {bytes : ByteArray} {maxL : Nat} {ret : Option FieldType} {ws : List Jvm.Cond} {R : Room} {Z : State} {n0 : Nat} {as' : Array Value} {Q : Option Value → Heap → Prop} {h : Heap} {cells slots pc nx tgt : Nat} {ls ls' : List Slot} {st : List Value} {a0 : Array Value}
theorem Ct.of (hpl : plainFor y = true) (hef : ∀ m, entryFrame m as' maxL = mkF m 0 ls.toArray []) (H : ORun l y bytes maxL ret R Z n0 as' Q h 0 0 0 ls []) : Ct l y bytes maxL ret ws R Z n0 as' h Q := by
  refine MetFree.of_bodySF hpl hisR ?_
  intro p e s m args below meth c s₁ Bd hml0 hP hK
  obtain ⟨rfl, hZ, hh⟩ := hP
  rw [hef m]
  exact H p e s m below meth c s₁ [] Bd.exec hZ Bd.bytes hml0 (findClass_of_methodNamed Bd.named) (name_of_methodNamed Bd.named Bd.method).1 Bd.returns Bd.notSynchronized (Stand.of_body Bd) (by rw [← hh, Bd.state]; rfl) (Fr.nil n0)
theorem ORun.weak {cells' slots' : Nat} (hc : cells ≤ cells') (hs : slots ≤ slots') (K : ORun l y bytes maxL ret R Z n0 as' Q h cells' slots' pc ls st) : ORun l y bytes maxL ret R Z n0 as' Q h cells slots pc ls st :=
  fun p e s m below meth c T locs hx hZ hby hml hown hnm hret hlk X eT N => K p e s m below meth c T locs hx hZ hby hml hown hnm hret hlk ⟨X.admits, X.cas, X.clock, X.frames, X.room, X.hears, X.method, X.code, X.here, X.tail, X.warmed, X.limits, X.bytes, X.same.mono hc hs⟩ eT N
/-- one step that moves neither heap nor tables -/
theorem ORun.step {pc' : Nat} {st' : List Value}
    (hs : ∀ (p : Program) (e : Env) (s : State) (m : MethodId) (below : List Frame) (meth : Method) (c : Code) (T : State) (locs : List Loc), p.tables.exec = Jvm.exec → Z.Warmed39 s.vm → c.code = bytes → s.vm.findClass y.cls = some m.cls → Stand p l e R s m as' below meth c T locs cells slots → T.heap = h →
      ∀ target, Steps p.tables e below (T.setTop (mkF m pc' ls'.toArray st')) target → Steps p.tables e below (T.setTop (mkF m pc ls.toArray st)) target)
    (K : ORun l y bytes maxL ret R Z n0 as' Q h cells slots pc' ls' st') : ORun l y bytes maxL ret R Z n0 as' Q h cells slots pc ls st :=
  fun p e s m below meth c T locs hx hZ hby hml hown hnm hret hlk X eT N => by
    obtain ⟨U, o, h1, h2⟩ := K p e s m below meth c T locs hx hZ hby hml hown hnm hret hlk X eT N
    exact ⟨U, o, hs p e s m below meth c T locs hx hZ hby hown X eT _ h1, h2⟩
/-- one step by a law that hands back a new state -/
theorem ORun.law {pc' : Nat} {st' : List Value} {h' : Heap} {cells' slots' : Nat}
    (hs : ∀ (p : Program) (e : Env) (s : State) (m : MethodId) (below : List Frame) (meth : Method) (c : Code) (T : State) (locs : List Loc), p.tables.exec = Jvm.exec → Z.Warmed39 s.vm → c.code = bytes → c.maxLocals = maxL → s.vm.findClass y.cls = some m.cls → meth.name = y.name → Stand p l e R s m as' below meth c T locs cells slots → T.heap = h → Fr n0 locs →
      ∃ T' locs', Stand p l e R s m as' below meth c T' locs' cells' slots' ∧ T'.heap = h' ∧ Fr n0 locs' ∧ ∀ target, Steps p.tables e below (T'.setTop (mkF m pc' ls'.toArray st')) target → Steps p.tables e below (T.setTop (mkF m pc ls.toArray st)) target)
    (K : ORun l y bytes maxL ret R Z n0 as' Q h' cells' slots' pc' ls' st') : ORun l y bytes maxL ret R Z n0 as' Q h cells slots pc ls st :=
  fun p e s m below meth c T locs hx hZ hby hml hown hnm hret hlk X eT N => by
    obtain ⟨T', locs', X', eT', N', st⟩ := hs p e s m below meth c T locs hx hZ hby hml hown hnm X eT N
    obtain ⟨U, o, h1, h2⟩ := K p e s m below meth c T' locs' hx hZ hby hml hown hnm hret hlk X' eT' N'
    exact ⟨U, o, st _ h1, h2⟩
theorem getL {k : Nat} {v : Slot} (q : ls[k]? = some v) : ls.toArray[k]? = some v := by simpa using q
/-! loads, stores -/
theorem r_iloadN {k : Fin 4} {v : Int32} (hd : D bytes pc (.iload_n k) 1 nx) (hl : ls[k.val]? = some (.val (.int v))) (K : ORun l y bytes maxL ret R Z n0 as' Q h cells slots nx ls (.int v :: st)) : ORun l y bytes maxL ret R Z n0 as' Q h cells slots pc ls st := by
  obtain ⟨hd, rfl⟩ := hd
  exact K.step fun p e s m below meth c T locs hx hZ hby hown X eT t k => XS.iloadN X.here hx rfl (hb hby hd) (getL hl) k
theorem r_iload {k : Nat} {v : Int32} (hd : D bytes pc (.iload k) 2 nx) (hl : ls[k]? = some (.val (.int v))) (K : ORun l y bytes maxL ret R Z n0 as' Q h cells slots nx ls (.int v :: st)) : ORun l y bytes maxL ret R Z n0 as' Q h cells slots pc ls st := by
  obtain ⟨hd, rfl⟩ := hd
  exact K.step fun p e s m below meth c T locs hx hZ hby hown X eT t k => XS.iload X.here hx rfl (hb hby hd) (getL hl) k
theorem r_aloadN {k : Fin 4} {v : Value} (hd : D bytes pc (.aload_n k) 1 nx) (hl : ls[k.val]? = some (.val v)) (hv : v.isRef = true) (K : ORun l y bytes maxL ret R Z n0 as' Q h cells slots nx ls (v :: st)) : ORun l y bytes maxL ret R Z n0 as' Q h cells slots pc ls st := by
  obtain ⟨hd, rfl⟩ := hd
  exact K.step fun p e s m below meth c T locs hx hZ hby hown X eT t k => XS.aloadN X.here hx rfl (hb hby hd) (getL hl) hv k
theorem r_aload {k : Nat} {v : Value} (hd : D bytes pc (.aload k) 2 nx) (hl : ls[k]? = some (.val v)) (hv : v.isRef = true) (K : ORun l y bytes maxL ret R Z n0 as' Q h cells slots nx ls (v :: st)) : ORun l y bytes maxL ret R Z n0 as' Q h cells slots pc ls st := by
  obtain ⟨hd, rfl⟩ := hd
  exact K.step fun p e s m below meth c T locs hx hZ hby hown X eT t k => XS.aload X.here hx rfl (hb hby hd) (getL hl) hv k
theorem r_lloadN {k : Fin 4} {v : Int64} (hd : D bytes pc (.lload_n k) 1 nx) (hl : ls[k.val]? = some (.val (.long v))) (K : ORun l y bytes maxL ret R Z n0 as' Q h cells slots nx ls (.long v :: st)) : ORun l y bytes maxL ret R Z n0 as' Q h cells slots pc ls st := by
  obtain ⟨hd, rfl⟩ := hd
  exact K.step fun p e s m below meth c T locs hx hZ hby hown X eT t k => XS.lloadN X.here hx rfl (hb hby hd) (getL hl) k
theorem r_lload {k : Nat} {v : Int64} (hd : D bytes pc (.lload k) 2 nx) (hl : ls[k]? = some (.val (.long v))) (K : ORun l y bytes maxL ret R Z n0 as' Q h cells slots nx ls (.long v :: st)) : ORun l y bytes maxL ret R Z n0 as' Q h cells slots pc ls st := by
  obtain ⟨hd, rfl⟩ := hd
  exact K.step fun p e s m below meth c T locs hx hZ hby hown X eT t k => XS.lload X.here hx rfl (hb hby hd) (getL hl) k
theorem r_istoreN {k : Fin 4} {v : Int32} (hd : D bytes pc (.istore_n k) 1 nx) (ls' : List Slot) (hl : storeLocals ls.toArray k.val (.int v) = some ls'.toArray) (K : ORun l y bytes maxL ret R Z n0 as' Q h cells slots nx ls' st) : ORun l y bytes maxL ret R Z n0 as' Q h cells slots pc ls (.int v :: st) := by
  obtain ⟨hd, rfl⟩ := hd
  exact K.step fun p e s m below meth c T locs hx hZ hby hown X eT t k => XS.istoreN X.here hx rfl (hb hby hd) rfl hl k
theorem r_istore {k : Nat} {v : Int32} (hd : D bytes pc (.istore k) 2 nx) (ls' : List Slot) (hl : storeLocals ls.toArray k (.int v) = some ls'.toArray) (K : ORun l y bytes maxL ret R Z n0 as' Q h cells slots nx ls' st) : ORun l y bytes maxL ret R Z n0 as' Q h cells slots pc ls (.int v :: st) := by
  obtain ⟨hd, rfl⟩ := hd
  exact K.step fun p e s m below meth c T locs hx hZ hby hown X eT t k => XS.istore X.here hx rfl (hb hby hd) rfl hl k
theorem r_astoreN {k : Fin 4} {v : Value} (hd : D bytes pc (.astore_n k) 1 nx) (hv : v.isRef = true) (ls' : List Slot) (hl : storeLocals ls.toArray k.val v = some ls'.toArray) (K : ORun l y bytes maxL ret R Z n0 as' Q h cells slots nx ls' st) : ORun l y bytes maxL ret R Z n0 as' Q h cells slots pc ls (v :: st) := by
  obtain ⟨hd, rfl⟩ := hd
  exact K.step fun p e s m below meth c T locs hx hZ hby hown X eT t k => XS.astoreN X.here hx rfl (hb hby hd) rfl hv hl k
theorem r_astore {k : Nat} {v : Value} (hd : D bytes pc (.astore k) 2 nx) (hv : v.isRef = true) (ls' : List Slot) (hl : storeLocals ls.toArray k v = some ls'.toArray) (K : ORun l y bytes maxL ret R Z n0 as' Q h cells slots nx ls' st) : ORun l y bytes maxL ret R Z n0 as' Q h cells slots pc ls (v :: st) := by
  obtain ⟨hd, rfl⟩ := hd
  exact K.step fun p e s m below meth c T locs hx hZ hby hown X eT t k => XS.astore X.here hx rfl (hb hby hd) rfl hv hl k
theorem r_lstoreN {k : Fin 4} {v : Int64} (hd : D bytes pc (.lstore_n k) 1 nx) (ls' : List Slot) (hl : storeLocals ls.toArray k.val (.long v) = some ls'.toArray) (K : ORun l y bytes maxL ret R Z n0 as' Q h cells slots nx ls' st) : ORun l y bytes maxL ret R Z n0 as' Q h cells slots pc ls (.long v :: st) := by
  obtain ⟨hd, rfl⟩ := hd
  exact K.step fun p e s m below meth c T locs hx hZ hby hown X eT t k => XS.lstoreN X.here hx rfl (hb hby hd) rfl hl k
theorem r_lstore {k : Nat} {v : Int64} (hd : D bytes pc (.lstore k) 2 nx) (ls' : List Slot) (hl : storeLocals ls.toArray k (.long v) = some ls'.toArray) (K : ORun l y bytes maxL ret R Z n0 as' Q h cells slots nx ls' st) : ORun l y bytes maxL ret R Z n0 as' Q h cells slots pc ls (.long v :: st) := by
  obtain ⟨hd, rfl⟩ := hd
  exact K.step fun p e s m below meth c T locs hx hZ hby hown X eT t k => XS.lstore X.here hx rfl (hb hby hd) rfl hl k
theorem r_iinc {k : Nat} {i : Int} {v w : Int32} (hd : D bytes pc (.iinc k i) 3 nx) (hl : ls[k]? = some (.val (.int v))) (hw : v + Int32.ofInt i = w) (ls' : List Slot) (hl' : storeLocals ls.toArray k (.int w) = some ls'.toArray) (K : ORun l y bytes maxL ret R Z n0 as' Q h cells slots nx ls' st) : ORun l y bytes maxL ret R Z n0 as' Q h cells slots pc ls st := by
  obtain ⟨hd, rfl⟩ := hd
  subst hw
  exact K.step fun p e s m below meth c T locs hx hZ hby hown X eT t k => XS.iinc X.here hx rfl (hb hby hd) (getL hl) hl' k
/-! constants -/
theorem r_iconst {i : Int} (v : Int32) (hv : Int32.ofInt i = v) (hd : D bytes pc (.iconst i) 1 nx) (K : ORun l y bytes maxL ret R Z n0 as' Q h cells slots nx ls (.int v :: st)) : ORun l y bytes maxL ret R Z n0 as' Q h cells slots pc ls st := by
  obtain ⟨hd, rfl⟩ := hd
  subst hv
  exact K.step fun p e s m below meth c T locs hx hZ hby hown X eT t k => XS.iconst X.here hx rfl (hb hby hd) k
theorem r_bipush {i : Int} (v : Int32) (hv : (Int8.ofInt i).toInt32 = v) (hd : D bytes pc (.bipush i) 2 nx) (K : ORun l y bytes maxL ret R Z n0 as' Q h cells slots nx ls (.int v :: st)) : ORun l y bytes maxL ret R Z n0 as' Q h cells slots pc ls st := by
  obtain ⟨hd, rfl⟩ := hd
  subst hv
  exact K.step fun p e s m below meth c T locs hx hZ hby hown X eT t k => XS.bipush X.here hx rfl (hb hby hd) k
theorem r_sipush {i : Int} (v : Int32) (hv : (Int16.ofInt i).toInt32 = v) (hd : D bytes pc (.sipush i) 3 nx) (K : ORun l y bytes maxL ret R Z n0 as' Q h cells slots nx ls (.int v :: st)) : ORun l y bytes maxL ret R Z n0 as' Q h cells slots pc ls st := by
  obtain ⟨hd, rfl⟩ := hd
  subst hv
  exact K.step fun p e s m below meth c T locs hx hZ hby hown X eT t k => XS.sipush X.here hx rfl (hb hby hd) k
theorem r_lconst {i : Fin 2} (v : Int64) (hv : Int64.ofNat i = v) (hd : D bytes pc (.lconst i) 1 nx) (K : ORun l y bytes maxL ret R Z n0 as' Q h cells slots nx ls (.long v :: st)) : ORun l y bytes maxL ret R Z n0 as' Q h cells slots pc ls st := by
  obtain ⟨hd, rfl⟩ := hd
  subst hv
  exact K.step fun p e s m below meth c T locs hx hZ hby hown X eT t k => XS.lconst X.here hx rfl (hb hby hd) k
theorem r_null (hd : D bytes pc .aconst_null 1 nx) (K : ORun l y bytes maxL ret R Z n0 as' Q h cells slots nx ls (.null :: st)) : ORun l y bytes maxL ret R Z n0 as' Q h cells slots pc ls st := by
  obtain ⟨hd, rfl⟩ := hd
  exact K.step fun p e s m below meth c T locs hx hZ hby hown X eT t k => XS.aconstNull X.here hx rfl (hb hby hd) k
theorem r_ldc {i : Nat} {v : Int32} (w : (Cond.constant y.cls i v).before a0 Z = true) (hd : D bytes pc (.ldc i) 2 nx) (K : ORun l y bytes maxL ret R Z n0 as' Q h cells slots nx ls (.int v :: st)) : ORun l y bytes maxL ret R Z n0 as' Q h cells slots pc ls st := by
  obtain ⟨hd, rfl⟩ := hd
  exact K.step fun p e s m below meth c T locs hx hZ hby hown X eT t k => X.ldcInt hx hown (mvT hZ w) (g := mkF m pc ls.toArray st) rfl (hb hby hd) _ k
theorem r_ldc2 {i : Nat} {v : Int64} (w : (Cond.constantLong y.cls i v).before a0 Z = true) (hd : D bytes pc (.ldc2_w i) 3 nx) (K : ORun l y bytes maxL ret R Z n0 as' Q h cells slots nx ls (.long v :: st)) : ORun l y bytes maxL ret R Z n0 as' Q h cells slots pc ls st := by
  obtain ⟨hd, rfl⟩ := hd
  exact K.step fun p e s m below meth c T locs hx hZ hby hown X eT t k => X.ldc2Long hx hown (mvT hZ w) (g := mkF m pc ls.toArray st) rfl (hb hby hd) _ k
theorem r_ldcS {i : Nat} {text : String} {a : Addr} (w : (Cond.stringRef y.cls i text).before a0 Z = true) (L : Lit Z y.cls i a) (hd : D bytes pc (.ldc i) 2 nx) (K : ORun l y bytes maxL ret R Z n0 as' Q h cells slots nx ls (.ref a :: st)) : ORun l y bytes maxL ret R Z n0 as' Q h cells slots pc ls st := by
  obtain ⟨hd, rfl⟩ := hd
  exact K.step fun p e s m below meth c T locs hx hZ hby hown X eT t k => ldcR X hx hZ hown w L (g := mkF m pc ls.toArray st) rfl (hb hby hd) _ k
/-! arithmetic -/
theorem r_iadd {x z : Int32} (hd : D bytes pc .iadd 1 nx) (K : ORun l y bytes maxL ret R Z n0 as' Q h cells slots nx ls (.int (x + z) :: st)) : ORun l y bytes maxL ret R Z n0 as' Q h cells slots pc ls (.int z :: .int x :: st) := by
  obtain ⟨hd, rfl⟩ := hd
  exact K.step fun p e s m below meth c T locs hx hZ hby hown X eT t k => XS.iadd X.here hx rfl (hb hby hd) rfl k
theorem r_isub {x z : Int32} (hd : D bytes pc .isub 1 nx) (K : ORun l y bytes maxL ret R Z n0 as' Q h cells slots nx ls (.int (x - z) :: st)) : ORun l y bytes maxL ret R Z n0 as' Q h cells slots pc ls (.int z :: .int x :: st) := by
  obtain ⟨hd, rfl⟩ := hd
  exact K.step fun p e s m below meth c T locs hx hZ hby hown X eT t k => XS.isub X.here hx rfl (hb hby hd) rfl k
theorem r_iand {x z : Int32} (hd : D bytes pc .iand 1 nx) (K : ORun l y bytes maxL ret R Z n0 as' Q h cells slots nx ls (.int (x &&& z) :: st)) : ORun l y bytes maxL ret R Z n0 as' Q h cells slots pc ls (.int z :: .int x :: st) := by
  obtain ⟨hd, rfl⟩ := hd
  exact K.step fun p e s m below meth c T locs hx hZ hby hown X eT t k => XS.iand X.here hx rfl (hb hby hd) rfl k
theorem r_imul {x z : Int32} (hd : D bytes pc .imul 1 nx) (K : ORun l y bytes maxL ret R Z n0 as' Q h cells slots nx ls (.int (x * z) :: st)) : ORun l y bytes maxL ret R Z n0 as' Q h cells slots pc ls (.int z :: .int x :: st) := by
  obtain ⟨hd, rfl⟩ := hd
  exact K.step fun p e s m below meth c T locs hx hZ hby hown X eT t k => XS.imul X.here hx rfl (hb hby hd) rfl k
theorem r_ior {x z : Int32} (hd : D bytes pc .ior 1 nx) (K : ORun l y bytes maxL ret R Z n0 as' Q h cells slots nx ls (.int (x ||| z) :: st)) : ORun l y bytes maxL ret R Z n0 as' Q h cells slots pc ls (.int z :: .int x :: st) := by
  obtain ⟨hd, rfl⟩ := hd
  exact K.step fun p e s m below meth c T locs hx hZ hby hown X eT t k => XS.ior X.here hx rfl (hb hby hd) rfl k
theorem r_ixor {x z : Int32} (hd : D bytes pc .ixor 1 nx) (K : ORun l y bytes maxL ret R Z n0 as' Q h cells slots nx ls (.int (x ^^^ z) :: st)) : ORun l y bytes maxL ret R Z n0 as' Q h cells slots pc ls (.int z :: .int x :: st) := by
  obtain ⟨hd, rfl⟩ := hd
  exact K.step fun p e s m below meth c T locs hx hZ hby hown X eT t k => XS.ixor X.here hx rfl (hb hby hd) rfl k
theorem r_ishl {x z : Int32} (hd : D bytes pc .ishl 1 nx) (K : ORun l y bytes maxL ret R Z n0 as' Q h cells slots nx ls (.int (x <<< (z &&& 31)) :: st)) : ORun l y bytes maxL ret R Z n0 as' Q h cells slots pc ls (.int z :: .int x :: st) := by
  obtain ⟨hd, rfl⟩ := hd
  exact K.step fun p e s m below meth c T locs hx hZ hby hown X eT t k => XS.ishl X.here hx rfl (hb hby hd) rfl k
theorem r_ishr {x z : Int32} (hd : D bytes pc .ishr 1 nx) (K : ORun l y bytes maxL ret R Z n0 as' Q h cells slots nx ls (.int (x >>> (z &&& 31)) :: st)) : ORun l y bytes maxL ret R Z n0 as' Q h cells slots pc ls (.int z :: .int x :: st) := by
  obtain ⟨hd, rfl⟩ := hd
  exact K.step fun p e s m below meth c T locs hx hZ hby hown X eT t k => XS.ishr X.here hx rfl (hb hby hd) rfl k
theorem r_iushr {x z : Int32} (hd : D bytes pc .iushr 1 nx) (K : ORun l y bytes maxL ret R Z n0 as' Q h cells slots nx ls (.int ((x.toUInt32 >>> (z &&& 31).toUInt32).toInt32) :: st)) : ORun l y bytes maxL ret R Z n0 as' Q h cells slots pc ls (.int z :: .int x :: st) := by
  obtain ⟨hd, rfl⟩ := hd
  exact K.step fun p e s m below meth c T locs hx hZ hby hown X eT t k => XS.iushr X.here hx rfl (hb hby hd) rfl k
theorem r_ladd {x z : Int64} (hd : D bytes pc .ladd 1 nx) (K : ORun l y bytes maxL ret R Z n0 as' Q h cells slots nx ls (.long (x + z) :: st)) : ORun l y bytes maxL ret R Z n0 as' Q h cells slots pc ls (.long z :: .long x :: st) := by
  obtain ⟨hd, rfl⟩ := hd
  exact K.step fun p e s m below meth c T locs hx hZ hby hown X eT t k => XS.ladd X.here hx rfl (hb hby hd) rfl k
theorem r_lsub {x z : Int64} (hd : D bytes pc .lsub 1 nx) (K : ORun l y bytes maxL ret R Z n0 as' Q h cells slots nx ls (.long (x - z) :: st)) : ORun l y bytes maxL ret R Z n0 as' Q h cells slots pc ls (.long z :: .long x :: st) := by
  obtain ⟨hd, rfl⟩ := hd
  exact K.step fun p e s m below meth c T locs hx hZ hby hown X eT t k => XS.lsub X.here hx rfl (hb hby hd) rfl k
theorem r_land {x z : Int64} (hd : D bytes pc .land 1 nx) (K : ORun l y bytes maxL ret R Z n0 as' Q h cells slots nx ls (.long (x &&& z) :: st)) : ORun l y bytes maxL ret R Z n0 as' Q h cells slots pc ls (.long z :: .long x :: st) := by
  obtain ⟨hd, rfl⟩ := hd
  exact K.step fun p e s m below meth c T locs hx hZ hby hown X eT t k => XS.land X.here hx rfl (hb hby hd) rfl k
theorem r_lmul {x z : Int64} (hd : D bytes pc .lmul 1 nx) (K : ORun l y bytes maxL ret R Z n0 as' Q h cells slots nx ls (.long (x * z) :: st)) : ORun l y bytes maxL ret R Z n0 as' Q h cells slots pc ls (.long z :: .long x :: st) := by
  obtain ⟨hd, rfl⟩ := hd
  exact K.step fun p e s m below meth c T locs hx hZ hby hown X eT t k => XS.lmul X.here hx rfl (hb hby hd) rfl k
theorem r_lor {x z : Int64} (hd : D bytes pc .lor 1 nx) (K : ORun l y bytes maxL ret R Z n0 as' Q h cells slots nx ls (.long (x ||| z) :: st)) : ORun l y bytes maxL ret R Z n0 as' Q h cells slots pc ls (.long z :: .long x :: st) := by
  obtain ⟨hd, rfl⟩ := hd
  exact K.step fun p e s m below meth c T locs hx hZ hby hown X eT t k => XS.lor X.here hx rfl (hb hby hd) rfl k
theorem r_lxor {x z : Int64} (hd : D bytes pc .lxor 1 nx) (K : ORun l y bytes maxL ret R Z n0 as' Q h cells slots nx ls (.long (x ^^^ z) :: st)) : ORun l y bytes maxL ret R Z n0 as' Q h cells slots pc ls (.long z :: .long x :: st) := by
  obtain ⟨hd, rfl⟩ := hd
  exact K.step fun p e s m below meth c T locs hx hZ hby hown X eT t k => XS.lxor X.here hx rfl (hb hby hd) rfl k
theorem r_lshl {x : Int64} {z : Int32} (hd : D bytes pc .lshl 1 nx) (K : ORun l y bytes maxL ret R Z n0 as' Q h cells slots nx ls (.long (x <<< (z &&& 63).toInt64) :: st)) : ORun l y bytes maxL ret R Z n0 as' Q h cells slots pc ls (.int z :: .long x :: st) := by
  obtain ⟨hd, rfl⟩ := hd
  exact K.step fun p e s m below meth c T locs hx hZ hby hown X eT t k => XS.lshl X.here hx rfl (hb hby hd) rfl k
theorem r_lshr {x : Int64} {z : Int32} (hd : D bytes pc .lshr 1 nx) (K : ORun l y bytes maxL ret R Z n0 as' Q h cells slots nx ls (.long (x >>> (z &&& 63).toInt64) :: st)) : ORun l y bytes maxL ret R Z n0 as' Q h cells slots pc ls (.int z :: .long x :: st) := by
  obtain ⟨hd, rfl⟩ := hd
  exact K.step fun p e s m below meth c T locs hx hZ hby hown X eT t k => XS.lshr X.here hx rfl (hb hby hd) rfl k
theorem r_lushr {x : Int64} {z : Int32} (hd : D bytes pc .lushr 1 nx) (K : ORun l y bytes maxL ret R Z n0 as' Q h cells slots nx ls (.long ((x.toUInt64 >>> (z &&& 63).toInt64.toUInt64).toInt64) :: st)) : ORun l y bytes maxL ret R Z n0 as' Q h cells slots pc ls (.int z :: .long x :: st) := by
  obtain ⟨hd, rfl⟩ := hd
  exact K.step fun p e s m below meth c T locs hx hZ hby hown X eT t k => XS.lushr X.here hx rfl (hb hby hd) rfl k
theorem r_idiv {x z : Int32} (hd : D bytes pc .idiv 1 nx) (hz : z ≠ 0) (K : ORun l y bytes maxL ret R Z n0 as' Q h cells slots nx ls (.int (x / z) :: st)) : ORun l y bytes maxL ret R Z n0 as' Q h cells slots pc ls (.int z :: .int x :: st) := by
  obtain ⟨hd, rfl⟩ := hd
  exact K.step fun p e s m below meth c T locs hx hZ hby hown X eT t k => XS.idiv X.here hx rfl (hb hby hd) rfl hz k
theorem r_ldiv {x z : Int64} (hd : D bytes pc .ldiv 1 nx) (hz : z ≠ 0) (K : ORun l y bytes maxL ret R Z n0 as' Q h cells slots nx ls (.long (x / z) :: st)) : ORun l y bytes maxL ret R Z n0 as' Q h cells slots pc ls (.long z :: .long x :: st) := by
  obtain ⟨hd, rfl⟩ := hd
  exact K.step fun p e s m below meth c T locs hx hZ hby hown X eT t k => XS.ldiv X.here hx rfl (hb hby hd) rfl hz k
theorem r_ineg {x : Int32} (hd : D bytes pc .ineg 1 nx) (K : ORun l y bytes maxL ret R Z n0 as' Q h cells slots nx ls (.int (-x) :: st)) : ORun l y bytes maxL ret R Z n0 as' Q h cells slots pc ls (.int x :: st) := by
  obtain ⟨hd, rfl⟩ := hd
  exact K.step fun p e s m below meth c T locs hx hZ hby hown X eT t k => XS.ineg X.here hx rfl (hb hby hd) rfl k
theorem r_lneg {x : Int64} (hd : D bytes pc .lneg 1 nx) (K : ORun l y bytes maxL ret R Z n0 as' Q h cells slots nx ls (.long (-x) :: st)) : ORun l y bytes maxL ret R Z n0 as' Q h cells slots pc ls (.long x :: st) := by
  obtain ⟨hd, rfl⟩ := hd
  exact K.step fun p e s m below meth c T locs hx hZ hby hown X eT t k => XS.lneg X.here hx rfl (hb hby hd) rfl k
theorem r_i2l {x : Int32} (hd : D bytes pc .i2l 1 nx) (K : ORun l y bytes maxL ret R Z n0 as' Q h cells slots nx ls (.long (x.toInt64) :: st)) : ORun l y bytes maxL ret R Z n0 as' Q h cells slots pc ls (.int x :: st) := by
  obtain ⟨hd, rfl⟩ := hd
  exact K.step fun p e s m below meth c T locs hx hZ hby hown X eT t k => XS.i2l X.here hx rfl (hb hby hd) rfl k
theorem r_l2i {x : Int64} (hd : D bytes pc .l2i 1 nx) (K : ORun l y bytes maxL ret R Z n0 as' Q h cells slots nx ls (.int (x.toInt32) :: st)) : ORun l y bytes maxL ret R Z n0 as' Q h cells slots pc ls (.long x :: st) := by
  obtain ⟨hd, rfl⟩ := hd
  exact K.step fun p e s m below meth c T locs hx hZ hby hown X eT t k => XS.l2i X.here hx rfl (hb hby hd) rfl k
theorem r_i2b {x : Int32} (hd : D bytes pc .i2b 1 nx) (K : ORun l y bytes maxL ret R Z n0 as' Q h cells slots nx ls (.int (x.toInt8.toInt32) :: st)) : ORun l y bytes maxL ret R Z n0 as' Q h cells slots pc ls (.int x :: st) := by
  obtain ⟨hd, rfl⟩ := hd
  exact K.step fun p e s m below meth c T locs hx hZ hby hown X eT t k => XS.i2b X.here hx rfl (hb hby hd) rfl k
theorem r_i2s {x : Int32} (hd : D bytes pc .i2s 1 nx) (K : ORun l y bytes maxL ret R Z n0 as' Q h cells slots nx ls (.int (x.toInt16.toInt32) :: st)) : ORun l y bytes maxL ret R Z n0 as' Q h cells slots pc ls (.int x :: st) := by
  obtain ⟨hd, rfl⟩ := hd
  exact K.step fun p e s m below meth c T locs hx hZ hby hown X eT t k => XS.i2s X.here hx rfl (hb hby hd) rfl k
theorem r_i2c {x : Int32} (hd : D bytes pc .i2c 1 nx) (K : ORun l y bytes maxL ret R Z n0 as' Q h cells slots nx ls (.int (x.toUInt32.toUInt16.toUInt32.toInt32) :: st)) : ORun l y bytes maxL ret R Z n0 as' Q h cells slots pc ls (.int x :: st) := by
  obtain ⟨hd, rfl⟩ := hd
  exact K.step fun p e s m below meth c T locs hx hZ hby hown X eT t k => XS.i2c X.here hx rfl (hb hby hd) rfl k
theorem r_lcmp {x z : Int64} (hd : D bytes pc .lcmp 1 nx) (K : ORun l y bytes maxL ret R Z n0 as' Q h cells slots nx ls (.int (lcmpW x z) :: st)) : ORun l y bytes maxL ret R Z n0 as' Q h cells slots pc ls (.long z :: .long x :: st) := by
  obtain ⟨hd, rfl⟩ := hd
  exact K.step fun p e s m below meth c T locs hx hZ hby hown X eT t k => XS.lcmp X.here hx rfl (hb hby hd) rfl k
theorem r_dup {x : Value} (hd : D bytes pc .dup 1 nx) (hc : x.category = 1) (K : ORun l y bytes maxL ret R Z n0 as' Q h cells slots nx ls (x :: x :: st)) : ORun l y bytes maxL ret R Z n0 as' Q h cells slots pc ls (x :: st) := by
  obtain ⟨hd, rfl⟩ := hd
  exact K.step fun p e s m below meth c T locs hx hZ hby hown X eT t k => XS.dup X.here hx rfl (hb hby hd) rfl hc k
theorem r_pop {x : Value} (hd : D bytes pc .pop 1 nx) (hc : x.category = 1) (K : ORun l y bytes maxL ret R Z n0 as' Q h cells slots nx ls st) : ORun l y bytes maxL ret R Z n0 as' Q h cells slots pc ls (x :: st) := by
  obtain ⟨hd, rfl⟩ := hd
  exact K.step fun p e s m below meth c T locs hx hZ hby hown X eT t k => XS.pop X.here hx rfl (hb hby hd) rfl hc k
theorem r_dupX1 {x z : Value} (hd : D bytes pc .dup_x1 1 nx) (hc : x.category = 1) (hc2 : z.category = 1) (K : ORun l y bytes maxL ret R Z n0 as' Q h cells slots nx ls (x :: z :: x :: st)) : ORun l y bytes maxL ret R Z n0 as' Q h cells slots pc ls (x :: z :: st) := by
  obtain ⟨hd, rfl⟩ := hd
  exact K.step fun p e s m below meth c T locs hx hZ hby hown X eT t k => XS.dupX1 X.here hx rfl (hb hby hd) rfl hc hc2 k
theorem r_dup2 {x z : Value} (hd : D bytes pc .dup2 1 nx) (hc : x.category = 1) (hc2 : z.category = 1) (K : ORun l y bytes maxL ret R Z n0 as' Q h cells slots nx ls (x :: z :: x :: z :: st)) : ORun l y bytes maxL ret R Z n0 as' Q h cells slots pc ls (x :: z :: st) := by
  obtain ⟨hd, rfl⟩ := hd
  exact K.step fun p e s m below meth c T locs hx hZ hby hown X eT t k => XT.dup2 X.here hx rfl (hb hby hd) rfl hc hc2 k
theorem r_dup2L {x : Int64} (hd : D bytes pc .dup2 1 nx) (K : ORun l y bytes maxL ret R Z n0 as' Q h cells slots nx ls (.long x :: .long x :: st)) : ORun l y bytes maxL ret R Z n0 as' Q h cells slots pc ls (.long x :: st) := by
  obtain ⟨hd, rfl⟩ := hd
  exact K.step fun p e s m below meth c T locs hx hZ hby hown X eT t k => XT.dup2L X.here hx rfl (hb hby hd) rfl k
theorem r_irem {x z : Int32} (hd : D bytes pc .irem 1 nx) (hz : z ≠ 0) (K : ORun l y bytes maxL ret R Z n0 as' Q h cells slots nx ls (.int (x % z) :: st)) : ORun l y bytes maxL ret R Z n0 as' Q h cells slots pc ls (.int z :: .int x :: st) := by
  obtain ⟨hd, rfl⟩ := hd
  exact K.step fun p e s m below meth c T locs hx hZ hby hown X eT t k => iremM X hx rfl (hb hby hd) rfl hz k
theorem r_lrem {x z : Int64} (hd : D bytes pc .lrem 1 nx) (hz : z ≠ 0) (K : ORun l y bytes maxL ret R Z n0 as' Q h cells slots nx ls (.long (x % z) :: st)) : ORun l y bytes maxL ret R Z n0 as' Q h cells slots pc ls (.long z :: .long x :: st) := by
  obtain ⟨hd, rfl⟩ := hd
  rw [← lrem_mod] at K
  exact K.step fun p e s m below meth c T locs hx hZ hby hown X eT t k => XS.lrem X.here hx rfl (hb hby hd) rfl hz k
/-! branches -/
theorem r_goto {off : Int} (hd : DB bytes pc .goto off nx tgt) (K : ORun l y bytes maxL ret R Z n0 as' Q h cells slots tgt ls st) : ORun l y bytes maxL ret R Z n0 as' Q h cells slots pc ls st := by
  obtain ⟨hd, rfl, ho, rfl⟩ := hd
  exact K.step fun p e s m below meth c T locs hx hZ hby hown X eT t k => XS.goto X.here hx rfl rfl (hb hby hd) ho rfl k
theorem r_icmp {cd : ClassFile.Cond} {off : Int} {x z : Int32} (hd : DB bytes pc (.if_icmp cd) off nx tgt) (K1 : if_icmp.holds cd x z = true → ORun l y bytes maxL ret R Z n0 as' Q h cells slots tgt ls st) (K2 : if_icmp.holds cd x z = false → ORun l y bytes maxL ret R Z n0 as' Q h cells slots nx ls st) : ORun l y bytes maxL ret R Z n0 as' Q h cells slots pc ls (.int z :: .int x :: st) := by
  obtain ⟨hd, rfl, ho, rfl⟩ := hd
  cases hc : if_icmp.holds cd x z
  · exact (K2 hc).step fun p e s m below meth c T locs hx hZ hby hown X eT t k => XS.icmpNo X.here hx rfl (hb hby hd) rfl hc k
  · exact (K1 hc).step fun p e s m below meth c T locs hx hZ hby hown X eT t k => XS.icmpYes X.here hx rfl rfl (hb hby hd) rfl hc ho rfl k
theorem r_if {cd : ClassFile.Cond} {off : Int} {x : Int32} (hd : DB bytes pc (.ifCond cd) off nx tgt) (K1 : if_icmp.holds cd x 0 = true → ORun l y bytes maxL ret R Z n0 as' Q h cells slots tgt ls st) (K2 : if_icmp.holds cd x 0 = false → ORun l y bytes maxL ret R Z n0 as' Q h cells slots nx ls st) : ORun l y bytes maxL ret R Z n0 as' Q h cells slots pc ls (.int x :: st) := by
  obtain ⟨hd, rfl, ho, rfl⟩ := hd
  cases hc : if_icmp.holds cd x 0
  · exact (K2 hc).step fun p e s m below meth c T locs hx hZ hby hown X eT t k => XS.ifNo X.here hx rfl (hb hby hd) rfl ((if0 _ _).trans hc) k
  · exact (K1 hc).step fun p e s m below meth c T locs hx hZ hby hown X eT t k => XS.ifYes X.here hx rfl rfl (hb hby hd) rfl ((if0 _ _).trans hc) ho rfl k
theorem r_icmp_lt {off : Int} {x z : Int32} (hd : DB bytes pc (.if_icmp .lt) off nx tgt) (K1 : x < z → ORun l y bytes maxL ret R Z n0 as' Q h cells slots tgt ls st) (K2 : ¬ x < z → ORun l y bytes maxL ret R Z n0 as' Q h cells slots nx ls st) : ORun l y bytes maxL ret R Z n0 as' Q h cells slots pc ls (.int z :: .int x :: st) :=
  r_icmp hd (fun q => K1 (Decidable.byContradiction fun r => by rw [(flt r).1] at q; cases q)) (fun q => K2 (fun r => by rw [(tlt r).1] at q; cases q))
theorem r_if_lt {off : Int} {x : Int32} (hd : DB bytes pc (.ifCond .lt) off nx tgt) (K1 : x < 0 → ORun l y bytes maxL ret R Z n0 as' Q h cells slots tgt ls st) (K2 : ¬ x < 0 → ORun l y bytes maxL ret R Z n0 as' Q h cells slots nx ls st) : ORun l y bytes maxL ret R Z n0 as' Q h cells slots pc ls (.int x :: st) :=
  r_if hd (fun q => K1 (Decidable.byContradiction fun r => by rw [(flt r).1] at q; cases q)) (fun q => K2 (fun r => by rw [(tlt r).1] at q; cases q))
theorem r_icmp_ge {off : Int} {x z : Int32} (hd : DB bytes pc (.if_icmp .ge) off nx tgt) (K1 : ¬ x < z → ORun l y bytes maxL ret R Z n0 as' Q h cells slots tgt ls st) (K2 : x < z → ORun l y bytes maxL ret R Z n0 as' Q h cells slots nx ls st) : ORun l y bytes maxL ret R Z n0 as' Q h cells slots pc ls (.int z :: .int x :: st) :=
  r_icmp hd (fun q => K1 (fun r => by rw [(tlt r).2.1] at q; cases q)) (fun q => K2 (Decidable.byContradiction fun r => by rw [(flt r).2.1] at q; cases q))
theorem r_if_ge {off : Int} {x : Int32} (hd : DB bytes pc (.ifCond .ge) off nx tgt) (K1 : ¬ x < 0 → ORun l y bytes maxL ret R Z n0 as' Q h cells slots tgt ls st) (K2 : x < 0 → ORun l y bytes maxL ret R Z n0 as' Q h cells slots nx ls st) : ORun l y bytes maxL ret R Z n0 as' Q h cells slots pc ls (.int x :: st) :=
  r_if hd (fun q => K1 (fun r => by rw [(tlt r).2.1] at q; cases q)) (fun q => K2 (Decidable.byContradiction fun r => by rw [(flt r).2.1] at q; cases q))
theorem r_icmp_gt {off : Int} {x z : Int32} (hd : DB bytes pc (.if_icmp .gt) off nx tgt) (K1 : z < x → ORun l y bytes maxL ret R Z n0 as' Q h cells slots tgt ls st) (K2 : ¬ z < x → ORun l y bytes maxL ret R Z n0 as' Q h cells slots nx ls st) : ORun l y bytes maxL ret R Z n0 as' Q h cells slots pc ls (.int z :: .int x :: st) :=
  r_icmp hd (fun q => K1 (Decidable.byContradiction fun r => by rw [(flt r).2.2.1] at q; cases q)) (fun q => K2 (fun r => by rw [(tlt r).2.2.1] at q; cases q))
theorem r_if_gt {off : Int} {x : Int32} (hd : DB bytes pc (.ifCond .gt) off nx tgt) (K1 : 0 < x → ORun l y bytes maxL ret R Z n0 as' Q h cells slots tgt ls st) (K2 : ¬ 0 < x → ORun l y bytes maxL ret R Z n0 as' Q h cells slots nx ls st) : ORun l y bytes maxL ret R Z n0 as' Q h cells slots pc ls (.int x :: st) :=
  r_if hd (fun q => K1 (Decidable.byContradiction fun r => by rw [(flt r).2.2.1] at q; cases q)) (fun q => K2 (fun r => by rw [(tlt r).2.2.1] at q; cases q))
theorem r_icmp_le {off : Int} {x z : Int32} (hd : DB bytes pc (.if_icmp .le) off nx tgt) (K1 : ¬ z < x → ORun l y bytes maxL ret R Z n0 as' Q h cells slots tgt ls st) (K2 : z < x → ORun l y bytes maxL ret R Z n0 as' Q h cells slots nx ls st) : ORun l y bytes maxL ret R Z n0 as' Q h cells slots pc ls (.int z :: .int x :: st) :=
  r_icmp hd (fun q => K1 (fun r => by rw [(tlt r).2.2.2] at q; cases q)) (fun q => K2 (Decidable.byContradiction fun r => by rw [(flt r).2.2.2] at q; cases q))
theorem r_if_le {off : Int} {x : Int32} (hd : DB bytes pc (.ifCond .le) off nx tgt) (K1 : ¬ 0 < x → ORun l y bytes maxL ret R Z n0 as' Q h cells slots tgt ls st) (K2 : 0 < x → ORun l y bytes maxL ret R Z n0 as' Q h cells slots nx ls st) : ORun l y bytes maxL ret R Z n0 as' Q h cells slots pc ls (.int x :: st) :=
  r_if hd (fun q => K1 (fun r => by rw [(tlt r).2.2.2] at q; cases q)) (fun q => K2 (Decidable.byContradiction fun r => by rw [(flt r).2.2.2] at q; cases q))
theorem r_icmp_eq {off : Int} {x z : Int32} (hd : DB bytes pc (.if_icmp .eq) off nx tgt) (K1 : x = z → ORun l y bytes maxL ret R Z n0 as' Q h cells slots tgt ls st) (K2 : ¬ x = z → ORun l y bytes maxL ret R Z n0 as' Q h cells slots nx ls st) : ORun l y bytes maxL ret R Z n0 as' Q h cells slots pc ls (.int z :: .int x :: st) :=
  r_icmp hd (fun q => K1 (Decidable.byContradiction fun r => by rw [(feq r).1] at q; cases q)) (fun q => K2 (fun r => by rw [(teq r).1] at q; cases q))
theorem r_if_eq {off : Int} {x : Int32} (hd : DB bytes pc (.ifCond .eq) off nx tgt) (K1 : x = 0 → ORun l y bytes maxL ret R Z n0 as' Q h cells slots tgt ls st) (K2 : ¬ x = 0 → ORun l y bytes maxL ret R Z n0 as' Q h cells slots nx ls st) : ORun l y bytes maxL ret R Z n0 as' Q h cells slots pc ls (.int x :: st) :=
  r_if hd (fun q => K1 (Decidable.byContradiction fun r => by rw [(feq r).1] at q; cases q)) (fun q => K2 (fun r => by rw [(teq r).1] at q; cases q))
theorem r_icmp_ne {off : Int} {x z : Int32} (hd : DB bytes pc (.if_icmp .ne) off nx tgt) (K1 : ¬ x = z → ORun l y bytes maxL ret R Z n0 as' Q h cells slots tgt ls st) (K2 : x = z → ORun l y bytes maxL ret R Z n0 as' Q h cells slots nx ls st) : ORun l y bytes maxL ret R Z n0 as' Q h cells slots pc ls (.int z :: .int x :: st) :=
  r_icmp hd (fun q => K1 (fun r => by rw [(teq r).2] at q; cases q)) (fun q => K2 (Decidable.byContradiction fun r => by rw [(feq r).2] at q; cases q))
theorem r_if_ne {off : Int} {x : Int32} (hd : DB bytes pc (.ifCond .ne) off nx tgt) (K1 : ¬ x = 0 → ORun l y bytes maxL ret R Z n0 as' Q h cells slots tgt ls st) (K2 : x = 0 → ORun l y bytes maxL ret R Z n0 as' Q h cells slots nx ls st) : ORun l y bytes maxL ret R Z n0 as' Q h cells slots pc ls (.int x :: st) :=
  r_if hd (fun q => K1 (fun r => by rw [(teq r).2] at q; cases q)) (fun q => K2 (Decidable.byContradiction fun r => by rw [(feq r).2] at q; cases q))
theorem r_ifnull0 {off : Int} (hd : DB bytes pc .ifnull off nx tgt) (K : ORun l y bytes maxL ret R Z n0 as' Q h cells slots tgt ls st) : ORun l y bytes maxL ret R Z n0 as' Q h cells slots pc ls (.null :: st) := by
  obtain ⟨hd, rfl, ho, rfl⟩ := hd
  exact K.step fun p e s m below meth c T locs hx hZ hby hown X eT t k => XS.ifnullYes X.here hx rfl rfl (hb hby hd) rfl ho rfl k
theorem r_ifnull1 {off : Int} {b : Addr} (hd : DB bytes pc .ifnull off nx tgt) (K : ORun l y bytes maxL ret R Z n0 as' Q h cells slots nx ls st) : ORun l y bytes maxL ret R Z n0 as' Q h cells slots pc ls (.ref b :: st) := by
  obtain ⟨hd, rfl, ho, rfl⟩ := hd
  exact K.step fun p e s m below meth c T locs hx hZ hby hown X eT t k => XS.ifnullNo X.here hx rfl (hb hby hd) rfl k
theorem r_ifnonnull0 {off : Int} (hd : DB bytes pc .ifnonnull off nx tgt) (K : ORun l y bytes maxL ret R Z n0 as' Q h cells slots nx ls st) : ORun l y bytes maxL ret R Z n0 as' Q h cells slots pc ls (.null :: st) := by
  obtain ⟨hd, rfl, ho, rfl⟩ := hd
  exact K.step fun p e s m below meth c T locs hx hZ hby hown X eT t k => XS.ifnonnullNo X.here hx rfl (hb hby hd) rfl k
theorem r_ifnonnull1 {off : Int} {b : Addr} (hd : DB bytes pc .ifnonnull off nx tgt) (K : ORun l y bytes maxL ret R Z n0 as' Q h cells slots tgt ls st) : ORun l y bytes maxL ret R Z n0 as' Q h cells slots pc ls (.ref b :: st) := by
  obtain ⟨hd, rfl, ho, rfl⟩ := hd
  exact K.step fun p e s m below meth c T locs hx hZ hby hown X eT t k => XS.ifnonnullYes X.here hx rfl rfl (hb hby hd) rfl ho rfl k
theorem r_acmp {cd : ACond} {off : Int} {x z : Value} (h1 : x.isRef = true) (h2 : z.isRef = true) (hd : DB bytes pc (.if_acmp cd) off nx tgt) (K1 : acV cd (decide (x = z)) = true → ORun l y bytes maxL ret R Z n0 as' Q h cells slots tgt ls st) (K2 : acV cd (decide (x = z)) = false → ORun l y bytes maxL ret R Z n0 as' Q h cells slots nx ls st) : ORun l y bytes maxL ret R Z n0 as' Q h cells slots pc ls (z :: x :: st) := by
  obtain ⟨hd, rfl, ho, rfl⟩ := hd
  cases hc : acV cd (decide (x = z))
  · exact (K2 hc).step fun p e s m below meth c T locs hx hZ hby hown X eT t k => Jvm.RoadKit.acmp (g := mkF m pc ls.toArray (z :: x :: st)) X hx rfl h1 h2 (same := decide (x = z)) rfl (hb hby hd) rfl rfl ho (by rw [hc]; rfl) k
  · exact (K1 hc).step fun p e s m below meth c T locs hx hZ hby hown X eT t k => Jvm.RoadKit.acmp (g := mkF m pc ls.toArray (z :: x :: st)) X hx rfl h1 h2 (same := decide (x = z)) rfl (hb hby hd) rfl rfl ho (by rw [hc]; rfl) k
theorem r_acmp_eq {off : Int} {x z : Value} (h1 : x.isRef = true) (h2 : z.isRef = true) (hd : DB bytes pc (.if_acmp .eq) off nx tgt) (K1 : x = z → ORun l y bytes maxL ret R Z n0 as' Q h cells slots tgt ls st) (K2 : ¬ x = z → ORun l y bytes maxL ret R Z n0 as' Q h cells slots nx ls st) : ORun l y bytes maxL ret R Z n0 as' Q h cells slots pc ls (z :: x :: st) :=
  r_acmp h1 h2 hd (fun q => K1 (by simpa [acV] using q)) (fun q => K2 (by simpa [acV] using q))
theorem r_acmp_ne {off : Int} {x z : Value} (h1 : x.isRef = true) (h2 : z.isRef = true) (hd : DB bytes pc (.if_acmp .ne) off nx tgt) (K1 : ¬ x = z → ORun l y bytes maxL ret R Z n0 as' Q h cells slots tgt ls st) (K2 : x = z → ORun l y bytes maxL ret R Z n0 as' Q h cells slots nx ls st) : ORun l y bytes maxL ret R Z n0 as' Q h cells slots pc ls (z :: x :: st) :=
  r_acmp h1 h2 hd (fun q => K1 (by simpa [acV] using q)) (fun q => K2 (by simpa [acV] using q))
/-! returns -/
theorem ORun.back {v : Option Value} (hv : ret = none → v = none) (hc : cells ≤ R.cells) (hs : slots ≤ R.slots) (hq : Q v h)
    (hl : ∀ (p : Program) (e : Env) (s : State) (m : MethodId) (below : List Frame) (meth : Method) (c : Code) (T : State) (locs : List Loc), p.tables.exec = Jvm.exec → c.code = bytes → meth.sig.returnType = ret → Stand p l e R s m as' below meth c T locs cells slots → ∀ fs : List Frame,
      (∀ (f : JFrame) (acts : List Action), f.method = m → f.locked = none → f.entered = [] → (doReturn e (T.setTop f) acts v).1 = T.setFrames fs) → Steps p.tables e below (T.setTop (mkF m pc ls.toArray st)) (T.setFrames fs)) : ORun l y bytes maxL ret R Z n0 as' Q h cells slots pc ls st :=
  fun p e s m below meth c T locs hx hZ hby hml hown hnm hret hlk X eT N => by
    obtain ⟨fs, hr, hrun, hended, hW, hsame⟩ := X.leave (v := v) (fun q => hv (hret ▸ q)) hlk
    exact ⟨_, _, hl p e s m below meth c T locs hx hby hret X fs hr, hrun, hended, v, locs, rfl, ⟨by show Q v T.heap; rw [eT]; exact hq, N⟩, ⟨v, rfl⟩, hW, hsame.mono hc hs⟩
theorem r_ret (hd : D bytes pc .return_ 1 nx) (hc : cells ≤ R.cells) (hs : slots ≤ R.slots) (hq : Q none h) : ORun l y bytes maxL none R Z n0 as' Q h cells slots pc ls [] :=
  ORun.back (fun _ => rfl) hc hs hq fun p e s m below meth c T locs hx hby hret X fs hr => X.returnOut hx hret (hb hby hd.1) hr
theorem r_iret {v : Int32} (hd : D bytes pc .ireturn 1 nx) (hc : cells ≤ R.cells) (hs : slots ≤ R.slots) (hq : Q (some (.int v)) h) : ORun l y bytes maxL (some .int) R Z n0 as' Q h cells slots pc ls (.int v :: st) :=
  ORun.back (fun q => nomatch q) hc hs hq fun p e s m below meth c T locs hx hby hret X fs hr => retOut X hx (t := .int) hret rfl (Or.inl ⟨rfl, Or.inl rfl, _, rfl⟩) (hb hby hd.1) hr
theorem r_nret {v : Int32} {t : FieldType} (ht : t = .boolean ∨ t = .byte ∨ t = .char ∨ t = .short) (hd : D bytes pc .ireturn 1 nx) (hc : cells ≤ R.cells) (hs : slots ≤ R.slots) (hq : Q (some (.int (nar t v))) h) : ORun l y bytes maxL (some t) R Z n0 as' Q h cells slots pc ls (.int v :: st) :=
  ORun.back (fun q => nomatch q) hc hs hq fun p e s m below meth c T locs hx hby hret X fs hr => retN X hx (t := t) hret ht (hb hby hd.1) hr
theorem r_lret {v : Int64} (hd : D bytes pc .lreturn 1 nx) (hc : cells ≤ R.cells) (hs : slots ≤ R.slots) (hq : Q (some (.long v)) h) : ORun l y bytes maxL (some .long) R Z n0 as' Q h cells slots pc ls (.long v :: st) :=
  ORun.back (fun q => nomatch q) hc hs hq fun p e s m below meth c T locs hx hby hret X fs hr => retOut X hx (t := .long) hret rfl (Or.inr (Or.inl ⟨rfl, rfl, _, rfl⟩)) (hb hby hd.1) hr
theorem r_aret {v : Value} {t : FieldType} (ht : t.isReference = true) (hv : v.isRef = true) (hn : narrow t v = v) (hd : D bytes pc .areturn 1 nx) (hc : cells ≤ R.cells) (hs : slots ≤ R.slots) (hq : Q (some v) h) : ORun l y bytes maxL (some t) R Z n0 as' Q h cells slots pc ls (v :: st) :=
  ORun.back (fun q => nomatch q) hc hs hq fun p e s m below meth c T locs hx hby hret X fs hr => retOut X hx (t := t) hret hn (Or.inr (Or.inr (Or.inr (Or.inr ⟨rfl, ht, hv⟩)))) (hb hby hd.1) hr
/-! fields, objects -/
theorem r_getF {index : Nat} {O n d host : String} {a : Addr} {v : Value} (w : (Cond.fieldLink y.cls index O n d).before a0 Z = true ∨ (Cond.fieldLinkNest y.cls index O n d host).before a0 Z = true) (F : Fld Z h a O n d v) (hd : D bytes pc (.getfield index) 3 nx) (K : ORun l y bytes maxL ret R Z n0 as' Q h cells slots nx ls (v :: st)) : ORun l y bytes maxL ret R Z n0 as' Q h cells slots pc ls (.ref a :: st) := by
  obtain ⟨hd, rfl⟩ := hd
  refine K.law fun p e s m below meth c T locs hx hZ hby hml hown hnm X eT N => ?_
  obtain ⟨T', X', e', st'⟩ := getF X hx hZ hown w Via.refl eT F (g := mkF m pc ls.toArray (.ref a :: st)) rfl rfl (hb hby hd)
  exact ⟨T', locs, X', e', N, st'⟩
theorem r_getS {index : Nat} {O n d : String} {v : Value} (w : (Cond.fieldLink y.cls index O n d).before a0 Z = true) (F : Sta Z h O n d v) (hd : D bytes pc (.getstatic index) 3 nx) (K : ORun l y bytes maxL ret R Z n0 as' Q h cells slots nx ls (v :: st)) : ORun l y bytes maxL ret R Z n0 as' Q h cells slots pc ls st := by
  obtain ⟨hd, rfl⟩ := hd
  refine K.law fun p e s m below meth c T locs hx hZ hby hml hown hnm X eT N => ?_
  obtain ⟨T', X', e', st'⟩ := getS2 X hx hZ hown (host := "") (Or.inl w) Via.refl eT F (g := mkF m pc ls.toArray st) rfl (hb hby hd)
  exact ⟨T', locs, X', e', N, st'⟩
theorem ORun.lawK {pc' : Nat} {st' : List Value} {cells' slots' : Nat} {P : Heap → Prop}
    (hs : ∀ (p : Program) (e : Env) (s : State) (m : MethodId) (below : List Frame) (meth : Method) (c : Code) (T : State) (locs : List Loc), p.tables.exec = Jvm.exec → Z.Warmed39 s.vm → c.code = bytes → c.maxLocals = maxL → s.vm.findClass y.cls = some m.cls → meth.name = y.name → Stand p l e R s m as' below meth c T locs cells slots → T.heap = h → Fr n0 locs →
      ∃ T' locs', Stand p l e R s m as' below meth c T' locs' cells' slots' ∧ P T'.heap ∧ Fr n0 locs' ∧ ∀ target, Steps p.tables e below (T'.setTop (mkF m pc' ls'.toArray st')) target → Steps p.tables e below (T.setTop (mkF m pc ls.toArray st)) target)
    (K : ∀ h', P h' → ORun l y bytes maxL ret R Z n0 as' Q h' cells' slots' pc' ls' st') : ORun l y bytes maxL ret R Z n0 as' Q h cells slots pc ls st :=
  fun p e s m below meth c T locs hx hZ hby hml hown hnm hret hlk X eT N => by
    obtain ⟨T', locs', X', eT', N', st⟩ := hs p e s m below meth c T locs hx hZ hby hml hown hnm X eT N
    obtain ⟨U, o, h1, h2⟩ := K _ eT' p e s m below meth c T' locs' hx hZ hby hml hown hnm hret hlk X' rfl N'
    exact ⟨U, o, st _ h1, h2⟩
theorem r_putF {index kk : Nat} {O n d C host : String} {ty : FieldType} {a : Addr} {v old : Value} (w : (Cond.fieldLink y.cls index O n d).before a0 Z = true ∨ (Cond.fieldLinkNest y.cls index O n d host).before a0 Z = true) (F : Fld Z h a O n d old) (E : Exa Z h a C)
    (L : (Cond.lays C O n d).before a0 Z = true ∨ ((Cond.laysFinal C O n d).before a0 Z = true ∧ y.cls = O ∧ y.name = "<init>")) (wi : (Cond.instantiable C kk).before a0 Z = true) (hty : parseFieldDescriptor d = some ty) (hn : narrow ty v = v) (hf : fits ty v = true) (ge : n0 ≤ a) (hd : D bytes pc (.putfield index) 3 nx)
    (K : ∀ h', Wr h h' a (Jvm.RoadKit.slotOf Z O n d) v → ORun l y bytes maxL ret R Z n0 as' Q h' cells slots nx ls st) : ORun l y bytes maxL ret R Z n0 as' Q h cells slots pc ls (v :: .ref a :: st) := by
  obtain ⟨hd, rfl⟩ := hd
  refine ORun.lawK (fun p e s m below meth c T locs hx hZ hby hml hown hnm X eT N => ?_) K
  obtain ⟨T', h', X', rfl, W, st'⟩ := putF X hx hZ hown w Via.refl eT F E (L.imp id fun q => ⟨q.1, q.2.1, hnm.trans q.2.2⟩) wi hty hn hf (g := mkF m pc ls.toArray (v :: .ref a :: st)) rfl rfl (hb hby hd)
  exact ⟨T', _, X', W, Fr.snoc X' N ge, st'⟩
theorem r_putFN {index kk : Nat} {O n d C : String} {ty : FieldType} {a : Addr} {v v' old : Value} (w : (Cond.fieldLink y.cls index O n d).before a0 Z = true) (F : Fld Z h a O n d old) (E : Exa Z h a C)
    (L : (Cond.lays C O n d).before a0 Z = true ∨ ((Cond.laysFinal C O n d).before a0 Z = true ∧ y.cls = O ∧ y.name = "<init>")) (wi : (Cond.instantiable C kk).before a0 Z = true) (hty : parseFieldDescriptor d = some ty) (hn : narrow ty v = v') (hf : fits ty v' = true) (ge : n0 ≤ a) (hd : D bytes pc (.putfield index) 3 nx)
    (K : ∀ h', Wr h h' a (Jvm.RoadKit.slotOf Z O n d) v' → ORun l y bytes maxL ret R Z n0 as' Q h' cells slots nx ls st) : ORun l y bytes maxL ret R Z n0 as' Q h cells slots pc ls (v :: .ref a :: st) := by
  obtain ⟨hd, rfl⟩ := hd
  refine ORun.lawK (fun p e s m below meth c T locs hx hZ hby hml hown hnm X eT N => ?_) K
  obtain ⟨T', h', X', rfl, W, st'⟩ := putFN X hx hZ hown w Via.refl eT F E (L.imp id fun q => ⟨q.1, q.2.1, hnm.trans q.2.2⟩) wi hty hn hf (g := mkF m pc ls.toArray (v :: .ref a :: st)) rfl rfl (hb hby hd)
  exact ⟨T', _, X', W, Fr.snoc X' N ge, st'⟩
theorem r_new {index n : Nat} {C : String} (w : (Cond.classLink y.cls index C).before a0 Z = true) (wi : (Cond.instantiable C n).before a0 Z = true) (wz : (Cond.initialized C).before a0 Z = true) (hd : D bytes pc (.new index) 3 nx) (hc : cells + 1 ≤ R.cells) (hl : slots + n ≤ R.slots)
    (K : ∀ h', Ext h h' ∧ Exa Z h' h.size C ∧ (∀ {O nm d : String} {ty : FieldType}, Laid Z a0 C O nm d → parseFieldDescriptor d = some ty → Fld Z h' h.size O nm d (defaultValue ty)) → ORun l y bytes maxL ret R Z n0 as' Q h' (cells + 1) (slots + n) nx ls (.ref h.size :: st)) : ORun l y bytes maxL ret R Z n0 as' Q h cells slots pc ls st := by
  obtain ⟨hd, rfl⟩ := hd
  refine ORun.lawK (fun p e s m below meth c T locs hx hZ hby hml hown hnm X eT N => ?_) K
  obtain ⟨T', h', X', rfl, E, A, D', -, st'⟩ := newO X hx hZ hown w wi wz eT (g := mkF m pc ls.toArray st) rfl (hb hby hd) hc hl
  exact ⟨T', _, X', ⟨E, A, D'⟩, N, st'⟩
theorem r_newarr {aty : ArrayType} {n : Int32} (cap : Nat) (w : (Cond.arrayClass (newarray.typeOf aty)).before a0 Z = true) (hd : D bytes pc (.newarray aty) 2 nx) (hn : ¬ n < 0) (hcap : n.toNatClampNeg ≤ cap) (hb' : cap * 8 ≤ 536870912) (hc : cells + 1 ≤ R.cells) (hl : slots + cap ≤ R.slots)
    (K : ∀ h' cA, Ext h h' → Arr Z h' h.size (newA cA (newarray.typeOf aty) n) (newarray.typeOf aty) → ORun l y bytes maxL ret R Z n0 as' Q h' (cells + 1) (slots + cap) nx ls (.ref h.size :: st)) : ORun l y bytes maxL ret R Z n0 as' Q h cells slots pc ls (.int n :: st) := by
  obtain ⟨hd, rfl⟩ := hd
  refine ORun.lawK (P := fun h' => ∃ cA, Ext h h' ∧ Arr Z h' h.size (newA cA (newarray.typeOf aty) n) (newarray.typeOf aty)) (fun p e s m below meth c T locs hx hZ hby hml hown hnm X eT N => ?_) (fun h' q => by obtain ⟨cA, E, A⟩ := q; exact K h' cA E A)
  obtain ⟨T', h', cA, X', rfl, E, A, st'⟩ := newP X hx hZ w eT (g := mkF m pc ls.toArray (.int n :: st)) rfl (hb hby hd) rfl hn hcap hb' hc hl
  exact ⟨T', _, X', ⟨cA, E, A⟩, N, st'⟩
/-! arrays -/
theorem r_len {a : Addr} {cl : Cell} {ty : FieldType} (A : Arr Z h a cl ty) (hd : D bytes pc .arraylength 1 nx) (K : ORun l y bytes maxL ret R Z n0 as' Q h cells slots nx ls (.int cl.slots.size.toInt32 :: st)) : ORun l y bytes maxL ret R Z n0 as' Q h cells slots pc ls (.ref a :: st) := by
  obtain ⟨hd, rfl⟩ := hd
  exact K.step fun p e s m below meth c T locs hx hZ hby hown X eT t k => X.arraylength hx (by rw [eT]; exact A.1) (State.isArrayOf_alike hZ.alike A.2.1) (g := mkF m pc ls.toArray (.ref a :: st)) rfl rfl (hb hby hd) _ k
theorem r_iaload {a : Addr} {cl : Cell} {j : Int32} {v : Value} (A : Arr Z h a cl .int) (hj : ¬ (j < 0 ∨ cl.slots.size ≤ j.toNatClampNeg)) (hv : cl.slots[j.toNatClampNeg]? = some v) (hd : D bytes pc .iaload 1 nx) (K : ORun l y bytes maxL ret R Z n0 as' Q h cells slots nx ls (v :: st)) : ORun l y bytes maxL ret R Z n0 as' Q h cells slots pc ls (.int j :: .ref a :: st) := by
  obtain ⟨hd, rfl⟩ := hd
  exact K.step fun p e s m below meth c T locs hx hZ hby hown X eT t k => X.iaload hx (j := j) (v := v) (by rw [eT]; exact A.1) (State.isArrayOf_alike hZ.alike A.2.1) A.2.2 hj hv (g := mkF m pc ls.toArray (.int j :: .ref a :: st)) rfl rfl (hb hby hd) _ k
theorem r_caload {a : Addr} {cl : Cell} {j : Int32} {v : Value} (A : Arr Z h a cl .char) (hj : ¬ (j < 0 ∨ cl.slots.size ≤ j.toNatClampNeg)) (hv : cl.slots[j.toNatClampNeg]? = some v) (hd : D bytes pc .caload 1 nx) (K : ORun l y bytes maxL ret R Z n0 as' Q h cells slots nx ls (v :: st)) : ORun l y bytes maxL ret R Z n0 as' Q h cells slots pc ls (.int j :: .ref a :: st) := by
  obtain ⟨hd, rfl⟩ := hd
  exact K.step fun p e s m below meth c T locs hx hZ hby hown X eT t k => X.caload hx (j := j) (v := v) (by rw [eT]; exact A.1) (State.isArrayOf_alike hZ.alike A.2.1) A.2.2 hj hv (g := mkF m pc ls.toArray (.int j :: .ref a :: st)) rfl rfl (hb hby hd) _ k
theorem r_baload {a : Addr} {cl : Cell} {j : Int32} {v : Value} (A : Arr Z h a cl .byte) (hj : ¬ (j < 0 ∨ cl.slots.size ≤ j.toNatClampNeg)) (hv : cl.slots[j.toNatClampNeg]? = some v) (hd : D bytes pc .baload 1 nx) (K : ORun l y bytes maxL ret R Z n0 as' Q h cells slots nx ls (v :: st)) : ORun l y bytes maxL ret R Z n0 as' Q h cells slots pc ls (.int j :: .ref a :: st) := by
  obtain ⟨hd, rfl⟩ := hd
  exact K.step fun p e s m below meth c T locs hx hZ hby hown X eT t k => X.baloadBytes hx (j := j) (v := v) (by rw [eT]; exact A.1) (State.isArrayOf_alike hZ.alike A.2.1) A.2.2 hj hv (g := mkF m pc ls.toArray (.int j :: .ref a :: st)) rfl rfl (hb hby hd) _ k
theorem r_laload {a : Addr} {cl : Cell} {j : Int32} {v : Value} (A : Arr Z h a cl .long) (hj : ¬ (j < 0 ∨ cl.slots.size ≤ j.toNatClampNeg)) (hv : cl.slots[j.toNatClampNeg]? = some v) (hd : D bytes pc .laload 1 nx) (K : ORun l y bytes maxL ret R Z n0 as' Q h cells slots nx ls (v :: st)) : ORun l y bytes maxL ret R Z n0 as' Q h cells slots pc ls (.int j :: .ref a :: st) := by
  obtain ⟨hd, rfl⟩ := hd
  exact K.step fun p e s m below meth c T locs hx hZ hby hown X eT t k => X.laload hx (j := j) (v := v) (by rw [eT]; exact A.1) (State.isArrayOf_alike hZ.alike A.2.1) A.2.2 hj hv (g := mkF m pc ls.toArray (.int j :: .ref a :: st)) rfl rfl (hb hby hd) _ k
theorem r_saload {a : Addr} {cl : Cell} {j : Int32} {v : Value} (A : Arr Z h a cl .short) (hj : ¬ (j < 0 ∨ cl.slots.size ≤ j.toNatClampNeg)) (hv : cl.slots[j.toNatClampNeg]? = some v) (hd : D bytes pc .saload 1 nx) (K : ORun l y bytes maxL ret R Z n0 as' Q h cells slots nx ls (v :: st)) : ORun l y bytes maxL ret R Z n0 as' Q h cells slots pc ls (.int j :: .ref a :: st) := by
  obtain ⟨hd, rfl⟩ := hd
  exact K.step fun p e s m below meth c T locs hx hZ hby hown X eT t k => X.saload hx (j := j) (v := v) (by rw [eT]; exact A.1) (State.isArrayOf_alike hZ.alike A.2.1) A.2.2 hj hv (g := mkF m pc ls.toArray (.int j :: .ref a :: st)) rfl rfl (hb hby hd) _ k
theorem r_aaload {a : Addr} {cl : Cell} {j : Int32} {v : Value} {ty : FieldType} (A : Arr Z h a cl ty) (hty : ty.isReference = true) (hj : ¬ (j < 0 ∨ cl.slots.size ≤ j.toNatClampNeg)) (hv : cl.slots[j.toNatClampNeg]? = some v) (hd : D bytes pc .aaload 1 nx) (K : ORun l y bytes maxL ret R Z n0 as' Q h cells slots nx ls (v :: st)) : ORun l y bytes maxL ret R Z n0 as' Q h cells slots pc ls (.int j :: .ref a :: st) := by
  obtain ⟨hd, rfl⟩ := hd
  exact K.step fun p e s m below meth c T locs hx hZ hby hown X eT t k => X.aaload hx (j := j) (v := v) (by rw [eT]; exact A.1) (State.isArrayOf_alike hZ.alike A.2.1) hty A.2.2 hj hv (g := mkF m pc ls.toArray (.int j :: .ref a :: st)) rfl rfl (hb hby hd) _ k
theorem r_iastore {a : Addr} {cl : Cell} {j : Int32} {x : Int32} (A : Arr Z h a cl .int) (hj : ¬ (j < 0 ∨ cl.slots.size ≤ j.toNatClampNeg)) (ge : n0 ≤ a) (hd : D bytes pc .iastore 1 nx) (K : ∀ h', Wr h h' a j.toNatClampNeg (.int x) → ORun l y bytes maxL ret R Z n0 as' Q h' cells slots nx ls st) : ORun l y bytes maxL ret R Z n0 as' Q h cells slots pc ls (.int x :: .int j :: .ref a :: st) := by
  obtain ⟨hd, rfl⟩ := hd
  refine ORun.lawK (fun p e s m below meth c T locs hx hZ hby hml hown hnm X eT N => ?_) K
  obtain ⟨T', h', X', rfl, W, st'⟩ := stI X hx hZ eT A hj (g := mkF m pc ls.toArray (.int x :: .int j :: .ref a :: st)) rfl rfl (hb hby hd)
  exact ⟨T', _, X', W, Fr.snoc X' N ge, st'⟩
theorem r_castore {a : Addr} {cl : Cell} {j : Int32} {x : Int32} (A : Arr Z h a cl .char) (hj : ¬ (j < 0 ∨ cl.slots.size ≤ j.toNatClampNeg)) (ge : n0 ≤ a) (hd : D bytes pc .castore 1 nx) (K : ∀ h', Wr h h' a j.toNatClampNeg (.int (nar .char x)) → ORun l y bytes maxL ret R Z n0 as' Q h' cells slots nx ls st) : ORun l y bytes maxL ret R Z n0 as' Q h cells slots pc ls (.int x :: .int j :: .ref a :: st) := by
  obtain ⟨hd, rfl⟩ := hd
  refine ORun.lawK (fun p e s m below meth c T locs hx hZ hby hml hown hnm X eT N => ?_) K
  obtain ⟨T', h', X', rfl, W, st'⟩ := stC X hx hZ eT A hj (g := mkF m pc ls.toArray (.int x :: .int j :: .ref a :: st)) rfl rfl (hb hby hd)
  exact ⟨T', _, X', W, Fr.snoc X' N ge, st'⟩
theorem r_bastore {a : Addr} {cl : Cell} {j : Int32} {x : Int32} (A : Arr Z h a cl .byte) (hj : ¬ (j < 0 ∨ cl.slots.size ≤ j.toNatClampNeg)) (ge : n0 ≤ a) (hd : D bytes pc .bastore 1 nx) (K : ∀ h', Wr h h' a j.toNatClampNeg (.int (nar .byte x)) → ORun l y bytes maxL ret R Z n0 as' Q h' cells slots nx ls st) : ORun l y bytes maxL ret R Z n0 as' Q h cells slots pc ls (.int x :: .int j :: .ref a :: st) := by
  obtain ⟨hd, rfl⟩ := hd
  refine ORun.lawK (fun p e s m below meth c T locs hx hZ hby hml hown hnm X eT N => ?_) K
  obtain ⟨T', h', X', rfl, W, st'⟩ := stB X hx hZ eT A hj (g := mkF m pc ls.toArray (.int x :: .int j :: .ref a :: st)) rfl rfl (hb hby hd)
  exact ⟨T', _, X', W, Fr.snoc X' N ge, st'⟩
theorem r_lastore {a : Addr} {cl : Cell} {j : Int32} {x : Int64} (A : Arr Z h a cl .long) (hj : ¬ (j < 0 ∨ cl.slots.size ≤ j.toNatClampNeg)) (ge : n0 ≤ a) (hd : D bytes pc .lastore 1 nx) (K : ∀ h', Wr h h' a j.toNatClampNeg (.long x) → ORun l y bytes maxL ret R Z n0 as' Q h' cells slots nx ls st) : ORun l y bytes maxL ret R Z n0 as' Q h cells slots pc ls (.long x :: .int j :: .ref a :: st) := by
  obtain ⟨hd, rfl⟩ := hd
  refine ORun.lawK (fun p e s m below meth c T locs hx hZ hby hml hown hnm X eT N => ?_) K
  obtain ⟨T', h', X', rfl, W, st'⟩ := stJ X hx hZ eT A hj (g := mkF m pc ls.toArray (.long x :: .int j :: .ref a :: st)) rfl rfl (hb hby hd)
  exact ⟨T', _, X', W, Fr.snoc X' N ge, st'⟩
theorem r_lenA {a : Addr} {ty : FieldType} {vs : List Int32} (n : Int32) (A : Ary Z h a ty vs) (hn : vs.length.toInt32 = n) (hd : D bytes pc .arraylength 1 nx) (K : ORun l y bytes maxL ret R Z n0 as' Q h cells slots nx ls (.int n :: st)) : ORun l y bytes maxL ret R Z n0 as' Q h cells slots pc ls (.ref a :: st) := by
  obtain ⟨c, A, q⟩ := A
  refine r_len A hd ?_
  rw [Ary.size q, hn]; exact K
theorem r_ldI {a : Addr} {vs : List Int32} {j : Int32} (x : Int32) (A : Ary Z h a .int vs) (hj : ¬ j < 0) (hv : vs[j.toNatClampNeg]? = some x) (hd : D bytes pc .iaload 1 nx) (K : ORun l y bytes maxL ret R Z n0 as' Q h cells slots nx ls (.int x :: st)) : ORun l y bytes maxL ret R Z n0 as' Q h cells slots pc ls (.int j :: .ref a :: st) := by
  obtain ⟨c, A, q⟩ := A
  have e := Ary.inb q hj hv
  exact r_iaload A e.1 e.2 hd K
theorem r_ldC {a : Addr} {vs : List Int32} {j : Int32} (x : Int32) (A : Ary Z h a .char vs) (hj : ¬ j < 0) (hv : vs[j.toNatClampNeg]? = some x) (hd : D bytes pc .caload 1 nx) (K : ORun l y bytes maxL ret R Z n0 as' Q h cells slots nx ls (.int x :: st)) : ORun l y bytes maxL ret R Z n0 as' Q h cells slots pc ls (.int j :: .ref a :: st) := by
  obtain ⟨c, A, q⟩ := A
  have e := Ary.inb q hj hv
  exact r_caload A e.1 e.2 hd K
theorem r_ldB {a : Addr} {vs : List Int32} {j : Int32} (x : Int32) (A : Ary Z h a .byte vs) (hj : ¬ j < 0) (hv : vs[j.toNatClampNeg]? = some x) (hd : D bytes pc .baload 1 nx) (K : ORun l y bytes maxL ret R Z n0 as' Q h cells slots nx ls (.int x :: st)) : ORun l y bytes maxL ret R Z n0 as' Q h cells slots pc ls (.int j :: .ref a :: st) := by
  obtain ⟨c, A, q⟩ := A
  have e := Ary.inb q hj hv
  exact r_baload A e.1 e.2 hd K
theorem r_stI {a : Addr} {vs : List Int32} {j x : Int32} (i : Nat) (vs' : List Int32) (A : Ary Z h a .int vs) (hj : ¬ j < 0) (hi : j.toNatClampNeg = i) (hl : i < vs.length) (hvs : vs.set i x = vs') (ge : n0 ≤ a) (hd : D bytes pc .iastore 1 nx) (K : ∀ h', Wr h h' a i (.int x) → Ary Z h' a .int vs' → ORun l y bytes maxL ret R Z n0 as' Q h' cells slots nx ls st) : ORun l y bytes maxL ret R Z n0 as' Q h cells slots pc ls (.int x :: .int j :: .ref a :: st) := by
  have A' := A
  obtain ⟨c, A, q⟩ := A
  subst hi
  refine r_iastore A (fun r => ?_) ge hd fun h' W => K h' W (A'.set W hvs)
  rcases r with r | r
  · exact hj r
  · rw [Ary.size q] at r; omega
theorem r_stC {a : Addr} {vs : List Int32} {j x : Int32} (i : Nat) (vs' : List Int32) (A : Ary Z h a .char vs) (hj : ¬ j < 0) (hi : j.toNatClampNeg = i) (hl : i < vs.length) (hvs : vs.set i (nar .char x) = vs') (ge : n0 ≤ a) (hd : D bytes pc .castore 1 nx) (K : ∀ h', Wr h h' a i (.int (nar .char x)) → Ary Z h' a .char vs' → ORun l y bytes maxL ret R Z n0 as' Q h' cells slots nx ls st) : ORun l y bytes maxL ret R Z n0 as' Q h cells slots pc ls (.int x :: .int j :: .ref a :: st) := by
  have A' := A
  obtain ⟨c, A, q⟩ := A
  subst hi
  refine r_castore A (fun r => ?_) ge hd fun h' W => K h' W (A'.set W hvs)
  rcases r with r | r
  · exact hj r
  · rw [Ary.size q] at r; omega
theorem r_stB {a : Addr} {vs : List Int32} {j x : Int32} (i : Nat) (vs' : List Int32) (A : Ary Z h a .byte vs) (hj : ¬ j < 0) (hi : j.toNatClampNeg = i) (hl : i < vs.length) (hvs : vs.set i (nar .byte x) = vs') (ge : n0 ≤ a) (hd : D bytes pc .bastore 1 nx) (K : ∀ h', Wr h h' a i (.int (nar .byte x)) → Ary Z h' a .byte vs' → ORun l y bytes maxL ret R Z n0 as' Q h' cells slots nx ls st) : ORun l y bytes maxL ret R Z n0 as' Q h cells slots pc ls (.int x :: .int j :: .ref a :: st) := by
  have A' := A
  obtain ⟨c, A, q⟩ := A
  subst hi
  refine r_bastore A (fun r => ?_) ge hd fun h' W => K h' W (A'.set W hvs)
  rcases r with r | r
  · exact hj r
  · rw [Ary.size q] at r; omega
/-! calls -/
theorem r_initO {idx : Nat} {a : Addr} (w1 : (Cond.methodLink y.cls idx Lib.objectInit).before a0 Z = true) (w2 : (Cond.instanceMethod Lib.objectInit).before a0 Z = true) (w3 : (Cond.code Lib.objectInit ⟨#[0xb1]⟩ 1 none).before a0 Z = true) (hd : D bytes pc (.invokespecial idx) 3 nx) (hsz : ls.length = maxL) (hf : 1 ≤ R.frames) (W : Nat) (hW : (st.map fun v => v.category).sum = W) (hl : W + 12 ≤ R.locals)
    (K : ORun l y bytes maxL ret R Z n0 as' Q h cells slots nx ls st) : ORun l y bytes maxL ret R Z n0 as' Q h cells slots pc ls (.ref a :: st) := by
  obtain ⟨hd, rfl⟩ := hd
  refine K.law fun p e s m below meth c T locs hx hZ hby hml hown hnm X eT N => ?_
  obtain ⟨T', X', e', st'⟩ := initO X hx hZ hown w1 w2 w3 eT (g := mkF m pc ls.toArray (.ref a :: st)) rfl (by rw [hml]; simpa using hsz) rfl (hb hby hd) hf (W := W) (by show 2 * 0 + _ ≤ _; omega) hl
  exact ⟨T', locs, X', e', N, st'⟩
theorem ORun.call {y' : MethodName} {R' : Room} {Q' : Option Value → Heap → Prop} {rest : List Value}
    (hs : ∀ (p : Program) (e : Env) (s : State) (m : MethodId) (below : List Frame) (meth : Method) (c : Code) (T : State) (locs : List Loc), p.tables.exec = Jvm.exec → Z.Warmed39 s.vm → c.code = bytes → c.maxLocals = maxL → s.vm.findClass y.cls = some m.cls → Stand p l e R s m as' below meth c T locs cells slots → T.heap = h →
      ∃ (v : Option Value) (B : Pt), Stand p l e R s m as' below meth c B.U B.locs B.cells B.slots ∧ (∃ L, (Q' v B.U.heap ∧ Fr n0 L) ∧ B.locs = locs ++ L ∧ B.cells = cells + R'.cells ∧ B.slots = slots + R'.slots) ∧
        ∀ target, Steps p.tables e below (B.U.setTop (mkF m nx ls.toArray (v.toList ++ rest))) target → Steps p.tables e below (T.setTop (mkF m pc ls.toArray st)) target)
    (K : ∀ v h', Q' v h' → ORun l y bytes maxL ret R Z n0 as' Q h' (cells + R'.cells) (slots + R'.slots) nx ls (v.toList ++ rest)) : ORun l y bytes maxL ret R Z n0 as' Q h cells slots pc ls st :=
  fun p e s m below meth c T locs hx hZ hby hml hown hnm hret hlk X eT N => by
    obtain ⟨v, ⟨T', L', k', n'⟩, X', ⟨L, ⟨hq, N'⟩, q1, q2, q3⟩, st⟩ := hs p e s m below meth c T locs hx hZ hby hml hown X eT
    dsimp only [Pt.U, Pt.locs, Pt.cells, Pt.slots] at X' q1 q2 q3 st hq
    subst q1 q2 q3
    obtain ⟨U, o, h1, h2⟩ := K v _ hq p e s m below meth c T' _ hx hZ hby hml hown hnm hret hlk X' rfl (Fr.app N N')
    exact ⟨U, o, st _ h1, h2⟩
variable {b' : ByteArray} {mL' : Nat} {ret' : Option FieldType} {R' : Room} {Q' : Option Value → Heap → Prop} {y' : MethodName} {idx : Nat}
theorem r_static (argsL rest : List Value) (hst : st = argsL.reverse ++ rest) {ps : List FieldType} (hpd : parseMethodDescriptor y'.desc = some ⟨ps, ret'⟩) (hlen : argsL.length = ps.length)
    (w1 : (Cond.methodLink y.cls idx y').before a0 Z = true) (w2 : (Cond.static y').before a0 Z = true) (w3 : (Cond.initialized y'.cls).before a0 Z = true) (w4 : (Cond.code y' b' mL' ret').before a0 Z = true) (hy : y'.cls ≠ "java/lang/invoke/MethodHandle" ∧ y'.cls ≠ "java/lang/invoke/VarHandle")
    (C : Ct l y' b' mL' ret' [] R' Z n0 argsL.toArray h Q') (hd : D bytes pc (.invokestatic idx) 3 nx) (hsz : ls.length = maxL) (hf : R'.frames + 1 ≤ R.frames) (W : Nat) (hW : (rest.map fun v => v.category).sum = W) (hl : W + (mL' + 11) + R'.locals ≤ R.locals) (hc : cells + R'.cells ≤ R.cells) (hs : slots + R'.slots ≤ R.slots)
    (K : ∀ v h', Q' v h' → ORun l y bytes maxL ret R Z n0 as' Q h' (cells + R'.cells) (slots + R'.slots) nx ls (v.toList ++ rest)) : ORun l y bytes maxL ret R Z n0 as' Q h cells slots pc ls st := by
  obtain ⟨hd, rfl⟩ := hd
  subst hst
  refine ORun.call (y' := y') (fun p e s m below meth c T locs hx hZ hby hml hown X eT => ?_) K
  obtain ⟨v, _, B, -, X', hq, st'⟩ := Jvm.LawKit.callS X hx (y := y') hown (mvT hZ w1) (mvT hZ w2) (mvT hZ w3) (mvT hZ w4) hy (backOf (len := 3) (W := W) (Q := fun v h L => Q' v h ∧ Fr n0 L) C hZ w4 w3 hf hl) (g := mkF m pc ls.toArray (argsL.reverse ++ rest)) rfl (by rw [hml]; simpa using hsz) (argsL := argsL) (rest := rest) (lenOf hpd hlen) rfl (by show 2 * 0 + _ ≤ _; omega) (hb hby hd) (fun _ _ => ⟨rfl, eT, hc, hs⟩)
  exact ⟨v, B, X', hq, st'⟩
theorem r_special (argsL rest : List Value) (a : Addr) (hst : st = argsL.reverse ++ .ref a :: rest) {ps : List FieldType} (hpd : parseMethodDescriptor y'.desc = some ⟨ps, none⟩) (hlen : argsL.length = ps.length) (hn : y'.name = "<init>")
    (w1 : (Cond.methodLink y.cls idx y').before a0 Z = true) (w2 : (Cond.instanceMethod y').before a0 Z = true) (w3 : (Cond.initialized y'.cls).before a0 Z = true) (w4 : (Cond.code y' b' mL' none).before a0 Z = true) (hy : y'.cls ≠ "java/lang/invoke/MethodHandle" ∧ y'.cls ≠ "java/lang/invoke/VarHandle")
    (C : Ct l y' b' mL' none [] R' Z n0 (.ref a :: argsL).toArray h Q') (hd : D bytes pc (.invokespecial idx) 3 nx) (hsz : ls.length = maxL) (hf : R'.frames + 1 ≤ R.frames) (W : Nat) (hW : (rest.map fun v => v.category).sum = W) (hl : W + (mL' + 11) + R'.locals ≤ R.locals) (hc : cells + R'.cells ≤ R.cells) (hs : slots + R'.slots ≤ R.slots)
    (K : ∀ v h', Q' v h' → ORun l y bytes maxL ret R Z n0 as' Q h' (cells + R'.cells) (slots + R'.slots) nx ls (v.toList ++ rest)) : ORun l y bytes maxL ret R Z n0 as' Q h cells slots pc ls st := by
  obtain ⟨hd, rfl⟩ := hd
  subst hst
  refine ORun.call (y' := y') (fun p e s m below meth c T locs hx hZ hby hml hown X eT => ?_) K
  obtain ⟨v, _, B, -, X', hq, st'⟩ := X.specialBack hx (y := y') hn hown (mvT hZ w1) (mvT hZ w2) (mvT hZ w4) hy (backOf (len := 3) (W := W) (Q := fun v h L => Q' v h ∧ Fr n0 L) C hZ w4 w3 hf hl) (g := mkF m pc ls.toArray (argsL.reverse ++ .ref a :: rest)) rfl (by rw [hml]; simpa using hsz) (Steps.refl _) (a := a) (argsL := argsL) (rest := rest) (lenOf hpd hlen) rfl (by show 2 * 0 + _ ≤ _; omega) (hb hby hd) (fun _ _ => ⟨rfl, eT, hc, hs⟩)
  exact ⟨v, B, X', hq, fun t k => st'.trans k⟩
theorem r_virtual (argsL rest : List Value) (a : Addr) {C : String} (E : Exa Z h a C) (hst : st = argsL.reverse ++ .ref a :: rest) {ps : List FieldType} (hpd : parseMethodDescriptor y'.desc = some ⟨ps, ret'⟩) (hlen : argsL.length = ps.length)
    (w1 : (Cond.methodLink y.cls idx y').before a0 Z = true) (w2 : (Cond.declares y').before a0 Z = true) (ws : (Cond.selects C y' y').before a0 Z = true) (w5 : (Cond.instanceMethod y').before a0 Z = true) (w3 : (Cond.initialized y'.cls).before a0 Z = true) (w4 : (Cond.code y' b' mL' ret').before a0 Z = true) (hC : C = y'.cls) (hy : y'.cls ≠ "java/lang/invoke/MethodHandle" ∧ y'.cls ≠ "java/lang/invoke/VarHandle")
    (C' : Ct l y' b' mL' ret' [] R' Z n0 (.ref a :: argsL).toArray h Q') (hd : D bytes pc (.invokevirtual idx) 3 nx) (hsz : ls.length = maxL) (hf : R'.frames + 1 ≤ R.frames) (W : Nat) (hW : (rest.map fun v => v.category).sum = W) (hl : W + (mL' + 11) + R'.locals ≤ R.locals) (hc : cells + R'.cells ≤ R.cells) (hs : slots + R'.slots ≤ R.slots)
    (K : ∀ v h', Q' v h' → ORun l y bytes maxL ret R Z n0 as' Q h' (cells + R'.cells) (slots + R'.slots) nx ls (v.toList ++ rest)) : ORun l y bytes maxL ret R Z n0 as' Q h cells slots pc ls st := by
  obtain ⟨hd, rfl⟩ := hd
  subst hst hC
  refine ORun.call (y' := y') (fun p e s m below meth c T locs hx hZ hby hml hown X eT => ?_) K
  obtain ⟨cq, kq, q1, q2, q3⟩ := isOf hZ eT E
  obtain ⟨v, _, B, -, X', hq, st'⟩ := X.virtualBack hx (y := y') (z := y') hown (mvT hZ w1) (mvT hZ w2) (notFace_of_selects (args := #[]) (mvT hZ ws)) (mvT hZ ws) (mvT hZ w5) hy (backOf (len := 3) (W := W) (Q := fun v h L => Q' v h ∧ Fr n0 L) C' hZ w4 w3 hf hl) q1 q3 (g := mkF m pc ls.toArray (argsL.reverse ++ .ref a :: rest)) rfl (by rw [hml]; simpa using hsz) (Steps.refl _) (argsL := argsL) (rest := rest) (lenOf hpd hlen) rfl (by show 2 * 0 + _ ≤ _; omega) (hb hby hd) (fun _ _ => ⟨rfl, eT, hc, hs⟩)
  exact ⟨v, B, X', hq, fun t k => st'.trans k⟩
theorem r_staticP (argsL rest : List Value) (hst : st = argsL.reverse ++ rest) {ps : List FieldType} (hpd : parseMethodDescriptor y'.desc = some ⟨ps, ret'⟩) (hlen : argsL.length = ps.length)
    (w1 : (Cond.methodLink y.cls idx y').before a0 Z = true) (w2 : (Cond.static y').before a0 Z = true) (w3 : (Cond.initialized y'.cls).before a0 Z = true) (w4 : (Cond.code y' b' mL' ret').before a0 Z = true) (hy : y'.cls ≠ "java/lang/invoke/MethodHandle" ∧ y'.cls ≠ "java/lang/invoke/VarHandle") {w : Value}
    (C : Ct l y' b' mL' ret' [] R' Z n0 argsL.toArray h (fun v h' => v = some w ∧ h' = h)) (hd : D bytes pc (.invokestatic idx) 3 nx) (hsz : ls.length = maxL) (hf : R'.frames + 1 ≤ R.frames) (W : Nat) (hW : (rest.map fun v => v.category).sum = W) (hl : W + (mL' + 11) + R'.locals ≤ R.locals) (h0c : R'.cells = 0) (h0s : R'.slots = 0) (hc : cells ≤ R.cells) (hs : slots ≤ R.slots)
    (K : ORun l y bytes maxL ret R Z n0 as' Q h cells slots nx ls (w :: rest)) : ORun l y bytes maxL ret R Z n0 as' Q h cells slots pc ls st :=
  r_static argsL rest hst hpd hlen w1 w2 w3 w4 hy C hd hsz hf W hW hl (by omega) (by omega) fun v h' q => by
    obtain ⟨rfl, rfl⟩ := q
    rw [h0c, h0s]; exact K
theorem r_virtualP (argsL rest : List Value) (a : Addr) {C : String} (E : Exa Z h a C) (hst : st = argsL.reverse ++ .ref a :: rest) {ps : List FieldType} (hpd : parseMethodDescriptor y'.desc = some ⟨ps, ret'⟩) (hlen : argsL.length = ps.length)
    (w1 : (Cond.methodLink y.cls idx y').before a0 Z = true) (w2 : (Cond.declares y').before a0 Z = true) (ws : (Cond.selects C y' y').before a0 Z = true) (w5 : (Cond.instanceMethod y').before a0 Z = true) (w3 : (Cond.initialized y'.cls).before a0 Z = true) (w4 : (Cond.code y' b' mL' ret').before a0 Z = true) (hC : C = y'.cls) (hy : y'.cls ≠ "java/lang/invoke/MethodHandle" ∧ y'.cls ≠ "java/lang/invoke/VarHandle") {w : Value}
    (C' : Ct l y' b' mL' ret' [] R' Z n0 (.ref a :: argsL).toArray h (fun v h' => v = some w ∧ h' = h)) (hd : D bytes pc (.invokevirtual idx) 3 nx) (hsz : ls.length = maxL) (hf : R'.frames + 1 ≤ R.frames) (W : Nat) (hW : (rest.map fun v => v.category).sum = W) (hl : W + (mL' + 11) + R'.locals ≤ R.locals) (h0c : R'.cells = 0) (h0s : R'.slots = 0) (hc : cells ≤ R.cells) (hs : slots ≤ R.slots)
    (K : ORun l y bytes maxL ret R Z n0 as' Q h cells slots nx ls (w :: rest)) : ORun l y bytes maxL ret R Z n0 as' Q h cells slots pc ls st :=
  r_virtual argsL rest a E hst hpd hlen w1 w2 ws w5 w3 w4 hC hy C' hd hsz hf W hW hl (by omega) (by omega) fun v h' q => by
    obtain ⟨rfl, rfl⟩ := q
    rw [h0c, h0s]; exact K
theorem r_private (argsL rest : List Value) (a : Addr) {C : String} {kk : Nat} (E : Exa Z h a C) (hst : st = argsL.reverse ++ .ref a :: rest) {ps : List FieldType} (hpd : parseMethodDescriptor y'.desc = some ⟨ps, ret'⟩) (hlen : argsL.length = ps.length)
    (w1 : (Cond.methodLink y.cls idx y').before a0 Z = true) (w5 : (Cond.instanceMethod y').before a0 Z = true) (wp : (Cond.privateMethod y').before a0 Z = true) (wi : (Cond.instantiable y'.cls kk).before a0 Z = true) (w3 : (Cond.initialized y'.cls).before a0 Z = true) (w4 : (Cond.code y' b' mL' ret').before a0 Z = true) (hy : y'.cls ≠ "java/lang/invoke/MethodHandle" ∧ y'.cls ≠ "java/lang/invoke/VarHandle")
    (C' : Ct l y' b' mL' ret' [] R' Z n0 (.ref a :: argsL).toArray h Q') (hd : D bytes pc (.invokevirtual idx) 3 nx) (hsz : ls.length = maxL) (hf : R'.frames + 1 ≤ R.frames) (W : Nat) (hW : (rest.map fun v => v.category).sum = W) (hl : W + (mL' + 11) + R'.locals ≤ R.locals) (hc : cells + R'.cells ≤ R.cells) (hs : slots + R'.slots ≤ R.slots)
    (K : ∀ v h', Q' v h' → ORun l y bytes maxL ret R Z n0 as' Q h' (cells + R'.cells) (slots + R'.slots) nx ls (v.toList ++ rest)) : ORun l y bytes maxL ret R Z n0 as' Q h cells slots pc ls st := by
  obtain ⟨hd, rfl⟩ := hd
  subst hst
  refine ORun.call (y' := y') (fun p e s m below meth c T locs hx hZ hby hml hown X eT => ?_) K
  obtain ⟨cell, hcl, hob⟩ := E.cell
  have hi : (Cond.instanceMethod y').before as' s = true := mvT hZ w5
  have hp : s.PrivateAt y' := Cond.privateMethod_at (mvP hZ wp (args := as'))
  obtain ⟨cc, k, i1, i2, -, i4, -⟩ := Cond.instantiable_spec (show (Cond.instantiable y'.cls kk).before as' s = true from mvT hZ wi)
  have hni : k.isInterface = false := by simp only [Bool.or_eq_false_iff] at i4; exact i4.1
  have hsel : (Cond.selects y'.cls y' y').before as' s = true := selects_self_of_private i1 i2 hni hp hi hy
  obtain ⟨v, _, B, -, X', hq, st'⟩ := X.privateBack hx (y := y') hown (mvT hZ w1) hi hsel hp (mvT hZ w4) hy (backOf (len := 3) (W := W) (Q := fun v h L => Q' v h ∧ Fr n0 L) C' hZ w4 w3 hf hl) (g := mkF m pc ls.toArray (argsL.reverse ++ .ref a :: rest)) rfl (by rw [hml]; simpa using hsz) (Steps.refl _) (a := a) (by rw [eT]; exact hcl) hob (argsL := argsL) (rest := rest) (lenOf hpd hlen) rfl (by show 2 * 0 + _ ≤ _; omega) (hb hby hd) (fun _ _ => ⟨rfl, eT, hc, hs⟩)
  exact ⟨v, B, X', hq, fun t k => st'.trans k⟩
theorem r_cast {index : Nat} {K : String} {a : Addr} (w : (Cond.classLink y.cls index K).before a0 Z = true) (F : Ins Z h a K true) (hd : D bytes pc (.checkcast index) 3 nx) (K' : ORun l y bytes maxL ret R Z n0 as' Q h cells slots nx ls (.ref a :: st)) : ORun l y bytes maxL ret R Z n0 as' Q h cells slots pc ls (.ref a :: st) := by
  obtain ⟨hd, rfl⟩ := hd
  refine K'.law fun p e s m below meth c T locs hx hZ hby hml hown hnm X eT N => ?_
  obtain ⟨T', X', e', st'⟩ := castY X hx hZ hown w eT F (g := mkF m pc ls.toArray (.ref a :: st)) rfl rfl (hb hby hd)
  exact ⟨T', locs, X', e', N, st'⟩
theorem r_clone {index : Nat} {ad : String} {a : Addr} {cl : Cell} {ty : FieldType} (cap : Nat) (w1 : (Cond.methodLink y.cls index ⟨ad, "clone", "()Ljava/lang/Object;"⟩).before a0 Z = true) (w2 : (Cond.sameMethod ad "java/lang/Object" "clone" "()Ljava/lang/Object;").before a0 Z = true) (w3 : (Cond.native ⟨"java/lang/Object", "clone", "()Ljava/lang/Object;"⟩).before a0 Z = true)
    (w4 : (Cond.instanceMethod ⟨"java/lang/Object", "clone", "()Ljava/lang/Object;"⟩).before a0 Z = true) (w5 : (Cond.selects ad ⟨ad, "clone", "()Ljava/lang/Object;"⟩ ⟨"java/lang/Object", "clone", "()Ljava/lang/Object;"⟩).before a0 Z = true) (w6 : (Cond.castable ad "java/lang/Cloneable").before a0 Z = true)
    (A : Arr Z h a cl ty) (E : Exa Z h a ad) (F : FitC Z cl) (hd : D bytes pc (.invokevirtual index) 3 nx) (hsz : ls.length = maxL) (hf : 1 ≤ R.frames) (W : Nat) (hW : (st.map fun v => v.category).sum = W) (hl : W + 14 ≤ R.locals) (hcap : cl.slots.size ≤ cap) (hc : cells + 1 ≤ R.cells) (hs : slots + cap ≤ R.slots)
    (K : ∀ h', Ext h h' ∧ Arr Z h' h.size (cloneOf cl) ty ∧ Exa Z h' h.size ad → ORun l y bytes maxL ret R Z n0 as' Q h' (cells + 1) (slots + cap) nx ls (.ref h.size :: st)) : ORun l y bytes maxL ret R Z n0 as' Q h cells slots pc ls (.ref a :: st) := by
  obtain ⟨hd, rfl⟩ := hd
  refine ORun.lawK (fun p e s m below meth c T locs hx hZ hby hml hown hnm X eT N => ?_) K
  obtain ⟨T', h', X', rfl, E', A', Y', st'⟩ := cloneA X hx hZ hown w1 w2 w3 w4 w5 w6 eT A E F (g := mkF m pc ls.toArray (.ref a :: st)) rfl (by rw [hml]; simpa using hsz) rfl (hb hby hd) hf (W := W) (by show 2 * 0 + _ ≤ _; omega) hl hcap hc hs
  exact ⟨T', _, X', ⟨E', A', Y'⟩, N, st'⟩
end Logic
end Jvm.OwnKit
namespace Jvm.Pilot.@@N@@
open Jvm Jvm.ClassFile Sem Op Lib Jvm.Free Jvm.Stand Jvm.LawKit Jvm.RoadKit Jvm.OwnKit Bundle Jvm.Pilot.@@N@@.Jvm.D
open Jvm.FP Jvm.FP.Core in
theorem own_qw {E N : Int} {x y : Datum} (hE : 0 ≤ E) (hN : 0 < N) (hb : E.natAbs ≤ 2 ^ 53) (hx : Whole (E * N) x) (hy : Whole N y) : Whole E (quotient b64 x y) := by
  cases x with
  | nan => exact hx.elim
  | inf => exact hx.elim
  | fin s c q =>
  cases y with
  | nan => exact hy.elim
  | inf => exact hy.elim
  | fin t d r =>
    have hx' := whole_natAbs hx
    have hy' := whole_natAbs hy
    rw [Int.natAbs_mul] at hx'
    have hn : 0 < N.natAbs := by omega
    have hd : 0 < d := by
      rcases Nat.eq_zero_or_pos d with z | z
      · rw [z, Nat.zero_mul] at hy'
        have := Nat.mul_pos hn (Nat.two_pow_pos (-r).toNat)
        omega
      · exact z
    have ht : t = false := by
      rw [whole_sign hy (by omega)]; exact decide_eq_false (by omega)
    have w : Whole E (.fin (s != t) E.natAbs 0) := by
      show signed (s != t) (E.natAbs * 2 ^ (0 : Int).toNat) = E * ((2 ^ (-(0 : Int)).toNat : Nat) : Int)
      have e0 : E.natAbs * 2 ^ (0 : Int).toNat = E.natAbs := by simp
      have e1 : E * ((2 ^ (-(0 : Int)).toNat : Nat) : Int) = E := by simp
      rw [e0, e1, ht]
      by_cases z : E = 0
      · rw [z]; cases s <;> rfl
      · have hs : s = false := by
          rw [whole_sign hx (by intro h; rcases Int.mul_eq_zero.mp h with h | h <;> omega)]
          exact decide_eq_false (by have := Int.mul_nonneg hE (Int.le_of_lt hN); omega)
        rw [hs]
        show ((E.natAbs : Nat) : Int) = E
        omega
    show Whole E (if d = 0 then (if c = 0 then .nan else .inf (s != t)) else roundRatio b64 (s != t) c d (q - r))
    rw [if_neg (by omega)]
    have e : roundRatio b64 (s != t) c d (q - r) = roundRatio b64 (s != t) E.natAbs 1 0 := by
      refine roundRatio_congr hd (by decide) ?_
      generalize E.natAbs = e at *
      generalize N.natAbs = n at *
      have hp : (q - r - 0).toNat + (-q).toNat + r.toNat = (0 - (q - r)).toNat + q.toNat + (-r).toNat := by omega
      generalize (q - r - 0).toNat = a at *
      generalize (0 - (q - r)).toNat = b at *
      generalize q.toNat = q1 at *
      generalize (-q).toNat = q2 at *
      generalize r.toNat = r1 at *
      generalize (-r).toNat = r2 at *
      refine Nat.eq_of_mul_eq_mul_right (Nat.mul_pos (Nat.mul_pos (Nat.two_pow_pos q1) (Nat.two_pow_pos r1)) hn) ?_
      calc c * 1 * 2 ^ a * (2 ^ q1 * 2 ^ r1 * n) = (c * 2 ^ q1) * (2 ^ a * 2 ^ r1 * n) := by rw [Nat.mul_one]; ac_rfl
        _ = e * n * 2 ^ q2 * (2 ^ a * 2 ^ r1 * n) := by rw [hx']
        _ = e * n * n * 2 ^ (a + q2 + r1) := by rw [Nat.pow_add, Nat.pow_add]; ac_rfl
        _ = e * n * n * 2 ^ (b + q1 + r2) := by rw [hp]
        _ = e * (n * 2 ^ r2) * (2 ^ b * 2 ^ q1 * n) := by rw [Nat.pow_add, Nat.pow_add]; ac_rfl
        _ = e * (d * 2 ^ r1) * (2 ^ b * 2 ^ q1 * n) := by rw [hy']
        _ = e * d * 2 ^ b * (2 ^ q1 * 2 ^ r1 * n) := by ac_rfl
    rw [e]
    exact whole_round good_b64 wide_b64 (show _ ≤ 2 ^ 53 from hb) w
open Jvm.FP Jvm.FP.Core in
theorem own_giga : FP.l2d 1000000000 = 4741671816366391296 := by decide +kernel
open Jvm.FP Jvm.FP.Core in
theorem own_exact {A N E : Int64} (hA : 0 ≤ A.toInt ∧ A.toInt ≤ 8388607) (hN : 0 < N.toInt ∧ N.toInt ≤ 1000000000) (hE : 0 ≤ E.toInt) (h : A.toInt * 1000000000 = E.toInt * N.toInt) (o : CmpOp) : cmpValue (FP.dcmp (FP.ddiv (FP.dmul (FP.l2d A) 4741671816366391296) (FP.l2d N)) (FP.l2d E)) o = 0 := by
  have hE2 : E.toInt ≤ 8388607000000000 := by
    have : E.toInt * 1 ≤ E.toInt * N.toInt := Int.mul_le_mul_of_nonneg_left (by omega) hE
    omega
  have g1 : ((1000000000 : Int64)).toInt = 1000000000 := by decide
  have dA : DInt A.toInt (Core.l2d A) := l2d_int (by omega)
  have dG : DInt 1000000000 (Core.l2d 1000000000) := by have := l2d_int (a := 1000000000) (by rw [g1]; decide); rwa [g1] at this
  have dN : DInt N.toInt (Core.l2d N) := l2d_int (by omega)
  have dE : DInt E.toInt (Core.l2d E) := l2d_int (by omega)
  have dP := dmul_int dA dG (by omega)
  rw [h] at dP
  have dQ : DInt E.toInt (Core.ddiv (Core.dmul (Core.l2d A) (Core.l2d 1000000000)) (Core.l2d N)) := by
    unfold DInt
    rw [val64_ddiv]
    exact own_qw hE hN.1 (by omega) dP dN
  have q := dcmp_int dQ dE
  rw [compare_self_int] at q
  rw [← own_giga]
  exact (congrArg (fun z => cmpValue z o) q).trans (by cases o <;> rfl)
open Jvm.FP Jvm.FP.Core in
theorem own_unit : zmag b64 (.fin false (2 ^ 52) (-52)) = 2 ^ 1074 := by decide +kernel
open Jvm.FP Jvm.FP.Core in
theorem own_top : zmag b64 (.fin false (2 ^ 52) 11) = 2 ^ 1137 := by decide +kernel
open Jvm.FP Jvm.FP.Core in
theorem own_l2d {v : Int64} (h : 0 < v.toInt) : ∃ c q, val64 (Core.l2d v) = .fin false c q ∧ 2 ^ 1074 ≤ zmag b64 (.fin false c q) ∧ zmag b64 (.fin false c q) ≤ 2 ^ 1137 := by
  have e : val64 (Core.l2d v) = roundRatio b64 false v.toInt.natAbs 1 0 := by
    rw [val64_l2d]
    show roundRatio b64 (decide (v.toInt < 0)) v.toInt.natAbs 1 0 = _
    rw [decide_eq_false (by omega)]
  have hlt := v.toInt_lt
  have u0 : inUnits v.toInt.natAbs 0 (-1074) = v.toInt.natAbs * 2 ^ 1074 := by
    show v.toInt.natAbs * 2 ^ ((0 : Int) - (-1074)).toNat = _
    rw [show ((0 : Int) - (-1074)).toNat = 1074 by decide]
  have q0 : (b64.qmin - (-1074)).toNat = 0 := by decide
  have ge := zmag_roundRatio_ge good_b64 (s := false) (A := v.toInt.natAbs) (B := 1) (e := 0) (e0 := -1074) (V := .fin false (2 ^ 52) (-52)) (by decide) (by unfold Core.fits; decide) (by decide) (by decide) (by
    rw [own_unit, u0, q0, Nat.pow_zero, Nat.mul_one, Nat.mul_one]
    exact Nat.le_mul_of_pos_left _ (by omega))
  have le := zmag_roundRatio_le good_b64 (s := false) (A := v.toInt.natAbs) (B := 1) (e := 0) (e0 := -1074) (V := .fin false (2 ^ 52) 11) (by decide) (by unfold Core.fits; decide) (fun q => nomatch q) (by decide) (by decide) (by
    rw [own_top, u0, q0, Nat.pow_zero, Nat.mul_one, Nat.mul_one, show (1137 : Nat) = 63 + 1074 from rfl, Nat.pow_add]
    exact Nat.mul_le_mul_right _ (by omega))
  rw [own_unit] at ge
  rw [own_top] at le
  obtain ⟨s, c, q, f⟩ := l2d_fin v
  have sg := sgn_roundRatio b64 false v.toInt.natAbs 1 0
  rw [← e, f] at ge le sg
  have hs : s = false := sg
  subst hs
  exact ⟨c, q, f, ge, le⟩
open Jvm.FP Jvm.FP.Core in
theorem own_gval : val64 4741671816366391296 = .fin false 8388608000000000 (-23) := by decide +kernel
open Jvm.FP Jvm.FP.Core in
theorem own_pos {A N : Int64} (hA : 0 < A.toInt) (hN : 0 < N.toInt) : FP.dcmp (FP.ddiv (FP.dmul (FP.l2d A) 4741671816366391296) (FP.l2d N)) 0 = some .gt := by
  obtain ⟨c, q, fA, a1, a2⟩ := own_l2d hA
  obtain ⟨d, r, fN, n1, n2⟩ := own_l2d hN
  have fitA := val64_fits (Core.l2d A)
  have fitN := val64_fits (Core.l2d N)
  rw [fA] at fitA
  rw [fN] at fitN
  have eP : val64 (Core.dmul (Core.l2d A) 4741671816366391296) = roundRatio b64 false (c * 8388608000000000) 1 (q + -23) := by
    rw [val64_dmul, fA, own_gval]; rfl
  have hq : -1074 ≤ q := fitA.2.1
  have geP := zmag_roundRatio_ge good_b64 (s := false) (A := c * 8388608000000000) (B := 1) (e := q + -23) (e0 := -1097) (V := .fin false (2 ^ 52) (-52)) (by decide) (by unfold Core.fits; decide) (by decide) (by omega) (by
    rw [own_unit, show (b64.qmin - (-1097)).toNat = 23 by decide, Nat.mul_one]
    show 2 ^ 1074 * 2 ^ 23 ≤ c * 8388608000000000 * 2 ^ (q + -23 - -1097).toNat
    have z : zmag b64 (.fin false c q) = c * 2 ^ (q + -23 - -1097).toNat := by
      show c * 2 ^ (q - b64.qmin).toNat = _
      rw [qmin_b64, show q - -1074 = q + -23 - -1097 by omega]
    rw [Nat.mul_right_comm, ← z]
    exact Nat.mul_le_mul a1 (by decide))
  rw [own_unit] at geP
  have eQ := val64_ddiv (Core.dmul (Core.l2d A) 4741671816366391296) (Core.l2d N)
  have fitP := val64_fits (Core.dmul (Core.l2d A) 4741671816366391296)
  rw [eP, fN] at eQ
  rw [eP] at fitP
  have hd : 0 < d := by
    rcases Nat.eq_zero_or_pos d with z | z
    · subst z
      have : zmag b64 (.fin false 0 r) = 0 := Nat.zero_mul _
      rw [this] at n1
      exact absurd n1 (Nat.not_le_of_lt (Nat.two_pow_pos _))
    · exact z
  have key : sgn (val64 (Core.ddiv (Core.dmul (Core.l2d A) 4741671816366391296) (Core.l2d N))) = false ∧ 1 ≤ zmag b64 (val64 (Core.ddiv (Core.dmul (Core.l2d A) 4741671816366391296) (Core.l2d N))) ∧ val64 (Core.ddiv (Core.dmul (Core.l2d A) 4741671816366391296) (Core.l2d N)) ≠ .nan := by
    rw [eQ]
    rcases roundRatio_cases b64 false (c * 8388608000000000) 1 (q + -23) with ⟨cp, qp, hR⟩ | hR
    · rw [hR] at geP fitP ⊢
      have hqp : -1074 ≤ qp := fitP.2.1
      have hr : r ≤ 971 := fitN.2.2.1
      have hr0 : -1074 ≤ r := fitN.2.1
      show sgn (if d = 0 then (if cp = 0 then .nan else .inf (false != false)) else roundRatio b64 (false != false) cp d (qp - r)) = false ∧ 1 ≤ zmag b64 (if d = 0 then (if cp = 0 then .nan else .inf (false != false)) else roundRatio b64 (false != false) cp d (qp - r)) ∧ (if d = 0 then (if cp = 0 then .nan else .inf (false != false)) else roundRatio b64 (false != false) cp d (qp - r)) ≠ .nan
      rw [if_neg (by omega)]
      refine ⟨sgn_roundRatio _ _ _ _ _, ?_, roundRatio_ne_nan _ _ _ _ _⟩
      have one : zmag b64 (.fin false 1 (-1074)) = 1 := by decide +kernel
      have ge := zmag_roundRatio_ge good_b64 (s := (false != false)) (A := cp) (B := d) (e := qp - r) (e0 := -2045) (V := .fin false 1 (-1074)) hd (by unfold Core.fits; decide) (by decide) (by omega) (by
        rw [one, show (b64.qmin - (-2045)).toNat = 971 by decide, Nat.one_mul]
        show 2 ^ 971 * d ≤ cp * 2 ^ (qp - r - -2045).toNat
        have zP : zmag b64 (.fin false cp qp) = cp * 2 ^ (qp - -1074).toNat := by
          show cp * 2 ^ (qp - b64.qmin).toNat = _
          rw [qmin_b64]
        have zN : zmag b64 (.fin false d r) = d * 2 ^ (r - -1074).toNat := by
          show d * 2 ^ (r - b64.qmin).toNat = _
          rw [qmin_b64]
        rw [zP] at geP
        rw [zN] at n2
        have hx : (qp - r - -2045).toNat + (r - -1074).toNat = (qp - -1074).toNat + 2045 := by omega
        generalize (qp - r - -2045).toNat = x at *
        generalize (r - -1074).toNat = y at *
        generalize (qp - -1074).toNat = w at *
        refine Nat.le_of_mul_le_mul_right ?_ (Nat.two_pow_pos y)
        calc 2 ^ 971 * d * 2 ^ y = 2 ^ 971 * (d * 2 ^ y) := Nat.mul_assoc _ _ _
          _ ≤ 2 ^ 971 * 2 ^ 1137 := Nat.mul_le_mul_left _ n2
          _ = 2 ^ (971 + 1137) := (Nat.pow_add 2 971 1137).symm
          _ ≤ 2 ^ (1074 + 2045) := Nat.pow_le_pow_right (by decide) (by omega)
          _ = 2 ^ 1074 * 2 ^ 2045 := Nat.pow_add 2 1074 2045
          _ ≤ cp * 2 ^ w * 2 ^ 2045 := Nat.mul_le_mul_right _ geP
          _ = cp * 2 ^ (x + y) := by rw [hx, Nat.pow_add 2 w, Nat.mul_assoc]
          _ = cp * 2 ^ x * 2 ^ y := by rw [Nat.pow_add 2 x y, Nat.mul_assoc])
      rw [one] at ge
      exact ge
    · rw [hR]
      exact ⟨rfl, Nat.mul_pos (tails_pos b64) (Nat.two_pow_pos _), fun h => nomatch h⟩
  have v0 : val64 0 = .fin false 0 (-1074) := by decide +kernel
  have o := order_zval good_b64 (val64_fits (Core.ddiv (Core.dmul (Core.l2d A) 4741671816366391296) (Core.l2d N))) (val64_fits 0) key.2.2 (by rw [v0]; exact fun h => nomatch h)
  have z0 : zval b64 (val64 0) = 0 := by rw [v0]; rfl
  have zq : 0 < zval b64 (val64 (Core.ddiv (Core.dmul (Core.l2d A) 4741671816366391296) (Core.l2d N))) := by
    unfold zval
    rw [key.1]
    show (0 : Int) < ((zmag b64 _ : Nat) : Int)
    exact Int.ofNat_lt.mpr key.2.1
  rw [z0] at o
  refine o.trans ?_
  congr 1
  generalize zval b64 _ = z at zq
  simp only [compare, compareOfLessAndEq]
  rw [if_neg (by omega), if_neg (by omega)]
open Jvm.FP Jvm.FP.Core in
theorem own_zer {N : Int64} (hN : 0 < N.toInt) : FP.dcmp (FP.ddiv (FP.dmul (FP.l2d 0) 4741671816366391296) (FP.l2d N)) 0 = some .eq := by
  obtain ⟨d, r, fN, n1, n2⟩ := own_l2d hN
  have hd : ¬ d = 0 := fun z => by
    subst z
    have : zmag b64 (.fin false 0 r) = 0 := Nat.zero_mul _
    rw [this] at n1
    exact absurd n1 (Nat.not_le_of_lt (Nat.two_pow_pos _))
  have e : FP.dmul (FP.l2d 0) 4741671816366391296 = 0 := by decide +kernel
  have v0 : val64 0 = .fin false 0 (-1074) := by decide +kernel
  rw [e]
  have eQ := val64_ddiv 0 (Core.l2d N)
  rw [v0, fN] at eQ
  have eQ' : val64 (Core.ddiv 0 (Core.l2d N)) = .fin false 0 b64.qmin := by
    rw [eQ]
    show (if d = 0 then _ else roundRatio b64 (false != false) 0 d (-1074 - r)) = _
    rw [if_neg hd]; rfl
  have o := order_zval good_b64 (val64_fits (Core.ddiv 0 (Core.l2d N))) (val64_fits 0) (by rw [eQ']; exact fun h => nomatch h) (by rw [v0]; exact fun h => nomatch h)
  have z0 : zval b64 (val64 0) = 0 := by rw [v0]; rfl
  have z1 : zval b64 (val64 (Core.ddiv 0 (Core.l2d N))) = 0 := by
    rw [eQ']
    show ((inUnits 0 b64.qmin b64.qmin : Nat) : Int) = 0
    unfold inUnits; rw [Nat.zero_mul]; rfl
  rw [z0, z1] at o
  exact o
open Jvm.FP Jvm.Free.Fl in
theorem own_nn {A N : Int64} (hN : ¬ N = 0) : NoNaN64 (FP.dmul (FP.l2d A) 4741671816366391296) ∧ NoNaN64 (FP.ddiv (FP.dmul (FP.l2d A) 4741671816366391296) (FP.l2d N)) := by
  have h1 : NoNaN64 (FP.dmul (FP.l2d A) 4741671816366391296) := dmul_out (l2d_fin A) (by unfold Fin64; decide)
  refine ⟨h1, ddiv_out h1 (l2d_fin N) (nz64_core.mpr fun z => ?_)⟩
  exact Core.l2d_ne_zero hN ((Core.zero_bits2 _).mp z)
theorem r_dload {l : Launch} {y : MethodName} {bytes : ByteArray} {maxL : Nat} {ret : Option FieldType} {R : Room} {Z : State} {n0 : Nat} {as' : Array Value} {Q : Option Value → Heap → Prop} {h : Heap} {cells slots pc nx : Nat} {ls : List Slot} {st : List Value} {k : Nat} {v : UInt64} (hl : ls[k]? = some (.val (.double v))) (hd : OwnKit.D bytes pc (.dload k) 2 nx) (K : ORun l y bytes maxL ret R Z n0 as' Q h cells slots nx ls (.double v :: st)) : ORun l y bytes maxL ret R Z n0 as' Q h cells slots pc ls st := by
  obtain ⟨hd, rfl⟩ := hd
  exact K.step fun p e s m below meth c T locs hx hZ hby hown X eT t k => XS.dload X.here hx rfl (hb hby hd) (getL hl) k
theorem r_dstore {l : Launch} {y : MethodName} {bytes : ByteArray} {maxL : Nat} {ret : Option FieldType} {R : Room} {Z : State} {n0 : Nat} {as' : Array Value} {Q : Option Value → Heap → Prop} {h : Heap} {cells slots pc nx : Nat} {ls : List Slot} {st : List Value} {k : Nat} {v : UInt64} (ls' : List Slot) (hl : storeLocals ls.toArray k (.double v) = some ls'.toArray) (hd : OwnKit.D bytes pc (.dstore k) 2 nx) (K : ORun l y bytes maxL ret R Z n0 as' Q h cells slots nx ls' st) : ORun l y bytes maxL ret R Z n0 as' Q h cells slots pc ls (.double v :: st) := by
  obtain ⟨hd, rfl⟩ := hd
  exact K.step fun p e s m below meth c T locs hx hZ hby hown X eT t k => XS.dstore X.here hx rfl (hb hby hd) rfl hl k
theorem r_dconst0 {l : Launch} {y : MethodName} {bytes : ByteArray} {maxL : Nat} {ret : Option FieldType} {R : Room} {Z : State} {n0 : Nat} {as' : Array Value} {Q : Option Value → Heap → Prop} {h : Heap} {cells slots pc nx : Nat} {ls : List Slot} {st : List Value} (v : UInt64) (hv : FP.dconst0 = v) (hd : OwnKit.D bytes pc (.dconst 0) 1 nx) (K : ORun l y bytes maxL ret R Z n0 as' Q h cells slots nx ls (.double v :: st)) : ORun l y bytes maxL ret R Z n0 as' Q h cells slots pc ls st := by
  obtain ⟨hd, rfl⟩ := hd
  exact K.step fun p e s m below meth c T locs hx hZ hby hown X eT t k => XS.dconst0 X.here hx rfl (hb hby hd) hv k
theorem r_l2d {l : Launch} {y : MethodName} {bytes : ByteArray} {maxL : Nat} {ret : Option FieldType} {R : Room} {Z : State} {n0 : Nat} {as' : Array Value} {Q : Option Value → Heap → Prop} {h : Heap} {cells slots pc nx : Nat} {ls : List Slot} {st : List Value} {x : Int64} (hd : OwnKit.D bytes pc (.l2d) 1 nx) (K : ORun l y bytes maxL ret R Z n0 as' Q h cells slots nx ls (.double (FP.l2d x) :: st)) : ORun l y bytes maxL ret R Z n0 as' Q h cells slots pc ls (.long x :: st) := by
  obtain ⟨hd, rfl⟩ := hd
  exact K.step fun p e s m below meth c T locs hx hZ hby hown X eT t k => XS.l2dS X.here hx rfl (hb hby hd) rfl rfl k
theorem r_dcmp {l : Launch} {y : MethodName} {bytes : ByteArray} {maxL : Nat} {ret : Option FieldType} {R : Room} {Z : State} {n0 : Nat} {as' : Array Value} {Q : Option Value → Heap → Prop} {h : Heap} {cells slots pc nx : Nat} {ls : List Slot} {st : List Value} {o : CmpOp} {x z : UInt64} (v : Int32) (hv : cmpValue (FP.dcmp x z) o = v) (hd : OwnKit.D bytes pc (.dcmp o) 1 nx) (K : ORun l y bytes maxL ret R Z n0 as' Q h cells slots nx ls (.int v :: st)) : ORun l y bytes maxL ret R Z n0 as' Q h cells slots pc ls (.double z :: .double x :: st) := by
  obtain ⟨hd, rfl⟩ := hd
  exact K.step fun p e s m below meth c T locs hx hZ hby hown X eT t k => XS.dcmpS X.here hx rfl (hb hby hd) rfl hv k
theorem r_dmul {l : Launch} {y : MethodName} {bytes : ByteArray} {maxL : Nat} {ret : Option FieldType} {R : Room} {Z : State} {n0 : Nat} {as' : Array Value} {Q : Option Value → Heap → Prop} {h : Heap} {cells slots pc nx : Nat} {ls : List Slot} {st : List Value} {x z : UInt64} (hn : Jvm.Free.Fl.NoNaN64 (FP.dmul x z)) (hd : OwnKit.D bytes pc (.dmul) 1 nx) (K : ORun l y bytes maxL ret R Z n0 as' Q h cells slots nx ls (.double (FP.dmul x z) :: st)) : ORun l y bytes maxL ret R Z n0 as' Q h cells slots pc ls (.double z :: .double x :: st) := by
  obtain ⟨hd, rfl⟩ := hd
  exact K.step fun p e s m below meth c T locs hx hZ hby hown X eT t k => XS.dmulS X.here hx rfl (hb hby hd) rfl hn rfl k
theorem r_ddiv {l : Launch} {y : MethodName} {bytes : ByteArray} {maxL : Nat} {ret : Option FieldType} {R : Room} {Z : State} {n0 : Nat} {as' : Array Value} {Q : Option Value → Heap → Prop} {h : Heap} {cells slots pc nx : Nat} {ls : List Slot} {st : List Value} {x z : UInt64} (hn : Jvm.Free.Fl.NoNaN64 (FP.ddiv x z)) (hd : OwnKit.D bytes pc (.ddiv) 1 nx) (K : ORun l y bytes maxL ret R Z n0 as' Q h cells slots nx ls (.double (FP.ddiv x z) :: st)) : ORun l y bytes maxL ret R Z n0 as' Q h cells slots pc ls (.double z :: .double x :: st) := by
  obtain ⟨hd, rfl⟩ := hd
  exact K.step fun p e s m below meth c T locs hx hZ hby hown X eT t k => XS.ddivS X.here hx rfl (hb hby hd) rfl hn rfl k
theorem r_ldc2D {l : Launch} {y : MethodName} {bytes : ByteArray} {maxL : Nat} {ret : Option FieldType} {R : Room} {Z : State} {n0 : Nat} {as' : Array Value} {Q : Option Value → Heap → Prop} {h : Heap} {cells slots pc nx : Nat} {ls : List Slot} {st : List Value} {a0 : Array Value} {i : Nat} {v : UInt64} (w : (Cond.constantDouble y.cls i v).before a0 Z = true) (hd : OwnKit.D bytes pc (.ldc2_w i) 3 nx) (K : ORun l y bytes maxL ret R Z n0 as' Q h cells slots nx ls (.double v :: st)) : ORun l y bytes maxL ret R Z n0 as' Q h cells slots pc ls st := by
  obtain ⟨hd, rfl⟩ := hd
  exact K.step fun p e s m below meth c T locs hx hZ hby hown X eT t k => X.ldc2DoubleC hx hown (mvT hZ w) (g := mkF m pc ls.toArray st) rfl (hb hby hd) _ k
theorem r_dret {l : Launch} {y : MethodName} {bytes : ByteArray} {maxL : Nat} {R : Room} {Z : State} {n0 : Nat} {as' : Array Value} {Q : Option Value → Heap → Prop} {h : Heap} {cells slots pc nx : Nat} {ls : List Slot} {st : List Value} {v : UInt64} (hd : OwnKit.D bytes pc .dreturn 1 nx) (hc : cells ≤ R.cells) (hs : slots ≤ R.slots) (hq : Q (some (.double v)) h) : ORun l y bytes maxL (some .double) R Z n0 as' Q h cells slots pc ls (.double v :: st) :=
  ORun.back (fun q => nomatch q) hc hs hq fun p e s m below meth c T locs hx hby hret X fs hr => retOut X hx (t := .double) hret rfl (Or.inr (Or.inr (Or.inl ⟨rfl, rfl, _, rfl⟩))) (hb hby hd.1) hr
/-- an array of longs, by their list -/
def Lry (Z : State) (h : Heap) (a : Addr) (ks : List Int64) : Prop := ∃ c : Cell, Arr Z h a c .long ∧ c.slots = (ks.map Value.long).toArray
section
variable {Z : State} {h h' : Heap} {a b : Addr} {ks ks' : List Int64} {sl : Nat} {v : Value} {ws : List Addr}
theorem Lry.lt (F : Lry Z h a ks) : a < h.size := by obtain ⟨c, A, -⟩ := F; exact A.lt
theorem Lry.ext (F : Lry Z h a ks) (E : Ext h h') : Lry Z h' a ks := by obtain ⟨c, A, q⟩ := F; exact ⟨c, A.ext E, q⟩
theorem Lry.other (F : Lry Z h b ks) (W : Wr h h' a sl v) (q : b ≠ a) : Lry Z h' b ks := by obtain ⟨c, A, r⟩ := F; exact ⟨c, A.other W q, r⟩
theorem Lry.set {i : Nat} {x : Int64} (F : Lry Z h a ks) (W : Wr h h' a i (.long x)) (e : ks.set i x = ks') : Lry Z h' a ks' := by
  obtain ⟨c, A, r⟩ := F
  refine ⟨_, A.same W, ?_⟩
  subst e
  simp [Cell.setSlot, r, List.map_set]
theorem Lry.size {c : Cell} (q : c.slots = (ks.map Value.long).toArray) : c.slots.size = ks.length := by rw [q]; simp
theorem Lry.new {k : ClassId} {n : Int32} {m : Nat} (A : Arr Z h a (newA k .long n) .long) (hn : n.toNatClampNeg = m) : Lry Z h a (List.replicate m 0) := by
  refine ⟨_, A, ?_⟩
  subst hn
  simp [newA, defaultValue]
end
theorem r_ldJ {l : Launch} {y : MethodName} {bytes : ByteArray} {maxL : Nat} {ret : Option FieldType} {R : Room} {Z : State} {n0 : Nat} {as' : Array Value} {Q : Option Value → Heap → Prop} {h : Heap} {cells slots pc nx : Nat} {ls : List Slot} {st : List Value} {a : Addr} {ks : List Int64} {j : Int32} (x : Int64) (A : Lry Z h a ks) (hj : ¬ j < 0) (hv : ks[j.toNatClampNeg]? = some x) (hd : OwnKit.D bytes pc .laload 1 nx) (K : ORun l y bytes maxL ret R Z n0 as' Q h cells slots nx ls (.long x :: st)) : ORun l y bytes maxL ret R Z n0 as' Q h cells slots pc ls (.int j :: .ref a :: st) := by
  obtain ⟨c, A, q⟩ := A
  have h1 : j.toNatClampNeg < ks.length := by
    rcases Nat.lt_or_ge j.toNatClampNeg ks.length with h | h
    · exact h
    · rw [List.getElem?_eq_none h] at hv; cases hv
  exact r_laload (v := .long x) A (by rw [Lry.size q]; intro r; rcases r with r | r; exact hj r; omega) (by rw [q]; simp [hv]) hd K
theorem r_stJ {l : Launch} {y : MethodName} {bytes : ByteArray} {maxL : Nat} {ret : Option FieldType} {R : Room} {Z : State} {n0 : Nat} {as' : Array Value} {Q : Option Value → Heap → Prop} {h : Heap} {cells slots pc nx : Nat} {ls : List Slot} {st : List Value} {a : Addr} {ks : List Int64} {j : Int32} {x : Int64} (i : Nat) (ks' : List Int64) (A : Lry Z h a ks) (hj : ¬ j < 0) (hi : j.toNatClampNeg = i) (hl : i < ks.length) (hks : ks.set i x = ks') (ge : n0 ≤ a) (hd : OwnKit.D bytes pc .lastore 1 nx) (K : ∀ h', Wr h h' a i (.long x) → Lry Z h' a ks' → ORun l y bytes maxL ret R Z n0 as' Q h' cells slots nx ls st) : ORun l y bytes maxL ret R Z n0 as' Q h cells slots pc ls (.long x :: .int j :: .ref a :: st) := by
  have A' := A
  obtain ⟨c, A, q⟩ := A
  subst hi
  refine r_lastore A (by rw [Lry.size q]; intro r; rcases r with r | r; exact hj r; omega) ge hd fun h' W => K h' W (A'.set W hks)
def own_T2 : List Int64 := [1, 2, 4, 8, 16, 32, 64, 128, 256, 512]
def own_T5 : List Int64 := [1, 5, 25, 125, 625, 3125, 15625, 78125, 390625, 1953125]
def own_tt (l : List Int64) (i : Nat) : Int64 := (l[i]?).getD 0
theorem own_gt {l : List Int64} {i : Nat} (h : i < l.length) : l[i]? = some (own_tt l i) := by
  unfold own_tt; rw [List.getElem?_eq_getElem h]; rfl
theorem own_tab : ∀ i j : Fin 10, 0 < (own_tt own_T2 i.1 * own_tt own_T5 j.1).toInt ∧ (own_tt own_T2 i.1 * own_tt own_T5 j.1).toInt ≤ 1000000000 ∧ 0 < (own_tt own_T2 (9 - i.1) * own_tt own_T5 (9 - j.1)).toInt ∧ (own_tt own_T2 (9 - i.1) * own_tt own_T5 (9 - j.1)).toInt ≤ 1000000000 ∧ (own_tt own_T2 (9 - i.1) * own_tt own_T5 (9 - j.1)).toInt * (own_tt own_T2 i.1 * own_tt own_T5 j.1).toInt = 1000000000 := by decide +kernel
theorem own_first (a : Int64) {i j : Nat} (hi : i < 10) (hj : j < 10) (o : CmpOp) : cmpValue (FP.dcmp (FP.ddiv (FP.dmul (FP.l2d (a &&& 8388607)) 4741671816366391296) (FP.l2d (own_tt own_T2 i * own_tt own_T5 j))) (FP.l2d ((a &&& 8388607) * (own_tt own_T2 (9 - i) * own_tt own_T5 (9 - j))))) o = 0 := by
  obtain ⟨t1, t2, t3, t4, t5⟩ := own_tab ⟨i, hi⟩ ⟨j, hj⟩
  simp only at t1 t2 t3 t4 t5
  have m := c_maskL a 8388607 23 (by decide) (by decide)
  generalize a &&& 8388607 = A at *
  generalize own_tt own_T2 i * own_tt own_T5 j = N at *
  generalize own_tt own_T2 (9 - i) * own_tt own_T5 (9 - j) = M at *
  have hA : 0 ≤ A.toInt ∧ A.toInt ≤ 8388607 := by omega
  have b1 : 0 ≤ A.toInt * M.toInt := Int.mul_nonneg hA.1 (by omega)
  have b2 : A.toInt * M.toInt ≤ 8388607 * 1000000000 := Int.mul_le_mul hA.2 t4 (by omega) (by omega)
  have e : (A * M).toInt = A.toInt * M.toInt := by rw [Int64.toInt_mul]; exact Int.bmod_eq_of_le (by omega) (by omega)
  refine own_exact hA ⟨t1, t2⟩ (by rw [e]; exact b1) ?_ o
  rw [e, Int.mul_assoc, t5]
theorem own_nz {i j : Nat} (hi : i < 10) (hj : j < 10) : ¬ own_tt own_T2 i * own_tt own_T5 j = 0 := fun q => by
  have t := (own_tab ⟨i, hi⟩ ⟨j, hj⟩).1
  simp only at t
  rw [q] at t
  exact absurd t (by decide)
def own_mx (a b : Int64) : Int64 := if a < b then b else a
theorem own_mxp (y : Int64) : 0 < (own_mx 1 y).toInt := by
  unfold own_mx
  have o : (1 : Int64).toInt = 1 := by decide
  by_cases h : 1 < y
  · rw [if_pos h]; rw [Int64.lt_iff_toInt_lt] at h; omega
  · rw [if_neg h]; omega
theorem own_mxn (y : Int64) : ¬ own_mx 1 y = 0 := fun q => by
  have := own_mxp y
  rw [q] at this
  exact absurd this (by decide)
theorem own_big (x : Int64) (h : ¬ x &&& 9223372036854775807 = 0) : 0 < (x &&& 9223372036854775807).toInt := by
  have m := c_maskL x 9223372036854775807 63 (by decide) (by decide)
  have z : ¬ (x &&& 9223372036854775807).toInt = 0 := fun q => h (Int64.toInt_inj.mp q)
  omega
theorem own_xlt {Z : State} {h : Heap} {a : Addr} {C : String} (E : Exa Z h a C) : a < h.size := by
  obtain ⟨c, k, e, -⟩ := E
  exact (Array.getElem?_eq_some_iff.mp e).1
theorem d2_0 : D jdk_30_method_1_code 0 (.aload_n 0) 1 1 := ⟨by decide +kernel, rfl⟩
theorem d2_1 : D jdk_30_method_1_code 1 (.invokespecial 1) 3 4 := ⟨by decide +kernel, rfl⟩
theorem d2_4 : D jdk_30_method_1_code 4 (.return_) 1 5 := ⟨by decide +kernel, rfl⟩
theorem pn2 : plainFor (⟨"java/lang/Record", "<init>", "()V"⟩ : MethodName) = true := by first | exact plainFor_of_name (by first | (simp [plainName, overriddenIn]; done) | decide +kernel) | exact Jvm.Free.JP.mathPlain rfl (by decide +kernel) | decide +kernel
set_option maxRecDepth 65536 in
set_option maxHeartbeats 40000000 in
theorem ct2 {l : Launch} {Z : State} {a0 : Array Value} (hw : ∀ d ∈ tables_1, d.before a0 Z = true) {n0 : Nat} {h0 : Heap} (a1 : Addr) : Ct l ⟨"java/lang/Record", "<init>", "()V"⟩ jdk_30_method_1_code 1 none [] ({ frames := 1, cells := 0, slots := 0, locals := 12 } : Room) Z n0 #[(.ref a1)] h0 (fun v h => v = none ∧ h = h0) := by
  refine Ct.of (ls := [.val (.ref a1)]) pn2 (fun m => by first | (simp [entryFrame, mkF, argsToLocals, Value.category]; done) | rfl) ?_
  refine r_aloadN d2_0 rfl rfl ?_
  refine r_initO (hw _ (List.mem_of_getElem? (i := 32) rfl)) (hw _ (List.mem_of_getElem? (i := 33) rfl)) (hw _ (List.mem_of_getElem? (i := 34) rfl)) d2_1 rfl (by decide) 0 rfl (by decide) ?_
  exact r_ret d2_4 (by decide) (by decide) (⟨rfl, rfl⟩)
theorem d1_0 : D prog_13_method_1_code 0 (.aload_n 0) 1 1 := ⟨by decide +kernel, rfl⟩
theorem d1_1 : D prog_13_method_1_code 1 (.invokespecial 1) 3 4 := ⟨by decide +kernel, rfl⟩
theorem d1_4 : D prog_13_method_1_code 4 (.aload_n 0) 1 5 := ⟨by decide +kernel, rfl⟩
theorem d1_5 : D prog_13_method_1_code 5 (.lload_n 1) 1 6 := ⟨by decide +kernel, rfl⟩
theorem d1_6 : D prog_13_method_1_code 6 (.putfield 7) 3 9 := ⟨by decide +kernel, rfl⟩
theorem d1_9 : D prog_13_method_1_code 9 (.aload_n 0) 1 10 := ⟨by decide +kernel, rfl⟩
theorem d1_10 : D prog_13_method_1_code 10 (.lload_n 3) 1 11 := ⟨by decide +kernel, rfl⟩
theorem d1_11 : D prog_13_method_1_code 11 (.putfield 13) 3 14 := ⟨by decide +kernel, rfl⟩
theorem d1_14 : D prog_13_method_1_code 14 (.aload_n 0) 1 15 := ⟨by decide +kernel, rfl⟩
theorem d1_15 : D prog_13_method_1_code 15 (.lload 5) 2 17 := ⟨by decide +kernel, rfl⟩
theorem d1_17 : D prog_13_method_1_code 17 (.putfield 16) 3 20 := ⟨by decide +kernel, rfl⟩
theorem d1_20 : D prog_13_method_1_code 20 (.return_) 1 21 := ⟨by decide +kernel, rfl⟩
theorem pd1_0 : parseMethodDescriptor "()V" = some ⟨[], none⟩ := by decide +kernel
theorem pn1 : plainFor (⟨"com/example/moor/moor/benchmarks/HttpLoad$Result", "<init>", "(JJJ)V"⟩ : MethodName) = true := by first | exact plainFor_of_name (by first | (simp [plainName, overriddenIn]; done) | decide +kernel) | exact Jvm.Free.JP.mathPlain rfl (by decide +kernel) | decide +kernel
set_option maxRecDepth 65536 in
set_option maxHeartbeats 40000000 in
theorem ct1 {l : Launch} {Z : State} {a0 : Array Value} (hw : ∀ d ∈ tables_1, d.before a0 Z = true) {n0 : Nat} {h0 : Heap} (a1 : Addr) (p0 : Int64) (p1 : Int64) (p2 : Int64) (E1 : Exa Z h0 a1 "com/example/moor/moor/benchmarks/HttpLoad$Result") (F0 : Fld Z h0 a1 "com/example/moor/moor/benchmarks/HttpLoad$Result" "answers" "J" (.long 0)) (F1 : Fld Z h0 a1 "com/example/moor/moor/benchmarks/HttpLoad$Result" "nanos" "J" (.long 0)) (F2 : Fld Z h0 a1 "com/example/moor/moor/benchmarks/HttpLoad$Result" "p99Nanos" "J" (.long 0)) (g1 : n0 ≤ a1) : Ct l ⟨"com/example/moor/moor/benchmarks/HttpLoad$Result", "<init>", "(JJJ)V"⟩ prog_13_method_1_code 7 none [] ({ frames := 2, cells := 0, slots := 0, locals := 24 } : Room) Z n0 #[(.ref a1), (.long p0), (.long p1), (.long p2)] h0 (fun v h => v = none ∧ Keep h0 h [a1] ∧ Exa Z h a1 "com/example/moor/moor/benchmarks/HttpLoad$Result" ∧ Fld Z h a1 "com/example/moor/moor/benchmarks/HttpLoad$Result" "answers" "J" (.long p0) ∧ Fld Z h a1 "com/example/moor/moor/benchmarks/HttpLoad$Result" "nanos" "J" (.long p1) ∧ Fld Z h a1 "com/example/moor/moor/benchmarks/HttpLoad$Result" "p99Nanos" "J" (.long p2)) := by
  refine Ct.of (ls := [.val (.ref a1), .val (.long p0), .second, .val (.long p1), .second, .val (.long p2), .second]) pn1 (fun m => by first | (simp [entryFrame, mkF, argsToLocals, Value.category]; done) | rfl) ?_
  refine r_aloadN d1_0 rfl rfl ?_
  refine r_special [] [] a1 rfl pd1_0 rfl rfl (hw _ (List.mem_of_getElem? (i := 27) rfl)) (hw _ (List.mem_of_getElem? (i := 28) rfl)) (hw _ (List.mem_of_getElem? (i := 30) rfl)) (hw _ (List.mem_of_getElem? (i := 31) rfl)) (by decide) (R' := ({ frames := 1, cells := 0, slots := 0, locals := 12 } : Room)) (ct2 hw a1) d1_1 rfl (by decide) 0 rfl (by decide) (by decide) (by decide) ?_
  rintro _ hq1 ⟨rfl, eq1⟩
  rw [eq1]
  show ORun _ _ _ _ _ _ _ _ _ _ h0 0 0 4 [.val (.ref a1), .val (.long p0), .second, .val (.long p1), .second, .val (.long p2), .second] []
  refine r_aloadN d1_4 rfl rfl ?_
  refine r_lloadN d1_5 rfl ?_
  refine r_putF (host := "") (Or.inl (hw _ (List.mem_of_getElem? (i := 35) rfl))) (F0) (E1) (Or.inr ⟨(hw _ (List.mem_of_getElem? (i := 36) rfl)), rfl, rfl⟩) (hw _ (List.mem_of_getElem? (i := 22) rfl)) (ty := .long) (by decide) rfl rfl g1 d1_6 ?_
  intro h6 W6
  have K6 := Keep.wr (Keep.refl h0 [a1]) W6 (Or.inl (List.mem_of_getElem? (i := 0) rfl))
  have E6 := E1.wr W6
  have G6_0 := Fld.same W6 F0
  have G6_1 := Fld.other W6 F1 (Or.inr (slot_ne (Or.inr (hw _ (List.mem_of_getElem? (i := 38) rfl))) (Or.inr (hw _ (List.mem_of_getElem? (i := 36) rfl))) (by decide) (t := .long) (t' := .long) (by decide) (by decide)))
  have G6_2 := Fld.other W6 F2 (Or.inr (slot_ne (Or.inr (hw _ (List.mem_of_getElem? (i := 40) rfl))) (Or.inr (hw _ (List.mem_of_getElem? (i := 36) rfl))) (by decide) (t := .long) (t' := .long) (by decide) (by decide)))
  refine r_aloadN d1_9 rfl rfl ?_
  refine r_lloadN d1_10 rfl ?_
  refine r_putF (host := "") (Or.inl (hw _ (List.mem_of_getElem? (i := 37) rfl))) (G6_1) (E6) (Or.inr ⟨(hw _ (List.mem_of_getElem? (i := 38) rfl)), rfl, rfl⟩) (hw _ (List.mem_of_getElem? (i := 22) rfl)) (ty := .long) (by decide) rfl rfl g1 d1_11 ?_
  intro h11 W11
  have K11 := Keep.wr K6 W11 (Or.inl (List.mem_of_getElem? (i := 0) rfl))
  have E11 := E6.wr W11
  have G11_0 := Fld.other W11 G6_0 (Or.inr (slot_ne (Or.inr (hw _ (List.mem_of_getElem? (i := 36) rfl))) (Or.inr (hw _ (List.mem_of_getElem? (i := 38) rfl))) (by decide) (t := .long) (t' := .long) (by decide) (by decide)))
  have G11_1 := Fld.same W11 G6_1
  have G11_2 := Fld.other W11 G6_2 (Or.inr (slot_ne (Or.inr (hw _ (List.mem_of_getElem? (i := 40) rfl))) (Or.inr (hw _ (List.mem_of_getElem? (i := 38) rfl))) (by decide) (t := .long) (t' := .long) (by decide) (by decide)))
  refine r_aloadN d1_14 rfl rfl ?_
  refine r_lload d1_15 rfl ?_
  refine r_putF (host := "") (Or.inl (hw _ (List.mem_of_getElem? (i := 39) rfl))) (G11_2) (E11) (Or.inr ⟨(hw _ (List.mem_of_getElem? (i := 40) rfl)), rfl, rfl⟩) (hw _ (List.mem_of_getElem? (i := 22) rfl)) (ty := .long) (by decide) rfl rfl g1 d1_17 ?_
  intro h17 W17
  have K17 := Keep.wr K11 W17 (Or.inl (List.mem_of_getElem? (i := 0) rfl))
  have E17 := E11.wr W17
  have G17_0 := Fld.other W17 G11_0 (Or.inr (slot_ne (Or.inr (hw _ (List.mem_of_getElem? (i := 36) rfl))) (Or.inr (hw _ (List.mem_of_getElem? (i := 40) rfl))) (by decide) (t := .long) (t' := .long) (by decide) (by decide)))
  have G17_1 := Fld.other W17 G11_1 (Or.inr (slot_ne (Or.inr (hw _ (List.mem_of_getElem? (i := 38) rfl))) (Or.inr (hw _ (List.mem_of_getElem? (i := 40) rfl))) (by decide) (t := .long) (t' := .long) (by decide) (by decide)))
  have G17_2 := Fld.same W17 G11_2
  exact r_ret d1_20 (by decide) (by decide) (⟨rfl, K17, E17, G17_0, G17_1, G17_2⟩)
theorem d4_0 : D prog_13_method_2_code 0 (.aload_n 0) 1 1 := ⟨by decide +kernel, rfl⟩
theorem d4_1 : D prog_13_method_2_code 1 (.getfield 7) 3 4 := ⟨by decide +kernel, rfl⟩
theorem d4_4 : D prog_13_method_2_code 4 (.l2d) 1 5 := ⟨by decide +kernel, rfl⟩
theorem d4_5 : D prog_13_method_2_code 5 (.ldc2_w 19) 3 8 := ⟨by decide +kernel, rfl⟩
theorem d4_8 : D prog_13_method_2_code 8 (.dmul) 1 9 := ⟨by decide +kernel, rfl⟩
theorem d4_9 : D prog_13_method_2_code 9 (.aload_n 0) 1 10 := ⟨by decide +kernel, rfl⟩
theorem d4_10 : D prog_13_method_2_code 10 (.getfield 13) 3 13 := ⟨by decide +kernel, rfl⟩
theorem d4_13 : D prog_13_method_2_code 13 (.l2d) 1 14 := ⟨by decide +kernel, rfl⟩
theorem d4_14 : D prog_13_method_2_code 14 (.ddiv) 1 15 := ⟨by decide +kernel, rfl⟩
theorem d4_15 : D prog_13_method_2_code 15 (.dreturn) 1 16 := ⟨by decide +kernel, rfl⟩
theorem pn4 : plainFor (⟨"com/example/moor/moor/benchmarks/HttpLoad$Result", "perSecond", "()D"⟩ : MethodName) = true := by first | exact plainFor_of_name (by first | (simp [plainName, overriddenIn]; done) | decide +kernel) | exact Jvm.Free.JP.mathPlain rfl (by decide +kernel) | decide +kernel
set_option maxRecDepth 65536 in
set_option maxHeartbeats 40000000 in
theorem ct4 {l : Launch} {Z : State} {a0 : Array Value} (hw : ∀ d ∈ tables_1, d.before a0 Z = true) {n0 : Nat} {h0 : Heap} (a1 : Addr) (pa pn : Int64) (FA : Fld Z h0 a1 "com/example/moor/moor/benchmarks/HttpLoad$Result" "answers" "J" (.long pa)) (FN : Fld Z h0 a1 "com/example/moor/moor/benchmarks/HttpLoad$Result" "nanos" "J" (.long pn)) (nz : ¬ pn = 0) : Ct l ⟨"com/example/moor/moor/benchmarks/HttpLoad$Result", "perSecond", "()D"⟩ prog_13_method_2_code 1 (some .double) [] ({ frames := 0, cells := 0, slots := 0, locals := 0 } : Room) Z n0 #[(.ref a1)] h0 (fun v h => v = some (.double (FP.ddiv (FP.dmul (FP.l2d pa) 4741671816366391296) (FP.l2d pn))) ∧ h = h0) := by
  refine Ct.of (ls := [.val (.ref a1)]) pn4 (fun m => by first | (simp [entryFrame, mkF, argsToLocals, Value.category]; done) | rfl) ?_
  refine r_aloadN d4_0 rfl rfl ?_
  refine r_getF (host := "") (Or.inl (hw _ (List.mem_of_getElem? (i := 35) rfl))) (v := (.long pa)) (FA) d4_1 ?_
  refine r_l2d d4_4 ?_
  refine r_ldc2D (hw _ (List.mem_of_getElem? (i := 46) rfl)) d4_5 ?_
  refine r_dmul (own_nn nz).1 d4_8 ?_
  refine r_aloadN d4_9 rfl rfl ?_
  refine r_getF (host := "") (Or.inl (hw _ (List.mem_of_getElem? (i := 37) rfl))) (v := (.long pn)) (FN) d4_10 ?_
  refine r_l2d d4_13 ?_
  refine r_ddiv (own_nn nz).2 d4_14 ?_
  exact r_dret d4_15 (by decide) (by decide) (⟨rfl, rfl⟩)
theorem d5_0 : D jdk_29_method_66_code 0 (.lload_n 0) 1 1 := ⟨by decide +kernel, rfl⟩
theorem d5_1 : D jdk_29_method_66_code 1 (.lload_n 2) 1 2 := ⟨by decide +kernel, rfl⟩
theorem d5_2 : D jdk_29_method_66_code 2 (.lcmp) 1 3 := ⟨by decide +kernel, rfl⟩
theorem d5_3 : DB jdk_29_method_66_code 3 (.ifCond .lt) 7 6 10 := ⟨by decide +kernel, rfl, by decide, by decide⟩
theorem d5_6 : D jdk_29_method_66_code 6 (.lload_n 0) 1 7 := ⟨by decide +kernel, rfl⟩
theorem d5_7 : DB jdk_29_method_66_code 7 (.goto) 4 10 11 := ⟨by decide +kernel, rfl, by decide, by decide⟩
theorem d5_10 : D jdk_29_method_66_code 10 (.lload_n 2) 1 11 := ⟨by decide +kernel, rfl⟩
theorem d5_11 : D jdk_29_method_66_code 11 (.lreturn) 1 12 := ⟨by decide +kernel, rfl⟩
theorem pn5 : plainFor (⟨"java/lang/Math", "max", "(JJ)J"⟩ : MethodName) = true := by first | exact plainFor_of_name (by first | (simp [plainName, overriddenIn]; done) | decide +kernel) | exact Jvm.Free.JP.mathPlain rfl (by decide +kernel) | decide +kernel
set_option maxRecDepth 65536 in
set_option maxHeartbeats 40000000 in
theorem ct5 {l : Launch} {Z : State} {a0 : Array Value} (hw : ∀ d ∈ tables_1, d.before a0 Z = true) {n0 : Nat} {h0 : Heap} (p1 p2 : Int64) : Ct l ⟨"java/lang/Math", "max", "(JJ)J"⟩ jdk_29_method_66_code 4 (some .long) [] ({ frames := 0, cells := 0, slots := 0, locals := 0 } : Room) Z n0 #[(.long p1), (.long p2)] h0 (fun v h => v = some (.long (own_mx p1 p2)) ∧ h = h0) := by
  refine Ct.of (ls := [.val (.long p1), .second, .val (.long p2), .second]) pn5 (fun m => by first | (simp [entryFrame, mkF, argsToLocals, Value.category]; done) | rfl) ?_
  refine r_lloadN d5_0 rfl ?_
  refine r_lloadN d5_1 rfl ?_
  refine r_lcmp d5_2 ?_
  refine r_if_lt d5_3 (fun hc3 => ?_) (fun hc3 => ?_)
  · refine r_lloadN d5_10 rfl ?_
    exact r_lret d5_11 (by decide) (by decide) (⟨by rw [own_mx, if_pos ((lw_lt p1 p2).mp hc3)], rfl⟩)
  · refine r_lloadN d5_6 rfl ?_
    refine r_goto d5_7 ?_
    exact r_lret d5_11 (by decide) (by decide) (⟨by rw [own_mx, if_neg (fun q => hc3 ((lw_lt p1 p2).mpr q))], rfl⟩)
theorem d0_0 : D code 0 (.bipush 10) 2 2 := ⟨by decide +kernel, rfl⟩
theorem d0_2 : D code 2 (.newarray .long) 2 4 := ⟨by decide +kernel, rfl⟩
theorem d0_4 : D code 4 (.dup) 1 5 := ⟨by decide +kernel, rfl⟩
theorem d0_5 : D code 5 (.iconst 0) 1 6 := ⟨by decide +kernel, rfl⟩
theorem d0_6 : D code 6 (.lconst 1) 1 7 := ⟨by decide +kernel, rfl⟩
theorem d0_7 : D code 7 (.lastore) 1 8 := ⟨by decide +kernel, rfl⟩
theorem d0_8 : D code 8 (.dup) 1 9 := ⟨by decide +kernel, rfl⟩
theorem d0_9 : D code 9 (.iconst 1) 1 10 := ⟨by decide +kernel, rfl⟩
theorem d0_10 : D code 10 (.ldc2_w 7) 3 13 := ⟨by decide +kernel, rfl⟩
theorem d0_13 : D code 13 (.lastore) 1 14 := ⟨by decide +kernel, rfl⟩
theorem d0_14 : D code 14 (.dup) 1 15 := ⟨by decide +kernel, rfl⟩
theorem d0_15 : D code 15 (.iconst 2) 1 16 := ⟨by decide +kernel, rfl⟩
theorem d0_16 : D code 16 (.ldc2_w 9) 3 19 := ⟨by decide +kernel, rfl⟩
theorem d0_19 : D code 19 (.lastore) 1 20 := ⟨by decide +kernel, rfl⟩
theorem d0_20 : D code 20 (.dup) 1 21 := ⟨by decide +kernel, rfl⟩
theorem d0_21 : D code 21 (.iconst 3) 1 22 := ⟨by decide +kernel, rfl⟩
theorem d0_22 : D code 22 (.ldc2_w 11) 3 25 := ⟨by decide +kernel, rfl⟩
theorem d0_25 : D code 25 (.lastore) 1 26 := ⟨by decide +kernel, rfl⟩
theorem d0_26 : D code 26 (.dup) 1 27 := ⟨by decide +kernel, rfl⟩
theorem d0_27 : D code 27 (.iconst 4) 1 28 := ⟨by decide +kernel, rfl⟩
theorem d0_28 : D code 28 (.ldc2_w 13) 3 31 := ⟨by decide +kernel, rfl⟩
theorem d0_31 : D code 31 (.lastore) 1 32 := ⟨by decide +kernel, rfl⟩
theorem d0_32 : D code 32 (.dup) 1 33 := ⟨by decide +kernel, rfl⟩
theorem d0_33 : D code 33 (.iconst 5) 1 34 := ⟨by decide +kernel, rfl⟩
theorem d0_34 : D code 34 (.ldc2_w 15) 3 37 := ⟨by decide +kernel, rfl⟩
theorem d0_37 : D code 37 (.lastore) 1 38 := ⟨by decide +kernel, rfl⟩
theorem d0_38 : D code 38 (.dup) 1 39 := ⟨by decide +kernel, rfl⟩
theorem d0_39 : D code 39 (.bipush 6) 2 41 := ⟨by decide +kernel, rfl⟩
theorem d0_41 : D code 41 (.ldc2_w 17) 3 44 := ⟨by decide +kernel, rfl⟩
theorem d0_44 : D code 44 (.lastore) 1 45 := ⟨by decide +kernel, rfl⟩
theorem d0_45 : D code 45 (.dup) 1 46 := ⟨by decide +kernel, rfl⟩
theorem d0_46 : D code 46 (.bipush 7) 2 48 := ⟨by decide +kernel, rfl⟩
theorem d0_48 : D code 48 (.ldc2_w 19) 3 51 := ⟨by decide +kernel, rfl⟩
theorem d0_51 : D code 51 (.lastore) 1 52 := ⟨by decide +kernel, rfl⟩
theorem d0_52 : D code 52 (.dup) 1 53 := ⟨by decide +kernel, rfl⟩
theorem d0_53 : D code 53 (.bipush 8) 2 55 := ⟨by decide +kernel, rfl⟩
theorem d0_55 : D code 55 (.ldc2_w 21) 3 58 := ⟨by decide +kernel, rfl⟩
theorem d0_58 : D code 58 (.lastore) 1 59 := ⟨by decide +kernel, rfl⟩
theorem d0_59 : D code 59 (.dup) 1 60 := ⟨by decide +kernel, rfl⟩
theorem d0_60 : D code 60 (.bipush 9) 2 62 := ⟨by decide +kernel, rfl⟩
theorem d0_62 : D code 62 (.ldc2_w 23) 3 65 := ⟨by decide +kernel, rfl⟩
theorem d0_65 : D code 65 (.lastore) 1 66 := ⟨by decide +kernel, rfl⟩
theorem d0_66 : D code 66 (.astore 10) 2 68 := ⟨by decide +kernel, rfl⟩
theorem d0_68 : D code 68 (.bipush 10) 2 70 := ⟨by decide +kernel, rfl⟩
theorem d0_70 : D code 70 (.newarray .long) 2 72 := ⟨by decide +kernel, rfl⟩
theorem d0_72 : D code 72 (.dup) 1 73 := ⟨by decide +kernel, rfl⟩
theorem d0_73 : D code 73 (.iconst 0) 1 74 := ⟨by decide +kernel, rfl⟩
theorem d0_74 : D code 74 (.lconst 1) 1 75 := ⟨by decide +kernel, rfl⟩
theorem d0_75 : D code 75 (.lastore) 1 76 := ⟨by decide +kernel, rfl⟩
theorem d0_76 : D code 76 (.dup) 1 77 := ⟨by decide +kernel, rfl⟩
theorem d0_77 : D code 77 (.iconst 1) 1 78 := ⟨by decide +kernel, rfl⟩
theorem d0_78 : D code 78 (.ldc2_w 25) 3 81 := ⟨by decide +kernel, rfl⟩
theorem d0_81 : D code 81 (.lastore) 1 82 := ⟨by decide +kernel, rfl⟩
theorem d0_82 : D code 82 (.dup) 1 83 := ⟨by decide +kernel, rfl⟩
theorem d0_83 : D code 83 (.iconst 2) 1 84 := ⟨by decide +kernel, rfl⟩
theorem d0_84 : D code 84 (.ldc2_w 27) 3 87 := ⟨by decide +kernel, rfl⟩
theorem d0_87 : D code 87 (.lastore) 1 88 := ⟨by decide +kernel, rfl⟩
theorem d0_88 : D code 88 (.dup) 1 89 := ⟨by decide +kernel, rfl⟩
theorem d0_89 : D code 89 (.iconst 3) 1 90 := ⟨by decide +kernel, rfl⟩
theorem d0_90 : D code 90 (.ldc2_w 29) 3 93 := ⟨by decide +kernel, rfl⟩
theorem d0_93 : D code 93 (.lastore) 1 94 := ⟨by decide +kernel, rfl⟩
theorem d0_94 : D code 94 (.dup) 1 95 := ⟨by decide +kernel, rfl⟩
theorem d0_95 : D code 95 (.iconst 4) 1 96 := ⟨by decide +kernel, rfl⟩
theorem d0_96 : D code 96 (.ldc2_w 31) 3 99 := ⟨by decide +kernel, rfl⟩
theorem d0_99 : D code 99 (.lastore) 1 100 := ⟨by decide +kernel, rfl⟩
theorem d0_100 : D code 100 (.dup) 1 101 := ⟨by decide +kernel, rfl⟩
theorem d0_101 : D code 101 (.iconst 5) 1 102 := ⟨by decide +kernel, rfl⟩
theorem d0_102 : D code 102 (.ldc2_w 33) 3 105 := ⟨by decide +kernel, rfl⟩
theorem d0_105 : D code 105 (.lastore) 1 106 := ⟨by decide +kernel, rfl⟩
theorem d0_106 : D code 106 (.dup) 1 107 := ⟨by decide +kernel, rfl⟩
theorem d0_107 : D code 107 (.bipush 6) 2 109 := ⟨by decide +kernel, rfl⟩
theorem d0_109 : D code 109 (.ldc2_w 35) 3 112 := ⟨by decide +kernel, rfl⟩
theorem d0_112 : D code 112 (.lastore) 1 113 := ⟨by decide +kernel, rfl⟩
theorem d0_113 : D code 113 (.dup) 1 114 := ⟨by decide +kernel, rfl⟩
theorem d0_114 : D code 114 (.bipush 7) 2 116 := ⟨by decide +kernel, rfl⟩
theorem d0_116 : D code 116 (.ldc2_w 37) 3 119 := ⟨by decide +kernel, rfl⟩
theorem d0_119 : D code 119 (.lastore) 1 120 := ⟨by decide +kernel, rfl⟩
theorem d0_120 : D code 120 (.dup) 1 121 := ⟨by decide +kernel, rfl⟩
theorem d0_121 : D code 121 (.bipush 8) 2 123 := ⟨by decide +kernel, rfl⟩
theorem d0_123 : D code 123 (.ldc2_w 39) 3 126 := ⟨by decide +kernel, rfl⟩
theorem d0_126 : D code 126 (.lastore) 1 127 := ⟨by decide +kernel, rfl⟩
theorem d0_127 : D code 127 (.dup) 1 128 := ⟨by decide +kernel, rfl⟩
theorem d0_128 : D code 128 (.bipush 9) 2 130 := ⟨by decide +kernel, rfl⟩
theorem d0_130 : D code 130 (.ldc2_w 41) 3 133 := ⟨by decide +kernel, rfl⟩
theorem d0_133 : D code 133 (.lastore) 1 134 := ⟨by decide +kernel, rfl⟩
theorem d0_134 : D code 134 (.astore 11) 2 136 := ⟨by decide +kernel, rfl⟩
theorem d0_136 : D code 136 (.iload_n 2) 1 137 := ⟨by decide +kernel, rfl⟩
theorem d0_137 : D code 137 (.ldc 43) 2 139 := ⟨by decide +kernel, rfl⟩
theorem d0_139 : D code 139 (.iand) 1 140 := ⟨by decide +kernel, rfl⟩
theorem d0_140 : D code 140 (.bipush 10) 2 142 := ⟨by decide +kernel, rfl⟩
theorem d0_142 : D code 142 (.irem) 1 143 := ⟨by decide +kernel, rfl⟩
theorem d0_143 : D code 143 (.istore 12) 2 145 := ⟨by decide +kernel, rfl⟩
theorem d0_145 : D code 145 (.iload_n 3) 1 146 := ⟨by decide +kernel, rfl⟩
theorem d0_146 : D code 146 (.ldc 43) 2 148 := ⟨by decide +kernel, rfl⟩
theorem d0_148 : D code 148 (.iand) 1 149 := ⟨by decide +kernel, rfl⟩
theorem d0_149 : D code 149 (.bipush 10) 2 151 := ⟨by decide +kernel, rfl⟩
theorem d0_151 : D code 151 (.irem) 1 152 := ⟨by decide +kernel, rfl⟩
theorem d0_152 : D code 152 (.istore 13) 2 154 := ⟨by decide +kernel, rfl⟩
theorem d0_154 : D code 154 (.lload_n 0) 1 155 := ⟨by decide +kernel, rfl⟩
theorem d0_155 : D code 155 (.ldc2_w 44) 3 158 := ⟨by decide +kernel, rfl⟩
theorem d0_158 : D code 158 (.land) 1 159 := ⟨by decide +kernel, rfl⟩
theorem d0_159 : D code 159 (.lstore 14) 2 161 := ⟨by decide +kernel, rfl⟩
theorem d0_161 : D code 161 (.aload 10) 2 163 := ⟨by decide +kernel, rfl⟩
theorem d0_163 : D code 163 (.iload 12) 2 165 := ⟨by decide +kernel, rfl⟩
theorem d0_165 : D code 165 (.laload) 1 166 := ⟨by decide +kernel, rfl⟩
theorem d0_166 : D code 166 (.aload 11) 2 168 := ⟨by decide +kernel, rfl⟩
theorem d0_168 : D code 168 (.iload 13) 2 170 := ⟨by decide +kernel, rfl⟩
theorem d0_170 : D code 170 (.laload) 1 171 := ⟨by decide +kernel, rfl⟩
theorem d0_171 : D code 171 (.lmul) 1 172 := ⟨by decide +kernel, rfl⟩
theorem d0_172 : D code 172 (.lstore 16) 2 174 := ⟨by decide +kernel, rfl⟩
theorem d0_174 : D code 174 (.lload 14) 2 176 := ⟨by decide +kernel, rfl⟩
theorem d0_176 : D code 176 (.aload 10) 2 178 := ⟨by decide +kernel, rfl⟩
theorem d0_178 : D code 178 (.bipush 9) 2 180 := ⟨by decide +kernel, rfl⟩
theorem d0_180 : D code 180 (.iload 12) 2 182 := ⟨by decide +kernel, rfl⟩
theorem d0_182 : D code 182 (.isub) 1 183 := ⟨by decide +kernel, rfl⟩
theorem d0_183 : D code 183 (.laload) 1 184 := ⟨by decide +kernel, rfl⟩
theorem d0_184 : D code 184 (.aload 11) 2 186 := ⟨by decide +kernel, rfl⟩
theorem d0_186 : D code 186 (.bipush 9) 2 188 := ⟨by decide +kernel, rfl⟩
theorem d0_188 : D code 188 (.iload 13) 2 190 := ⟨by decide +kernel, rfl⟩
theorem d0_190 : D code 190 (.isub) 1 191 := ⟨by decide +kernel, rfl⟩
theorem d0_191 : D code 191 (.laload) 1 192 := ⟨by decide +kernel, rfl⟩
theorem d0_192 : D code 192 (.lmul) 1 193 := ⟨by decide +kernel, rfl⟩
theorem d0_193 : D code 193 (.lmul) 1 194 := ⟨by decide +kernel, rfl⟩
theorem d0_194 : D code 194 (.lstore 18) 2 196 := ⟨by decide +kernel, rfl⟩
theorem d0_196 : D code 196 (.new 46) 3 199 := ⟨by decide +kernel, rfl⟩
theorem d0_199 : D code 199 (.dup) 1 200 := ⟨by decide +kernel, rfl⟩
theorem d0_200 : D code 200 (.lload 14) 2 202 := ⟨by decide +kernel, rfl⟩
theorem d0_202 : D code 202 (.lload 16) 2 204 := ⟨by decide +kernel, rfl⟩
theorem d0_204 : D code 204 (.lload 8) 2 206 := ⟨by decide +kernel, rfl⟩
theorem d0_206 : D code 206 (.invokespecial 48) 3 209 := ⟨by decide +kernel, rfl⟩
theorem d0_209 : D code 209 (.astore 20) 2 211 := ⟨by decide +kernel, rfl⟩
theorem d0_211 : D code 211 (.aload 20) 2 213 := ⟨by decide +kernel, rfl⟩
theorem d0_213 : D code 213 (.invokevirtual 51) 3 216 := ⟨by decide +kernel, rfl⟩
theorem d0_216 : D code 216 (.lload 18) 2 218 := ⟨by decide +kernel, rfl⟩
theorem d0_218 : D code 218 (.l2d) 1 219 := ⟨by decide +kernel, rfl⟩
theorem d0_219 : D code 219 (.dcmp .l) 1 220 := ⟨by decide +kernel, rfl⟩
theorem d0_220 : DB code 220 (.ifCond .ne) 7 223 227 := ⟨by decide +kernel, rfl, by decide, by decide⟩
theorem d0_223 : D code 223 (.iconst 1) 1 224 := ⟨by decide +kernel, rfl⟩
theorem d0_224 : DB code 224 (.goto) 4 227 228 := ⟨by decide +kernel, rfl, by decide, by decide⟩
theorem d0_228 : D code 228 (.istore 21) 2 230 := ⟨by decide +kernel, rfl⟩
theorem d0_230 : D code 230 (.lload 4) 2 232 := ⟨by decide +kernel, rfl⟩
theorem d0_232 : D code 232 (.ldc2_w 57) 3 235 := ⟨by decide +kernel, rfl⟩
theorem d0_235 : D code 235 (.land) 1 236 := ⟨by decide +kernel, rfl⟩
theorem d0_236 : D code 236 (.lstore 22) 2 238 := ⟨by decide +kernel, rfl⟩
theorem d0_238 : D code 238 (.lconst 1) 1 239 := ⟨by decide +kernel, rfl⟩
theorem d0_239 : D code 239 (.lload 6) 2 241 := ⟨by decide +kernel, rfl⟩
theorem d0_241 : D code 241 (.ldc2_w 57) 3 244 := ⟨by decide +kernel, rfl⟩
theorem d0_244 : D code 244 (.land) 1 245 := ⟨by decide +kernel, rfl⟩
theorem d0_245 : D code 245 (.invokestatic 59) 3 248 := ⟨by decide +kernel, rfl⟩
theorem d0_248 : D code 248 (.lstore 24) 2 250 := ⟨by decide +kernel, rfl⟩
theorem d0_250 : D code 250 (.new 46) 3 253 := ⟨by decide +kernel, rfl⟩
theorem d0_253 : D code 253 (.dup) 1 254 := ⟨by decide +kernel, rfl⟩
theorem d0_254 : D code 254 (.lload 22) 2 256 := ⟨by decide +kernel, rfl⟩
theorem d0_256 : D code 256 (.lload 24) 2 258 := ⟨by decide +kernel, rfl⟩
theorem d0_258 : D code 258 (.lload 8) 2 260 := ⟨by decide +kernel, rfl⟩
theorem d0_260 : D code 260 (.invokespecial 48) 3 263 := ⟨by decide +kernel, rfl⟩
theorem d0_263 : D code 263 (.invokevirtual 51) 3 266 := ⟨by decide +kernel, rfl⟩
theorem d0_266 : D code 266 (.dstore 26) 2 268 := ⟨by decide +kernel, rfl⟩
theorem d0_268 : D code 268 (.dload 26) 2 270 := ⟨by decide +kernel, rfl⟩
theorem d0_270 : D code 270 (.dconst 0) 1 271 := ⟨by decide +kernel, rfl⟩
theorem d0_271 : D code 271 (.dcmp .l) 1 272 := ⟨by decide +kernel, rfl⟩
theorem d0_272 : DB code 272 (.ifCond .lt) 34 275 306 := ⟨by decide +kernel, rfl, by decide, by decide⟩
theorem d0_275 : D code 275 (.dload 26) 2 277 := ⟨by decide +kernel, rfl⟩
theorem d0_277 : D code 277 (.dconst 0) 1 278 := ⟨by decide +kernel, rfl⟩
theorem d0_278 : D code 278 (.dcmp .l) 1 279 := ⟨by decide +kernel, rfl⟩
theorem d0_279 : DB code 279 (.ifCond .ne) 7 282 286 := ⟨by decide +kernel, rfl, by decide, by decide⟩
theorem d0_282 : D code 282 (.iconst 1) 1 283 := ⟨by decide +kernel, rfl⟩
theorem d0_283 : DB code 283 (.goto) 4 286 287 := ⟨by decide +kernel, rfl, by decide, by decide⟩
theorem d0_286 : D code 286 (.iconst 0) 1 287 := ⟨by decide +kernel, rfl⟩
theorem d0_287 : D code 287 (.lload 22) 2 289 := ⟨by decide +kernel, rfl⟩
theorem d0_289 : D code 289 (.lconst 0) 1 290 := ⟨by decide +kernel, rfl⟩
theorem d0_290 : D code 290 (.lcmp) 1 291 := ⟨by decide +kernel, rfl⟩
theorem d0_291 : DB code 291 (.ifCond .ne) 7 294 298 := ⟨by decide +kernel, rfl, by decide, by decide⟩
theorem d0_294 : D code 294 (.iconst 1) 1 295 := ⟨by decide +kernel, rfl⟩
theorem d0_295 : DB code 295 (.goto) 4 298 299 := ⟨by decide +kernel, rfl, by decide, by decide⟩
theorem d0_298 : D code 298 (.iconst 0) 1 299 := ⟨by decide +kernel, rfl⟩
theorem d0_299 : DB code 299 (.if_icmp .ne) 7 302 306 := ⟨by decide +kernel, rfl, by decide, by decide⟩
theorem d0_302 : D code 302 (.iconst 1) 1 303 := ⟨by decide +kernel, rfl⟩
theorem d0_303 : DB code 303 (.goto) 4 306 307 := ⟨by decide +kernel, rfl, by decide, by decide⟩
theorem d0_307 : D code 307 (.istore 28) 2 309 := ⟨by decide +kernel, rfl⟩
theorem d0_309 : D code 309 (.iload 21) 2 311 := ⟨by decide +kernel, rfl⟩
theorem d0_311 : DB code 311 (.ifCond .eq) 12 314 323 := ⟨by decide +kernel, rfl, by decide, by decide⟩
theorem d0_314 : D code 314 (.iload 28) 2 316 := ⟨by decide +kernel, rfl⟩
theorem d0_316 : DB code 316 (.ifCond .eq) 7 319 323 := ⟨by decide +kernel, rfl, by decide, by decide⟩
theorem d0_319 : D code 319 (.iconst 1) 1 320 := ⟨by decide +kernel, rfl⟩
theorem d0_320 : DB code 320 (.goto) 4 323 324 := ⟨by decide +kernel, rfl, by decide, by decide⟩
theorem d0_324 : D code 324 (.ireturn) 1 325 := ⟨by decide +kernel, rfl⟩
theorem pd0_0 : parseMethodDescriptor "(JJJ)V" = some ⟨[.long, .long, .long], none⟩ := by decide +kernel
theorem pd0_1 : parseMethodDescriptor "()D" = some ⟨[], some .double⟩ := by decide +kernel
theorem pd0_2 : parseMethodDescriptor "(JJ)J" = some ⟨[.long, .long], some .long⟩ := by decide +kernel
theorem pn0 : plainFor (⟨"com/example/moor/moor/benchmarks/ResultPerSecondPinLaw", "law", "(JIIJJJ)Z"⟩ : MethodName) = true := by first | exact plainFor_of_name (by first | (simp [plainName, overriddenIn]; done) | decide +kernel) | exact Jvm.Free.JP.mathPlain rfl (by decide +kernel) | decide +kernel
set_option maxRecDepth 65536 in
set_option maxHeartbeats 40000000 in
theorem ct0 {l : Launch} {Z : State} {a0 : Array Value} (hw : ∀ d ∈ tables_1, d.before a0 Z = true) {n0 : Nat} {h0 : Heap} (hz : n0 ≤ h0.size) (p1 : Int64) (p2 p3 : Int32) (p4 p5 p6 : Int64) : Ct l x code maxLocals ret tables_1 room_1 Z n0 #[(.long p1), (.int p2), (.int p3), (.long p4), (.long p5), (.long p6)] h0 (fun v h => v = some (.int 1)) := by
  refine Ct.of (ls := [.val (.long p1), .second, .val (.int p2), .val (.int p3), .val (.long p4), .second, .val (.long p5), .second, .val (.long p6), .second, .unset, .unset, .unset, .unset, .unset, .unset, .unset, .unset, .unset, .unset, .unset, .unset, .unset, .unset, .unset, .unset, .unset, .unset, .unset]) pn0 (fun m => by first | (simp [entryFrame, mkF, argsToLocals, Value.category, maxLocals]; done) | rfl) ?_
  refine r_bipush (10 : Int32) rfl d0_0 ?_
  refine r_newarr 10 (hw _ (List.mem_of_getElem? (i := 0) rfl)) d0_2 (by decide) (by decide) (by decide) (by decide) (by decide) ?_
  intro hn2 cA2 E2 A2
  obtain ⟨b2, g2⟩ : ∃ z, z = h0.size := ⟨_, rfl⟩
  rw [← g2] at A2 ⊢
  have V2 : Lry Z hn2 b2 [0, 0, 0, 0, 0, 0, 0, 0, 0, 0] := Lry.new A2 rfl
  have ge2 : n0 ≤ b2 := by rw [g2]; exact hz
  show ORun _ _ _ _ _ _ _ _ _ _ hn2 1 10 4 [.val (.long p1), .second, .val (.int p2), .val (.int p3), .val (.long p4), .second, .val (.long p5), .second, .val (.long p6), .second, .unset, .unset, .unset, .unset, .unset, .unset, .unset, .unset, .unset, .unset, .unset, .unset, .unset, .unset, .unset, .unset, .unset, .unset, .unset] [(.ref b2)]
  refine r_dup d0_4 rfl ?_
  refine r_iconst (0 : Int32) rfl d0_5 ?_
  refine r_lconst (1 : Int64) rfl d0_6 ?_
  refine r_stJ 0 [(1 : Int64), 0, 0, 0, 0, 0, 0, 0, 0, 0] V2 (by decide) rfl (Nat.le_of_ble_eq_true rfl) rfl ge2 d0_7 ?_
  intro h7 W7 V7
  refine r_dup d0_8 rfl ?_
  refine r_iconst (1 : Int32) rfl d0_9 ?_
  refine r_ldc2 (v := (2 : Int64)) (hw _ (List.mem_of_getElem? (i := 1) rfl)) d0_10 ?_
  refine r_stJ 1 [(1 : Int64), (2 : Int64), 0, 0, 0, 0, 0, 0, 0, 0] V7 (by decide) rfl (Nat.le_of_ble_eq_true rfl) rfl ge2 d0_13 ?_
  intro h13 W13 V13
  refine r_dup d0_14 rfl ?_
  refine r_iconst (2 : Int32) rfl d0_15 ?_
  refine r_ldc2 (v := (4 : Int64)) (hw _ (List.mem_of_getElem? (i := 2) rfl)) d0_16 ?_
  refine r_stJ 2 [(1 : Int64), (2 : Int64), (4 : Int64), 0, 0, 0, 0, 0, 0, 0] V13 (by decide) rfl (Nat.le_of_ble_eq_true rfl) rfl ge2 d0_19 ?_
  intro h19 W19 V19
  refine r_dup d0_20 rfl ?_
  refine r_iconst (3 : Int32) rfl d0_21 ?_
  refine r_ldc2 (v := (8 : Int64)) (hw _ (List.mem_of_getElem? (i := 3) rfl)) d0_22 ?_
  refine r_stJ 3 [(1 : Int64), (2 : Int64), (4 : Int64), (8 : Int64), 0, 0, 0, 0, 0, 0] V19 (by decide) rfl (Nat.le_of_ble_eq_true rfl) rfl ge2 d0_25 ?_
  intro h25 W25 V25
  refine r_dup d0_26 rfl ?_
  refine r_iconst (4 : Int32) rfl d0_27 ?_
  refine r_ldc2 (v := (16 : Int64)) (hw _ (List.mem_of_getElem? (i := 4) rfl)) d0_28 ?_
  refine r_stJ 4 [(1 : Int64), (2 : Int64), (4 : Int64), (8 : Int64), (16 : Int64), 0, 0, 0, 0, 0] V25 (by decide) rfl (Nat.le_of_ble_eq_true rfl) rfl ge2 d0_31 ?_
  intro h31 W31 V31
  refine r_dup d0_32 rfl ?_
  refine r_iconst (5 : Int32) rfl d0_33 ?_
  refine r_ldc2 (v := (32 : Int64)) (hw _ (List.mem_of_getElem? (i := 5) rfl)) d0_34 ?_
  refine r_stJ 5 [(1 : Int64), (2 : Int64), (4 : Int64), (8 : Int64), (16 : Int64), (32 : Int64), 0, 0, 0, 0] V31 (by decide) rfl (Nat.le_of_ble_eq_true rfl) rfl ge2 d0_37 ?_
  intro h37 W37 V37
  refine r_dup d0_38 rfl ?_
  refine r_bipush (6 : Int32) rfl d0_39 ?_
  refine r_ldc2 (v := (64 : Int64)) (hw _ (List.mem_of_getElem? (i := 6) rfl)) d0_41 ?_
  refine r_stJ 6 [(1 : Int64), (2 : Int64), (4 : Int64), (8 : Int64), (16 : Int64), (32 : Int64), (64 : Int64), 0, 0, 0] V37 (by decide) rfl (Nat.le_of_ble_eq_true rfl) rfl ge2 d0_44 ?_
  intro h44 W44 V44
  refine r_dup d0_45 rfl ?_
  refine r_bipush (7 : Int32) rfl d0_46 ?_
  refine r_ldc2 (v := (128 : Int64)) (hw _ (List.mem_of_getElem? (i := 7) rfl)) d0_48 ?_
  refine r_stJ 7 [(1 : Int64), (2 : Int64), (4 : Int64), (8 : Int64), (16 : Int64), (32 : Int64), (64 : Int64), (128 : Int64), 0, 0] V44 (by decide) rfl (Nat.le_of_ble_eq_true rfl) rfl ge2 d0_51 ?_
  intro h51 W51 V51
  refine r_dup d0_52 rfl ?_
  refine r_bipush (8 : Int32) rfl d0_53 ?_
  refine r_ldc2 (v := (256 : Int64)) (hw _ (List.mem_of_getElem? (i := 8) rfl)) d0_55 ?_
  refine r_stJ 8 [(1 : Int64), (2 : Int64), (4 : Int64), (8 : Int64), (16 : Int64), (32 : Int64), (64 : Int64), (128 : Int64), (256 : Int64), 0] V51 (by decide) rfl (Nat.le_of_ble_eq_true rfl) rfl ge2 d0_58 ?_
  intro h58 W58 V58
  refine r_dup d0_59 rfl ?_
  refine r_bipush (9 : Int32) rfl d0_60 ?_
  refine r_ldc2 (v := (512 : Int64)) (hw _ (List.mem_of_getElem? (i := 9) rfl)) d0_62 ?_
  refine r_stJ 9 [(1 : Int64), (2 : Int64), (4 : Int64), (8 : Int64), (16 : Int64), (32 : Int64), (64 : Int64), (128 : Int64), (256 : Int64), (512 : Int64)] V58 (by decide) rfl (Nat.le_of_ble_eq_true rfl) rfl ge2 d0_65 ?_
  intro h65 W65 V65
  refine r_astore d0_66 rfl [.val (.long p1), .second, .val (.int p2), .val (.int p3), .val (.long p4), .second, .val (.long p5), .second, .val (.long p6), .second, .val (.ref b2), .unset, .unset, .unset, .unset, .unset, .unset, .unset, .unset, .unset, .unset, .unset, .unset, .unset, .unset, .unset, .unset, .unset, .unset] rfl ?_
  refine r_bipush (10 : Int32) rfl d0_68 ?_
  refine r_newarr 10 (hw _ (List.mem_of_getElem? (i := 0) rfl)) d0_70 (by decide) (by decide) (by decide) (by decide) (by decide) ?_
  intro hn70 cA70 E70 A70
  obtain ⟨b70, g70⟩ : ∃ z, z = h65.size := ⟨_, rfl⟩
  rw [← g70] at A70 ⊢
  have V70 : Lry Z hn70 b70 [0, 0, 0, 0, 0, 0, 0, 0, 0, 0] := Lry.new A70 rfl
  have ge70 : n0 ≤ b70 := by rw [g70]; exact Nat.le_trans ge2 (Nat.le_of_lt V65.lt)
  have ne70 : b2 ≠ b70 := by rw [g70]; exact Nat.ne_of_lt V65.lt
  have U70 := V65.ext E70
  show ORun _ _ _ _ _ _ _ _ _ _ hn70 2 20 72 [.val (.long p1), .second, .val (.int p2), .val (.int p3), .val (.long p4), .second, .val (.long p5), .second, .val (.long p6), .second, .val (.ref b2), .unset, .unset, .unset, .unset, .unset, .unset, .unset, .unset, .unset, .unset, .unset, .unset, .unset, .unset, .unset, .unset, .unset, .unset] [(.ref b70)]
  refine r_dup d0_72 rfl ?_
  refine r_iconst (0 : Int32) rfl d0_73 ?_
  refine r_lconst (1 : Int64) rfl d0_74 ?_
  refine r_stJ 0 [(1 : Int64), 0, 0, 0, 0, 0, 0, 0, 0, 0] V70 (by decide) rfl (Nat.le_of_ble_eq_true rfl) rfl ge70 d0_75 ?_
  intro h75 W75 V75
  have U75 := U70.other W75 ne70
  refine r_dup d0_76 rfl ?_
  refine r_iconst (1 : Int32) rfl d0_77 ?_
  refine r_ldc2 (v := (5 : Int64)) (hw _ (List.mem_of_getElem? (i := 10) rfl)) d0_78 ?_
  refine r_stJ 1 [(1 : Int64), (5 : Int64), 0, 0, 0, 0, 0, 0, 0, 0] V75 (by decide) rfl (Nat.le_of_ble_eq_true rfl) rfl ge70 d0_81 ?_
  intro h81 W81 V81
  have U81 := U75.other W81 ne70
  refine r_dup d0_82 rfl ?_
  refine r_iconst (2 : Int32) rfl d0_83 ?_
  refine r_ldc2 (v := (25 : Int64)) (hw _ (List.mem_of_getElem? (i := 11) rfl)) d0_84 ?_
  refine r_stJ 2 [(1 : Int64), (5 : Int64), (25 : Int64), 0, 0, 0, 0, 0, 0, 0] V81 (by decide) rfl (Nat.le_of_ble_eq_true rfl) rfl ge70 d0_87 ?_
  intro h87 W87 V87
  have U87 := U81.other W87 ne70
  refine r_dup d0_88 rfl ?_
  refine r_iconst (3 : Int32) rfl d0_89 ?_
  refine r_ldc2 (v := (125 : Int64)) (hw _ (List.mem_of_getElem? (i := 12) rfl)) d0_90 ?_
  refine r_stJ 3 [(1 : Int64), (5 : Int64), (25 : Int64), (125 : Int64), 0, 0, 0, 0, 0, 0] V87 (by decide) rfl (Nat.le_of_ble_eq_true rfl) rfl ge70 d0_93 ?_
  intro h93 W93 V93
  have U93 := U87.other W93 ne70
  refine r_dup d0_94 rfl ?_
  refine r_iconst (4 : Int32) rfl d0_95 ?_
  refine r_ldc2 (v := (625 : Int64)) (hw _ (List.mem_of_getElem? (i := 13) rfl)) d0_96 ?_
  refine r_stJ 4 [(1 : Int64), (5 : Int64), (25 : Int64), (125 : Int64), (625 : Int64), 0, 0, 0, 0, 0] V93 (by decide) rfl (Nat.le_of_ble_eq_true rfl) rfl ge70 d0_99 ?_
  intro h99 W99 V99
  have U99 := U93.other W99 ne70
  refine r_dup d0_100 rfl ?_
  refine r_iconst (5 : Int32) rfl d0_101 ?_
  refine r_ldc2 (v := (3125 : Int64)) (hw _ (List.mem_of_getElem? (i := 14) rfl)) d0_102 ?_
  refine r_stJ 5 [(1 : Int64), (5 : Int64), (25 : Int64), (125 : Int64), (625 : Int64), (3125 : Int64), 0, 0, 0, 0] V99 (by decide) rfl (Nat.le_of_ble_eq_true rfl) rfl ge70 d0_105 ?_
  intro h105 W105 V105
  have U105 := U99.other W105 ne70
  refine r_dup d0_106 rfl ?_
  refine r_bipush (6 : Int32) rfl d0_107 ?_
  refine r_ldc2 (v := (15625 : Int64)) (hw _ (List.mem_of_getElem? (i := 15) rfl)) d0_109 ?_
  refine r_stJ 6 [(1 : Int64), (5 : Int64), (25 : Int64), (125 : Int64), (625 : Int64), (3125 : Int64), (15625 : Int64), 0, 0, 0] V105 (by decide) rfl (Nat.le_of_ble_eq_true rfl) rfl ge70 d0_112 ?_
  intro h112 W112 V112
  have U112 := U105.other W112 ne70
  refine r_dup d0_113 rfl ?_
  refine r_bipush (7 : Int32) rfl d0_114 ?_
  refine r_ldc2 (v := (78125 : Int64)) (hw _ (List.mem_of_getElem? (i := 16) rfl)) d0_116 ?_
  refine r_stJ 7 [(1 : Int64), (5 : Int64), (25 : Int64), (125 : Int64), (625 : Int64), (3125 : Int64), (15625 : Int64), (78125 : Int64), 0, 0] V112 (by decide) rfl (Nat.le_of_ble_eq_true rfl) rfl ge70 d0_119 ?_
  intro h119 W119 V119
  have U119 := U112.other W119 ne70
  refine r_dup d0_120 rfl ?_
  refine r_bipush (8 : Int32) rfl d0_121 ?_
  refine r_ldc2 (v := (390625 : Int64)) (hw _ (List.mem_of_getElem? (i := 17) rfl)) d0_123 ?_
  refine r_stJ 8 [(1 : Int64), (5 : Int64), (25 : Int64), (125 : Int64), (625 : Int64), (3125 : Int64), (15625 : Int64), (78125 : Int64), (390625 : Int64), 0] V119 (by decide) rfl (Nat.le_of_ble_eq_true rfl) rfl ge70 d0_126 ?_
  intro h126 W126 V126
  have U126 := U119.other W126 ne70
  refine r_dup d0_127 rfl ?_
  refine r_bipush (9 : Int32) rfl d0_128 ?_
  refine r_ldc2 (v := (1953125 : Int64)) (hw _ (List.mem_of_getElem? (i := 18) rfl)) d0_130 ?_
  refine r_stJ 9 [(1 : Int64), (5 : Int64), (25 : Int64), (125 : Int64), (625 : Int64), (3125 : Int64), (15625 : Int64), (78125 : Int64), (390625 : Int64), (1953125 : Int64)] V126 (by decide) rfl (Nat.le_of_ble_eq_true rfl) rfl ge70 d0_133 ?_
  intro h133 W133 V133
  have U133 := U126.other W133 ne70
  refine r_astore d0_134 rfl [.val (.long p1), .second, .val (.int p2), .val (.int p3), .val (.long p4), .second, .val (.long p5), .second, .val (.long p6), .second, .val (.ref b2), .val (.ref b70), .unset, .unset, .unset, .unset, .unset, .unset, .unset, .unset, .unset, .unset, .unset, .unset, .unset, .unset, .unset, .unset, .unset] rfl ?_
  have A2 : Lry Z h133 b2 own_T2 := U133
  have A5 : Lry Z h133 b70 own_T5 := V133
  refine r_iloadN d0_136 rfl ?_
  refine r_ldc (v := (2147483647 : Int32)) (hw _ (List.mem_of_getElem? (i := 19) rfl)) d0_137 ?_
  refine r_iand d0_139 ?_
  refine r_bipush (10 : Int32) rfl d0_140 ?_
  refine r_irem d0_142 (by decide) ?_
  obtain ⟨ii, e_ii, l_ii⟩ := n32_mod p2 10 (by decide) (by decide)
  rw [show (p2 &&& (2147483647 : Int32)) % (10 : Int32) = ii.toInt32 from e_ii]
  refine r_istore d0_143 [.val (.long p1), .second, .val (.int p2), .val (.int p3), .val (.long p4), .second, .val (.long p5), .second, .val (.long p6), .second, .val (.ref b2), .val (.ref b70), .val (.int ii.toInt32), .unset, .unset, .unset, .unset, .unset, .unset, .unset, .unset, .unset, .unset, .unset, .unset, .unset, .unset, .unset, .unset] rfl ?_
  refine r_iloadN d0_145 rfl ?_
  refine r_ldc (v := (2147483647 : Int32)) (hw _ (List.mem_of_getElem? (i := 19) rfl)) d0_146 ?_
  refine r_iand d0_148 ?_
  refine r_bipush (10 : Int32) rfl d0_149 ?_
  refine r_irem d0_151 (by decide) ?_
  obtain ⟨jj, e_jj, l_jj⟩ := n32_mod p3 10 (by decide) (by decide)
  rw [show (p3 &&& (2147483647 : Int32)) % (10 : Int32) = jj.toInt32 from e_jj]
  refine r_istore d0_152 [.val (.long p1), .second, .val (.int p2), .val (.int p3), .val (.long p4), .second, .val (.long p5), .second, .val (.long p6), .second, .val (.ref b2), .val (.ref b70), .val (.int ii.toInt32), .val (.int jj.toInt32), .unset, .unset, .unset, .unset, .unset, .unset, .unset, .unset, .unset, .unset, .unset, .unset, .unset, .unset, .unset] rfl ?_
  refine r_lloadN d0_154 rfl ?_
  refine r_ldc2 (v := (8388607 : Int64)) (hw _ (List.mem_of_getElem? (i := 20) rfl)) d0_155 ?_
  refine r_land d0_158 ?_
  refine r_lstore d0_159 [.val (.long p1), .second, .val (.int p2), .val (.int p3), .val (.long p4), .second, .val (.long p5), .second, .val (.long p6), .second, .val (.ref b2), .val (.ref b70), .val (.int ii.toInt32), .val (.int jj.toInt32), .val (.long (p1 &&& (8388607 : Int64))), .second, .unset, .unset, .unset, .unset, .unset, .unset, .unset, .unset, .unset, .unset, .unset, .unset, .unset] rfl ?_
  refine r_aload d0_161 rfl rfl ?_
  refine r_iload d0_163 rfl ?_
  refine r_ldJ (own_tt own_T2 ii) A2 (n32_nn (by omega)) (by rw [n32_clamp (by omega)]; exact own_gt (show ii < 10 by omega)) d0_165 ?_
  refine r_aload d0_166 rfl rfl ?_
  refine r_iload d0_168 rfl ?_
  refine r_ldJ (own_tt own_T5 jj) A5 (n32_nn (by omega)) (by rw [n32_clamp (by omega)]; exact own_gt (show jj < 10 by omega)) d0_170 ?_
  refine r_lmul d0_171 ?_
  refine r_lstore d0_172 [.val (.long p1), .second, .val (.int p2), .val (.int p3), .val (.long p4), .second, .val (.long p5), .second, .val (.long p6), .second, .val (.ref b2), .val (.ref b70), .val (.int ii.toInt32), .val (.int jj.toInt32), .val (.long (p1 &&& (8388607 : Int64))), .second, .val (.long ((own_tt own_T2 ii) * (own_tt own_T5 jj))), .second, .unset, .unset, .unset, .unset, .unset, .unset, .unset, .unset, .unset, .unset, .unset] rfl ?_
  refine r_lload d0_174 rfl ?_
  refine r_aload d0_176 rfl rfl ?_
  refine r_bipush (9 : Int32) rfl d0_178 ?_
  refine r_iload d0_180 rfl ?_
  refine r_isub d0_182 ?_
  rw [show (9 : Int32) - ii.toInt32 = (9 - ii).toInt32 from n32_sub (a := 9) (by omega)]
  refine r_ldJ (own_tt own_T2 (9 - ii)) A2 (n32_nn (by omega)) (by rw [n32_clamp (by omega)]; exact own_gt (show (9 - ii) < 10 by omega)) d0_183 ?_
  refine r_aload d0_184 rfl rfl ?_
  refine r_bipush (9 : Int32) rfl d0_186 ?_
  refine r_iload d0_188 rfl ?_
  refine r_isub d0_190 ?_
  rw [show (9 : Int32) - jj.toInt32 = (9 - jj).toInt32 from n32_sub (a := 9) (by omega)]
  refine r_ldJ (own_tt own_T5 (9 - jj)) A5 (n32_nn (by omega)) (by rw [n32_clamp (by omega)]; exact own_gt (show (9 - jj) < 10 by omega)) d0_191 ?_
  refine r_lmul d0_192 ?_
  refine r_lmul d0_193 ?_
  refine r_lstore d0_194 [.val (.long p1), .second, .val (.int p2), .val (.int p3), .val (.long p4), .second, .val (.long p5), .second, .val (.long p6), .second, .val (.ref b2), .val (.ref b70), .val (.int ii.toInt32), .val (.int jj.toInt32), .val (.long (p1 &&& (8388607 : Int64))), .second, .val (.long ((own_tt own_T2 ii) * (own_tt own_T5 jj))), .second, .val (.long ((p1 &&& (8388607 : Int64)) * ((own_tt own_T2 (9 - ii)) * (own_tt own_T5 (9 - jj))))), .second, .unset, .unset, .unset, .unset, .unset, .unset, .unset, .unset, .unset] rfl ?_
  refine r_new (hw _ (List.mem_of_getElem? (i := 21) rfl)) (hw _ (List.mem_of_getElem? (i := 22) rfl)) (hw _ (List.mem_of_getElem? (i := 23) rfl)) d0_196 (by decide) (by decide) ?_
  rintro hn196 ⟨E196, A196, D196⟩
  obtain ⟨b196, g196⟩ : ∃ z, z = h133.size := ⟨_, rfl⟩
  rw [← g196] at A196 ⊢
  simp only [← g196] at D196
  have F196_answers : Fld Z hn196 b196 "com/example/moor/moor/benchmarks/HttpLoad$Result" "answers" "J" (.long (0 : Int64)) := D196 (Or.inr (hw _ (List.mem_of_getElem? (i := 36) rfl))) (ty := .long) (by decide)
  have F196_nanos : Fld Z hn196 b196 "com/example/moor/moor/benchmarks/HttpLoad$Result" "nanos" "J" (.long (0 : Int64)) := D196 (Or.inr (hw _ (List.mem_of_getElem? (i := 38) rfl))) (ty := .long) (by decide)
  have F196_p99Nanos : Fld Z hn196 b196 "com/example/moor/moor/benchmarks/HttpLoad$Result" "p99Nanos" "J" (.long (0 : Int64)) := D196 (Or.inr (hw _ (List.mem_of_getElem? (i := 40) rfl))) (ty := .long) (by decide)
  show ORun _ _ _ _ _ _ _ _ _ _ hn196 3 23 199 [.val (.long p1), .second, .val (.int p2), .val (.int p3), .val (.long p4), .second, .val (.long p5), .second, .val (.long p6), .second, .val (.ref b2), .val (.ref b70), .val (.int ii.toInt32), .val (.int jj.toInt32), .val (.long (p1 &&& (8388607 : Int64))), .second, .val (.long ((own_tt own_T2 ii) * (own_tt own_T5 jj))), .second, .val (.long ((p1 &&& (8388607 : Int64)) * ((own_tt own_T2 (9 - ii)) * (own_tt own_T5 (9 - jj))))), .second, .unset, .unset, .unset, .unset, .unset, .unset, .unset, .unset, .unset] [(.ref b196)]
  refine r_dup d0_199 rfl ?_
  refine r_lload d0_200 rfl ?_
  refine r_lload d0_202 rfl ?_
  refine r_lload d0_204 rfl ?_
  have ge196 : n0 ≤ b196 := by rw [g196]; exact Nat.le_trans ge2 (Nat.le_of_lt A2.lt)
  refine r_special [(.long (p1 &&& (8388607 : Int64))), (.long ((own_tt own_T2 ii) * (own_tt own_T5 jj))), (.long p6)] [(.ref b196)] b196 rfl pd0_0 rfl rfl (hw _ (List.mem_of_getElem? (i := 24) rfl)) (hw _ (List.mem_of_getElem? (i := 25) rfl)) (hw _ (List.mem_of_getElem? (i := 23) rfl)) (hw _ (List.mem_of_getElem? (i := 26) rfl)) (by decide) (R' := ({ frames := 2, cells := 0, slots := 0, locals := 24 } : Room)) (ct1 hw b196 (p1 &&& (8388607 : Int64)) ((own_tt own_T2 ii) * (own_tt own_T5 jj)) p6 A196 F196_answers F196_nanos F196_p99Nanos ge196) d0_206 rfl (by decide) 1 rfl (by decide) (by decide) (by decide) ?_
  rintro _ h206 ⟨rfl, K206, X206, FA206, FN206, FP206⟩
  show ORun _ _ _ _ _ _ _ _ _ _ h206 3 23 209 [.val (.long p1), .second, .val (.int p2), .val (.int p3), .val (.long p4), .second, .val (.long p5), .second, .val (.long p6), .second, .val (.ref b2), .val (.ref b70), .val (.int ii.toInt32), .val (.int jj.toInt32), .val (.long (p1 &&& (8388607 : Int64))), .second, .val (.long ((own_tt own_T2 ii) * (own_tt own_T5 jj))), .second, .val (.long ((p1 &&& (8388607 : Int64)) * ((own_tt own_T2 (9 - ii)) * (own_tt own_T5 (9 - jj))))), .second, .unset, .unset, .unset, .unset, .unset, .unset, .unset, .unset, .unset] [(.ref b196)]
  refine r_astore d0_209 rfl [.val (.long p1), .second, .val (.int p2), .val (.int p3), .val (.long p4), .second, .val (.long p5), .second, .val (.long p6), .second, .val (.ref b2), .val (.ref b70), .val (.int ii.toInt32), .val (.int jj.toInt32), .val (.long (p1 &&& (8388607 : Int64))), .second, .val (.long ((own_tt own_T2 ii) * (own_tt own_T5 jj))), .second, .val (.long ((p1 &&& (8388607 : Int64)) * ((own_tt own_T2 (9 - ii)) * (own_tt own_T5 (9 - jj))))), .second, .val (.ref b196), .unset, .unset, .unset, .unset, .unset, .unset, .unset, .unset] rfl ?_
  refine r_aload d0_211 rfl rfl ?_
  refine r_virtualP [] [] b196 X206 rfl pd0_1 rfl (hw _ (List.mem_of_getElem? (i := 41) rfl)) (hw _ (List.mem_of_getElem? (i := 42) rfl)) (hw _ (List.mem_of_getElem? (i := 44) rfl)) (hw _ (List.mem_of_getElem? (i := 43) rfl)) (hw _ (List.mem_of_getElem? (i := 23) rfl)) (hw _ (List.mem_of_getElem? (i := 45) rfl)) rfl (by decide) (w := (.double (FP.ddiv (FP.dmul (FP.l2d (p1 &&& (8388607 : Int64))) 4741671816366391296) (FP.l2d ((own_tt own_T2 ii) * (own_tt own_T5 jj)))))) (R' := ({ frames := 0, cells := 0, slots := 0, locals := 0 } : Room)) (ct4 hw b196 _ _ FA206 FN206 (own_nz l_ii l_jj)) d0_213 rfl (by decide) 0 rfl (by decide) rfl rfl (by decide) (by decide) ?_
  refine r_lload d0_216 rfl ?_
  refine r_l2d d0_218 ?_
  refine r_dcmp (0 : Int32) (own_first p1 l_ii l_jj _) d0_219 ?_
  refine r_if_ne d0_220 (fun hc220 => ?_) (fun hc220 => ?_)
  · exfalso; exact hc220 rfl
  · refine r_iconst (1 : Int32) rfl d0_223 ?_
    refine r_goto d0_224 ?_
    refine r_istore d0_228 [.val (.long p1), .second, .val (.int p2), .val (.int p3), .val (.long p4), .second, .val (.long p5), .second, .val (.long p6), .second, .val (.ref b2), .val (.ref b70), .val (.int ii.toInt32), .val (.int jj.toInt32), .val (.long (p1 &&& (8388607 : Int64))), .second, .val (.long ((own_tt own_T2 ii) * (own_tt own_T5 jj))), .second, .val (.long ((p1 &&& (8388607 : Int64)) * ((own_tt own_T2 (9 - ii)) * (own_tt own_T5 (9 - jj))))), .second, .val (.ref b196), .val (.int (1 : Int32)), .unset, .unset, .unset, .unset, .unset, .unset, .unset] rfl ?_
    refine r_lload d0_230 rfl ?_
    refine r_ldc2 (v := (9223372036854775807 : Int64)) (hw _ (List.mem_of_getElem? (i := 47) rfl)) d0_232 ?_
    refine r_land d0_235 ?_
    refine r_lstore d0_236 [.val (.long p1), .second, .val (.int p2), .val (.int p3), .val (.long p4), .second, .val (.long p5), .second, .val (.long p6), .second, .val (.ref b2), .val (.ref b70), .val (.int ii.toInt32), .val (.int jj.toInt32), .val (.long (p1 &&& (8388607 : Int64))), .second, .val (.long ((own_tt own_T2 ii) * (own_tt own_T5 jj))), .second, .val (.long ((p1 &&& (8388607 : Int64)) * ((own_tt own_T2 (9 - ii)) * (own_tt own_T5 (9 - jj))))), .second, .val (.ref b196), .val (.int (1 : Int32)), .val (.long (p4 &&& (9223372036854775807 : Int64))), .second, .unset, .unset, .unset, .unset, .unset] rfl ?_
    refine r_lconst (1 : Int64) rfl d0_238 ?_
    refine r_lload d0_239 rfl ?_
    refine r_ldc2 (v := (9223372036854775807 : Int64)) (hw _ (List.mem_of_getElem? (i := 47) rfl)) d0_241 ?_
    refine r_land d0_244 ?_
    refine r_staticP [(.long (1 : Int64)), (.long (p5 &&& (9223372036854775807 : Int64)))] [] rfl pd0_2 rfl (hw _ (List.mem_of_getElem? (i := 48) rfl)) (hw _ (List.mem_of_getElem? (i := 49) rfl)) (hw _ (List.mem_of_getElem? (i := 50) rfl)) (hw _ (List.mem_of_getElem? (i := 51) rfl)) (by decide) (w := (.long (own_mx (1 : Int64) (p5 &&& (9223372036854775807 : Int64))))) (R' := ({ frames := 0, cells := 0, slots := 0, locals := 0 } : Room)) (ct5 hw (1 : Int64) (p5 &&& (9223372036854775807 : Int64))) d0_245 rfl (by decide) 0 rfl (by decide) rfl rfl (by decide) (by decide) ?_
    refine r_lstore d0_248 [.val (.long p1), .second, .val (.int p2), .val (.int p3), .val (.long p4), .second, .val (.long p5), .second, .val (.long p6), .second, .val (.ref b2), .val (.ref b70), .val (.int ii.toInt32), .val (.int jj.toInt32), .val (.long (p1 &&& (8388607 : Int64))), .second, .val (.long ((own_tt own_T2 ii) * (own_tt own_T5 jj))), .second, .val (.long ((p1 &&& (8388607 : Int64)) * ((own_tt own_T2 (9 - ii)) * (own_tt own_T5 (9 - jj))))), .second, .val (.ref b196), .val (.int (1 : Int32)), .val (.long (p4 &&& (9223372036854775807 : Int64))), .second, .val (.long (own_mx (1 : Int64) (p5 &&& (9223372036854775807 : Int64)))), .second, .unset, .unset, .unset] rfl ?_
    refine r_new (hw _ (List.mem_of_getElem? (i := 21) rfl)) (hw _ (List.mem_of_getElem? (i := 22) rfl)) (hw _ (List.mem_of_getElem? (i := 23) rfl)) d0_250 (by decide) (by decide) ?_
    rintro hn250 ⟨E250, A250, D250⟩
    obtain ⟨b250, g250⟩ : ∃ z, z = h206.size := ⟨_, rfl⟩
    rw [← g250] at A250 ⊢
    simp only [← g250] at D250
    have F250_answers : Fld Z hn250 b250 "com/example/moor/moor/benchmarks/HttpLoad$Result" "answers" "J" (.long (0 : Int64)) := D250 (Or.inr (hw _ (List.mem_of_getElem? (i := 36) rfl))) (ty := .long) (by decide)
    have F250_nanos : Fld Z hn250 b250 "com/example/moor/moor/benchmarks/HttpLoad$Result" "nanos" "J" (.long (0 : Int64)) := D250 (Or.inr (hw _ (List.mem_of_getElem? (i := 38) rfl))) (ty := .long) (by decide)
    have F250_p99Nanos : Fld Z hn250 b250 "com/example/moor/moor/benchmarks/HttpLoad$Result" "p99Nanos" "J" (.long (0 : Int64)) := D250 (Or.inr (hw _ (List.mem_of_getElem? (i := 40) rfl))) (ty := .long) (by decide)
    show ORun _ _ _ _ _ _ _ _ _ _ hn250 4 26 253 [.val (.long p1), .second, .val (.int p2), .val (.int p3), .val (.long p4), .second, .val (.long p5), .second, .val (.long p6), .second, .val (.ref b2), .val (.ref b70), .val (.int ii.toInt32), .val (.int jj.toInt32), .val (.long (p1 &&& (8388607 : Int64))), .second, .val (.long ((own_tt own_T2 ii) * (own_tt own_T5 jj))), .second, .val (.long ((p1 &&& (8388607 : Int64)) * ((own_tt own_T2 (9 - ii)) * (own_tt own_T5 (9 - jj))))), .second, .val (.ref b196), .val (.int (1 : Int32)), .val (.long (p4 &&& (9223372036854775807 : Int64))), .second, .val (.long (own_mx (1 : Int64) (p5 &&& (9223372036854775807 : Int64)))), .second, .unset, .unset, .unset] [(.ref b250)]
    refine r_dup d0_253 rfl ?_
    refine r_lload d0_254 rfl ?_
    refine r_lload d0_256 rfl ?_
    refine r_lload d0_258 rfl ?_
    have ge250 : n0 ≤ b250 := by rw [g250]; exact Nat.le_trans ge196 (Nat.le_of_lt (own_xlt X206))
    refine r_special [(.long (p4 &&& (9223372036854775807 : Int64))), (.long (own_mx (1 : Int64) (p5 &&& (9223372036854775807 : Int64)))), (.long p6)] [(.ref b250)] b250 rfl pd0_0 rfl rfl (hw _ (List.mem_of_getElem? (i := 24) rfl)) (hw _ (List.mem_of_getElem? (i := 25) rfl)) (hw _ (List.mem_of_getElem? (i := 23) rfl)) (hw _ (List.mem_of_getElem? (i := 26) rfl)) (by decide) (R' := ({ frames := 2, cells := 0, slots := 0, locals := 24 } : Room)) (ct1 hw b250 (p4 &&& (9223372036854775807 : Int64)) (own_mx (1 : Int64) (p5 &&& (9223372036854775807 : Int64))) p6 A250 F250_answers F250_nanos F250_p99Nanos ge250) d0_260 rfl (by decide) 1 rfl (by decide) (by decide) (by decide) ?_
    rintro _ h260 ⟨rfl, K260, X260, FA260, FN260, FP260⟩
    show ORun _ _ _ _ _ _ _ _ _ _ h260 4 26 263 [.val (.long p1), .second, .val (.int p2), .val (.int p3), .val (.long p4), .second, .val (.long p5), .second, .val (.long p6), .second, .val (.ref b2), .val (.ref b70), .val (.int ii.toInt32), .val (.int jj.toInt32), .val (.long (p1 &&& (8388607 : Int64))), .second, .val (.long ((own_tt own_T2 ii) * (own_tt own_T5 jj))), .second, .val (.long ((p1 &&& (8388607 : Int64)) * ((own_tt own_T2 (9 - ii)) * (own_tt own_T5 (9 - jj))))), .second, .val (.ref b196), .val (.int (1 : Int32)), .val (.long (p4 &&& (9223372036854775807 : Int64))), .second, .val (.long (own_mx (1 : Int64) (p5 &&& (9223372036854775807 : Int64)))), .second, .unset, .unset, .unset] [(.ref b250)]
    refine r_virtualP [] [] b250 X260 rfl pd0_1 rfl (hw _ (List.mem_of_getElem? (i := 41) rfl)) (hw _ (List.mem_of_getElem? (i := 42) rfl)) (hw _ (List.mem_of_getElem? (i := 44) rfl)) (hw _ (List.mem_of_getElem? (i := 43) rfl)) (hw _ (List.mem_of_getElem? (i := 23) rfl)) (hw _ (List.mem_of_getElem? (i := 45) rfl)) rfl (by decide) (w := (.double (FP.ddiv (FP.dmul (FP.l2d (p4 &&& (9223372036854775807 : Int64))) 4741671816366391296) (FP.l2d (own_mx (1 : Int64) (p5 &&& (9223372036854775807 : Int64))))))) (R' := ({ frames := 0, cells := 0, slots := 0, locals := 0 } : Room)) (ct4 hw b250 _ _ FA260 FN260 (own_mxn _)) d0_263 rfl (by decide) 0 rfl (by decide) rfl rfl (by decide) (by decide) ?_
    by_cases hb : (p4 &&& (9223372036854775807 : Int64)) = 0
    · refine r_dstore [.val (.long p1), .second, .val (.int p2), .val (.int p3), .val (.long p4), .second, .val (.long p5), .second, .val (.long p6), .second, .val (.ref b2), .val (.ref b70), .val (.int ii.toInt32), .val (.int jj.toInt32), .val (.long (p1 &&& (8388607 : Int64))), .second, .val (.long ((own_tt own_T2 ii) * (own_tt own_T5 jj))), .second, .val (.long ((p1 &&& (8388607 : Int64)) * ((own_tt own_T2 (9 - ii)) * (own_tt own_T5 (9 - jj))))), .second, .val (.ref b196), .val (.int (1 : Int32)), .val (.long (p4 &&& (9223372036854775807 : Int64))), .second, .val (.long (own_mx (1 : Int64) (p5 &&& (9223372036854775807 : Int64)))), .second, .val (.double (FP.ddiv (FP.dmul (FP.l2d (p4 &&& (9223372036854775807 : Int64))) 4741671816366391296) (FP.l2d (own_mx (1 : Int64) (p5 &&& (9223372036854775807 : Int64)))))), .second, .unset] rfl d0_266 ?_
      refine r_dload rfl d0_268 ?_
      refine r_dconst0 0 (by decide +kernel) d0_270 ?_
      refine r_dcmp (0 : Int32) (by rw [hb, own_zer (own_mxp _)]; rfl) d0_271 ?_
      refine r_if_lt d0_272 (fun hc272 => ?_) (fun hc272 => ?_)
      · exfalso; exact absurd hc272 (by decide)
      · refine r_dload rfl d0_275 ?_
        refine r_dconst0 0 (by decide +kernel) d0_277 ?_
        refine r_dcmp (0 : Int32) (by rw [hb, own_zer (own_mxp _)]; rfl) d0_278 ?_
        refine r_if_ne d0_279 (fun hc279 => ?_) (fun hc279 => ?_)
        · exfalso; exact hc279 rfl
        · refine r_iconst (1 : Int32) rfl d0_282 ?_
          refine r_goto d0_283 ?_
          refine r_lload d0_287 rfl ?_
          refine r_lconst (0 : Int64) rfl d0_289 ?_
          refine r_lcmp d0_290 ?_
          refine r_if_ne d0_291 (fun hc291 => ?_) (fun hc291 => ?_)
          · exfalso; exact hc291 ((lw_eq _ _).mpr hb)
          · refine r_iconst (1 : Int32) rfl d0_294 ?_
            refine r_goto d0_295 ?_
            refine r_icmp_ne d0_299 (fun hc299 => ?_) (fun hc299 => ?_)
            · exfalso; exact hc299 rfl
            · refine r_iconst (1 : Int32) rfl d0_302 ?_
              refine r_goto d0_303 ?_
              refine r_istore d0_307 [.val (.long p1), .second, .val (.int p2), .val (.int p3), .val (.long p4), .second, .val (.long p5), .second, .val (.long p6), .second, .val (.ref b2), .val (.ref b70), .val (.int ii.toInt32), .val (.int jj.toInt32), .val (.long (p1 &&& (8388607 : Int64))), .second, .val (.long ((own_tt own_T2 ii) * (own_tt own_T5 jj))), .second, .val (.long ((p1 &&& (8388607 : Int64)) * ((own_tt own_T2 (9 - ii)) * (own_tt own_T5 (9 - jj))))), .second, .val (.ref b196), .val (.int (1 : Int32)), .val (.long (p4 &&& (9223372036854775807 : Int64))), .second, .val (.long (own_mx (1 : Int64) (p5 &&& (9223372036854775807 : Int64)))), .second, .val (.double (FP.ddiv (FP.dmul (FP.l2d (p4 &&& (9223372036854775807 : Int64))) 4741671816366391296) (FP.l2d (own_mx (1 : Int64) (p5 &&& (9223372036854775807 : Int64)))))), .second, .val (.int (1 : Int32))] rfl ?_
              refine r_iload d0_309 rfl ?_
              refine r_if_eq d0_311 (fun hc311 => ?_) (fun hc311 => ?_)
              · exfalso; exact absurd hc311 (by decide)
              · refine r_iload d0_314 rfl ?_
                refine r_if_eq d0_316 (fun hc316 => ?_) (fun hc316 => ?_)
                · exfalso; exact absurd hc316 (by decide)
                · refine r_iconst (1 : Int32) rfl d0_319 ?_
                  refine r_goto d0_320 ?_
                  exact r_nret (t := .boolean) (by simp) d0_324 (by decide) (by decide) (rfl)
    · refine r_dstore [.val (.long p1), .second, .val (.int p2), .val (.int p3), .val (.long p4), .second, .val (.long p5), .second, .val (.long p6), .second, .val (.ref b2), .val (.ref b70), .val (.int ii.toInt32), .val (.int jj.toInt32), .val (.long (p1 &&& (8388607 : Int64))), .second, .val (.long ((own_tt own_T2 ii) * (own_tt own_T5 jj))), .second, .val (.long ((p1 &&& (8388607 : Int64)) * ((own_tt own_T2 (9 - ii)) * (own_tt own_T5 (9 - jj))))), .second, .val (.ref b196), .val (.int (1 : Int32)), .val (.long (p4 &&& (9223372036854775807 : Int64))), .second, .val (.long (own_mx (1 : Int64) (p5 &&& (9223372036854775807 : Int64)))), .second, .val (.double (FP.ddiv (FP.dmul (FP.l2d (p4 &&& (9223372036854775807 : Int64))) 4741671816366391296) (FP.l2d (own_mx (1 : Int64) (p5 &&& (9223372036854775807 : Int64)))))), .second, .unset] rfl d0_266 ?_
      refine r_dload rfl d0_268 ?_
      refine r_dconst0 0 (by decide +kernel) d0_270 ?_
      refine r_dcmp (1 : Int32) (by rw [own_pos (own_big p4 hb) (own_mxp _)]; rfl) d0_271 ?_
      refine r_if_lt d0_272 (fun hc272 => ?_) (fun hc272 => ?_)
      · exfalso; exact absurd hc272 (by decide)
      · refine r_dload rfl d0_275 ?_
        refine r_dconst0 0 (by decide +kernel) d0_277 ?_
        refine r_dcmp (1 : Int32) (by rw [own_pos (own_big p4 hb) (own_mxp _)]; rfl) d0_278 ?_
        refine r_if_ne d0_279 (fun hc279 => ?_) (fun hc279 => ?_)
        · refine r_iconst (0 : Int32) rfl d0_286 ?_
          refine r_lload d0_287 rfl ?_
          refine r_lconst (0 : Int64) rfl d0_289 ?_
          refine r_lcmp d0_290 ?_
          refine r_if_ne d0_291 (fun hc291 => ?_) (fun hc291 => ?_)
          · refine r_iconst (0 : Int32) rfl d0_298 ?_
            refine r_icmp_ne d0_299 (fun hc299 => ?_) (fun hc299 => ?_)
            · exfalso; exact hc299 rfl
            · refine r_iconst (1 : Int32) rfl d0_302 ?_
              refine r_goto d0_303 ?_
              refine r_istore d0_307 [.val (.long p1), .second, .val (.int p2), .val (.int p3), .val (.long p4), .second, .val (.long p5), .second, .val (.long p6), .second, .val (.ref b2), .val (.ref b70), .val (.int ii.toInt32), .val (.int jj.toInt32), .val (.long (p1 &&& (8388607 : Int64))), .second, .val (.long ((own_tt own_T2 ii) * (own_tt own_T5 jj))), .second, .val (.long ((p1 &&& (8388607 : Int64)) * ((own_tt own_T2 (9 - ii)) * (own_tt own_T5 (9 - jj))))), .second, .val (.ref b196), .val (.int (1 : Int32)), .val (.long (p4 &&& (9223372036854775807 : Int64))), .second, .val (.long (own_mx (1 : Int64) (p5 &&& (9223372036854775807 : Int64)))), .second, .val (.double (FP.ddiv (FP.dmul (FP.l2d (p4 &&& (9223372036854775807 : Int64))) 4741671816366391296) (FP.l2d (own_mx (1 : Int64) (p5 &&& (9223372036854775807 : Int64)))))), .second, .val (.int (1 : Int32))] rfl ?_
              refine r_iload d0_309 rfl ?_
              refine r_if_eq d0_311 (fun hc311 => ?_) (fun hc311 => ?_)
              · exfalso; exact absurd hc311 (by decide)
              · refine r_iload d0_314 rfl ?_
                refine r_if_eq d0_316 (fun hc316 => ?_) (fun hc316 => ?_)
                · exfalso; exact absurd hc316 (by decide)
                · refine r_iconst (1 : Int32) rfl d0_319 ?_
                  refine r_goto d0_320 ?_
                  exact r_nret (t := .boolean) (by simp) d0_324 (by decide) (by decide) (rfl)
          · exfalso; exact hb ((lw_eq _ _).mp hc291)
        · exfalso; exact absurd hc279 (by decide)
set_option maxRecDepth 65536 in
set_option maxHeartbeats 40000000 in
theorem comes_1 {Post : Tables → Env → Array Value → State → Outcome → State → Prop} (hpost : ∀ tb e args s v u, (limb_1_1.after args s (.returned v) u = true ∧ limb_1_2.after args s (.returned v) u = true ∧ True) → FrameEnd s (.returned v) u (Jvm.fieldLocs frame_1_writes args s ++ Jvm.arrayLocs frame_1_arrays args s ++ Jvm.staticLocs frame_1_statics s) 16 128 → Post tb e args s (.returned v) u) :
    ArmFor flags0 classFile x code maxLocals ret World_1 tables_1 room_1 Calls_1 rest_1 Pre_1 Post := by
  intro l hfl _ _ p e ha hc hk s m args below hf hA hF happ hP
  obtain ⟨hcalls, hrest, hpre⟩ := hP
  obtain ⟨-, -, -, hnamed, -, -, -, hat⟩ := (Spec.applies_iff hf).mp happ
  obtain ⟨hg, hn⟩ := and_e (Cond.before_iff.mp (show (Jvm.Cond.and given_1 narrow_1).before args s = true from hpre))
  obtain ⟨g1, g2⟩ := and_e hg
  obtain ⟨g3, g4⟩ := and_e g2
  obtain ⟨g5, g6⟩ := and_e g4
  obtain ⟨g7, g8⟩ := and_e g6
  obtain ⟨g9, g10⟩ := and_e g8
  obtain ⟨g11, g12⟩ := and_e g10
  obtain ⟨w0, w1, w2, w3, w4, w5, rfl⟩ : ∃ w0 w1 w2 w3 w4 w5 : Value, args = #[w0, w1, w2, w3, w4, w5] := by
    have hs : args.size = 6 := by simpa [Cond.value, given_1] using g1
    obtain ⟨L⟩ := args
    match L, hs with
    | [w0, w1, w2, w3, w4, w5], _ => exact ⟨w0, w1, w2, w3, w4, w5, rfl⟩
  have hw := fun d (hd : d ∈ tables_1) => atoms_spec (ws := Jvm.Cond.code x code maxLocals ret :: tables_1) hat d (List.mem_cons_of_mem _ hd)
  have hfit : Fit s := fun {y c} hc i hi => by
    obtain ⟨ha, rfl⟩ := Array.getElem?_eq_some_iff.mp hc
    have q := List.all_eq_true.mp ((Array.all_eq_true_iff_forall_mem.mp hF) _ (Array.getElem_mem ha)) i (List.mem_range.mpr hi)
    simpa [Array.getElem?_eq_getElem hi] using q
  obtain ⟨i0, ei0⟩ := isL_v g3
  obtain rfl : w0 = (.long i0) := Option.some.inj ei0
  obtain ⟨i1, ei1⟩ := is_v g5
  obtain rfl : w1 = (.int i1) := Option.some.inj ei1
  obtain ⟨i2, ei2⟩ := is_v g7
  obtain rfl : w2 = (.int i2) := Option.some.inj ei2
  obtain ⟨i3, ei3⟩ := isL_v g9
  obtain rfl : w3 = (.long i3) := Option.some.inj ei3
  obtain ⟨i4, ei4⟩ := isL_v g11
  obtain rfl : w4 = (.long i4) := Option.some.inj ei4
  obtain ⟨i5, ei5⟩ := isL_v g12
  obtain rfl : w5 = (.long i5) := Option.some.inj ei5
  obtain ⟨n, o, h1, h2, h3, _, L, rfl, ⟨rfl, N⟩, hq⟩ := ct0 (n0 := s.heap.size) hw (Nat.le_refl _) i0 i1 i2 i3 i4 i5 p e ha hc hk s m _ below hf ((Spec.applies_iff_loose hf).mp happ).1 ⟨rfl, State.Warmed39.refl s, rfl⟩ trivial
  exact ⟨n, _, h1, h2, h3, hpost _ _ _ _ _ _ ⟨Cond.after_iff.mpr rfl, Cond.after_iff.mpr (eq_i res_at (Term.int_eval (1)) rfl), trivial⟩ ⟨hq.1, hq.2.1, (hq.2.2.sift fun y hy => Or.inr (N y hy)).mono (by decide) (by decide)⟩⟩
theorem main_1_1 : Claimed_1_1 := comes_1 fun _ _ _ _ _ _ h hF => ⟨h.1, hF⟩
theorem main_1_2 : Claimed_1_2 := comes_1 fun _ _ _ _ _ _ h hF => ⟨h.2.1, hF⟩
end Jvm.Pilot.@@N@@
namespace Jvm.Pilot.@@N@@
open Jvm Jvm.ClassFile Sem Op Lib Jvm.Free Jvm.Stand Jvm.Pilot.@@N@@.Jvm.D
/-! MADE BY PROGRAM (witnessworld.py) out of the Statement's table words and the real class files: 13 classes; the members and pool entries that the words name. The judged class is class 1, her method 1. -/
namespace start1
open Jvm.ClassFile
def u (s : String) : CpInfo := .utf8 (stringToUtf16 s)
/-- a pool by its gaps: so many unusable entries, then the entry; so many at the end -/
def gap : Nat → List CpInfo → List CpInfo
  | 0, r => r
  | n + 1, r => .unusable :: gap n r
def poolList (es : List (Nat × CpInfo)) (last : Nat) : List CpInfo := es.foldr (fun e r => gap e.1 (e.2 :: r)) (gap last [])
def pool (es : List (Nat × CpInfo)) (last : Nat) : Array CpInfo := ⟨poolList es last⟩
def fileOf (pool : Array CpInfo) (this : Nat) (attrs : Array Attribute := #[]) (ms : Array MethodInfo := #[]) (fl : Nat := 33) (sup : Nat := 0) (ifs : Array Nat := #[]) (fds : Array FieldInfo := #[]) : ClassFile where
  minorVersion := 0
  majorVersion := 65
  constantPool := pool
  accessFlags := fl
  thisClass := this
  superClass := sup
  interfaces := ifs
  fields := fds
  methods := ms
  attributes := attrs
def plain (name : String) (sup : Option ClassId) : Class where
  name := name
  kind := .ordinary
  loader := none
  accessFlags := 33
  super := sup
  interfaces := #[]
  cf := none
  fields := #[]
  methods := #[]
  instanceTypes := #[]
  staticTypes := #[]
  resolved := #[]
  callSites := []
  init := .initialized
  statics := none
  mirror := none

def pool0 : Array CpInfo := pool [(5, u "<init>"), (0, u "()V"), (1, .class_ 10), (1, u "java/lang/Object")] 113

def k0c0 : Code := { maxStack := 0, maxLocals := 1, code := object_method_1_code, exceptionTable := #[], attributes := #[] }
def k0m0 : Method := { name := "<init>", desc := "()V", sig := { parameters := [], returnType := none }, accessFlags := 1, code := some k0c0 }
/-- java/lang/Object -/
def k0 : Class := { plain "java/lang/Object" none with
  accessFlags := 33
  interfaces := #[]
  cf := some (fileOf pool0 8 #[] #[{ accessFlags := 1, nameIndex := 5, descriptorIndex := 6, attributes := #[] }] 33 0 #[] #[])
  fields := #[]
  methods := #[k0m0]
  instanceTypes := #[]
  staticTypes := #[]
  resolved := Array.replicate 124 none
  statics := none }

def pool1 : Array CpInfo := pool [(2, .class_ 4), (1, u "java/lang/Object"), (0, u "<init>"), (0, u "()V"), (0, .long 2), (1, .long 4), (1, .long 8), (1, .long 16), (1, .long 32), (1, .long 64), (1, .long 128), (1, .long 256), (1, .long 512), (1, .long 5), (1, .long 25), (1, .long 125), (1, .long 625), (1, .long 3125), (1, .long 15625), (1, .long 78125), (1, .long 390625), (1, .long 1953125), (1, .integer 2147483647), (0, .long 8388607), (1, .class_ 47), (0, u "com/example/moor/moor/benchmarks/HttpLoad$Result"), (0, .methodref 46 49), (0, .nameAndType 5 50), (0, u "(JJJ)V"), (0, .methodref 46 52), (0, .nameAndType 53 54), (0, u "perSecond"), (0, u "()D"), (2, .long 9223372036854775807), (1, .methodref 60 61), (0, .class_ 62), (0, .nameAndType 63 64), (0, u "java/lang/Math"), (0, u "max"), (0, u "(JJ)J"), (0, .class_ 66), (0, u "com/example/moor/moor/benchmarks/ResultPerSecondPinLaw"), (2, u "law"), (0, u "(JIIJJJ)Z")] 9

def k1m0 : Method := { name := "<init>", desc := "()V", sig := { parameters := [], returnType := none }, accessFlags := 1, code := none }
def k1c1 : Code := { maxStack := 8, maxLocals := 29, code := code, exceptionTable := #[], attributes := #[] }
def k1m1 : Method := { name := "law", desc := "(JIIJJJ)Z", sig := { parameters := [.long, .int, .int, .long, .long, .long], returnType := some .boolean }, accessFlags := 9, code := some k1c1 }
/-- com/example/moor/moor/benchmarks/ResultPerSecondPinLaw -/
def k1 : Class := { plain "com/example/moor/moor/benchmarks/ResultPerSecondPinLaw" (some 0) with
  accessFlags := 49
  interfaces := #[]
  cf := some (fileOf pool1 65 #[] #[{ accessFlags := 1, nameIndex := 5, descriptorIndex := 6, attributes := #[] }, { accessFlags := 9, nameIndex := 69, descriptorIndex := 70, attributes := #[] }] 49 2 #[] #[])
  fields := #[]
  methods := #[k1m0, k1m1]
  instanceTypes := #[]
  staticTypes := #[]
  resolved := Array.replicate 80 none
  statics := none }

def pool2 : Array CpInfo := pool [(1, .methodref 2 3), (0, .class_ 4), (0, .nameAndType 5 6), (0, u "java/lang/Object"), (0, u "<init>"), (0, u "()V"), (0, .class_ 8), (0, u "java/lang/Record")] 13

def k2c0 : Code := { maxStack := 1, maxLocals := 1, code := jdk_30_method_1_code, exceptionTable := #[], attributes := #[] }
def k2m0 : Method := { name := "<init>", desc := "()V", sig := { parameters := [], returnType := none }, accessFlags := 4, code := some k2c0 }
/-- java/lang/Record -/
def k2 : Class := { plain "java/lang/Record" (some 0) with
  accessFlags := 1057
  interfaces := #[]
  cf := some (fileOf pool2 7 #[] #[{ accessFlags := 4, nameIndex := 5, descriptorIndex := 6, attributes := #[] }] 1057 2 #[] #[])
  fields := #[]
  methods := #[k2m0]
  instanceTypes := #[]
  staticTypes := #[]
  resolved := Array.replicate 22 none
  statics := none }

def pool3 : Array CpInfo := pool [(1, .methodref 2 3), (0, .class_ 4), (0, .nameAndType 5 6), (0, u "java/lang/Record"), (0, u "<init>"), (0, u "()V"), (0, .fieldref 8 9), (0, .class_ 10), (0, .nameAndType 11 12), (0, u "com/example/moor/moor/benchmarks/HttpLoad$Result"), (0, u "answers"), (0, u "J"), (0, .fieldref 8 14), (0, .nameAndType 15 12), (0, u "nanos"), (0, .fieldref 8 17), (0, .nameAndType 18 12), (0, u "p99Nanos"), (0, .double 4741671816366391296), (13, u "(JJJ)V"), (3, u "perSecond"), (0, u "()D"), (7, .class_ 47), (0, u "com/example/moor/moor/benchmarks/HttpLoad")] 21

def k3c0 : Code := { maxStack := 3, maxLocals := 7, code := prog_13_method_1_code, exceptionTable := #[], attributes := #[] }
def k3m0 : Method := { name := "<init>", desc := "(JJJ)V", sig := { parameters := [.long, .long, .long], returnType := none }, accessFlags := 0, code := some k3c0 }
def k3c1 : Code := { maxStack := 4, maxLocals := 1, code := prog_13_method_2_code, exceptionTable := #[], attributes := #[] }
def k3m1 : Method := { name := "perSecond", desc := "()D", sig := { parameters := [], returnType := some .double }, accessFlags := 0, code := some k3c1 }
/-- com/example/moor/moor/benchmarks/HttpLoad$Result -/
def k3 : Class := { plain "com/example/moor/moor/benchmarks/HttpLoad$Result" (some 2) with
  accessFlags := 48
  interfaces := #[]
  cf := some (fileOf pool3 8 #[.nestHost 46] #[{ accessFlags := 0, nameIndex := 5, descriptorIndex := 33, attributes := #[] }, { accessFlags := 0, nameIndex := 37, descriptorIndex := 38, attributes := #[] }] 48 2 #[] #[{ accessFlags := 18, nameIndex := 11, descriptorIndex := 12, attributes := #[] }, { accessFlags := 18, nameIndex := 15, descriptorIndex := 12, attributes := #[] }, { accessFlags := 18, nameIndex := 18, descriptorIndex := 12, attributes := #[] }])
  fields := #[{ name := "answers", type := .long, accessFlags := 18, slot := 0, constantValue := 0 }, { name := "nanos", type := .long, accessFlags := 18, slot := 1, constantValue := 0 }, { name := "p99Nanos", type := .long, accessFlags := 18, slot := 2, constantValue := 0 }]
  methods := #[k3m0, k3m1]
  instanceTypes := #[.long, .long, .long]
  staticTypes := #[]
  resolved := Array.replicate 69 none
  statics := none }

def pool4 : Array CpInfo := pool [(1, .class_ 2), (0, u "java/lang/Math"), (1, .class_ 6), (1, u "java/lang/Object"), (0, u "<init>"), (0, u "()V"), (89, .class_ 100), (1, u "java/lang/Math$RandomNumberGeneratorHolder"), (20, u "(JJ)J"), (50, u "negativeZeroFloatBits"), (0, u "J"), (2, u "negativeZeroDoubleBits"), (21, u "max"), (46, u "$assertionsDisabled"), (0, u "Z"), (91, u "twoToTheDoubleScaleDown"), (0, u "D"), (4, u "twoToTheDoubleScaleUp"), (9, u "E"), (3, u "PI"), (2, u "TAU"), (2, u "DEGREES_TO_RADIANS"), (0, u "RADIANS_TO_DEGREES")] 94

def k4m0 : Method := { name := "<init>", desc := "()V", sig := { parameters := [], returnType := none }, accessFlags := 2, code := none }
def k4c1 : Code := { maxStack := 4, maxLocals := 4, code := jdk_29_method_66_code, exceptionTable := #[], attributes := #[] }
def k4m1 : Method := { name := "max", desc := "(JJ)J", sig := { parameters := [.long, .long], returnType := some .long }, accessFlags := 9, code := some k4c1 }
/-- java/lang/Math -/
def k4 : Class := { plain "java/lang/Math" (some 0) with
  accessFlags := 49
  interfaces := #[]
  cf := some (fileOf pool4 1 #[.nestMembers #[98]] #[{ accessFlags := 2, nameIndex := 7, descriptorIndex := 8, attributes := #[] }, { accessFlags := 9, nameIndex := 198, descriptorIndex := 121, attributes := #[] }] 49 4 #[] #[{ accessFlags := 25, nameIndex := 354, descriptorIndex := 339, attributes := #[] }, { accessFlags := 25, nameIndex := 358, descriptorIndex := 339, attributes := #[] }, { accessFlags := 25, nameIndex := 361, descriptorIndex := 339, attributes := #[] }, { accessFlags := 26, nameIndex := 364, descriptorIndex := 339, attributes := #[] }, { accessFlags := 26, nameIndex := 365, descriptorIndex := 339, attributes := #[] }, { accessFlags := 26, nameIndex := 172, descriptorIndex := 173, attributes := #[] }, { accessFlags := 26, nameIndex := 176, descriptorIndex := 173, attributes := #[] }, { accessFlags := 8, nameIndex := 344, descriptorIndex := 339, attributes := #[] }, { accessFlags := 8, nameIndex := 338, descriptorIndex := 339, attributes := #[] }, { accessFlags := 4120, nameIndex := 245, descriptorIndex := 246, attributes := #[] }])
  fields := #[{ name := "E", type := .double, accessFlags := 25, slot := 0, constantValue := 0 }, { name := "PI", type := .double, accessFlags := 25, slot := 1, constantValue := 0 }, { name := "TAU", type := .double, accessFlags := 25, slot := 2, constantValue := 0 }, { name := "DEGREES_TO_RADIANS", type := .double, accessFlags := 26, slot := 3, constantValue := 0 }, { name := "RADIANS_TO_DEGREES", type := .double, accessFlags := 26, slot := 4, constantValue := 0 }, { name := "negativeZeroFloatBits", type := .long, accessFlags := 26, slot := 5, constantValue := 0 }, { name := "negativeZeroDoubleBits", type := .long, accessFlags := 26, slot := 6, constantValue := 0 }, { name := "twoToTheDoubleScaleUp", type := .double, accessFlags := 8, slot := 7, constantValue := 0 }, { name := "twoToTheDoubleScaleDown", type := .double, accessFlags := 8, slot := 8, constantValue := 0 }, { name := "$assertionsDisabled", type := .boolean, accessFlags := 4120, slot := 9, constantValue := 0 }]
  methods := #[k4m0, k4m1]
  instanceTypes := #[]
  staticTypes := #[.double, .double, .double, .double, .double, .long, .long, .double, .double, .boolean]
  resolved := Array.replicate 460 none
  statics := none }

def pool5 : Array CpInfo := pool [(1, u "java/lang/Cloneable"), (0, .class_ 1), (0, u "java/lang/Object"), (0, .class_ 3)] 3

/-- java/lang/Cloneable -/
def k5 : Class := { plain "java/lang/Cloneable" (some 0) with
  accessFlags := 1537
  interfaces := #[]
  cf := some (fileOf pool5 2 #[] #[] 1537 4 #[] #[])
  fields := #[]
  methods := #[]
  instanceTypes := #[]
  staticTypes := #[]
  resolved := Array.replicate 8 none
  statics := none }

def pool6 : Array CpInfo := pool [(1, u "java/io/Serializable"), (0, .class_ 1), (0, u "java/lang/Object"), (0, .class_ 3)] 3

/-- java/io/Serializable -/
def k6 : Class := { plain "java/io/Serializable" (some 0) with
  accessFlags := 1537
  interfaces := #[]
  cf := some (fileOf pool6 2 #[] #[] 1537 4 #[] #[])
  fields := #[]
  methods := #[]
  instanceTypes := #[]
  staticTypes := #[]
  resolved := Array.replicate 8 none
  statics := none }

/-- the primitive byte -/
def k7 : Class := { plain "byte" none with kind := .primitive 'B', accessFlags := 0x411 }
/-- [B -/
def k8 : Class := { plain "[B" (some 0) with kind := .array 7 .byte, interfaces := #[5, 6], accessFlags := 1041 }

/-- the primitive int -/
def k9 : Class := { plain "int" none with kind := .primitive 'I', accessFlags := 0x411 }
/-- [I -/
def k10 : Class := { plain "[I" (some 0) with kind := .array 9 .int, interfaces := #[5, 6], accessFlags := 1041 }

/-- the primitive long -/
def k11 : Class := { plain "long" none with kind := .primitive 'J', accessFlags := 0x411 }
/-- [J -/
def k12 : Class := { plain "[J" (some 0) with kind := .array 11 .long, interfaces := #[5, 6], accessFlags := 1041 }

def heap : Heap := #[]
def classes : Array Class := #[k0, k1, k2, k3, k4, k5, k6, k7, k8, k9, k10, k11, k12]
def interned : List (Array UInt16 × Addr) := []
def slotsUsed : Nat := 0
def theMethod : MethodId := ⟨1, 1⟩
def args0 : Array Value := #[.long 5, .int 7, .int 9, .long 3, .long 3, .long 3]
def aboutOver (below : List Frame) : State where
  vm := { classes := classes, interned := interned.toArray }
  heap := heap
  slotsUsed := slotsUsed
  threads := #[{ frames := .invoking theMethod args0 :: below }]
def below0 : List Frame := [.native { method := ⟨0, 0⟩, args := #[] }]
def about1 : State := aboutOver below0
def p0 : Program := .bare "" "" ""
def e0 : Env := launch0.env 0 0 0
theorem w_frames : about1.frames = Frame.invoking theMethod args0 :: below0 := rfl
set_option maxRecDepth 65536 in
theorem w_args : argsFit about1.vm theMethod args0 = true := by decide +kernel
set_option maxRecDepth 65536 in
theorem w_heap : heapFits about1 = true := by decide +kernel
set_option maxRecDepth 65536 in
theorem w_runnable : about1.curStatus? = some .runnable := by decide +kernel
set_option maxRecDepth 65536 in
theorem w_alone : about1.alone = true := by decide +kernel
set_option maxRecDepth 65536 in
theorem w_named : about1.methodNamed? x = some theMethod := by decide +kernel
set_option maxRecDepth 65536 in
theorem w_hears : about1.hears theMethod below0 = true := by decide +kernel
set_option maxRecDepth 65536 in
theorem w_ripe : about1.ripe theMethod args0 below0 = true := by decide +kernel
theorem w_running : about1.status = .running := rfl
set_option maxRecDepth 65536 in
theorem w_room : about1.hasRoom e0.platform room_1 = true :=
  launch0.hasRoom_least _ room_1 (by decide +kernel) (by decide +kernel) (by decide +kernel) (by decide +kernel) (by decide +kernel) (by decide +kernel)
theorem allAtoms_all (ts : List Jvm.Cond) (a : Array Jvm.Value) (st : Jvm.State) : (allAtoms ts).before a st = ts.all (fun c => c.before a st) := by
  induction ts with
  | nil => rfl
  | cons c t ih =>
    show (Jvm.Cond.and c (allAtoms t)).before a st = _
    rw [Jvm.Cond.before_and, ih, List.all_cons]
def words1 : List Jvm.Cond := Jvm.Cond.code x code maxLocals ret :: tables_1
/-- a 'code' word, met by the world's own term for the bytes: nothing is compared byte by byte -/
theorem code_word {y : MethodName} {bytes : ByteArray} {mx : Nat} {rt : Option FieldType} {a : Array Value} {s : State} {m : MethodId} {meth : Method} {c : Code} (h1 : s.methodNamed? y = some m) (h2 : s.vm.method? m = some meth) (h3 : meth.code = some c) (h4 : c.code = bytes)
    (h5 : (c.maxLocals == mx && c.exceptionTable.isEmpty && decide (c.maxStack ≤ mostOperands) && decide (meth.sig.returnType = rt) && !meth.locks && decide (parseMethodDescriptor y.desc = some meth.sig)) = true) : (Jvm.Cond.code y bytes mx rt).before a s = true := by
  simp only [Bool.and_eq_true, beq_iff_eq, Bool.not_eq_true', decide_eq_true_eq] at h5
  obtain ⟨⟨⟨⟨⟨g1, g2⟩, g3⟩, g4⟩, g5⟩, g6⟩ := h5
  simp [Cond.before, Cond.holds, Cond.value, h1, h2, h3, h4, g1, g2, g3, g4, g5, g6]
def isCode : Jvm.Cond → Bool
  | .code _ _ _ _ => true
  | _ => false
theorem all_split {L : List Jvm.Cond} {P : Jvm.Cond → Bool} (h1 : L.all (fun c => isCode c || P c) = true) (h2 : ∀ c ∈ L.filter isCode, P c = true) : L.all P = true := by
  refine List.all_eq_true.mpr fun c hc => ?_
  have h := List.all_eq_true.mp h1 c hc
  rcases Bool.eq_false_or_eq_true (isCode c) with hi | hi
  · exact h2 c (List.mem_filter.mpr ⟨hc, hi⟩)
  · simpa [hi] using h
set_option maxRecDepth 65536 in
theorem w_c0 : (Jvm.Cond.code x code maxLocals ret).before args0 about1 = true := code_word (m := ⟨1, 1⟩) (meth := k1m1) (c := k1c1) (by decide +kernel) rfl rfl rfl (by decide +kernel)
set_option maxRecDepth 65536 in
theorem w_c1 : (Jvm.Cond.code ({ cls := "com/example/moor/moor/benchmarks/HttpLoad$Result", name := "<init>", desc := "(JJJ)V" } : Jvm.MethodName) prog_13_method_1_code (7 : Nat) (Option.none : Option Jvm.ClassFile.FieldType)).before args0 about1 = true := code_word (m := ⟨3, 0⟩) (meth := k3m0) (c := k3c0) (by decide +kernel) rfl rfl rfl (by decide +kernel)
set_option maxRecDepth 65536 in
theorem w_c2 : (Jvm.Cond.code ({ cls := "java/lang/Record", name := "<init>", desc := "()V" } : Jvm.MethodName) jdk_30_method_1_code (1 : Nat) (Option.none : Option Jvm.ClassFile.FieldType)).before args0 about1 = true := code_word (m := ⟨2, 0⟩) (meth := k2m0) (c := k2c0) (by decide +kernel) rfl rfl rfl (by decide +kernel)
set_option maxRecDepth 65536 in
theorem w_c3 : (Jvm.Cond.code ({ cls := "java/lang/Object", name := "<init>", desc := "()V" } : Jvm.MethodName) object_method_1_code (1 : Nat) (Option.none : Option Jvm.ClassFile.FieldType)).before args0 about1 = true := code_word (m := ⟨0, 0⟩) (meth := k0m0) (c := k0c0) (by decide +kernel) rfl rfl rfl (by decide +kernel)
set_option maxRecDepth 65536 in
theorem w_c4 : (Jvm.Cond.code ({ cls := "com/example/moor/moor/benchmarks/HttpLoad$Result", name := "perSecond", desc := "()D" } : Jvm.MethodName) prog_13_method_2_code (1 : Nat) (Option.some Jvm.ClassFile.FieldType.double)).before args0 about1 = true := code_word (m := ⟨3, 1⟩) (meth := k3m1) (c := k3c1) (by decide +kernel) rfl rfl rfl (by decide +kernel)
set_option maxRecDepth 65536 in
theorem w_c5 : (Jvm.Cond.code ({ cls := "java/lang/Math", name := "max", desc := "(JJ)J" } : Jvm.MethodName) jdk_29_method_66_code (4 : Nat) (Option.some Jvm.ClassFile.FieldType.long)).before args0 about1 = true := code_word (m := ⟨4, 1⟩) (meth := k4m1) (c := k4c1) (by decide +kernel) rfl rfl rfl (by decide +kernel)
def codes1 : List Jvm.Cond := [Jvm.Cond.code x code maxLocals ret, Jvm.Cond.code ({ cls := "com/example/moor/moor/benchmarks/HttpLoad$Result", name := "<init>", desc := "(JJJ)V" } : Jvm.MethodName) prog_13_method_1_code (7 : Nat) (Option.none : Option Jvm.ClassFile.FieldType), Jvm.Cond.code ({ cls := "java/lang/Record", name := "<init>", desc := "()V" } : Jvm.MethodName) jdk_30_method_1_code (1 : Nat) (Option.none : Option Jvm.ClassFile.FieldType), Jvm.Cond.code ({ cls := "java/lang/Object", name := "<init>", desc := "()V" } : Jvm.MethodName) object_method_1_code (1 : Nat) (Option.none : Option Jvm.ClassFile.FieldType), Jvm.Cond.code ({ cls := "com/example/moor/moor/benchmarks/HttpLoad$Result", name := "perSecond", desc := "()D" } : Jvm.MethodName) prog_13_method_2_code (1 : Nat) (Option.some Jvm.ClassFile.FieldType.double), Jvm.Cond.code ({ cls := "java/lang/Math", name := "max", desc := "(JJ)J" } : Jvm.MethodName) jdk_29_method_66_code (4 : Nat) (Option.some Jvm.ClassFile.FieldType.long)]
set_option maxRecDepth 65536 in
theorem codes_eq : words1.filter isCode = codes1 := rfl
theorem w_codes : ∀ c ∈ words1.filter isCode, c.before args0 about1 = true := by
  rw [codes_eq]
  intro c hc
  simp only [codes1, List.mem_cons, List.not_mem_nil, or_false] at hc
  rcases hc with rfl | rfl | rfl | rfl | rfl | rfl
  · exact w_c0
  · exact w_c1
  · exact w_c2
  · exact w_c3
  · exact w_c4
  · exact w_c5
set_option maxRecDepth 65536 in
theorem w_t1 : (words1.take 24).all (fun c => isCode c || c.before args0 about1) = true := by decide +kernel
set_option maxRecDepth 65536 in
theorem w_t2 : ((words1.drop 24).take 24).all (fun c => isCode c || c.before args0 about1) = true := by decide +kernel
set_option maxRecDepth 65536 in
theorem w_t3 : ((words1.drop 24).drop 24).all (fun c => isCode c || c.before args0 about1) = true := by decide +kernel
theorem w_tables : (allAtoms (Jvm.Cond.code x code maxLocals ret :: tables_1)).before args0 about1 = true := by
  rw [allAtoms_all]
  show words1.all (fun c => c.before args0 about1) = true
  refine all_split ?_ w_codes
  rw [← List.take_append_drop 24 words1, List.all_append, w_t1, ← List.take_append_drop 24 (words1.drop 24), List.all_append, w_t2, w_t3]
  rfl
set_option maxRecDepth 65536 in
theorem w_case : (Jvm.Cond.and given_1 narrow_1).before args0 about1 = true := by decide +kernel
theorem w_applies : (headSpec (Jvm.Cond.code x code maxLocals ret :: tables_1) room_1).applies x e0.platform about1 = true :=
  (Spec.applies_iff w_frames).mpr ⟨w_running, w_runnable, w_alone, w_named, w_hears, w_ripe, w_room, w_tables⟩
theorem atStart : AtStart classFile x code maxLocals ret World_1 tables_1 room_1 Calls_1 rest_1 Pre_1 launch0 p0 e0 about1 theMethod args0 below0 :=
  ⟨lists_1, trivial, launch0.admits_env _ _ _, launch0.least_env, fairChoices_fair.cas, fairChoices_fair.clock, w_frames, w_args, w_heap, w_applies, trivial, trivial, w_case⟩
end start1
theorem witness_1 : WitnessClaimed_1 := ⟨start1.p0, start1.e0, start1.about1, start1.theMethod, start1.args0, start1.below0, start1.atStart⟩
end Jvm.Pilot.@@N@@
