import JvmDerived
import JvmDerived.Pilot.@@N@@Statement
import JvmDerived.Pilot.@@N@@Code
set_option linter.unusedVariables false
set_option linter.unusedSimpArgs false
namespace Jvm.OwnKit
open Sem ClassFile Op Lib Jvm.Stand Jvm.Free Jvm.LawKit Jvm.RoadKit
/-- a run of the method y that stands at pc with the locals ls, the stack st and the heap h comes to a return that Q allows -/
def ORun (l : Launch) (y : MethodName) (bytes : ByteArray) (maxL : Nat) (ret : Option FieldType) (R : Room) (Z : State) (n0 : Nat) (as' : Array Value) (Q : Option Value → Heap → Prop) (h : Heap) (cells slots pc : Nat) (ls : List Slot) (st : List Value) : Prop :=
  ∀ (p : Program) (e : Env) (s : State) (m : MethodId) (below : List Frame) (meth : Method) (c : Code) (T : State) (locs : List Loc),
    p.tables.exec = Jvm.exec → Z.Warmed39 s.vm → c.code = bytes → c.maxLocals = maxL → s.vm.findClass y.cls = some m.cls → meth.name = y.name → meth.sig.returnType = ret → meth.locks = false →
    Stand p l e R s m as' below meth c T locs cells slots → T.heap = h → Fr n0 locs →
    ∃ (U : State) (o : Outcome), Steps p.tables e below (T.setTop (mkF m pc ls.toArray st)) U ∧ U.status = .running ∧ Ended U below o ∧ ∃ v L, o = .returned v ∧ (Q v U.heap ∧ Fr n0 L) ∧ FrameEnd s o U L R.cells R.slots
/-- the contract of a method at the heap h and the arguments as' -/
def Ct (l : Launch) (y : MethodName) (bytes : ByteArray) (maxL : Nat) (ret : Option FieldType) (ws : List Jvm.Cond) (R : Room) (Z : State) (n0 : Nat) (as' : Array Value) (h : Heap) (Q : Option Value → Heap → Prop) : Prop :=
  MetFree l y (head1 (Jvm.Cond.code y bytes maxL ret :: ws) R) (fun a U => a = as' ∧ Z.Warmed39 U.vm ∧ U.heap = h) (fun _ _ _ _ _ => True) (fun _ U o U' => ∃ v L, o = .returned v ∧ (Q v U'.heap ∧ Fr n0 L) ∧ FrameEnd U o U' L R.cells R.slots)
def D (bytes : ByteArray) (pc : Nat) (i : Instr) (len nx : Nat) : Prop := decode bytes pc = .ok (i, len) ∧ pc + len = nx
def DB (bytes : ByteArray) (pc : Nat) (i : Int → Instr) (off : Int) (nx tgt : Nat) : Prop := decode bytes pc = .ok (i off, 3) ∧ pc + 3 = nx ∧ 0 ≤ (pc : Int) + off ∧ ((pc : Int) + off).toNat = tgt
/-- an array of a primitive kind whose elements are kept as ints, by their list -/
def Ary (Z : State) (h : Heap) (a : Addr) (ty : FieldType) (vs : List Int32) : Prop := ∃ c : Cell, Arr Z h a c ty ∧ c.slots = (vs.map Value.int).toArray
theorem eq_ints {args : Array Value} {first s : State} {o : Option Outcome} {idx : List Nat} {a b : Term} {x y : Int32} (ha : a.eval args first o idx s = some (.int x)) (hb : b.eval args first o idx s = some (.int y)) : (Jvm.Cond.eq a b).value args first o s idx = some (decide (x = y)) := by simp [Cond.value, ha, hb]
theorem fldEq {args : Array Value} {s : State} {t : Term} {C n d : String} {x : Addr} {k : Int32} (ht : t.eval args s none [] s = some (.ref x)) (h : (Jvm.Cond.eq (.field t C n d) (.int k)).value args s none s [] = some true) : Fld s s.heap x C n d (.int k) := by
  have e : (Term.field t C n d).eval args s none [] s = some (.int k) := by
    obtain ⟨v, w, e1, e2, k1, k2⟩ := cmp_v (Or.inl h)
    cases (show some (Value.int k) = some w from e2)
    obtain ⟨z, rfl⟩ := k2
    have q := gotT (eq_ints e1 e2) h
    rw [q] at e1; exact e1
  exact Fld.start (by rw [← fld_at ht]; exact e)
theorem n32_add (a b : Nat) : a.toInt32 + b.toInt32 = (a + b).toInt32 := (Int32.ofNat_add a b).symm
theorem n32_int {a : Nat} (h : a < 2 ^ 31) : a.toInt32.toInt = a := Int32.toInt_ofNat_of_lt h
theorem n32_sub {a b : Nat} (h : b ≤ a) : a.toInt32 - b.toInt32 = (a - b).toInt32 := by
  have e : (a - b).toInt32 + b.toInt32 = a.toInt32 := by rw [n32_add]; congr 1; omega
  rw [← e, Int32.add_sub_cancel]
theorem n32_lt {a b : Nat} (ha : a < 2 ^ 31) (hb : b < 2 ^ 31) : a.toInt32 < b.toInt32 ↔ a < b := by
  rw [Int32.lt_iff_toInt_lt, n32_int ha, n32_int hb]; omega
theorem n32_eq {a b : Nat} (ha : a < 2 ^ 31) (hb : b < 2 ^ 31) : a.toInt32 = b.toInt32 ↔ a = b := by
  rw [← Int32.toInt_inj, n32_int ha, n32_int hb]; omega
theorem n32_clamp {a : Nat} (h : a < 2 ^ 31) : a.toInt32.toNatClampNeg = a := by
  show a.toInt32.toInt.toNat = a
  rw [n32_int h]; rfl
theorem n32_nn {a : Nat} (h : a < 2 ^ 31) : ¬ a.toInt32 < 0 := by
  have h0 : (0 : Int32).toInt = 0 := by decide
  rw [Int32.lt_iff_toInt_lt, n32_int h]; omega
theorem n32_of {x : Int32} (h : ¬ x < 0) : ∃ n : Nat, x = n.toInt32 ∧ n < 2 ^ 31 ∧ x.toInt = n := ⟨x.toNatClampNeg, (back32 h).1.symm, (back32 h).2, nat_of h⟩
theorem n32_and (x m : Int32) (k : Nat) (hk : k ≤ 31) (hm : m.toBitVec.toNat = 2 ^ k - 1) : ∃ n : Nat, x &&& m = n.toInt32 ∧ n < 2 ^ k := by
  have h1 := c_mask x m k hk hm
  have h2 : (0 : Int) ≤ (x &&& m).toInt := by rw [h1]; exact Int.emod_nonneg _ (by have := Nat.pow_pos (n := k) (show 0 < 2 by decide); omega)
  have h3 : (x &&& m).toInt < (2 ^ k : Nat) := by rw [h1]; exact Int.emod_lt_of_pos _ (by have := Nat.pow_pos (n := k) (show 0 < 2 by decide); omega)
  have h0 : (0 : Int32).toInt = 0 := by decide
  obtain ⟨n, e1, e2, e3⟩ := n32_of (x := x &&& m) (by rw [Int32.lt_iff_toInt_lt]; omega)
  exact ⟨n, e1, by omega⟩
theorem n32_rem {u k : Nat} (hu : u < 2 ^ 31) (hk : 0 < k) (hk2 : k < 2 ^ 31) : u.toInt32 % k.toInt32 = (u % k).toInt32 := by
  have h2 := (c_irem u.toInt32 k.toInt32 k (n32_int hk2)).1 (by rw [n32_int hu]; omega)
  have h3 := Nat.mod_lt u hk
  refine Int32.toInt_inj.mp ?_
  rw [h2, n32_int hu, n32_int (by omega)]
  omega
theorem n32_ushr (x q : Int32) (k : Nat) (hk : q.toBitVec.toNat % 32 = k) (h0 : 0 < k) : ∃ u : Nat, (x.toUInt32 >>> (q &&& 31).toUInt32).toInt32 = u.toInt32 ∧ u < 2 ^ 31 := by
  have h1 := c_iushr x q k hk h0
  have h2 : (2 : Nat) ≤ 2 ^ k := Nat.le_trans (by decide) (Nat.pow_le_pow_right (by decide) h0)
  have h3 : 0 ≤ (x.toInt % 4294967296) / ((2 ^ k : Nat) : Int) := Int.ediv_nonneg (by omega) (by omega)
  have z : (0 : Int32).toInt = 0 := by decide
  obtain ⟨n, e1, e2, e3⟩ := n32_of (x := (x.toUInt32 >>> (q &&& 31).toUInt32).toInt32) (by rw [Int32.lt_iff_toInt_lt]; omega)
  exact ⟨n, e1, e2⟩
theorem n32_mod (x : Int32) (k : Nat) (hk : 0 < k) (hk2 : k < 2 ^ 31) : ∃ n : Nat, (x &&& (2147483647 : Int32)) % k.toInt32 = n.toInt32 ∧ n < k := by
  have h1 := c_mask x 2147483647 31 (by decide) (by decide)
  have h2 := (c_irem (x &&& 2147483647) k.toInt32 k (n32_int hk2)).1 (by omega)
  have h4 := Int.emod_nonneg (x &&& 2147483647).toInt (b := (k : Int)) (by omega)
  have h5 := Int.emod_lt_of_pos (x &&& 2147483647).toInt (b := (k : Int)) (by omega)
  have h0 : (0 : Int32).toInt = 0 := by decide
  obtain ⟨n, e1, e2, e3⟩ := n32_of (x := (x &&& (2147483647 : Int32)) % k.toInt32) (by rw [Int32.lt_iff_toInt_lt]; omega)
  exact ⟨n, e1, by omega⟩
theorem lenEq {args : Array Value} {s : State} {t : Term} {a : Addr} {cl : Cell} {ty : FieldType} {k : Int32} (ht : t.eval args s none [] s = some (.ref a)) (A : Arr s s.heap a cl ty) (h : (Jvm.Cond.eq (.length t) (.int k)).value args s none s [] = some true) : cl.slots.size < 2 ^ 31 ∧ cl.slots.size.toInt32 = k := by
  have ha := A.fin (Vm.Alike.refl _)
  obtain ⟨v, w, e1, e2, k1, k2⟩ := cmp_v (Or.inl h)
  by_cases hl : cl.slots.size < 2 ^ 31
  · have e := len_f ht ha hl
    exact ⟨hl, gotT (eq_ints e (show (Term.int k).eval args s none [] s = some (.int k) from rfl)) h⟩
  · simp [Term.eval, ht, ha, hl] at e1
theorem elemEq {args : Array Value} {s : State} {t u : Term} {a b : Addr} {cl : Cell} {ty : FieldType} {j : Int32} (ht : t.eval args s none [] s = some (.ref a)) (A : Arr s s.heap a cl ty) (hu : u.eval args s none [] s = some (.ref b)) (h : (Jvm.Cond.eq (.elem t (.int j)) u).value args s none s [] = some true) : cl.slots[j.toNatClampNeg]? = some (.ref b) := by
  obtain ⟨v, w, e1, e2, k1, k2⟩ := cmp_v (Or.inl h)
  cases hu.symm.trans e2
  have hv : v.isRef = true := k2.2
  have q := gotT (eq_R e1 hu hv rfl) h
  rw [q] at e1
  exact (elem_in e1 ht rfl A.1).2
section AryFacts
variable {Z : State} {h h' : Heap} {a b : Addr} {ty : FieldType} {vs vs' : List Int32} {sl : Nat} {v : Value} {ws : List Addr}
theorem Ary.lt (F : Ary Z h a ty vs) : a < h.size := by obtain ⟨c, A, -⟩ := F; exact A.lt
theorem Ary.ext (F : Ary Z h a ty vs) (E : Ext h h') : Ary Z h' a ty vs := by obtain ⟨c, A, q⟩ := F; exact ⟨c, A.ext E, q⟩
theorem Ary.other (F : Ary Z h b ty vs) (W : Wr h h' a sl v) (q : b ≠ a) : Ary Z h' b ty vs := by obtain ⟨c, A, r⟩ := F; exact ⟨c, A.other W q, r⟩
theorem Ary.keep (F : Ary Z h a ty vs) (K : Keep h h' ws) (q : a ∉ ws) : Ary Z h' a ty vs := by obtain ⟨c, A, r⟩ := F; exact ⟨c, ⟨K.2.1 a c A.1 q, A.2⟩, r⟩
theorem Ary.set {i : Nat} {x : Int32} (F : Ary Z h a ty vs) (W : Wr h h' a i (.int x)) (e : vs.set i x = vs') : Ary Z h' a ty vs' := by
  obtain ⟨c, A, r⟩ := F
  refine ⟨_, A.same W, ?_⟩
  subst e
  simp [Cell.setSlot, r, List.map_set]
theorem Ary.new {k : ClassId} {n : Int32} {m : Nat} (A : Arr Z h a (newA k ty n) ty) (hd : defaultValue ty = .int 0) (hn : n.toNatClampNeg = m) : Ary Z h a ty (List.replicate m 0) := by
  refine ⟨_, A, ?_⟩
  subst hn
  simp [newA, hd]
theorem Ary.inb {j : Int32} {x : Int32} {c : Cell} (q : c.slots = (vs.map Value.int).toArray) (hj : ¬ j < 0) (hv : vs[j.toNatClampNeg]? = some x) : ¬ (j < 0 ∨ c.slots.size ≤ j.toNatClampNeg) ∧ c.slots[j.toNatClampNeg]? = some (.int x) := by
  have h1 : j.toNatClampNeg < vs.length := by
    rcases Nat.lt_or_ge j.toNatClampNeg vs.length with h | h
    · exact h
    · rw [List.getElem?_eq_none h] at hv; cases hv
  refine ⟨fun r => ?_, ?_⟩
  · rcases r with r | r
    · exact hj r
    · rw [q] at r; simp at r; omega
  · rw [q]; simp [hv]
theorem Ary.size {c : Cell} (q : c.slots = (vs.map Value.int).toArray) : c.slots.size = vs.length := by rw [q]; simp
end AryFacts
section Logic
variable {l : Launch} {y : MethodName} {bytes : ByteArray} {maxL : Nat} {ret : Option FieldType} {ws : List Jvm.Cond} {R : Room} {Z : State} {n0 : Nat} {as' : Array Value} {Q : Option Value → Heap → Prop} {h : Heap} {cells slots pc nx tgt : Nat} {ls ls' : List Slot} {st : List Value} {a0 : Array Value}
theorem Ct.of (hpl : plainFor y = true) (hef : ∀ m, entryFrame m as' maxL = mkF m 0 ls.toArray []) (H : ORun l y bytes maxL ret R Z n0 as' Q h 0 0 0 ls []) : Ct l y bytes maxL ret ws R Z n0 as' h Q := by
  refine MetFree.of_bodySF hpl hisR ?_
  intro p e s m args below meth c s₁ Bd hml0 hP hK
  obtain ⟨rfl, hZ, hh⟩ := hP
  rw [hef m]
  exact H p e s m below meth c s₁ [] Bd.exec hZ Bd.bytes hml0 (findClass_of_methodNamed Bd.named) (name_of_methodNamed Bd.named Bd.method).1 Bd.returns Bd.notSynchronized (Stand.of_body Bd) (by rw [← hh, Bd.state]; rfl) (Fr.nil n0)
theorem ORun.weak {cells' slots' : Nat} (hc : cells ≤ cells') (hs : slots ≤ slots') (K : ORun l y bytes maxL ret R Z n0 as' Q h cells' slots' pc ls st) : ORun l y bytes maxL ret R Z n0 as' Q h cells slots pc ls st :=
  fun p e s m below meth c T locs hx hZ hby hml hown hnm hret hlk X eT N => K p e s m below meth c T locs hx hZ hby hml hown hnm hret hlk ⟨X.admits, X.cas, X.clock, X.frames, X.room, X.hears, X.method, X.code, X.here, X.tail, X.warmed, X.limits, X.bytes, X.same.mono hc hs⟩ eT N
/-- one step that moves neither heap nor tables -/
theorem ORun.step {pc' : Nat} {st' : List Value}
    (hs : ∀ (p : Program) (e : Env) (s : State) (m : MethodId) (below : List Frame) (meth : Method) (c : Code) (T : State) (locs : List Loc), p.tables.exec = Jvm.exec → Z.Warmed39 s.vm → c.code = bytes → s.vm.findClass y.cls = some m.cls → Stand p l e R s m as' below meth c T locs cells slots → T.heap = h →
      ∀ target, Steps p.tables e below (T.setTop (mkF m pc' ls'.toArray st')) target → Steps p.tables e below (T.setTop (mkF m pc ls.toArray st)) target)
    (K : ORun l y bytes maxL ret R Z n0 as' Q h cells slots pc' ls' st') : ORun l y bytes maxL ret R Z n0 as' Q h cells slots pc ls st :=
  fun p e s m below meth c T locs hx hZ hby hml hown hnm hret hlk X eT N => by
    obtain ⟨U, o, h1, h2⟩ := K p e s m below meth c T locs hx hZ hby hml hown hnm hret hlk X eT N
    exact ⟨U, o, hs p e s m below meth c T locs hx hZ hby hown X eT _ h1, h2⟩
/-- one step by a law that hands back a new state -/
theorem ORun.law {pc' : Nat} {st' : List Value} {h' : Heap} {cells' slots' : Nat}
    (hs : ∀ (p : Program) (e : Env) (s : State) (m : MethodId) (below : List Frame) (meth : Method) (c : Code) (T : State) (locs : List Loc), p.tables.exec = Jvm.exec → Z.Warmed39 s.vm → c.code = bytes → c.maxLocals = maxL → s.vm.findClass y.cls = some m.cls → meth.name = y.name → Stand p l e R s m as' below meth c T locs cells slots → T.heap = h → Fr n0 locs →
      ∃ T' locs', Stand p l e R s m as' below meth c T' locs' cells' slots' ∧ T'.heap = h' ∧ Fr n0 locs' ∧ ∀ target, Steps p.tables e below (T'.setTop (mkF m pc' ls'.toArray st')) target → Steps p.tables e below (T.setTop (mkF m pc ls.toArray st)) target)
    (K : ORun l y bytes maxL ret R Z n0 as' Q h' cells' slots' pc' ls' st') : ORun l y bytes maxL ret R Z n0 as' Q h cells slots pc ls st :=
  fun p e s m below meth c T locs hx hZ hby hml hown hnm hret hlk X eT N => by
    obtain ⟨T', locs', X', eT', N', st⟩ := hs p e s m below meth c T locs hx hZ hby hml hown hnm X eT N
    obtain ⟨U, o, h1, h2⟩ := K p e s m below meth c T' locs' hx hZ hby hml hown hnm hret hlk X' eT' N'
    exact ⟨U, o, st _ h1, h2⟩
theorem getL {k : Nat} {v : Slot} (q : ls[k]? = some v) : ls.toArray[k]? = some v := by simpa using q
/-! loads, stores -/
theorem r_iloadN {k : Fin 4} {v : Int32} (hd : D bytes pc (.iload_n k) 1 nx) (hl : ls[k.val]? = some (.val (.int v))) (K : ORun l y bytes maxL ret R Z n0 as' Q h cells slots nx ls (.int v :: st)) : ORun l y bytes maxL ret R Z n0 as' Q h cells slots pc ls st := by
  obtain ⟨hd, rfl⟩ := hd
  exact K.step fun p e s m below meth c T locs hx hZ hby hown X eT t k => XS.iloadN X.here hx rfl (hb hby hd) (getL hl) k
theorem r_iload {k : Nat} {v : Int32} (hd : D bytes pc (.iload k) 2 nx) (hl : ls[k]? = some (.val (.int v))) (K : ORun l y bytes maxL ret R Z n0 as' Q h cells slots nx ls (.int v :: st)) : ORun l y bytes maxL ret R Z n0 as' Q h cells slots pc ls st := by
  obtain ⟨hd, rfl⟩ := hd
  exact K.step fun p e s m below meth c T locs hx hZ hby hown X eT t k => XS.iload X.here hx rfl (hb hby hd) (getL hl) k
theorem r_aloadN {k : Fin 4} {v : Value} (hd : D bytes pc (.aload_n k) 1 nx) (hl : ls[k.val]? = some (.val v)) (hv : v.isRef = true) (K : ORun l y bytes maxL ret R Z n0 as' Q h cells slots nx ls (v :: st)) : ORun l y bytes maxL ret R Z n0 as' Q h cells slots pc ls st := by
  obtain ⟨hd, rfl⟩ := hd
  exact K.step fun p e s m below meth c T locs hx hZ hby hown X eT t k => XS.aloadN X.here hx rfl (hb hby hd) (getL hl) hv k
theorem r_aload {k : Nat} {v : Value} (hd : D bytes pc (.aload k) 2 nx) (hl : ls[k]? = some (.val v)) (hv : v.isRef = true) (K : ORun l y bytes maxL ret R Z n0 as' Q h cells slots nx ls (v :: st)) : ORun l y bytes maxL ret R Z n0 as' Q h cells slots pc ls st := by
  obtain ⟨hd, rfl⟩ := hd
  exact K.step fun p e s m below meth c T locs hx hZ hby hown X eT t k => XS.aload X.here hx rfl (hb hby hd) (getL hl) hv k
theorem r_lloadN {k : Fin 4} {v : Int64} (hd : D bytes pc (.lload_n k) 1 nx) (hl : ls[k.val]? = some (.val (.long v))) (K : ORun l y bytes maxL ret R Z n0 as' Q h cells slots nx ls (.long v :: st)) : ORun l y bytes maxL ret R Z n0 as' Q h cells slots pc ls st := by
  obtain ⟨hd, rfl⟩ := hd
  exact K.step fun p e s m below meth c T locs hx hZ hby hown X eT t k => XS.lloadN X.here hx rfl (hb hby hd) (getL hl) k
theorem r_lload {k : Nat} {v : Int64} (hd : D bytes pc (.lload k) 2 nx) (hl : ls[k]? = some (.val (.long v))) (K : ORun l y bytes maxL ret R Z n0 as' Q h cells slots nx ls (.long v :: st)) : ORun l y bytes maxL ret R Z n0 as' Q h cells slots pc ls st := by
  obtain ⟨hd, rfl⟩ := hd
  exact K.step fun p e s m below meth c T locs hx hZ hby hown X eT t k => XS.lload X.here hx rfl (hb hby hd) (getL hl) k
theorem r_istoreN {k : Fin 4} {v : Int32} (hd : D bytes pc (.istore_n k) 1 nx) (ls' : List Slot) (hl : storeLocals ls.toArray k.val (.int v) = some ls'.toArray) (K : ORun l y bytes maxL ret R Z n0 as' Q h cells slots nx ls' st) : ORun l y bytes maxL ret R Z n0 as' Q h cells slots pc ls (.int v :: st) := by
  obtain ⟨hd, rfl⟩ := hd
  exact K.step fun p e s m below meth c T locs hx hZ hby hown X eT t k => XS.istoreN X.here hx rfl (hb hby hd) rfl hl k
theorem r_istore {k : Nat} {v : Int32} (hd : D bytes pc (.istore k) 2 nx) (ls' : List Slot) (hl : storeLocals ls.toArray k (.int v) = some ls'.toArray) (K : ORun l y bytes maxL ret R Z n0 as' Q h cells slots nx ls' st) : ORun l y bytes maxL ret R Z n0 as' Q h cells slots pc ls (.int v :: st) := by
  obtain ⟨hd, rfl⟩ := hd
  exact K.step fun p e s m below meth c T locs hx hZ hby hown X eT t k => XS.istore X.here hx rfl (hb hby hd) rfl hl k
theorem r_astoreN {k : Fin 4} {v : Value} (hd : D bytes pc (.astore_n k) 1 nx) (hv : v.isRef = true) (ls' : List Slot) (hl : storeLocals ls.toArray k.val v = some ls'.toArray) (K : ORun l y bytes maxL ret R Z n0 as' Q h cells slots nx ls' st) : ORun l y bytes maxL ret R Z n0 as' Q h cells slots pc ls (v :: st) := by
  obtain ⟨hd, rfl⟩ := hd
  exact K.step fun p e s m below meth c T locs hx hZ hby hown X eT t k => XS.astoreN X.here hx rfl (hb hby hd) rfl hv hl k
theorem r_astore {k : Nat} {v : Value} (hd : D bytes pc (.astore k) 2 nx) (hv : v.isRef = true) (ls' : List Slot) (hl : storeLocals ls.toArray k v = some ls'.toArray) (K : ORun l y bytes maxL ret R Z n0 as' Q h cells slots nx ls' st) : ORun l y bytes maxL ret R Z n0 as' Q h cells slots pc ls (v :: st) := by
  obtain ⟨hd, rfl⟩ := hd
  exact K.step fun p e s m below meth c T locs hx hZ hby hown X eT t k => XS.astore X.here hx rfl (hb hby hd) rfl hv hl k
theorem r_lstoreN {k : Fin 4} {v : Int64} (hd : D bytes pc (.lstore_n k) 1 nx) (ls' : List Slot) (hl : storeLocals ls.toArray k.val (.long v) = some ls'.toArray) (K : ORun l y bytes maxL ret R Z n0 as' Q h cells slots nx ls' st) : ORun l y bytes maxL ret R Z n0 as' Q h cells slots pc ls (.long v :: st) := by
  obtain ⟨hd, rfl⟩ := hd
  exact K.step fun p e s m below meth c T locs hx hZ hby hown X eT t k => XS.lstoreN X.here hx rfl (hb hby hd) rfl hl k
theorem r_lstore {k : Nat} {v : Int64} (hd : D bytes pc (.lstore k) 2 nx) (ls' : List Slot) (hl : storeLocals ls.toArray k (.long v) = some ls'.toArray) (K : ORun l y bytes maxL ret R Z n0 as' Q h cells slots nx ls' st) : ORun l y bytes maxL ret R Z n0 as' Q h cells slots pc ls (.long v :: st) := by
  obtain ⟨hd, rfl⟩ := hd
  exact K.step fun p e s m below meth c T locs hx hZ hby hown X eT t k => XS.lstore X.here hx rfl (hb hby hd) rfl hl k
theorem r_iinc {k : Nat} {i : Int} {v w : Int32} (hd : D bytes pc (.iinc k i) 3 nx) (hl : ls[k]? = some (.val (.int v))) (hw : v + Int32.ofInt i = w) (ls' : List Slot) (hl' : storeLocals ls.toArray k (.int w) = some ls'.toArray) (K : ORun l y bytes maxL ret R Z n0 as' Q h cells slots nx ls' st) : ORun l y bytes maxL ret R Z n0 as' Q h cells slots pc ls st := by
  obtain ⟨hd, rfl⟩ := hd
  subst hw
  exact K.step fun p e s m below meth c T locs hx hZ hby hown X eT t k => XS.iinc X.here hx rfl (hb hby hd) (getL hl) hl' k
/-! constants -/
theorem r_iconst {i : Int} (v : Int32) (hv : Int32.ofInt i = v) (hd : D bytes pc (.iconst i) 1 nx) (K : ORun l y bytes maxL ret R Z n0 as' Q h cells slots nx ls (.int v :: st)) : ORun l y bytes maxL ret R Z n0 as' Q h cells slots pc ls st := by
  obtain ⟨hd, rfl⟩ := hd
  subst hv
  exact K.step fun p e s m below meth c T locs hx hZ hby hown X eT t k => XS.iconst X.here hx rfl (hb hby hd) k
theorem r_bipush {i : Int} (v : Int32) (hv : (Int8.ofInt i).toInt32 = v) (hd : D bytes pc (.bipush i) 2 nx) (K : ORun l y bytes maxL ret R Z n0 as' Q h cells slots nx ls (.int v :: st)) : ORun l y bytes maxL ret R Z n0 as' Q h cells slots pc ls st := by
  obtain ⟨hd, rfl⟩ := hd
  subst hv
  exact K.step fun p e s m below meth c T locs hx hZ hby hown X eT t k => XS.bipush X.here hx rfl (hb hby hd) k
theorem r_sipush {i : Int} (v : Int32) (hv : (Int16.ofInt i).toInt32 = v) (hd : D bytes pc (.sipush i) 3 nx) (K : ORun l y bytes maxL ret R Z n0 as' Q h cells slots nx ls (.int v :: st)) : ORun l y bytes maxL ret R Z n0 as' Q h cells slots pc ls st := by
  obtain ⟨hd, rfl⟩ := hd
  subst hv
  exact K.step fun p e s m below meth c T locs hx hZ hby hown X eT t k => XS.sipush X.here hx rfl (hb hby hd) k
theorem r_lconst {i : Fin 2} (v : Int64) (hv : Int64.ofNat i = v) (hd : D bytes pc (.lconst i) 1 nx) (K : ORun l y bytes maxL ret R Z n0 as' Q h cells slots nx ls (.long v :: st)) : ORun l y bytes maxL ret R Z n0 as' Q h cells slots pc ls st := by
  obtain ⟨hd, rfl⟩ := hd
  subst hv
  exact K.step fun p e s m below meth c T locs hx hZ hby hown X eT t k => XS.lconst X.here hx rfl (hb hby hd) k
theorem r_null (hd : D bytes pc .aconst_null 1 nx) (K : ORun l y bytes maxL ret R Z n0 as' Q h cells slots nx ls (.null :: st)) : ORun l y bytes maxL ret R Z n0 as' Q h cells slots pc ls st := by
  obtain ⟨hd, rfl⟩ := hd
  exact K.step fun p e s m below meth c T locs hx hZ hby hown X eT t k => XS.aconstNull X.here hx rfl (hb hby hd) k
theorem r_ldc {i : Nat} {v : Int32} (w : (Cond.constant y.cls i v).before a0 Z = true) (hd : D bytes pc (.ldc i) 2 nx) (K : ORun l y bytes maxL ret R Z n0 as' Q h cells slots nx ls (.int v :: st)) : ORun l y bytes maxL ret R Z n0 as' Q h cells slots pc ls st := by
  obtain ⟨hd, rfl⟩ := hd
  exact K.step fun p e s m below meth c T locs hx hZ hby hown X eT t k => X.ldcInt hx hown (mvT hZ w) (g := mkF m pc ls.toArray st) rfl (hb hby hd) _ k
theorem r_ldc2 {i : Nat} {v : Int64} (w : (Cond.constantLong y.cls i v).before a0 Z = true) (hd : D bytes pc (.ldc2_w i) 3 nx) (K : ORun l y bytes maxL ret R Z n0 as' Q h cells slots nx ls (.long v :: st)) : ORun l y bytes maxL ret R Z n0 as' Q h cells slots pc ls st := by
  obtain ⟨hd, rfl⟩ := hd
  exact K.step fun p e s m below meth c T locs hx hZ hby hown X eT t k => X.ldc2Long hx hown (mvT hZ w) (g := mkF m pc ls.toArray st) rfl (hb hby hd) _ k
theorem r_ldcS {i : Nat} {text : String} {a : Addr} (w : (Cond.stringRef y.cls i text).before a0 Z = true) (L : Lit Z y.cls i a) (hd : D bytes pc (.ldc i) 2 nx) (K : ORun l y bytes maxL ret R Z n0 as' Q h cells slots nx ls (.ref a :: st)) : ORun l y bytes maxL ret R Z n0 as' Q h cells slots pc ls st := by
  obtain ⟨hd, rfl⟩ := hd
  exact K.step fun p e s m below meth c T locs hx hZ hby hown X eT t k => ldcR X hx hZ hown w L (g := mkF m pc ls.toArray st) rfl (hb hby hd) _ k
/-! arithmetic -/
theorem r_iadd {x z : Int32} (hd : D bytes pc .iadd 1 nx) (K : ORun l y bytes maxL ret R Z n0 as' Q h cells slots nx ls (.int (x + z) :: st)) : ORun l y bytes maxL ret R Z n0 as' Q h cells slots pc ls (.int z :: .int x :: st) := by
  obtain ⟨hd, rfl⟩ := hd
  exact K.step fun p e s m below meth c T locs hx hZ hby hown X eT t k => XS.iadd X.here hx rfl (hb hby hd) rfl k
theorem r_isub {x z : Int32} (hd : D bytes pc .isub 1 nx) (K : ORun l y bytes maxL ret R Z n0 as' Q h cells slots nx ls (.int (x - z) :: st)) : ORun l y bytes maxL ret R Z n0 as' Q h cells slots pc ls (.int z :: .int x :: st) := by
  obtain ⟨hd, rfl⟩ := hd
  exact K.step fun p e s m below meth c T locs hx hZ hby hown X eT t k => XS.isub X.here hx rfl (hb hby hd) rfl k
theorem r_iand {x z : Int32} (hd : D bytes pc .iand 1 nx) (K : ORun l y bytes maxL ret R Z n0 as' Q h cells slots nx ls (.int (x &&& z) :: st)) : ORun l y bytes maxL ret R Z n0 as' Q h cells slots pc ls (.int z :: .int x :: st) := by
  obtain ⟨hd, rfl⟩ := hd
  exact K.step fun p e s m below meth c T locs hx hZ hby hown X eT t k => XS.iand X.here hx rfl (hb hby hd) rfl k
theorem r_imul {x z : Int32} (hd : D bytes pc .imul 1 nx) (K : ORun l y bytes maxL ret R Z n0 as' Q h cells slots nx ls (.int (x * z) :: st)) : ORun l y bytes maxL ret R Z n0 as' Q h cells slots pc ls (.int z :: .int x :: st) := by
  obtain ⟨hd, rfl⟩ := hd
  exact K.step fun p e s m below meth c T locs hx hZ hby hown X eT t k => XS.imul X.here hx rfl (hb hby hd) rfl k
theorem r_ior {x z : Int32} (hd : D bytes pc .ior 1 nx) (K : ORun l y bytes maxL ret R Z n0 as' Q h cells slots nx ls (.int (x ||| z) :: st)) : ORun l y bytes maxL ret R Z n0 as' Q h cells slots pc ls (.int z :: .int x :: st) := by
  obtain ⟨hd, rfl⟩ := hd
  exact K.step fun p e s m below meth c T locs hx hZ hby hown X eT t k => XS.ior X.here hx rfl (hb hby hd) rfl k
theorem r_ixor {x z : Int32} (hd : D bytes pc .ixor 1 nx) (K : ORun l y bytes maxL ret R Z n0 as' Q h cells slots nx ls (.int (x ^^^ z) :: st)) : ORun l y bytes maxL ret R Z n0 as' Q h cells slots pc ls (.int z :: .int x :: st) := by
  obtain ⟨hd, rfl⟩ := hd
  exact K.step fun p e s m below meth c T locs hx hZ hby hown X eT t k => XS.ixor X.here hx rfl (hb hby hd) rfl k
theorem r_ishl {x z : Int32} (hd : D bytes pc .ishl 1 nx) (K : ORun l y bytes maxL ret R Z n0 as' Q h cells slots nx ls (.int (x <<< (z &&& 31)) :: st)) : ORun l y bytes maxL ret R Z n0 as' Q h cells slots pc ls (.int z :: .int x :: st) := by
  obtain ⟨hd, rfl⟩ := hd
  exact K.step fun p e s m below meth c T locs hx hZ hby hown X eT t k => XS.ishl X.here hx rfl (hb hby hd) rfl k
theorem r_ishr {x z : Int32} (hd : D bytes pc .ishr 1 nx) (K : ORun l y bytes maxL ret R Z n0 as' Q h cells slots nx ls (.int (x >>> (z &&& 31)) :: st)) : ORun l y bytes maxL ret R Z n0 as' Q h cells slots pc ls (.int z :: .int x :: st) := by
  obtain ⟨hd, rfl⟩ := hd
  exact K.step fun p e s m below meth c T locs hx hZ hby hown X eT t k => XS.ishr X.here hx rfl (hb hby hd) rfl k
theorem r_iushr {x z : Int32} (hd : D bytes pc .iushr 1 nx) (K : ORun l y bytes maxL ret R Z n0 as' Q h cells slots nx ls (.int ((x.toUInt32 >>> (z &&& 31).toUInt32).toInt32) :: st)) : ORun l y bytes maxL ret R Z n0 as' Q h cells slots pc ls (.int z :: .int x :: st) := by
  obtain ⟨hd, rfl⟩ := hd
  exact K.step fun p e s m below meth c T locs hx hZ hby hown X eT t k => XS.iushr X.here hx rfl (hb hby hd) rfl k
theorem r_ladd {x z : Int64} (hd : D bytes pc .ladd 1 nx) (K : ORun l y bytes maxL ret R Z n0 as' Q h cells slots nx ls (.long (x + z) :: st)) : ORun l y bytes maxL ret R Z n0 as' Q h cells slots pc ls (.long z :: .long x :: st) := by
  obtain ⟨hd, rfl⟩ := hd
  exact K.step fun p e s m below meth c T locs hx hZ hby hown X eT t k => XS.ladd X.here hx rfl (hb hby hd) rfl k
theorem r_lsub {x z : Int64} (hd : D bytes pc .lsub 1 nx) (K : ORun l y bytes maxL ret R Z n0 as' Q h cells slots nx ls (.long (x - z) :: st)) : ORun l y bytes maxL ret R Z n0 as' Q h cells slots pc ls (.long z :: .long x :: st) := by
  obtain ⟨hd, rfl⟩ := hd
  exact K.step fun p e s m below meth c T locs hx hZ hby hown X eT t k => XS.lsub X.here hx rfl (hb hby hd) rfl k
theorem r_land {x z : Int64} (hd : D bytes pc .land 1 nx) (K : ORun l y bytes maxL ret R Z n0 as' Q h cells slots nx ls (.long (x &&& z) :: st)) : ORun l y bytes maxL ret R Z n0 as' Q h cells slots pc ls (.long z :: .long x :: st) := by
  obtain ⟨hd, rfl⟩ := hd
  exact K.step fun p e s m below meth c T locs hx hZ hby hown X eT t k => XS.land X.here hx rfl (hb hby hd) rfl k
theorem r_lmul {x z : Int64} (hd : D bytes pc .lmul 1 nx) (K : ORun l y bytes maxL ret R Z n0 as' Q h cells slots nx ls (.long (x * z) :: st)) : ORun l y bytes maxL ret R Z n0 as' Q h cells slots pc ls (.long z :: .long x :: st) := by
  obtain ⟨hd, rfl⟩ := hd
  exact K.step fun p e s m below meth c T locs hx hZ hby hown X eT t k => XS.lmul X.here hx rfl (hb hby hd) rfl k
theorem r_lor {x z : Int64} (hd : D bytes pc .lor 1 nx) (K : ORun l y bytes maxL ret R Z n0 as' Q h cells slots nx ls (.long (x ||| z) :: st)) : ORun l y bytes maxL ret R Z n0 as' Q h cells slots pc ls (.long z :: .long x :: st) := by
  obtain ⟨hd, rfl⟩ := hd
  exact K.step fun p e s m below meth c T locs hx hZ hby hown X eT t k => XS.lor X.here hx rfl (hb hby hd) rfl k
theorem r_lxor {x z : Int64} (hd : D bytes pc .lxor 1 nx) (K : ORun l y bytes maxL ret R Z n0 as' Q h cells slots nx ls (.long (x ^^^ z) :: st)) : ORun l y bytes maxL ret R Z n0 as' Q h cells slots pc ls (.long z :: .long x :: st) := by
  obtain ⟨hd, rfl⟩ := hd
  exact K.step fun p e s m below meth c T locs hx hZ hby hown X eT t k => XS.lxor X.here hx rfl (hb hby hd) rfl k
theorem r_lshl {x : Int64} {z : Int32} (hd : D bytes pc .lshl 1 nx) (K : ORun l y bytes maxL ret R Z n0 as' Q h cells slots nx ls (.long (x <<< (z &&& 63).toInt64) :: st)) : ORun l y bytes maxL ret R Z n0 as' Q h cells slots pc ls (.int z :: .long x :: st) := by
  obtain ⟨hd, rfl⟩ := hd
  exact K.step fun p e s m below meth c T locs hx hZ hby hown X eT t k => XS.lshl X.here hx rfl (hb hby hd) rfl k
theorem r_lshr {x : Int64} {z : Int32} (hd : D bytes pc .lshr 1 nx) (K : ORun l y bytes maxL ret R Z n0 as' Q h cells slots nx ls (.long (x >>> (z &&& 63).toInt64) :: st)) : ORun l y bytes maxL ret R Z n0 as' Q h cells slots pc ls (.int z :: .long x :: st) := by
  obtain ⟨hd, rfl⟩ := hd
  exact K.step fun p e s m below meth c T locs hx hZ hby hown X eT t k => XS.lshr X.here hx rfl (hb hby hd) rfl k
theorem r_lushr {x : Int64} {z : Int32} (hd : D bytes pc .lushr 1 nx) (K : ORun l y bytes maxL ret R Z n0 as' Q h cells slots nx ls (.long ((x.toUInt64 >>> (z &&& 63).toInt64.toUInt64).toInt64) :: st)) : ORun l y bytes maxL ret R Z n0 as' Q h cells slots pc ls (.int z :: .long x :: st) := by
  obtain ⟨hd, rfl⟩ := hd
  exact K.step fun p e s m below meth c T locs hx hZ hby hown X eT t k => XS.lushr X.here hx rfl (hb hby hd) rfl k
theorem r_idiv {x z : Int32} (hd : D bytes pc .idiv 1 nx) (hz : z ≠ 0) (K : ORun l y bytes maxL ret R Z n0 as' Q h cells slots nx ls (.int (x / z) :: st)) : ORun l y bytes maxL ret R Z n0 as' Q h cells slots pc ls (.int z :: .int x :: st) := by
  obtain ⟨hd, rfl⟩ := hd
  exact K.step fun p e s m below meth c T locs hx hZ hby hown X eT t k => XS.idiv X.here hx rfl (hb hby hd) rfl hz k
theorem r_ldiv {x z : Int64} (hd : D bytes pc .ldiv 1 nx) (hz : z ≠ 0) (K : ORun l y bytes maxL ret R Z n0 as' Q h cells slots nx ls (.long (x / z) :: st)) : ORun l y bytes maxL ret R Z n0 as' Q h cells slots pc ls (.long z :: .long x :: st) := by
  obtain ⟨hd, rfl⟩ := hd
  exact K.step fun p e s m below meth c T locs hx hZ hby hown X eT t k => XS.ldiv X.here hx rfl (hb hby hd) rfl hz k
theorem r_ineg {x : Int32} (hd : D bytes pc .ineg 1 nx) (K : ORun l y bytes maxL ret R Z n0 as' Q h cells slots nx ls (.int (-x) :: st)) : ORun l y bytes maxL ret R Z n0 as' Q h cells slots pc ls (.int x :: st) := by
  obtain ⟨hd, rfl⟩ := hd
  exact K.step fun p e s m below meth c T locs hx hZ hby hown X eT t k => XS.ineg X.here hx rfl (hb hby hd) rfl k
theorem r_lneg {x : Int64} (hd : D bytes pc .lneg 1 nx) (K : ORun l y bytes maxL ret R Z n0 as' Q h cells slots nx ls (.long (-x) :: st)) : ORun l y bytes maxL ret R Z n0 as' Q h cells slots pc ls (.long x :: st) := by
  obtain ⟨hd, rfl⟩ := hd
  exact K.step fun p e s m below meth c T locs hx hZ hby hown X eT t k => XS.lneg X.here hx rfl (hb hby hd) rfl k
theorem r_i2l {x : Int32} (hd : D bytes pc .i2l 1 nx) (K : ORun l y bytes maxL ret R Z n0 as' Q h cells slots nx ls (.long (x.toInt64) :: st)) : ORun l y bytes maxL ret R Z n0 as' Q h cells slots pc ls (.int x :: st) := by
  obtain ⟨hd, rfl⟩ := hd
  exact K.step fun p e s m below meth c T locs hx hZ hby hown X eT t k => XS.i2l X.here hx rfl (hb hby hd) rfl k
theorem r_l2i {x : Int64} (hd : D bytes pc .l2i 1 nx) (K : ORun l y bytes maxL ret R Z n0 as' Q h cells slots nx ls (.int (x.toInt32) :: st)) : ORun l y bytes maxL ret R Z n0 as' Q h cells slots pc ls (.long x :: st) := by
  obtain ⟨hd, rfl⟩ := hd
  exact K.step fun p e s m below meth c T locs hx hZ hby hown X eT t k => XS.l2i X.here hx rfl (hb hby hd) rfl k
theorem r_i2b {x : Int32} (hd : D bytes pc .i2b 1 nx) (K : ORun l y bytes maxL ret R Z n0 as' Q h cells slots nx ls (.int (x.toInt8.toInt32) :: st)) : ORun l y bytes maxL ret R Z n0 as' Q h cells slots pc ls (.int x :: st) := by
  obtain ⟨hd, rfl⟩ := hd
  exact K.step fun p e s m below meth c T locs hx hZ hby hown X eT t k => XS.i2b X.here hx rfl (hb hby hd) rfl k
theorem r_i2s {x : Int32} (hd : D bytes pc .i2s 1 nx) (K : ORun l y bytes maxL ret R Z n0 as' Q h cells slots nx ls (.int (x.toInt16.toInt32) :: st)) : ORun l y bytes maxL ret R Z n0 as' Q h cells slots pc ls (.int x :: st) := by
  obtain ⟨hd, rfl⟩ := hd
  exact K.step fun p e s m below meth c T locs hx hZ hby hown X eT t k => XS.i2s X.here hx rfl (hb hby hd) rfl k
theorem r_i2c {x : Int32} (hd : D bytes pc .i2c 1 nx) (K : ORun l y bytes maxL ret R Z n0 as' Q h cells slots nx ls (.int (x.toUInt32.toUInt16.toUInt32.toInt32) :: st)) : ORun l y bytes maxL ret R Z n0 as' Q h cells slots pc ls (.int x :: st) := by
  obtain ⟨hd, rfl⟩ := hd
  exact K.step fun p e s m below meth c T locs hx hZ hby hown X eT t k => XS.i2c X.here hx rfl (hb hby hd) rfl k
theorem r_lcmp {x z : Int64} (hd : D bytes pc .lcmp 1 nx) (K : ORun l y bytes maxL ret R Z n0 as' Q h cells slots nx ls (.int (lcmpW x z) :: st)) : ORun l y bytes maxL ret R Z n0 as' Q h cells slots pc ls (.long z :: .long x :: st) := by
  obtain ⟨hd, rfl⟩ := hd
  exact K.step fun p e s m below meth c T locs hx hZ hby hown X eT t k => XS.lcmp X.here hx rfl (hb hby hd) rfl k
theorem r_dup {x : Value} (hd : D bytes pc .dup 1 nx) (hc : x.category = 1) (K : ORun l y bytes maxL ret R Z n0 as' Q h cells slots nx ls (x :: x :: st)) : ORun l y bytes maxL ret R Z n0 as' Q h cells slots pc ls (x :: st) := by
  obtain ⟨hd, rfl⟩ := hd
  exact K.step fun p e s m below meth c T locs hx hZ hby hown X eT t k => XS.dup X.here hx rfl (hb hby hd) rfl hc k
theorem r_pop {x : Value} (hd : D bytes pc .pop 1 nx) (hc : x.category = 1) (K : ORun l y bytes maxL ret R Z n0 as' Q h cells slots nx ls st) : ORun l y bytes maxL ret R Z n0 as' Q h cells slots pc ls (x :: st) := by
  obtain ⟨hd, rfl⟩ := hd
  exact K.step fun p e s m below meth c T locs hx hZ hby hown X eT t k => XS.pop X.here hx rfl (hb hby hd) rfl hc k
theorem r_dupX1 {x z : Value} (hd : D bytes pc .dup_x1 1 nx) (hc : x.category = 1) (hc2 : z.category = 1) (K : ORun l y bytes maxL ret R Z n0 as' Q h cells slots nx ls (x :: z :: x :: st)) : ORun l y bytes maxL ret R Z n0 as' Q h cells slots pc ls (x :: z :: st) := by
  obtain ⟨hd, rfl⟩ := hd
  exact K.step fun p e s m below meth c T locs hx hZ hby hown X eT t k => XS.dupX1 X.here hx rfl (hb hby hd) rfl hc hc2 k
theorem r_dup2 {x z : Value} (hd : D bytes pc .dup2 1 nx) (hc : x.category = 1) (hc2 : z.category = 1) (K : ORun l y bytes maxL ret R Z n0 as' Q h cells slots nx ls (x :: z :: x :: z :: st)) : ORun l y bytes maxL ret R Z n0 as' Q h cells slots pc ls (x :: z :: st) := by
  obtain ⟨hd, rfl⟩ := hd
  exact K.step fun p e s m below meth c T locs hx hZ hby hown X eT t k => XT.dup2 X.here hx rfl (hb hby hd) rfl hc hc2 k
theorem r_dup2L {x : Int64} (hd : D bytes pc .dup2 1 nx) (K : ORun l y bytes maxL ret R Z n0 as' Q h cells slots nx ls (.long x :: .long x :: st)) : ORun l y bytes maxL ret R Z n0 as' Q h cells slots pc ls (.long x :: st) := by
  obtain ⟨hd, rfl⟩ := hd
  exact K.step fun p e s m below meth c T locs hx hZ hby hown X eT t k => XT.dup2L X.here hx rfl (hb hby hd) rfl k
theorem r_irem {x z : Int32} (hd : D bytes pc .irem 1 nx) (hz : z ≠ 0) (K : ORun l y bytes maxL ret R Z n0 as' Q h cells slots nx ls (.int (x % z) :: st)) : ORun l y bytes maxL ret R Z n0 as' Q h cells slots pc ls (.int z :: .int x :: st) := by
  obtain ⟨hd, rfl⟩ := hd
  exact K.step fun p e s m below meth c T locs hx hZ hby hown X eT t k => iremM X hx rfl (hb hby hd) rfl hz k
theorem r_lrem {x z : Int64} (hd : D bytes pc .lrem 1 nx) (hz : z ≠ 0) (K : ORun l y bytes maxL ret R Z n0 as' Q h cells slots nx ls (.long (x % z) :: st)) : ORun l y bytes maxL ret R Z n0 as' Q h cells slots pc ls (.long z :: .long x :: st) := by
  obtain ⟨hd, rfl⟩ := hd
  rw [← lrem_mod] at K
  exact K.step fun p e s m below meth c T locs hx hZ hby hown X eT t k => XS.lrem X.here hx rfl (hb hby hd) rfl hz k
/-! branches -/
theorem r_goto {off : Int} (hd : DB bytes pc .goto off nx tgt) (K : ORun l y bytes maxL ret R Z n0 as' Q h cells slots tgt ls st) : ORun l y bytes maxL ret R Z n0 as' Q h cells slots pc ls st := by
  obtain ⟨hd, rfl, ho, rfl⟩ := hd
  exact K.step fun p e s m below meth c T locs hx hZ hby hown X eT t k => XS.goto X.here hx rfl rfl (hb hby hd) ho rfl k
theorem r_icmp {cd : ClassFile.Cond} {off : Int} {x z : Int32} (hd : DB bytes pc (.if_icmp cd) off nx tgt) (K1 : if_icmp.holds cd x z = true → ORun l y bytes maxL ret R Z n0 as' Q h cells slots tgt ls st) (K2 : if_icmp.holds cd x z = false → ORun l y bytes maxL ret R Z n0 as' Q h cells slots nx ls st) : ORun l y bytes maxL ret R Z n0 as' Q h cells slots pc ls (.int z :: .int x :: st) := by
  obtain ⟨hd, rfl, ho, rfl⟩ := hd
  cases hc : if_icmp.holds cd x z
  · exact (K2 hc).step fun p e s m below meth c T locs hx hZ hby hown X eT t k => XS.icmpNo X.here hx rfl (hb hby hd) rfl hc k
  · exact (K1 hc).step fun p e s m below meth c T locs hx hZ hby hown X eT t k => XS.icmpYes X.here hx rfl rfl (hb hby hd) rfl hc ho rfl k
theorem r_if {cd : ClassFile.Cond} {off : Int} {x : Int32} (hd : DB bytes pc (.ifCond cd) off nx tgt) (K1 : if_icmp.holds cd x 0 = true → ORun l y bytes maxL ret R Z n0 as' Q h cells slots tgt ls st) (K2 : if_icmp.holds cd x 0 = false → ORun l y bytes maxL ret R Z n0 as' Q h cells slots nx ls st) : ORun l y bytes maxL ret R Z n0 as' Q h cells slots pc ls (.int x :: st) := by
  obtain ⟨hd, rfl, ho, rfl⟩ := hd
  cases hc : if_icmp.holds cd x 0
  · exact (K2 hc).step fun p e s m below meth c T locs hx hZ hby hown X eT t k => XS.ifNo X.here hx rfl (hb hby hd) rfl ((if0 _ _).trans hc) k
  · exact (K1 hc).step fun p e s m below meth c T locs hx hZ hby hown X eT t k => XS.ifYes X.here hx rfl rfl (hb hby hd) rfl ((if0 _ _).trans hc) ho rfl k
theorem r_icmp_lt {off : Int} {x z : Int32} (hd : DB bytes pc (.if_icmp .lt) off nx tgt) (K1 : x < z → ORun l y bytes maxL ret R Z n0 as' Q h cells slots tgt ls st) (K2 : ¬ x < z → ORun l y bytes maxL ret R Z n0 as' Q h cells slots nx ls st) : ORun l y bytes maxL ret R Z n0 as' Q h cells slots pc ls (.int z :: .int x :: st) :=
  r_icmp hd (fun q => K1 (Decidable.byContradiction fun r => by rw [(flt r).1] at q; cases q)) (fun q => K2 (fun r => by rw [(tlt r).1] at q; cases q))
theorem r_if_lt {off : Int} {x : Int32} (hd : DB bytes pc (.ifCond .lt) off nx tgt) (K1 : x < 0 → ORun l y bytes maxL ret R Z n0 as' Q h cells slots tgt ls st) (K2 : ¬ x < 0 → ORun l y bytes maxL ret R Z n0 as' Q h cells slots nx ls st) : ORun l y bytes maxL ret R Z n0 as' Q h cells slots pc ls (.int x :: st) :=
  r_if hd (fun q => K1 (Decidable.byContradiction fun r => by rw [(flt r).1] at q; cases q)) (fun q => K2 (fun r => by rw [(tlt r).1] at q; cases q))
theorem r_icmp_ge {off : Int} {x z : Int32} (hd : DB bytes pc (.if_icmp .ge) off nx tgt) (K1 : ¬ x < z → ORun l y bytes maxL ret R Z n0 as' Q h cells slots tgt ls st) (K2 : x < z → ORun l y bytes maxL ret R Z n0 as' Q h cells slots nx ls st) : ORun l y bytes maxL ret R Z n0 as' Q h cells slots pc ls (.int z :: .int x :: st) :=
  r_icmp hd (fun q => K1 (fun r => by rw [(tlt r).2.1] at q; cases q)) (fun q => K2 (Decidable.byContradiction fun r => by rw [(flt r).2.1] at q; cases q))
theorem r_if_ge {off : Int} {x : Int32} (hd : DB bytes pc (.ifCond .ge) off nx tgt) (K1 : ¬ x < 0 → ORun l y bytes maxL ret R Z n0 as' Q h cells slots tgt ls st) (K2 : x < 0 → ORun l y bytes maxL ret R Z n0 as' Q h cells slots nx ls st) : ORun l y bytes maxL ret R Z n0 as' Q h cells slots pc ls (.int x :: st) :=
  r_if hd (fun q => K1 (fun r => by rw [(tlt r).2.1] at q; cases q)) (fun q => K2 (Decidable.byContradiction fun r => by rw [(flt r).2.1] at q; cases q))
theorem r_icmp_gt {off : Int} {x z : Int32} (hd : DB bytes pc (.if_icmp .gt) off nx tgt) (K1 : z < x → ORun l y bytes maxL ret R Z n0 as' Q h cells slots tgt ls st) (K2 : ¬ z < x → ORun l y bytes maxL ret R Z n0 as' Q h cells slots nx ls st) : ORun l y bytes maxL ret R Z n0 as' Q h cells slots pc ls (.int z :: .int x :: st) :=
  r_icmp hd (fun q => K1 (Decidable.byContradiction fun r => by rw [(flt r).2.2.1] at q; cases q)) (fun q => K2 (fun r => by rw [(tlt r).2.2.1] at q; cases q))
theorem r_if_gt {off : Int} {x : Int32} (hd : DB bytes pc (.ifCond .gt) off nx tgt) (K1 : 0 < x → ORun l y bytes maxL ret R Z n0 as' Q h cells slots tgt ls st) (K2 : ¬ 0 < x → ORun l y bytes maxL ret R Z n0 as' Q h cells slots nx ls st) : ORun l y bytes maxL ret R Z n0 as' Q h cells slots pc ls (.int x :: st) :=
  r_if hd (fun q => K1 (Decidable.byContradiction fun r => by rw [(flt r).2.2.1] at q; cases q)) (fun q => K2 (fun r => by rw [(tlt r).2.2.1] at q; cases q))
theorem r_icmp_le {off : Int} {x z : Int32} (hd : DB bytes pc (.if_icmp .le) off nx tgt) (K1 : ¬ z < x → ORun l y bytes maxL ret R Z n0 as' Q h cells slots tgt ls st) (K2 : z < x → ORun l y bytes maxL ret R Z n0 as' Q h cells slots nx ls st) : ORun l y bytes maxL ret R Z n0 as' Q h cells slots pc ls (.int z :: .int x :: st) :=
  r_icmp hd (fun q => K1 (fun r => by rw [(tlt r).2.2.2] at q; cases q)) (fun q => K2 (Decidable.byContradiction fun r => by rw [(flt r).2.2.2] at q; cases q))
theorem r_if_le {off : Int} {x : Int32} (hd : DB bytes pc (.ifCond .le) off nx tgt) (K1 : ¬ 0 < x → ORun l y bytes maxL ret R Z n0 as' Q h cells slots tgt ls st) (K2 : 0 < x → ORun l y bytes maxL ret R Z n0 as' Q h cells slots nx ls st) : ORun l y bytes maxL ret R Z n0 as' Q h cells slots pc ls (.int x :: st) :=
  r_if hd (fun q => K1 (fun r => by rw [(tlt r).2.2.2] at q; cases q)) (fun q => K2 (Decidable.byContradiction fun r => by rw [(flt r).2.2.2] at q; cases q))
theorem r_icmp_eq {off : Int} {x z : Int32} (hd : DB bytes pc (.if_icmp .eq) off nx tgt) (K1 : x = z → ORun l y bytes maxL ret R Z n0 as' Q h cells slots tgt ls st) (K2 : ¬ x = z → ORun l y bytes maxL ret R Z n0 as' Q h cells slots nx ls st) : ORun l y bytes maxL ret R Z n0 as' Q h cells slots pc ls (.int z :: .int x :: st) :=
  r_icmp hd (fun q => K1 (Decidable.byContradiction fun r => by rw [(feq r).1] at q; cases q)) (fun q => K2 (fun r => by rw [(teq r).1] at q; cases q))
theorem r_if_eq {off : Int} {x : Int32} (hd : DB bytes pc (.ifCond .eq) off nx tgt) (K1 : x = 0 → ORun l y bytes maxL ret R Z n0 as' Q h cells slots tgt ls st) (K2 : ¬ x = 0 → ORun l y bytes maxL ret R Z n0 as' Q h cells slots nx ls st) : ORun l y bytes maxL ret R Z n0 as' Q h cells slots pc ls (.int x :: st) :=
  r_if hd (fun q => K1 (Decidable.byContradiction fun r => by rw [(feq r).1] at q; cases q)) (fun q => K2 (fun r => by rw [(teq r).1] at q; cases q))
theorem r_icmp_ne {off : Int} {x z : Int32} (hd : DB bytes pc (.if_icmp .ne) off nx tgt) (K1 : ¬ x = z → ORun l y bytes maxL ret R Z n0 as' Q h cells slots tgt ls st) (K2 : x = z → ORun l y bytes maxL ret R Z n0 as' Q h cells slots nx ls st) : ORun l y bytes maxL ret R Z n0 as' Q h cells slots pc ls (.int z :: .int x :: st) :=
  r_icmp hd (fun q => K1 (fun r => by rw [(teq r).2] at q; cases q)) (fun q => K2 (Decidable.byContradiction fun r => by rw [(feq r).2] at q; cases q))
theorem r_if_ne {off : Int} {x : Int32} (hd : DB bytes pc (.ifCond .ne) off nx tgt) (K1 : ¬ x = 0 → ORun l y bytes maxL ret R Z n0 as' Q h cells slots tgt ls st) (K2 : x = 0 → ORun l y bytes maxL ret R Z n0 as' Q h cells slots nx ls st) : ORun l y bytes maxL ret R Z n0 as' Q h cells slots pc ls (.int x :: st) :=
  r_if hd (fun q => K1 (fun r => by rw [(teq r).2] at q; cases q)) (fun q => K2 (Decidable.byContradiction fun r => by rw [(feq r).2] at q; cases q))
theorem r_ifnull0 {off : Int} (hd : DB bytes pc .ifnull off nx tgt) (K : ORun l y bytes maxL ret R Z n0 as' Q h cells slots tgt ls st) : ORun l y bytes maxL ret R Z n0 as' Q h cells slots pc ls (.null :: st) := by
  obtain ⟨hd, rfl, ho, rfl⟩ := hd
  exact K.step fun p e s m below meth c T locs hx hZ hby hown X eT t k => XS.ifnullYes X.here hx rfl rfl (hb hby hd) rfl ho rfl k
theorem r_ifnull1 {off : Int} {b : Addr} (hd : DB bytes pc .ifnull off nx tgt) (K : ORun l y bytes maxL ret R Z n0 as' Q h cells slots nx ls st) : ORun l y bytes maxL ret R Z n0 as' Q h cells slots pc ls (.ref b :: st) := by
  obtain ⟨hd, rfl, ho, rfl⟩ := hd
  exact K.step fun p e s m below meth c T locs hx hZ hby hown X eT t k => XS.ifnullNo X.here hx rfl (hb hby hd) rfl k
theorem r_ifnonnull0 {off : Int} (hd : DB bytes pc .ifnonnull off nx tgt) (K : ORun l y bytes maxL ret R Z n0 as' Q h cells slots nx ls st) : ORun l y bytes maxL ret R Z n0 as' Q h cells slots pc ls (.null :: st) := by
  obtain ⟨hd, rfl, ho, rfl⟩ := hd
  exact K.step fun p e s m below meth c T locs hx hZ hby hown X eT t k => XS.ifnonnullNo X.here hx rfl (hb hby hd) rfl k
theorem r_ifnonnull1 {off : Int} {b : Addr} (hd : DB bytes pc .ifnonnull off nx tgt) (K : ORun l y bytes maxL ret R Z n0 as' Q h cells slots tgt ls st) : ORun l y bytes maxL ret R Z n0 as' Q h cells slots pc ls (.ref b :: st) := by
  obtain ⟨hd, rfl, ho, rfl⟩ := hd
  exact K.step fun p e s m below meth c T locs hx hZ hby hown X eT t k => XS.ifnonnullYes X.here hx rfl rfl (hb hby hd) rfl ho rfl k
theorem r_acmp {cd : ACond} {off : Int} {x z : Value} (h1 : x.isRef = true) (h2 : z.isRef = true) (hd : DB bytes pc (.if_acmp cd) off nx tgt) (K1 : acV cd (decide (x = z)) = true → ORun l y bytes maxL ret R Z n0 as' Q h cells slots tgt ls st) (K2 : acV cd (decide (x = z)) = false → ORun l y bytes maxL ret R Z n0 as' Q h cells slots nx ls st) : ORun l y bytes maxL ret R Z n0 as' Q h cells slots pc ls (z :: x :: st) := by
  obtain ⟨hd, rfl, ho, rfl⟩ := hd
  cases hc : acV cd (decide (x = z))
  · exact (K2 hc).step fun p e s m below meth c T locs hx hZ hby hown X eT t k => Jvm.RoadKit.acmp (g := mkF m pc ls.toArray (z :: x :: st)) X hx rfl h1 h2 (same := decide (x = z)) rfl (hb hby hd) rfl rfl ho (by rw [hc]; rfl) k
  · exact (K1 hc).step fun p e s m below meth c T locs hx hZ hby hown X eT t k => Jvm.RoadKit.acmp (g := mkF m pc ls.toArray (z :: x :: st)) X hx rfl h1 h2 (same := decide (x = z)) rfl (hb hby hd) rfl rfl ho (by rw [hc]; rfl) k
theorem r_acmp_eq {off : Int} {x z : Value} (h1 : x.isRef = true) (h2 : z.isRef = true) (hd : DB bytes pc (.if_acmp .eq) off nx tgt) (K1 : x = z → ORun l y bytes maxL ret R Z n0 as' Q h cells slots tgt ls st) (K2 : ¬ x = z → ORun l y bytes maxL ret R Z n0 as' Q h cells slots nx ls st) : ORun l y bytes maxL ret R Z n0 as' Q h cells slots pc ls (z :: x :: st) :=
  r_acmp h1 h2 hd (fun q => K1 (by simpa [acV] using q)) (fun q => K2 (by simpa [acV] using q))
theorem r_acmp_ne {off : Int} {x z : Value} (h1 : x.isRef = true) (h2 : z.isRef = true) (hd : DB bytes pc (.if_acmp .ne) off nx tgt) (K1 : ¬ x = z → ORun l y bytes maxL ret R Z n0 as' Q h cells slots tgt ls st) (K2 : x = z → ORun l y bytes maxL ret R Z n0 as' Q h cells slots nx ls st) : ORun l y bytes maxL ret R Z n0 as' Q h cells slots pc ls (z :: x :: st) :=
  r_acmp h1 h2 hd (fun q => K1 (by simpa [acV] using q)) (fun q => K2 (by simpa [acV] using q))
/-! returns -/
theorem ORun.back {v : Option Value} (hv : ret = none → v = none) (hc : cells ≤ R.cells) (hs : slots ≤ R.slots) (hq : Q v h)
    (hl : ∀ (p : Program) (e : Env) (s : State) (m : MethodId) (below : List Frame) (meth : Method) (c : Code) (T : State) (locs : List Loc), p.tables.exec = Jvm.exec → c.code = bytes → meth.sig.returnType = ret → Stand p l e R s m as' below meth c T locs cells slots → ∀ fs : List Frame,
      (∀ (f : JFrame) (acts : List Action), f.method = m → f.locked = none → f.entered = [] → (doReturn e (T.setTop f) acts v).1 = T.setFrames fs) → Steps p.tables e below (T.setTop (mkF m pc ls.toArray st)) (T.setFrames fs)) : ORun l y bytes maxL ret R Z n0 as' Q h cells slots pc ls st :=
  fun p e s m below meth c T locs hx hZ hby hml hown hnm hret hlk X eT N => by
    obtain ⟨fs, hr, hrun, hended, hW, hsame⟩ := X.leave (v := v) (fun q => hv (hret ▸ q)) hlk
    exact ⟨_, _, hl p e s m below meth c T locs hx hby hret X fs hr, hrun, hended, v, locs, rfl, ⟨by show Q v T.heap; rw [eT]; exact hq, N⟩, ⟨v, rfl⟩, hW, hsame.mono hc hs⟩
theorem r_ret (hd : D bytes pc .return_ 1 nx) (hc : cells ≤ R.cells) (hs : slots ≤ R.slots) (hq : Q none h) : ORun l y bytes maxL none R Z n0 as' Q h cells slots pc ls [] :=
  ORun.back (fun _ => rfl) hc hs hq fun p e s m below meth c T locs hx hby hret X fs hr => X.returnOut hx hret (hb hby hd.1) hr
theorem r_iret {v : Int32} (hd : D bytes pc .ireturn 1 nx) (hc : cells ≤ R.cells) (hs : slots ≤ R.slots) (hq : Q (some (.int v)) h) : ORun l y bytes maxL (some .int) R Z n0 as' Q h cells slots pc ls (.int v :: st) :=
  ORun.back (fun q => nomatch q) hc hs hq fun p e s m below meth c T locs hx hby hret X fs hr => retOut X hx (t := .int) hret rfl (Or.inl ⟨rfl, Or.inl rfl, _, rfl⟩) (hb hby hd.1) hr
theorem r_nret {v : Int32} {t : FieldType} (ht : t = .boolean ∨ t = .byte ∨ t = .char ∨ t = .short) (hd : D bytes pc .ireturn 1 nx) (hc : cells ≤ R.cells) (hs : slots ≤ R.slots) (hq : Q (some (.int (nar t v))) h) : ORun l y bytes maxL (some t) R Z n0 as' Q h cells slots pc ls (.int v :: st) :=
  ORun.back (fun q => nomatch q) hc hs hq fun p e s m below meth c T locs hx hby hret X fs hr => retN X hx (t := t) hret ht (hb hby hd.1) hr
theorem r_lret {v : Int64} (hd : D bytes pc .lreturn 1 nx) (hc : cells ≤ R.cells) (hs : slots ≤ R.slots) (hq : Q (some (.long v)) h) : ORun l y bytes maxL (some .long) R Z n0 as' Q h cells slots pc ls (.long v :: st) :=
  ORun.back (fun q => nomatch q) hc hs hq fun p e s m below meth c T locs hx hby hret X fs hr => retOut X hx (t := .long) hret rfl (Or.inr (Or.inl ⟨rfl, rfl, _, rfl⟩)) (hb hby hd.1) hr
theorem r_aret {v : Value} {t : FieldType} (ht : t.isReference = true) (hv : v.isRef = true) (hn : narrow t v = v) (hd : D bytes pc .areturn 1 nx) (hc : cells ≤ R.cells) (hs : slots ≤ R.slots) (hq : Q (some v) h) : ORun l y bytes maxL (some t) R Z n0 as' Q h cells slots pc ls (v :: st) :=
  ORun.back (fun q => nomatch q) hc hs hq fun p e s m below meth c T locs hx hby hret X fs hr => retOut X hx (t := t) hret hn (Or.inr (Or.inr (Or.inr (Or.inr ⟨rfl, ht, hv⟩)))) (hb hby hd.1) hr
/-! fields, objects -/
theorem r_getF {index : Nat} {O n d host : String} {a : Addr} {v : Value} (w : (Cond.fieldLink y.cls index O n d).before a0 Z = true ∨ (Cond.fieldLinkNest y.cls index O n d host).before a0 Z = true) (F : Fld Z h a O n d v) (hd : D bytes pc (.getfield index) 3 nx) (K : ORun l y bytes maxL ret R Z n0 as' Q h cells slots nx ls (v :: st)) : ORun l y bytes maxL ret R Z n0 as' Q h cells slots pc ls (.ref a :: st) := by
  obtain ⟨hd, rfl⟩ := hd
  refine K.law fun p e s m below meth c T locs hx hZ hby hml hown hnm X eT N => ?_
  obtain ⟨T', X', e', st'⟩ := getF X hx hZ hown w Via.refl eT F (g := mkF m pc ls.toArray (.ref a :: st)) rfl rfl (hb hby hd)
  exact ⟨T', locs, X', e', N, st'⟩
theorem r_getS {index : Nat} {O n d : String} {v : Value} (w : (Cond.fieldLink y.cls index O n d).before a0 Z = true) (F : Sta Z h O n d v) (hd : D bytes pc (.getstatic index) 3 nx) (K : ORun l y bytes maxL ret R Z n0 as' Q h cells slots nx ls (v :: st)) : ORun l y bytes maxL ret R Z n0 as' Q h cells slots pc ls st := by
  obtain ⟨hd, rfl⟩ := hd
  refine K.law fun p e s m below meth c T locs hx hZ hby hml hown hnm X eT N => ?_
  obtain ⟨T', X', e', st'⟩ := getS2 X hx hZ hown (host := "") (Or.inl w) Via.refl eT F (g := mkF m pc ls.toArray st) rfl (hb hby hd)
  exact ⟨T', locs, X', e', N, st'⟩
theorem ORun.lawK {pc' : Nat} {st' : List Value} {cells' slots' : Nat} {P : Heap → Prop}
    (hs : ∀ (p : Program) (e : Env) (s : State) (m : MethodId) (below : List Frame) (meth : Method) (c : Code) (T : State) (locs : List Loc), p.tables.exec = Jvm.exec → Z.Warmed39 s.vm → c.code = bytes → c.maxLocals = maxL → s.vm.findClass y.cls = some m.cls → meth.name = y.name → Stand p l e R s m as' below meth c T locs cells slots → T.heap = h → Fr n0 locs →
      ∃ T' locs', Stand p l e R s m as' below meth c T' locs' cells' slots' ∧ P T'.heap ∧ Fr n0 locs' ∧ ∀ target, Steps p.tables e below (T'.setTop (mkF m pc' ls'.toArray st')) target → Steps p.tables e below (T.setTop (mkF m pc ls.toArray st)) target)
    (K : ∀ h', P h' → ORun l y bytes maxL ret R Z n0 as' Q h' cells' slots' pc' ls' st') : ORun l y bytes maxL ret R Z n0 as' Q h cells slots pc ls st :=
  fun p e s m below meth c T locs hx hZ hby hml hown hnm hret hlk X eT N => by
    obtain ⟨T', locs', X', eT', N', st⟩ := hs p e s m below meth c T locs hx hZ hby hml hown hnm X eT N
    obtain ⟨U, o, h1, h2⟩ := K _ eT' p e s m below meth c T' locs' hx hZ hby hml hown hnm hret hlk X' rfl N'
    exact ⟨U, o, st _ h1, h2⟩
theorem r_putF {index kk : Nat} {O n d C host : String} {ty : FieldType} {a : Addr} {v old : Value} (w : (Cond.fieldLink y.cls index O n d).before a0 Z = true ∨ (Cond.fieldLinkNest y.cls index O n d host).before a0 Z = true) (F : Fld Z h a O n d old) (E : Exa Z h a C)
    (L : (Cond.lays C O n d).before a0 Z = true ∨ ((Cond.laysFinal C O n d).before a0 Z = true ∧ y.cls = O ∧ y.name = "<init>")) (wi : (Cond.instantiable C kk).before a0 Z = true) (hty : parseFieldDescriptor d = some ty) (hn : narrow ty v = v) (hf : fits ty v = true) (ge : n0 ≤ a) (hd : D bytes pc (.putfield index) 3 nx)
    (K : ∀ h', Wr h h' a (Jvm.RoadKit.slotOf Z O n d) v → ORun l y bytes maxL ret R Z n0 as' Q h' cells slots nx ls st) : ORun l y bytes maxL ret R Z n0 as' Q h cells slots pc ls (v :: .ref a :: st) := by
  obtain ⟨hd, rfl⟩ := hd
  refine ORun.lawK (fun p e s m below meth c T locs hx hZ hby hml hown hnm X eT N => ?_) K
  obtain ⟨T', h', X', rfl, W, st'⟩ := putF X hx hZ hown w Via.refl eT F E (L.imp id fun q => ⟨q.1, q.2.1, hnm.trans q.2.2⟩) wi hty hn hf (g := mkF m pc ls.toArray (v :: .ref a :: st)) rfl rfl (hb hby hd)
  exact ⟨T', _, X', W, Fr.snoc X' N ge, st'⟩
theorem r_putFN {index kk : Nat} {O n d C : String} {ty : FieldType} {a : Addr} {v v' old : Value} (w : (Cond.fieldLink y.cls index O n d).before a0 Z = true) (F : Fld Z h a O n d old) (E : Exa Z h a C)
    (L : (Cond.lays C O n d).before a0 Z = true ∨ ((Cond.laysFinal C O n d).before a0 Z = true ∧ y.cls = O ∧ y.name = "<init>")) (wi : (Cond.instantiable C kk).before a0 Z = true) (hty : parseFieldDescriptor d = some ty) (hn : narrow ty v = v') (hf : fits ty v' = true) (ge : n0 ≤ a) (hd : D bytes pc (.putfield index) 3 nx)
    (K : ∀ h', Wr h h' a (Jvm.RoadKit.slotOf Z O n d) v' → ORun l y bytes maxL ret R Z n0 as' Q h' cells slots nx ls st) : ORun l y bytes maxL ret R Z n0 as' Q h cells slots pc ls (v :: .ref a :: st) := by
  obtain ⟨hd, rfl⟩ := hd
  refine ORun.lawK (fun p e s m below meth c T locs hx hZ hby hml hown hnm X eT N => ?_) K
  obtain ⟨T', h', X', rfl, W, st'⟩ := putFN X hx hZ hown w Via.refl eT F E (L.imp id fun q => ⟨q.1, q.2.1, hnm.trans q.2.2⟩) wi hty hn hf (g := mkF m pc ls.toArray (v :: .ref a :: st)) rfl rfl (hb hby hd)
  exact ⟨T', _, X', W, Fr.snoc X' N ge, st'⟩
theorem r_new {index n : Nat} {C : String} (w : (Cond.classLink y.cls index C).before a0 Z = true) (wi : (Cond.instantiable C n).before a0 Z = true) (wz : (Cond.initialized C).before a0 Z = true) (hd : D bytes pc (.new index) 3 nx) (hc : cells + 1 ≤ R.cells) (hl : slots + n ≤ R.slots)
    (K : ∀ h', Ext h h' ∧ Exa Z h' h.size C ∧ (∀ {O nm d : String} {ty : FieldType}, Laid Z a0 C O nm d → parseFieldDescriptor d = some ty → Fld Z h' h.size O nm d (defaultValue ty)) → ORun l y bytes maxL ret R Z n0 as' Q h' (cells + 1) (slots + n) nx ls (.ref h.size :: st)) : ORun l y bytes maxL ret R Z n0 as' Q h cells slots pc ls st := by
  obtain ⟨hd, rfl⟩ := hd
  refine ORun.lawK (fun p e s m below meth c T locs hx hZ hby hml hown hnm X eT N => ?_) K
  obtain ⟨T', h', X', rfl, E, A, D', -, st'⟩ := newO X hx hZ hown w wi wz eT (g := mkF m pc ls.toArray st) rfl (hb hby hd) hc hl
  exact ⟨T', _, X', ⟨E, A, D'⟩, N, st'⟩
theorem r_newarr {aty : ArrayType} {n : Int32} (cap : Nat) (w : (Cond.arrayClass (newarray.typeOf aty)).before a0 Z = true) (hd : D bytes pc (.newarray aty) 2 nx) (hn : ¬ n < 0) (hcap : n.toNatClampNeg ≤ cap) (hb' : cap * 8 ≤ 536870912) (hc : cells + 1 ≤ R.cells) (hl : slots + cap ≤ R.slots)
    (K : ∀ h' cA, Ext h h' → Arr Z h' h.size (newA cA (newarray.typeOf aty) n) (newarray.typeOf aty) → ORun l y bytes maxL ret R Z n0 as' Q h' (cells + 1) (slots + cap) nx ls (.ref h.size :: st)) : ORun l y bytes maxL ret R Z n0 as' Q h cells slots pc ls (.int n :: st) := by
  obtain ⟨hd, rfl⟩ := hd
  refine ORun.lawK (P := fun h' => ∃ cA, Ext h h' ∧ Arr Z h' h.size (newA cA (newarray.typeOf aty) n) (newarray.typeOf aty)) (fun p e s m below meth c T locs hx hZ hby hml hown hnm X eT N => ?_) (fun h' q => by obtain ⟨cA, E, A⟩ := q; exact K h' cA E A)
  obtain ⟨T', h', cA, X', rfl, E, A, st'⟩ := newP X hx hZ w eT (g := mkF m pc ls.toArray (.int n :: st)) rfl (hb hby hd) rfl hn hcap hb' hc hl
  exact ⟨T', _, X', ⟨cA, E, A⟩, N, st'⟩
/-! arrays -/
theorem r_len {a : Addr} {cl : Cell} {ty : FieldType} (A : Arr Z h a cl ty) (hd : D bytes pc .arraylength 1 nx) (K : ORun l y bytes maxL ret R Z n0 as' Q h cells slots nx ls (.int cl.slots.size.toInt32 :: st)) : ORun l y bytes maxL ret R Z n0 as' Q h cells slots pc ls (.ref a :: st) := by
  obtain ⟨hd, rfl⟩ := hd
  exact K.step fun p e s m below meth c T locs hx hZ hby hown X eT t k => X.arraylength hx (by rw [eT]; exact A.1) (State.isArrayOf_alike hZ.alike A.2.1) (g := mkF m pc ls.toArray (.ref a :: st)) rfl rfl (hb hby hd) _ k
theorem r_iaload {a : Addr} {cl : Cell} {j : Int32} {v : Value} (A : Arr Z h a cl .int) (hj : ¬ (j < 0 ∨ cl.slots.size ≤ j.toNatClampNeg)) (hv : cl.slots[j.toNatClampNeg]? = some v) (hd : D bytes pc .iaload 1 nx) (K : ORun l y bytes maxL ret R Z n0 as' Q h cells slots nx ls (v :: st)) : ORun l y bytes maxL ret R Z n0 as' Q h cells slots pc ls (.int j :: .ref a :: st) := by
  obtain ⟨hd, rfl⟩ := hd
  exact K.step fun p e s m below meth c T locs hx hZ hby hown X eT t k => X.iaload hx (j := j) (v := v) (by rw [eT]; exact A.1) (State.isArrayOf_alike hZ.alike A.2.1) A.2.2 hj hv (g := mkF m pc ls.toArray (.int j :: .ref a :: st)) rfl rfl (hb hby hd) _ k
theorem r_caload {a : Addr} {cl : Cell} {j : Int32} {v : Value} (A : Arr Z h a cl .char) (hj : ¬ (j < 0 ∨ cl.slots.size ≤ j.toNatClampNeg)) (hv : cl.slots[j.toNatClampNeg]? = some v) (hd : D bytes pc .caload 1 nx) (K : ORun l y bytes maxL ret R Z n0 as' Q h cells slots nx ls (v :: st)) : ORun l y bytes maxL ret R Z n0 as' Q h cells slots pc ls (.int j :: .ref a :: st) := by
  obtain ⟨hd, rfl⟩ := hd
  exact K.step fun p e s m below meth c T locs hx hZ hby hown X eT t k => X.caload hx (j := j) (v := v) (by rw [eT]; exact A.1) (State.isArrayOf_alike hZ.alike A.2.1) A.2.2 hj hv (g := mkF m pc ls.toArray (.int j :: .ref a :: st)) rfl rfl (hb hby hd) _ k
theorem r_baload {a : Addr} {cl : Cell} {j : Int32} {v : Value} (A : Arr Z h a cl .byte) (hj : ¬ (j < 0 ∨ cl.slots.size ≤ j.toNatClampNeg)) (hv : cl.slots[j.toNatClampNeg]? = some v) (hd : D bytes pc .baload 1 nx) (K : ORun l y bytes maxL ret R Z n0 as' Q h cells slots nx ls (v :: st)) : ORun l y bytes maxL ret R Z n0 as' Q h cells slots pc ls (.int j :: .ref a :: st) := by
  obtain ⟨hd, rfl⟩ := hd
  exact K.step fun p e s m below meth c T locs hx hZ hby hown X eT t k => X.baloadBytes hx (j := j) (v := v) (by rw [eT]; exact A.1) (State.isArrayOf_alike hZ.alike A.2.1) A.2.2 hj hv (g := mkF m pc ls.toArray (.int j :: .ref a :: st)) rfl rfl (hb hby hd) _ k
theorem r_laload {a : Addr} {cl : Cell} {j : Int32} {v : Value} (A : Arr Z h a cl .long) (hj : ¬ (j < 0 ∨ cl.slots.size ≤ j.toNatClampNeg)) (hv : cl.slots[j.toNatClampNeg]? = some v) (hd : D bytes pc .laload 1 nx) (K : ORun l y bytes maxL ret R Z n0 as' Q h cells slots nx ls (v :: st)) : ORun l y bytes maxL ret R Z n0 as' Q h cells slots pc ls (.int j :: .ref a :: st) := by
  obtain ⟨hd, rfl⟩ := hd
  exact K.step fun p e s m below meth c T locs hx hZ hby hown X eT t k => X.laload hx (j := j) (v := v) (by rw [eT]; exact A.1) (State.isArrayOf_alike hZ.alike A.2.1) A.2.2 hj hv (g := mkF m pc ls.toArray (.int j :: .ref a :: st)) rfl rfl (hb hby hd) _ k
theorem r_saload {a : Addr} {cl : Cell} {j : Int32} {v : Value} (A : Arr Z h a cl .short) (hj : ¬ (j < 0 ∨ cl.slots.size ≤ j.toNatClampNeg)) (hv : cl.slots[j.toNatClampNeg]? = some v) (hd : D bytes pc .saload 1 nx) (K : ORun l y bytes maxL ret R Z n0 as' Q h cells slots nx ls (v :: st)) : ORun l y bytes maxL ret R Z n0 as' Q h cells slots pc ls (.int j :: .ref a :: st) := by
  obtain ⟨hd, rfl⟩ := hd
  exact K.step fun p e s m below meth c T locs hx hZ hby hown X eT t k => X.saload hx (j := j) (v := v) (by rw [eT]; exact A.1) (State.isArrayOf_alike hZ.alike A.2.1) A.2.2 hj hv (g := mkF m pc ls.toArray (.int j :: .ref a :: st)) rfl rfl (hb hby hd) _ k
theorem r_aaload {a : Addr} {cl : Cell} {j : Int32} {v : Value} {ty : FieldType} (A : Arr Z h a cl ty) (hty : ty.isReference = true) (hj : ¬ (j < 0 ∨ cl.slots.size ≤ j.toNatClampNeg)) (hv : cl.slots[j.toNatClampNeg]? = some v) (hd : D bytes pc .aaload 1 nx) (K : ORun l y bytes maxL ret R Z n0 as' Q h cells slots nx ls (v :: st)) : ORun l y bytes maxL ret R Z n0 as' Q h cells slots pc ls (.int j :: .ref a :: st) := by
  obtain ⟨hd, rfl⟩ := hd
  exact K.step fun p e s m below meth c T locs hx hZ hby hown X eT t k => X.aaload hx (j := j) (v := v) (by rw [eT]; exact A.1) (State.isArrayOf_alike hZ.alike A.2.1) hty A.2.2 hj hv (g := mkF m pc ls.toArray (.int j :: .ref a :: st)) rfl rfl (hb hby hd) _ k
theorem r_iastore {a : Addr} {cl : Cell} {j : Int32} {x : Int32} (A : Arr Z h a cl .int) (hj : ¬ (j < 0 ∨ cl.slots.size ≤ j.toNatClampNeg)) (ge : n0 ≤ a) (hd : D bytes pc .iastore 1 nx) (K : ∀ h', Wr h h' a j.toNatClampNeg (.int x) → ORun l y bytes maxL ret R Z n0 as' Q h' cells slots nx ls st) : ORun l y bytes maxL ret R Z n0 as' Q h cells slots pc ls (.int x :: .int j :: .ref a :: st) := by
  obtain ⟨hd, rfl⟩ := hd
  refine ORun.lawK (fun p e s m below meth c T locs hx hZ hby hml hown hnm X eT N => ?_) K
  obtain ⟨T', h', X', rfl, W, st'⟩ := stI X hx hZ eT A hj (g := mkF m pc ls.toArray (.int x :: .int j :: .ref a :: st)) rfl rfl (hb hby hd)
  exact ⟨T', _, X', W, Fr.snoc X' N ge, st'⟩
theorem r_castore {a : Addr} {cl : Cell} {j : Int32} {x : Int32} (A : Arr Z h a cl .char) (hj : ¬ (j < 0 ∨ cl.slots.size ≤ j.toNatClampNeg)) (ge : n0 ≤ a) (hd : D bytes pc .castore 1 nx) (K : ∀ h', Wr h h' a j.toNatClampNeg (.int (nar .char x)) → ORun l y bytes maxL ret R Z n0 as' Q h' cells slots nx ls st) : ORun l y bytes maxL ret R Z n0 as' Q h cells slots pc ls (.int x :: .int j :: .ref a :: st) := by
  obtain ⟨hd, rfl⟩ := hd
  refine ORun.lawK (fun p e s m below meth c T locs hx hZ hby hml hown hnm X eT N => ?_) K
  obtain ⟨T', h', X', rfl, W, st'⟩ := stC X hx hZ eT A hj (g := mkF m pc ls.toArray (.int x :: .int j :: .ref a :: st)) rfl rfl (hb hby hd)
  exact ⟨T', _, X', W, Fr.snoc X' N ge, st'⟩
theorem r_bastore {a : Addr} {cl : Cell} {j : Int32} {x : Int32} (A : Arr Z h a cl .byte) (hj : ¬ (j < 0 ∨ cl.slots.size ≤ j.toNatClampNeg)) (ge : n0 ≤ a) (hd : D bytes pc .bastore 1 nx) (K : ∀ h', Wr h h' a j.toNatClampNeg (.int (nar .byte x)) → ORun l y bytes maxL ret R Z n0 as' Q h' cells slots nx ls st) : ORun l y bytes maxL ret R Z n0 as' Q h cells slots pc ls (.int x :: .int j :: .ref a :: st) := by
  obtain ⟨hd, rfl⟩ := hd
  refine ORun.lawK (fun p e s m below meth c T locs hx hZ hby hml hown hnm X eT N => ?_) K
  obtain ⟨T', h', X', rfl, W, st'⟩ := stB X hx hZ eT A hj (g := mkF m pc ls.toArray (.int x :: .int j :: .ref a :: st)) rfl rfl (hb hby hd)
  exact ⟨T', _, X', W, Fr.snoc X' N ge, st'⟩
theorem r_lastore {a : Addr} {cl : Cell} {j : Int32} {x : Int64} (A : Arr Z h a cl .long) (hj : ¬ (j < 0 ∨ cl.slots.size ≤ j.toNatClampNeg)) (ge : n0 ≤ a) (hd : D bytes pc .lastore 1 nx) (K : ∀ h', Wr h h' a j.toNatClampNeg (.long x) → ORun l y bytes maxL ret R Z n0 as' Q h' cells slots nx ls st) : ORun l y bytes maxL ret R Z n0 as' Q h cells slots pc ls (.long x :: .int j :: .ref a :: st) := by
  obtain ⟨hd, rfl⟩ := hd
  refine ORun.lawK (fun p e s m below meth c T locs hx hZ hby hml hown hnm X eT N => ?_) K
  obtain ⟨T', h', X', rfl, W, st'⟩ := stJ X hx hZ eT A hj (g := mkF m pc ls.toArray (.long x :: .int j :: .ref a :: st)) rfl rfl (hb hby hd)
  exact ⟨T', _, X', W, Fr.snoc X' N ge, st'⟩
theorem r_lenA {a : Addr} {ty : FieldType} {vs : List Int32} (n : Int32) (A : Ary Z h a ty vs) (hn : vs.length.toInt32 = n) (hd : D bytes pc .arraylength 1 nx) (K : ORun l y bytes maxL ret R Z n0 as' Q h cells slots nx ls (.int n :: st)) : ORun l y bytes maxL ret R Z n0 as' Q h cells slots pc ls (.ref a :: st) := by
  obtain ⟨c, A, q⟩ := A
  refine r_len A hd ?_
  rw [Ary.size q, hn]; exact K
theorem r_ldI {a : Addr} {vs : List Int32} {j : Int32} (x : Int32) (A : Ary Z h a .int vs) (hj : ¬ j < 0) (hv : vs[j.toNatClampNeg]? = some x) (hd : D bytes pc .iaload 1 nx) (K : ORun l y bytes maxL ret R Z n0 as' Q h cells slots nx ls (.int x :: st)) : ORun l y bytes maxL ret R Z n0 as' Q h cells slots pc ls (.int j :: .ref a :: st) := by
  obtain ⟨c, A, q⟩ := A
  have e := Ary.inb q hj hv
  exact r_iaload A e.1 e.2 hd K
theorem r_ldC {a : Addr} {vs : List Int32} {j : Int32} (x : Int32) (A : Ary Z h a .char vs) (hj : ¬ j < 0) (hv : vs[j.toNatClampNeg]? = some x) (hd : D bytes pc .caload 1 nx) (K : ORun l y bytes maxL ret R Z n0 as' Q h cells slots nx ls (.int x :: st)) : ORun l y bytes maxL ret R Z n0 as' Q h cells slots pc ls (.int j :: .ref a :: st) := by
  obtain ⟨c, A, q⟩ := A
  have e := Ary.inb q hj hv
  exact r_caload A e.1 e.2 hd K
theorem r_ldB {a : Addr} {vs : List Int32} {j : Int32} (x : Int32) (A : Ary Z h a .byte vs) (hj : ¬ j < 0) (hv : vs[j.toNatClampNeg]? = some x) (hd : D bytes pc .baload 1 nx) (K : ORun l y bytes maxL ret R Z n0 as' Q h cells slots nx ls (.int x :: st)) : ORun l y bytes maxL ret R Z n0 as' Q h cells slots pc ls (.int j :: .ref a :: st) := by
  obtain ⟨c, A, q⟩ := A
  have e := Ary.inb q hj hv
  exact r_baload A e.1 e.2 hd K
theorem r_stI {a : Addr} {vs : List Int32} {j x : Int32} (i : Nat) (vs' : List Int32) (A : Ary Z h a .int vs) (hj : ¬ j < 0) (hi : j.toNatClampNeg = i) (hl : i < vs.length) (hvs : vs.set i x = vs') (ge : n0 ≤ a) (hd : D bytes pc .iastore 1 nx) (K : ∀ h', Wr h h' a i (.int x) → Ary Z h' a .int vs' → ORun l y bytes maxL ret R Z n0 as' Q h' cells slots nx ls st) : ORun l y bytes maxL ret R Z n0 as' Q h cells slots pc ls (.int x :: .int j :: .ref a :: st) := by
  have A' := A
  obtain ⟨c, A, q⟩ := A
  subst hi
  refine r_iastore A (fun r => ?_) ge hd fun h' W => K h' W (A'.set W hvs)
  rcases r with r | r
  · exact hj r
  · rw [Ary.size q] at r; omega
theorem r_stC {a : Addr} {vs : List Int32} {j x : Int32} (i : Nat) (vs' : List Int32) (A : Ary Z h a .char vs) (hj : ¬ j < 0) (hi : j.toNatClampNeg = i) (hl : i < vs.length) (hvs : vs.set i (nar .char x) = vs') (ge : n0 ≤ a) (hd : D bytes pc .castore 1 nx) (K : ∀ h', Wr h h' a i (.int (nar .char x)) → Ary Z h' a .char vs' → ORun l y bytes maxL ret R Z n0 as' Q h' cells slots nx ls st) : ORun l y bytes maxL ret R Z n0 as' Q h cells slots pc ls (.int x :: .int j :: .ref a :: st) := by
  have A' := A
  obtain ⟨c, A, q⟩ := A
  subst hi
  refine r_castore A (fun r => ?_) ge hd fun h' W => K h' W (A'.set W hvs)
  rcases r with r | r
  · exact hj r
  · rw [Ary.size q] at r; omega
theorem r_stB {a : Addr} {vs : List Int32} {j x : Int32} (i : Nat) (vs' : List Int32) (A : Ary Z h a .byte vs) (hj : ¬ j < 0) (hi : j.toNatClampNeg = i) (hl : i < vs.length) (hvs : vs.set i (nar .byte x) = vs') (ge : n0 ≤ a) (hd : D bytes pc .bastore 1 nx) (K : ∀ h', Wr h h' a i (.int (nar .byte x)) → Ary Z h' a .byte vs' → ORun l y bytes maxL ret R Z n0 as' Q h' cells slots nx ls st) : ORun l y bytes maxL ret R Z n0 as' Q h cells slots pc ls (.int x :: .int j :: .ref a :: st) := by
  have A' := A
  obtain ⟨c, A, q⟩ := A
  subst hi
  refine r_bastore A (fun r => ?_) ge hd fun h' W => K h' W (A'.set W hvs)
  rcases r with r | r
  · exact hj r
  · rw [Ary.size q] at r; omega
/-! calls -/
theorem r_initO {idx : Nat} {a : Addr} (w1 : (Cond.methodLink y.cls idx Lib.objectInit).before a0 Z = true) (w2 : (Cond.instanceMethod Lib.objectInit).before a0 Z = true) (w3 : (Cond.code Lib.objectInit ⟨#[0xb1]⟩ 1 none).before a0 Z = true) (hd : D bytes pc (.invokespecial idx) 3 nx) (hsz : ls.length = maxL) (hf : 1 ≤ R.frames) (W : Nat) (hW : (st.map fun v => v.category).sum = W) (hl : W + 12 ≤ R.locals)
    (K : ORun l y bytes maxL ret R Z n0 as' Q h cells slots nx ls st) : ORun l y bytes maxL ret R Z n0 as' Q h cells slots pc ls (.ref a :: st) := by
  obtain ⟨hd, rfl⟩ := hd
  refine K.law fun p e s m below meth c T locs hx hZ hby hml hown hnm X eT N => ?_
  obtain ⟨T', X', e', st'⟩ := initO X hx hZ hown w1 w2 w3 eT (g := mkF m pc ls.toArray (.ref a :: st)) rfl (by rw [hml]; simpa using hsz) rfl (hb hby hd) hf (W := W) (by show 2 * 0 + _ ≤ _; omega) hl
  exact ⟨T', locs, X', e', N, st'⟩
theorem ORun.call {y' : MethodName} {R' : Room} {Q' : Option Value → Heap → Prop} {rest : List Value}
    (hs : ∀ (p : Program) (e : Env) (s : State) (m : MethodId) (below : List Frame) (meth : Method) (c : Code) (T : State) (locs : List Loc), p.tables.exec = Jvm.exec → Z.Warmed39 s.vm → c.code = bytes → c.maxLocals = maxL → s.vm.findClass y.cls = some m.cls → Stand p l e R s m as' below meth c T locs cells slots → T.heap = h →
      ∃ (v : Option Value) (B : Pt), Stand p l e R s m as' below meth c B.U B.locs B.cells B.slots ∧ (∃ L, (Q' v B.U.heap ∧ Fr n0 L) ∧ B.locs = locs ++ L ∧ B.cells = cells + R'.cells ∧ B.slots = slots + R'.slots) ∧
        ∀ target, Steps p.tables e below (B.U.setTop (mkF m nx ls.toArray (v.toList ++ rest))) target → Steps p.tables e below (T.setTop (mkF m pc ls.toArray st)) target)
    (K : ∀ v h', Q' v h' → ORun l y bytes maxL ret R Z n0 as' Q h' (cells + R'.cells) (slots + R'.slots) nx ls (v.toList ++ rest)) : ORun l y bytes maxL ret R Z n0 as' Q h cells slots pc ls st :=
  fun p e s m below meth c T locs hx hZ hby hml hown hnm hret hlk X eT N => by
    obtain ⟨v, ⟨T', L', k', n'⟩, X', ⟨L, ⟨hq, N'⟩, q1, q2, q3⟩, st⟩ := hs p e s m below meth c T locs hx hZ hby hml hown X eT
    dsimp only [Pt.U, Pt.locs, Pt.cells, Pt.slots] at X' q1 q2 q3 st hq
    subst q1 q2 q3
    obtain ⟨U, o, h1, h2⟩ := K v _ hq p e s m below meth c T' _ hx hZ hby hml hown hnm hret hlk X' rfl (Fr.app N N')
    exact ⟨U, o, st _ h1, h2⟩
variable {b' : ByteArray} {mL' : Nat} {ret' : Option FieldType} {R' : Room} {Q' : Option Value → Heap → Prop} {y' : MethodName} {idx : Nat}
theorem r_static (argsL rest : List Value) (hst : st = argsL.reverse ++ rest) {ps : List FieldType} (hpd : parseMethodDescriptor y'.desc = some ⟨ps, ret'⟩) (hlen : argsL.length = ps.length)
    (w1 : (Cond.methodLink y.cls idx y').before a0 Z = true) (w2 : (Cond.static y').before a0 Z = true) (w3 : (Cond.initialized y'.cls).before a0 Z = true) (w4 : (Cond.code y' b' mL' ret').before a0 Z = true) (hy : y'.cls ≠ "java/lang/invoke/MethodHandle" ∧ y'.cls ≠ "java/lang/invoke/VarHandle")
    (C : Ct l y' b' mL' ret' [] R' Z n0 argsL.toArray h Q') (hd : D bytes pc (.invokestatic idx) 3 nx) (hsz : ls.length = maxL) (hf : R'.frames + 1 ≤ R.frames) (W : Nat) (hW : (rest.map fun v => v.category).sum = W) (hl : W + (mL' + 11) + R'.locals ≤ R.locals) (hc : cells + R'.cells ≤ R.cells) (hs : slots + R'.slots ≤ R.slots)
    (K : ∀ v h', Q' v h' → ORun l y bytes maxL ret R Z n0 as' Q h' (cells + R'.cells) (slots + R'.slots) nx ls (v.toList ++ rest)) : ORun l y bytes maxL ret R Z n0 as' Q h cells slots pc ls st := by
  obtain ⟨hd, rfl⟩ := hd
  subst hst
  refine ORun.call (y' := y') (fun p e s m below meth c T locs hx hZ hby hml hown X eT => ?_) K
  obtain ⟨v, _, B, -, X', hq, st'⟩ := Jvm.LawKit.callS X hx (y := y') hown (mvT hZ w1) (mvT hZ w2) (mvT hZ w3) (mvT hZ w4) hy (backOf (len := 3) (W := W) (Q := fun v h L => Q' v h ∧ Fr n0 L) C hZ w4 w3 hf hl) (g := mkF m pc ls.toArray (argsL.reverse ++ rest)) rfl (by rw [hml]; simpa using hsz) (argsL := argsL) (rest := rest) (lenOf hpd hlen) rfl (by show 2 * 0 + _ ≤ _; omega) (hb hby hd) (fun _ _ => ⟨rfl, eT, hc, hs⟩)
  exact ⟨v, B, X', hq, st'⟩
theorem r_special (argsL rest : List Value) (a : Addr) (hst : st = argsL.reverse ++ .ref a :: rest) {ps : List FieldType} (hpd : parseMethodDescriptor y'.desc = some ⟨ps, none⟩) (hlen : argsL.length = ps.length) (hn : y'.name = "<init>")
    (w1 : (Cond.methodLink y.cls idx y').before a0 Z = true) (w2 : (Cond.instanceMethod y').before a0 Z = true) (w3 : (Cond.initialized y'.cls).before a0 Z = true) (w4 : (Cond.code y' b' mL' none).before a0 Z = true) (hy : y'.cls ≠ "java/lang/invoke/MethodHandle" ∧ y'.cls ≠ "java/lang/invoke/VarHandle")
    (C : Ct l y' b' mL' none [] R' Z n0 (.ref a :: argsL).toArray h Q') (hd : D bytes pc (.invokespecial idx) 3 nx) (hsz : ls.length = maxL) (hf : R'.frames + 1 ≤ R.frames) (W : Nat) (hW : (rest.map fun v => v.category).sum = W) (hl : W + (mL' + 11) + R'.locals ≤ R.locals) (hc : cells + R'.cells ≤ R.cells) (hs : slots + R'.slots ≤ R.slots)
    (K : ∀ v h', Q' v h' → ORun l y bytes maxL ret R Z n0 as' Q h' (cells + R'.cells) (slots + R'.slots) nx ls (v.toList ++ rest)) : ORun l y bytes maxL ret R Z n0 as' Q h cells slots pc ls st := by
  obtain ⟨hd, rfl⟩ := hd
  subst hst
  refine ORun.call (y' := y') (fun p e s m below meth c T locs hx hZ hby hml hown X eT => ?_) K
  obtain ⟨v, _, B, -, X', hq, st'⟩ := X.specialBack hx (y := y') hn hown (mvT hZ w1) (mvT hZ w2) (mvT hZ w4) hy (backOf (len := 3) (W := W) (Q := fun v h L => Q' v h ∧ Fr n0 L) C hZ w4 w3 hf hl) (g := mkF m pc ls.toArray (argsL.reverse ++ .ref a :: rest)) rfl (by rw [hml]; simpa using hsz) (Steps.refl _) (a := a) (argsL := argsL) (rest := rest) (lenOf hpd hlen) rfl (by show 2 * 0 + _ ≤ _; omega) (hb hby hd) (fun _ _ => ⟨rfl, eT, hc, hs⟩)
  exact ⟨v, B, X', hq, fun t k => st'.trans k⟩
theorem r_virtual (argsL rest : List Value) (a : Addr) {C : String} (E : Exa Z h a C) (hst : st = argsL.reverse ++ .ref a :: rest) {ps : List FieldType} (hpd : parseMethodDescriptor y'.desc = some ⟨ps, ret'⟩) (hlen : argsL.length = ps.length)
    (w1 : (Cond.methodLink y.cls idx y').before a0 Z = true) (w2 : (Cond.declares y').before a0 Z = true) (ws : (Cond.selects C y' y').before a0 Z = true) (w5 : (Cond.instanceMethod y').before a0 Z = true) (w3 : (Cond.initialized y'.cls).before a0 Z = true) (w4 : (Cond.code y' b' mL' ret').before a0 Z = true) (hC : C = y'.cls) (hy : y'.cls ≠ "java/lang/invoke/MethodHandle" ∧ y'.cls ≠ "java/lang/invoke/VarHandle")
    (C' : Ct l y' b' mL' ret' [] R' Z n0 (.ref a :: argsL).toArray h Q') (hd : D bytes pc (.invokevirtual idx) 3 nx) (hsz : ls.length = maxL) (hf : R'.frames + 1 ≤ R.frames) (W : Nat) (hW : (rest.map fun v => v.category).sum = W) (hl : W + (mL' + 11) + R'.locals ≤ R.locals) (hc : cells + R'.cells ≤ R.cells) (hs : slots + R'.slots ≤ R.slots)
    (K : ∀ v h', Q' v h' → ORun l y bytes maxL ret R Z n0 as' Q h' (cells + R'.cells) (slots + R'.slots) nx ls (v.toList ++ rest)) : ORun l y bytes maxL ret R Z n0 as' Q h cells slots pc ls st := by
  obtain ⟨hd, rfl⟩ := hd
  subst hst hC
  refine ORun.call (y' := y') (fun p e s m below meth c T locs hx hZ hby hml hown X eT => ?_) K
  obtain ⟨cq, kq, q1, q2, q3⟩ := isOf hZ eT E
  obtain ⟨v, _, B, -, X', hq, st'⟩ := X.virtualBack hx (y := y') (z := y') hown (mvT hZ w1) (mvT hZ w2) (notFace_of_selects (args := #[]) (mvT hZ ws)) (mvT hZ ws) (mvT hZ w5) hy (backOf (len := 3) (W := W) (Q := fun v h L => Q' v h ∧ Fr n0 L) C' hZ w4 w3 hf hl) q1 q3 (g := mkF m pc ls.toArray (argsL.reverse ++ .ref a :: rest)) rfl (by rw [hml]; simpa using hsz) (Steps.refl _) (argsL := argsL) (rest := rest) (lenOf hpd hlen) rfl (by show 2 * 0 + _ ≤ _; omega) (hb hby hd) (fun _ _ => ⟨rfl, eT, hc, hs⟩)
  exact ⟨v, B, X', hq, fun t k => st'.trans k⟩
theorem r_staticP (argsL rest : List Value) (hst : st = argsL.reverse ++ rest) {ps : List FieldType} (hpd : parseMethodDescriptor y'.desc = some ⟨ps, ret'⟩) (hlen : argsL.length = ps.length)
    (w1 : (Cond.methodLink y.cls idx y').before a0 Z = true) (w2 : (Cond.static y').before a0 Z = true) (w3 : (Cond.initialized y'.cls).before a0 Z = true) (w4 : (Cond.code y' b' mL' ret').before a0 Z = true) (hy : y'.cls ≠ "java/lang/invoke/MethodHandle" ∧ y'.cls ≠ "java/lang/invoke/VarHandle") {w : Value}
    (C : Ct l y' b' mL' ret' [] R' Z n0 argsL.toArray h (fun v h' => v = some w ∧ h' = h)) (hd : D bytes pc (.invokestatic idx) 3 nx) (hsz : ls.length = maxL) (hf : R'.frames + 1 ≤ R.frames) (W : Nat) (hW : (rest.map fun v => v.category).sum = W) (hl : W + (mL' + 11) + R'.locals ≤ R.locals) (h0c : R'.cells = 0) (h0s : R'.slots = 0) (hc : cells ≤ R.cells) (hs : slots ≤ R.slots)
    (K : ORun l y bytes maxL ret R Z n0 as' Q h cells slots nx ls (w :: rest)) : ORun l y bytes maxL ret R Z n0 as' Q h cells slots pc ls st :=
  r_static argsL rest hst hpd hlen w1 w2 w3 w4 hy C hd hsz hf W hW hl (by omega) (by omega) fun v h' q => by
    obtain ⟨rfl, rfl⟩ := q
    rw [h0c, h0s]; exact K
theorem r_virtualP (argsL rest : List Value) (a : Addr) {C : String} (E : Exa Z h a C) (hst : st = argsL.reverse ++ .ref a :: rest) {ps : List FieldType} (hpd : parseMethodDescriptor y'.desc = some ⟨ps, ret'⟩) (hlen : argsL.length = ps.length)
    (w1 : (Cond.methodLink y.cls idx y').before a0 Z = true) (w2 : (Cond.declares y').before a0 Z = true) (ws : (Cond.selects C y' y').before a0 Z = true) (w5 : (Cond.instanceMethod y').before a0 Z = true) (w3 : (Cond.initialized y'.cls).before a0 Z = true) (w4 : (Cond.code y' b' mL' ret').before a0 Z = true) (hC : C = y'.cls) (hy : y'.cls ≠ "java/lang/invoke/MethodHandle" ∧ y'.cls ≠ "java/lang/invoke/VarHandle") {w : Value}
    (C' : Ct l y' b' mL' ret' [] R' Z n0 (.ref a :: argsL).toArray h (fun v h' => v = some w ∧ h' = h)) (hd : D bytes pc (.invokevirtual idx) 3 nx) (hsz : ls.length = maxL) (hf : R'.frames + 1 ≤ R.frames) (W : Nat) (hW : (rest.map fun v => v.category).sum = W) (hl : W + (mL' + 11) + R'.locals ≤ R.locals) (h0c : R'.cells = 0) (h0s : R'.slots = 0) (hc : cells ≤ R.cells) (hs : slots ≤ R.slots)
    (K : ORun l y bytes maxL ret R Z n0 as' Q h cells slots nx ls (w :: rest)) : ORun l y bytes maxL ret R Z n0 as' Q h cells slots pc ls st :=
  r_virtual argsL rest a E hst hpd hlen w1 w2 ws w5 w3 w4 hC hy C' hd hsz hf W hW hl (by omega) (by omega) fun v h' q => by
    obtain ⟨rfl, rfl⟩ := q
    rw [h0c, h0s]; exact K
theorem r_private (argsL rest : List Value) (a : Addr) {C : String} {kk : Nat} (E : Exa Z h a C) (hst : st = argsL.reverse ++ .ref a :: rest) {ps : List FieldType} (hpd : parseMethodDescriptor y'.desc = some ⟨ps, ret'⟩) (hlen : argsL.length = ps.length)
    (w1 : (Cond.methodLink y.cls idx y').before a0 Z = true) (w5 : (Cond.instanceMethod y').before a0 Z = true) (wp : (Cond.privateMethod y').before a0 Z = true) (wi : (Cond.instantiable y'.cls kk).before a0 Z = true) (w3 : (Cond.initialized y'.cls).before a0 Z = true) (w4 : (Cond.code y' b' mL' ret').before a0 Z = true) (hy : y'.cls ≠ "java/lang/invoke/MethodHandle" ∧ y'.cls ≠ "java/lang/invoke/VarHandle")
    (C' : Ct l y' b' mL' ret' [] R' Z n0 (.ref a :: argsL).toArray h Q') (hd : D bytes pc (.invokevirtual idx) 3 nx) (hsz : ls.length = maxL) (hf : R'.frames + 1 ≤ R.frames) (W : Nat) (hW : (rest.map fun v => v.category).sum = W) (hl : W + (mL' + 11) + R'.locals ≤ R.locals) (hc : cells + R'.cells ≤ R.cells) (hs : slots + R'.slots ≤ R.slots)
    (K : ∀ v h', Q' v h' → ORun l y bytes maxL ret R Z n0 as' Q h' (cells + R'.cells) (slots + R'.slots) nx ls (v.toList ++ rest)) : ORun l y bytes maxL ret R Z n0 as' Q h cells slots pc ls st := by
  obtain ⟨hd, rfl⟩ := hd
  subst hst
  refine ORun.call (y' := y') (fun p e s m below meth c T locs hx hZ hby hml hown X eT => ?_) K
  obtain ⟨cell, hcl, hob⟩ := E.cell
  have hi : (Cond.instanceMethod y').before as' s = true := mvT hZ w5
  have hp : s.PrivateAt y' := Cond.privateMethod_at (mvP hZ wp (args := as'))
  obtain ⟨cc, k, i1, i2, -, i4, -⟩ := Cond.instantiable_spec (show (Cond.instantiable y'.cls kk).before as' s = true from mvT hZ wi)
  have hni : k.isInterface = false := by simp only [Bool.or_eq_false_iff] at i4; exact i4.1
  have hsel : (Cond.selects y'.cls y' y').before as' s = true := selects_self_of_private i1 i2 hni hp hi hy
  obtain ⟨v, _, B, -, X', hq, st'⟩ := X.privateBack hx (y := y') hown (mvT hZ w1) hi hsel hp (mvT hZ w4) hy (backOf (len := 3) (W := W) (Q := fun v h L => Q' v h ∧ Fr n0 L) C' hZ w4 w3 hf hl) (g := mkF m pc ls.toArray (argsL.reverse ++ .ref a :: rest)) rfl (by rw [hml]; simpa using hsz) (Steps.refl _) (a := a) (by rw [eT]; exact hcl) hob (argsL := argsL) (rest := rest) (lenOf hpd hlen) rfl (by show 2 * 0 + _ ≤ _; omega) (hb hby hd) (fun _ _ => ⟨rfl, eT, hc, hs⟩)
  exact ⟨v, B, X', hq, fun t k => st'.trans k⟩
theorem r_cast {index : Nat} {K : String} {a : Addr} (w : (Cond.classLink y.cls index K).before a0 Z = true) (F : Ins Z h a K true) (hd : D bytes pc (.checkcast index) 3 nx) (K' : ORun l y bytes maxL ret R Z n0 as' Q h cells slots nx ls (.ref a :: st)) : ORun l y bytes maxL ret R Z n0 as' Q h cells slots pc ls (.ref a :: st) := by
  obtain ⟨hd, rfl⟩ := hd
  refine K'.law fun p e s m below meth c T locs hx hZ hby hml hown hnm X eT N => ?_
  obtain ⟨T', X', e', st'⟩ := castY X hx hZ hown w eT F (g := mkF m pc ls.toArray (.ref a :: st)) rfl rfl (hb hby hd)
  exact ⟨T', locs, X', e', N, st'⟩
theorem r_clone {index : Nat} {ad : String} {a : Addr} {cl : Cell} {ty : FieldType} (cap : Nat) (w1 : (Cond.methodLink y.cls index ⟨ad, "clone", "()Ljava/lang/Object;"⟩).before a0 Z = true) (w2 : (Cond.sameMethod ad "java/lang/Object" "clone" "()Ljava/lang/Object;").before a0 Z = true) (w3 : (Cond.native ⟨"java/lang/Object", "clone", "()Ljava/lang/Object;"⟩).before a0 Z = true)
    (w4 : (Cond.instanceMethod ⟨"java/lang/Object", "clone", "()Ljava/lang/Object;"⟩).before a0 Z = true) (w5 : (Cond.selects ad ⟨ad, "clone", "()Ljava/lang/Object;"⟩ ⟨"java/lang/Object", "clone", "()Ljava/lang/Object;"⟩).before a0 Z = true) (w6 : (Cond.castable ad "java/lang/Cloneable").before a0 Z = true)
    (A : Arr Z h a cl ty) (E : Exa Z h a ad) (F : FitC Z cl) (hd : D bytes pc (.invokevirtual index) 3 nx) (hsz : ls.length = maxL) (hf : 1 ≤ R.frames) (W : Nat) (hW : (st.map fun v => v.category).sum = W) (hl : W + 14 ≤ R.locals) (hcap : cl.slots.size ≤ cap) (hc : cells + 1 ≤ R.cells) (hs : slots + cap ≤ R.slots)
    (K : ∀ h', Ext h h' ∧ Arr Z h' h.size (cloneOf cl) ty ∧ Exa Z h' h.size ad → ORun l y bytes maxL ret R Z n0 as' Q h' (cells + 1) (slots + cap) nx ls (.ref h.size :: st)) : ORun l y bytes maxL ret R Z n0 as' Q h cells slots pc ls (.ref a :: st) := by
  obtain ⟨hd, rfl⟩ := hd
  refine ORun.lawK (fun p e s m below meth c T locs hx hZ hby hml hown hnm X eT N => ?_) K
  obtain ⟨T', h', X', rfl, E', A', Y', st'⟩ := cloneA X hx hZ hown w1 w2 w3 w4 w5 w6 eT A E F (g := mkF m pc ls.toArray (.ref a :: st)) rfl (by rw [hml]; simpa using hsz) rfl (hb hby hd) hf (W := W) (by show 2 * 0 + _ ≤ _; omega) hl hcap hc hs
  exact ⟨T', _, X', ⟨E', A', Y'⟩, N, st'⟩
end Logic
end Jvm.OwnKit
namespace Jvm.Pilot.@@N@@
open Jvm Jvm.ClassFile Sem Op Lib Jvm.Free Jvm.Stand Jvm.LawKit Jvm.RoadKit Jvm.OwnKit Bundle Jvm.Pilot.@@N@@.Jvm.D
theorem d6_0 : D prog_48_method_1_code 0 (.aload_n 0) 1 1 := ⟨by decide +kernel, rfl⟩
theorem d6_1 : D prog_48_method_1_code 1 (.invokespecial 1) 3 4 := ⟨by decide +kernel, rfl⟩
theorem d6_4 : D prog_48_method_1_code 4 (.aload_n 0) 1 5 := ⟨by decide +kernel, rfl⟩
theorem d6_5 : D prog_48_method_1_code 5 (.iconst 1) 1 6 := ⟨by decide +kernel, rfl⟩
theorem d6_6 : D prog_48_method_1_code 6 (.putfield 7) 3 9 := ⟨by decide +kernel, rfl⟩
theorem d6_9 : D prog_48_method_1_code 9 (.aload_n 0) 1 10 := ⟨by decide +kernel, rfl⟩
theorem d6_10 : D prog_48_method_1_code 10 (.iconst 1) 1 11 := ⟨by decide +kernel, rfl⟩
theorem d6_11 : D prog_48_method_1_code 11 (.putfield 13) 3 14 := ⟨by decide +kernel, rfl⟩
theorem d6_14 : D prog_48_method_1_code 14 (.aload_n 0) 1 15 := ⟨by decide +kernel, rfl⟩
theorem d6_15 : D prog_48_method_1_code 15 (.aload_n 1) 1 16 := ⟨by decide +kernel, rfl⟩
theorem d6_16 : D prog_48_method_1_code 16 (.putfield 16) 3 19 := ⟨by decide +kernel, rfl⟩
theorem d6_19 : D prog_48_method_1_code 19 (.return_) 1 20 := ⟨by decide +kernel, rfl⟩
theorem pn6 : plainFor (⟨"com/example/flowsieve/flowsieve/xml/Places", "<init>", "([C)V"⟩ : MethodName) = true := by first | exact plainFor_of_name (by first | (simp [plainName, overriddenIn]; done) | decide +kernel) | exact Jvm.Free.JP.mathPlain rfl (by decide +kernel) | decide +kernel
set_option maxRecDepth 65536 in
set_option maxHeartbeats 40000000 in
theorem ct6 {l : Launch} {Z : State} {a0 : Array Value} (hw : ∀ d ∈ tables_1, d.before a0 Z = true) {n0 : Nat} {h0 : Heap} (a1 : Addr) (a2 : Addr) (E1 : Exa Z h0 a1 "com/example/flowsieve/flowsieve/xml/Places") (F0 : Fld Z h0 a1 "com/example/flowsieve/flowsieve/xml/Places" "line" "I" (.int 0)) (F1 : Fld Z h0 a1 "com/example/flowsieve/flowsieve/xml/Places" "column" "I" (.int 0)) (F2 : Fld Z h0 a1 "com/example/flowsieve/flowsieve/xml/Places" "text" "[C" .null) (g1 : n0 ≤ a1) : Ct l ⟨"com/example/flowsieve/flowsieve/xml/Places", "<init>", "([C)V"⟩ prog_48_method_1_code 2 none [] ({ frames := 1, cells := 0, slots := 0, locals := 12 } : Room) Z n0 #[(.ref a1), (.ref a2)] h0 (fun v h => v = none ∧ Keep h0 h [a1] ∧ Exa Z h a1 "com/example/flowsieve/flowsieve/xml/Places" ∧ Fld Z h a1 "com/example/flowsieve/flowsieve/xml/Places" "line" "I" (.int 1) ∧ Fld Z h a1 "com/example/flowsieve/flowsieve/xml/Places" "column" "I" (.int 1) ∧ Fld Z h a1 "com/example/flowsieve/flowsieve/xml/Places" "text" "[C" (.ref a2)) := by
  refine Ct.of (ls := [.val (.ref a1), .val (.ref a2)]) pn6 (fun m => by first | (simp [entryFrame, mkF, argsToLocals, Value.category]; done) | rfl) ?_
  refine r_aloadN d6_0 rfl rfl ?_
  refine r_initO (hw _ (List.mem_of_getElem? (i := 37) rfl)) (hw _ (List.mem_of_getElem? (i := 19) rfl)) (hw _ (List.mem_of_getElem? (i := 20) rfl)) d6_1 rfl (by decide) 0 rfl (by decide) ?_
  refine r_aloadN d6_4 rfl rfl ?_
  refine r_iconst (1 : Int32) rfl d6_5 ?_
  refine r_putF (host := "") (Or.inl (hw _ (List.mem_of_getElem? (i := 38) rfl))) (F0) (E1) (Or.inl (hw _ (List.mem_of_getElem? (i := 39) rfl))) (hw _ (List.mem_of_getElem? (i := 32) rfl)) (ty := .int) (by decide) rfl rfl g1 d6_6 ?_
  intro h6 W6
  have K6 := Keep.wr (Keep.refl h0 [a1]) W6 (Or.inl (List.mem_of_getElem? (i := 0) rfl))
  have E6 := E1.wr W6
  have G6_0 := Fld.same W6 F0
  have G6_1 := Fld.other W6 F1 (Or.inr (slot_ne (Or.inl (hw _ (List.mem_of_getElem? (i := 41) rfl))) (Or.inl (hw _ (List.mem_of_getElem? (i := 39) rfl))) (by decide) (t := .int) (t' := .int) (by decide) (by decide)))
  have G6_2 := Fld.other W6 F2 (Or.inr (slot_ne (Or.inr (hw _ (List.mem_of_getElem? (i := 43) rfl))) (Or.inl (hw _ (List.mem_of_getElem? (i := 39) rfl))) (by decide) (t := (.array .char)) (t' := .int) (by decide) (by decide)))
  refine r_aloadN d6_9 rfl rfl ?_
  refine r_iconst (1 : Int32) rfl d6_10 ?_
  refine r_putF (host := "") (Or.inl (hw _ (List.mem_of_getElem? (i := 40) rfl))) (G6_1) (E6) (Or.inl (hw _ (List.mem_of_getElem? (i := 41) rfl))) (hw _ (List.mem_of_getElem? (i := 32) rfl)) (ty := .int) (by decide) rfl rfl g1 d6_11 ?_
  intro h11 W11
  have K11 := Keep.wr K6 W11 (Or.inl (List.mem_of_getElem? (i := 0) rfl))
  have E11 := E6.wr W11
  have G11_0 := Fld.other W11 G6_0 (Or.inr (slot_ne (Or.inl (hw _ (List.mem_of_getElem? (i := 39) rfl))) (Or.inl (hw _ (List.mem_of_getElem? (i := 41) rfl))) (by decide) (t := .int) (t' := .int) (by decide) (by decide)))
  have G11_1 := Fld.same W11 G6_1
  have G11_2 := Fld.other W11 G6_2 (Or.inr (slot_ne (Or.inr (hw _ (List.mem_of_getElem? (i := 43) rfl))) (Or.inl (hw _ (List.mem_of_getElem? (i := 41) rfl))) (by decide) (t := (.array .char)) (t' := .int) (by decide) (by decide)))
  refine r_aloadN d6_14 rfl rfl ?_
  refine r_aloadN d6_15 rfl rfl ?_
  refine r_putF (host := "") (Or.inl (hw _ (List.mem_of_getElem? (i := 42) rfl))) (G11_2) (E11) (Or.inr ⟨(hw _ (List.mem_of_getElem? (i := 43) rfl)), rfl, rfl⟩) (hw _ (List.mem_of_getElem? (i := 32) rfl)) (ty := (.array .char)) (by decide) rfl rfl g1 d6_16 ?_
  intro h16 W16
  have K16 := Keep.wr K11 W16 (Or.inl (List.mem_of_getElem? (i := 0) rfl))
  have E16 := E11.wr W16
  have G16_0 := Fld.other W16 G11_0 (Or.inr (slot_ne (Or.inl (hw _ (List.mem_of_getElem? (i := 39) rfl))) (Or.inr (hw _ (List.mem_of_getElem? (i := 43) rfl))) (by decide) (t := .int) (t' := (.array .char)) (by decide) (by decide)))
  have G16_1 := Fld.other W16 G11_1 (Or.inr (slot_ne (Or.inl (hw _ (List.mem_of_getElem? (i := 41) rfl))) (Or.inr (hw _ (List.mem_of_getElem? (i := 43) rfl))) (by decide) (t := .int) (t' := (.array .char)) (by decide) (by decide)))
  have G16_2 := Fld.same W16 G11_2
  exact r_ret d6_19 (by decide) (by decide) (⟨rfl, K16, E16, G16_0, G16_1, G16_2⟩)
theorem d4_0 : D prog_56_method_3_code 0 (.aload_n 0) 1 1 := ⟨by decide +kernel, rfl⟩
theorem d4_1 : D prog_56_method_3_code 1 (.invokespecial 24) 3 4 := ⟨by decide +kernel, rfl⟩
theorem d4_4 : D prog_56_method_3_code 4 (.aload_n 0) 1 5 := ⟨by decide +kernel, rfl⟩
theorem d4_5 : D prog_56_method_3_code 5 (.iconst 1) 1 6 := ⟨by decide +kernel, rfl⟩
theorem d4_6 : D prog_56_method_3_code 6 (.putfield 29) 3 9 := ⟨by decide +kernel, rfl⟩
theorem d4_9 : D prog_56_method_3_code 9 (.aload_n 0) 1 10 := ⟨by decide +kernel, rfl⟩
theorem d4_10 : D prog_56_method_3_code 10 (.aload_n 1) 1 11 := ⟨by decide +kernel, rfl⟩
theorem d4_11 : D prog_56_method_3_code 11 (.putfield 33) 3 14 := ⟨by decide +kernel, rfl⟩
theorem d4_14 : D prog_56_method_3_code 14 (.aload_n 0) 1 15 := ⟨by decide +kernel, rfl⟩
theorem d4_15 : D prog_56_method_3_code 15 (.iload_n 2) 1 16 := ⟨by decide +kernel, rfl⟩
theorem d4_16 : D prog_56_method_3_code 16 (.putfield 36) 3 19 := ⟨by decide +kernel, rfl⟩
theorem d4_19 : D prog_56_method_3_code 19 (.aload_n 0) 1 20 := ⟨by decide +kernel, rfl⟩
theorem d4_20 : D prog_56_method_3_code 20 (.aload_n 3) 1 21 := ⟨by decide +kernel, rfl⟩
theorem d4_21 : D prog_56_method_3_code 21 (.putfield 38) 3 24 := ⟨by decide +kernel, rfl⟩
theorem d4_24 : D prog_56_method_3_code 24 (.aload_n 0) 1 25 := ⟨by decide +kernel, rfl⟩
theorem d4_25 : D prog_56_method_3_code 25 (.iload 4) 2 27 := ⟨by decide +kernel, rfl⟩
theorem d4_27 : D prog_56_method_3_code 27 (.putfield 42) 3 30 := ⟨by decide +kernel, rfl⟩
theorem d4_30 : D prog_56_method_3_code 30 (.aload_n 0) 1 31 := ⟨by decide +kernel, rfl⟩
theorem d4_31 : D prog_56_method_3_code 31 (.new 45) 3 34 := ⟨by decide +kernel, rfl⟩
theorem d4_34 : D prog_56_method_3_code 34 (.dup) 1 35 := ⟨by decide +kernel, rfl⟩
theorem d4_35 : D prog_56_method_3_code 35 (.aload_n 1) 1 36 := ⟨by decide +kernel, rfl⟩
theorem d4_36 : D prog_56_method_3_code 36 (.invokespecial 47) 3 39 := ⟨by decide +kernel, rfl⟩
theorem d4_39 : D prog_56_method_3_code 39 (.putfield 50) 3 42 := ⟨by decide +kernel, rfl⟩
theorem d4_42 : D prog_56_method_3_code 42 (.return_) 1 43 := ⟨by decide +kernel, rfl⟩
theorem pd4_0 : parseMethodDescriptor "([C)V" = some ⟨[(.array .char)], none⟩ := by decide +kernel
theorem pn4 : plainFor (⟨"com/example/flowsieve/flowsieve/xml/XmlScanner", "<init>", "([CILjava/lang/String;I)V"⟩ : MethodName) = true := by first | exact plainFor_of_name (by first | (simp [plainName, overriddenIn]; done) | decide +kernel) | exact Jvm.Free.JP.mathPlain rfl (by decide +kernel) | decide +kernel
set_option maxRecDepth 65536 in
set_option maxHeartbeats 40000000 in
theorem ct4 {l : Launch} {Z : State} {a0 : Array Value} (hw : ∀ d ∈ tables_1, d.before a0 Z = true) {n0 : Nat} {h0 : Heap} (a1 a2 : Addr) (p3 : Int32) (E1 : Exa Z h0 a1 "com/example/flowsieve/flowsieve/xml/XmlScanner") (F_line : Fld Z h0 a1 "com/example/flowsieve/flowsieve/xml/XmlScanner" "line" "I" (.int 0)) (F_text : Fld Z h0 a1 "com/example/flowsieve/flowsieve/xml/XmlScanner" "text" "[C" .null) (F_length : Fld Z h0 a1 "com/example/flowsieve/flowsieve/xml/XmlScanner" "length" "I" (.int 0)) (F_undecodable : Fld Z h0 a1 "com/example/flowsieve/flowsieve/xml/XmlScanner" "undecodable" "Ljava/lang/String;" .null) (F_undecodableIndex : Fld Z h0 a1 "com/example/flowsieve/flowsieve/xml/XmlScanner" "undecodableIndex" "I" (.int 0)) (F_places : Fld Z h0 a1 "com/example/flowsieve/flowsieve/xml/XmlScanner" "places" "Lcom/example/flowsieve/flowsieve/xml/Places;" .null) (g1 : n0 ≤ a1) (hz : n0 ≤ h0.size) : Ct l ⟨"com/example/flowsieve/flowsieve/xml/XmlScanner", "<init>", "([CILjava/lang/String;I)V"⟩ prog_56_method_3_code 5 none [] ({ frames := 2, cells := 1, slots := 4, locals := 40 } : Room) Z n0 #[(.ref a1), (.ref a2), (.int p3), .null, (.int p3)] h0 (fun v h => v = none ∧ Keep h0 h [a1] ∧ Exa Z h a1 "com/example/flowsieve/flowsieve/xml/XmlScanner" ∧ Fld Z h a1 "com/example/flowsieve/flowsieve/xml/XmlScanner" "text" "[C" (.ref a2)) := by
  refine Ct.of (ls := [.val (.ref a1), .val (.ref a2), .val (.int p3), .val .null, .val (.int p3)]) pn4 (fun m => by first | (simp [entryFrame, mkF, argsToLocals, Value.category]; done) | rfl) ?_
  refine r_aloadN d4_0 rfl rfl ?_
  refine r_initO (hw _ (List.mem_of_getElem? (i := 18) rfl)) (hw _ (List.mem_of_getElem? (i := 19) rfl)) (hw _ (List.mem_of_getElem? (i := 20) rfl)) d4_1 rfl (by decide) 0 rfl (by decide) ?_
  refine r_aloadN d4_4 rfl rfl ?_
  refine r_iconst (1 : Int32) rfl d4_5 ?_
  refine r_putF (host := "") (Or.inl (hw _ (List.mem_of_getElem? (i := 21) rfl))) (F_line) (E1) (Or.inl (hw _ (List.mem_of_getElem? (i := 22) rfl))) (hw _ (List.mem_of_getElem? (i := 10) rfl)) (ty := .int) (by decide) rfl rfl g1 d4_6 ?_
  intro h6 W6
  have K6 := Keep.wr (Keep.refl h0 [a1]) W6 (Or.inl (List.mem_of_getElem? (i := 0) rfl))
  have E6 := E1.wr W6
  have G6_line := Fld.same W6 F_line
  have G6_text := Fld.other W6 F_text (Or.inr (slot_ne (Or.inr (hw _ (List.mem_of_getElem? (i := 24) rfl))) (Or.inl (hw _ (List.mem_of_getElem? (i := 22) rfl))) (by decide) (t := (.array .char)) (t' := .int) (by decide) (by decide)))
  have G6_length := Fld.other W6 F_length (Or.inr (slot_ne (Or.inr (hw _ (List.mem_of_getElem? (i := 26) rfl))) (Or.inl (hw _ (List.mem_of_getElem? (i := 22) rfl))) (by decide) (t := .int) (t' := .int) (by decide) (by decide)))
  have G6_undecodable := Fld.other W6 F_undecodable (Or.inr (slot_ne (Or.inr (hw _ (List.mem_of_getElem? (i := 28) rfl))) (Or.inl (hw _ (List.mem_of_getElem? (i := 22) rfl))) (by decide) (t := (.object "java/lang/String")) (t' := .int) (by decide) (by decide)))
  have G6_undecodableIndex := Fld.other W6 F_undecodableIndex (Or.inr (slot_ne (Or.inr (hw _ (List.mem_of_getElem? (i := 30) rfl))) (Or.inl (hw _ (List.mem_of_getElem? (i := 22) rfl))) (by decide) (t := .int) (t' := .int) (by decide) (by decide)))
  have G6_places := Fld.other W6 F_places (Or.inr (slot_ne (Or.inr (hw _ (List.mem_of_getElem? (i := 45) rfl))) (Or.inl (hw _ (List.mem_of_getElem? (i := 22) rfl))) (by decide) (t := (.object "com/example/flowsieve/flowsieve/xml/Places")) (t' := .int) (by decide) (by decide)))
  refine r_aloadN d4_9 rfl rfl ?_
  refine r_aloadN d4_10 rfl rfl ?_
  refine r_putF (host := "") (Or.inl (hw _ (List.mem_of_getElem? (i := 23) rfl))) (G6_text) (E6) (Or.inr ⟨(hw _ (List.mem_of_getElem? (i := 24) rfl)), rfl, rfl⟩) (hw _ (List.mem_of_getElem? (i := 10) rfl)) (ty := (.array .char)) (by decide) rfl rfl g1 d4_11 ?_
  intro h11 W11
  have K11 := Keep.wr K6 W11 (Or.inl (List.mem_of_getElem? (i := 0) rfl))
  have E11 := E6.wr W11
  have G11_line := Fld.other W11 G6_line (Or.inr (slot_ne (Or.inl (hw _ (List.mem_of_getElem? (i := 22) rfl))) (Or.inr (hw _ (List.mem_of_getElem? (i := 24) rfl))) (by decide) (t := .int) (t' := (.array .char)) (by decide) (by decide)))
  have G11_text := Fld.same W11 G6_text
  have G11_length := Fld.other W11 G6_length (Or.inr (slot_ne (Or.inr (hw _ (List.mem_of_getElem? (i := 26) rfl))) (Or.inr (hw _ (List.mem_of_getElem? (i := 24) rfl))) (by decide) (t := .int) (t' := (.array .char)) (by decide) (by decide)))
  have G11_undecodable := Fld.other W11 G6_undecodable (Or.inr (slot_ne (Or.inr (hw _ (List.mem_of_getElem? (i := 28) rfl))) (Or.inr (hw _ (List.mem_of_getElem? (i := 24) rfl))) (by decide) (t := (.object "java/lang/String")) (t' := (.array .char)) (by decide) (by decide)))
  have G11_undecodableIndex := Fld.other W11 G6_undecodableIndex (Or.inr (slot_ne (Or.inr (hw _ (List.mem_of_getElem? (i := 30) rfl))) (Or.inr (hw _ (List.mem_of_getElem? (i := 24) rfl))) (by decide) (t := .int) (t' := (.array .char)) (by decide) (by decide)))
  have G11_places := Fld.other W11 G6_places (Or.inr (slot_ne (Or.inr (hw _ (List.mem_of_getElem? (i := 45) rfl))) (Or.inr (hw _ (List.mem_of_getElem? (i := 24) rfl))) (by decide) (t := (.object "com/example/flowsieve/flowsieve/xml/Places")) (t' := (.array .char)) (by decide) (by decide)))
  refine r_aloadN d4_14 rfl rfl ?_
  refine r_iloadN d4_15 rfl ?_
  refine r_putF (host := "") (Or.inl (hw _ (List.mem_of_getElem? (i := 25) rfl))) (G11_length) (E11) (Or.inr ⟨(hw _ (List.mem_of_getElem? (i := 26) rfl)), rfl, rfl⟩) (hw _ (List.mem_of_getElem? (i := 10) rfl)) (ty := .int) (by decide) rfl rfl g1 d4_16 ?_
  intro h16 W16
  have K16 := Keep.wr K11 W16 (Or.inl (List.mem_of_getElem? (i := 0) rfl))
  have E16 := E11.wr W16
  have G16_line := Fld.other W16 G11_line (Or.inr (slot_ne (Or.inl (hw _ (List.mem_of_getElem? (i := 22) rfl))) (Or.inr (hw _ (List.mem_of_getElem? (i := 26) rfl))) (by decide) (t := .int) (t' := .int) (by decide) (by decide)))
  have G16_text := Fld.other W16 G11_text (Or.inr (slot_ne (Or.inr (hw _ (List.mem_of_getElem? (i := 24) rfl))) (Or.inr (hw _ (List.mem_of_getElem? (i := 26) rfl))) (by decide) (t := (.array .char)) (t' := .int) (by decide) (by decide)))
  have G16_length := Fld.same W16 G11_length
  have G16_undecodable := Fld.other W16 G11_undecodable (Or.inr (slot_ne (Or.inr (hw _ (List.mem_of_getElem? (i := 28) rfl))) (Or.inr (hw _ (List.mem_of_getElem? (i := 26) rfl))) (by decide) (t := (.object "java/lang/String")) (t' := .int) (by decide) (by decide)))
  have G16_undecodableIndex := Fld.other W16 G11_undecodableIndex (Or.inr (slot_ne (Or.inr (hw _ (List.mem_of_getElem? (i := 30) rfl))) (Or.inr (hw _ (List.mem_of_getElem? (i := 26) rfl))) (by decide) (t := .int) (t' := .int) (by decide) (by decide)))
  have G16_places := Fld.other W16 G11_places (Or.inr (slot_ne (Or.inr (hw _ (List.mem_of_getElem? (i := 45) rfl))) (Or.inr (hw _ (List.mem_of_getElem? (i := 26) rfl))) (by decide) (t := (.object "com/example/flowsieve/flowsieve/xml/Places")) (t' := .int) (by decide) (by decide)))
  refine r_aloadN d4_19 rfl rfl ?_
  refine r_aloadN d4_20 rfl rfl ?_
  refine r_putF (host := "") (Or.inl (hw _ (List.mem_of_getElem? (i := 27) rfl))) (G16_undecodable) (E16) (Or.inr ⟨(hw _ (List.mem_of_getElem? (i := 28) rfl)), rfl, rfl⟩) (hw _ (List.mem_of_getElem? (i := 10) rfl)) (ty := (.object "java/lang/String")) (by decide) rfl rfl g1 d4_21 ?_
  intro h21 W21
  have K21 := Keep.wr K16 W21 (Or.inl (List.mem_of_getElem? (i := 0) rfl))
  have E21 := E16.wr W21
  have G21_line := Fld.other W21 G16_line (Or.inr (slot_ne (Or.inl (hw _ (List.mem_of_getElem? (i := 22) rfl))) (Or.inr (hw _ (List.mem_of_getElem? (i := 28) rfl))) (by decide) (t := .int) (t' := (.object "java/lang/String")) (by decide) (by decide)))
  have G21_text := Fld.other W21 G16_text (Or.inr (slot_ne (Or.inr (hw _ (List.mem_of_getElem? (i := 24) rfl))) (Or.inr (hw _ (List.mem_of_getElem? (i := 28) rfl))) (by decide) (t := (.array .char)) (t' := (.object "java/lang/String")) (by decide) (by decide)))
  have G21_length := Fld.other W21 G16_length (Or.inr (slot_ne (Or.inr (hw _ (List.mem_of_getElem? (i := 26) rfl))) (Or.inr (hw _ (List.mem_of_getElem? (i := 28) rfl))) (by decide) (t := .int) (t' := (.object "java/lang/String")) (by decide) (by decide)))
  have G21_undecodable := Fld.same W21 G16_undecodable
  have G21_undecodableIndex := Fld.other W21 G16_undecodableIndex (Or.inr (slot_ne (Or.inr (hw _ (List.mem_of_getElem? (i := 30) rfl))) (Or.inr (hw _ (List.mem_of_getElem? (i := 28) rfl))) (by decide) (t := .int) (t' := (.object "java/lang/String")) (by decide) (by decide)))
  have G21_places := Fld.other W21 G16_places (Or.inr (slot_ne (Or.inr (hw _ (List.mem_of_getElem? (i := 45) rfl))) (Or.inr (hw _ (List.mem_of_getElem? (i := 28) rfl))) (by decide) (t := (.object "com/example/flowsieve/flowsieve/xml/Places")) (t' := (.object "java/lang/String")) (by decide) (by decide)))
  refine r_aloadN d4_24 rfl rfl ?_
  refine r_iload d4_25 rfl ?_
  refine r_putF (host := "") (Or.inl (hw _ (List.mem_of_getElem? (i := 29) rfl))) (G21_undecodableIndex) (E21) (Or.inr ⟨(hw _ (List.mem_of_getElem? (i := 30) rfl)), rfl, rfl⟩) (hw _ (List.mem_of_getElem? (i := 10) rfl)) (ty := .int) (by decide) rfl rfl g1 d4_27 ?_
  intro h27 W27
  have K27 := Keep.wr K21 W27 (Or.inl (List.mem_of_getElem? (i := 0) rfl))
  have E27 := E21.wr W27
  have G27_line := Fld.other W27 G21_line (Or.inr (slot_ne (Or.inl (hw _ (List.mem_of_getElem? (i := 22) rfl))) (Or.inr (hw _ (List.mem_of_getElem? (i := 30) rfl))) (by decide) (t := .int) (t' := .int) (by decide) (by decide)))
  have G27_text := Fld.other W27 G21_text (Or.inr (slot_ne (Or.inr (hw _ (List.mem_of_getElem? (i := 24) rfl))) (Or.inr (hw _ (List.mem_of_getElem? (i := 30) rfl))) (by decide) (t := (.array .char)) (t' := .int) (by decide) (by decide)))
  have G27_length := Fld.other W27 G21_length (Or.inr (slot_ne (Or.inr (hw _ (List.mem_of_getElem? (i := 26) rfl))) (Or.inr (hw _ (List.mem_of_getElem? (i := 30) rfl))) (by decide) (t := .int) (t' := .int) (by decide) (by decide)))
  have G27_undecodable := Fld.other W27 G21_undecodable (Or.inr (slot_ne (Or.inr (hw _ (List.mem_of_getElem? (i := 28) rfl))) (Or.inr (hw _ (List.mem_of_getElem? (i := 30) rfl))) (by decide) (t := (.object "java/lang/String")) (t' := .int) (by decide) (by decide)))
  have G27_undecodableIndex := Fld.same W27 G21_undecodableIndex
  have G27_places := Fld.other W27 G21_places (Or.inr (slot_ne (Or.inr (hw _ (List.mem_of_getElem? (i := 45) rfl))) (Or.inr (hw _ (List.mem_of_getElem? (i := 30) rfl))) (by decide) (t := (.object "com/example/flowsieve/flowsieve/xml/Places")) (t' := .int) (by decide) (by decide)))
  refine r_aloadN d4_30 rfl rfl ?_
  refine r_new (hw _ (List.mem_of_getElem? (i := 31) rfl)) (hw _ (List.mem_of_getElem? (i := 32) rfl)) (hw _ (List.mem_of_getElem? (i := 33) rfl)) d4_31 (by decide) (by decide) ?_
  rintro hn31 ⟨E31, A31, D31⟩
  obtain ⟨b31, g31⟩ : ∃ z, z = h27.size := ⟨_, rfl⟩
  rw [← g31] at A31 ⊢
  simp only [← g31] at D31
  have F31_line : Fld Z hn31 b31 "com/example/flowsieve/flowsieve/xml/Places" "line" "I" (.int (0 : Int32)) := D31 (Or.inl (hw _ (List.mem_of_getElem? (i := 39) rfl))) (ty := .int) (by decide)
  have F31_column : Fld Z hn31 b31 "com/example/flowsieve/flowsieve/xml/Places" "column" "I" (.int (0 : Int32)) := D31 (Or.inl (hw _ (List.mem_of_getElem? (i := 41) rfl))) (ty := .int) (by decide)
  have F31_text : Fld Z hn31 b31 "com/example/flowsieve/flowsieve/xml/Places" "text" "[C" .null := D31 (Or.inr (hw _ (List.mem_of_getElem? (i := 43) rfl))) (ty := (.array .char)) (by decide)
  show ORun _ _ _ _ _ _ _ _ _ _ hn31 1 4 34 [.val (.ref a1), .val (.ref a2), .val (.int p3), .val .null, .val (.int p3)] [(.ref b31), (.ref a1)]
  refine r_dup d4_34 rfl ?_
  refine r_aloadN d4_35 rfl rfl ?_
  have ge31 : n0 ≤ b31 := by rw [g31]; exact Nat.le_trans hz K27.1
  have ne31 : a1 ≠ b31 := by rw [g31]; exact Nat.ne_of_lt E27.lt
  refine r_special [(.ref a2)] [(.ref b31), (.ref a1)] b31 rfl pd4_0 rfl rfl (hw _ (List.mem_of_getElem? (i := 34) rfl)) (hw _ (List.mem_of_getElem? (i := 35) rfl)) (hw _ (List.mem_of_getElem? (i := 33) rfl)) (hw _ (List.mem_of_getElem? (i := 36) rfl)) (by decide) (R' := ({ frames := 1, cells := 0, slots := 0, locals := 12 } : Room)) (ct6 hw b31 a2 A31 F31_line F31_column F31_text ge31) d4_36 rfl (by decide) 2 rfl (by decide) (by decide) (by decide) ?_
  rintro _ h36 ⟨rfl, K36, X36, -⟩
  have KA36 : Keep h0 h36 [a1] := (K27.ext E31).trans K36 (allS (Or.inr (by rw [g31]; exact K27.1)) all0)
  have EE36 := (E27.ext E31).keep K36
  have H36_line := (G27_line.ext E31).keep K36 (ninS ne31 nin0)
  have H36_text := (G27_text.ext E31).keep K36 (ninS ne31 nin0)
  have H36_length := (G27_length.ext E31).keep K36 (ninS ne31 nin0)
  have H36_undecodable := (G27_undecodable.ext E31).keep K36 (ninS ne31 nin0)
  have H36_undecodableIndex := (G27_undecodableIndex.ext E31).keep K36 (ninS ne31 nin0)
  have H36_places := (G27_places.ext E31).keep K36 (ninS ne31 nin0)
  show ORun _ _ _ _ _ _ _ _ _ _ h36 1 4 39 [.val (.ref a1), .val (.ref a2), .val (.int p3), .val .null, .val (.int p3)] [(.ref b31), (.ref a1)]
  refine r_putF (host := "") (Or.inl (hw _ (List.mem_of_getElem? (i := 44) rfl))) (H36_places) (EE36) (Or.inr ⟨(hw _ (List.mem_of_getElem? (i := 45) rfl)), rfl, rfl⟩) (hw _ (List.mem_of_getElem? (i := 10) rfl)) (ty := (.object "com/example/flowsieve/flowsieve/xml/Places")) (by decide) rfl rfl g1 d4_39 ?_
  intro h39 W39
  have K39 := Keep.wr KA36 W39 (Or.inl (List.mem_of_getElem? (i := 0) rfl))
  have E39 := EE36.wr W39
  have G39_line := Fld.other W39 H36_line (Or.inr (slot_ne (Or.inl (hw _ (List.mem_of_getElem? (i := 22) rfl))) (Or.inr (hw _ (List.mem_of_getElem? (i := 45) rfl))) (by decide) (t := .int) (t' := (.object "com/example/flowsieve/flowsieve/xml/Places")) (by decide) (by decide)))
  have G39_text := Fld.other W39 H36_text (Or.inr (slot_ne (Or.inr (hw _ (List.mem_of_getElem? (i := 24) rfl))) (Or.inr (hw _ (List.mem_of_getElem? (i := 45) rfl))) (by decide) (t := (.array .char)) (t' := (.object "com/example/flowsieve/flowsieve/xml/Places")) (by decide) (by decide)))
  have G39_length := Fld.other W39 H36_length (Or.inr (slot_ne (Or.inr (hw _ (List.mem_of_getElem? (i := 26) rfl))) (Or.inr (hw _ (List.mem_of_getElem? (i := 45) rfl))) (by decide) (t := .int) (t' := (.object "com/example/flowsieve/flowsieve/xml/Places")) (by decide) (by decide)))
  have G39_undecodable := Fld.other W39 H36_undecodable (Or.inr (slot_ne (Or.inr (hw _ (List.mem_of_getElem? (i := 28) rfl))) (Or.inr (hw _ (List.mem_of_getElem? (i := 45) rfl))) (by decide) (t := (.object "java/lang/String")) (t' := (.object "com/example/flowsieve/flowsieve/xml/Places")) (by decide) (by decide)))
  have G39_undecodableIndex := Fld.other W39 H36_undecodableIndex (Or.inr (slot_ne (Or.inr (hw _ (List.mem_of_getElem? (i := 30) rfl))) (Or.inr (hw _ (List.mem_of_getElem? (i := 45) rfl))) (by decide) (t := .int) (t' := (.object "com/example/flowsieve/flowsieve/xml/Places")) (by decide) (by decide)))
  have G39_places := Fld.same W39 H36_places
  exact r_ret d4_42 (by decide) (by decide) (⟨rfl, K39, E39, G39_text⟩)
theorem d3_0 : D prog_56_method_1_code 0 (.aload_n 0) 1 1 := ⟨by decide +kernel, rfl⟩
theorem d3_1 : D prog_56_method_1_code 1 (.aload_n 1) 1 2 := ⟨by decide +kernel, rfl⟩
theorem d3_2 : D prog_56_method_1_code 2 (.iload_n 2) 1 3 := ⟨by decide +kernel, rfl⟩
theorem d3_3 : D prog_56_method_1_code 3 (.aconst_null) 1 4 := ⟨by decide +kernel, rfl⟩
theorem d3_4 : D prog_56_method_1_code 4 (.iload_n 2) 1 5 := ⟨by decide +kernel, rfl⟩
theorem d3_5 : D prog_56_method_1_code 5 (.invokespecial 1) 3 8 := ⟨by decide +kernel, rfl⟩
theorem d3_8 : D prog_56_method_1_code 8 (.return_) 1 9 := ⟨by decide +kernel, rfl⟩
theorem pd3_0 : parseMethodDescriptor "([CILjava/lang/String;I)V" = some ⟨[(.array .char), .int, (.object "java/lang/String"), .int], none⟩ := by decide +kernel
theorem pn3 : plainFor (⟨"com/example/flowsieve/flowsieve/xml/XmlScanner", "<init>", "([CI)V"⟩ : MethodName) = true := by first | exact plainFor_of_name (by first | (simp [plainName, overriddenIn]; done) | decide +kernel) | exact Jvm.Free.JP.mathPlain rfl (by decide +kernel) | decide +kernel
set_option maxRecDepth 65536 in
set_option maxHeartbeats 40000000 in
theorem ct3 {l : Launch} {Z : State} {a0 : Array Value} (hw : ∀ d ∈ tables_1, d.before a0 Z = true) {n0 : Nat} {h0 : Heap} (a1 a2 : Addr) (p3 : Int32) (E1 : Exa Z h0 a1 "com/example/flowsieve/flowsieve/xml/XmlScanner") (F_line : Fld Z h0 a1 "com/example/flowsieve/flowsieve/xml/XmlScanner" "line" "I" (.int 0)) (F_text : Fld Z h0 a1 "com/example/flowsieve/flowsieve/xml/XmlScanner" "text" "[C" .null) (F_length : Fld Z h0 a1 "com/example/flowsieve/flowsieve/xml/XmlScanner" "length" "I" (.int 0)) (F_undecodable : Fld Z h0 a1 "com/example/flowsieve/flowsieve/xml/XmlScanner" "undecodable" "Ljava/lang/String;" .null) (F_undecodableIndex : Fld Z h0 a1 "com/example/flowsieve/flowsieve/xml/XmlScanner" "undecodableIndex" "I" (.int 0)) (F_places : Fld Z h0 a1 "com/example/flowsieve/flowsieve/xml/XmlScanner" "places" "Lcom/example/flowsieve/flowsieve/xml/Places;" .null) (g1 : n0 ≤ a1) (hz : n0 ≤ h0.size) : Ct l ⟨"com/example/flowsieve/flowsieve/xml/XmlScanner", "<init>", "([CI)V"⟩ prog_56_method_1_code 3 none [] ({ frames := 3, cells := 1, slots := 4, locals := 56 } : Room) Z n0 #[(.ref a1), (.ref a2), (.int p3)] h0 (fun v h => v = none ∧ Keep h0 h [a1] ∧ Exa Z h a1 "com/example/flowsieve/flowsieve/xml/XmlScanner" ∧ Fld Z h a1 "com/example/flowsieve/flowsieve/xml/XmlScanner" "text" "[C" (.ref a2)) := by
  refine Ct.of (ls := [.val (.ref a1), .val (.ref a2), .val (.int p3)]) pn3 (fun m => by first | (simp [entryFrame, mkF, argsToLocals, Value.category]; done) | rfl) ?_
  refine r_aloadN d3_0 rfl rfl ?_
  refine r_aloadN d3_1 rfl rfl ?_
  refine r_iloadN d3_2 rfl ?_
  refine r_null d3_3 ?_
  refine r_iloadN d3_4 rfl ?_
  refine r_special [(.ref a2), (.int p3), .null, (.int p3)] [] a1 rfl pd3_0 rfl rfl (hw _ (List.mem_of_getElem? (i := 15) rfl)) (hw _ (List.mem_of_getElem? (i := 16) rfl)) (hw _ (List.mem_of_getElem? (i := 11) rfl)) (hw _ (List.mem_of_getElem? (i := 17) rfl)) (by decide) (R' := ({ frames := 2, cells := 1, slots := 4, locals := 40 } : Room)) (ct4 hw a1 a2 p3 E1 F_line F_text F_length F_undecodable F_undecodableIndex F_places g1 hz) d3_5 rfl (by decide) 0 rfl (by decide) (by decide) (by decide) ?_
  rintro _ h5 ⟨rfl, q5⟩
  show ORun _ _ _ _ _ _ _ _ _ _ h5 1 4 8 [.val (.ref a1), .val (.ref a2), .val (.int p3)] []
  exact r_ret d3_8 (by decide) (by decide) (⟨rfl, q5⟩)
theorem d1_0 : D method_2_code 0 (.iload_n 0) 1 1 := ⟨by decide +kernel, rfl⟩
theorem d1_1 : D method_2_code 1 (.iload_n 1) 1 2 := ⟨by decide +kernel, rfl⟩
theorem d1_2 : DB method_2_code 2 (.ifCond .eq) 7 5 9 := ⟨by decide +kernel, rfl, by decide, by decide⟩
theorem d1_5 : D method_2_code 5 (.iconst 1) 1 6 := ⟨by decide +kernel, rfl⟩
theorem d1_6 : DB method_2_code 6 (.goto) 5 9 11 := ⟨by decide +kernel, rfl, by decide, by decide⟩
theorem d1_9 : D method_2_code 9 (.bipush 7) 2 11 := ⟨by decide +kernel, rfl⟩
theorem d1_11 : D method_2_code 11 (.iand) 1 12 := ⟨by decide +kernel, rfl⟩
theorem d1_12 : D method_2_code 12 (.istore_n 2) 1 13 := ⟨by decide +kernel, rfl⟩
theorem d1_13 : D method_2_code 13 (.iload_n 2) 1 14 := ⟨by decide +kernel, rfl⟩
theorem d1_14 : D method_2_code 14 (.iconst 4) 1 15 := ⟨by decide +kernel, rfl⟩
theorem d1_15 : D method_2_code 15 (.iand) 1 16 := ⟨by decide +kernel, rfl⟩
theorem d1_16 : DB method_2_code 16 (.ifCond .eq) 12 19 28 := ⟨by decide +kernel, rfl, by decide, by decide⟩
theorem d1_19 : D method_2_code 19 (.ldc 7) 2 21 := ⟨by decide +kernel, rfl⟩
theorem d1_21 : D method_2_code 21 (.iload_n 2) 1 22 := ⟨by decide +kernel, rfl⟩
theorem d1_22 : D method_2_code 22 (.iconst 3) 1 23 := ⟨by decide +kernel, rfl⟩
theorem d1_23 : D method_2_code 23 (.iand) 1 24 := ⟨by decide +kernel, rfl⟩
theorem d1_24 : D method_2_code 24 (.iadd) 1 25 := ⟨by decide +kernel, rfl⟩
theorem d1_25 : DB method_2_code 25 (.goto) 9 28 34 := ⟨by decide +kernel, rfl, by decide, by decide⟩
theorem d1_28 : D method_2_code 28 (.bipush 97) 2 30 := ⟨by decide +kernel, rfl⟩
theorem d1_30 : D method_2_code 30 (.iload_n 2) 1 31 := ⟨by decide +kernel, rfl⟩
theorem d1_31 : D method_2_code 31 (.iconst 3) 1 32 := ⟨by decide +kernel, rfl⟩
theorem d1_32 : D method_2_code 32 (.iand) 1 33 := ⟨by decide +kernel, rfl⟩
theorem d1_33 : D method_2_code 33 (.iadd) 1 34 := ⟨by decide +kernel, rfl⟩
theorem d1_34 : D method_2_code 34 (.i2c) 1 35 := ⟨by decide +kernel, rfl⟩
theorem d1_35 : D method_2_code 35 (.ireturn) 1 36 := ⟨by decide +kernel, rfl⟩
theorem pn1 : plainFor (⟨"com/example/flowsieve/flowsieve/xml/XmlScannerSameCharactersPinLaw", "ch", "(IZ)C"⟩ : MethodName) = true := by first | exact plainFor_of_name (by first | (simp [plainName, overriddenIn]; done) | decide +kernel) | exact Jvm.Free.JP.mathPlain rfl (by decide +kernel) | decide +kernel
set_option maxRecDepth 65536 in
set_option maxHeartbeats 40000000 in
theorem ct1 {l : Launch} {Z : State} {a0 : Array Value} (hw : ∀ d ∈ tables_1, d.before a0 Z = true) {n0 : Nat} {h0 : Heap} (p1 p2 : Int32) : Ct l ⟨"com/example/flowsieve/flowsieve/xml/XmlScannerSameCharactersPinLaw", "ch", "(IZ)C"⟩ method_2_code 3 (some .char) [] ({ frames := 0, cells := 0, slots := 0, locals := 0 } : Room) Z n0 #[(.int p1), (.int p2)] h0 (fun v h => ∃ c : Int32, v = some (.int c) ∧ h = h0) := by
  refine Ct.of (ls := [.val (.int p1), .val (.int p2), .unset]) pn1 (fun m => by first | (simp [entryFrame, mkF, argsToLocals, Value.category]; done) | rfl) ?_
  refine r_iloadN d1_0 rfl ?_
  refine r_iloadN d1_1 rfl ?_
  refine r_if_eq d1_2 (fun hc2 => ?_) (fun hc2 => ?_)
  · refine r_bipush (7 : Int32) rfl d1_9 ?_
    refine r_iand d1_11 ?_
    refine r_istoreN d1_12 [.val (.int p1), .val (.int p2), .val (.int (p1 &&& (7 : Int32)))] rfl ?_
    refine r_iloadN d1_13 rfl ?_
    refine r_iconst (4 : Int32) rfl d1_14 ?_
    refine r_iand d1_15 ?_
    refine r_if_eq d1_16 (fun hc16 => ?_) (fun hc16 => ?_)
    · refine r_bipush (97 : Int32) rfl d1_28 ?_
      refine r_iloadN d1_30 rfl ?_
      refine r_iconst (3 : Int32) rfl d1_31 ?_
      refine r_iand d1_32 ?_
      refine r_iadd d1_33 ?_
      refine r_i2c d1_34 ?_
      exact r_nret (t := .char) (by simp) d1_35 (by decide) (by decide) (⟨_, rfl, rfl⟩)
    · refine r_ldc (v := (65532 : Int32)) (hw _ (List.mem_of_getElem? (i := 51) rfl)) d1_19 ?_
      refine r_iloadN d1_21 rfl ?_
      refine r_iconst (3 : Int32) rfl d1_22 ?_
      refine r_iand d1_23 ?_
      refine r_iadd d1_24 ?_
      refine r_goto d1_25 ?_
      refine r_i2c d1_34 ?_
      exact r_nret (t := .char) (by simp) d1_35 (by decide) (by decide) (⟨_, rfl, rfl⟩)
  · refine r_iconst (1 : Int32) rfl d1_5 ?_
    refine r_goto d1_6 ?_
    refine r_iand d1_11 ?_
    refine r_istoreN d1_12 [.val (.int p1), .val (.int p2), .val (.int (p1 &&& (1 : Int32)))] rfl ?_
    refine r_iloadN d1_13 rfl ?_
    refine r_iconst (4 : Int32) rfl d1_14 ?_
    refine r_iand d1_15 ?_
    refine r_if_eq d1_16 (fun hc16 => ?_) (fun hc16 => ?_)
    · refine r_bipush (97 : Int32) rfl d1_28 ?_
      refine r_iloadN d1_30 rfl ?_
      refine r_iconst (3 : Int32) rfl d1_31 ?_
      refine r_iand d1_32 ?_
      refine r_iadd d1_33 ?_
      refine r_i2c d1_34 ?_
      exact r_nret (t := .char) (by simp) d1_35 (by decide) (by decide) (⟨_, rfl, rfl⟩)
    · refine r_ldc (v := (65532 : Int32)) (hw _ (List.mem_of_getElem? (i := 51) rfl)) d1_19 ?_
      refine r_iloadN d1_21 rfl ?_
      refine r_iconst (3 : Int32) rfl d1_22 ?_
      refine r_iand d1_23 ?_
      refine r_iadd d1_24 ?_
      refine r_goto d1_25 ?_
      refine r_i2c d1_34 ?_
      exact r_nret (t := .char) (by simp) d1_35 (by decide) (by decide) (⟨_, rfl, rfl⟩)
def own_eq (vs : List Int32) (s o n k : Nat) : Int32 := if (k < n → vs[s + k]? = vs[o + k]?) then 1 else 0
def own_res (vs : List Int32) (s o n m : Nat) : Int32 := if (n = m ∧ ∀ i, i < n → vs[s + i]? = vs[o + i]?) then 1 else 0
theorem own_get {vs : List Int32} {i : Nat} (h : i < vs.length) : ∃ x, vs[i]? = some x := ⟨vs[i], List.getElem?_eq_getElem h⟩
theorem d2_0 : D method_3_code 0 (.iload 4) 2 2 := ⟨by decide +kernel, rfl⟩
theorem d2_2 : D method_3_code 2 (.iload_n 3) 1 3 := ⟨by decide +kernel, rfl⟩
theorem d2_3 : DB method_3_code 3 (.if_icmp .ge) 18 6 21 := ⟨by decide +kernel, rfl, by decide, by decide⟩
theorem d2_6 : D method_3_code 6 (.aload_n 0) 1 7 := ⟨by decide +kernel, rfl⟩
theorem d2_7 : D method_3_code 7 (.iload_n 1) 1 8 := ⟨by decide +kernel, rfl⟩
theorem d2_8 : D method_3_code 8 (.iload 4) 2 10 := ⟨by decide +kernel, rfl⟩
theorem d2_10 : D method_3_code 10 (.iadd) 1 11 := ⟨by decide +kernel, rfl⟩
theorem d2_11 : D method_3_code 11 (.caload) 1 12 := ⟨by decide +kernel, rfl⟩
theorem d2_12 : D method_3_code 12 (.aload_n 0) 1 13 := ⟨by decide +kernel, rfl⟩
theorem d2_13 : D method_3_code 13 (.iload_n 2) 1 14 := ⟨by decide +kernel, rfl⟩
theorem d2_14 : D method_3_code 14 (.iload 4) 2 16 := ⟨by decide +kernel, rfl⟩
theorem d2_16 : D method_3_code 16 (.iadd) 1 17 := ⟨by decide +kernel, rfl⟩
theorem d2_17 : D method_3_code 17 (.caload) 1 18 := ⟨by decide +kernel, rfl⟩
theorem d2_18 : DB method_3_code 18 (.if_icmp .ne) 7 21 25 := ⟨by decide +kernel, rfl, by decide, by decide⟩
theorem d2_21 : D method_3_code 21 (.iconst 1) 1 22 := ⟨by decide +kernel, rfl⟩
theorem d2_22 : DB method_3_code 22 (.goto) 4 25 26 := ⟨by decide +kernel, rfl, by decide, by decide⟩
theorem d2_25 : D method_3_code 25 (.iconst 0) 1 26 := ⟨by decide +kernel, rfl⟩
theorem d2_26 : D method_3_code 26 (.ireturn) 1 27 := ⟨by decide +kernel, rfl⟩
theorem pn2 : plainFor (⟨"com/example/flowsieve/flowsieve/xml/XmlScannerSameCharactersPinLaw", "eqAt", "([CIIII)Z"⟩ : MethodName) = true := by first | exact plainFor_of_name (by first | (simp [plainName, overriddenIn]; done) | decide +kernel) | exact Jvm.Free.JP.mathPlain rfl (by decide +kernel) | decide +kernel
set_option maxRecDepth 65536 in
set_option maxHeartbeats 40000000 in
theorem ct2 {l : Launch} {Z : State} {a0 : Array Value} (hw : ∀ d ∈ tables_1, d.before a0 Z = true) {n0 : Nat} {h0 : Heap} (a1 : Addr) (s o n k : Nat) (vs : List Int32) (A : Ary Z h0 a1 .char vs) (hl : vs.length = 6) (hs : s + n ≤ 6) (ho : k < n → o + n ≤ 6) (hk6 : k < 6) (ho6 : o ≤ 6) : Ct l ⟨"com/example/flowsieve/flowsieve/xml/XmlScannerSameCharactersPinLaw", "eqAt", "([CIIII)Z"⟩ method_3_code 5 (some .boolean) [] ({ frames := 0, cells := 0, slots := 0, locals := 0 } : Room) Z n0 #[(.ref a1), (.int s.toInt32), (.int o.toInt32), (.int n.toInt32), (.int k.toInt32)] h0 (fun v h => v = some (.int (own_eq vs s o n k)) ∧ h = h0) := by
  refine Ct.of (ls := [.val (.ref a1), .val (.int s.toInt32), .val (.int o.toInt32), .val (.int n.toInt32), .val (.int k.toInt32)]) pn2 (fun m => by first | (simp [entryFrame, mkF, argsToLocals, Value.category]; done) | rfl) ?_
  refine r_iload d2_0 rfl ?_
  refine r_iloadN d2_2 rfl ?_
  refine r_icmp_ge d2_3 (fun hc3 => ?_) (fun hc3 => ?_)
  · refine r_iconst (1 : Int32) rfl d2_21 ?_
    refine r_goto d2_22 ?_
    refine r_nret (t := .boolean) (by simp) d2_26 (by decide) (by decide) ?_
    have hk : ¬ k < n := fun q => hc3 ((n32_lt (by omega) (by omega)).mpr q)
    exact ⟨by simp [own_eq, nar, hk], rfl⟩
  · refine r_aloadN d2_6 rfl rfl ?_
    refine r_iloadN d2_7 rfl ?_
    refine r_iload d2_8 rfl ?_
    refine r_iadd d2_10 ?_
    obtain ⟨x, ex⟩ := own_get (vs := vs) (i := s + k) (by have := (n32_lt (a := k) (b := n) (by omega) (by omega)).mp hc3; omega)
    refine r_ldC x A (by rw [n32_add]; exact n32_nn (by omega)) (by rw [n32_add, n32_clamp (by omega)]; exact ex) d2_11 ?_
    refine r_aloadN d2_12 rfl rfl ?_
    refine r_iloadN d2_13 rfl ?_
    refine r_iload d2_14 rfl ?_
    refine r_iadd d2_16 ?_
    obtain ⟨y, ey⟩ := own_get (vs := vs) (i := o + k) (by have := (n32_lt (a := k) (b := n) (by omega) (by omega)).mp hc3; omega)
    refine r_ldC y A (by rw [n32_add]; exact n32_nn (by omega)) (by rw [n32_add, n32_clamp (by omega)]; exact ey) d2_17 ?_
    refine r_icmp_ne d2_18 (fun hc18 => ?_) (fun hc18 => ?_)
    · refine r_iconst (0 : Int32) rfl d2_25 ?_
      refine r_nret (t := .boolean) (by simp) d2_26 (by decide) (by decide) ?_
      have hk : k < n := (n32_lt (by omega) (by omega)).mp hc3
      exact ⟨by simp [own_eq, nar, hk, ex, ey, hc18], rfl⟩
    · refine r_iconst (1 : Int32) rfl d2_21 ?_
      refine r_goto d2_22 ?_
      refine r_nret (t := .boolean) (by simp) d2_26 (by decide) (by decide) ?_
      have hk : k < n := (n32_lt (by omega) (by omega)).mp hc3
      exact ⟨by simp [own_eq, nar, hk, ex, ey, hc18], rfl⟩
theorem d7_0 : D prog_56_method_21_code 0 (.iload_n 2) 1 1 := ⟨by decide +kernel, rfl⟩
theorem d7_1 : D prog_56_method_21_code 1 (.iload_n 1) 1 2 := ⟨by decide +kernel, rfl⟩
theorem d7_2 : D prog_56_method_21_code 2 (.isub) 1 3 := ⟨by decide +kernel, rfl⟩
theorem d7_3 : D prog_56_method_21_code 3 (.iload 4) 2 5 := ⟨by decide +kernel, rfl⟩
theorem d7_5 : D prog_56_method_21_code 5 (.iload_n 3) 1 6 := ⟨by decide +kernel, rfl⟩
theorem d7_6 : D prog_56_method_21_code 6 (.isub) 1 7 := ⟨by decide +kernel, rfl⟩
theorem d7_7 : DB prog_56_method_21_code 7 (.if_icmp .ne) 7 10 14 := ⟨by decide +kernel, rfl, by decide, by decide⟩
theorem d7_10 : D prog_56_method_21_code 10 (.iconst 1) 1 11 := ⟨by decide +kernel, rfl⟩
theorem d7_11 : DB prog_56_method_21_code 11 (.goto) 4 14 15 := ⟨by decide +kernel, rfl, by decide, by decide⟩
theorem d7_14 : D prog_56_method_21_code 14 (.iconst 0) 1 15 := ⟨by decide +kernel, rfl⟩
theorem d7_15 : D prog_56_method_21_code 15 (.istore 5) 2 17 := ⟨by decide +kernel, rfl⟩
theorem d7_17 : D prog_56_method_21_code 17 (.iconst 0) 1 18 := ⟨by decide +kernel, rfl⟩
theorem d7_18 : D prog_56_method_21_code 18 (.istore 6) 2 20 := ⟨by decide +kernel, rfl⟩
theorem d7_20 : D prog_56_method_21_code 20 (.iload 5) 2 22 := ⟨by decide +kernel, rfl⟩
theorem d7_22 : DB prog_56_method_21_code 22 (.ifCond .eq) 45 25 67 := ⟨by decide +kernel, rfl, by decide, by decide⟩
theorem d7_25 : D prog_56_method_21_code 25 (.iload 6) 2 27 := ⟨by decide +kernel, rfl⟩
theorem d7_27 : D prog_56_method_21_code 27 (.iload_n 2) 1 28 := ⟨by decide +kernel, rfl⟩
theorem d7_28 : D prog_56_method_21_code 28 (.iload_n 1) 1 29 := ⟨by decide +kernel, rfl⟩
theorem d7_29 : D prog_56_method_21_code 29 (.isub) 1 30 := ⟨by decide +kernel, rfl⟩
theorem d7_30 : DB prog_56_method_21_code 30 (.if_icmp .ge) 37 33 67 := ⟨by decide +kernel, rfl, by decide, by decide⟩
theorem d7_33 : D prog_56_method_21_code 33 (.aload_n 0) 1 34 := ⟨by decide +kernel, rfl⟩
theorem d7_34 : D prog_56_method_21_code 34 (.getfield 33) 3 37 := ⟨by decide +kernel, rfl⟩
theorem d7_37 : D prog_56_method_21_code 37 (.iload_n 1) 1 38 := ⟨by decide +kernel, rfl⟩
theorem d7_38 : D prog_56_method_21_code 38 (.iload 6) 2 40 := ⟨by decide +kernel, rfl⟩
theorem d7_40 : D prog_56_method_21_code 40 (.iadd) 1 41 := ⟨by decide +kernel, rfl⟩
theorem d7_41 : D prog_56_method_21_code 41 (.caload) 1 42 := ⟨by decide +kernel, rfl⟩
theorem d7_42 : D prog_56_method_21_code 42 (.aload_n 0) 1 43 := ⟨by decide +kernel, rfl⟩
theorem d7_43 : D prog_56_method_21_code 43 (.getfield 33) 3 46 := ⟨by decide +kernel, rfl⟩
theorem d7_46 : D prog_56_method_21_code 46 (.iload_n 3) 1 47 := ⟨by decide +kernel, rfl⟩
theorem d7_47 : D prog_56_method_21_code 47 (.iload 6) 2 49 := ⟨by decide +kernel, rfl⟩
theorem d7_49 : D prog_56_method_21_code 49 (.iadd) 1 50 := ⟨by decide +kernel, rfl⟩
theorem d7_50 : D prog_56_method_21_code 50 (.caload) 1 51 := ⟨by decide +kernel, rfl⟩
theorem d7_51 : DB prog_56_method_21_code 51 (.if_icmp .ne) 7 54 58 := ⟨by decide +kernel, rfl, by decide, by decide⟩
theorem d7_54 : D prog_56_method_21_code 54 (.iconst 1) 1 55 := ⟨by decide +kernel, rfl⟩
theorem d7_55 : DB prog_56_method_21_code 55 (.goto) 4 58 59 := ⟨by decide +kernel, rfl, by decide, by decide⟩
theorem d7_58 : D prog_56_method_21_code 58 (.iconst 0) 1 59 := ⟨by decide +kernel, rfl⟩
theorem d7_59 : D prog_56_method_21_code 59 (.istore 5) 2 61 := ⟨by decide +kernel, rfl⟩
theorem d7_61 : D prog_56_method_21_code 61 (.iinc 6 1) 3 64 := ⟨by decide +kernel, rfl⟩
theorem d7_64 : DB prog_56_method_21_code 64 (.goto) (-44) 67 20 := ⟨by decide +kernel, rfl, by decide, by decide⟩
theorem d7_67 : D prog_56_method_21_code 67 (.iload 5) 2 69 := ⟨by decide +kernel, rfl⟩
theorem d7_69 : D prog_56_method_21_code 69 (.ireturn) 1 70 := ⟨by decide +kernel, rfl⟩
theorem pn7 : plainFor (⟨"com/example/flowsieve/flowsieve/xml/XmlScanner", "sameCharacters", "(IIII)Z"⟩ : MethodName) = true := by first | exact plainFor_of_name (by first | (simp [plainName, overriddenIn]; done) | decide +kernel) | exact Jvm.Free.JP.mathPlain rfl (by decide +kernel) | decide +kernel
set_option maxRecDepth 65536 in
set_option maxHeartbeats 40000000 in
theorem lp7 {l : Launch} {Z : State} {a0 : Array Value} (hw : ∀ d ∈ tables_1, d.before a0 Z = true) {n0 : Nat} {h0 : Heap} (a1 a2 : Addr) (s e o q : Nat) (vs : List Int32) (F : Fld Z h0 a1 "com/example/flowsieve/flowsieve/xml/XmlScanner" "text" "[C" (.ref a2)) (A : Ary Z h0 a2 .char vs) (hl : vs.length = 6) (hse : s ≤ e ∧ e ≤ 6) (hoq : o ≤ q ∧ q ≤ 6) (hm : e - s = q - o) : ∀ (t i : Nat), i + t = e - s → (∀ j, j < i → vs[s + j]? = vs[o + j]?) → ORun l ⟨"com/example/flowsieve/flowsieve/xml/XmlScanner", "sameCharacters", "(IIII)Z"⟩ prog_56_method_21_code 7 (some .boolean) ({ frames := 0, cells := 0, slots := 0, locals := 0 } : Room) Z n0 #[(.ref a1), (.int s.toInt32), (.int e.toInt32), (.int o.toInt32), (.int q.toInt32)] (fun v h => v = some (.int (own_res vs s o (e - s) (q - o))) ∧ h = h0) h0 0 0 20 [.val (.ref a1), .val (.int s.toInt32), .val (.int e.toInt32), .val (.int o.toInt32), .val (.int q.toInt32), .val (.int (1 : Int32)), .val (.int i.toInt32)] [] := by
  intro t
  induction t with
  | zero =>
    intro i hi hj
    refine r_iload d7_20 rfl ?_
    refine r_if_eq d7_22 (fun hc22 => ?_) (fun hc22 => ?_)
    · exfalso; exact absurd hc22 (by decide)
    · refine r_iload d7_25 rfl ?_
      refine r_iloadN d7_27 rfl ?_
      refine r_iloadN d7_28 rfl ?_
      refine r_isub d7_29 ?_
      rw [n32_sub (a := e) (b := s) hse.1]
      refine r_icmp_ge d7_30 (fun hc30 => ?_) (fun hc30 => ?_)
      · refine r_iload d7_67 rfl ?_
        refine r_nret (t := .boolean) (by simp) d7_69 (by decide) (by decide) ?_
        refine ⟨?_, rfl⟩
        rw [own_res, if_pos ⟨hm, fun j q => hj j (by omega)⟩]; rfl
      · exfalso; have := (n32_lt (a := i) (b := e - s) (by omega) (by omega)).mp hc30; omega
  | succ t ih =>
    intro i hi hj
    refine r_iload d7_20 rfl ?_
    refine r_if_eq d7_22 (fun hc22 => ?_) (fun hc22 => ?_)
    · exfalso; exact absurd hc22 (by decide)
    · refine r_iload d7_25 rfl ?_
      refine r_iloadN d7_27 rfl ?_
      refine r_iloadN d7_28 rfl ?_
      refine r_isub d7_29 ?_
      rw [n32_sub (a := e) (b := s) hse.1]
      refine r_icmp_ge d7_30 (fun hc30 => ?_) (fun hc30 => ?_)
      · exfalso; exact hc30 ((n32_lt (a := i) (b := e - s) (by omega) (by omega)).mpr (by omega))
      · refine r_aloadN d7_33 rfl rfl ?_
        refine r_getF (host := "") (Or.inl (hw _ (List.mem_of_getElem? (i := 23) rfl))) (v := (.ref a2)) (F) d7_34 ?_
        refine r_iloadN d7_37 rfl ?_
        refine r_iload d7_38 rfl ?_
        refine r_iadd d7_40 ?_
        obtain ⟨x, ex⟩ := own_get (vs := vs) (i := s + i) (by omega)
        refine r_ldC x A (by rw [n32_add]; exact n32_nn (by omega)) (by rw [n32_add, n32_clamp (by omega)]; exact ex) d7_41 ?_
        refine r_aloadN d7_42 rfl rfl ?_
        refine r_getF (host := "") (Or.inl (hw _ (List.mem_of_getElem? (i := 23) rfl))) (v := (.ref a2)) (F) d7_43 ?_
        refine r_iloadN d7_46 rfl ?_
        refine r_iload d7_47 rfl ?_
        refine r_iadd d7_49 ?_
        obtain ⟨y, ey⟩ := own_get (vs := vs) (i := o + i) (by omega)
        refine r_ldC y A (by rw [n32_add]; exact n32_nn (by omega)) (by rw [n32_add, n32_clamp (by omega)]; exact ey) d7_50 ?_
        refine r_icmp_ne d7_51 (fun hc51 => ?_) (fun hc51 => ?_)
        · refine r_iconst (0 : Int32) rfl d7_58 ?_
          refine r_istore d7_59 [.val (.ref a1), .val (.int s.toInt32), .val (.int e.toInt32), .val (.int o.toInt32), .val (.int q.toInt32), .val (.int (0 : Int32)), .val (.int i.toInt32)] rfl ?_
          refine r_iinc d7_61 rfl (n32_add i 1) [.val (.ref a1), .val (.int s.toInt32), .val (.int e.toInt32), .val (.int o.toInt32), .val (.int q.toInt32), .val (.int (0 : Int32)), .val (.int (i + 1).toInt32)] rfl ?_
          refine r_goto d7_64 ?_
          refine r_iload d7_20 rfl ?_
          refine r_if_eq d7_22 (fun hc22 => ?_) (fun hc22 => ?_)
          · refine r_iload d7_67 rfl ?_
            refine r_nret (t := .boolean) (by simp) d7_69 (by decide) (by decide) ?_
            refine ⟨?_, rfl⟩
            rw [own_res, if_neg]; rfl
            rintro ⟨-, r⟩
            have := r i (by omega)
            rw [ex, ey] at this
            exact hc51 (Option.some.inj this)
          · exfalso; exact hc22 rfl
        · refine r_iconst (1 : Int32) rfl d7_54 ?_
          refine r_goto d7_55 ?_
          refine r_istore d7_59 [.val (.ref a1), .val (.int s.toInt32), .val (.int e.toInt32), .val (.int o.toInt32), .val (.int q.toInt32), .val (.int (1 : Int32)), .val (.int i.toInt32)] rfl ?_
          refine r_iinc d7_61 rfl (n32_add i 1) [.val (.ref a1), .val (.int s.toInt32), .val (.int e.toInt32), .val (.int o.toInt32), .val (.int q.toInt32), .val (.int (1 : Int32)), .val (.int (i + 1).toInt32)] rfl ?_
          refine r_goto d7_64 ?_
          exact ih (i + 1) (by omega) fun j hj' => by
              by_cases c : j = i
              · subst c; rw [ex, ey, hc51]
              · exact hj j (by omega)
set_option maxRecDepth 65536 in
set_option maxHeartbeats 40000000 in
theorem ct7 {l : Launch} {Z : State} {a0 : Array Value} (hw : ∀ d ∈ tables_1, d.before a0 Z = true) {n0 : Nat} {h0 : Heap} (a1 a2 : Addr) (s e o q : Nat) (vs : List Int32) (F : Fld Z h0 a1 "com/example/flowsieve/flowsieve/xml/XmlScanner" "text" "[C" (.ref a2)) (A : Ary Z h0 a2 .char vs) (hl : vs.length = 6) (hse : s ≤ e ∧ e ≤ 6) (hoq : o ≤ q ∧ q ≤ 6) : Ct l ⟨"com/example/flowsieve/flowsieve/xml/XmlScanner", "sameCharacters", "(IIII)Z"⟩ prog_56_method_21_code 7 (some .boolean) [] ({ frames := 0, cells := 0, slots := 0, locals := 0 } : Room) Z n0 #[(.ref a1), (.int s.toInt32), (.int e.toInt32), (.int o.toInt32), (.int q.toInt32)] h0 (fun v h => v = some (.int (own_res vs s o (e - s) (q - o))) ∧ h = h0) := by
  refine Ct.of (ls := [.val (.ref a1), .val (.int s.toInt32), .val (.int e.toInt32), .val (.int o.toInt32), .val (.int q.toInt32), .unset, .unset]) pn7 (fun m => by first | (simp [entryFrame, mkF, argsToLocals, Value.category]; done) | rfl) ?_
  refine r_iloadN d7_0 rfl ?_
  refine r_iloadN d7_1 rfl ?_
  refine r_isub d7_2 ?_
  rw [n32_sub (a := e) (b := s) hse.1]
  refine r_iload d7_3 rfl ?_
  refine r_iloadN d7_5 rfl ?_
  refine r_isub d7_6 ?_
  rw [n32_sub (a := q) (b := o) hoq.1]
  refine r_icmp_ne d7_7 (fun hc7 => ?_) (fun hc7 => ?_)
  · have hm : ¬ e - s = q - o := fun z => hc7 (by rw [z])
    refine r_iconst (0 : Int32) rfl d7_14 ?_
    refine r_istore d7_15 [.val (.ref a1), .val (.int s.toInt32), .val (.int e.toInt32), .val (.int o.toInt32), .val (.int q.toInt32), .val (.int (0 : Int32)), .unset] rfl ?_
    refine r_iconst (Nat.toInt32 0) rfl d7_17 ?_
    refine r_istore d7_18 [.val (.ref a1), .val (.int s.toInt32), .val (.int e.toInt32), .val (.int o.toInt32), .val (.int q.toInt32), .val (.int (0 : Int32)), .val (.int (Nat.toInt32 0))] rfl ?_
    refine r_iload d7_20 rfl ?_
    refine r_if_eq d7_22 (fun hc22 => ?_) (fun hc22 => ?_)
    · refine r_iload d7_67 rfl ?_
      refine r_nret (t := .boolean) (by simp) d7_69 (by decide) (by decide) ?_
      refine ⟨?_, rfl⟩
      rw [own_res, if_neg]; rfl
      rintro ⟨r, -⟩
      exact hm r
    · exfalso; exact hc22 rfl
  · have hm : e - s = q - o := (n32_eq (by omega) (by omega)).mp hc7
    refine r_iconst (1 : Int32) rfl d7_10 ?_
    refine r_goto d7_11 ?_
    refine r_istore d7_15 [.val (.ref a1), .val (.int s.toInt32), .val (.int e.toInt32), .val (.int o.toInt32), .val (.int q.toInt32), .val (.int (1 : Int32)), .unset] rfl ?_
    refine r_iconst (Nat.toInt32 0) rfl d7_17 ?_
    refine r_istore d7_18 [.val (.ref a1), .val (.int s.toInt32), .val (.int e.toInt32), .val (.int o.toInt32), .val (.int q.toInt32), .val (.int (1 : Int32)), .val (.int (Nat.toInt32 0))] rfl ?_
    exact lp7 hw a1 a2 s e o q vs F A hl hse hoq hm (e - s) 0 (by omega) (fun j hj => absurd hj (Nat.not_lt_zero j))
theorem own_eq0 {vs : List Int32} {s o n k : Nat} : own_eq vs s o n k = 0 ↔ ¬ (k < n → vs[s + k]? = vs[o + k]?) := by
  unfold own_eq
  split
  · rename_i h; exact ⟨fun q => absurd q (by decide), fun q => absurd h q⟩
  · rename_i h; exact ⟨fun _ => h, fun _ => rfl⟩
theorem own_no (vs : List Int32) (s o d m k : Nat) (h : own_eq vs s o d k = 0) : (0 : Int32) = own_res vs s o d m := by
  rw [own_res, if_neg]
  rintro ⟨-, r⟩
  exact (own_eq0.mp h) (r k)
theorem own_yes (vs : List Int32) (s o d m : Nat) (hdm : d = m) (hd : d ≤ 6) (h0 : ¬ own_eq vs s o d 0 = 0) (h1 : ¬ own_eq vs s o d 1 = 0) (h2 : ¬ own_eq vs s o d 2 = 0) (h3 : ¬ own_eq vs s o d 3 = 0) (h4 : ¬ own_eq vs s o d 4 = 0) (h5 : ¬ own_eq vs s o d 5 = 0) : (1 : Int32) = own_res vs s o d m := by
  rw [own_res, if_pos]
  refine ⟨hdm, fun i hi => ?_⟩
  rw [own_eq0, Classical.not_not] at h0 h1 h2 h3 h4 h5
  have : i = 0 ∨ i = 1 ∨ i = 2 ∨ i = 3 ∨ i = 4 ∨ i = 5 := by omega
  rcases this with rfl | rfl | rfl | rfl | rfl | rfl
  · exact h0 hi
  · exact h1 hi
  · exact h2 hi
  · exact h3 hi
  · exact h4 hi
  · exact h5 hi
theorem d0_0 : D code 0 (.iload 5) 2 2 := ⟨by decide +kernel, rfl⟩
theorem d0_2 : D code 2 (.iconst 2) 1 3 := ⟨by decide +kernel, rfl⟩
theorem d0_3 : D code 3 (.iand) 1 4 := ⟨by decide +kernel, rfl⟩
theorem d0_4 : DB code 4 (.ifCond .eq) 7 7 11 := ⟨by decide +kernel, rfl, by decide, by decide⟩
theorem d0_7 : D code 7 (.iconst 1) 1 8 := ⟨by decide +kernel, rfl⟩
theorem d0_8 : DB code 8 (.goto) 4 11 12 := ⟨by decide +kernel, rfl, by decide, by decide⟩
theorem d0_11 : D code 11 (.iconst 0) 1 12 := ⟨by decide +kernel, rfl⟩
theorem d0_12 : D code 12 (.istore 6) 2 14 := ⟨by decide +kernel, rfl⟩
theorem d0_14 : D code 14 (.bipush 6) 2 16 := ⟨by decide +kernel, rfl⟩
theorem d0_16 : D code 16 (.newarray .char) 2 18 := ⟨by decide +kernel, rfl⟩
theorem d0_18 : D code 18 (.astore 7) 2 20 := ⟨by decide +kernel, rfl⟩
theorem d0_20 : D code 20 (.aload 7) 2 22 := ⟨by decide +kernel, rfl⟩
theorem d0_22 : D code 22 (.iconst 0) 1 23 := ⟨by decide +kernel, rfl⟩
theorem d0_23 : D code 23 (.iload_n 0) 1 24 := ⟨by decide +kernel, rfl⟩
theorem d0_24 : D code 24 (.iload 6) 2 26 := ⟨by decide +kernel, rfl⟩
theorem d0_26 : D code 26 (.invokestatic 8) 3 29 := ⟨by decide +kernel, rfl⟩
theorem d0_29 : D code 29 (.castore) 1 30 := ⟨by decide +kernel, rfl⟩
theorem d0_30 : D code 30 (.aload 7) 2 32 := ⟨by decide +kernel, rfl⟩
theorem d0_32 : D code 32 (.iconst 1) 1 33 := ⟨by decide +kernel, rfl⟩
theorem d0_33 : D code 33 (.iload_n 0) 1 34 := ⟨by decide +kernel, rfl⟩
theorem d0_34 : D code 34 (.iconst 3) 1 35 := ⟨by decide +kernel, rfl⟩
theorem d0_35 : D code 35 (.iushr) 1 36 := ⟨by decide +kernel, rfl⟩
theorem d0_36 : D code 36 (.iload 6) 2 38 := ⟨by decide +kernel, rfl⟩
theorem d0_38 : D code 38 (.invokestatic 8) 3 41 := ⟨by decide +kernel, rfl⟩
theorem d0_41 : D code 41 (.castore) 1 42 := ⟨by decide +kernel, rfl⟩
theorem d0_42 : D code 42 (.aload 7) 2 44 := ⟨by decide +kernel, rfl⟩
theorem d0_44 : D code 44 (.iconst 2) 1 45 := ⟨by decide +kernel, rfl⟩
theorem d0_45 : D code 45 (.iload_n 0) 1 46 := ⟨by decide +kernel, rfl⟩
theorem d0_46 : D code 46 (.bipush 6) 2 48 := ⟨by decide +kernel, rfl⟩
theorem d0_48 : D code 48 (.iushr) 1 49 := ⟨by decide +kernel, rfl⟩
theorem d0_49 : D code 49 (.iload 6) 2 51 := ⟨by decide +kernel, rfl⟩
theorem d0_51 : D code 51 (.invokestatic 8) 3 54 := ⟨by decide +kernel, rfl⟩
theorem d0_54 : D code 54 (.castore) 1 55 := ⟨by decide +kernel, rfl⟩
theorem d0_55 : D code 55 (.aload 7) 2 57 := ⟨by decide +kernel, rfl⟩
theorem d0_57 : D code 57 (.iconst 3) 1 58 := ⟨by decide +kernel, rfl⟩
theorem d0_58 : D code 58 (.iload_n 0) 1 59 := ⟨by decide +kernel, rfl⟩
theorem d0_59 : D code 59 (.bipush 9) 2 61 := ⟨by decide +kernel, rfl⟩
theorem d0_61 : D code 61 (.iushr) 1 62 := ⟨by decide +kernel, rfl⟩
theorem d0_62 : D code 62 (.iload 6) 2 64 := ⟨by decide +kernel, rfl⟩
theorem d0_64 : D code 64 (.invokestatic 8) 3 67 := ⟨by decide +kernel, rfl⟩
theorem d0_67 : D code 67 (.castore) 1 68 := ⟨by decide +kernel, rfl⟩
theorem d0_68 : D code 68 (.aload 7) 2 70 := ⟨by decide +kernel, rfl⟩
theorem d0_70 : D code 70 (.iconst 4) 1 71 := ⟨by decide +kernel, rfl⟩
theorem d0_71 : D code 71 (.iload_n 0) 1 72 := ⟨by decide +kernel, rfl⟩
theorem d0_72 : D code 72 (.bipush 12) 2 74 := ⟨by decide +kernel, rfl⟩
theorem d0_74 : D code 74 (.iushr) 1 75 := ⟨by decide +kernel, rfl⟩
theorem d0_75 : D code 75 (.iload 6) 2 77 := ⟨by decide +kernel, rfl⟩
theorem d0_77 : D code 77 (.invokestatic 8) 3 80 := ⟨by decide +kernel, rfl⟩
theorem d0_80 : D code 80 (.castore) 1 81 := ⟨by decide +kernel, rfl⟩
theorem d0_81 : D code 81 (.aload 7) 2 83 := ⟨by decide +kernel, rfl⟩
theorem d0_83 : D code 83 (.iconst 5) 1 84 := ⟨by decide +kernel, rfl⟩
theorem d0_84 : D code 84 (.iload_n 0) 1 85 := ⟨by decide +kernel, rfl⟩
theorem d0_85 : D code 85 (.bipush 15) 2 87 := ⟨by decide +kernel, rfl⟩
theorem d0_87 : D code 87 (.iushr) 1 88 := ⟨by decide +kernel, rfl⟩
theorem d0_88 : D code 88 (.iload 6) 2 90 := ⟨by decide +kernel, rfl⟩
theorem d0_90 : D code 90 (.invokestatic 8) 3 93 := ⟨by decide +kernel, rfl⟩
theorem d0_93 : D code 93 (.castore) 1 94 := ⟨by decide +kernel, rfl⟩
theorem d0_94 : D code 94 (.iload_n 1) 1 95 := ⟨by decide +kernel, rfl⟩
theorem d0_95 : D code 95 (.ldc 14) 2 97 := ⟨by decide +kernel, rfl⟩
theorem d0_97 : D code 97 (.iand) 1 98 := ⟨by decide +kernel, rfl⟩
theorem d0_98 : D code 98 (.bipush 7) 2 100 := ⟨by decide +kernel, rfl⟩
theorem d0_100 : D code 100 (.irem) 1 101 := ⟨by decide +kernel, rfl⟩
theorem d0_101 : D code 101 (.istore 8) 2 103 := ⟨by decide +kernel, rfl⟩
theorem d0_103 : D code 103 (.iload 8) 2 105 := ⟨by decide +kernel, rfl⟩
theorem d0_105 : D code 105 (.iload_n 2) 1 106 := ⟨by decide +kernel, rfl⟩
theorem d0_106 : D code 106 (.ldc 14) 2 108 := ⟨by decide +kernel, rfl⟩
theorem d0_108 : D code 108 (.iand) 1 109 := ⟨by decide +kernel, rfl⟩
theorem d0_109 : D code 109 (.bipush 7) 2 111 := ⟨by decide +kernel, rfl⟩
theorem d0_111 : D code 111 (.iload 8) 2 113 := ⟨by decide +kernel, rfl⟩
theorem d0_113 : D code 113 (.isub) 1 114 := ⟨by decide +kernel, rfl⟩
theorem d0_114 : D code 114 (.irem) 1 115 := ⟨by decide +kernel, rfl⟩
theorem d0_115 : D code 115 (.iadd) 1 116 := ⟨by decide +kernel, rfl⟩
theorem d0_116 : D code 116 (.istore 9) 2 118 := ⟨by decide +kernel, rfl⟩
theorem d0_118 : D code 118 (.iload 9) 2 120 := ⟨by decide +kernel, rfl⟩
theorem d0_120 : D code 120 (.iload 8) 2 122 := ⟨by decide +kernel, rfl⟩
theorem d0_122 : D code 122 (.isub) 1 123 := ⟨by decide +kernel, rfl⟩
theorem d0_123 : D code 123 (.istore 10) 2 125 := ⟨by decide +kernel, rfl⟩
theorem d0_125 : D code 125 (.iload 5) 2 127 := ⟨by decide +kernel, rfl⟩
theorem d0_127 : D code 127 (.iconst 1) 1 128 := ⟨by decide +kernel, rfl⟩
theorem d0_128 : D code 128 (.iand) 1 129 := ⟨by decide +kernel, rfl⟩
theorem d0_129 : DB code 129 (.ifCond .eq) 25 132 154 := ⟨by decide +kernel, rfl, by decide, by decide⟩
theorem d0_132 : D code 132 (.iload_n 3) 1 133 := ⟨by decide +kernel, rfl⟩
theorem d0_133 : D code 133 (.ldc 14) 2 135 := ⟨by decide +kernel, rfl⟩
theorem d0_135 : D code 135 (.iand) 1 136 := ⟨by decide +kernel, rfl⟩
theorem d0_136 : D code 136 (.bipush 7) 2 138 := ⟨by decide +kernel, rfl⟩
theorem d0_138 : D code 138 (.iload 10) 2 140 := ⟨by decide +kernel, rfl⟩
theorem d0_140 : D code 140 (.isub) 1 141 := ⟨by decide +kernel, rfl⟩
theorem d0_141 : D code 141 (.irem) 1 142 := ⟨by decide +kernel, rfl⟩
theorem d0_142 : D code 142 (.istore 11) 2 144 := ⟨by decide +kernel, rfl⟩
theorem d0_144 : D code 144 (.iload 11) 2 146 := ⟨by decide +kernel, rfl⟩
theorem d0_146 : D code 146 (.iload 10) 2 148 := ⟨by decide +kernel, rfl⟩
theorem d0_148 : D code 148 (.iadd) 1 149 := ⟨by decide +kernel, rfl⟩
theorem d0_149 : D code 149 (.istore 12) 2 151 := ⟨by decide +kernel, rfl⟩
theorem d0_151 : DB code 151 (.goto) 28 154 179 := ⟨by decide +kernel, rfl, by decide, by decide⟩
theorem d0_154 : D code 154 (.iload_n 3) 1 155 := ⟨by decide +kernel, rfl⟩
theorem d0_155 : D code 155 (.ldc 14) 2 157 := ⟨by decide +kernel, rfl⟩
theorem d0_157 : D code 157 (.iand) 1 158 := ⟨by decide +kernel, rfl⟩
theorem d0_158 : D code 158 (.bipush 7) 2 160 := ⟨by decide +kernel, rfl⟩
theorem d0_160 : D code 160 (.irem) 1 161 := ⟨by decide +kernel, rfl⟩
theorem d0_161 : D code 161 (.istore 11) 2 163 := ⟨by decide +kernel, rfl⟩
theorem d0_163 : D code 163 (.iload 11) 2 165 := ⟨by decide +kernel, rfl⟩
theorem d0_165 : D code 165 (.iload 4) 2 167 := ⟨by decide +kernel, rfl⟩
theorem d0_167 : D code 167 (.ldc 14) 2 169 := ⟨by decide +kernel, rfl⟩
theorem d0_169 : D code 169 (.iand) 1 170 := ⟨by decide +kernel, rfl⟩
theorem d0_170 : D code 170 (.bipush 7) 2 172 := ⟨by decide +kernel, rfl⟩
theorem d0_172 : D code 172 (.iload 11) 2 174 := ⟨by decide +kernel, rfl⟩
theorem d0_174 : D code 174 (.isub) 1 175 := ⟨by decide +kernel, rfl⟩
theorem d0_175 : D code 175 (.irem) 1 176 := ⟨by decide +kernel, rfl⟩
theorem d0_176 : D code 176 (.iadd) 1 177 := ⟨by decide +kernel, rfl⟩
theorem d0_177 : D code 177 (.istore 12) 2 179 := ⟨by decide +kernel, rfl⟩
theorem d0_179 : D code 179 (.iload 10) 2 181 := ⟨by decide +kernel, rfl⟩
theorem d0_181 : D code 181 (.iload 12) 2 183 := ⟨by decide +kernel, rfl⟩
theorem d0_183 : D code 183 (.iload 11) 2 185 := ⟨by decide +kernel, rfl⟩
theorem d0_185 : D code 185 (.isub) 1 186 := ⟨by decide +kernel, rfl⟩
theorem d0_186 : DB code 186 (.if_icmp .ne) 97 189 283 := ⟨by decide +kernel, rfl, by decide, by decide⟩
theorem d0_189 : D code 189 (.aload 7) 2 191 := ⟨by decide +kernel, rfl⟩
theorem d0_191 : D code 191 (.iload 8) 2 193 := ⟨by decide +kernel, rfl⟩
theorem d0_193 : D code 193 (.iload 11) 2 195 := ⟨by decide +kernel, rfl⟩
theorem d0_195 : D code 195 (.iload 10) 2 197 := ⟨by decide +kernel, rfl⟩
theorem d0_197 : D code 197 (.iconst 0) 1 198 := ⟨by decide +kernel, rfl⟩
theorem d0_198 : D code 198 (.invokestatic 15) 3 201 := ⟨by decide +kernel, rfl⟩
theorem d0_201 : DB code 201 (.ifCond .eq) 82 204 283 := ⟨by decide +kernel, rfl, by decide, by decide⟩
theorem d0_204 : D code 204 (.aload 7) 2 206 := ⟨by decide +kernel, rfl⟩
theorem d0_206 : D code 206 (.iload 8) 2 208 := ⟨by decide +kernel, rfl⟩
theorem d0_208 : D code 208 (.iload 11) 2 210 := ⟨by decide +kernel, rfl⟩
theorem d0_210 : D code 210 (.iload 10) 2 212 := ⟨by decide +kernel, rfl⟩
theorem d0_212 : D code 212 (.iconst 1) 1 213 := ⟨by decide +kernel, rfl⟩
theorem d0_213 : D code 213 (.invokestatic 15) 3 216 := ⟨by decide +kernel, rfl⟩
theorem d0_216 : DB code 216 (.ifCond .eq) 67 219 283 := ⟨by decide +kernel, rfl, by decide, by decide⟩
theorem d0_219 : D code 219 (.aload 7) 2 221 := ⟨by decide +kernel, rfl⟩
theorem d0_221 : D code 221 (.iload 8) 2 223 := ⟨by decide +kernel, rfl⟩
theorem d0_223 : D code 223 (.iload 11) 2 225 := ⟨by decide +kernel, rfl⟩
theorem d0_225 : D code 225 (.iload 10) 2 227 := ⟨by decide +kernel, rfl⟩
theorem d0_227 : D code 227 (.iconst 2) 1 228 := ⟨by decide +kernel, rfl⟩
theorem d0_228 : D code 228 (.invokestatic 15) 3 231 := ⟨by decide +kernel, rfl⟩
theorem d0_231 : DB code 231 (.ifCond .eq) 52 234 283 := ⟨by decide +kernel, rfl, by decide, by decide⟩
theorem d0_234 : D code 234 (.aload 7) 2 236 := ⟨by decide +kernel, rfl⟩
theorem d0_236 : D code 236 (.iload 8) 2 238 := ⟨by decide +kernel, rfl⟩
theorem d0_238 : D code 238 (.iload 11) 2 240 := ⟨by decide +kernel, rfl⟩
theorem d0_240 : D code 240 (.iload 10) 2 242 := ⟨by decide +kernel, rfl⟩
theorem d0_242 : D code 242 (.iconst 3) 1 243 := ⟨by decide +kernel, rfl⟩
theorem d0_243 : D code 243 (.invokestatic 15) 3 246 := ⟨by decide +kernel, rfl⟩
theorem d0_246 : DB code 246 (.ifCond .eq) 37 249 283 := ⟨by decide +kernel, rfl, by decide, by decide⟩
theorem d0_249 : D code 249 (.aload 7) 2 251 := ⟨by decide +kernel, rfl⟩
theorem d0_251 : D code 251 (.iload 8) 2 253 := ⟨by decide +kernel, rfl⟩
theorem d0_253 : D code 253 (.iload 11) 2 255 := ⟨by decide +kernel, rfl⟩
theorem d0_255 : D code 255 (.iload 10) 2 257 := ⟨by decide +kernel, rfl⟩
theorem d0_257 : D code 257 (.iconst 4) 1 258 := ⟨by decide +kernel, rfl⟩
theorem d0_258 : D code 258 (.invokestatic 15) 3 261 := ⟨by decide +kernel, rfl⟩
theorem d0_261 : DB code 261 (.ifCond .eq) 22 264 283 := ⟨by decide +kernel, rfl, by decide, by decide⟩
theorem d0_264 : D code 264 (.aload 7) 2 266 := ⟨by decide +kernel, rfl⟩
theorem d0_266 : D code 266 (.iload 8) 2 268 := ⟨by decide +kernel, rfl⟩
theorem d0_268 : D code 268 (.iload 11) 2 270 := ⟨by decide +kernel, rfl⟩
theorem d0_270 : D code 270 (.iload 10) 2 272 := ⟨by decide +kernel, rfl⟩
theorem d0_272 : D code 272 (.iconst 5) 1 273 := ⟨by decide +kernel, rfl⟩
theorem d0_273 : D code 273 (.invokestatic 15) 3 276 := ⟨by decide +kernel, rfl⟩
theorem d0_276 : DB code 276 (.ifCond .eq) 7 279 283 := ⟨by decide +kernel, rfl, by decide, by decide⟩
theorem d0_279 : D code 279 (.iconst 1) 1 280 := ⟨by decide +kernel, rfl⟩
theorem d0_280 : DB code 280 (.goto) 4 283 284 := ⟨by decide +kernel, rfl, by decide, by decide⟩
theorem d0_283 : D code 283 (.iconst 0) 1 284 := ⟨by decide +kernel, rfl⟩
theorem d0_284 : D code 284 (.istore 13) 2 286 := ⟨by decide +kernel, rfl⟩
theorem d0_286 : D code 286 (.new 19) 3 289 := ⟨by decide +kernel, rfl⟩
theorem d0_289 : D code 289 (.dup) 1 290 := ⟨by decide +kernel, rfl⟩
theorem d0_290 : D code 290 (.aload 7) 2 292 := ⟨by decide +kernel, rfl⟩
theorem d0_292 : D code 292 (.bipush 6) 2 294 := ⟨by decide +kernel, rfl⟩
theorem d0_294 : D code 294 (.invokespecial 21) 3 297 := ⟨by decide +kernel, rfl⟩
theorem d0_297 : D code 297 (.astore 14) 2 299 := ⟨by decide +kernel, rfl⟩
theorem d0_299 : D code 299 (.aload 14) 2 301 := ⟨by decide +kernel, rfl⟩
theorem d0_301 : D code 301 (.iload 8) 2 303 := ⟨by decide +kernel, rfl⟩
theorem d0_303 : D code 303 (.iload 9) 2 305 := ⟨by decide +kernel, rfl⟩
theorem d0_305 : D code 305 (.iload 11) 2 307 := ⟨by decide +kernel, rfl⟩
theorem d0_307 : D code 307 (.iload 12) 2 309 := ⟨by decide +kernel, rfl⟩
theorem d0_309 : D code 309 (.invokevirtual 24) 3 312 := ⟨by decide +kernel, rfl⟩
theorem d0_312 : D code 312 (.istore 15) 2 314 := ⟨by decide +kernel, rfl⟩
theorem d0_314 : D code 314 (.iload 15) 2 316 := ⟨by decide +kernel, rfl⟩
theorem d0_316 : D code 316 (.iload 13) 2 318 := ⟨by decide +kernel, rfl⟩
theorem d0_318 : DB code 318 (.if_icmp .ne) 7 321 325 := ⟨by decide +kernel, rfl, by decide, by decide⟩
theorem d0_321 : D code 321 (.iconst 1) 1 322 := ⟨by decide +kernel, rfl⟩
theorem d0_322 : DB code 322 (.goto) 4 325 326 := ⟨by decide +kernel, rfl, by decide, by decide⟩
theorem d0_326 : D code 326 (.ireturn) 1 327 := ⟨by decide +kernel, rfl⟩
theorem pd0_0 : parseMethodDescriptor "(IZ)C" = some ⟨[.int, .boolean], some .char⟩ := by decide +kernel
theorem pd0_1 : parseMethodDescriptor "([CI)V" = some ⟨[(.array .char), .int], none⟩ := by decide +kernel
theorem pd0_2 : parseMethodDescriptor "(IIII)Z" = some ⟨[.int, .int, .int, .int], some .boolean⟩ := by decide +kernel
theorem pd0_3 : parseMethodDescriptor "([CIIII)Z" = some ⟨[(.array .char), .int, .int, .int, .int], some .boolean⟩ := by decide +kernel
theorem pn0 : plainFor (⟨"com/example/flowsieve/flowsieve/xml/XmlScannerSameCharactersPinLaw", "law", "(IIIIII)Z"⟩ : MethodName) = true := by first | exact plainFor_of_name (by first | (simp [plainName, overriddenIn]; done) | decide +kernel) | exact Jvm.Free.JP.mathPlain rfl (by decide +kernel) | decide +kernel
set_option maxRecDepth 65536 in
set_option maxHeartbeats 40000000 in
theorem ct0 {l : Launch} {Z : State} {a0 : Array Value} (hw : ∀ d ∈ tables_1, d.before a0 Z = true) {n0 : Nat} {h0 : Heap} (hz : n0 ≤ h0.size) (p1 p2 p3 p4 p5 p6 : Int32) : Ct l x code maxLocals ret tables_1 room_1 Z n0 #[(.int p1), (.int p2), (.int p3), (.int p4), (.int p5), (.int p6)] h0 (fun v h => v = some (.int 1)) := by
  refine Ct.of (ls := [.val (.int p1), .val (.int p2), .val (.int p3), .val (.int p4), .val (.int p5), .val (.int p6), .unset, .unset, .unset, .unset, .unset, .unset, .unset, .unset, .unset, .unset]) pn0 (fun m => by first | (simp [entryFrame, mkF, argsToLocals, Value.category, maxLocals]; done) | rfl) ?_
  refine r_iload d0_0 rfl ?_
  refine r_iconst (2 : Int32) rfl d0_2 ?_
  refine r_iand d0_3 ?_
  have J12 : ∀ (nw : Int32), ORun l x code maxLocals ret room_1 Z n0 #[(.int p1), (.int p2), (.int p3), (.int p4), (.int p5), (.int p6)] (fun v h => v = some (.int 1)) h0 0 0 12 [.val (.int p1), .val (.int p2), .val (.int p3), .val (.int p4), .val (.int p5), .val (.int p6), .unset, .unset, .unset, .unset, .unset, .unset, .unset, .unset, .unset, .unset] [(.int nw)] := by
    intro nw
    refine r_istore d0_12 [.val (.int p1), .val (.int p2), .val (.int p3), .val (.int p4), .val (.int p5), .val (.int p6), .val (.int nw), .unset, .unset, .unset, .unset, .unset, .unset, .unset, .unset, .unset] rfl ?_
    refine r_bipush (6 : Int32) rfl d0_14 ?_
    refine r_newarr 6 (hw _ (List.mem_of_getElem? (i := 0) rfl)) d0_16 (by decide) (by decide) (by decide) (by decide) (by decide) ?_
    intro hn16 cA16 E16 A16
    obtain ⟨b16, g16⟩ : ∃ z, z = h0.size := ⟨_, rfl⟩
    rw [← g16] at A16 ⊢
    have V16 : Ary Z hn16 b16 .char [0, 0, 0, 0, 0, 0] := Ary.new A16 rfl rfl
    show ORun _ _ _ _ _ _ _ _ _ _ hn16 1 6 18 [.val (.int p1), .val (.int p2), .val (.int p3), .val (.int p4), .val (.int p5), .val (.int p6), .val (.int nw), .unset, .unset, .unset, .unset, .unset, .unset, .unset, .unset, .unset] [(.ref b16)]
    have ge16 : n0 ≤ b16 := by rw [g16]; exact hz
    refine r_astore d0_18 rfl [.val (.int p1), .val (.int p2), .val (.int p3), .val (.int p4), .val (.int p5), .val (.int p6), .val (.int nw), .val (.ref b16), .unset, .unset, .unset, .unset, .unset, .unset, .unset, .unset] rfl ?_
    refine r_aload d0_20 rfl rfl ?_
    refine r_iconst (0 : Int32) rfl d0_22 ?_
    refine r_iloadN d0_23 rfl ?_
    refine r_iload d0_24 rfl ?_
    refine r_static [(.int p1), (.int nw)] [(.int (0 : Int32)), (.ref b16)] rfl pd0_0 rfl (hw _ (List.mem_of_getElem? (i := 1) rfl)) (hw _ (List.mem_of_getElem? (i := 2) rfl)) (hw _ (List.mem_of_getElem? (i := 3) rfl)) (hw _ (List.mem_of_getElem? (i := 4) rfl)) (by decide) (R' := ({ frames := 0, cells := 0, slots := 0, locals := 0 } : Room)) (ct1 hw p1 nw) d0_26 rfl (by decide) 2 rfl (by decide) (by decide) (by decide) ?_
    rintro _ hq26 ⟨c26, rfl, eq26⟩
    rw [eq26]
    show ORun _ _ _ _ _ _ _ _ _ _ hn16 1 6 29 [.val (.int p1), .val (.int p2), .val (.int p3), .val (.int p4), .val (.int p5), .val (.int p6), .val (.int nw), .val (.ref b16), .unset, .unset, .unset, .unset, .unset, .unset, .unset, .unset] [(.int c26), (.int (0 : Int32)), (.ref b16)]
    refine r_stC 0 [(nar .char c26), (0 : Int32), (0 : Int32), (0 : Int32), (0 : Int32), (0 : Int32)] V16 (by decide) rfl (Nat.le_of_ble_eq_true rfl) rfl ge16 d0_29 ?_
    intro h29 W29 V29
    refine r_aload d0_30 rfl rfl ?_
    refine r_iconst (1 : Int32) rfl d0_32 ?_
    refine r_iloadN d0_33 rfl ?_
    refine r_iconst (3 : Int32) rfl d0_34 ?_
    refine r_iushr d0_35 ?_
    refine r_iload d0_36 rfl ?_
    refine r_static [(.int ((p1.toUInt32 >>> ((3 : Int32) &&& 31).toUInt32).toInt32)), (.int nw)] [(.int (1 : Int32)), (.ref b16)] rfl pd0_0 rfl (hw _ (List.mem_of_getElem? (i := 1) rfl)) (hw _ (List.mem_of_getElem? (i := 2) rfl)) (hw _ (List.mem_of_getElem? (i := 3) rfl)) (hw _ (List.mem_of_getElem? (i := 4) rfl)) (by decide) (R' := ({ frames := 0, cells := 0, slots := 0, locals := 0 } : Room)) (ct1 hw ((p1.toUInt32 >>> ((3 : Int32) &&& 31).toUInt32).toInt32) nw) d0_38 rfl (by decide) 2 rfl (by decide) (by decide) (by decide) ?_
    rintro _ hq38 ⟨c38, rfl, eq38⟩
    rw [eq38]
    show ORun _ _ _ _ _ _ _ _ _ _ h29 1 6 41 [.val (.int p1), .val (.int p2), .val (.int p3), .val (.int p4), .val (.int p5), .val (.int p6), .val (.int nw), .val (.ref b16), .unset, .unset, .unset, .unset, .unset, .unset, .unset, .unset] [(.int c38), (.int (1 : Int32)), (.ref b16)]
    refine r_stC 1 [(nar .char c26), (nar .char c38), (0 : Int32), (0 : Int32), (0 : Int32), (0 : Int32)] V29 (by decide) rfl (Nat.le_of_ble_eq_true rfl) rfl ge16 d0_41 ?_
    intro h41 W41 V41
    refine r_aload d0_42 rfl rfl ?_
    refine r_iconst (2 : Int32) rfl d0_44 ?_
    refine r_iloadN d0_45 rfl ?_
    refine r_bipush (6 : Int32) rfl d0_46 ?_
    refine r_iushr d0_48 ?_
    refine r_iload d0_49 rfl ?_
    refine r_static [(.int ((p1.toUInt32 >>> ((6 : Int32) &&& 31).toUInt32).toInt32)), (.int nw)] [(.int (2 : Int32)), (.ref b16)] rfl pd0_0 rfl (hw _ (List.mem_of_getElem? (i := 1) rfl)) (hw _ (List.mem_of_getElem? (i := 2) rfl)) (hw _ (List.mem_of_getElem? (i := 3) rfl)) (hw _ (List.mem_of_getElem? (i := 4) rfl)) (by decide) (R' := ({ frames := 0, cells := 0, slots := 0, locals := 0 } : Room)) (ct1 hw ((p1.toUInt32 >>> ((6 : Int32) &&& 31).toUInt32).toInt32) nw) d0_51 rfl (by decide) 2 rfl (by decide) (by decide) (by decide) ?_
    rintro _ hq51 ⟨c51, rfl, eq51⟩
    rw [eq51]
    show ORun _ _ _ _ _ _ _ _ _ _ h41 1 6 54 [.val (.int p1), .val (.int p2), .val (.int p3), .val (.int p4), .val (.int p5), .val (.int p6), .val (.int nw), .val (.ref b16), .unset, .unset, .unset, .unset, .unset, .unset, .unset, .unset] [(.int c51), (.int (2 : Int32)), (.ref b16)]
    refine r_stC 2 [(nar .char c26), (nar .char c38), (nar .char c51), (0 : Int32), (0 : Int32), (0 : Int32)] V41 (by decide) rfl (Nat.le_of_ble_eq_true rfl) rfl ge16 d0_54 ?_
    intro h54 W54 V54
    refine r_aload d0_55 rfl rfl ?_
    refine r_iconst (3 : Int32) rfl d0_57 ?_
    refine r_iloadN d0_58 rfl ?_
    refine r_bipush (9 : Int32) rfl d0_59 ?_
    refine r_iushr d0_61 ?_
    refine r_iload d0_62 rfl ?_
    refine r_static [(.int ((p1.toUInt32 >>> ((9 : Int32) &&& 31).toUInt32).toInt32)), (.int nw)] [(.int (3 : Int32)), (.ref b16)] rfl pd0_0 rfl (hw _ (List.mem_of_getElem? (i := 1) rfl)) (hw _ (List.mem_of_getElem? (i := 2) rfl)) (hw _ (List.mem_of_getElem? (i := 3) rfl)) (hw _ (List.mem_of_getElem? (i := 4) rfl)) (by decide) (R' := ({ frames := 0, cells := 0, slots := 0, locals := 0 } : Room)) (ct1 hw ((p1.toUInt32 >>> ((9 : Int32) &&& 31).toUInt32).toInt32) nw) d0_64 rfl (by decide) 2 rfl (by decide) (by decide) (by decide) ?_
    rintro _ hq64 ⟨c64, rfl, eq64⟩
    rw [eq64]
    show ORun _ _ _ _ _ _ _ _ _ _ h54 1 6 67 [.val (.int p1), .val (.int p2), .val (.int p3), .val (.int p4), .val (.int p5), .val (.int p6), .val (.int nw), .val (.ref b16), .unset, .unset, .unset, .unset, .unset, .unset, .unset, .unset] [(.int c64), (.int (3 : Int32)), (.ref b16)]
    refine r_stC 3 [(nar .char c26), (nar .char c38), (nar .char c51), (nar .char c64), (0 : Int32), (0 : Int32)] V54 (by decide) rfl (Nat.le_of_ble_eq_true rfl) rfl ge16 d0_67 ?_
    intro h67 W67 V67
    refine r_aload d0_68 rfl rfl ?_
    refine r_iconst (4 : Int32) rfl d0_70 ?_
    refine r_iloadN d0_71 rfl ?_
    refine r_bipush (12 : Int32) rfl d0_72 ?_
    refine r_iushr d0_74 ?_
    refine r_iload d0_75 rfl ?_
    refine r_static [(.int ((p1.toUInt32 >>> ((12 : Int32) &&& 31).toUInt32).toInt32)), (.int nw)] [(.int (4 : Int32)), (.ref b16)] rfl pd0_0 rfl (hw _ (List.mem_of_getElem? (i := 1) rfl)) (hw _ (List.mem_of_getElem? (i := 2) rfl)) (hw _ (List.mem_of_getElem? (i := 3) rfl)) (hw _ (List.mem_of_getElem? (i := 4) rfl)) (by decide) (R' := ({ frames := 0, cells := 0, slots := 0, locals := 0 } : Room)) (ct1 hw ((p1.toUInt32 >>> ((12 : Int32) &&& 31).toUInt32).toInt32) nw) d0_77 rfl (by decide) 2 rfl (by decide) (by decide) (by decide) ?_
    rintro _ hq77 ⟨c77, rfl, eq77⟩
    rw [eq77]
    show ORun _ _ _ _ _ _ _ _ _ _ h67 1 6 80 [.val (.int p1), .val (.int p2), .val (.int p3), .val (.int p4), .val (.int p5), .val (.int p6), .val (.int nw), .val (.ref b16), .unset, .unset, .unset, .unset, .unset, .unset, .unset, .unset] [(.int c77), (.int (4 : Int32)), (.ref b16)]
    refine r_stC 4 [(nar .char c26), (nar .char c38), (nar .char c51), (nar .char c64), (nar .char c77), (0 : Int32)] V67 (by decide) rfl (Nat.le_of_ble_eq_true rfl) rfl ge16 d0_80 ?_
    intro h80 W80 V80
    refine r_aload d0_81 rfl rfl ?_
    refine r_iconst (5 : Int32) rfl d0_83 ?_
    refine r_iloadN d0_84 rfl ?_
    refine r_bipush (15 : Int32) rfl d0_85 ?_
    refine r_iushr d0_87 ?_
    refine r_iload d0_88 rfl ?_
    refine r_static [(.int ((p1.toUInt32 >>> ((15 : Int32) &&& 31).toUInt32).toInt32)), (.int nw)] [(.int (5 : Int32)), (.ref b16)] rfl pd0_0 rfl (hw _ (List.mem_of_getElem? (i := 1) rfl)) (hw _ (List.mem_of_getElem? (i := 2) rfl)) (hw _ (List.mem_of_getElem? (i := 3) rfl)) (hw _ (List.mem_of_getElem? (i := 4) rfl)) (by decide) (R' := ({ frames := 0, cells := 0, slots := 0, locals := 0 } : Room)) (ct1 hw ((p1.toUInt32 >>> ((15 : Int32) &&& 31).toUInt32).toInt32) nw) d0_90 rfl (by decide) 2 rfl (by decide) (by decide) (by decide) ?_
    rintro _ hq90 ⟨c90, rfl, eq90⟩
    rw [eq90]
    show ORun _ _ _ _ _ _ _ _ _ _ h80 1 6 93 [.val (.int p1), .val (.int p2), .val (.int p3), .val (.int p4), .val (.int p5), .val (.int p6), .val (.int nw), .val (.ref b16), .unset, .unset, .unset, .unset, .unset, .unset, .unset, .unset] [(.int c90), (.int (5 : Int32)), (.ref b16)]
    refine r_stC 5 [(nar .char c26), (nar .char c38), (nar .char c51), (nar .char c64), (nar .char c77), (nar .char c90)] V80 (by decide) rfl (Nat.le_of_ble_eq_true rfl) rfl ge16 d0_93 ?_
    intro h93 W93 V93
    have V93' : ∃ vs : List Int32, vs.length = 6 ∧ Ary Z h93 b16 .char vs := ⟨_, rfl, V93⟩
    obtain ⟨vs, hl, V⟩ := V93'
    have hz93 : n0 ≤ h93.size := Nat.le_trans ge16 (Nat.le_of_lt V.lt)
    refine r_iloadN d0_94 rfl ?_
    refine r_ldc (v := (2147483647 : Int32)) (hw _ (List.mem_of_getElem? (i := 5) rfl)) d0_95 ?_
    refine r_iand d0_97 ?_
    refine r_bipush (7 : Int32) rfl d0_98 ?_
    refine r_irem d0_100 (by decide) ?_
    obtain ⟨s, e_s, l_s⟩ := n32_mod p2 7 (by omega) (by omega)
    rw [show ((p2 &&& (2147483647 : Int32)) % (7 : Int32)) = s.toInt32 from e_s]
    refine r_istore d0_101 [.val (.int p1), .val (.int p2), .val (.int p3), .val (.int p4), .val (.int p5), .val (.int p6), .val (.int nw), .val (.ref b16), .val (.int s.toInt32), .unset, .unset, .unset, .unset, .unset, .unset, .unset] rfl ?_
    refine r_iload d0_103 rfl ?_
    refine r_iloadN d0_105 rfl ?_
    refine r_ldc (v := (2147483647 : Int32)) (hw _ (List.mem_of_getElem? (i := 5) rfl)) d0_106 ?_
    refine r_iand d0_108 ?_
    refine r_bipush (7 : Int32) rfl d0_109 ?_
    refine r_iload d0_111 rfl ?_
    refine r_isub d0_113 ?_
    rw [show (7 : Int32) - s.toInt32 = (7 - s).toInt32 from n32_sub (a := 7) (b := s) (by omega)]
    refine r_irem d0_114 (fun z => by have := (n32_eq (a := 7 - s) (b := 0) (by omega) (by omega)).mp z; omega) ?_
    obtain ⟨d, e_d, l_d⟩ := n32_mod p3 (7 - s) (by omega) (by omega)
    rw [show ((p3 &&& (2147483647 : Int32)) % (7 - s).toInt32) = d.toInt32 from e_d]
    refine r_iadd d0_115 ?_
    rw [n32_add s d]
    refine r_istore d0_116 [.val (.int p1), .val (.int p2), .val (.int p3), .val (.int p4), .val (.int p5), .val (.int p6), .val (.int nw), .val (.ref b16), .val (.int s.toInt32), .val (.int (s + d).toInt32), .unset, .unset, .unset, .unset, .unset, .unset] rfl ?_
    refine r_iload d0_118 rfl ?_
    refine r_iload d0_120 rfl ?_
    refine r_isub d0_122 ?_
    rw [n32_sub (a := s + d) (b := s) (by omega), show s + d - s = d by omega]
    refine r_istore d0_123 [.val (.int p1), .val (.int p2), .val (.int p3), .val (.int p4), .val (.int p5), .val (.int p6), .val (.int nw), .val (.ref b16), .val (.int s.toInt32), .val (.int (s + d).toInt32), .val (.int d.toInt32), .unset, .unset, .unset, .unset, .unset] rfl ?_
    refine r_iload d0_125 rfl ?_
    refine r_iconst (1 : Int32) rfl d0_127 ?_
    refine r_iand d0_128 ?_
    have J179 : ∀ (o m : Nat) (hom : o + m ≤ 6), ORun l x code maxLocals ret room_1 Z n0 #[(.int p1), (.int p2), (.int p3), (.int p4), (.int p5), (.int p6)] (fun v h => v = some (.int 1)) h93 1 6 179 [.val (.int p1), .val (.int p2), .val (.int p3), .val (.int p4), .val (.int p5), .val (.int p6), .val (.int nw), .val (.ref b16), .val (.int s.toInt32), .val (.int (s + d).toInt32), .val (.int d.toInt32), .val (.int o.toInt32), .val (.int (o + m).toInt32), .unset, .unset, .unset] [] := by
      intro o m hom
      refine r_iload d0_179 rfl ?_
      refine r_iload d0_181 rfl ?_
      refine r_iload d0_183 rfl ?_
      refine r_isub d0_185 ?_
      rw [n32_sub (a := o + m) (b := o) (by omega), show o + m - o = m by omega]
      have J284 : ∀ (ee : Int32) (he : ee = own_res vs s o d m), ORun l x code maxLocals ret room_1 Z n0 #[(.int p1), (.int p2), (.int p3), (.int p4), (.int p5), (.int p6)] (fun v h => v = some (.int 1)) h93 1 6 284 [.val (.int p1), .val (.int p2), .val (.int p3), .val (.int p4), .val (.int p5), .val (.int p6), .val (.int nw), .val (.ref b16), .val (.int s.toInt32), .val (.int (s + d).toInt32), .val (.int d.toInt32), .val (.int o.toInt32), .val (.int (o + m).toInt32), .unset, .unset, .unset] [(.int ee)] := by
        intro ee he
        refine r_istore d0_284 [.val (.int p1), .val (.int p2), .val (.int p3), .val (.int p4), .val (.int p5), .val (.int p6), .val (.int nw), .val (.ref b16), .val (.int s.toInt32), .val (.int (s + d).toInt32), .val (.int d.toInt32), .val (.int o.toInt32), .val (.int (o + m).toInt32), .val (.int ee), .unset, .unset] rfl ?_
        refine r_new (hw _ (List.mem_of_getElem? (i := 9) rfl)) (hw _ (List.mem_of_getElem? (i := 10) rfl)) (hw _ (List.mem_of_getElem? (i := 11) rfl)) d0_286 (by decide) (by decide) ?_
        rintro hn286 ⟨E286, A286, D286⟩
        obtain ⟨b286, g286⟩ : ∃ z, z = h93.size := ⟨_, rfl⟩
        rw [← g286] at A286 ⊢
        simp only [← g286] at D286
        have F286_line : Fld Z hn286 b286 "com/example/flowsieve/flowsieve/xml/XmlScanner" "line" "I" (.int (0 : Int32)) := D286 (Or.inl (hw _ (List.mem_of_getElem? (i := 22) rfl))) (ty := .int) (by decide)
        have F286_text : Fld Z hn286 b286 "com/example/flowsieve/flowsieve/xml/XmlScanner" "text" "[C" .null := D286 (Or.inr (hw _ (List.mem_of_getElem? (i := 24) rfl))) (ty := (.array .char)) (by decide)
        have F286_length : Fld Z hn286 b286 "com/example/flowsieve/flowsieve/xml/XmlScanner" "length" "I" (.int (0 : Int32)) := D286 (Or.inr (hw _ (List.mem_of_getElem? (i := 26) rfl))) (ty := .int) (by decide)
        have F286_undecodable : Fld Z hn286 b286 "com/example/flowsieve/flowsieve/xml/XmlScanner" "undecodable" "Ljava/lang/String;" .null := D286 (Or.inr (hw _ (List.mem_of_getElem? (i := 28) rfl))) (ty := (.object "java/lang/String")) (by decide)
        have F286_undecodableIndex : Fld Z hn286 b286 "com/example/flowsieve/flowsieve/xml/XmlScanner" "undecodableIndex" "I" (.int (0 : Int32)) := D286 (Or.inr (hw _ (List.mem_of_getElem? (i := 30) rfl))) (ty := .int) (by decide)
        have F286_places : Fld Z hn286 b286 "com/example/flowsieve/flowsieve/xml/XmlScanner" "places" "Lcom/example/flowsieve/flowsieve/xml/Places;" .null := D286 (Or.inr (hw _ (List.mem_of_getElem? (i := 45) rfl))) (ty := (.object "com/example/flowsieve/flowsieve/xml/Places")) (by decide)
        show ORun _ _ _ _ _ _ _ _ _ _ hn286 2 14 289 [.val (.int p1), .val (.int p2), .val (.int p3), .val (.int p4), .val (.int p5), .val (.int p6), .val (.int nw), .val (.ref b16), .val (.int s.toInt32), .val (.int (s + d).toInt32), .val (.int d.toInt32), .val (.int o.toInt32), .val (.int (o + m).toInt32), .val (.int ee), .unset, .unset] [(.ref b286)]
        refine r_dup d0_289 rfl ?_
        refine r_aload d0_290 rfl rfl ?_
        refine r_bipush (6 : Int32) rfl d0_292 ?_
        have ge286 : n0 ≤ b286 := by rw [g286]; exact hz93
        have ne286 : b16 ≠ b286 := by rw [g286]; exact Nat.ne_of_lt V.lt
        refine r_special [(.ref b16), (.int (6 : Int32))] [(.ref b286)] b286 rfl pd0_1 rfl rfl (hw _ (List.mem_of_getElem? (i := 12) rfl)) (hw _ (List.mem_of_getElem? (i := 13) rfl)) (hw _ (List.mem_of_getElem? (i := 11) rfl)) (hw _ (List.mem_of_getElem? (i := 14) rfl)) (by decide) (R' := ({ frames := 3, cells := 1, slots := 4, locals := 56 } : Room)) (ct3 hw b286 b16 (6 : Int32) A286 F286_line F286_text F286_length F286_undecodable F286_undecodableIndex F286_places ge286 (Nat.le_trans hz93 E286.1)) d0_294 rfl (by decide) 1 rfl (by decide) (by decide) (by decide) ?_
        rintro _ h294 ⟨rfl, K294, X294, G294⟩
        have V294 := (V.ext E286).keep K294 (ninS ne286 nin0)
        show ORun _ _ _ _ _ _ _ _ _ _ h294 3 18 297 [.val (.int p1), .val (.int p2), .val (.int p3), .val (.int p4), .val (.int p5), .val (.int p6), .val (.int nw), .val (.ref b16), .val (.int s.toInt32), .val (.int (s + d).toInt32), .val (.int d.toInt32), .val (.int o.toInt32), .val (.int (o + m).toInt32), .val (.int ee), .unset, .unset] [(.ref b286)]
        refine r_astore d0_297 rfl [.val (.int p1), .val (.int p2), .val (.int p3), .val (.int p4), .val (.int p5), .val (.int p6), .val (.int nw), .val (.ref b16), .val (.int s.toInt32), .val (.int (s + d).toInt32), .val (.int d.toInt32), .val (.int o.toInt32), .val (.int (o + m).toInt32), .val (.int ee), .val (.ref b286), .unset] rfl ?_
        refine r_aload d0_299 rfl rfl ?_
        refine r_iload d0_301 rfl ?_
        refine r_iload d0_303 rfl ?_
        refine r_iload d0_305 rfl ?_
        refine r_iload d0_307 rfl ?_
        refine r_virtualP [(.int s.toInt32), (.int (s + d).toInt32), (.int o.toInt32), (.int (o + m).toInt32)] [] b286 X294 rfl pd0_2 rfl (hw _ (List.mem_of_getElem? (i := 46) rfl)) (hw _ (List.mem_of_getElem? (i := 47) rfl)) (hw _ (List.mem_of_getElem? (i := 49) rfl)) (hw _ (List.mem_of_getElem? (i := 48) rfl)) (hw _ (List.mem_of_getElem? (i := 11) rfl)) (hw _ (List.mem_of_getElem? (i := 50) rfl)) rfl (by decide) (w := (.int (own_res vs s o (s + d - s) (o + m - o)))) (R' := ({ frames := 0, cells := 0, slots := 0, locals := 0 } : Room)) (ct7 hw b286 b16 s (s + d) o (o + m) vs G294 V294 hl (by omega) (by omega)) d0_309 rfl (by decide) 0 rfl (by decide) rfl rfl (by decide) (by decide) ?_
        refine r_istore d0_312 [.val (.int p1), .val (.int p2), .val (.int p3), .val (.int p4), .val (.int p5), .val (.int p6), .val (.int nw), .val (.ref b16), .val (.int s.toInt32), .val (.int (s + d).toInt32), .val (.int d.toInt32), .val (.int o.toInt32), .val (.int (o + m).toInt32), .val (.int ee), .val (.ref b286), .val (.int (own_res vs s o (s + d - s) (o + m - o)))] rfl ?_
        refine r_iload d0_314 rfl ?_
        refine r_iload d0_316 rfl ?_
        refine r_icmp_ne d0_318 (fun hc318 => ?_) (fun hc318 => ?_)
        · exfalso; exact hc318 (by rw [he, show s + d - s = d by omega, show o + m - o = m by omega])
        · refine r_iconst (1 : Int32) rfl d0_321 ?_
          refine r_goto d0_322 ?_
          exact r_nret (t := .boolean) (by simp) d0_326 (by decide) (by decide) (rfl)
      refine r_icmp_ne d0_186 (fun hc186 => ?_) (fun hc186 => ?_)
      · refine r_iconst (0 : Int32) rfl d0_283 ?_
        exact J284 _ (by rw [own_res, if_neg (fun z => hc186 (by rw [z.1]))])
      · have hdm : d = m := (n32_eq (by omega) (by omega)).mp hc186
        refine r_aload d0_189 rfl rfl ?_
        refine r_iload d0_191 rfl ?_
        refine r_iload d0_193 rfl ?_
        refine r_iload d0_195 rfl ?_
        refine r_iconst (0 : Int32) rfl d0_197 ?_
        refine r_staticP [(.ref b16), (.int s.toInt32), (.int o.toInt32), (.int d.toInt32), (.int (0 : Int32))] [] rfl pd0_3 rfl (hw _ (List.mem_of_getElem? (i := 6) rfl)) (hw _ (List.mem_of_getElem? (i := 7) rfl)) (hw _ (List.mem_of_getElem? (i := 3) rfl)) (hw _ (List.mem_of_getElem? (i := 8) rfl)) (by decide) (w := (.int (own_eq vs s o d 0))) (R' := ({ frames := 0, cells := 0, slots := 0, locals := 0 } : Room)) (ct2 hw b16 s o d 0 vs V hl (by omega) (by omega) (by omega) (by omega)) d0_198 rfl (by decide) 0 rfl (by decide) rfl rfl (by decide) (by decide) ?_
        refine r_if_eq d0_201 (fun hc201 => ?_) (fun hc201 => ?_)
        · refine r_iconst (0 : Int32) rfl d0_283 ?_
          exact J284 _ (own_no vs s o d m 0 hc201)
        · refine r_aload d0_204 rfl rfl ?_
          refine r_iload d0_206 rfl ?_
          refine r_iload d0_208 rfl ?_
          refine r_iload d0_210 rfl ?_
          refine r_iconst (1 : Int32) rfl d0_212 ?_
          refine r_staticP [(.ref b16), (.int s.toInt32), (.int o.toInt32), (.int d.toInt32), (.int (1 : Int32))] [] rfl pd0_3 rfl (hw _ (List.mem_of_getElem? (i := 6) rfl)) (hw _ (List.mem_of_getElem? (i := 7) rfl)) (hw _ (List.mem_of_getElem? (i := 3) rfl)) (hw _ (List.mem_of_getElem? (i := 8) rfl)) (by decide) (w := (.int (own_eq vs s o d 1))) (R' := ({ frames := 0, cells := 0, slots := 0, locals := 0 } : Room)) (ct2 hw b16 s o d 1 vs V hl (by omega) (by omega) (by omega) (by omega)) d0_213 rfl (by decide) 0 rfl (by decide) rfl rfl (by decide) (by decide) ?_
          refine r_if_eq d0_216 (fun hc216 => ?_) (fun hc216 => ?_)
          · refine r_iconst (0 : Int32) rfl d0_283 ?_
            exact J284 _ (own_no vs s o d m 1 hc216)
          · refine r_aload d0_219 rfl rfl ?_
            refine r_iload d0_221 rfl ?_
            refine r_iload d0_223 rfl ?_
            refine r_iload d0_225 rfl ?_
            refine r_iconst (2 : Int32) rfl d0_227 ?_
            refine r_staticP [(.ref b16), (.int s.toInt32), (.int o.toInt32), (.int d.toInt32), (.int (2 : Int32))] [] rfl pd0_3 rfl (hw _ (List.mem_of_getElem? (i := 6) rfl)) (hw _ (List.mem_of_getElem? (i := 7) rfl)) (hw _ (List.mem_of_getElem? (i := 3) rfl)) (hw _ (List.mem_of_getElem? (i := 8) rfl)) (by decide) (w := (.int (own_eq vs s o d 2))) (R' := ({ frames := 0, cells := 0, slots := 0, locals := 0 } : Room)) (ct2 hw b16 s o d 2 vs V hl (by omega) (by omega) (by omega) (by omega)) d0_228 rfl (by decide) 0 rfl (by decide) rfl rfl (by decide) (by decide) ?_
            refine r_if_eq d0_231 (fun hc231 => ?_) (fun hc231 => ?_)
            · refine r_iconst (0 : Int32) rfl d0_283 ?_
              exact J284 _ (own_no vs s o d m 2 hc231)
            · refine r_aload d0_234 rfl rfl ?_
              refine r_iload d0_236 rfl ?_
              refine r_iload d0_238 rfl ?_
              refine r_iload d0_240 rfl ?_
              refine r_iconst (3 : Int32) rfl d0_242 ?_
              refine r_staticP [(.ref b16), (.int s.toInt32), (.int o.toInt32), (.int d.toInt32), (.int (3 : Int32))] [] rfl pd0_3 rfl (hw _ (List.mem_of_getElem? (i := 6) rfl)) (hw _ (List.mem_of_getElem? (i := 7) rfl)) (hw _ (List.mem_of_getElem? (i := 3) rfl)) (hw _ (List.mem_of_getElem? (i := 8) rfl)) (by decide) (w := (.int (own_eq vs s o d 3))) (R' := ({ frames := 0, cells := 0, slots := 0, locals := 0 } : Room)) (ct2 hw b16 s o d 3 vs V hl (by omega) (by omega) (by omega) (by omega)) d0_243 rfl (by decide) 0 rfl (by decide) rfl rfl (by decide) (by decide) ?_
              refine r_if_eq d0_246 (fun hc246 => ?_) (fun hc246 => ?_)
              · refine r_iconst (0 : Int32) rfl d0_283 ?_
                exact J284 _ (own_no vs s o d m 3 hc246)
              · refine r_aload d0_249 rfl rfl ?_
                refine r_iload d0_251 rfl ?_
                refine r_iload d0_253 rfl ?_
                refine r_iload d0_255 rfl ?_
                refine r_iconst (4 : Int32) rfl d0_257 ?_
                refine r_staticP [(.ref b16), (.int s.toInt32), (.int o.toInt32), (.int d.toInt32), (.int (4 : Int32))] [] rfl pd0_3 rfl (hw _ (List.mem_of_getElem? (i := 6) rfl)) (hw _ (List.mem_of_getElem? (i := 7) rfl)) (hw _ (List.mem_of_getElem? (i := 3) rfl)) (hw _ (List.mem_of_getElem? (i := 8) rfl)) (by decide) (w := (.int (own_eq vs s o d 4))) (R' := ({ frames := 0, cells := 0, slots := 0, locals := 0 } : Room)) (ct2 hw b16 s o d 4 vs V hl (by omega) (by omega) (by omega) (by omega)) d0_258 rfl (by decide) 0 rfl (by decide) rfl rfl (by decide) (by decide) ?_
                refine r_if_eq d0_261 (fun hc261 => ?_) (fun hc261 => ?_)
                · refine r_iconst (0 : Int32) rfl d0_283 ?_
                  exact J284 _ (own_no vs s o d m 4 hc261)
                · refine r_aload d0_264 rfl rfl ?_
                  refine r_iload d0_266 rfl ?_
                  refine r_iload d0_268 rfl ?_
                  refine r_iload d0_270 rfl ?_
                  refine r_iconst (5 : Int32) rfl d0_272 ?_
                  refine r_staticP [(.ref b16), (.int s.toInt32), (.int o.toInt32), (.int d.toInt32), (.int (5 : Int32))] [] rfl pd0_3 rfl (hw _ (List.mem_of_getElem? (i := 6) rfl)) (hw _ (List.mem_of_getElem? (i := 7) rfl)) (hw _ (List.mem_of_getElem? (i := 3) rfl)) (hw _ (List.mem_of_getElem? (i := 8) rfl)) (by decide) (w := (.int (own_eq vs s o d 5))) (R' := ({ frames := 0, cells := 0, slots := 0, locals := 0 } : Room)) (ct2 hw b16 s o d 5 vs V hl (by omega) (by omega) (by omega) (by omega)) d0_273 rfl (by decide) 0 rfl (by decide) rfl rfl (by decide) (by decide) ?_
                  refine r_if_eq d0_276 (fun hc276 => ?_) (fun hc276 => ?_)
                  · refine r_iconst (0 : Int32) rfl d0_283 ?_
                    exact J284 _ (own_no vs s o d m 5 hc276)
                  · refine r_iconst (1 : Int32) rfl d0_279 ?_
                    refine r_goto d0_280 ?_
                    exact J284 _ (own_yes vs s o d m hdm (by omega) hc201 hc216 hc231 hc246 hc261 hc276)
    refine r_if_eq d0_129 (fun hc129 => ?_) (fun hc129 => ?_)
    · refine r_iloadN d0_154 rfl ?_
      refine r_ldc (v := (2147483647 : Int32)) (hw _ (List.mem_of_getElem? (i := 5) rfl)) d0_155 ?_
      refine r_iand d0_157 ?_
      refine r_bipush (7 : Int32) rfl d0_158 ?_
      refine r_irem d0_160 (by decide) ?_
      obtain ⟨o, e_o, l_o⟩ := n32_mod p4 7 (by omega) (by omega)
      rw [show ((p4 &&& (2147483647 : Int32)) % (7 : Int32)) = o.toInt32 from e_o]
      refine r_istore d0_161 [.val (.int p1), .val (.int p2), .val (.int p3), .val (.int p4), .val (.int p5), .val (.int p6), .val (.int nw), .val (.ref b16), .val (.int s.toInt32), .val (.int (s + d).toInt32), .val (.int d.toInt32), .val (.int o.toInt32), .unset, .unset, .unset, .unset] rfl ?_
      refine r_iload d0_163 rfl ?_
      refine r_iload d0_165 rfl ?_
      refine r_ldc (v := (2147483647 : Int32)) (hw _ (List.mem_of_getElem? (i := 5) rfl)) d0_167 ?_
      refine r_iand d0_169 ?_
      refine r_bipush (7 : Int32) rfl d0_170 ?_
      refine r_iload d0_172 rfl ?_
      refine r_isub d0_174 ?_
      rw [show (7 : Int32) - o.toInt32 = (7 - o).toInt32 from n32_sub (a := 7) (b := o) (by omega)]
      refine r_irem d0_175 (fun z => by have := (n32_eq (a := 7 - o) (b := 0) (by omega) (by omega)).mp z; omega) ?_
      obtain ⟨t, e_t, l_t⟩ := n32_mod p5 (7 - o) (by omega) (by omega)
      rw [show ((p5 &&& (2147483647 : Int32)) % (7 - o).toInt32) = t.toInt32 from e_t]
      refine r_iadd d0_176 ?_
      rw [n32_add o t]
      refine r_istore d0_177 [.val (.int p1), .val (.int p2), .val (.int p3), .val (.int p4), .val (.int p5), .val (.int p6), .val (.int nw), .val (.ref b16), .val (.int s.toInt32), .val (.int (s + d).toInt32), .val (.int d.toInt32), .val (.int o.toInt32), .val (.int (o + t).toInt32), .unset, .unset, .unset] rfl ?_
      exact J179 o t (by omega)
    · refine r_iloadN d0_132 rfl ?_
      refine r_ldc (v := (2147483647 : Int32)) (hw _ (List.mem_of_getElem? (i := 5) rfl)) d0_133 ?_
      refine r_iand d0_135 ?_
      refine r_bipush (7 : Int32) rfl d0_136 ?_
      refine r_iload d0_138 rfl ?_
      refine r_isub d0_140 ?_
      rw [show (7 : Int32) - d.toInt32 = (7 - d).toInt32 from n32_sub (a := 7) (b := d) (by omega)]
      refine r_irem d0_141 (fun z => by have := (n32_eq (a := 7 - d) (b := 0) (by omega) (by omega)).mp z; omega) ?_
      obtain ⟨o, e_o, l_o⟩ := n32_mod p4 (7 - d) (by omega) (by omega)
      rw [show ((p4 &&& (2147483647 : Int32)) % (7 - d).toInt32) = o.toInt32 from e_o]
      refine r_istore d0_142 [.val (.int p1), .val (.int p2), .val (.int p3), .val (.int p4), .val (.int p5), .val (.int p6), .val (.int nw), .val (.ref b16), .val (.int s.toInt32), .val (.int (s + d).toInt32), .val (.int d.toInt32), .val (.int o.toInt32), .unset, .unset, .unset, .unset] rfl ?_
      refine r_iload d0_144 rfl ?_
      refine r_iload d0_146 rfl ?_
      refine r_iadd d0_148 ?_
      rw [n32_add o d]
      refine r_istore d0_149 [.val (.int p1), .val (.int p2), .val (.int p3), .val (.int p4), .val (.int p5), .val (.int p6), .val (.int nw), .val (.ref b16), .val (.int s.toInt32), .val (.int (s + d).toInt32), .val (.int d.toInt32), .val (.int o.toInt32), .val (.int (o + d).toInt32), .unset, .unset, .unset] rfl ?_
      refine r_goto d0_151 ?_
      exact J179 o d (by omega)
  refine r_if_eq d0_4 (fun hc4 => ?_) (fun hc4 => ?_)
  · refine r_iconst (0 : Int32) rfl d0_11 ?_
    exact J12 _
  · refine r_iconst (1 : Int32) rfl d0_7 ?_
    refine r_goto d0_8 ?_
    exact J12 _
set_option maxRecDepth 65536 in
set_option maxHeartbeats 40000000 in
theorem comes_1 {Post : Tables → Env → Array Value → State → Outcome → State → Prop} (hpost : ∀ tb e args s v u, (limb_1_1.after args s (.returned v) u = true ∧ limb_1_2.after args s (.returned v) u = true ∧ True) → FrameEnd s (.returned v) u (Jvm.fieldLocs frame_1_writes args s ++ Jvm.arrayLocs frame_1_arrays args s ++ Jvm.staticLocs frame_1_statics s) 16 128 → Post tb e args s (.returned v) u) :
    ArmFor flags0 classFile x code maxLocals ret World_1 tables_1 room_1 Calls_1 rest_1 Pre_1 Post := by
  intro l hfl _ _ p e ha hc hk s m args below hf hA hF happ hP
  obtain ⟨hcalls, hrest, hpre⟩ := hP
  obtain ⟨-, -, -, hnamed, -, -, -, hat⟩ := (Spec.applies_iff hf).mp happ
  obtain ⟨hg, hn⟩ := and_e (Cond.before_iff.mp (show (Jvm.Cond.and given_1 narrow_1).before args s = true from hpre))
  obtain ⟨g1, g2⟩ := and_e hg
  obtain ⟨g3, g4⟩ := and_e g2
  obtain ⟨g5, g6⟩ := and_e g4
  obtain ⟨g7, g8⟩ := and_e g6
  obtain ⟨g9, g10⟩ := and_e g8
  obtain ⟨g11, g12⟩ := and_e g10
  obtain ⟨w0, w1, w2, w3, w4, w5, rfl⟩ : ∃ w0 w1 w2 w3 w4 w5 : Value, args = #[w0, w1, w2, w3, w4, w5] := by
    have hs : args.size = 6 := by simpa [Cond.value, given_1] using g1
    obtain ⟨L⟩ := args
    match L, hs with
    | [w0, w1, w2, w3, w4, w5], _ => exact ⟨w0, w1, w2, w3, w4, w5, rfl⟩
  have hw := fun d (hd : d ∈ tables_1) => atoms_spec (ws := Jvm.Cond.code x code maxLocals ret :: tables_1) hat d (List.mem_cons_of_mem _ hd)
  have hfit : Fit s := fun {y c} hc i hi => by
    obtain ⟨ha, rfl⟩ := Array.getElem?_eq_some_iff.mp hc
    have q := List.all_eq_true.mp ((Array.all_eq_true_iff_forall_mem.mp hF) _ (Array.getElem_mem ha)) i (List.mem_range.mpr hi)
    simpa [Array.getElem?_eq_getElem hi] using q
  obtain ⟨i0, ei0⟩ := is_v g3
  obtain rfl : w0 = (.int i0) := Option.some.inj ei0
  obtain ⟨i1, ei1⟩ := is_v g5
  obtain rfl : w1 = (.int i1) := Option.some.inj ei1
  obtain ⟨i2, ei2⟩ := is_v g7
  obtain rfl : w2 = (.int i2) := Option.some.inj ei2
  obtain ⟨i3, ei3⟩ := is_v g9
  obtain rfl : w3 = (.int i3) := Option.some.inj ei3
  obtain ⟨i4, ei4⟩ := is_v g11
  obtain rfl : w4 = (.int i4) := Option.some.inj ei4
  obtain ⟨i5, ei5⟩ := is_v g12
  obtain rfl : w5 = (.int i5) := Option.some.inj ei5
  obtain ⟨n, o, h1, h2, h3, _, L, rfl, ⟨rfl, N⟩, hq⟩ := ct0 (n0 := s.heap.size) hw (Nat.le_refl _) i0 i1 i2 i3 i4 i5 p e ha hc hk s m _ below hf ((Spec.applies_iff_loose hf).mp happ).1 ⟨rfl, State.Warmed39.refl s, rfl⟩ trivial
  exact ⟨n, _, h1, h2, h3, hpost _ _ _ _ _ _ ⟨Cond.after_iff.mpr rfl, Cond.after_iff.mpr (eq_i res_at (Term.int_eval (1)) rfl), trivial⟩ ⟨hq.1, hq.2.1, (hq.2.2.sift fun y hy => Or.inr (N y hy)).mono (by decide) (by decide)⟩⟩
theorem main_1_1 : Claimed_1_1 := comes_1 fun _ _ _ _ _ _ h hF => ⟨h.1, hF⟩
theorem main_1_2 : Claimed_1_2 := comes_1 fun _ _ _ _ _ _ h hF => ⟨h.2.1, hF⟩
end Jvm.Pilot.@@N@@
namespace Jvm.Pilot.@@N@@
open Jvm Jvm.ClassFile Sem Op Lib Jvm.Free Jvm.Stand Jvm.Pilot.@@N@@.Jvm.D
/-! MADE BY PROGRAM (witnessworld.py) out of the Statement's table words and the real class files: 12 classes; the members and pool entries that the words name. The judged class is class 1, her method 3. -/
namespace start1
open Jvm.ClassFile
def u (s : String) : CpInfo := .utf8 (stringToUtf16 s)
/-- a pool by its gaps: so many unusable entries, then the entry; so many at the end -/
def gap : Nat → List CpInfo → List CpInfo
  | 0, r => r
  | n + 1, r => .unusable :: gap n r
def poolList (es : List (Nat × CpInfo)) (last : Nat) : List CpInfo := es.foldr (fun e r => gap e.1 (e.2 :: r)) (gap last [])
def pool (es : List (Nat × CpInfo)) (last : Nat) : Array CpInfo := ⟨poolList es last⟩
def fileOf (pool : Array CpInfo) (this : Nat) (attrs : Array Attribute := #[]) (ms : Array MethodInfo := #[]) (fl : Nat := 33) (sup : Nat := 0) (ifs : Array Nat := #[]) (fds : Array FieldInfo := #[]) : ClassFile where
  minorVersion := 0
  majorVersion := 65
  constantPool := pool
  accessFlags := fl
  thisClass := this
  superClass := sup
  interfaces := ifs
  fields := fds
  methods := ms
  attributes := attrs
def plain (name : String) (sup : Option ClassId) : Class where
  name := name
  kind := .ordinary
  loader := none
  accessFlags := 33
  super := sup
  interfaces := #[]
  cf := none
  fields := #[]
  methods := #[]
  instanceTypes := #[]
  staticTypes := #[]
  resolved := #[]
  callSites := []
  init := .initialized
  statics := none
  mirror := none

def pool0 : Array CpInfo := pool [(5, u "<init>"), (0, u "()V"), (1, .class_ 10), (1, u "java/lang/Object")] 113

def k0c0 : Code := { maxStack := 0, maxLocals := 1, code := object_method_1_code, exceptionTable := #[], attributes := #[] }
def k0m0 : Method := { name := "<init>", desc := "()V", sig := { parameters := [], returnType := none }, accessFlags := 1, code := some k0c0 }
/-- java/lang/Object -/
def k0 : Class := { plain "java/lang/Object" none with
  accessFlags := 33
  interfaces := #[]
  cf := some (fileOf pool0 8 #[] #[{ accessFlags := 1, nameIndex := 5, descriptorIndex := 6, attributes := #[] }] 33 0 #[] #[])
  fields := #[]
  methods := #[k0m0]
  instanceTypes := #[]
  staticTypes := #[]
  resolved := Array.replicate 124 none
  statics := none }

def pool1 : Array CpInfo := pool [(2, .class_ 4), (1, u "java/lang/Object"), (0, u "<init>"), (0, u "()V"), (0, .integer 65532), (0, .methodref 9 10), (0, .class_ 11), (0, .nameAndType 12 13), (0, u "com/example/flowsieve/flowsieve/xml/XmlScannerSameCharactersPinLaw"), (0, u "ch"), (0, u "(IZ)C"), (0, .integer 2147483647), (0, .methodref 9 16), (0, .nameAndType 17 18), (0, u "eqAt"), (0, u "([CIIII)Z"), (0, .class_ 20), (0, u "com/example/flowsieve/flowsieve/xml/XmlScanner"), (0, .methodref 19 22), (0, .nameAndType 5 23), (0, u "([CI)V"), (0, .methodref 19 25), (0, .nameAndType 26 27), (0, u "sameCharacters"), (0, u "(IIII)Z"), (3, u "law"), (0, u "(IIIIII)Z")] 4

def k1m0 : Method := { name := "<init>", desc := "()V", sig := { parameters := [], returnType := none }, accessFlags := 2, code := none }
def k1c1 : Code := { maxStack := 3, maxLocals := 3, code := method_2_code, exceptionTable := #[], attributes := #[] }
def k1m1 : Method := { name := "ch", desc := "(IZ)C", sig := { parameters := [.int, .boolean], returnType := some .char }, accessFlags := 10, code := some k1c1 }
def k1c2 : Code := { maxStack := 4, maxLocals := 5, code := method_3_code, exceptionTable := #[], attributes := #[] }
def k1m2 : Method := { name := "eqAt", desc := "([CIIII)Z", sig := { parameters := [(.array .char), .int, .int, .int, .int], returnType := some .boolean }, accessFlags := 10, code := some k1c2 }
def k1c3 : Code := { maxStack := 5, maxLocals := 16, code := code, exceptionTable := #[], attributes := #[] }
def k1m3 : Method := { name := "law", desc := "(IIIIII)Z", sig := { parameters := [.int, .int, .int, .int, .int, .int], returnType := some .boolean }, accessFlags := 9, code := some k1c3 }
/-- com/example/flowsieve/flowsieve/xml/XmlScannerSameCharactersPinLaw -/
def k1 : Class := { plain "com/example/flowsieve/flowsieve/xml/XmlScannerSameCharactersPinLaw" (some 0) with
  accessFlags := 49
  interfaces := #[]
  cf := some (fileOf pool1 9 #[] #[{ accessFlags := 2, nameIndex := 5, descriptorIndex := 6, attributes := #[] }, { accessFlags := 10, nameIndex := 12, descriptorIndex := 13, attributes := #[] }, { accessFlags := 10, nameIndex := 17, descriptorIndex := 18, attributes := #[] }, { accessFlags := 9, nameIndex := 31, descriptorIndex := 32, attributes := #[] }] 49 2 #[] #[])
  fields := #[]
  methods := #[k1m0, k1m1, k1m2, k1m3]
  instanceTypes := #[]
  staticTypes := #[]
  resolved := Array.replicate 37 none
  statics := none }

def pool2 : Array CpInfo := pool [(1, .methodref 2 3), (0, .class_ 4), (0, .nameAndType 5 6), (0, u "com/example/flowsieve/flowsieve/xml/XmlScanner"), (0, u "<init>"), (0, u "([CILjava/lang/String;I)V"), (4, u "text"), (3, u "length"), (8, .methodref 25 26), (0, .class_ 27), (0, .nameAndType 5 28), (0, u "java/lang/Object"), (0, u "()V"), (0, .fieldref 2 30), (0, .nameAndType 31 32), (0, u "line"), (0, u "I"), (0, .fieldref 2 34), (0, .nameAndType 11 35), (0, u "[C"), (0, .fieldref 2 37), (0, .nameAndType 15 32), (0, .fieldref 2 39), (0, .nameAndType 40 41), (0, u "undecodable"), (0, u "Ljava/lang/String;"), (0, .fieldref 2 43), (0, .nameAndType 44 32), (0, u "undecodableIndex"), (0, .class_ 46), (0, u "com/example/flowsieve/flowsieve/xml/Places"), (0, .methodref 45 48), (0, .nameAndType 5 49), (0, u "([C)V"), (0, .fieldref 2 51), (0, .nameAndType 52 53), (0, u "places"), (0, u "Lcom/example/flowsieve/flowsieve/xml/Places;"), (38, u "at"), (22, u "ASCII_NAME_START"), (0, u "[Z"), (9, u "ASCII_NAME_PART"), (87, u "PREDEFINED_ENTITIES"), (0, u "[Ljava/lang/String;"), (2, u "PREDEFINED_CHARACTERS"), (79, .class_ 299), (0, u "com/example/flowsieve/flowsieve/xml/XmlScanner$Declaration"), (2, u "lineStart"), (53, u "NAME_START_RANGES"), (0, u "[I"), (6, u "NAME_PART_RANGES"), (14, u "INSIDE_COMMENT"), (1, u "INSIDE_CDATA_SECTION"), (0, u "([CI)V"), (12, u "sameCharacters"), (0, u "(IIII)Z")] 46

def k2c0 : Code := { maxStack := 5, maxLocals := 3, code := prog_56_method_1_code, exceptionTable := #[], attributes := #[] }
def k2m0 : Method := { name := "<init>", desc := "([CI)V", sig := { parameters := [(.array .char), .int], returnType := none }, accessFlags := 0, code := some k2c0 }
def k2c1 : Code := { maxStack := 4, maxLocals := 5, code := prog_56_method_3_code, exceptionTable := #[], attributes := #[] }
def k2m1 : Method := { name := "<init>", desc := "([CILjava/lang/String;I)V", sig := { parameters := [(.array .char), .int, (.object "java/lang/String"), .int], returnType := none }, accessFlags := 2, code := some k2c1 }
def k2c2 : Code := { maxStack := 4, maxLocals := 7, code := prog_56_method_21_code, exceptionTable := #[], attributes := #[] }
def k2m2 : Method := { name := "sameCharacters", desc := "(IIII)Z", sig := { parameters := [.int, .int, .int, .int], returnType := some .boolean }, accessFlags := 0, code := some k2c2 }
/-- com/example/flowsieve/flowsieve/xml/XmlScanner -/
def k2 : Class := { plain "com/example/flowsieve/flowsieve/xml/XmlScanner" (some 0) with
  accessFlags := 48
  interfaces := #[]
  cf := some (fileOf pool2 2 #[.nestMembers #[298]] #[{ accessFlags := 0, nameIndex := 5, descriptorIndex := 382, attributes := #[] }, { accessFlags := 2, nameIndex := 5, descriptorIndex := 6, attributes := #[] }, { accessFlags := 0, nameIndex := 395, descriptorIndex := 396, attributes := #[] }] 48 25 #[] #[{ accessFlags := 26, nameIndex := 214, descriptorIndex := 215, attributes := #[] }, { accessFlags := 26, nameIndex := 218, descriptorIndex := 35, attributes := #[] }, { accessFlags := 26, nameIndex := 356, descriptorIndex := 357, attributes := #[] }, { accessFlags := 26, nameIndex := 364, descriptorIndex := 357, attributes := #[] }, { accessFlags := 26, nameIndex := 115, descriptorIndex := 116, attributes := #[] }, { accessFlags := 26, nameIndex := 126, descriptorIndex := 116, attributes := #[] }, { accessFlags := 24, nameIndex := 379, descriptorIndex := 41, attributes := #[] }, { accessFlags := 24, nameIndex := 381, descriptorIndex := 41, attributes := #[] }, { accessFlags := 16, nameIndex := 11, descriptorIndex := 35, attributes := #[] }, { accessFlags := 16, nameIndex := 15, descriptorIndex := 32, attributes := #[] }, { accessFlags := 0, nameIndex := 92, descriptorIndex := 32, attributes := #[] }, { accessFlags := 0, nameIndex := 31, descriptorIndex := 32, attributes := #[] }, { accessFlags := 0, nameIndex := 302, descriptorIndex := 32, attributes := #[] }, { accessFlags := 18, nameIndex := 40, descriptorIndex := 41, attributes := #[] }, { accessFlags := 18, nameIndex := 44, descriptorIndex := 32, attributes := #[] }, { accessFlags := 18, nameIndex := 52, descriptorIndex := 53, attributes := #[] }])
  fields := #[{ name := "PREDEFINED_ENTITIES", type := (.array (.object "java/lang/String")), accessFlags := 26, slot := 0, constantValue := 0 }, { name := "PREDEFINED_CHARACTERS", type := (.array .char), accessFlags := 26, slot := 1, constantValue := 0 }, { name := "NAME_START_RANGES", type := (.array .int), accessFlags := 26, slot := 2, constantValue := 0 }, { name := "NAME_PART_RANGES", type := (.array .int), accessFlags := 26, slot := 3, constantValue := 0 }, { name := "ASCII_NAME_START", type := (.array .boolean), accessFlags := 26, slot := 4, constantValue := 0 }, { name := "ASCII_NAME_PART", type := (.array .boolean), accessFlags := 26, slot := 5, constantValue := 0 }, { name := "INSIDE_COMMENT", type := (.object "java/lang/String"), accessFlags := 24, slot := 6, constantValue := 0 }, { name := "INSIDE_CDATA_SECTION", type := (.object "java/lang/String"), accessFlags := 24, slot := 7, constantValue := 0 }, { name := "text", type := (.array .char), accessFlags := 16, slot := 0, constantValue := 0 }, { name := "length", type := .int, accessFlags := 16, slot := 1, constantValue := 0 }, { name := "at", type := .int, accessFlags := 0, slot := 2, constantValue := 0 }, { name := "line", type := .int, accessFlags := 0, slot := 3, constantValue := 0 }, { name := "lineStart", type := .int, accessFlags := 0, slot := 4, constantValue := 0 }, { name := "undecodable", type := (.object "java/lang/String"), accessFlags := 18, slot := 5, constantValue := 0 }, { name := "undecodableIndex", type := .int, accessFlags := 18, slot := 6, constantValue := 0 }, { name := "places", type := (.object "com/example/flowsieve/flowsieve/xml/Places"), accessFlags := 18, slot := 7, constantValue := 0 }]
  methods := #[k2m0, k2m1, k2m2]
  instanceTypes := #[(.array .char), .int, .int, .int, .int, (.object "java/lang/String"), .int, (.object "com/example/flowsieve/flowsieve/xml/Places")]
  staticTypes := #[(.array (.object "java/lang/String")), (.array .char), (.array .int), (.array .int), (.array .boolean), (.array .boolean), (.object "java/lang/String"), (.object "java/lang/String")]
  resolved := Array.replicate 443 none
  statics := none }

def pool3 : Array CpInfo := pool [(1, .methodref 2 3), (0, .class_ 4), (0, .nameAndType 5 6), (0, u "java/lang/Object"), (0, u "<init>"), (0, u "()V"), (0, .fieldref 8 9), (0, .class_ 10), (0, .nameAndType 11 12), (0, u "com/example/flowsieve/flowsieve/xml/Places"), (0, u "line"), (0, u "I"), (0, .fieldref 8 14), (0, .nameAndType 15 12), (0, u "column"), (0, .fieldref 8 17), (0, .nameAndType 18 19), (0, u "text"), (0, u "[C"), (2, u "index"), (17, u "([C)V")] 7

def k3c0 : Code := { maxStack := 2, maxLocals := 2, code := prog_48_method_1_code, exceptionTable := #[], attributes := #[] }
def k3m0 : Method := { name := "<init>", desc := "([C)V", sig := { parameters := [(.array .char)], returnType := none }, accessFlags := 0, code := some k3c0 }
/-- com/example/flowsieve/flowsieve/xml/Places -/
def k3 : Class := { plain "com/example/flowsieve/flowsieve/xml/Places" (some 0) with
  accessFlags := 48
  interfaces := #[]
  cf := some (fileOf pool3 8 #[] #[{ accessFlags := 0, nameIndex := 5, descriptorIndex := 40, attributes := #[] }] 48 2 #[] #[{ accessFlags := 18, nameIndex := 18, descriptorIndex := 19, attributes := #[] }, { accessFlags := 2, nameIndex := 22, descriptorIndex := 12, attributes := #[] }, { accessFlags := 2, nameIndex := 11, descriptorIndex := 12, attributes := #[] }, { accessFlags := 2, nameIndex := 15, descriptorIndex := 12, attributes := #[] }])
  fields := #[{ name := "text", type := (.array .char), accessFlags := 18, slot := 0, constantValue := 0 }, { name := "index", type := .int, accessFlags := 2, slot := 1, constantValue := 0 }, { name := "line", type := .int, accessFlags := 2, slot := 2, constantValue := 0 }, { name := "column", type := .int, accessFlags := 2, slot := 3, constantValue := 0 }]
  methods := #[k3m0]
  instanceTypes := #[(.array .char), .int, .int, .int]
  staticTypes := #[]
  resolved := Array.replicate 48 none
  statics := none }

def pool4 : Array CpInfo := pool [(1, u "java/lang/Cloneable"), (0, .class_ 1), (0, u "java/lang/Object"), (0, .class_ 3)] 3

/-- java/lang/Cloneable -/
def k4 : Class := { plain "java/lang/Cloneable" (some 0) with
  accessFlags := 1537
  interfaces := #[]
  cf := some (fileOf pool4 2 #[] #[] 1537 4 #[] #[])
  fields := #[]
  methods := #[]
  instanceTypes := #[]
  staticTypes := #[]
  resolved := Array.replicate 8 none
  statics := none }

def pool5 : Array CpInfo := pool [(1, u "java/io/Serializable"), (0, .class_ 1), (0, u "java/lang/Object"), (0, .class_ 3)] 3

/-- java/io/Serializable -/
def k5 : Class := { plain "java/io/Serializable" (some 0) with
  accessFlags := 1537
  interfaces := #[]
  cf := some (fileOf pool5 2 #[] #[] 1537 4 #[] #[])
  fields := #[]
  methods := #[]
  instanceTypes := #[]
  staticTypes := #[]
  resolved := Array.replicate 8 none
  statics := none }

/-- the primitive byte -/
def k6 : Class := { plain "byte" none with kind := .primitive 'B', accessFlags := 0x411 }
/-- [B -/
def k7 : Class := { plain "[B" (some 0) with kind := .array 6 .byte, interfaces := #[4, 5], accessFlags := 1041 }

/-- the primitive char -/
def k8 : Class := { plain "char" none with kind := .primitive 'C', accessFlags := 0x411 }
/-- [C -/
def k9 : Class := { plain "[C" (some 0) with kind := .array 8 .char, interfaces := #[4, 5], accessFlags := 1041 }

/-- the primitive int -/
def k10 : Class := { plain "int" none with kind := .primitive 'I', accessFlags := 0x411 }
/-- [I -/
def k11 : Class := { plain "[I" (some 0) with kind := .array 10 .int, interfaces := #[4, 5], accessFlags := 1041 }

def heap : Heap := #[]
def classes : Array Class := #[k0, k1, k2, k3, k4, k5, k6, k7, k8, k9, k10, k11]
def interned : List (Array UInt16 × Addr) := []
def slotsUsed : Nat := 0
def theMethod : MethodId := ⟨1, 3⟩
def args0 : Array Value := #[.int 5, .int 7, .int 9, .int 3, .int 3, .int 1]
def aboutOver (below : List Frame) : State where
  vm := { classes := classes, interned := interned.toArray }
  heap := heap
  slotsUsed := slotsUsed
  threads := #[{ frames := .invoking theMethod args0 :: below }]
def below0 : List Frame := [.native { method := ⟨0, 0⟩, args := #[] }]
def about1 : State := aboutOver below0
def p0 : Program := .bare "" "" ""
def e0 : Env := launch0.env 0 0 0
theorem w_frames : about1.frames = Frame.invoking theMethod args0 :: below0 := rfl
set_option maxRecDepth 65536 in
theorem w_args : argsFit about1.vm theMethod args0 = true := by decide +kernel
set_option maxRecDepth 65536 in
theorem w_heap : heapFits about1 = true := by decide +kernel
set_option maxRecDepth 65536 in
theorem w_runnable : about1.curStatus? = some .runnable := by decide +kernel
set_option maxRecDepth 65536 in
theorem w_alone : about1.alone = true := by decide +kernel
set_option maxRecDepth 65536 in
theorem w_named : about1.methodNamed? x = some theMethod := by decide +kernel
set_option maxRecDepth 65536 in
theorem w_hears : about1.hears theMethod below0 = true := by decide +kernel
set_option maxRecDepth 65536 in
theorem w_ripe : about1.ripe theMethod args0 below0 = true := by decide +kernel
theorem w_running : about1.status = .running := rfl
set_option maxRecDepth 65536 in
theorem w_room : about1.hasRoom e0.platform room_1 = true :=
  launch0.hasRoom_least _ room_1 (by decide +kernel) (by decide +kernel) (by decide +kernel) (by decide +kernel) (by decide +kernel) (by decide +kernel)
theorem allAtoms_all (ts : List Jvm.Cond) (a : Array Jvm.Value) (st : Jvm.State) : (allAtoms ts).before a st = ts.all (fun c => c.before a st) := by
  induction ts with
  | nil => rfl
  | cons c t ih =>
    show (Jvm.Cond.and c (allAtoms t)).before a st = _
    rw [Jvm.Cond.before_and, ih, List.all_cons]
def words1 : List Jvm.Cond := Jvm.Cond.code x code maxLocals ret :: tables_1
/-- a 'code' word, met by the world's own term for the bytes: nothing is compared byte by byte -/
theorem code_word {y : MethodName} {bytes : ByteArray} {mx : Nat} {rt : Option FieldType} {a : Array Value} {s : State} {m : MethodId} {meth : Method} {c : Code} (h1 : s.methodNamed? y = some m) (h2 : s.vm.method? m = some meth) (h3 : meth.code = some c) (h4 : c.code = bytes)
    (h5 : (c.maxLocals == mx && c.exceptionTable.isEmpty && decide (c.maxStack ≤ mostOperands) && decide (meth.sig.returnType = rt) && !meth.locks && decide (parseMethodDescriptor y.desc = some meth.sig)) = true) : (Jvm.Cond.code y bytes mx rt).before a s = true := by
  simp only [Bool.and_eq_true, beq_iff_eq, Bool.not_eq_true', decide_eq_true_eq] at h5
  obtain ⟨⟨⟨⟨⟨g1, g2⟩, g3⟩, g4⟩, g5⟩, g6⟩ := h5
  simp [Cond.before, Cond.holds, Cond.value, h1, h2, h3, h4, g1, g2, g3, g4, g5, g6]
def isCode : Jvm.Cond → Bool
  | .code _ _ _ _ => true
  | _ => false
theorem all_split {L : List Jvm.Cond} {P : Jvm.Cond → Bool} (h1 : L.all (fun c => isCode c || P c) = true) (h2 : ∀ c ∈ L.filter isCode, P c = true) : L.all P = true := by
  refine List.all_eq_true.mpr fun c hc => ?_
  have h := List.all_eq_true.mp h1 c hc
  rcases Bool.eq_false_or_eq_true (isCode c) with hi | hi
  · exact h2 c (List.mem_filter.mpr ⟨hc, hi⟩)
  · simpa [hi] using h
set_option maxRecDepth 65536 in
theorem w_c0 : (Jvm.Cond.code x code maxLocals ret).before args0 about1 = true := code_word (m := ⟨1, 3⟩) (meth := k1m3) (c := k1c3) (by decide +kernel) rfl rfl rfl (by decide +kernel)
set_option maxRecDepth 65536 in
theorem w_c1 : (Jvm.Cond.code ({ cls := "com/example/flowsieve/flowsieve/xml/XmlScannerSameCharactersPinLaw", name := "ch", desc := "(IZ)C" } : Jvm.MethodName) method_2_code (3 : Nat) (Option.some Jvm.ClassFile.FieldType.char)).before args0 about1 = true := code_word (m := ⟨1, 1⟩) (meth := k1m1) (c := k1c1) (by decide +kernel) rfl rfl rfl (by decide +kernel)
set_option maxRecDepth 65536 in
theorem w_c2 : (Jvm.Cond.code ({ cls := "com/example/flowsieve/flowsieve/xml/XmlScannerSameCharactersPinLaw", name := "eqAt", desc := "([CIIII)Z" } : Jvm.MethodName) method_3_code (5 : Nat) (Option.some Jvm.ClassFile.FieldType.boolean)).before args0 about1 = true := code_word (m := ⟨1, 2⟩) (meth := k1m2) (c := k1c2) (by decide +kernel) rfl rfl rfl (by decide +kernel)
set_option maxRecDepth 65536 in
theorem w_c3 : (Jvm.Cond.code ({ cls := "com/example/flowsieve/flowsieve/xml/XmlScanner", name := "<init>", desc := "([CI)V" } : Jvm.MethodName) prog_56_method_1_code (3 : Nat) (Option.none : Option Jvm.ClassFile.FieldType)).before args0 about1 = true := code_word (m := ⟨2, 0⟩) (meth := k2m0) (c := k2c0) (by decide +kernel) rfl rfl rfl (by decide +kernel)
set_option maxRecDepth 65536 in
theorem w_c4 : (Jvm.Cond.code ({ cls := "com/example/flowsieve/flowsieve/xml/XmlScanner", name := "<init>", desc := "([CILjava/lang/String;I)V" } : Jvm.MethodName) prog_56_method_3_code (5 : Nat) (Option.none : Option Jvm.ClassFile.FieldType)).before args0 about1 = true := code_word (m := ⟨2, 1⟩) (meth := k2m1) (c := k2c1) (by decide +kernel) rfl rfl rfl (by decide +kernel)
set_option maxRecDepth 65536 in
theorem w_c5 : (Jvm.Cond.code ({ cls := "java/lang/Object", name := "<init>", desc := "()V" } : Jvm.MethodName) object_method_1_code (1 : Nat) (Option.none : Option Jvm.ClassFile.FieldType)).before args0 about1 = true := code_word (m := ⟨0, 0⟩) (meth := k0m0) (c := k0c0) (by decide +kernel) rfl rfl rfl (by decide +kernel)
set_option maxRecDepth 65536 in
theorem w_c6 : (Jvm.Cond.code ({ cls := "com/example/flowsieve/flowsieve/xml/Places", name := "<init>", desc := "([C)V" } : Jvm.MethodName) prog_48_method_1_code (2 : Nat) (Option.none : Option Jvm.ClassFile.FieldType)).before args0 about1 = true := code_word (m := ⟨3, 0⟩) (meth := k3m0) (c := k3c0) (by decide +kernel) rfl rfl rfl (by decide +kernel)
set_option maxRecDepth 65536 in
theorem w_c7 : (Jvm.Cond.code ({ cls := "com/example/flowsieve/flowsieve/xml/XmlScanner", name := "sameCharacters", desc := "(IIII)Z" } : Jvm.MethodName) prog_56_method_21_code (7 : Nat) (Option.some Jvm.ClassFile.FieldType.boolean)).before args0 about1 = true := code_word (m := ⟨2, 2⟩) (meth := k2m2) (c := k2c2) (by decide +kernel) rfl rfl rfl (by decide +kernel)
def codes1 : List Jvm.Cond := [Jvm.Cond.code x code maxLocals ret, Jvm.Cond.code ({ cls := "com/example/flowsieve/flowsieve/xml/XmlScannerSameCharactersPinLaw", name := "ch", desc := "(IZ)C" } : Jvm.MethodName) method_2_code (3 : Nat) (Option.some Jvm.ClassFile.FieldType.char), Jvm.Cond.code ({ cls := "com/example/flowsieve/flowsieve/xml/XmlScannerSameCharactersPinLaw", name := "eqAt", desc := "([CIIII)Z" } : Jvm.MethodName) method_3_code (5 : Nat) (Option.some Jvm.ClassFile.FieldType.boolean), Jvm.Cond.code ({ cls := "com/example/flowsieve/flowsieve/xml/XmlScanner", name := "<init>", desc := "([CI)V" } : Jvm.MethodName) prog_56_method_1_code (3 : Nat) (Option.none : Option Jvm.ClassFile.FieldType), Jvm.Cond.code ({ cls := "com/example/flowsieve/flowsieve/xml/XmlScanner", name := "<init>", desc := "([CILjava/lang/String;I)V" } : Jvm.MethodName) prog_56_method_3_code (5 : Nat) (Option.none : Option Jvm.ClassFile.FieldType), Jvm.Cond.code ({ cls := "java/lang/Object", name := "<init>", desc := "()V" } : Jvm.MethodName) object_method_1_code (1 : Nat) (Option.none : Option Jvm.ClassFile.FieldType), Jvm.Cond.code ({ cls := "com/example/flowsieve/flowsieve/xml/Places", name := "<init>", desc := "([C)V" } : Jvm.MethodName) prog_48_method_1_code (2 : Nat) (Option.none : Option Jvm.ClassFile.FieldType), Jvm.Cond.code ({ cls := "com/example/flowsieve/flowsieve/xml/XmlScanner", name := "sameCharacters", desc := "(IIII)Z" } : Jvm.MethodName) prog_56_method_21_code (7 : Nat) (Option.some Jvm.ClassFile.FieldType.boolean)]
set_option maxRecDepth 65536 in
theorem codes_eq : words1.filter isCode = codes1 := rfl
theorem w_codes : ∀ c ∈ words1.filter isCode, c.before args0 about1 = true := by
  rw [codes_eq]
  intro c hc
  simp only [codes1, List.mem_cons, List.not_mem_nil, or_false] at hc
  rcases hc with rfl | rfl | rfl | rfl | rfl | rfl | rfl | rfl
  · exact w_c0
  · exact w_c1
  · exact w_c2
  · exact w_c3
  · exact w_c4
  · exact w_c5
  · exact w_c6
  · exact w_c7
set_option maxRecDepth 65536 in
theorem w_t1 : (words1.take 24).all (fun c => isCode c || c.before args0 about1) = true := by decide +kernel
set_option maxRecDepth 65536 in
theorem w_t2 : ((words1.drop 24).take 24).all (fun c => isCode c || c.before args0 about1) = true := by decide +kernel
set_option maxRecDepth 65536 in
theorem w_t3 : ((words1.drop 24).drop 24).all (fun c => isCode c || c.before args0 about1) = true := by decide +kernel
theorem w_tables : (allAtoms (Jvm.Cond.code x code maxLocals ret :: tables_1)).before args0 about1 = true := by
  rw [allAtoms_all]
  show words1.all (fun c => c.before args0 about1) = true
  refine all_split ?_ w_codes
  rw [← List.take_append_drop 24 words1, List.all_append, w_t1, ← List.take_append_drop 24 (words1.drop 24), List.all_append, w_t2, w_t3]
  rfl
set_option maxRecDepth 65536 in
theorem w_case : (Jvm.Cond.and given_1 narrow_1).before args0 about1 = true := by decide +kernel
theorem w_applies : (headSpec (Jvm.Cond.code x code maxLocals ret :: tables_1) room_1).applies x e0.platform about1 = true :=
  (Spec.applies_iff w_frames).mpr ⟨w_running, w_runnable, w_alone, w_named, w_hears, w_ripe, w_room, w_tables⟩
theorem atStart : AtStart classFile x code maxLocals ret World_1 tables_1 room_1 Calls_1 rest_1 Pre_1 launch0 p0 e0 about1 theMethod args0 below0 :=
  ⟨lists_1, trivial, launch0.admits_env _ _ _, launch0.least_env, fairChoices_fair.cas, fairChoices_fair.clock, w_frames, w_args, w_heap, w_applies, trivial, trivial, w_case⟩
end start1
theorem witness_1 : WitnessClaimed_1 := ⟨start1.p0, start1.e0, start1.about1, start1.theMethod, start1.args0, start1.below0, start1.atStart⟩
end Jvm.Pilot.@@N@@
