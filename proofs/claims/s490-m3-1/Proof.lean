import JvmDerived
import JvmDerived.Pilot.@@N@@Statement
import JvmDerived.Pilot.@@N@@Code
set_option linter.unusedVariables false
set_option linter.unusedSimpArgs false
namespace Jvm.OwnKit
open Sem ClassFile Op Lib Jvm.Stand Jvm.Free Jvm.LawKit Jvm.RoadKit
/-- a run of the method y that stands at pc with the locals ls, the stack st and the heap h comes to a return that Q allows -/
def ORun (l : Launch) (y : MethodName) (bytes : ByteArray) (maxL : Nat) (ret : Option FieldType) (R : Room) (Z : State) (n0 : Nat) (as' : Array Value) (Q : Option Value → Heap → Prop) (h : Heap) (cells slots pc : Nat) (ls : List Slot) (st : List Value) : Prop :=
  ∀ (p : Program) (e : Env) (s : State) (m : MethodId) (below : List Frame) (meth : Method) (c : Code) (T : State) (locs : List Loc),
    p.tables.exec = Jvm.exec → Z.Warmed39 s.vm → c.code = bytes → c.maxLocals = maxL → s.vm.findClass y.cls = some m.cls → meth.name = y.name → meth.sig.returnType = ret → meth.locks = false →
    Stand p l e R s m as' below meth c T locs cells slots → T.heap = h → Fr n0 locs →
    ∃ (U : State) (o : Outcome), Steps p.tables e below (T.setTop (mkF m pc ls.toArray st)) U ∧ U.status = .running ∧ Ended U below o ∧ ∃ v L, o = .returned v ∧ (Q v U.heap ∧ Fr n0 L) ∧ FrameEnd s o U L R.cells R.slots
/-- the contract of a method at the heap h and the arguments as' -/
def Ct (l : Launch) (y : MethodName) (bytes : ByteArray) (maxL : Nat) (ret : Option FieldType) (ws : List Jvm.Cond) (R : Room) (Z : State) (n0 : Nat) (as' : Array Value) (h : Heap) (Q : Option Value → Heap → Prop) : Prop :=
  MetFree l y (head1 (Jvm.Cond.code y bytes maxL ret :: ws) R) (fun a U => a = as' ∧ Z.Warmed39 U.vm ∧ U.heap = h) (fun _ _ _ _ _ => True) (fun _ U o U' => ∃ v L, o = .returned v ∧ (Q v U'.heap ∧ Fr n0 L) ∧ FrameEnd U o U' L R.cells R.slots)
def D (bytes : ByteArray) (pc : Nat) (i : Instr) (len nx : Nat) : Prop := decode bytes pc = .ok (i, len) ∧ pc + len = nx
def DB (bytes : ByteArray) (pc : Nat) (i : Int → Instr) (off : Int) (nx tgt : Nat) : Prop := decode bytes pc = .ok (i off, 3) ∧ pc + 3 = nx ∧ 0 ≤ (pc : Int) + off ∧ ((pc : Int) + off).toNat = tgt
/-- an array of a primitive kind whose elements are kept as ints, by their list -/
def Ary (Z : State) (h : Heap) (a : Addr) (ty : FieldType) (vs : List Int32) : Prop := ∃ c : Cell, Arr Z h a c ty ∧ c.slots = (vs.map Value.int).toArray
theorem eq_ints {args : Array Value} {first s : State} {o : Option Outcome} {idx : List Nat} {a b : Term} {x y : Int32} (ha : a.eval args first o idx s = some (.int x)) (hb : b.eval args first o idx s = some (.int y)) : (Jvm.Cond.eq a b).value args first o s idx = some (decide (x = y)) := by simp [Cond.value, ha, hb]
theorem fldEq {args : Array Value} {s : State} {t : Term} {C n d : String} {x : Addr} {k : Int32} (ht : t.eval args s none [] s = some (.ref x)) (h : (Jvm.Cond.eq (.field t C n d) (.int k)).value args s none s [] = some true) : Fld s s.heap x C n d (.int k) := by
  have e : (Term.field t C n d).eval args s none [] s = some (.int k) := by
    obtain ⟨v, w, e1, e2, k1, k2⟩ := cmp_v (Or.inl h)
    cases (show some (Value.int k) = some w from e2)
    obtain ⟨z, rfl⟩ := k2
    have q := gotT (eq_ints e1 e2) h
    rw [q] at e1; exact e1
  exact Fld.start (by rw [← fld_at ht]; exact e)
theorem n32_add (a b : Nat) : a.toInt32 + b.toInt32 = (a + b).toInt32 := (Int32.ofNat_add a b).symm
theorem n32_int {a : Nat} (h : a < 2 ^ 31) : a.toInt32.toInt = a := Int32.toInt_ofNat_of_lt h
theorem n32_sub {a b : Nat} (h : b ≤ a) : a.toInt32 - b.toInt32 = (a - b).toInt32 := by
  have e : (a - b).toInt32 + b.toInt32 = a.toInt32 := by rw [n32_add]; congr 1; omega
  rw [← e, Int32.add_sub_cancel]
theorem n32_lt {a b : Nat} (ha : a < 2 ^ 31) (hb : b < 2 ^ 31) : a.toInt32 < b.toInt32 ↔ a < b := by
  rw [Int32.lt_iff_toInt_lt, n32_int ha, n32_int hb]; omega
theorem n32_eq {a b : Nat} (ha : a < 2 ^ 31) (hb : b < 2 ^ 31) : a.toInt32 = b.toInt32 ↔ a = b := by
  rw [← Int32.toInt_inj, n32_int ha, n32_int hb]; omega
theorem n32_clamp {a : Nat} (h : a < 2 ^ 31) : a.toInt32.toNatClampNeg = a := by
  show a.toInt32.toInt.toNat = a
  rw [n32_int h]; rfl
theorem n32_nn {a : Nat} (h : a < 2 ^ 31) : ¬ a.toInt32 < 0 := by
  have h0 : (0 : Int32).toInt = 0 := by decide
  rw [Int32.lt_iff_toInt_lt, n32_int h]; omega
theorem n32_of {x : Int32} (h : ¬ x < 0) : ∃ n : Nat, x = n.toInt32 ∧ n < 2 ^ 31 ∧ x.toInt = n := ⟨x.toNatClampNeg, (back32 h).1.symm, (back32 h).2, nat_of h⟩
theorem n32_and (x m : Int32) (k : Nat) (hk : k ≤ 31) (hm : m.toBitVec.toNat = 2 ^ k - 1) : ∃ n : Nat, x &&& m = n.toInt32 ∧ n < 2 ^ k := by
  have h1 := c_mask x m k hk hm
  have h2 : (0 : Int) ≤ (x &&& m).toInt := by rw [h1]; exact Int.emod_nonneg _ (by have := Nat.pow_pos (n := k) (show 0 < 2 by decide); omega)
  have h3 : (x &&& m).toInt < (2 ^ k : Nat) := by rw [h1]; exact Int.emod_lt_of_pos _ (by have := Nat.pow_pos (n := k) (show 0 < 2 by decide); omega)
  have h0 : (0 : Int32).toInt = 0 := by decide
  obtain ⟨n, e1, e2, e3⟩ := n32_of (x := x &&& m) (by rw [Int32.lt_iff_toInt_lt]; omega)
  exact ⟨n, e1, by omega⟩
theorem n32_rem {u k : Nat} (hu : u < 2 ^ 31) (hk : 0 < k) (hk2 : k < 2 ^ 31) : u.toInt32 % k.toInt32 = (u % k).toInt32 := by
  have h2 := (c_irem u.toInt32 k.toInt32 k (n32_int hk2)).1 (by rw [n32_int hu]; omega)
  have h3 := Nat.mod_lt u hk
  refine Int32.toInt_inj.mp ?_
  rw [h2, n32_int hu, n32_int (by omega)]
  omega
theorem n32_ushr (x q : Int32) (k : Nat) (hk : q.toBitVec.toNat % 32 = k) (h0 : 0 < k) : ∃ u : Nat, (x.toUInt32 >>> (q &&& 31).toUInt32).toInt32 = u.toInt32 ∧ u < 2 ^ 31 := by
  have h1 := c_iushr x q k hk h0
  have h2 : (2 : Nat) ≤ 2 ^ k := Nat.le_trans (by decide) (Nat.pow_le_pow_right (by decide) h0)
  have h3 : 0 ≤ (x.toInt % 4294967296) / ((2 ^ k : Nat) : Int) := Int.ediv_nonneg (by omega) (by omega)
  have z : (0 : Int32).toInt = 0 := by decide
  obtain ⟨n, e1, e2, e3⟩ := n32_of (x := (x.toUInt32 >>> (q &&& 31).toUInt32).toInt32) (by rw [Int32.lt_iff_toInt_lt]; omega)
  exact ⟨n, e1, e2⟩
theorem n32_mod (x : Int32) (k : Nat) (hk : 0 < k) (hk2 : k < 2 ^ 31) : ∃ n : Nat, (x &&& (2147483647 : Int32)) % k.toInt32 = n.toInt32 ∧ n < k := by
  have h1 := c_mask x 2147483647 31 (by decide) (by decide)
  have h2 := (c_irem (x &&& 2147483647) k.toInt32 k (n32_int hk2)).1 (by omega)
  have h4 := Int.emod_nonneg (x &&& 2147483647).toInt (b := (k : Int)) (by omega)
  have h5 := Int.emod_lt_of_pos (x &&& 2147483647).toInt (b := (k : Int)) (by omega)
  have h0 : (0 : Int32).toInt = 0 := by decide
  obtain ⟨n, e1, e2, e3⟩ := n32_of (x := (x &&& (2147483647 : Int32)) % k.toInt32) (by rw [Int32.lt_iff_toInt_lt]; omega)
  exact ⟨n, e1, by omega⟩
theorem lenEq {args : Array Value} {s : State} {t : Term} {a : Addr} {cl : Cell} {ty : FieldType} {k : Int32} (ht : t.eval args s none [] s = some (.ref a)) (A : Arr s s.heap a cl ty) (h : (Jvm.Cond.eq (.length t) (.int k)).value args s none s [] = some true) : cl.slots.size < 2 ^ 31 ∧ cl.slots.size.toInt32 = k := by
  have ha := A.fin (Vm.Alike.refl _)
  obtain ⟨v, w, e1, e2, k1, k2⟩ := cmp_v (Or.inl h)
  by_cases hl : cl.slots.size < 2 ^ 31
  · have e := len_f ht ha hl
    exact ⟨hl, gotT (eq_ints e (show (Term.int k).eval args s none [] s = some (.int k) from rfl)) h⟩
  · simp [Term.eval, ht, ha, hl] at e1
theorem elemEq {args : Array Value} {s : State} {t u : Term} {a b : Addr} {cl : Cell} {ty : FieldType} {j : Int32} (ht : t.eval args s none [] s = some (.ref a)) (A : Arr s s.heap a cl ty) (hu : u.eval args s none [] s = some (.ref b)) (h : (Jvm.Cond.eq (.elem t (.int j)) u).value args s none s [] = some true) : cl.slots[j.toNatClampNeg]? = some (.ref b) := by
  obtain ⟨v, w, e1, e2, k1, k2⟩ := cmp_v (Or.inl h)
  cases hu.symm.trans e2
  have hv : v.isRef = true := k2.2
  have q := gotT (eq_R e1 hu hv rfl) h
  rw [q] at e1
  exact (elem_in e1 ht rfl A.1).2
section AryFacts
variable {Z : State} {h h' : Heap} {a b : Addr} {ty : FieldType} {vs vs' : List Int32} {sl : Nat} {v : Value} {ws : List Addr}
theorem Ary.lt (F : Ary Z h a ty vs) : a < h.size := by obtain ⟨c, A, -⟩ := F; exact A.lt
theorem Ary.ext (F : Ary Z h a ty vs) (E : Ext h h') : Ary Z h' a ty vs := by obtain ⟨c, A, q⟩ := F; exact ⟨c, A.ext E, q⟩
theorem Ary.other (F : Ary Z h b ty vs) (W : Wr h h' a sl v) (q : b ≠ a) : Ary Z h' b ty vs := by obtain ⟨c, A, r⟩ := F; exact ⟨c, A.other W q, r⟩
theorem Ary.keep (F : Ary Z h a ty vs) (K : Keep h h' ws) (q : a ∉ ws) : Ary Z h' a ty vs := by obtain ⟨c, A, r⟩ := F; exact ⟨c, ⟨K.2.1 a c A.1 q, A.2⟩, r⟩
theorem Ary.set {i : Nat} {x : Int32} (F : Ary Z h a ty vs) (W : Wr h h' a i (.int x)) (e : vs.set i x = vs') : Ary Z h' a ty vs' := by
  obtain ⟨c, A, r⟩ := F
  refine ⟨_, A.same W, ?_⟩
  subst e
  simp [Cell.setSlot, r, List.map_set]
theorem Ary.new {k : ClassId} {n : Int32} {m : Nat} (A : Arr Z h a (newA k ty n) ty) (hd : defaultValue ty = .int 0) (hn : n.toNatClampNeg = m) : Ary Z h a ty (List.replicate m 0) := by
  refine ⟨_, A, ?_⟩
  subst hn
  simp [newA, hd]
theorem Ary.inb {j : Int32} {x : Int32} {c : Cell} (q : c.slots = (vs.map Value.int).toArray) (hj : ¬ j < 0) (hv : vs[j.toNatClampNeg]? = some x) : ¬ (j < 0 ∨ c.slots.size ≤ j.toNatClampNeg) ∧ c.slots[j.toNatClampNeg]? = some (.int x) := by
  have h1 : j.toNatClampNeg < vs.length := by
    rcases Nat.lt_or_ge j.toNatClampNeg vs.length with h | h
    · exact h
    · rw [List.getElem?_eq_none h] at hv; cases hv
  refine ⟨fun r => ?_, ?_⟩
  · rcases r with r | r
    · exact hj r
    · rw [q] at r; simp at r; omega
  · rw [q]; simp [hv]
theorem Ary.size {c : Cell} (q : c.slots = (vs.map Value.int).toArray) : c.slots.size = vs.length := by rw [q]; simp
end AryFacts
section Logic
variable {l : Launch} {y : MethodName} {bytes : ByteArray} {maxL : Nat} {ret : Option FieldType} {ws : List Jvm.Cond} {R : Room} {Z : State} {n0 : Nat} {as' : Array Value} {Q : Option Value → Heap → Prop} {h : Heap} {cells slots pc nx tgt : Nat} {ls ls' : List Slot} {st : List Value} {a0 : Array Value}
theorem Ct.of (hpl : plainFor y = true) (hef : ∀ m, entryFrame m as' maxL = mkF m 0 ls.toArray []) (H : ORun l y bytes maxL ret R Z n0 as' Q h 0 0 0 ls []) : Ct l y bytes maxL ret ws R Z n0 as' h Q := by
  refine MetFree.of_bodySF hpl hisR ?_
  intro p e s m args below meth c s₁ Bd hml0 hP hK
  obtain ⟨rfl, hZ, hh⟩ := hP
  rw [hef m]
  exact H p e s m below meth c s₁ [] Bd.exec hZ Bd.bytes hml0 (findClass_of_methodNamed Bd.named) (name_of_methodNamed Bd.named Bd.method).1 Bd.returns Bd.notSynchronized (Stand.of_body Bd) (by rw [← hh, Bd.state]; rfl) (Fr.nil n0)
theorem ORun.weak {cells' slots' : Nat} (hc : cells ≤ cells') (hs : slots ≤ slots') (K : ORun l y bytes maxL ret R Z n0 as' Q h cells' slots' pc ls st) : ORun l y bytes maxL ret R Z n0 as' Q h cells slots pc ls st :=
  fun p e s m below meth c T locs hx hZ hby hml hown hnm hret hlk X eT N => K p e s m below meth c T locs hx hZ hby hml hown hnm hret hlk ⟨X.admits, X.cas, X.clock, X.frames, X.room, X.hears, X.method, X.code, X.here, X.tail, X.warmed, X.limits, X.bytes, X.same.mono hc hs⟩ eT N
/-- one step that moves neither heap nor tables -/
theorem ORun.step {pc' : Nat} {st' : List Value}
    (hs : ∀ (p : Program) (e : Env) (s : State) (m : MethodId) (below : List Frame) (meth : Method) (c : Code) (T : State) (locs : List Loc), p.tables.exec = Jvm.exec → Z.Warmed39 s.vm → c.code = bytes → s.vm.findClass y.cls = some m.cls → Stand p l e R s m as' below meth c T locs cells slots → T.heap = h →
      ∀ target, Steps p.tables e below (T.setTop (mkF m pc' ls'.toArray st')) target → Steps p.tables e below (T.setTop (mkF m pc ls.toArray st)) target)
    (K : ORun l y bytes maxL ret R Z n0 as' Q h cells slots pc' ls' st') : ORun l y bytes maxL ret R Z n0 as' Q h cells slots pc ls st :=
  fun p e s m below meth c T locs hx hZ hby hml hown hnm hret hlk X eT N => by
    obtain ⟨U, o, h1, h2⟩ := K p e s m below meth c T locs hx hZ hby hml hown hnm hret hlk X eT N
    exact ⟨U, o, hs p e s m below meth c T locs hx hZ hby hown X eT _ h1, h2⟩
/-- one step by a law that hands back a new state -/
theorem ORun.law {pc' : Nat} {st' : List Value} {h' : Heap} {cells' slots' : Nat}
    (hs : ∀ (p : Program) (e : Env) (s : State) (m : MethodId) (below : List Frame) (meth : Method) (c : Code) (T : State) (locs : List Loc), p.tables.exec = Jvm.exec → Z.Warmed39 s.vm → c.code = bytes → c.maxLocals = maxL → s.vm.findClass y.cls = some m.cls → meth.name = y.name → Stand p l e R s m as' below meth c T locs cells slots → T.heap = h → Fr n0 locs →
      ∃ T' locs', Stand p l e R s m as' below meth c T' locs' cells' slots' ∧ T'.heap = h' ∧ Fr n0 locs' ∧ ∀ target, Steps p.tables e below (T'.setTop (mkF m pc' ls'.toArray st')) target → Steps p.tables e below (T.setTop (mkF m pc ls.toArray st)) target)
    (K : ORun l y bytes maxL ret R Z n0 as' Q h' cells' slots' pc' ls' st') : ORun l y bytes maxL ret R Z n0 as' Q h cells slots pc ls st :=
  fun p e s m below meth c T locs hx hZ hby hml hown hnm hret hlk X eT N => by
    obtain ⟨T', locs', X', eT', N', st⟩ := hs p e s m below meth c T locs hx hZ hby hml hown hnm X eT N
    obtain ⟨U, o, h1, h2⟩ := K p e s m below meth c T' locs' hx hZ hby hml hown hnm hret hlk X' eT' N'
    exact ⟨U, o, st _ h1, h2⟩
theorem getL {k : Nat} {v : Slot} (q : ls[k]? = some v) : ls.toArray[k]? = some v := by simpa using q
/-! loads, stores -/
theorem r_iloadN {k : Fin 4} {v : Int32} (hd : D bytes pc (.iload_n k) 1 nx) (hl : ls[k.val]? = some (.val (.int v))) (K : ORun l y bytes maxL ret R Z n0 as' Q h cells slots nx ls (.int v :: st)) : ORun l y bytes maxL ret R Z n0 as' Q h cells slots pc ls st := by
  obtain ⟨hd, rfl⟩ := hd
  exact K.step fun p e s m below meth c T locs hx hZ hby hown X eT t k => XS.iloadN X.here hx rfl (hb hby hd) (getL hl) k
theorem r_iload {k : Nat} {v : Int32} (hd : D bytes pc (.iload k) 2 nx) (hl : ls[k]? = some (.val (.int v))) (K : ORun l y bytes maxL ret R Z n0 as' Q h cells slots nx ls (.int v :: st)) : ORun l y bytes maxL ret R Z n0 as' Q h cells slots pc ls st := by
  obtain ⟨hd, rfl⟩ := hd
  exact K.step fun p e s m below meth c T locs hx hZ hby hown X eT t k => XS.iload X.here hx rfl (hb hby hd) (getL hl) k
theorem r_aloadN {k : Fin 4} {v : Value} (hd : D bytes pc (.aload_n k) 1 nx) (hl : ls[k.val]? = some (.val v)) (hv : v.isRef = true) (K : ORun l y bytes maxL ret R Z n0 as' Q h cells slots nx ls (v :: st)) : ORun l y bytes maxL ret R Z n0 as' Q h cells slots pc ls st := by
  obtain ⟨hd, rfl⟩ := hd
  exact K.step fun p e s m below meth c T locs hx hZ hby hown X eT t k => XS.aloadN X.here hx rfl (hb hby hd) (getL hl) hv k
theorem r_aload {k : Nat} {v : Value} (hd : D bytes pc (.aload k) 2 nx) (hl : ls[k]? = some (.val v)) (hv : v.isRef = true) (K : ORun l y bytes maxL ret R Z n0 as' Q h cells slots nx ls (v :: st)) : ORun l y bytes maxL ret R Z n0 as' Q h cells slots pc ls st := by
  obtain ⟨hd, rfl⟩ := hd
  exact K.step fun p e s m below meth c T locs hx hZ hby hown X eT t k => XS.aload X.here hx rfl (hb hby hd) (getL hl) hv k
theorem r_lloadN {k : Fin 4} {v : Int64} (hd : D bytes pc (.lload_n k) 1 nx) (hl : ls[k.val]? = some (.val (.long v))) (K : ORun l y bytes maxL ret R Z n0 as' Q h cells slots nx ls (.long v :: st)) : ORun l y bytes maxL ret R Z n0 as' Q h cells slots pc ls st := by
  obtain ⟨hd, rfl⟩ := hd
  exact K.step fun p e s m below meth c T locs hx hZ hby hown X eT t k => XS.lloadN X.here hx rfl (hb hby hd) (getL hl) k
theorem r_lload {k : Nat} {v : Int64} (hd : D bytes pc (.lload k) 2 nx) (hl : ls[k]? = some (.val (.long v))) (K : ORun l y bytes maxL ret R Z n0 as' Q h cells slots nx ls (.long v :: st)) : ORun l y bytes maxL ret R Z n0 as' Q h cells slots pc ls st := by
  obtain ⟨hd, rfl⟩ := hd
  exact K.step fun p e s m below meth c T locs hx hZ hby hown X eT t k => XS.lload X.here hx rfl (hb hby hd) (getL hl) k
theorem r_istoreN {k : Fin 4} {v : Int32} (hd : D bytes pc (.istore_n k) 1 nx) (ls' : List Slot) (hl : storeLocals ls.toArray k.val (.int v) = some ls'.toArray) (K : ORun l y bytes maxL ret R Z n0 as' Q h cells slots nx ls' st) : ORun l y bytes maxL ret R Z n0 as' Q h cells slots pc ls (.int v :: st) := by
  obtain ⟨hd, rfl⟩ := hd
  exact K.step fun p e s m below meth c T locs hx hZ hby hown X eT t k => XS.istoreN X.here hx rfl (hb hby hd) rfl hl k
theorem r_istore {k : Nat} {v : Int32} (hd : D bytes pc (.istore k) 2 nx) (ls' : List Slot) (hl : storeLocals ls.toArray k (.int v) = some ls'.toArray) (K : ORun l y bytes maxL ret R Z n0 as' Q h cells slots nx ls' st) : ORun l y bytes maxL ret R Z n0 as' Q h cells slots pc ls (.int v :: st) := by
  obtain ⟨hd, rfl⟩ := hd
  exact K.step fun p e s m below meth c T locs hx hZ hby hown X eT t k => XS.istore X.here hx rfl (hb hby hd) rfl hl k
theorem r_astoreN {k : Fin 4} {v : Value} (hd : D bytes pc (.astore_n k) 1 nx) (hv : v.isRef = true) (ls' : List Slot) (hl : storeLocals ls.toArray k.val v = some ls'.toArray) (K : ORun l y bytes maxL ret R Z n0 as' Q h cells slots nx ls' st) : ORun l y bytes maxL ret R Z n0 as' Q h cells slots pc ls (v :: st) := by
  obtain ⟨hd, rfl⟩ := hd
  exact K.step fun p e s m below meth c T locs hx hZ hby hown X eT t k => XS.astoreN X.here hx rfl (hb hby hd) rfl hv hl k
theorem r_astore {k : Nat} {v : Value} (hd : D bytes pc (.astore k) 2 nx) (hv : v.isRef = true) (ls' : List Slot) (hl : storeLocals ls.toArray k v = some ls'.toArray) (K : ORun l y bytes maxL ret R Z n0 as' Q h cells slots nx ls' st) : ORun l y bytes maxL ret R Z n0 as' Q h cells slots pc ls (v :: st) := by
  obtain ⟨hd, rfl⟩ := hd
  exact K.step fun p e s m below meth c T locs hx hZ hby hown X eT t k => XS.astore X.here hx rfl (hb hby hd) rfl hv hl k
theorem r_lstoreN {k : Fin 4} {v : Int64} (hd : D bytes pc (.lstore_n k) 1 nx) (ls' : List Slot) (hl : storeLocals ls.toArray k.val (.long v) = some ls'.toArray) (K : ORun l y bytes maxL ret R Z n0 as' Q h cells slots nx ls' st) : ORun l y bytes maxL ret R Z n0 as' Q h cells slots pc ls (.long v :: st) := by
  obtain ⟨hd, rfl⟩ := hd
  exact K.step fun p e s m below meth c T locs hx hZ hby hown X eT t k => XS.lstoreN X.here hx rfl (hb hby hd) rfl hl k
theorem r_lstore {k : Nat} {v : Int64} (hd : D bytes pc (.lstore k) 2 nx) (ls' : List Slot) (hl : storeLocals ls.toArray k (.long v) = some ls'.toArray) (K : ORun l y bytes maxL ret R Z n0 as' Q h cells slots nx ls' st) : ORun l y bytes maxL ret R Z n0 as' Q h cells slots pc ls (.long v :: st) := by
  obtain ⟨hd, rfl⟩ := hd
  exact K.step fun p e s m below meth c T locs hx hZ hby hown X eT t k => XS.lstore X.here hx rfl (hb hby hd) rfl hl k
theorem r_iinc {k : Nat} {i : Int} {v w : Int32} (hd : D bytes pc (.iinc k i) 3 nx) (hl : ls[k]? = some (.val (.int v))) (hw : v + Int32.ofInt i = w) (ls' : List Slot) (hl' : storeLocals ls.toArray k (.int w) = some ls'.toArray) (K : ORun l y bytes maxL ret R Z n0 as' Q h cells slots nx ls' st) : ORun l y bytes maxL ret R Z n0 as' Q h cells slots pc ls st := by
  obtain ⟨hd, rfl⟩ := hd
  subst hw
  exact K.step fun p e s m below meth c T locs hx hZ hby hown X eT t k => XS.iinc X.here hx rfl (hb hby hd) (getL hl) hl' k
/-! constants -/
theorem r_iconst {i : Int} (v : Int32) (hv : Int32.ofInt i = v) (hd : D bytes pc (.iconst i) 1 nx) (K : ORun l y bytes maxL ret R Z n0 as' Q h cells slots nx ls (.int v :: st)) : ORun l y bytes maxL ret R Z n0 as' Q h cells slots pc ls st := by
  obtain ⟨hd, rfl⟩ := hd
  subst hv
  exact K.step fun p e s m below meth c T locs hx hZ hby hown X eT t k => XS.iconst X.here hx rfl (hb hby hd) k
theorem r_bipush {i : Int} (v : Int32) (hv : (Int8.ofInt i).toInt32 = v) (hd : D bytes pc (.bipush i) 2 nx) (K : ORun l y bytes maxL ret R Z n0 as' Q h cells slots nx ls (.int v :: st)) : ORun l y bytes maxL ret R Z n0 as' Q h cells slots pc ls st := by
  obtain ⟨hd, rfl⟩ := hd
  subst hv
  exact K.step fun p e s m below meth c T locs hx hZ hby hown X eT t k => XS.bipush X.here hx rfl (hb hby hd) k
theorem r_sipush {i : Int} (v : Int32) (hv : (Int16.ofInt i).toInt32 = v) (hd : D bytes pc (.sipush i) 3 nx) (K : ORun l y bytes maxL ret R Z n0 as' Q h cells slots nx ls (.int v :: st)) : ORun l y bytes maxL ret R Z n0 as' Q h cells slots pc ls st := by
  obtain ⟨hd, rfl⟩ := hd
  subst hv
  exact K.step fun p e s m below meth c T locs hx hZ hby hown X eT t k => XS.sipush X.here hx rfl (hb hby hd) k
theorem r_lconst {i : Fin 2} (v : Int64) (hv : Int64.ofNat i = v) (hd : D bytes pc (.lconst i) 1 nx) (K : ORun l y bytes maxL ret R Z n0 as' Q h cells slots nx ls (.long v :: st)) : ORun l y bytes maxL ret R Z n0 as' Q h cells slots pc ls st := by
  obtain ⟨hd, rfl⟩ := hd
  subst hv
  exact K.step fun p e s m below meth c T locs hx hZ hby hown X eT t k => XS.lconst X.here hx rfl (hb hby hd) k
theorem r_null (hd : D bytes pc .aconst_null 1 nx) (K : ORun l y bytes maxL ret R Z n0 as' Q h cells slots nx ls (.null :: st)) : ORun l y bytes maxL ret R Z n0 as' Q h cells slots pc ls st := by
  obtain ⟨hd, rfl⟩ := hd
  exact K.step fun p e s m below meth c T locs hx hZ hby hown X eT t k => XS.aconstNull X.here hx rfl (hb hby hd) k
theorem r_ldc {i : Nat} {v : Int32} (w : (Cond.constant y.cls i v).before a0 Z = true) (hd : D bytes pc (.ldc i) 2 nx) (K : ORun l y bytes maxL ret R Z n0 as' Q h cells slots nx ls (.int v :: st)) : ORun l y bytes maxL ret R Z n0 as' Q h cells slots pc ls st := by
  obtain ⟨hd, rfl⟩ := hd
  exact K.step fun p e s m below meth c T locs hx hZ hby hown X eT t k => X.ldcInt hx hown (mvT hZ w) (g := mkF m pc ls.toArray st) rfl (hb hby hd) _ k
theorem r_ldc2 {i : Nat} {v : Int64} (w : (Cond.constantLong y.cls i v).before a0 Z = true) (hd : D bytes pc (.ldc2_w i) 3 nx) (K : ORun l y bytes maxL ret R Z n0 as' Q h cells slots nx ls (.long v :: st)) : ORun l y bytes maxL ret R Z n0 as' Q h cells slots pc ls st := by
  obtain ⟨hd, rfl⟩ := hd
  exact K.step fun p e s m below meth c T locs hx hZ hby hown X eT t k => X.ldc2Long hx hown (mvT hZ w) (g := mkF m pc ls.toArray st) rfl (hb hby hd) _ k
theorem r_ldcS {i : Nat} {text : String} {a : Addr} (w : (Cond.stringRef y.cls i text).before a0 Z = true) (L : Lit Z y.cls i a) (hd : D bytes pc (.ldc i) 2 nx) (K : ORun l y bytes maxL ret R Z n0 as' Q h cells slots nx ls (.ref a :: st)) : ORun l y bytes maxL ret R Z n0 as' Q h cells slots pc ls st := by
  obtain ⟨hd, rfl⟩ := hd
  exact K.step fun p e s m below meth c T locs hx hZ hby hown X eT t k => ldcR X hx hZ hown w L (g := mkF m pc ls.toArray st) rfl (hb hby hd) _ k
/-! arithmetic -/
theorem r_iadd {x z : Int32} (hd : D bytes pc .iadd 1 nx) (K : ORun l y bytes maxL ret R Z n0 as' Q h cells slots nx ls (.int (x + z) :: st)) : ORun l y bytes maxL ret R Z n0 as' Q h cells slots pc ls (.int z :: .int x :: st) := by
  obtain ⟨hd, rfl⟩ := hd
  exact K.step fun p e s m below meth c T locs hx hZ hby hown X eT t k => XS.iadd X.here hx rfl (hb hby hd) rfl k
theorem r_isub {x z : Int32} (hd : D bytes pc .isub 1 nx) (K : ORun l y bytes maxL ret R Z n0 as' Q h cells slots nx ls (.int (x - z) :: st)) : ORun l y bytes maxL ret R Z n0 as' Q h cells slots pc ls (.int z :: .int x :: st) := by
  obtain ⟨hd, rfl⟩ := hd
  exact K.step fun p e s m below meth c T locs hx hZ hby hown X eT t k => XS.isub X.here hx rfl (hb hby hd) rfl k
theorem r_iand {x z : Int32} (hd : D bytes pc .iand 1 nx) (K : ORun l y bytes maxL ret R Z n0 as' Q h cells slots nx ls (.int (x &&& z) :: st)) : ORun l y bytes maxL ret R Z n0 as' Q h cells slots pc ls (.int z :: .int x :: st) := by
  obtain ⟨hd, rfl⟩ := hd
  exact K.step fun p e s m below meth c T locs hx hZ hby hown X eT t k => XS.iand X.here hx rfl (hb hby hd) rfl k
theorem r_imul {x z : Int32} (hd : D bytes pc .imul 1 nx) (K : ORun l y bytes maxL ret R Z n0 as' Q h cells slots nx ls (.int (x * z) :: st)) : ORun l y bytes maxL ret R Z n0 as' Q h cells slots pc ls (.int z :: .int x :: st) := by
  obtain ⟨hd, rfl⟩ := hd
  exact K.step fun p e s m below meth c T locs hx hZ hby hown X eT t k => XS.imul X.here hx rfl (hb hby hd) rfl k
theorem r_ior {x z : Int32} (hd : D bytes pc .ior 1 nx) (K : ORun l y bytes maxL ret R Z n0 as' Q h cells slots nx ls (.int (x ||| z) :: st)) : ORun l y bytes maxL ret R Z n0 as' Q h cells slots pc ls (.int z :: .int x :: st) := by
  obtain ⟨hd, rfl⟩ := hd
  exact K.step fun p e s m below meth c T locs hx hZ hby hown X eT t k => XS.ior X.here hx rfl (hb hby hd) rfl k
theorem r_ixor {x z : Int32} (hd : D bytes pc .ixor 1 nx) (K : ORun l y bytes maxL ret R Z n0 as' Q h cells slots nx ls (.int (x ^^^ z) :: st)) : ORun l y bytes maxL ret R Z n0 as' Q h cells slots pc ls (.int z :: .int x :: st) := by
  obtain ⟨hd, rfl⟩ := hd
  exact K.step fun p e s m below meth c T locs hx hZ hby hown X eT t k => XS.ixor X.here hx rfl (hb hby hd) rfl k
theorem r_ishl {x z : Int32} (hd : D bytes pc .ishl 1 nx) (K : ORun l y bytes maxL ret R Z n0 as' Q h cells slots nx ls (.int (x <<< (z &&& 31)) :: st)) : ORun l y bytes maxL ret R Z n0 as' Q h cells slots pc ls (.int z :: .int x :: st) := by
  obtain ⟨hd, rfl⟩ := hd
  exact K.step fun p e s m below meth c T locs hx hZ hby hown X eT t k => XS.ishl X.here hx rfl (hb hby hd) rfl k
theorem r_ishr {x z : Int32} (hd : D bytes pc .ishr 1 nx) (K : ORun l y bytes maxL ret R Z n0 as' Q h cells slots nx ls (.int (x >>> (z &&& 31)) :: st)) : ORun l y bytes maxL ret R Z n0 as' Q h cells slots pc ls (.int z :: .int x :: st) := by
  obtain ⟨hd, rfl⟩ := hd
  exact K.step fun p e s m below meth c T locs hx hZ hby hown X eT t k => XS.ishr X.here hx rfl (hb hby hd) rfl k
theorem r_iushr {x z : Int32} (hd : D bytes pc .iushr 1 nx) (K : ORun l y bytes maxL ret R Z n0 as' Q h cells slots nx ls (.int ((x.toUInt32 >>> (z &&& 31).toUInt32).toInt32) :: st)) : ORun l y bytes maxL ret R Z n0 as' Q h cells slots pc ls (.int z :: .int x :: st) := by
  obtain ⟨hd, rfl⟩ := hd
  exact K.step fun p e s m below meth c T locs hx hZ hby hown X eT t k => XS.iushr X.here hx rfl (hb hby hd) rfl k
theorem r_ladd {x z : Int64} (hd : D bytes pc .ladd 1 nx) (K : ORun l y bytes maxL ret R Z n0 as' Q h cells slots nx ls (.long (x + z) :: st)) : ORun l y bytes maxL ret R Z n0 as' Q h cells slots pc ls (.long z :: .long x :: st) := by
  obtain ⟨hd, rfl⟩ := hd
  exact K.step fun p e s m below meth c T locs hx hZ hby hown X eT t k => XS.ladd X.here hx rfl (hb hby hd) rfl k
theorem r_lsub {x z : Int64} (hd : D bytes pc .lsub 1 nx) (K : ORun l y bytes maxL ret R Z n0 as' Q h cells slots nx ls (.long (x - z) :: st)) : ORun l y bytes maxL ret R Z n0 as' Q h cells slots pc ls (.long z :: .long x :: st) := by
  obtain ⟨hd, rfl⟩ := hd
  exact K.step fun p e s m below meth c T locs hx hZ hby hown X eT t k => XS.lsub X.here hx rfl (hb hby hd) rfl k
theorem r_land {x z : Int64} (hd : D bytes pc .land 1 nx) (K : ORun l y bytes maxL ret R Z n0 as' Q h cells slots nx ls (.long (x &&& z) :: st)) : ORun l y bytes maxL ret R Z n0 as' Q h cells slots pc ls (.long z :: .long x :: st) := by
  obtain ⟨hd, rfl⟩ := hd
  exact K.step fun p e s m below meth c T locs hx hZ hby hown X eT t k => XS.land X.here hx rfl (hb hby hd) rfl k
theorem r_lmul {x z : Int64} (hd : D bytes pc .lmul 1 nx) (K : ORun l y bytes maxL ret R Z n0 as' Q h cells slots nx ls (.long (x * z) :: st)) : ORun l y bytes maxL ret R Z n0 as' Q h cells slots pc ls (.long z :: .long x :: st) := by
  obtain ⟨hd, rfl⟩ := hd
  exact K.step fun p e s m below meth c T locs hx hZ hby hown X eT t k => XS.lmul X.here hx rfl (hb hby hd) rfl k
theorem r_lor {x z : Int64} (hd : D bytes pc .lor 1 nx) (K : ORun l y bytes maxL ret R Z n0 as' Q h cells slots nx ls (.long (x ||| z) :: st)) : ORun l y bytes maxL ret R Z n0 as' Q h cells slots pc ls (.long z :: .long x :: st) := by
  obtain ⟨hd, rfl⟩ := hd
  exact K.step fun p e s m below meth c T locs hx hZ hby hown X eT t k => XS.lor X.here hx rfl (hb hby hd) rfl k
theorem r_lxor {x z : Int64} (hd : D bytes pc .lxor 1 nx) (K : ORun l y bytes maxL ret R Z n0 as' Q h cells slots nx ls (.long (x ^^^ z) :: st)) : ORun l y bytes maxL ret R Z n0 as' Q h cells slots pc ls (.long z :: .long x :: st) := by
  obtain ⟨hd, rfl⟩ := hd
  exact K.step fun p e s m below meth c T locs hx hZ hby hown X eT t k => XS.lxor X.here hx rfl (hb hby hd) rfl k
theorem r_lshl {x : Int64} {z : Int32} (hd : D bytes pc .lshl 1 nx) (K : ORun l y bytes maxL ret R Z n0 as' Q h cells slots nx ls (.long (x <<< (z &&& 63).toInt64) :: st)) : ORun l y bytes maxL ret R Z n0 as' Q h cells slots pc ls (.int z :: .long x :: st) := by
  obtain ⟨hd, rfl⟩ := hd
  exact K.step fun p e s m below meth c T locs hx hZ hby hown X eT t k => XS.lshl X.here hx rfl (hb hby hd) rfl k
theorem r_lshr {x : Int64} {z : Int32} (hd : D bytes pc .lshr 1 nx) (K : ORun l y bytes maxL ret R Z n0 as' Q h cells slots nx ls (.long (x >>> (z &&& 63).toInt64) :: st)) : ORun l y bytes maxL ret R Z n0 as' Q h cells slots pc ls (.int z :: .long x :: st) := by
  obtain ⟨hd, rfl⟩ := hd
  exact K.step fun p e s m below meth c T locs hx hZ hby hown X eT t k => XS.lshr X.here hx rfl (hb hby hd) rfl k
theorem r_lushr {x : Int64} {z : Int32} (hd : D bytes pc .lushr 1 nx) (K : ORun l y bytes maxL ret R Z n0 as' Q h cells slots nx ls (.long ((x.toUInt64 >>> (z &&& 63).toInt64.toUInt64).toInt64) :: st)) : ORun l y bytes maxL ret R Z n0 as' Q h cells slots pc ls (.int z :: .long x :: st) := by
  obtain ⟨hd, rfl⟩ := hd
  exact K.step fun p e s m below meth c T locs hx hZ hby hown X eT t k => XS.lushr X.here hx rfl (hb hby hd) rfl k
theorem r_idiv {x z : Int32} (hd : D bytes pc .idiv 1 nx) (hz : z ≠ 0) (K : ORun l y bytes maxL ret R Z n0 as' Q h cells slots nx ls (.int (x / z) :: st)) : ORun l y bytes maxL ret R Z n0 as' Q h cells slots pc ls (.int z :: .int x :: st) := by
  obtain ⟨hd, rfl⟩ := hd
  exact K.step fun p e s m below meth c T locs hx hZ hby hown X eT t k => XS.idiv X.here hx rfl (hb hby hd) rfl hz k
theorem r_ldiv {x z : Int64} (hd : D bytes pc .ldiv 1 nx) (hz : z ≠ 0) (K : ORun l y bytes maxL ret R Z n0 as' Q h cells slots nx ls (.long (x / z) :: st)) : ORun l y bytes maxL ret R Z n0 as' Q h cells slots pc ls (.long z :: .long x :: st) := by
  obtain ⟨hd, rfl⟩ := hd
  exact K.step fun p e s m below meth c T locs hx hZ hby hown X eT t k => XS.ldiv X.here hx rfl (hb hby hd) rfl hz k
theorem r_ineg {x : Int32} (hd : D bytes pc .ineg 1 nx) (K : ORun l y bytes maxL ret R Z n0 as' Q h cells slots nx ls (.int (-x) :: st)) : ORun l y bytes maxL ret R Z n0 as' Q h cells slots pc ls (.int x :: st) := by
  obtain ⟨hd, rfl⟩ := hd
  exact K.step fun p e s m below meth c T locs hx hZ hby hown X eT t k => XS.ineg X.here hx rfl (hb hby hd) rfl k
theorem r_lneg {x : Int64} (hd : D bytes pc .lneg 1 nx) (K : ORun l y bytes maxL ret R Z n0 as' Q h cells slots nx ls (.long (-x) :: st)) : ORun l y bytes maxL ret R Z n0 as' Q h cells slots pc ls (.long x :: st) := by
  obtain ⟨hd, rfl⟩ := hd
  exact K.step fun p e s m below meth c T locs hx hZ hby hown X eT t k => XS.lneg X.here hx rfl (hb hby hd) rfl k
theorem r_i2l {x : Int32} (hd : D bytes pc .i2l 1 nx) (K : ORun l y bytes maxL ret R Z n0 as' Q h cells slots nx ls (.long (x.toInt64) :: st)) : ORun l y bytes maxL ret R Z n0 as' Q h cells slots pc ls (.int x :: st) := by
  obtain ⟨hd, rfl⟩ := hd
  exact K.step fun p e s m below meth c T locs hx hZ hby hown X eT t k => XS.i2l X.here hx rfl (hb hby hd) rfl k
theorem r_l2i {x : Int64} (hd : D bytes pc .l2i 1 nx) (K : ORun l y bytes maxL ret R Z n0 as' Q h cells slots nx ls (.int (x.toInt32) :: st)) : ORun l y bytes maxL ret R Z n0 as' Q h cells slots pc ls (.long x :: st) := by
  obtain ⟨hd, rfl⟩ := hd
  exact K.step fun p e s m below meth c T locs hx hZ hby hown X eT t k => XS.l2i X.here hx rfl (hb hby hd) rfl k
theorem r_i2b {x : Int32} (hd : D bytes pc .i2b 1 nx) (K : ORun l y bytes maxL ret R Z n0 as' Q h cells slots nx ls (.int (x.toInt8.toInt32) :: st)) : ORun l y bytes maxL ret R Z n0 as' Q h cells slots pc ls (.int x :: st) := by
  obtain ⟨hd, rfl⟩ := hd
  exact K.step fun p e s m below meth c T locs hx hZ hby hown X eT t k => XS.i2b X.here hx rfl (hb hby hd) rfl k
theorem r_i2s {x : Int32} (hd : D bytes pc .i2s 1 nx) (K : ORun l y bytes maxL ret R Z n0 as' Q h cells slots nx ls (.int (x.toInt16.toInt32) :: st)) : ORun l y bytes maxL ret R Z n0 as' Q h cells slots pc ls (.int x :: st) := by
  obtain ⟨hd, rfl⟩ := hd
  exact K.step fun p e s m below meth c T locs hx hZ hby hown X eT t k => XS.i2s X.here hx rfl (hb hby hd) rfl k
theorem r_i2c {x : Int32} (hd : D bytes pc .i2c 1 nx) (K : ORun l y bytes maxL ret R Z n0 as' Q h cells slots nx ls (.int (x.toUInt32.toUInt16.toUInt32.toInt32) :: st)) : ORun l y bytes maxL ret R Z n0 as' Q h cells slots pc ls (.int x :: st) := by
  obtain ⟨hd, rfl⟩ := hd
  exact K.step fun p e s m below meth c T locs hx hZ hby hown X eT t k => XS.i2c X.here hx rfl (hb hby hd) rfl k
theorem r_lcmp {x z : Int64} (hd : D bytes pc .lcmp 1 nx) (K : ORun l y bytes maxL ret R Z n0 as' Q h cells slots nx ls (.int (lcmpW x z) :: st)) : ORun l y bytes maxL ret R Z n0 as' Q h cells slots pc ls (.long z :: .long x :: st) := by
  obtain ⟨hd, rfl⟩ := hd
  exact K.step fun p e s m below meth c T locs hx hZ hby hown X eT t k => XS.lcmp X.here hx rfl (hb hby hd) rfl k
theorem r_dup {x : Value} (hd : D bytes pc .dup 1 nx) (hc : x.category = 1) (K : ORun l y bytes maxL ret R Z n0 as' Q h cells slots nx ls (x :: x :: st)) : ORun l y bytes maxL ret R Z n0 as' Q h cells slots pc ls (x :: st) := by
  obtain ⟨hd, rfl⟩ := hd
  exact K.step fun p e s m below meth c T locs hx hZ hby hown X eT t k => XS.dup X.here hx rfl (hb hby hd) rfl hc k
theorem r_pop {x : Value} (hd : D bytes pc .pop 1 nx) (hc : x.category = 1) (K : ORun l y bytes maxL ret R Z n0 as' Q h cells slots nx ls st) : ORun l y bytes maxL ret R Z n0 as' Q h cells slots pc ls (x :: st) := by
  obtain ⟨hd, rfl⟩ := hd
  exact K.step fun p e s m below meth c T locs hx hZ hby hown X eT t k => XS.pop X.here hx rfl (hb hby hd) rfl hc k
theorem r_dupX1 {x z : Value} (hd : D bytes pc .dup_x1 1 nx) (hc : x.category = 1) (hc2 : z.category = 1) (K : ORun l y bytes maxL ret R Z n0 as' Q h cells slots nx ls (x :: z :: x :: st)) : ORun l y bytes maxL ret R Z n0 as' Q h cells slots pc ls (x :: z :: st) := by
  obtain ⟨hd, rfl⟩ := hd
  exact K.step fun p e s m below meth c T locs hx hZ hby hown X eT t k => XS.dupX1 X.here hx rfl (hb hby hd) rfl hc hc2 k
theorem r_dup2 {x z : Value} (hd : D bytes pc .dup2 1 nx) (hc : x.category = 1) (hc2 : z.category = 1) (K : ORun l y bytes maxL ret R Z n0 as' Q h cells slots nx ls (x :: z :: x :: z :: st)) : ORun l y bytes maxL ret R Z n0 as' Q h cells slots pc ls (x :: z :: st) := by
  obtain ⟨hd, rfl⟩ := hd
  exact K.step fun p e s m below meth c T locs hx hZ hby hown X eT t k => XT.dup2 X.here hx rfl (hb hby hd) rfl hc hc2 k
theorem r_dup2L {x : Int64} (hd : D bytes pc .dup2 1 nx) (K : ORun l y bytes maxL ret R Z n0 as' Q h cells slots nx ls (.long x :: .long x :: st)) : ORun l y bytes maxL ret R Z n0 as' Q h cells slots pc ls (.long x :: st) := by
  obtain ⟨hd, rfl⟩ := hd
  exact K.step fun p e s m below meth c T locs hx hZ hby hown X eT t k => XT.dup2L X.here hx rfl (hb hby hd) rfl k
theorem r_irem {x z : Int32} (hd : D bytes pc .irem 1 nx) (hz : z ≠ 0) (K : ORun l y bytes maxL ret R Z n0 as' Q h cells slots nx ls (.int (x % z) :: st)) : ORun l y bytes maxL ret R Z n0 as' Q h cells slots pc ls (.int z :: .int x :: st) := by
  obtain ⟨hd, rfl⟩ := hd
  exact K.step fun p e s m below meth c T locs hx hZ hby hown X eT t k => iremM X hx rfl (hb hby hd) rfl hz k
theorem r_lrem {x z : Int64} (hd : D bytes pc .lrem 1 nx) (hz : z ≠ 0) (K : ORun l y bytes maxL ret R Z n0 as' Q h cells slots nx ls (.long (x % z) :: st)) : ORun l y bytes maxL ret R Z n0 as' Q h cells slots pc ls (.long z :: .long x :: st) := by
  obtain ⟨hd, rfl⟩ := hd
  rw [← lrem_mod] at K
  exact K.step fun p e s m below meth c T locs hx hZ hby hown X eT t k => XS.lrem X.here hx rfl (hb hby hd) rfl hz k
/-! branches -/
theorem r_goto {off : Int} (hd : DB bytes pc .goto off nx tgt) (K : ORun l y bytes maxL ret R Z n0 as' Q h cells slots tgt ls st) : ORun l y bytes maxL ret R Z n0 as' Q h cells slots pc ls st := by
  obtain ⟨hd, rfl, ho, rfl⟩ := hd
  exact K.step fun p e s m below meth c T locs hx hZ hby hown X eT t k => XS.goto X.here hx rfl rfl (hb hby hd) ho rfl k
theorem r_icmp {cd : ClassFile.Cond} {off : Int} {x z : Int32} (hd : DB bytes pc (.if_icmp cd) off nx tgt) (K1 : if_icmp.holds cd x z = true → ORun l y bytes maxL ret R Z n0 as' Q h cells slots tgt ls st) (K2 : if_icmp.holds cd x z = false → ORun l y bytes maxL ret R Z n0 as' Q h cells slots nx ls st) : ORun l y bytes maxL ret R Z n0 as' Q h cells slots pc ls (.int z :: .int x :: st) := by
  obtain ⟨hd, rfl, ho, rfl⟩ := hd
  cases hc : if_icmp.holds cd x z
  · exact (K2 hc).step fun p e s m below meth c T locs hx hZ hby hown X eT t k => XS.icmpNo X.here hx rfl (hb hby hd) rfl hc k
  · exact (K1 hc).step fun p e s m below meth c T locs hx hZ hby hown X eT t k => XS.icmpYes X.here hx rfl rfl (hb hby hd) rfl hc ho rfl k
theorem r_if {cd : ClassFile.Cond} {off : Int} {x : Int32} (hd : DB bytes pc (.ifCond cd) off nx tgt) (K1 : if_icmp.holds cd x 0 = true → ORun l y bytes maxL ret R Z n0 as' Q h cells slots tgt ls st) (K2 : if_icmp.holds cd x 0 = false → ORun l y bytes maxL ret R Z n0 as' Q h cells slots nx ls st) : ORun l y bytes maxL ret R Z n0 as' Q h cells slots pc ls (.int x :: st) := by
  obtain ⟨hd, rfl, ho, rfl⟩ := hd
  cases hc : if_icmp.holds cd x 0
  · exact (K2 hc).step fun p e s m below meth c T locs hx hZ hby hown X eT t k => XS.ifNo X.here hx rfl (hb hby hd) rfl ((if0 _ _).trans hc) k
  · exact (K1 hc).step fun p e s m below meth c T locs hx hZ hby hown X eT t k => XS.ifYes X.here hx rfl rfl (hb hby hd) rfl ((if0 _ _).trans hc) ho rfl k
theorem r_icmp_lt {off : Int} {x z : Int32} (hd : DB bytes pc (.if_icmp .lt) off nx tgt) (K1 : x < z → ORun l y bytes maxL ret R Z n0 as' Q h cells slots tgt ls st) (K2 : ¬ x < z → ORun l y bytes maxL ret R Z n0 as' Q h cells slots nx ls st) : ORun l y bytes maxL ret R Z n0 as' Q h cells slots pc ls (.int z :: .int x :: st) :=
  r_icmp hd (fun q => K1 (Decidable.byContradiction fun r => by rw [(flt r).1] at q; cases q)) (fun q => K2 (fun r => by rw [(tlt r).1] at q; cases q))
theorem r_if_lt {off : Int} {x : Int32} (hd : DB bytes pc (.ifCond .lt) off nx tgt) (K1 : x < 0 → ORun l y bytes maxL ret R Z n0 as' Q h cells slots tgt ls st) (K2 : ¬ x < 0 → ORun l y bytes maxL ret R Z n0 as' Q h cells slots nx ls st) : ORun l y bytes maxL ret R Z n0 as' Q h cells slots pc ls (.int x :: st) :=
  r_if hd (fun q => K1 (Decidable.byContradiction fun r => by rw [(flt r).1] at q; cases q)) (fun q => K2 (fun r => by rw [(tlt r).1] at q; cases q))
theorem r_icmp_ge {off : Int} {x z : Int32} (hd : DB bytes pc (.if_icmp .ge) off nx tgt) (K1 : ¬ x < z → ORun l y bytes maxL ret R Z n0 as' Q h cells slots tgt ls st) (K2 : x < z → ORun l y bytes maxL ret R Z n0 as' Q h cells slots nx ls st) : ORun l y bytes maxL ret R Z n0 as' Q h cells slots pc ls (.int z :: .int x :: st) :=
  r_icmp hd (fun q => K1 (fun r => by rw [(tlt r).2.1] at q; cases q)) (fun q => K2 (Decidable.byContradiction fun r => by rw [(flt r).2.1] at q; cases q))
theorem r_if_ge {off : Int} {x : Int32} (hd : DB bytes pc (.ifCond .ge) off nx tgt) (K1 : ¬ x < 0 → ORun l y bytes maxL ret R Z n0 as' Q h cells slots tgt ls st) (K2 : x < 0 → ORun l y bytes maxL ret R Z n0 as' Q h cells slots nx ls st) : ORun l y bytes maxL ret R Z n0 as' Q h cells slots pc ls (.int x :: st) :=
  r_if hd (fun q => K1 (fun r => by rw [(tlt r).2.1] at q; cases q)) (fun q => K2 (Decidable.byContradiction fun r => by rw [(flt r).2.1] at q; cases q))
theorem r_icmp_gt {off : Int} {x z : Int32} (hd : DB bytes pc (.if_icmp .gt) off nx tgt) (K1 : z < x → ORun l y bytes maxL ret R Z n0 as' Q h cells slots tgt ls st) (K2 : ¬ z < x → ORun l y bytes maxL ret R Z n0 as' Q h cells slots nx ls st) : ORun l y bytes maxL ret R Z n0 as' Q h cells slots pc ls (.int z :: .int x :: st) :=
  r_icmp hd (fun q => K1 (Decidable.byContradiction fun r => by rw [(flt r).2.2.1] at q; cases q)) (fun q => K2 (fun r => by rw [(tlt r).2.2.1] at q; cases q))
theorem r_if_gt {off : Int} {x : Int32} (hd : DB bytes pc (.ifCond .gt) off nx tgt) (K1 : 0 < x → ORun l y bytes maxL ret R Z n0 as' Q h cells slots tgt ls st) (K2 : ¬ 0 < x → ORun l y bytes maxL ret R Z n0 as' Q h cells slots nx ls st) : ORun l y bytes maxL ret R Z n0 as' Q h cells slots pc ls (.int x :: st) :=
  r_if hd (fun q => K1 (Decidable.byContradiction fun r => by rw [(flt r).2.2.1] at q; cases q)) (fun q => K2 (fun r => by rw [(tlt r).2.2.1] at q; cases q))
theorem r_icmp_le {off : Int} {x z : Int32} (hd : DB bytes pc (.if_icmp .le) off nx tgt) (K1 : ¬ z < x → ORun l y bytes maxL ret R Z n0 as' Q h cells slots tgt ls st) (K2 : z < x → ORun l y bytes maxL ret R Z n0 as' Q h cells slots nx ls st) : ORun l y bytes maxL ret R Z n0 as' Q h cells slots pc ls (.int z :: .int x :: st) :=
  r_icmp hd (fun q => K1 (fun r => by rw [(tlt r).2.2.2] at q; cases q)) (fun q => K2 (Decidable.byContradiction fun r => by rw [(flt r).2.2.2] at q; cases q))
theorem r_if_le {off : Int} {x : Int32} (hd : DB bytes pc (.ifCond .le) off nx tgt) (K1 : ¬ 0 < x → ORun l y bytes maxL ret R Z n0 as' Q h cells slots tgt ls st) (K2 : 0 < x → ORun l y bytes maxL ret R Z n0 as' Q h cells slots nx ls st) : ORun l y bytes maxL ret R Z n0 as' Q h cells slots pc ls (.int x :: st) :=
  r_if hd (fun q => K1 (fun r => by rw [(tlt r).2.2.2] at q; cases q)) (fun q => K2 (Decidable.byContradiction fun r => by rw [(flt r).2.2.2] at q; cases q))
theorem r_icmp_eq {off : Int} {x z : Int32} (hd : DB bytes pc (.if_icmp .eq) off nx tgt) (K1 : x = z → ORun l y bytes maxL ret R Z n0 as' Q h cells slots tgt ls st) (K2 : ¬ x = z → ORun l y bytes maxL ret R Z n0 as' Q h cells slots nx ls st) : ORun l y bytes maxL ret R Z n0 as' Q h cells slots pc ls (.int z :: .int x :: st) :=
  r_icmp hd (fun q => K1 (Decidable.byContradiction fun r => by rw [(feq r).1] at q; cases q)) (fun q => K2 (fun r => by rw [(teq r).1] at q; cases q))
theorem r_if_eq {off : Int} {x : Int32} (hd : DB bytes pc (.ifCond .eq) off nx tgt) (K1 : x = 0 → ORun l y bytes maxL ret R Z n0 as' Q h cells slots tgt ls st) (K2 : ¬ x = 0 → ORun l y bytes maxL ret R Z n0 as' Q h cells slots nx ls st) : ORun l y bytes maxL ret R Z n0 as' Q h cells slots pc ls (.int x :: st) :=
  r_if hd (fun q => K1 (Decidable.byContradiction fun r => by rw [(feq r).1] at q; cases q)) (fun q => K2 (fun r => by rw [(teq r).1] at q; cases q))
theorem r_icmp_ne {off : Int} {x z : Int32} (hd : DB bytes pc (.if_icmp .ne) off nx tgt) (K1 : ¬ x = z → ORun l y bytes maxL ret R Z n0 as' Q h cells slots tgt ls st) (K2 : x = z → ORun l y bytes maxL ret R Z n0 as' Q h cells slots nx ls st) : ORun l y bytes maxL ret R Z n0 as' Q h cells slots pc ls (.int z :: .int x :: st) :=
  r_icmp hd (fun q => K1 (fun r => by rw [(teq r).2] at q; cases q)) (fun q => K2 (Decidable.byContradiction fun r => by rw [(feq r).2] at q; cases q))
theorem r_if_ne {off : Int} {x : Int32} (hd : DB bytes pc (.ifCond .ne) off nx tgt) (K1 : ¬ x = 0 → ORun l y bytes maxL ret R Z n0 as' Q h cells slots tgt ls st) (K2 : x = 0 → ORun l y bytes maxL ret R Z n0 as' Q h cells slots nx ls st) : ORun l y bytes maxL ret R Z n0 as' Q h cells slots pc ls (.int x :: st) :=
  r_if hd (fun q => K1 (fun r => by rw [(teq r).2] at q; cases q)) (fun q => K2 (Decidable.byContradiction fun r => by rw [(feq r).2] at q; cases q))
theorem r_ifnull0 {off : Int} (hd : DB bytes pc .ifnull off nx tgt) (K : ORun l y bytes maxL ret R Z n0 as' Q h cells slots tgt ls st) : ORun l y bytes maxL ret R Z n0 as' Q h cells slots pc ls (.null :: st) := by
  obtain ⟨hd, rfl, ho, rfl⟩ := hd
  exact K.step fun p e s m below meth c T locs hx hZ hby hown X eT t k => XS.ifnullYes X.here hx rfl rfl (hb hby hd) rfl ho rfl k
theorem r_ifnull1 {off : Int} {b : Addr} (hd : DB bytes pc .ifnull off nx tgt) (K : ORun l y bytes maxL ret R Z n0 as' Q h cells slots nx ls st) : ORun l y bytes maxL ret R Z n0 as' Q h cells slots pc ls (.ref b :: st) := by
  obtain ⟨hd, rfl, ho, rfl⟩ := hd
  exact K.step fun p e s m below meth c T locs hx hZ hby hown X eT t k => XS.ifnullNo X.here hx rfl (hb hby hd) rfl k
theorem r_ifnonnull0 {off : Int} (hd : DB bytes pc .ifnonnull off nx tgt) (K : ORun l y bytes maxL ret R Z n0 as' Q h cells slots nx ls st) : ORun l y bytes maxL ret R Z n0 as' Q h cells slots pc ls (.null :: st) := by
  obtain ⟨hd, rfl, ho, rfl⟩ := hd
  exact K.step fun p e s m below meth c T locs hx hZ hby hown X eT t k => XS.ifnonnullNo X.here hx rfl (hb hby hd) rfl k
theorem r_ifnonnull1 {off : Int} {b : Addr} (hd : DB bytes pc .ifnonnull off nx tgt) (K : ORun l y bytes maxL ret R Z n0 as' Q h cells slots tgt ls st) : ORun l y bytes maxL ret R Z n0 as' Q h cells slots pc ls (.ref b :: st) := by
  obtain ⟨hd, rfl, ho, rfl⟩ := hd
  exact K.step fun p e s m below meth c T locs hx hZ hby hown X eT t k => XS.ifnonnullYes X.here hx rfl rfl (hb hby hd) rfl ho rfl k
theorem r_acmp {cd : ACond} {off : Int} {x z : Value} (h1 : x.isRef = true) (h2 : z.isRef = true) (hd : DB bytes pc (.if_acmp cd) off nx tgt) (K1 : acV cd (decide (x = z)) = true → ORun l y bytes maxL ret R Z n0 as' Q h cells slots tgt ls st) (K2 : acV cd (decide (x = z)) = false → ORun l y bytes maxL ret R Z n0 as' Q h cells slots nx ls st) : ORun l y bytes maxL ret R Z n0 as' Q h cells slots pc ls (z :: x :: st) := by
  obtain ⟨hd, rfl, ho, rfl⟩ := hd
  cases hc : acV cd (decide (x = z))
  · exact (K2 hc).step fun p e s m below meth c T locs hx hZ hby hown X eT t k => Jvm.RoadKit.acmp (g := mkF m pc ls.toArray (z :: x :: st)) X hx rfl h1 h2 (same := decide (x = z)) rfl (hb hby hd) rfl rfl ho (by rw [hc]; rfl) k
  · exact (K1 hc).step fun p e s m below meth c T locs hx hZ hby hown X eT t k => Jvm.RoadKit.acmp (g := mkF m pc ls.toArray (z :: x :: st)) X hx rfl h1 h2 (same := decide (x = z)) rfl (hb hby hd) rfl rfl ho (by rw [hc]; rfl) k
theorem r_acmp_eq {off : Int} {x z : Value} (h1 : x.isRef = true) (h2 : z.isRef = true) (hd : DB bytes pc (.if_acmp .eq) off nx tgt) (K1 : x = z → ORun l y bytes maxL ret R Z n0 as' Q h cells slots tgt ls st) (K2 : ¬ x = z → ORun l y bytes maxL ret R Z n0 as' Q h cells slots nx ls st) : ORun l y bytes maxL ret R Z n0 as' Q h cells slots pc ls (z :: x :: st) :=
  r_acmp h1 h2 hd (fun q => K1 (by simpa [acV] using q)) (fun q => K2 (by simpa [acV] using q))
theorem r_acmp_ne {off : Int} {x z : Value} (h1 : x.isRef = true) (h2 : z.isRef = true) (hd : DB bytes pc (.if_acmp .ne) off nx tgt) (K1 : ¬ x = z → ORun l y bytes maxL ret R Z n0 as' Q h cells slots tgt ls st) (K2 : x = z → ORun l y bytes maxL ret R Z n0 as' Q h cells slots nx ls st) : ORun l y bytes maxL ret R Z n0 as' Q h cells slots pc ls (z :: x :: st) :=
  r_acmp h1 h2 hd (fun q => K1 (by simpa [acV] using q)) (fun q => K2 (by simpa [acV] using q))
/-! returns -/
theorem ORun.back {v : Option Value} (hv : ret = none → v = none) (hc : cells ≤ R.cells) (hs : slots ≤ R.slots) (hq : Q v h)
    (hl : ∀ (p : Program) (e : Env) (s : State) (m : MethodId) (below : List Frame) (meth : Method) (c : Code) (T : State) (locs : List Loc), p.tables.exec = Jvm.exec → c.code = bytes → meth.sig.returnType = ret → Stand p l e R s m as' below meth c T locs cells slots → ∀ fs : List Frame,
      (∀ (f : JFrame) (acts : List Action), f.method = m → f.locked = none → f.entered = [] → (doReturn e (T.setTop f) acts v).1 = T.setFrames fs) → Steps p.tables e below (T.setTop (mkF m pc ls.toArray st)) (T.setFrames fs)) : ORun l y bytes maxL ret R Z n0 as' Q h cells slots pc ls st :=
  fun p e s m below meth c T locs hx hZ hby hml hown hnm hret hlk X eT N => by
    obtain ⟨fs, hr, hrun, hended, hW, hsame⟩ := X.leave (v := v) (fun q => hv (hret ▸ q)) hlk
    exact ⟨_, _, hl p e s m below meth c T locs hx hby hret X fs hr, hrun, hended, v, locs, rfl, ⟨by show Q v T.heap; rw [eT]; exact hq, N⟩, ⟨v, rfl⟩, hW, hsame.mono hc hs⟩
theorem r_ret (hd : D bytes pc .return_ 1 nx) (hc : cells ≤ R.cells) (hs : slots ≤ R.slots) (hq : Q none h) : ORun l y bytes maxL none R Z n0 as' Q h cells slots pc ls [] :=
  ORun.back (fun _ => rfl) hc hs hq fun p e s m below meth c T locs hx hby hret X fs hr => X.returnOut hx hret (hb hby hd.1) hr
theorem r_iret {v : Int32} (hd : D bytes pc .ireturn 1 nx) (hc : cells ≤ R.cells) (hs : slots ≤ R.slots) (hq : Q (some (.int v)) h) : ORun l y bytes maxL (some .int) R Z n0 as' Q h cells slots pc ls (.int v :: st) :=
  ORun.back (fun q => nomatch q) hc hs hq fun p e s m below meth c T locs hx hby hret X fs hr => retOut X hx (t := .int) hret rfl (Or.inl ⟨rfl, Or.inl rfl, _, rfl⟩) (hb hby hd.1) hr
theorem r_nret {v : Int32} {t : FieldType} (ht : t = .boolean ∨ t = .byte ∨ t = .char ∨ t = .short) (hd : D bytes pc .ireturn 1 nx) (hc : cells ≤ R.cells) (hs : slots ≤ R.slots) (hq : Q (some (.int (nar t v))) h) : ORun l y bytes maxL (some t) R Z n0 as' Q h cells slots pc ls (.int v :: st) :=
  ORun.back (fun q => nomatch q) hc hs hq fun p e s m below meth c T locs hx hby hret X fs hr => retN X hx (t := t) hret ht (hb hby hd.1) hr
theorem r_lret {v : Int64} (hd : D bytes pc .lreturn 1 nx) (hc : cells ≤ R.cells) (hs : slots ≤ R.slots) (hq : Q (some (.long v)) h) : ORun l y bytes maxL (some .long) R Z n0 as' Q h cells slots pc ls (.long v :: st) :=
  ORun.back (fun q => nomatch q) hc hs hq fun p e s m below meth c T locs hx hby hret X fs hr => retOut X hx (t := .long) hret rfl (Or.inr (Or.inl ⟨rfl, rfl, _, rfl⟩)) (hb hby hd.1) hr
theorem r_aret {v : Value} {t : FieldType} (ht : t.isReference = true) (hv : v.isRef = true) (hn : narrow t v = v) (hd : D bytes pc .areturn 1 nx) (hc : cells ≤ R.cells) (hs : slots ≤ R.slots) (hq : Q (some v) h) : ORun l y bytes maxL (some t) R Z n0 as' Q h cells slots pc ls (v :: st) :=
  ORun.back (fun q => nomatch q) hc hs hq fun p e s m below meth c T locs hx hby hret X fs hr => retOut X hx (t := t) hret hn (Or.inr (Or.inr (Or.inr (Or.inr ⟨rfl, ht, hv⟩)))) (hb hby hd.1) hr
/-! fields, objects -/
theorem r_getF {index : Nat} {O n d host : String} {a : Addr} {v : Value} (w : (Cond.fieldLink y.cls index O n d).before a0 Z = true ∨ (Cond.fieldLinkNest y.cls index O n d host).before a0 Z = true) (F : Fld Z h a O n d v) (hd : D bytes pc (.getfield index) 3 nx) (K : ORun l y bytes maxL ret R Z n0 as' Q h cells slots nx ls (v :: st)) : ORun l y bytes maxL ret R Z n0 as' Q h cells slots pc ls (.ref a :: st) := by
  obtain ⟨hd, rfl⟩ := hd
  refine K.law fun p e s m below meth c T locs hx hZ hby hml hown hnm X eT N => ?_
  obtain ⟨T', X', e', st'⟩ := getF X hx hZ hown w Via.refl eT F (g := mkF m pc ls.toArray (.ref a :: st)) rfl rfl (hb hby hd)
  exact ⟨T', locs, X', e', N, st'⟩
theorem r_getS {index : Nat} {O n d : String} {v : Value} (w : (Cond.fieldLink y.cls index O n d).before a0 Z = true) (F : Sta Z h O n d v) (hd : D bytes pc (.getstatic index) 3 nx) (K : ORun l y bytes maxL ret R Z n0 as' Q h cells slots nx ls (v :: st)) : ORun l y bytes maxL ret R Z n0 as' Q h cells slots pc ls st := by
  obtain ⟨hd, rfl⟩ := hd
  refine K.law fun p e s m below meth c T locs hx hZ hby hml hown hnm X eT N => ?_
  obtain ⟨T', X', e', st'⟩ := getS2 X hx hZ hown (host := "") (Or.inl w) Via.refl eT F (g := mkF m pc ls.toArray st) rfl (hb hby hd)
  exact ⟨T', locs, X', e', N, st'⟩
theorem ORun.lawK {pc' : Nat} {st' : List Value} {cells' slots' : Nat} {P : Heap → Prop}
    (hs : ∀ (p : Program) (e : Env) (s : State) (m : MethodId) (below : List Frame) (meth : Method) (c : Code) (T : State) (locs : List Loc), p.tables.exec = Jvm.exec → Z.Warmed39 s.vm → c.code = bytes → c.maxLocals = maxL → s.vm.findClass y.cls = some m.cls → meth.name = y.name → Stand p l e R s m as' below meth c T locs cells slots → T.heap = h → Fr n0 locs →
      ∃ T' locs', Stand p l e R s m as' below meth c T' locs' cells' slots' ∧ P T'.heap ∧ Fr n0 locs' ∧ ∀ target, Steps p.tables e below (T'.setTop (mkF m pc' ls'.toArray st')) target → Steps p.tables e below (T.setTop (mkF m pc ls.toArray st)) target)
    (K : ∀ h', P h' → ORun l y bytes maxL ret R Z n0 as' Q h' cells' slots' pc' ls' st') : ORun l y bytes maxL ret R Z n0 as' Q h cells slots pc ls st :=
  fun p e s m below meth c T locs hx hZ hby hml hown hnm hret hlk X eT N => by
    obtain ⟨T', locs', X', eT', N', st⟩ := hs p e s m below meth c T locs hx hZ hby hml hown hnm X eT N
    obtain ⟨U, o, h1, h2⟩ := K _ eT' p e s m below meth c T' locs' hx hZ hby hml hown hnm hret hlk X' rfl N'
    exact ⟨U, o, st _ h1, h2⟩
theorem r_putF {index kk : Nat} {O n d C host : String} {ty : FieldType} {a : Addr} {v old : Value} (w : (Cond.fieldLink y.cls index O n d).before a0 Z = true ∨ (Cond.fieldLinkNest y.cls index O n d host).before a0 Z = true) (F : Fld Z h a O n d old) (E : Exa Z h a C)
    (L : (Cond.lays C O n d).before a0 Z = true ∨ ((Cond.laysFinal C O n d).before a0 Z = true ∧ y.cls = O ∧ y.name = "<init>")) (wi : (Cond.instantiable C kk).before a0 Z = true) (hty : parseFieldDescriptor d = some ty) (hn : narrow ty v = v) (hf : fits ty v = true) (ge : n0 ≤ a) (hd : D bytes pc (.putfield index) 3 nx)
    (K : ∀ h', Wr h h' a (Jvm.RoadKit.slotOf Z O n d) v → ORun l y bytes maxL ret R Z n0 as' Q h' cells slots nx ls st) : ORun l y bytes maxL ret R Z n0 as' Q h cells slots pc ls (v :: .ref a :: st) := by
  obtain ⟨hd, rfl⟩ := hd
  refine ORun.lawK (fun p e s m below meth c T locs hx hZ hby hml hown hnm X eT N => ?_) K
  obtain ⟨T', h', X', rfl, W, st'⟩ := putF X hx hZ hown w Via.refl eT F E (L.imp id fun q => ⟨q.1, q.2.1, hnm.trans q.2.2⟩) wi hty hn hf (g := mkF m pc ls.toArray (v :: .ref a :: st)) rfl rfl (hb hby hd)
  exact ⟨T', _, X', W, Fr.snoc X' N ge, st'⟩
theorem r_putFN {index kk : Nat} {O n d C : String} {ty : FieldType} {a : Addr} {v v' old : Value} (w : (Cond.fieldLink y.cls index O n d).before a0 Z = true) (F : Fld Z h a O n d old) (E : Exa Z h a C)
    (L : (Cond.lays C O n d).before a0 Z = true ∨ ((Cond.laysFinal C O n d).before a0 Z = true ∧ y.cls = O ∧ y.name = "<init>")) (wi : (Cond.instantiable C kk).before a0 Z = true) (hty : parseFieldDescriptor d = some ty) (hn : narrow ty v = v') (hf : fits ty v' = true) (ge : n0 ≤ a) (hd : D bytes pc (.putfield index) 3 nx)
    (K : ∀ h', Wr h h' a (Jvm.RoadKit.slotOf Z O n d) v' → ORun l y bytes maxL ret R Z n0 as' Q h' cells slots nx ls st) : ORun l y bytes maxL ret R Z n0 as' Q h cells slots pc ls (v :: .ref a :: st) := by
  obtain ⟨hd, rfl⟩ := hd
  refine ORun.lawK (fun p e s m below meth c T locs hx hZ hby hml hown hnm X eT N => ?_) K
  obtain ⟨T', h', X', rfl, W, st'⟩ := putFN X hx hZ hown w Via.refl eT F E (L.imp id fun q => ⟨q.1, q.2.1, hnm.trans q.2.2⟩) wi hty hn hf (g := mkF m pc ls.toArray (v :: .ref a :: st)) rfl rfl (hb hby hd)
  exact ⟨T', _, X', W, Fr.snoc X' N ge, st'⟩
theorem r_new {index n : Nat} {C : String} (w : (Cond.classLink y.cls index C).before a0 Z = true) (wi : (Cond.instantiable C n).before a0 Z = true) (wz : (Cond.initialized C).before a0 Z = true) (hd : D bytes pc (.new index) 3 nx) (hc : cells + 1 ≤ R.cells) (hl : slots + n ≤ R.slots)
    (K : ∀ h', Ext h h' ∧ Exa Z h' h.size C ∧ (∀ {O nm d : String} {ty : FieldType}, Laid Z a0 C O nm d → parseFieldDescriptor d = some ty → Fld Z h' h.size O nm d (defaultValue ty)) → ORun l y bytes maxL ret R Z n0 as' Q h' (cells + 1) (slots + n) nx ls (.ref h.size :: st)) : ORun l y bytes maxL ret R Z n0 as' Q h cells slots pc ls st := by
  obtain ⟨hd, rfl⟩ := hd
  refine ORun.lawK (fun p e s m below meth c T locs hx hZ hby hml hown hnm X eT N => ?_) K
  obtain ⟨T', h', X', rfl, E, A, D', -, st'⟩ := newO X hx hZ hown w wi wz eT (g := mkF m pc ls.toArray st) rfl (hb hby hd) hc hl
  exact ⟨T', _, X', ⟨E, A, D'⟩, N, st'⟩
theorem r_newarr {aty : ArrayType} {n : Int32} (cap : Nat) (w : (Cond.arrayClass (newarray.typeOf aty)).before a0 Z = true) (hd : D bytes pc (.newarray aty) 2 nx) (hn : ¬ n < 0) (hcap : n.toNatClampNeg ≤ cap) (hb' : cap * 8 ≤ 536870912) (hc : cells + 1 ≤ R.cells) (hl : slots + cap ≤ R.slots)
    (K : ∀ h' cA, Ext h h' → Arr Z h' h.size (newA cA (newarray.typeOf aty) n) (newarray.typeOf aty) → ORun l y bytes maxL ret R Z n0 as' Q h' (cells + 1) (slots + cap) nx ls (.ref h.size :: st)) : ORun l y bytes maxL ret R Z n0 as' Q h cells slots pc ls (.int n :: st) := by
  obtain ⟨hd, rfl⟩ := hd
  refine ORun.lawK (P := fun h' => ∃ cA, Ext h h' ∧ Arr Z h' h.size (newA cA (newarray.typeOf aty) n) (newarray.typeOf aty)) (fun p e s m below meth c T locs hx hZ hby hml hown hnm X eT N => ?_) (fun h' q => by obtain ⟨cA, E, A⟩ := q; exact K h' cA E A)
  obtain ⟨T', h', cA, X', rfl, E, A, st'⟩ := newP X hx hZ w eT (g := mkF m pc ls.toArray (.int n :: st)) rfl (hb hby hd) rfl hn hcap hb' hc hl
  exact ⟨T', _, X', ⟨cA, E, A⟩, N, st'⟩
/-! arrays -/
theorem r_len {a : Addr} {cl : Cell} {ty : FieldType} (A : Arr Z h a cl ty) (hd : D bytes pc .arraylength 1 nx) (K : ORun l y bytes maxL ret R Z n0 as' Q h cells slots nx ls (.int cl.slots.size.toInt32 :: st)) : ORun l y bytes maxL ret R Z n0 as' Q h cells slots pc ls (.ref a :: st) := by
  obtain ⟨hd, rfl⟩ := hd
  exact K.step fun p e s m below meth c T locs hx hZ hby hown X eT t k => X.arraylength hx (by rw [eT]; exact A.1) (State.isArrayOf_alike hZ.alike A.2.1) (g := mkF m pc ls.toArray (.ref a :: st)) rfl rfl (hb hby hd) _ k
theorem r_iaload {a : Addr} {cl : Cell} {j : Int32} {v : Value} (A : Arr Z h a cl .int) (hj : ¬ (j < 0 ∨ cl.slots.size ≤ j.toNatClampNeg)) (hv : cl.slots[j.toNatClampNeg]? = some v) (hd : D bytes pc .iaload 1 nx) (K : ORun l y bytes maxL ret R Z n0 as' Q h cells slots nx ls (v :: st)) : ORun l y bytes maxL ret R Z n0 as' Q h cells slots pc ls (.int j :: .ref a :: st) := by
  obtain ⟨hd, rfl⟩ := hd
  exact K.step fun p e s m below meth c T locs hx hZ hby hown X eT t k => X.iaload hx (j := j) (v := v) (by rw [eT]; exact A.1) (State.isArrayOf_alike hZ.alike A.2.1) A.2.2 hj hv (g := mkF m pc ls.toArray (.int j :: .ref a :: st)) rfl rfl (hb hby hd) _ k
theorem r_caload {a : Addr} {cl : Cell} {j : Int32} {v : Value} (A : Arr Z h a cl .char) (hj : ¬ (j < 0 ∨ cl.slots.size ≤ j.toNatClampNeg)) (hv : cl.slots[j.toNatClampNeg]? = some v) (hd : D bytes pc .caload 1 nx) (K : ORun l y bytes maxL ret R Z n0 as' Q h cells slots nx ls (v :: st)) : ORun l y bytes maxL ret R Z n0 as' Q h cells slots pc ls (.int j :: .ref a :: st) := by
  obtain ⟨hd, rfl⟩ := hd
  exact K.step fun p e s m below meth c T locs hx hZ hby hown X eT t k => X.caload hx (j := j) (v := v) (by rw [eT]; exact A.1) (State.isArrayOf_alike hZ.alike A.2.1) A.2.2 hj hv (g := mkF m pc ls.toArray (.int j :: .ref a :: st)) rfl rfl (hb hby hd) _ k
theorem r_baload {a : Addr} {cl : Cell} {j : Int32} {v : Value} (A : Arr Z h a cl .byte) (hj : ¬ (j < 0 ∨ cl.slots.size ≤ j.toNatClampNeg)) (hv : cl.slots[j.toNatClampNeg]? = some v) (hd : D bytes pc .baload 1 nx) (K : ORun l y bytes maxL ret R Z n0 as' Q h cells slots nx ls (v :: st)) : ORun l y bytes maxL ret R Z n0 as' Q h cells slots pc ls (.int j :: .ref a :: st) := by
  obtain ⟨hd, rfl⟩ := hd
  exact K.step fun p e s m below meth c T locs hx hZ hby hown X eT t k => X.baloadBytes hx (j := j) (v := v) (by rw [eT]; exact A.1) (State.isArrayOf_alike hZ.alike A.2.1) A.2.2 hj hv (g := mkF m pc ls.toArray (.int j :: .ref a :: st)) rfl rfl (hb hby hd) _ k
theorem r_laload {a : Addr} {cl : Cell} {j : Int32} {v : Value} (A : Arr Z h a cl .long) (hj : ¬ (j < 0 ∨ cl.slots.size ≤ j.toNatClampNeg)) (hv : cl.slots[j.toNatClampNeg]? = some v) (hd : D bytes pc .laload 1 nx) (K : ORun l y bytes maxL ret R Z n0 as' Q h cells slots nx ls (v :: st)) : ORun l y bytes maxL ret R Z n0 as' Q h cells slots pc ls (.int j :: .ref a :: st) := by
  obtain ⟨hd, rfl⟩ := hd
  exact K.step fun p e s m below meth c T locs hx hZ hby hown X eT t k => X.laload hx (j := j) (v := v) (by rw [eT]; exact A.1) (State.isArrayOf_alike hZ.alike A.2.1) A.2.2 hj hv (g := mkF m pc ls.toArray (.int j :: .ref a :: st)) rfl rfl (hb hby hd) _ k
theorem r_saload {a : Addr} {cl : Cell} {j : Int32} {v : Value} (A : Arr Z h a cl .short) (hj : ¬ (j < 0 ∨ cl.slots.size ≤ j.toNatClampNeg)) (hv : cl.slots[j.toNatClampNeg]? = some v) (hd : D bytes pc .saload 1 nx) (K : ORun l y bytes maxL ret R Z n0 as' Q h cells slots nx ls (v :: st)) : ORun l y bytes maxL ret R Z n0 as' Q h cells slots pc ls (.int j :: .ref a :: st) := by
  obtain ⟨hd, rfl⟩ := hd
  exact K.step fun p e s m below meth c T locs hx hZ hby hown X eT t k => X.saload hx (j := j) (v := v) (by rw [eT]; exact A.1) (State.isArrayOf_alike hZ.alike A.2.1) A.2.2 hj hv (g := mkF m pc ls.toArray (.int j :: .ref a :: st)) rfl rfl (hb hby hd) _ k
theorem r_aaload {a : Addr} {cl : Cell} {j : Int32} {v : Value} {ty : FieldType} (A : Arr Z h a cl ty) (hty : ty.isReference = true) (hj : ¬ (j < 0 ∨ cl.slots.size ≤ j.toNatClampNeg)) (hv : cl.slots[j.toNatClampNeg]? = some v) (hd : D bytes pc .aaload 1 nx) (K : ORun l y bytes maxL ret R Z n0 as' Q h cells slots nx ls (v :: st)) : ORun l y bytes maxL ret R Z n0 as' Q h cells slots pc ls (.int j :: .ref a :: st) := by
  obtain ⟨hd, rfl⟩ := hd
  exact K.step fun p e s m below meth c T locs hx hZ hby hown X eT t k => X.aaload hx (j := j) (v := v) (by rw [eT]; exact A.1) (State.isArrayOf_alike hZ.alike A.2.1) hty A.2.2 hj hv (g := mkF m pc ls.toArray (.int j :: .ref a :: st)) rfl rfl (hb hby hd) _ k
theorem r_iastore {a : Addr} {cl : Cell} {j : Int32} {x : Int32} (A : Arr Z h a cl .int) (hj : ¬ (j < 0 ∨ cl.slots.size ≤ j.toNatClampNeg)) (ge : n0 ≤ a) (hd : D bytes pc .iastore 1 nx) (K : ∀ h', Wr h h' a j.toNatClampNeg (.int x) → ORun l y bytes maxL ret R Z n0 as' Q h' cells slots nx ls st) : ORun l y bytes maxL ret R Z n0 as' Q h cells slots pc ls (.int x :: .int j :: .ref a :: st) := by
  obtain ⟨hd, rfl⟩ := hd
  refine ORun.lawK (fun p e s m below meth c T locs hx hZ hby hml hown hnm X eT N => ?_) K
  obtain ⟨T', h', X', rfl, W, st'⟩ := stI X hx hZ eT A hj (g := mkF m pc ls.toArray (.int x :: .int j :: .ref a :: st)) rfl rfl (hb hby hd)
  exact ⟨T', _, X', W, Fr.snoc X' N ge, st'⟩
theorem r_castore {a : Addr} {cl : Cell} {j : Int32} {x : Int32} (A : Arr Z h a cl .char) (hj : ¬ (j < 0 ∨ cl.slots.size ≤ j.toNatClampNeg)) (ge : n0 ≤ a) (hd : D bytes pc .castore 1 nx) (K : ∀ h', Wr h h' a j.toNatClampNeg (.int (nar .char x)) → ORun l y bytes maxL ret R Z n0 as' Q h' cells slots nx ls st) : ORun l y bytes maxL ret R Z n0 as' Q h cells slots pc ls (.int x :: .int j :: .ref a :: st) := by
  obtain ⟨hd, rfl⟩ := hd
  refine ORun.lawK (fun p e s m below meth c T locs hx hZ hby hml hown hnm X eT N => ?_) K
  obtain ⟨T', h', X', rfl, W, st'⟩ := stC X hx hZ eT A hj (g := mkF m pc ls.toArray (.int x :: .int j :: .ref a :: st)) rfl rfl (hb hby hd)
  exact ⟨T', _, X', W, Fr.snoc X' N ge, st'⟩
theorem r_bastore {a : Addr} {cl : Cell} {j : Int32} {x : Int32} (A : Arr Z h a cl .byte) (hj : ¬ (j < 0 ∨ cl.slots.size ≤ j.toNatClampNeg)) (ge : n0 ≤ a) (hd : D bytes pc .bastore 1 nx) (K : ∀ h', Wr h h' a j.toNatClampNeg (.int (nar .byte x)) → ORun l y bytes maxL ret R Z n0 as' Q h' cells slots nx ls st) : ORun l y bytes maxL ret R Z n0 as' Q h cells slots pc ls (.int x :: .int j :: .ref a :: st) := by
  obtain ⟨hd, rfl⟩ := hd
  refine ORun.lawK (fun p e s m below meth c T locs hx hZ hby hml hown hnm X eT N => ?_) K
  obtain ⟨T', h', X', rfl, W, st'⟩ := stB X hx hZ eT A hj (g := mkF m pc ls.toArray (.int x :: .int j :: .ref a :: st)) rfl rfl (hb hby hd)
  exact ⟨T', _, X', W, Fr.snoc X' N ge, st'⟩
theorem r_lastore {a : Addr} {cl : Cell} {j : Int32} {x : Int64} (A : Arr Z h a cl .long) (hj : ¬ (j < 0 ∨ cl.slots.size ≤ j.toNatClampNeg)) (ge : n0 ≤ a) (hd : D bytes pc .lastore 1 nx) (K : ∀ h', Wr h h' a j.toNatClampNeg (.long x) → ORun l y bytes maxL ret R Z n0 as' Q h' cells slots nx ls st) : ORun l y bytes maxL ret R Z n0 as' Q h cells slots pc ls (.long x :: .int j :: .ref a :: st) := by
  obtain ⟨hd, rfl⟩ := hd
  refine ORun.lawK (fun p e s m below meth c T locs hx hZ hby hml hown hnm X eT N => ?_) K
  obtain ⟨T', h', X', rfl, W, st'⟩ := stJ X hx hZ eT A hj (g := mkF m pc ls.toArray (.long x :: .int j :: .ref a :: st)) rfl rfl (hb hby hd)
  exact ⟨T', _, X', W, Fr.snoc X' N ge, st'⟩
theorem r_lenA {a : Addr} {ty : FieldType} {vs : List Int32} (n : Int32) (A : Ary Z h a ty vs) (hn : vs.length.toInt32 = n) (hd : D bytes pc .arraylength 1 nx) (K : ORun l y bytes maxL ret R Z n0 as' Q h cells slots nx ls (.int n :: st)) : ORun l y bytes maxL ret R Z n0 as' Q h cells slots pc ls (.ref a :: st) := by
  obtain ⟨c, A, q⟩ := A
  refine r_len A hd ?_
  rw [Ary.size q, hn]; exact K
theorem r_ldI {a : Addr} {vs : List Int32} {j : Int32} (x : Int32) (A : Ary Z h a .int vs) (hj : ¬ j < 0) (hv : vs[j.toNatClampNeg]? = some x) (hd : D bytes pc .iaload 1 nx) (K : ORun l y bytes maxL ret R Z n0 as' Q h cells slots nx ls (.int x :: st)) : ORun l y bytes maxL ret R Z n0 as' Q h cells slots pc ls (.int j :: .ref a :: st) := by
  obtain ⟨c, A, q⟩ := A
  have e := Ary.inb q hj hv
  exact r_iaload A e.1 e.2 hd K
theorem r_ldC {a : Addr} {vs : List Int32} {j : Int32} (x : Int32) (A : Ary Z h a .char vs) (hj : ¬ j < 0) (hv : vs[j.toNatClampNeg]? = some x) (hd : D bytes pc .caload 1 nx) (K : ORun l y bytes maxL ret R Z n0 as' Q h cells slots nx ls (.int x :: st)) : ORun l y bytes maxL ret R Z n0 as' Q h cells slots pc ls (.int j :: .ref a :: st) := by
  obtain ⟨c, A, q⟩ := A
  have e := Ary.inb q hj hv
  exact r_caload A e.1 e.2 hd K
theorem r_ldB {a : Addr} {vs : List Int32} {j : Int32} (x : Int32) (A : Ary Z h a .byte vs) (hj : ¬ j < 0) (hv : vs[j.toNatClampNeg]? = some x) (hd : D bytes pc .baload 1 nx) (K : ORun l y bytes maxL ret R Z n0 as' Q h cells slots nx ls (.int x :: st)) : ORun l y bytes maxL ret R Z n0 as' Q h cells slots pc ls (.int j :: .ref a :: st) := by
  obtain ⟨c, A, q⟩ := A
  have e := Ary.inb q hj hv
  exact r_baload A e.1 e.2 hd K
theorem r_stI {a : Addr} {vs : List Int32} {j x : Int32} (i : Nat) (vs' : List Int32) (A : Ary Z h a .int vs) (hj : ¬ j < 0) (hi : j.toNatClampNeg = i) (hl : i < vs.length) (hvs : vs.set i x = vs') (ge : n0 ≤ a) (hd : D bytes pc .iastore 1 nx) (K : ∀ h', Wr h h' a i (.int x) → Ary Z h' a .int vs' → ORun l y bytes maxL ret R Z n0 as' Q h' cells slots nx ls st) : ORun l y bytes maxL ret R Z n0 as' Q h cells slots pc ls (.int x :: .int j :: .ref a :: st) := by
  have A' := A
  obtain ⟨c, A, q⟩ := A
  subst hi
  refine r_iastore A (fun r => ?_) ge hd fun h' W => K h' W (A'.set W hvs)
  rcases r with r | r
  · exact hj r
  · rw [Ary.size q] at r; omega
theorem r_stC {a : Addr} {vs : List Int32} {j x : Int32} (i : Nat) (vs' : List Int32) (A : Ary Z h a .char vs) (hj : ¬ j < 0) (hi : j.toNatClampNeg = i) (hl : i < vs.length) (hvs : vs.set i (nar .char x) = vs') (ge : n0 ≤ a) (hd : D bytes pc .castore 1 nx) (K : ∀ h', Wr h h' a i (.int (nar .char x)) → Ary Z h' a .char vs' → ORun l y bytes maxL ret R Z n0 as' Q h' cells slots nx ls st) : ORun l y bytes maxL ret R Z n0 as' Q h cells slots pc ls (.int x :: .int j :: .ref a :: st) := by
  have A' := A
  obtain ⟨c, A, q⟩ := A
  subst hi
  refine r_castore A (fun r => ?_) ge hd fun h' W => K h' W (A'.set W hvs)
  rcases r with r | r
  · exact hj r
  · rw [Ary.size q] at r; omega
theorem r_stB {a : Addr} {vs : List Int32} {j x : Int32} (i : Nat) (vs' : List Int32) (A : Ary Z h a .byte vs) (hj : ¬ j < 0) (hi : j.toNatClampNeg = i) (hl : i < vs.length) (hvs : vs.set i (nar .byte x) = vs') (ge : n0 ≤ a) (hd : D bytes pc .bastore 1 nx) (K : ∀ h', Wr h h' a i (.int (nar .byte x)) → Ary Z h' a .byte vs' → ORun l y bytes maxL ret R Z n0 as' Q h' cells slots nx ls st) : ORun l y bytes maxL ret R Z n0 as' Q h cells slots pc ls (.int x :: .int j :: .ref a :: st) := by
  have A' := A
  obtain ⟨c, A, q⟩ := A
  subst hi
  refine r_bastore A (fun r => ?_) ge hd fun h' W => K h' W (A'.set W hvs)
  rcases r with r | r
  · exact hj r
  · rw [Ary.size q] at r; omega
/-! calls -/
theorem r_initO {idx : Nat} {a : Addr} (w1 : (Cond.methodLink y.cls idx Lib.objectInit).before a0 Z = true) (w2 : (Cond.instanceMethod Lib.objectInit).before a0 Z = true) (w3 : (Cond.code Lib.objectInit ⟨#[0xb1]⟩ 1 none).before a0 Z = true) (hd : D bytes pc (.invokespecial idx) 3 nx) (hsz : ls.length = maxL) (hf : 1 ≤ R.frames) (W : Nat) (hW : (st.map fun v => v.category).sum = W) (hl : W + 12 ≤ R.locals)
    (K : ORun l y bytes maxL ret R Z n0 as' Q h cells slots nx ls st) : ORun l y bytes maxL ret R Z n0 as' Q h cells slots pc ls (.ref a :: st) := by
  obtain ⟨hd, rfl⟩ := hd
  refine K.law fun p e s m below meth c T locs hx hZ hby hml hown hnm X eT N => ?_
  obtain ⟨T', X', e', st'⟩ := initO X hx hZ hown w1 w2 w3 eT (g := mkF m pc ls.toArray (.ref a :: st)) rfl (by rw [hml]; simpa using hsz) rfl (hb hby hd) hf (W := W) (by show 2 * 0 + _ ≤ _; omega) hl
  exact ⟨T', locs, X', e', N, st'⟩
theorem ORun.call {y' : MethodName} {R' : Room} {Q' : Option Value → Heap → Prop} {rest : List Value}
    (hs : ∀ (p : Program) (e : Env) (s : State) (m : MethodId) (below : List Frame) (meth : Method) (c : Code) (T : State) (locs : List Loc), p.tables.exec = Jvm.exec → Z.Warmed39 s.vm → c.code = bytes → c.maxLocals = maxL → s.vm.findClass y.cls = some m.cls → Stand p l e R s m as' below meth c T locs cells slots → T.heap = h →
      ∃ (v : Option Value) (B : Pt), Stand p l e R s m as' below meth c B.U B.locs B.cells B.slots ∧ (∃ L, (Q' v B.U.heap ∧ Fr n0 L) ∧ B.locs = locs ++ L ∧ B.cells = cells + R'.cells ∧ B.slots = slots + R'.slots) ∧
        ∀ target, Steps p.tables e below (B.U.setTop (mkF m nx ls.toArray (v.toList ++ rest))) target → Steps p.tables e below (T.setTop (mkF m pc ls.toArray st)) target)
    (K : ∀ v h', Q' v h' → ORun l y bytes maxL ret R Z n0 as' Q h' (cells + R'.cells) (slots + R'.slots) nx ls (v.toList ++ rest)) : ORun l y bytes maxL ret R Z n0 as' Q h cells slots pc ls st :=
  fun p e s m below meth c T locs hx hZ hby hml hown hnm hret hlk X eT N => by
    obtain ⟨v, ⟨T', L', k', n'⟩, X', ⟨L, ⟨hq, N'⟩, q1, q2, q3⟩, st⟩ := hs p e s m below meth c T locs hx hZ hby hml hown X eT
    dsimp only [Pt.U, Pt.locs, Pt.cells, Pt.slots] at X' q1 q2 q3 st hq
    subst q1 q2 q3
    obtain ⟨U, o, h1, h2⟩ := K v _ hq p e s m below meth c T' _ hx hZ hby hml hown hnm hret hlk X' rfl (Fr.app N N')
    exact ⟨U, o, st _ h1, h2⟩
variable {b' : ByteArray} {mL' : Nat} {ret' : Option FieldType} {R' : Room} {Q' : Option Value → Heap → Prop} {y' : MethodName} {idx : Nat}
theorem r_static (argsL rest : List Value) (hst : st = argsL.reverse ++ rest) {ps : List FieldType} (hpd : parseMethodDescriptor y'.desc = some ⟨ps, ret'⟩) (hlen : argsL.length = ps.length)
    (w1 : (Cond.methodLink y.cls idx y').before a0 Z = true) (w2 : (Cond.static y').before a0 Z = true) (w3 : (Cond.initialized y'.cls).before a0 Z = true) (w4 : (Cond.code y' b' mL' ret').before a0 Z = true) (hy : y'.cls ≠ "java/lang/invoke/MethodHandle" ∧ y'.cls ≠ "java/lang/invoke/VarHandle")
    (C : Ct l y' b' mL' ret' [] R' Z n0 argsL.toArray h Q') (hd : D bytes pc (.invokestatic idx) 3 nx) (hsz : ls.length = maxL) (hf : R'.frames + 1 ≤ R.frames) (W : Nat) (hW : (rest.map fun v => v.category).sum = W) (hl : W + (mL' + 11) + R'.locals ≤ R.locals) (hc : cells + R'.cells ≤ R.cells) (hs : slots + R'.slots ≤ R.slots)
    (K : ∀ v h', Q' v h' → ORun l y bytes maxL ret R Z n0 as' Q h' (cells + R'.cells) (slots + R'.slots) nx ls (v.toList ++ rest)) : ORun l y bytes maxL ret R Z n0 as' Q h cells slots pc ls st := by
  obtain ⟨hd, rfl⟩ := hd
  subst hst
  refine ORun.call (y' := y') (fun p e s m below meth c T locs hx hZ hby hml hown X eT => ?_) K
  obtain ⟨v, _, B, -, X', hq, st'⟩ := Jvm.LawKit.callS X hx (y := y') hown (mvT hZ w1) (mvT hZ w2) (mvT hZ w3) (mvT hZ w4) hy (backOf (len := 3) (W := W) (Q := fun v h L => Q' v h ∧ Fr n0 L) C hZ w4 w3 hf hl) (g := mkF m pc ls.toArray (argsL.reverse ++ rest)) rfl (by rw [hml]; simpa using hsz) (argsL := argsL) (rest := rest) (lenOf hpd hlen) rfl (by show 2 * 0 + _ ≤ _; omega) (hb hby hd) (fun _ _ => ⟨rfl, eT, hc, hs⟩)
  exact ⟨v, B, X', hq, st'⟩
theorem r_special (argsL rest : List Value) (a : Addr) (hst : st = argsL.reverse ++ .ref a :: rest) {ps : List FieldType} (hpd : parseMethodDescriptor y'.desc = some ⟨ps, none⟩) (hlen : argsL.length = ps.length) (hn : y'.name = "<init>")
    (w1 : (Cond.methodLink y.cls idx y').before a0 Z = true) (w2 : (Cond.instanceMethod y').before a0 Z = true) (w3 : (Cond.initialized y'.cls).before a0 Z = true) (w4 : (Cond.code y' b' mL' none).before a0 Z = true) (hy : y'.cls ≠ "java/lang/invoke/MethodHandle" ∧ y'.cls ≠ "java/lang/invoke/VarHandle")
    (C : Ct l y' b' mL' none [] R' Z n0 (.ref a :: argsL).toArray h Q') (hd : D bytes pc (.invokespecial idx) 3 nx) (hsz : ls.length = maxL) (hf : R'.frames + 1 ≤ R.frames) (W : Nat) (hW : (rest.map fun v => v.category).sum = W) (hl : W + (mL' + 11) + R'.locals ≤ R.locals) (hc : cells + R'.cells ≤ R.cells) (hs : slots + R'.slots ≤ R.slots)
    (K : ∀ v h', Q' v h' → ORun l y bytes maxL ret R Z n0 as' Q h' (cells + R'.cells) (slots + R'.slots) nx ls (v.toList ++ rest)) : ORun l y bytes maxL ret R Z n0 as' Q h cells slots pc ls st := by
  obtain ⟨hd, rfl⟩ := hd
  subst hst
  refine ORun.call (y' := y') (fun p e s m below meth c T locs hx hZ hby hml hown X eT => ?_) K
  obtain ⟨v, _, B, -, X', hq, st'⟩ := X.specialBack hx (y := y') hn hown (mvT hZ w1) (mvT hZ w2) (mvT hZ w4) hy (backOf (len := 3) (W := W) (Q := fun v h L => Q' v h ∧ Fr n0 L) C hZ w4 w3 hf hl) (g := mkF m pc ls.toArray (argsL.reverse ++ .ref a :: rest)) rfl (by rw [hml]; simpa using hsz) (Steps.refl _) (a := a) (argsL := argsL) (rest := rest) (lenOf hpd hlen) rfl (by show 2 * 0 + _ ≤ _; omega) (hb hby hd) (fun _ _ => ⟨rfl, eT, hc, hs⟩)
  exact ⟨v, B, X', hq, fun t k => st'.trans k⟩
theorem r_virtual (argsL rest : List Value) (a : Addr) {C : String} (E : Exa Z h a C) (hst : st = argsL.reverse ++ .ref a :: rest) {ps : List FieldType} (hpd : parseMethodDescriptor y'.desc = some ⟨ps, ret'⟩) (hlen : argsL.length = ps.length)
    (w1 : (Cond.methodLink y.cls idx y').before a0 Z = true) (w2 : (Cond.declares y').before a0 Z = true) (ws : (Cond.selects C y' y').before a0 Z = true) (w5 : (Cond.instanceMethod y').before a0 Z = true) (w3 : (Cond.initialized y'.cls).before a0 Z = true) (w4 : (Cond.code y' b' mL' ret').before a0 Z = true) (hC : C = y'.cls) (hy : y'.cls ≠ "java/lang/invoke/MethodHandle" ∧ y'.cls ≠ "java/lang/invoke/VarHandle")
    (C' : Ct l y' b' mL' ret' [] R' Z n0 (.ref a :: argsL).toArray h Q') (hd : D bytes pc (.invokevirtual idx) 3 nx) (hsz : ls.length = maxL) (hf : R'.frames + 1 ≤ R.frames) (W : Nat) (hW : (rest.map fun v => v.category).sum = W) (hl : W + (mL' + 11) + R'.locals ≤ R.locals) (hc : cells + R'.cells ≤ R.cells) (hs : slots + R'.slots ≤ R.slots)
    (K : ∀ v h', Q' v h' → ORun l y bytes maxL ret R Z n0 as' Q h' (cells + R'.cells) (slots + R'.slots) nx ls (v.toList ++ rest)) : ORun l y bytes maxL ret R Z n0 as' Q h cells slots pc ls st := by
  obtain ⟨hd, rfl⟩ := hd
  subst hst hC
  refine ORun.call (y' := y') (fun p e s m below meth c T locs hx hZ hby hml hown X eT => ?_) K
  obtain ⟨cq, kq, q1, q2, q3⟩ := isOf hZ eT E
  obtain ⟨v, _, B, -, X', hq, st'⟩ := X.virtualBack hx (y := y') (z := y') hown (mvT hZ w1) (mvT hZ w2) (notFace_of_selects (args := #[]) (mvT hZ ws)) (mvT hZ ws) (mvT hZ w5) hy (backOf (len := 3) (W := W) (Q := fun v h L => Q' v h ∧ Fr n0 L) C' hZ w4 w3 hf hl) q1 q3 (g := mkF m pc ls.toArray (argsL.reverse ++ .ref a :: rest)) rfl (by rw [hml]; simpa using hsz) (Steps.refl _) (argsL := argsL) (rest := rest) (lenOf hpd hlen) rfl (by show 2 * 0 + _ ≤ _; omega) (hb hby hd) (fun _ _ => ⟨rfl, eT, hc, hs⟩)
  exact ⟨v, B, X', hq, fun t k => st'.trans k⟩
theorem r_staticP (argsL rest : List Value) (hst : st = argsL.reverse ++ rest) {ps : List FieldType} (hpd : parseMethodDescriptor y'.desc = some ⟨ps, ret'⟩) (hlen : argsL.length = ps.length)
    (w1 : (Cond.methodLink y.cls idx y').before a0 Z = true) (w2 : (Cond.static y').before a0 Z = true) (w3 : (Cond.initialized y'.cls).before a0 Z = true) (w4 : (Cond.code y' b' mL' ret').before a0 Z = true) (hy : y'.cls ≠ "java/lang/invoke/MethodHandle" ∧ y'.cls ≠ "java/lang/invoke/VarHandle") {w : Value}
    (C : Ct l y' b' mL' ret' [] R' Z n0 argsL.toArray h (fun v h' => v = some w ∧ h' = h)) (hd : D bytes pc (.invokestatic idx) 3 nx) (hsz : ls.length = maxL) (hf : R'.frames + 1 ≤ R.frames) (W : Nat) (hW : (rest.map fun v => v.category).sum = W) (hl : W + (mL' + 11) + R'.locals ≤ R.locals) (h0c : R'.cells = 0) (h0s : R'.slots = 0) (hc : cells ≤ R.cells) (hs : slots ≤ R.slots)
    (K : ORun l y bytes maxL ret R Z n0 as' Q h cells slots nx ls (w :: rest)) : ORun l y bytes maxL ret R Z n0 as' Q h cells slots pc ls st :=
  r_static argsL rest hst hpd hlen w1 w2 w3 w4 hy C hd hsz hf W hW hl (by omega) (by omega) fun v h' q => by
    obtain ⟨rfl, rfl⟩ := q
    rw [h0c, h0s]; exact K
theorem r_virtualP (argsL rest : List Value) (a : Addr) {C : String} (E : Exa Z h a C) (hst : st = argsL.reverse ++ .ref a :: rest) {ps : List FieldType} (hpd : parseMethodDescriptor y'.desc = some ⟨ps, ret'⟩) (hlen : argsL.length = ps.length)
    (w1 : (Cond.methodLink y.cls idx y').before a0 Z = true) (w2 : (Cond.declares y').before a0 Z = true) (ws : (Cond.selects C y' y').before a0 Z = true) (w5 : (Cond.instanceMethod y').before a0 Z = true) (w3 : (Cond.initialized y'.cls).before a0 Z = true) (w4 : (Cond.code y' b' mL' ret').before a0 Z = true) (hC : C = y'.cls) (hy : y'.cls ≠ "java/lang/invoke/MethodHandle" ∧ y'.cls ≠ "java/lang/invoke/VarHandle") {w : Value}
    (C' : Ct l y' b' mL' ret' [] R' Z n0 (.ref a :: argsL).toArray h (fun v h' => v = some w ∧ h' = h)) (hd : D bytes pc (.invokevirtual idx) 3 nx) (hsz : ls.length = maxL) (hf : R'.frames + 1 ≤ R.frames) (W : Nat) (hW : (rest.map fun v => v.category).sum = W) (hl : W + (mL' + 11) + R'.locals ≤ R.locals) (h0c : R'.cells = 0) (h0s : R'.slots = 0) (hc : cells ≤ R.cells) (hs : slots ≤ R.slots)
    (K : ORun l y bytes maxL ret R Z n0 as' Q h cells slots nx ls (w :: rest)) : ORun l y bytes maxL ret R Z n0 as' Q h cells slots pc ls st :=
  r_virtual argsL rest a E hst hpd hlen w1 w2 ws w5 w3 w4 hC hy C' hd hsz hf W hW hl (by omega) (by omega) fun v h' q => by
    obtain ⟨rfl, rfl⟩ := q
    rw [h0c, h0s]; exact K
theorem r_private (argsL rest : List Value) (a : Addr) {C : String} {kk : Nat} (E : Exa Z h a C) (hst : st = argsL.reverse ++ .ref a :: rest) {ps : List FieldType} (hpd : parseMethodDescriptor y'.desc = some ⟨ps, ret'⟩) (hlen : argsL.length = ps.length)
    (w1 : (Cond.methodLink y.cls idx y').before a0 Z = true) (w5 : (Cond.instanceMethod y').before a0 Z = true) (wp : (Cond.privateMethod y').before a0 Z = true) (wi : (Cond.instantiable y'.cls kk).before a0 Z = true) (w3 : (Cond.initialized y'.cls).before a0 Z = true) (w4 : (Cond.code y' b' mL' ret').before a0 Z = true) (hy : y'.cls ≠ "java/lang/invoke/MethodHandle" ∧ y'.cls ≠ "java/lang/invoke/VarHandle")
    (C' : Ct l y' b' mL' ret' [] R' Z n0 (.ref a :: argsL).toArray h Q') (hd : D bytes pc (.invokevirtual idx) 3 nx) (hsz : ls.length = maxL) (hf : R'.frames + 1 ≤ R.frames) (W : Nat) (hW : (rest.map fun v => v.category).sum = W) (hl : W + (mL' + 11) + R'.locals ≤ R.locals) (hc : cells + R'.cells ≤ R.cells) (hs : slots + R'.slots ≤ R.slots)
    (K : ∀ v h', Q' v h' → ORun l y bytes maxL ret R Z n0 as' Q h' (cells + R'.cells) (slots + R'.slots) nx ls (v.toList ++ rest)) : ORun l y bytes maxL ret R Z n0 as' Q h cells slots pc ls st := by
  obtain ⟨hd, rfl⟩ := hd
  subst hst
  refine ORun.call (y' := y') (fun p e s m below meth c T locs hx hZ hby hml hown X eT => ?_) K
  obtain ⟨cell, hcl, hob⟩ := E.cell
  have hi : (Cond.instanceMethod y').before as' s = true := mvT hZ w5
  have hp : s.PrivateAt y' := Cond.privateMethod_at (mvP hZ wp (args := as'))
  obtain ⟨cc, k, i1, i2, -, i4, -⟩ := Cond.instantiable_spec (show (Cond.instantiable y'.cls kk).before as' s = true from mvT hZ wi)
  have hni : k.isInterface = false := by simp only [Bool.or_eq_false_iff] at i4; exact i4.1
  have hsel : (Cond.selects y'.cls y' y').before as' s = true := selects_self_of_private i1 i2 hni hp hi hy
  obtain ⟨v, _, B, -, X', hq, st'⟩ := X.privateBack hx (y := y') hown (mvT hZ w1) hi hsel hp (mvT hZ w4) hy (backOf (len := 3) (W := W) (Q := fun v h L => Q' v h ∧ Fr n0 L) C' hZ w4 w3 hf hl) (g := mkF m pc ls.toArray (argsL.reverse ++ .ref a :: rest)) rfl (by rw [hml]; simpa using hsz) (Steps.refl _) (a := a) (by rw [eT]; exact hcl) hob (argsL := argsL) (rest := rest) (lenOf hpd hlen) rfl (by show 2 * 0 + _ ≤ _; omega) (hb hby hd) (fun _ _ => ⟨rfl, eT, hc, hs⟩)
  exact ⟨v, B, X', hq, fun t k => st'.trans k⟩
theorem r_cast {index : Nat} {K : String} {a : Addr} (w : (Cond.classLink y.cls index K).before a0 Z = true) (F : Ins Z h a K true) (hd : D bytes pc (.checkcast index) 3 nx) (K' : ORun l y bytes maxL ret R Z n0 as' Q h cells slots nx ls (.ref a :: st)) : ORun l y bytes maxL ret R Z n0 as' Q h cells slots pc ls (.ref a :: st) := by
  obtain ⟨hd, rfl⟩ := hd
  refine K'.law fun p e s m below meth c T locs hx hZ hby hml hown hnm X eT N => ?_
  obtain ⟨T', X', e', st'⟩ := castY X hx hZ hown w eT F (g := mkF m pc ls.toArray (.ref a :: st)) rfl rfl (hb hby hd)
  exact ⟨T', locs, X', e', N, st'⟩
theorem r_clone {index : Nat} {ad : String} {a : Addr} {cl : Cell} {ty : FieldType} (cap : Nat) (w1 : (Cond.methodLink y.cls index ⟨ad, "clone", "()Ljava/lang/Object;"⟩).before a0 Z = true) (w2 : (Cond.sameMethod ad "java/lang/Object" "clone" "()Ljava/lang/Object;").before a0 Z = true) (w3 : (Cond.native ⟨"java/lang/Object", "clone", "()Ljava/lang/Object;"⟩).before a0 Z = true)
    (w4 : (Cond.instanceMethod ⟨"java/lang/Object", "clone", "()Ljava/lang/Object;"⟩).before a0 Z = true) (w5 : (Cond.selects ad ⟨ad, "clone", "()Ljava/lang/Object;"⟩ ⟨"java/lang/Object", "clone", "()Ljava/lang/Object;"⟩).before a0 Z = true) (w6 : (Cond.castable ad "java/lang/Cloneable").before a0 Z = true)
    (A : Arr Z h a cl ty) (E : Exa Z h a ad) (F : FitC Z cl) (hd : D bytes pc (.invokevirtual index) 3 nx) (hsz : ls.length = maxL) (hf : 1 ≤ R.frames) (W : Nat) (hW : (st.map fun v => v.category).sum = W) (hl : W + 14 ≤ R.locals) (hcap : cl.slots.size ≤ cap) (hc : cells + 1 ≤ R.cells) (hs : slots + cap ≤ R.slots)
    (K : ∀ h', Ext h h' ∧ Arr Z h' h.size (cloneOf cl) ty ∧ Exa Z h' h.size ad → ORun l y bytes maxL ret R Z n0 as' Q h' (cells + 1) (slots + cap) nx ls (.ref h.size :: st)) : ORun l y bytes maxL ret R Z n0 as' Q h cells slots pc ls (.ref a :: st) := by
  obtain ⟨hd, rfl⟩ := hd
  refine ORun.lawK (fun p e s m below meth c T locs hx hZ hby hml hown hnm X eT N => ?_) K
  obtain ⟨T', h', X', rfl, E', A', Y', st'⟩ := cloneA X hx hZ hown w1 w2 w3 w4 w5 w6 eT A E F (g := mkF m pc ls.toArray (.ref a :: st)) rfl (by rw [hml]; simpa using hsz) rfl (hb hby hd) hf (W := W) (by show 2 * 0 + _ ≤ _; omega) hl hcap hc hs
  exact ⟨T', _, X', ⟨E', A', Y'⟩, N, st'⟩
end Logic
end Jvm.OwnKit
namespace Jvm.Pilot.@@N@@
open Jvm Jvm.ClassFile Sem Op Lib Jvm.Free Jvm.Stand Jvm.LawKit Jvm.RoadKit Jvm.OwnKit Bundle Jvm.Pilot.@@N@@.Jvm.D
theorem d8_0 : D prog_48_method_1_code 0 (.aload_n 0) 1 1 := ⟨by decide +kernel, rfl⟩
theorem d8_1 : D prog_48_method_1_code 1 (.invokespecial 1) 3 4 := ⟨by decide +kernel, rfl⟩
theorem d8_4 : D prog_48_method_1_code 4 (.aload_n 0) 1 5 := ⟨by decide +kernel, rfl⟩
theorem d8_5 : D prog_48_method_1_code 5 (.iconst 1) 1 6 := ⟨by decide +kernel, rfl⟩
theorem d8_6 : D prog_48_method_1_code 6 (.putfield 7) 3 9 := ⟨by decide +kernel, rfl⟩
theorem d8_9 : D prog_48_method_1_code 9 (.aload_n 0) 1 10 := ⟨by decide +kernel, rfl⟩
theorem d8_10 : D prog_48_method_1_code 10 (.iconst 1) 1 11 := ⟨by decide +kernel, rfl⟩
theorem d8_11 : D prog_48_method_1_code 11 (.putfield 13) 3 14 := ⟨by decide +kernel, rfl⟩
theorem d8_14 : D prog_48_method_1_code 14 (.aload_n 0) 1 15 := ⟨by decide +kernel, rfl⟩
theorem d8_15 : D prog_48_method_1_code 15 (.aload_n 1) 1 16 := ⟨by decide +kernel, rfl⟩
theorem d8_16 : D prog_48_method_1_code 16 (.putfield 16) 3 19 := ⟨by decide +kernel, rfl⟩
theorem d8_19 : D prog_48_method_1_code 19 (.return_) 1 20 := ⟨by decide +kernel, rfl⟩
theorem pn8 : plainFor (⟨"com/example/flowsieve/flowsieve/xml/Places", "<init>", "([C)V"⟩ : MethodName) = true := by first | exact plainFor_of_name (by first | (simp [plainName, overriddenIn]; done) | decide +kernel) | exact Jvm.Free.JP.mathPlain rfl (by decide +kernel) | decide +kernel
set_option maxRecDepth 65536 in
set_option maxHeartbeats 40000000 in
theorem ct8 {l : Launch} {Z : State} {a0 : Array Value} (hw : ∀ d ∈ tables_1, d.before a0 Z = true) {n0 : Nat} {h0 : Heap} (a1 : Addr) (a2 : Addr) (E1 : Exa Z h0 a1 "com/example/flowsieve/flowsieve/xml/Places") (F0 : Fld Z h0 a1 "com/example/flowsieve/flowsieve/xml/Places" "line" "I" (.int 0)) (F1 : Fld Z h0 a1 "com/example/flowsieve/flowsieve/xml/Places" "column" "I" (.int 0)) (F2 : Fld Z h0 a1 "com/example/flowsieve/flowsieve/xml/Places" "text" "[C" .null) (g1 : n0 ≤ a1) : Ct l ⟨"com/example/flowsieve/flowsieve/xml/Places", "<init>", "([C)V"⟩ prog_48_method_1_code 2 none [] ({ frames := 1, cells := 0, slots := 0, locals := 12 } : Room) Z n0 #[(.ref a1), (.ref a2)] h0 (fun v h => v = none ∧ Keep h0 h [a1] ∧ Exa Z h a1 "com/example/flowsieve/flowsieve/xml/Places" ∧ Fld Z h a1 "com/example/flowsieve/flowsieve/xml/Places" "line" "I" (.int 1) ∧ Fld Z h a1 "com/example/flowsieve/flowsieve/xml/Places" "column" "I" (.int 1) ∧ Fld Z h a1 "com/example/flowsieve/flowsieve/xml/Places" "text" "[C" (.ref a2)) := by
  refine Ct.of (ls := [.val (.ref a1), .val (.ref a2)]) pn8 (fun m => by first | (simp [entryFrame, mkF, argsToLocals, Value.category]; done) | rfl) ?_
  refine r_aloadN d8_0 rfl rfl ?_
  refine r_initO (hw _ (List.mem_of_getElem? (i := 42) rfl)) (hw _ (List.mem_of_getElem? (i := 24) rfl)) (hw _ (List.mem_of_getElem? (i := 25) rfl)) d8_1 rfl (by decide) 0 rfl (by decide) ?_
  refine r_aloadN d8_4 rfl rfl ?_
  refine r_iconst (1 : Int32) rfl d8_5 ?_
  refine r_putF (host := "") (Or.inl (hw _ (List.mem_of_getElem? (i := 43) rfl))) (F0) (E1) (Or.inl (hw _ (List.mem_of_getElem? (i := 44) rfl))) (hw _ (List.mem_of_getElem? (i := 37) rfl)) (ty := .int) (by decide) rfl rfl g1 d8_6 ?_
  intro h6 W6
  have K6 := Keep.wr (Keep.refl h0 [a1]) W6 (Or.inl (List.mem_of_getElem? (i := 0) rfl))
  have E6 := E1.wr W6
  have G6_0 := Fld.same W6 F0
  have G6_1 := Fld.other W6 F1 (Or.inr (slot_ne (Or.inl (hw _ (List.mem_of_getElem? (i := 46) rfl))) (Or.inl (hw _ (List.mem_of_getElem? (i := 44) rfl))) (by decide) (t := .int) (t' := .int) (by decide) (by decide)))
  have G6_2 := Fld.other W6 F2 (Or.inr (slot_ne (Or.inr (hw _ (List.mem_of_getElem? (i := 48) rfl))) (Or.inl (hw _ (List.mem_of_getElem? (i := 44) rfl))) (by decide) (t := (.array .char)) (t' := .int) (by decide) (by decide)))
  refine r_aloadN d8_9 rfl rfl ?_
  refine r_iconst (1 : Int32) rfl d8_10 ?_
  refine r_putF (host := "") (Or.inl (hw _ (List.mem_of_getElem? (i := 45) rfl))) (G6_1) (E6) (Or.inl (hw _ (List.mem_of_getElem? (i := 46) rfl))) (hw _ (List.mem_of_getElem? (i := 37) rfl)) (ty := .int) (by decide) rfl rfl g1 d8_11 ?_
  intro h11 W11
  have K11 := Keep.wr K6 W11 (Or.inl (List.mem_of_getElem? (i := 0) rfl))
  have E11 := E6.wr W11
  have G11_0 := Fld.other W11 G6_0 (Or.inr (slot_ne (Or.inl (hw _ (List.mem_of_getElem? (i := 44) rfl))) (Or.inl (hw _ (List.mem_of_getElem? (i := 46) rfl))) (by decide) (t := .int) (t' := .int) (by decide) (by decide)))
  have G11_1 := Fld.same W11 G6_1
  have G11_2 := Fld.other W11 G6_2 (Or.inr (slot_ne (Or.inr (hw _ (List.mem_of_getElem? (i := 48) rfl))) (Or.inl (hw _ (List.mem_of_getElem? (i := 46) rfl))) (by decide) (t := (.array .char)) (t' := .int) (by decide) (by decide)))
  refine r_aloadN d8_14 rfl rfl ?_
  refine r_aloadN d8_15 rfl rfl ?_
  refine r_putF (host := "") (Or.inl (hw _ (List.mem_of_getElem? (i := 47) rfl))) (G11_2) (E11) (Or.inr ⟨(hw _ (List.mem_of_getElem? (i := 48) rfl)), rfl, rfl⟩) (hw _ (List.mem_of_getElem? (i := 37) rfl)) (ty := (.array .char)) (by decide) rfl rfl g1 d8_16 ?_
  intro h16 W16
  have K16 := Keep.wr K11 W16 (Or.inl (List.mem_of_getElem? (i := 0) rfl))
  have E16 := E11.wr W16
  have G16_0 := Fld.other W16 G11_0 (Or.inr (slot_ne (Or.inl (hw _ (List.mem_of_getElem? (i := 44) rfl))) (Or.inr (hw _ (List.mem_of_getElem? (i := 48) rfl))) (by decide) (t := .int) (t' := (.array .char)) (by decide) (by decide)))
  have G16_1 := Fld.other W16 G11_1 (Or.inr (slot_ne (Or.inl (hw _ (List.mem_of_getElem? (i := 46) rfl))) (Or.inr (hw _ (List.mem_of_getElem? (i := 48) rfl))) (by decide) (t := .int) (t' := (.array .char)) (by decide) (by decide)))
  have G16_2 := Fld.same W16 G11_2
  exact r_ret d8_19 (by decide) (by decide) (⟨rfl, K16, E16, G16_0, G16_1, G16_2⟩)
theorem d6_0 : D prog_56_method_3_code 0 (.aload_n 0) 1 1 := ⟨by decide +kernel, rfl⟩
theorem d6_1 : D prog_56_method_3_code 1 (.invokespecial 24) 3 4 := ⟨by decide +kernel, rfl⟩
theorem d6_4 : D prog_56_method_3_code 4 (.aload_n 0) 1 5 := ⟨by decide +kernel, rfl⟩
theorem d6_5 : D prog_56_method_3_code 5 (.iconst 1) 1 6 := ⟨by decide +kernel, rfl⟩
theorem d6_6 : D prog_56_method_3_code 6 (.putfield 29) 3 9 := ⟨by decide +kernel, rfl⟩
theorem d6_9 : D prog_56_method_3_code 9 (.aload_n 0) 1 10 := ⟨by decide +kernel, rfl⟩
theorem d6_10 : D prog_56_method_3_code 10 (.aload_n 1) 1 11 := ⟨by decide +kernel, rfl⟩
theorem d6_11 : D prog_56_method_3_code 11 (.putfield 33) 3 14 := ⟨by decide +kernel, rfl⟩
theorem d6_14 : D prog_56_method_3_code 14 (.aload_n 0) 1 15 := ⟨by decide +kernel, rfl⟩
theorem d6_15 : D prog_56_method_3_code 15 (.iload_n 2) 1 16 := ⟨by decide +kernel, rfl⟩
theorem d6_16 : D prog_56_method_3_code 16 (.putfield 36) 3 19 := ⟨by decide +kernel, rfl⟩
theorem d6_19 : D prog_56_method_3_code 19 (.aload_n 0) 1 20 := ⟨by decide +kernel, rfl⟩
theorem d6_20 : D prog_56_method_3_code 20 (.aload_n 3) 1 21 := ⟨by decide +kernel, rfl⟩
theorem d6_21 : D prog_56_method_3_code 21 (.putfield 38) 3 24 := ⟨by decide +kernel, rfl⟩
theorem d6_24 : D prog_56_method_3_code 24 (.aload_n 0) 1 25 := ⟨by decide +kernel, rfl⟩
theorem d6_25 : D prog_56_method_3_code 25 (.iload 4) 2 27 := ⟨by decide +kernel, rfl⟩
theorem d6_27 : D prog_56_method_3_code 27 (.putfield 42) 3 30 := ⟨by decide +kernel, rfl⟩
theorem d6_30 : D prog_56_method_3_code 30 (.aload_n 0) 1 31 := ⟨by decide +kernel, rfl⟩
theorem d6_31 : D prog_56_method_3_code 31 (.new 45) 3 34 := ⟨by decide +kernel, rfl⟩
theorem d6_34 : D prog_56_method_3_code 34 (.dup) 1 35 := ⟨by decide +kernel, rfl⟩
theorem d6_35 : D prog_56_method_3_code 35 (.aload_n 1) 1 36 := ⟨by decide +kernel, rfl⟩
theorem d6_36 : D prog_56_method_3_code 36 (.invokespecial 47) 3 39 := ⟨by decide +kernel, rfl⟩
theorem d6_39 : D prog_56_method_3_code 39 (.putfield 50) 3 42 := ⟨by decide +kernel, rfl⟩
theorem d6_42 : D prog_56_method_3_code 42 (.return_) 1 43 := ⟨by decide +kernel, rfl⟩
theorem pd6_0 : parseMethodDescriptor "([C)V" = some ⟨[(.array .char)], none⟩ := by decide +kernel
theorem pn6 : plainFor (⟨"com/example/flowsieve/flowsieve/xml/XmlScanner", "<init>", "([CILjava/lang/String;I)V"⟩ : MethodName) = true := by first | exact plainFor_of_name (by first | (simp [plainName, overriddenIn]; done) | decide +kernel) | exact Jvm.Free.JP.mathPlain rfl (by decide +kernel) | decide +kernel
set_option maxRecDepth 65536 in
set_option maxHeartbeats 40000000 in
theorem ct6 {l : Launch} {Z : State} {a0 : Array Value} (hw : ∀ d ∈ tables_1, d.before a0 Z = true) {n0 : Nat} {h0 : Heap} (a1 a2 : Addr) (p3 : Int32) (E1 : Exa Z h0 a1 "com/example/flowsieve/flowsieve/xml/XmlScanner") (F_line : Fld Z h0 a1 "com/example/flowsieve/flowsieve/xml/XmlScanner" "line" "I" (.int 0)) (F_text : Fld Z h0 a1 "com/example/flowsieve/flowsieve/xml/XmlScanner" "text" "[C" .null) (F_length : Fld Z h0 a1 "com/example/flowsieve/flowsieve/xml/XmlScanner" "length" "I" (.int 0)) (F_undecodable : Fld Z h0 a1 "com/example/flowsieve/flowsieve/xml/XmlScanner" "undecodable" "Ljava/lang/String;" .null) (F_undecodableIndex : Fld Z h0 a1 "com/example/flowsieve/flowsieve/xml/XmlScanner" "undecodableIndex" "I" (.int 0)) (F_places : Fld Z h0 a1 "com/example/flowsieve/flowsieve/xml/XmlScanner" "places" "Lcom/example/flowsieve/flowsieve/xml/Places;" .null) (F_at : Fld Z h0 a1 "com/example/flowsieve/flowsieve/xml/XmlScanner" "at" "I" (.int 0)) (F_lineStart : Fld Z h0 a1 "com/example/flowsieve/flowsieve/xml/XmlScanner" "lineStart" "I" (.int 0)) (g1 : n0 ≤ a1) (hz : n0 ≤ h0.size) : Ct l ⟨"com/example/flowsieve/flowsieve/xml/XmlScanner", "<init>", "([CILjava/lang/String;I)V"⟩ prog_56_method_3_code 5 none [] ({ frames := 2, cells := 1, slots := 4, locals := 40 } : Room) Z n0 #[(.ref a1), (.ref a2), (.int p3), .null, (.int p3)] h0 (fun v h => v = none ∧ Keep h0 h [a1] ∧ Exa Z h a1 "com/example/flowsieve/flowsieve/xml/XmlScanner" ∧ Fld Z h a1 "com/example/flowsieve/flowsieve/xml/XmlScanner" "line" "I" (.int 1) ∧ Fld Z h a1 "com/example/flowsieve/flowsieve/xml/XmlScanner" "text" "[C" (.ref a2) ∧ Fld Z h a1 "com/example/flowsieve/flowsieve/xml/XmlScanner" "length" "I" (.int p3) ∧ Fld Z h a1 "com/example/flowsieve/flowsieve/xml/XmlScanner" "at" "I" (.int 0) ∧ Fld Z h a1 "com/example/flowsieve/flowsieve/xml/XmlScanner" "lineStart" "I" (.int 0)) := by
  refine Ct.of (ls := [.val (.ref a1), .val (.ref a2), .val (.int p3), .val .null, .val (.int p3)]) pn6 (fun m => by first | (simp [entryFrame, mkF, argsToLocals, Value.category]; done) | rfl) ?_
  refine r_aloadN d6_0 rfl rfl ?_
  refine r_initO (hw _ (List.mem_of_getElem? (i := 23) rfl)) (hw _ (List.mem_of_getElem? (i := 24) rfl)) (hw _ (List.mem_of_getElem? (i := 25) rfl)) d6_1 rfl (by decide) 0 rfl (by decide) ?_
  refine r_aloadN d6_4 rfl rfl ?_
  refine r_iconst (1 : Int32) rfl d6_5 ?_
  refine r_putF (host := "") (Or.inl (hw _ (List.mem_of_getElem? (i := 26) rfl))) (F_line) (E1) (Or.inl (hw _ (List.mem_of_getElem? (i := 27) rfl))) (hw _ (List.mem_of_getElem? (i := 15) rfl)) (ty := .int) (by decide) rfl rfl g1 d6_6 ?_
  intro h6 W6
  have K6 := Keep.wr (Keep.refl h0 [a1]) W6 (Or.inl (List.mem_of_getElem? (i := 0) rfl))
  have E6 := E1.wr W6
  have G6_line := Fld.same W6 F_line
  have G6_text := Fld.other W6 F_text (Or.inr (slot_ne (Or.inr (hw _ (List.mem_of_getElem? (i := 29) rfl))) (Or.inl (hw _ (List.mem_of_getElem? (i := 27) rfl))) (by decide) (t := (.array .char)) (t' := .int) (by decide) (by decide)))
  have G6_length := Fld.other W6 F_length (Or.inr (slot_ne (Or.inr (hw _ (List.mem_of_getElem? (i := 31) rfl))) (Or.inl (hw _ (List.mem_of_getElem? (i := 27) rfl))) (by decide) (t := .int) (t' := .int) (by decide) (by decide)))
  have G6_undecodable := Fld.other W6 F_undecodable (Or.inr (slot_ne (Or.inr (hw _ (List.mem_of_getElem? (i := 33) rfl))) (Or.inl (hw _ (List.mem_of_getElem? (i := 27) rfl))) (by decide) (t := (.object "java/lang/String")) (t' := .int) (by decide) (by decide)))
  have G6_undecodableIndex := Fld.other W6 F_undecodableIndex (Or.inr (slot_ne (Or.inr (hw _ (List.mem_of_getElem? (i := 35) rfl))) (Or.inl (hw _ (List.mem_of_getElem? (i := 27) rfl))) (by decide) (t := .int) (t' := .int) (by decide) (by decide)))
  have G6_places := Fld.other W6 F_places (Or.inr (slot_ne (Or.inr (hw _ (List.mem_of_getElem? (i := 50) rfl))) (Or.inl (hw _ (List.mem_of_getElem? (i := 27) rfl))) (by decide) (t := (.object "com/example/flowsieve/flowsieve/xml/Places")) (t' := .int) (by decide) (by decide)))
  have G6_at := Fld.other W6 F_at (Or.inr (slot_ne (Or.inl (hw _ (List.mem_of_getElem? (i := 52) rfl))) (Or.inl (hw _ (List.mem_of_getElem? (i := 27) rfl))) (by decide) (t := .int) (t' := .int) (by decide) (by decide)))
  have G6_lineStart := Fld.other W6 F_lineStart (Or.inr (slot_ne (Or.inl (hw _ (List.mem_of_getElem? (i := 55) rfl))) (Or.inl (hw _ (List.mem_of_getElem? (i := 27) rfl))) (by decide) (t := .int) (t' := .int) (by decide) (by decide)))
  refine r_aloadN d6_9 rfl rfl ?_
  refine r_aloadN d6_10 rfl rfl ?_
  refine r_putF (host := "") (Or.inl (hw _ (List.mem_of_getElem? (i := 28) rfl))) (G6_text) (E6) (Or.inr ⟨(hw _ (List.mem_of_getElem? (i := 29) rfl)), rfl, rfl⟩) (hw _ (List.mem_of_getElem? (i := 15) rfl)) (ty := (.array .char)) (by decide) rfl rfl g1 d6_11 ?_
  intro h11 W11
  have K11 := Keep.wr K6 W11 (Or.inl (List.mem_of_getElem? (i := 0) rfl))
  have E11 := E6.wr W11
  have G11_line := Fld.other W11 G6_line (Or.inr (slot_ne (Or.inl (hw _ (List.mem_of_getElem? (i := 27) rfl))) (Or.inr (hw _ (List.mem_of_getElem? (i := 29) rfl))) (by decide) (t := .int) (t' := (.array .char)) (by decide) (by decide)))
  have G11_text := Fld.same W11 G6_text
  have G11_length := Fld.other W11 G6_length (Or.inr (slot_ne (Or.inr (hw _ (List.mem_of_getElem? (i := 31) rfl))) (Or.inr (hw _ (List.mem_of_getElem? (i := 29) rfl))) (by decide) (t := .int) (t' := (.array .char)) (by decide) (by decide)))
  have G11_undecodable := Fld.other W11 G6_undecodable (Or.inr (slot_ne (Or.inr (hw _ (List.mem_of_getElem? (i := 33) rfl))) (Or.inr (hw _ (List.mem_of_getElem? (i := 29) rfl))) (by decide) (t := (.object "java/lang/String")) (t' := (.array .char)) (by decide) (by decide)))
  have G11_undecodableIndex := Fld.other W11 G6_undecodableIndex (Or.inr (slot_ne (Or.inr (hw _ (List.mem_of_getElem? (i := 35) rfl))) (Or.inr (hw _ (List.mem_of_getElem? (i := 29) rfl))) (by decide) (t := .int) (t' := (.array .char)) (by decide) (by decide)))
  have G11_places := Fld.other W11 G6_places (Or.inr (slot_ne (Or.inr (hw _ (List.mem_of_getElem? (i := 50) rfl))) (Or.inr (hw _ (List.mem_of_getElem? (i := 29) rfl))) (by decide) (t := (.object "com/example/flowsieve/flowsieve/xml/Places")) (t' := (.array .char)) (by decide) (by decide)))
  have G11_at := Fld.other W11 G6_at (Or.inr (slot_ne (Or.inl (hw _ (List.mem_of_getElem? (i := 52) rfl))) (Or.inr (hw _ (List.mem_of_getElem? (i := 29) rfl))) (by decide) (t := .int) (t' := (.array .char)) (by decide) (by decide)))
  have G11_lineStart := Fld.other W11 G6_lineStart (Or.inr (slot_ne (Or.inl (hw _ (List.mem_of_getElem? (i := 55) rfl))) (Or.inr (hw _ (List.mem_of_getElem? (i := 29) rfl))) (by decide) (t := .int) (t' := (.array .char)) (by decide) (by decide)))
  refine r_aloadN d6_14 rfl rfl ?_
  refine r_iloadN d6_15 rfl ?_
  refine r_putF (host := "") (Or.inl (hw _ (List.mem_of_getElem? (i := 30) rfl))) (G11_length) (E11) (Or.inr ⟨(hw _ (List.mem_of_getElem? (i := 31) rfl)), rfl, rfl⟩) (hw _ (List.mem_of_getElem? (i := 15) rfl)) (ty := .int) (by decide) rfl rfl g1 d6_16 ?_
  intro h16 W16
  have K16 := Keep.wr K11 W16 (Or.inl (List.mem_of_getElem? (i := 0) rfl))
  have E16 := E11.wr W16
  have G16_line := Fld.other W16 G11_line (Or.inr (slot_ne (Or.inl (hw _ (List.mem_of_getElem? (i := 27) rfl))) (Or.inr (hw _ (List.mem_of_getElem? (i := 31) rfl))) (by decide) (t := .int) (t' := .int) (by decide) (by decide)))
  have G16_text := Fld.other W16 G11_text (Or.inr (slot_ne (Or.inr (hw _ (List.mem_of_getElem? (i := 29) rfl))) (Or.inr (hw _ (List.mem_of_getElem? (i := 31) rfl))) (by decide) (t := (.array .char)) (t' := .int) (by decide) (by decide)))
  have G16_length := Fld.same W16 G11_length
  have G16_undecodable := Fld.other W16 G11_undecodable (Or.inr (slot_ne (Or.inr (hw _ (List.mem_of_getElem? (i := 33) rfl))) (Or.inr (hw _ (List.mem_of_getElem? (i := 31) rfl))) (by decide) (t := (.object "java/lang/String")) (t' := .int) (by decide) (by decide)))
  have G16_undecodableIndex := Fld.other W16 G11_undecodableIndex (Or.inr (slot_ne (Or.inr (hw _ (List.mem_of_getElem? (i := 35) rfl))) (Or.inr (hw _ (List.mem_of_getElem? (i := 31) rfl))) (by decide) (t := .int) (t' := .int) (by decide) (by decide)))
  have G16_places := Fld.other W16 G11_places (Or.inr (slot_ne (Or.inr (hw _ (List.mem_of_getElem? (i := 50) rfl))) (Or.inr (hw _ (List.mem_of_getElem? (i := 31) rfl))) (by decide) (t := (.object "com/example/flowsieve/flowsieve/xml/Places")) (t' := .int) (by decide) (by decide)))
  have G16_at := Fld.other W16 G11_at (Or.inr (slot_ne (Or.inl (hw _ (List.mem_of_getElem? (i := 52) rfl))) (Or.inr (hw _ (List.mem_of_getElem? (i := 31) rfl))) (by decide) (t := .int) (t' := .int) (by decide) (by decide)))
  have G16_lineStart := Fld.other W16 G11_lineStart (Or.inr (slot_ne (Or.inl (hw _ (List.mem_of_getElem? (i := 55) rfl))) (Or.inr (hw _ (List.mem_of_getElem? (i := 31) rfl))) (by decide) (t := .int) (t' := .int) (by decide) (by decide)))
  refine r_aloadN d6_19 rfl rfl ?_
  refine r_aloadN d6_20 rfl rfl ?_
  refine r_putF (host := "") (Or.inl (hw _ (List.mem_of_getElem? (i := 32) rfl))) (G16_undecodable) (E16) (Or.inr ⟨(hw _ (List.mem_of_getElem? (i := 33) rfl)), rfl, rfl⟩) (hw _ (List.mem_of_getElem? (i := 15) rfl)) (ty := (.object "java/lang/String")) (by decide) rfl rfl g1 d6_21 ?_
  intro h21 W21
  have K21 := Keep.wr K16 W21 (Or.inl (List.mem_of_getElem? (i := 0) rfl))
  have E21 := E16.wr W21
  have G21_line := Fld.other W21 G16_line (Or.inr (slot_ne (Or.inl (hw _ (List.mem_of_getElem? (i := 27) rfl))) (Or.inr (hw _ (List.mem_of_getElem? (i := 33) rfl))) (by decide) (t := .int) (t' := (.object "java/lang/String")) (by decide) (by decide)))
  have G21_text := Fld.other W21 G16_text (Or.inr (slot_ne (Or.inr (hw _ (List.mem_of_getElem? (i := 29) rfl))) (Or.inr (hw _ (List.mem_of_getElem? (i := 33) rfl))) (by decide) (t := (.array .char)) (t' := (.object "java/lang/String")) (by decide) (by decide)))
  have G21_length := Fld.other W21 G16_length (Or.inr (slot_ne (Or.inr (hw _ (List.mem_of_getElem? (i := 31) rfl))) (Or.inr (hw _ (List.mem_of_getElem? (i := 33) rfl))) (by decide) (t := .int) (t' := (.object "java/lang/String")) (by decide) (by decide)))
  have G21_undecodable := Fld.same W21 G16_undecodable
  have G21_undecodableIndex := Fld.other W21 G16_undecodableIndex (Or.inr (slot_ne (Or.inr (hw _ (List.mem_of_getElem? (i := 35) rfl))) (Or.inr (hw _ (List.mem_of_getElem? (i := 33) rfl))) (by decide) (t := .int) (t' := (.object "java/lang/String")) (by decide) (by decide)))
  have G21_places := Fld.other W21 G16_places (Or.inr (slot_ne (Or.inr (hw _ (List.mem_of_getElem? (i := 50) rfl))) (Or.inr (hw _ (List.mem_of_getElem? (i := 33) rfl))) (by decide) (t := (.object "com/example/flowsieve/flowsieve/xml/Places")) (t' := (.object "java/lang/String")) (by decide) (by decide)))
  have G21_at := Fld.other W21 G16_at (Or.inr (slot_ne (Or.inl (hw _ (List.mem_of_getElem? (i := 52) rfl))) (Or.inr (hw _ (List.mem_of_getElem? (i := 33) rfl))) (by decide) (t := .int) (t' := (.object "java/lang/String")) (by decide) (by decide)))
  have G21_lineStart := Fld.other W21 G16_lineStart (Or.inr (slot_ne (Or.inl (hw _ (List.mem_of_getElem? (i := 55) rfl))) (Or.inr (hw _ (List.mem_of_getElem? (i := 33) rfl))) (by decide) (t := .int) (t' := (.object "java/lang/String")) (by decide) (by decide)))
  refine r_aloadN d6_24 rfl rfl ?_
  refine r_iload d6_25 rfl ?_
  refine r_putF (host := "") (Or.inl (hw _ (List.mem_of_getElem? (i := 34) rfl))) (G21_undecodableIndex) (E21) (Or.inr ⟨(hw _ (List.mem_of_getElem? (i := 35) rfl)), rfl, rfl⟩) (hw _ (List.mem_of_getElem? (i := 15) rfl)) (ty := .int) (by decide) rfl rfl g1 d6_27 ?_
  intro h27 W27
  have K27 := Keep.wr K21 W27 (Or.inl (List.mem_of_getElem? (i := 0) rfl))
  have E27 := E21.wr W27
  have G27_line := Fld.other W27 G21_line (Or.inr (slot_ne (Or.inl (hw _ (List.mem_of_getElem? (i := 27) rfl))) (Or.inr (hw _ (List.mem_of_getElem? (i := 35) rfl))) (by decide) (t := .int) (t' := .int) (by decide) (by decide)))
  have G27_text := Fld.other W27 G21_text (Or.inr (slot_ne (Or.inr (hw _ (List.mem_of_getElem? (i := 29) rfl))) (Or.inr (hw _ (List.mem_of_getElem? (i := 35) rfl))) (by decide) (t := (.array .char)) (t' := .int) (by decide) (by decide)))
  have G27_length := Fld.other W27 G21_length (Or.inr (slot_ne (Or.inr (hw _ (List.mem_of_getElem? (i := 31) rfl))) (Or.inr (hw _ (List.mem_of_getElem? (i := 35) rfl))) (by decide) (t := .int) (t' := .int) (by decide) (by decide)))
  have G27_undecodable := Fld.other W27 G21_undecodable (Or.inr (slot_ne (Or.inr (hw _ (List.mem_of_getElem? (i := 33) rfl))) (Or.inr (hw _ (List.mem_of_getElem? (i := 35) rfl))) (by decide) (t := (.object "java/lang/String")) (t' := .int) (by decide) (by decide)))
  have G27_undecodableIndex := Fld.same W27 G21_undecodableIndex
  have G27_places := Fld.other W27 G21_places (Or.inr (slot_ne (Or.inr (hw _ (List.mem_of_getElem? (i := 50) rfl))) (Or.inr (hw _ (List.mem_of_getElem? (i := 35) rfl))) (by decide) (t := (.object "com/example/flowsieve/flowsieve/xml/Places")) (t' := .int) (by decide) (by decide)))
  have G27_at := Fld.other W27 G21_at (Or.inr (slot_ne (Or.inl (hw _ (List.mem_of_getElem? (i := 52) rfl))) (Or.inr (hw _ (List.mem_of_getElem? (i := 35) rfl))) (by decide) (t := .int) (t' := .int) (by decide) (by decide)))
  have G27_lineStart := Fld.other W27 G21_lineStart (Or.inr (slot_ne (Or.inl (hw _ (List.mem_of_getElem? (i := 55) rfl))) (Or.inr (hw _ (List.mem_of_getElem? (i := 35) rfl))) (by decide) (t := .int) (t' := .int) (by decide) (by decide)))
  refine r_aloadN d6_30 rfl rfl ?_
  refine r_new (hw _ (List.mem_of_getElem? (i := 36) rfl)) (hw _ (List.mem_of_getElem? (i := 37) rfl)) (hw _ (List.mem_of_getElem? (i := 38) rfl)) d6_31 (by decide) (by decide) ?_
  rintro hn31 ⟨E31, A31, D31⟩
  obtain ⟨b31, g31⟩ : ∃ z, z = h27.size := ⟨_, rfl⟩
  rw [← g31] at A31 ⊢
  simp only [← g31] at D31
  have F31_line : Fld Z hn31 b31 "com/example/flowsieve/flowsieve/xml/Places" "line" "I" (.int (0 : Int32)) := D31 (Or.inl (hw _ (List.mem_of_getElem? (i := 44) rfl))) (ty := .int) (by decide)
  have F31_column : Fld Z hn31 b31 "com/example/flowsieve/flowsieve/xml/Places" "column" "I" (.int (0 : Int32)) := D31 (Or.inl (hw _ (List.mem_of_getElem? (i := 46) rfl))) (ty := .int) (by decide)
  have F31_text : Fld Z hn31 b31 "com/example/flowsieve/flowsieve/xml/Places" "text" "[C" .null := D31 (Or.inr (hw _ (List.mem_of_getElem? (i := 48) rfl))) (ty := (.array .char)) (by decide)
  show ORun _ _ _ _ _ _ _ _ _ _ hn31 1 4 34 [.val (.ref a1), .val (.ref a2), .val (.int p3), .val .null, .val (.int p3)] [(.ref b31), (.ref a1)]
  refine r_dup d6_34 rfl ?_
  refine r_aloadN d6_35 rfl rfl ?_
  have ge31 : n0 ≤ b31 := by rw [g31]; exact Nat.le_trans hz K27.1
  have ne31 : a1 ≠ b31 := by rw [g31]; exact Nat.ne_of_lt E27.lt
  refine r_special [(.ref a2)] [(.ref b31), (.ref a1)] b31 rfl pd6_0 rfl rfl (hw _ (List.mem_of_getElem? (i := 39) rfl)) (hw _ (List.mem_of_getElem? (i := 40) rfl)) (hw _ (List.mem_of_getElem? (i := 38) rfl)) (hw _ (List.mem_of_getElem? (i := 41) rfl)) (by decide) (R' := ({ frames := 1, cells := 0, slots := 0, locals := 12 } : Room)) (ct8 hw b31 a2 A31 F31_line F31_column F31_text ge31) d6_36 rfl (by decide) 2 rfl (by decide) (by decide) (by decide) ?_
  rintro _ h36 ⟨rfl, K36, X36, -⟩
  have KA36 : Keep h0 h36 [a1] := (K27.ext E31).trans K36 (allS (Or.inr (by rw [g31]; exact K27.1)) all0)
  have EE36 := (E27.ext E31).keep K36
  have H36_line := (G27_line.ext E31).keep K36 (ninS ne31 nin0)
  have H36_text := (G27_text.ext E31).keep K36 (ninS ne31 nin0)
  have H36_length := (G27_length.ext E31).keep K36 (ninS ne31 nin0)
  have H36_undecodable := (G27_undecodable.ext E31).keep K36 (ninS ne31 nin0)
  have H36_undecodableIndex := (G27_undecodableIndex.ext E31).keep K36 (ninS ne31 nin0)
  have H36_places := (G27_places.ext E31).keep K36 (ninS ne31 nin0)
  have H36_at := (G27_at.ext E31).keep K36 (ninS ne31 nin0)
  have H36_lineStart := (G27_lineStart.ext E31).keep K36 (ninS ne31 nin0)
  show ORun _ _ _ _ _ _ _ _ _ _ h36 1 4 39 [.val (.ref a1), .val (.ref a2), .val (.int p3), .val .null, .val (.int p3)] [(.ref b31), (.ref a1)]
  refine r_putF (host := "") (Or.inl (hw _ (List.mem_of_getElem? (i := 49) rfl))) (H36_places) (EE36) (Or.inr ⟨(hw _ (List.mem_of_getElem? (i := 50) rfl)), rfl, rfl⟩) (hw _ (List.mem_of_getElem? (i := 15) rfl)) (ty := (.object "com/example/flowsieve/flowsieve/xml/Places")) (by decide) rfl rfl g1 d6_39 ?_
  intro h39 W39
  have K39 := Keep.wr KA36 W39 (Or.inl (List.mem_of_getElem? (i := 0) rfl))
  have E39 := EE36.wr W39
  have G39_line := Fld.other W39 H36_line (Or.inr (slot_ne (Or.inl (hw _ (List.mem_of_getElem? (i := 27) rfl))) (Or.inr (hw _ (List.mem_of_getElem? (i := 50) rfl))) (by decide) (t := .int) (t' := (.object "com/example/flowsieve/flowsieve/xml/Places")) (by decide) (by decide)))
  have G39_text := Fld.other W39 H36_text (Or.inr (slot_ne (Or.inr (hw _ (List.mem_of_getElem? (i := 29) rfl))) (Or.inr (hw _ (List.mem_of_getElem? (i := 50) rfl))) (by decide) (t := (.array .char)) (t' := (.object "com/example/flowsieve/flowsieve/xml/Places")) (by decide) (by decide)))
  have G39_length := Fld.other W39 H36_length (Or.inr (slot_ne (Or.inr (hw _ (List.mem_of_getElem? (i := 31) rfl))) (Or.inr (hw _ (List.mem_of_getElem? (i := 50) rfl))) (by decide) (t := .int) (t' := (.object "com/example/flowsieve/flowsieve/xml/Places")) (by decide) (by decide)))
  have G39_undecodable := Fld.other W39 H36_undecodable (Or.inr (slot_ne (Or.inr (hw _ (List.mem_of_getElem? (i := 33) rfl))) (Or.inr (hw _ (List.mem_of_getElem? (i := 50) rfl))) (by decide) (t := (.object "java/lang/String")) (t' := (.object "com/example/flowsieve/flowsieve/xml/Places")) (by decide) (by decide)))
  have G39_undecodableIndex := Fld.other W39 H36_undecodableIndex (Or.inr (slot_ne (Or.inr (hw _ (List.mem_of_getElem? (i := 35) rfl))) (Or.inr (hw _ (List.mem_of_getElem? (i := 50) rfl))) (by decide) (t := .int) (t' := (.object "com/example/flowsieve/flowsieve/xml/Places")) (by decide) (by decide)))
  have G39_places := Fld.same W39 H36_places
  have G39_at := Fld.other W39 H36_at (Or.inr (slot_ne (Or.inl (hw _ (List.mem_of_getElem? (i := 52) rfl))) (Or.inr (hw _ (List.mem_of_getElem? (i := 50) rfl))) (by decide) (t := .int) (t' := (.object "com/example/flowsieve/flowsieve/xml/Places")) (by decide) (by decide)))
  have G39_lineStart := Fld.other W39 H36_lineStart (Or.inr (slot_ne (Or.inl (hw _ (List.mem_of_getElem? (i := 55) rfl))) (Or.inr (hw _ (List.mem_of_getElem? (i := 50) rfl))) (by decide) (t := .int) (t' := (.object "com/example/flowsieve/flowsieve/xml/Places")) (by decide) (by decide)))
  exact r_ret d6_42 (by decide) (by decide) (⟨rfl, K39, E39, G39_line, G39_text, G39_length, G39_at, G39_lineStart⟩)
theorem d5_0 : D prog_56_method_1_code 0 (.aload_n 0) 1 1 := ⟨by decide +kernel, rfl⟩
theorem d5_1 : D prog_56_method_1_code 1 (.aload_n 1) 1 2 := ⟨by decide +kernel, rfl⟩
theorem d5_2 : D prog_56_method_1_code 2 (.iload_n 2) 1 3 := ⟨by decide +kernel, rfl⟩
theorem d5_3 : D prog_56_method_1_code 3 (.aconst_null) 1 4 := ⟨by decide +kernel, rfl⟩
theorem d5_4 : D prog_56_method_1_code 4 (.iload_n 2) 1 5 := ⟨by decide +kernel, rfl⟩
theorem d5_5 : D prog_56_method_1_code 5 (.invokespecial 1) 3 8 := ⟨by decide +kernel, rfl⟩
theorem d5_8 : D prog_56_method_1_code 8 (.return_) 1 9 := ⟨by decide +kernel, rfl⟩
theorem pd5_0 : parseMethodDescriptor "([CILjava/lang/String;I)V" = some ⟨[(.array .char), .int, (.object "java/lang/String"), .int], none⟩ := by decide +kernel
theorem pn5 : plainFor (⟨"com/example/flowsieve/flowsieve/xml/XmlScanner", "<init>", "([CI)V"⟩ : MethodName) = true := by first | exact plainFor_of_name (by first | (simp [plainName, overriddenIn]; done) | decide +kernel) | exact Jvm.Free.JP.mathPlain rfl (by decide +kernel) | decide +kernel
set_option maxRecDepth 65536 in
set_option maxHeartbeats 40000000 in
theorem ct5 {l : Launch} {Z : State} {a0 : Array Value} (hw : ∀ d ∈ tables_1, d.before a0 Z = true) {n0 : Nat} {h0 : Heap} (a1 a2 : Addr) (p3 : Int32) (E1 : Exa Z h0 a1 "com/example/flowsieve/flowsieve/xml/XmlScanner") (F_line : Fld Z h0 a1 "com/example/flowsieve/flowsieve/xml/XmlScanner" "line" "I" (.int 0)) (F_text : Fld Z h0 a1 "com/example/flowsieve/flowsieve/xml/XmlScanner" "text" "[C" .null) (F_length : Fld Z h0 a1 "com/example/flowsieve/flowsieve/xml/XmlScanner" "length" "I" (.int 0)) (F_undecodable : Fld Z h0 a1 "com/example/flowsieve/flowsieve/xml/XmlScanner" "undecodable" "Ljava/lang/String;" .null) (F_undecodableIndex : Fld Z h0 a1 "com/example/flowsieve/flowsieve/xml/XmlScanner" "undecodableIndex" "I" (.int 0)) (F_places : Fld Z h0 a1 "com/example/flowsieve/flowsieve/xml/XmlScanner" "places" "Lcom/example/flowsieve/flowsieve/xml/Places;" .null) (F_at : Fld Z h0 a1 "com/example/flowsieve/flowsieve/xml/XmlScanner" "at" "I" (.int 0)) (F_lineStart : Fld Z h0 a1 "com/example/flowsieve/flowsieve/xml/XmlScanner" "lineStart" "I" (.int 0)) (g1 : n0 ≤ a1) (hz : n0 ≤ h0.size) : Ct l ⟨"com/example/flowsieve/flowsieve/xml/XmlScanner", "<init>", "([CI)V"⟩ prog_56_method_1_code 3 none [] ({ frames := 3, cells := 1, slots := 4, locals := 56 } : Room) Z n0 #[(.ref a1), (.ref a2), (.int p3)] h0 (fun v h => v = none ∧ Keep h0 h [a1] ∧ Exa Z h a1 "com/example/flowsieve/flowsieve/xml/XmlScanner" ∧ Fld Z h a1 "com/example/flowsieve/flowsieve/xml/XmlScanner" "line" "I" (.int 1) ∧ Fld Z h a1 "com/example/flowsieve/flowsieve/xml/XmlScanner" "text" "[C" (.ref a2) ∧ Fld Z h a1 "com/example/flowsieve/flowsieve/xml/XmlScanner" "length" "I" (.int p3) ∧ Fld Z h a1 "com/example/flowsieve/flowsieve/xml/XmlScanner" "at" "I" (.int 0) ∧ Fld Z h a1 "com/example/flowsieve/flowsieve/xml/XmlScanner" "lineStart" "I" (.int 0)) := by
  refine Ct.of (ls := [.val (.ref a1), .val (.ref a2), .val (.int p3)]) pn5 (fun m => by first | (simp [entryFrame, mkF, argsToLocals, Value.category]; done) | rfl) ?_
  refine r_aloadN d5_0 rfl rfl ?_
  refine r_aloadN d5_1 rfl rfl ?_
  refine r_iloadN d5_2 rfl ?_
  refine r_null d5_3 ?_
  refine r_iloadN d5_4 rfl ?_
  refine r_special [(.ref a2), (.int p3), .null, (.int p3)] [] a1 rfl pd5_0 rfl rfl (hw _ (List.mem_of_getElem? (i := 20) rfl)) (hw _ (List.mem_of_getElem? (i := 21) rfl)) (hw _ (List.mem_of_getElem? (i := 16) rfl)) (hw _ (List.mem_of_getElem? (i := 22) rfl)) (by decide) (R' := ({ frames := 2, cells := 1, slots := 4, locals := 40 } : Room)) (ct6 hw a1 a2 p3 E1 F_line F_text F_length F_undecodable F_undecodableIndex F_places F_at F_lineStart g1 hz) d5_5 rfl (by decide) 0 rfl (by decide) (by decide) (by decide) ?_
  rintro _ h5 ⟨rfl, q5⟩
  show ORun _ _ _ _ _ _ _ _ _ _ h5 1 4 8 [.val (.ref a1), .val (.ref a2), .val (.int p3)] []
  exact r_ret d5_8 (by decide) (by decide) (⟨rfl, q5⟩)
theorem d1_0 : D method_2_code 0 (.iload_n 0) 1 1 := ⟨by decide +kernel, rfl⟩
theorem d1_1 : D method_2_code 1 (.bipush 7) 2 3 := ⟨by decide +kernel, rfl⟩
theorem d1_3 : D method_2_code 3 (.iand) 1 4 := ⟨by decide +kernel, rfl⟩
theorem d1_4 : D method_2_code 4 (.istore_n 1) 1 5 := ⟨by decide +kernel, rfl⟩
theorem d1_5 : D method_2_code 5 (.iload_n 1) 1 6 := ⟨by decide +kernel, rfl⟩
theorem d1_6 : DB method_2_code 6 (.ifCond .ne) 6 9 12 := ⟨by decide +kernel, rfl, by decide, by decide⟩
theorem d1_9 : D method_2_code 9 (.bipush 32) 2 11 := ⟨by decide +kernel, rfl⟩
theorem d1_11 : D method_2_code 11 (.ireturn) 1 12 := ⟨by decide +kernel, rfl⟩
theorem d1_12 : D method_2_code 12 (.iload_n 1) 1 13 := ⟨by decide +kernel, rfl⟩
theorem d1_13 : D method_2_code 13 (.iconst 1) 1 14 := ⟨by decide +kernel, rfl⟩
theorem d1_14 : DB method_2_code 14 (.if_icmp .ne) 6 17 20 := ⟨by decide +kernel, rfl, by decide, by decide⟩
theorem d1_17 : D method_2_code 17 (.bipush 9) 2 19 := ⟨by decide +kernel, rfl⟩
theorem d1_19 : D method_2_code 19 (.ireturn) 1 20 := ⟨by decide +kernel, rfl⟩
theorem d1_20 : D method_2_code 20 (.iload_n 1) 1 21 := ⟨by decide +kernel, rfl⟩
theorem d1_21 : D method_2_code 21 (.iconst 2) 1 22 := ⟨by decide +kernel, rfl⟩
theorem d1_22 : DB method_2_code 22 (.if_icmp .ne) 6 25 28 := ⟨by decide +kernel, rfl, by decide, by decide⟩
theorem d1_25 : D method_2_code 25 (.bipush 10) 2 27 := ⟨by decide +kernel, rfl⟩
theorem d1_27 : D method_2_code 27 (.ireturn) 1 28 := ⟨by decide +kernel, rfl⟩
theorem d1_28 : D method_2_code 28 (.iload_n 1) 1 29 := ⟨by decide +kernel, rfl⟩
theorem d1_29 : D method_2_code 29 (.iconst 3) 1 30 := ⟨by decide +kernel, rfl⟩
theorem d1_30 : DB method_2_code 30 (.if_icmp .ne) 6 33 36 := ⟨by decide +kernel, rfl, by decide, by decide⟩
theorem d1_33 : D method_2_code 33 (.bipush 13) 2 35 := ⟨by decide +kernel, rfl⟩
theorem d1_35 : D method_2_code 35 (.ireturn) 1 36 := ⟨by decide +kernel, rfl⟩
theorem d1_36 : D method_2_code 36 (.iload_n 0) 1 37 := ⟨by decide +kernel, rfl⟩
theorem d1_37 : D method_2_code 37 (.iconst 3) 1 38 := ⟨by decide +kernel, rfl⟩
theorem d1_38 : D method_2_code 38 (.iushr) 1 39 := ⟨by decide +kernel, rfl⟩
theorem d1_39 : D method_2_code 39 (.i2c) 1 40 := ⟨by decide +kernel, rfl⟩
theorem d1_40 : D method_2_code 40 (.ireturn) 1 41 := ⟨by decide +kernel, rfl⟩
theorem pn1 : plainFor (⟨"com/example/flowsieve/flowsieve/xml/XmlScannerSkipSpacePinLaw", "draw", "(I)C"⟩ : MethodName) = true := by first | exact plainFor_of_name (by first | (simp [plainName, overriddenIn]; done) | decide +kernel) | exact Jvm.Free.JP.mathPlain rfl (by decide +kernel) | decide +kernel
set_option maxRecDepth 65536 in
set_option maxHeartbeats 40000000 in
theorem ct1 {l : Launch} {Z : State} {a0 : Array Value} (hw : ∀ d ∈ tables_1, d.before a0 Z = true) {n0 : Nat} {h0 : Heap} (p1 : Int32) : Ct l ⟨"com/example/flowsieve/flowsieve/xml/XmlScannerSkipSpacePinLaw", "draw", "(I)C"⟩ method_2_code 2 (some .char) [] ({ frames := 0, cells := 0, slots := 0, locals := 0 } : Room) Z n0 #[(.int p1)] h0 (fun v h => ∃ c : Int32, v = some (.int c) ∧ h = h0) := by
  refine Ct.of (ls := [.val (.int p1), .unset]) pn1 (fun m => by first | (simp [entryFrame, mkF, argsToLocals, Value.category]; done) | rfl) ?_
  refine r_iloadN d1_0 rfl ?_
  refine r_bipush (7 : Int32) rfl d1_1 ?_
  refine r_iand d1_3 ?_
  refine r_istoreN d1_4 [.val (.int p1), .val (.int (p1 &&& (7 : Int32)))] rfl ?_
  refine r_iloadN d1_5 rfl ?_
  refine r_if_ne d1_6 (fun hc6 => ?_) (fun hc6 => ?_)
  · refine r_iloadN d1_12 rfl ?_
    refine r_iconst (1 : Int32) rfl d1_13 ?_
    refine r_icmp_ne d1_14 (fun hc14 => ?_) (fun hc14 => ?_)
    · refine r_iloadN d1_20 rfl ?_
      refine r_iconst (2 : Int32) rfl d1_21 ?_
      refine r_icmp_ne d1_22 (fun hc22 => ?_) (fun hc22 => ?_)
      · refine r_iloadN d1_28 rfl ?_
        refine r_iconst (3 : Int32) rfl d1_29 ?_
        refine r_icmp_ne d1_30 (fun hc30 => ?_) (fun hc30 => ?_)
        · refine r_iloadN d1_36 rfl ?_
          refine r_iconst (3 : Int32) rfl d1_37 ?_
          refine r_iushr d1_38 ?_
          refine r_i2c d1_39 ?_
          exact r_nret (t := .char) (by simp) d1_40 (by decide) (by decide) (⟨_, rfl, rfl⟩)
        · refine r_bipush (13 : Int32) rfl d1_33 ?_
          exact r_nret (t := .char) (by simp) d1_35 (by decide) (by decide) (⟨_, rfl, rfl⟩)
      · refine r_bipush (10 : Int32) rfl d1_25 ?_
        exact r_nret (t := .char) (by simp) d1_27 (by decide) (by decide) (⟨_, rfl, rfl⟩)
    · refine r_bipush (9 : Int32) rfl d1_17 ?_
      exact r_nret (t := .char) (by simp) d1_19 (by decide) (by decide) (⟨_, rfl, rfl⟩)
  · refine r_bipush (32 : Int32) rfl d1_9 ?_
    exact r_nret (t := .char) (by simp) d1_11 (by decide) (by decide) (⟨_, rfl, rfl⟩)
def own_ws (c : Int32) : Prop := c = 32 ∨ c = 9 ∨ c = 10 ∨ c = 13
instance (c : Int32) : Decidable (own_ws c) := inferInstanceAs (Decidable (c = 32 ∨ c = 9 ∨ c = 10 ∨ c = 13))
def own_at (vs : List Int32) (i : Nat) : Int32 := (vs[i]?).getD 0
def own_step (vs : List Int32) (n e : Nat) : Nat := if e < n ∧ own_ws (own_at vs e) then e + 1 else e
def own_nl (vs : List Int32) (i : Nat) : Prop := own_at vs i = 13 ∨ (own_at vs i = 10 ∧ (i = 0 ∨ ¬ own_at vs (i - 1) = 13))
instance (vs : List Int32) (i : Nat) : Decidable (own_nl vs i) := inferInstanceAs (Decidable (own_at vs i = 13 ∨ (own_at vs i = 10 ∧ (i = 0 ∨ ¬ own_at vs (i - 1) = 13))))
def own_cnt (vs : List Int32) (a e i : Nat) : Int32 := if (a ≤ i ∧ i < e) ∧ own_nl vs i then 1 else 0
def own_end (vs : List Int32) (a e i : Nat) : Int32 := if (a ≤ i ∧ i < e) ∧ (own_at vs i = 10 ∨ own_at vs i = 13) then 1 else 0
def own_line (vs : List Int32) (a e : Nat) (l0 : Int32) : Int32 := l0 + own_cnt vs a e 0 + own_cnt vs a e 1 + own_cnt vs a e 2 + own_cnt vs a e 3
def own_ls (vs : List Int32) (a e : Nat) (s0 : Int32) : Int32 := if own_end vs a e 3 = 0 then (if own_end vs a e 2 = 0 then (if own_end vs a e 1 = 0 then (if own_end vs a e 0 = 0 then s0 else 1) else 2) else 3) else 4
theorem own_get {vs : List Int32} {i : Nat} (h : i < vs.length) : vs[i]? = some (own_at vs i) := by
  unfold own_at; rw [List.getElem?_eq_getElem h]; rfl
theorem own_pred {i : Nat} (h : ¬ i = 0) : i.toInt32 - (1 : Int32) = (i - 1).toInt32 := n32_sub (a := i) (b := 1) (by omega)
theorem d10_0 : D method_3_code 0 (.iload_n 0) 1 1 := ⟨by decide +kernel, rfl⟩
theorem d10_1 : D method_3_code 1 (.bipush 32) 2 3 := ⟨by decide +kernel, rfl⟩
theorem d10_3 : DB method_3_code 3 (.if_icmp .eq) 21 6 24 := ⟨by decide +kernel, rfl, by decide, by decide⟩
theorem d10_6 : D method_3_code 6 (.iload_n 0) 1 7 := ⟨by decide +kernel, rfl⟩
theorem d10_7 : D method_3_code 7 (.bipush 9) 2 9 := ⟨by decide +kernel, rfl⟩
theorem d10_9 : DB method_3_code 9 (.if_icmp .eq) 15 12 24 := ⟨by decide +kernel, rfl, by decide, by decide⟩
theorem d10_12 : D method_3_code 12 (.iload_n 0) 1 13 := ⟨by decide +kernel, rfl⟩
theorem d10_13 : D method_3_code 13 (.bipush 10) 2 15 := ⟨by decide +kernel, rfl⟩
theorem d10_15 : DB method_3_code 15 (.if_icmp .eq) 9 18 24 := ⟨by decide +kernel, rfl, by decide, by decide⟩
theorem d10_18 : D method_3_code 18 (.iload_n 0) 1 19 := ⟨by decide +kernel, rfl⟩
theorem d10_19 : D method_3_code 19 (.bipush 13) 2 21 := ⟨by decide +kernel, rfl⟩
theorem d10_21 : DB method_3_code 21 (.if_icmp .ne) 7 24 28 := ⟨by decide +kernel, rfl, by decide, by decide⟩
theorem d10_24 : D method_3_code 24 (.iconst 1) 1 25 := ⟨by decide +kernel, rfl⟩
theorem d10_25 : DB method_3_code 25 (.goto) 4 28 29 := ⟨by decide +kernel, rfl, by decide, by decide⟩
theorem d10_28 : D method_3_code 28 (.iconst 0) 1 29 := ⟨by decide +kernel, rfl⟩
theorem d10_29 : D method_3_code 29 (.ireturn) 1 30 := ⟨by decide +kernel, rfl⟩
theorem pn10 : plainFor (⟨"com/example/flowsieve/flowsieve/xml/XmlScannerSkipSpacePinLaw", "ws", "(C)Z"⟩ : MethodName) = true := by first | exact plainFor_of_name (by first | (simp [plainName, overriddenIn]; done) | decide +kernel) | exact Jvm.Free.JP.mathPlain rfl (by decide +kernel) | decide +kernel
set_option maxRecDepth 65536 in
set_option maxHeartbeats 40000000 in
theorem ct10 {l : Launch} {Z : State} {a0 : Array Value} (hw : ∀ d ∈ tables_1, d.before a0 Z = true) {n0 : Nat} {h0 : Heap} (p1 : Int32) : Ct l ⟨"com/example/flowsieve/flowsieve/xml/XmlScannerSkipSpacePinLaw", "ws", "(C)Z"⟩ method_3_code 1 (some .boolean) [] ({ frames := 0, cells := 0, slots := 0, locals := 0 } : Room) Z n0 #[(.int p1)] h0 (fun v h => v = some (.int (if own_ws p1 then 1 else 0)) ∧ h = h0) := by
  refine Ct.of (ls := [.val (.int p1)]) pn10 (fun m => by first | (simp [entryFrame, mkF, argsToLocals, Value.category]; done) | rfl) ?_
  refine r_iloadN d10_0 rfl ?_
  refine r_bipush (32 : Int32) rfl d10_1 ?_
  refine r_icmp_eq d10_3 (fun hc3 => ?_) (fun hc3 => ?_)
  · refine r_iconst (1 : Int32) rfl d10_24 ?_
    refine r_goto d10_25 ?_
    refine r_nret (t := .boolean) (by simp) d10_29 (by decide) (by decide) ?_
    refine ⟨?_, rfl⟩
    simp [own_ws, nar, hc3]
  · refine r_iloadN d10_6 rfl ?_
    refine r_bipush (9 : Int32) rfl d10_7 ?_
    refine r_icmp_eq d10_9 (fun hc9 => ?_) (fun hc9 => ?_)
    · refine r_iconst (1 : Int32) rfl d10_24 ?_
      refine r_goto d10_25 ?_
      refine r_nret (t := .boolean) (by simp) d10_29 (by decide) (by decide) ?_
      refine ⟨?_, rfl⟩
      simp [own_ws, nar, hc3, hc9]
    · refine r_iloadN d10_12 rfl ?_
      refine r_bipush (10 : Int32) rfl d10_13 ?_
      refine r_icmp_eq d10_15 (fun hc15 => ?_) (fun hc15 => ?_)
      · refine r_iconst (1 : Int32) rfl d10_24 ?_
        refine r_goto d10_25 ?_
        refine r_nret (t := .boolean) (by simp) d10_29 (by decide) (by decide) ?_
        refine ⟨?_, rfl⟩
        simp [own_ws, nar, hc3, hc9, hc15]
      · refine r_iloadN d10_18 rfl ?_
        refine r_bipush (13 : Int32) rfl d10_19 ?_
        refine r_icmp_ne d10_21 (fun hc21 => ?_) (fun hc21 => ?_)
        · refine r_iconst (0 : Int32) rfl d10_28 ?_
          refine r_nret (t := .boolean) (by simp) d10_29 (by decide) (by decide) ?_
          refine ⟨?_, rfl⟩
          simp [own_ws, nar, hc3, hc9, hc15, hc21]
        · refine r_iconst (1 : Int32) rfl d10_24 ?_
          refine r_goto d10_25 ?_
          refine r_nret (t := .boolean) (by simp) d10_29 (by decide) (by decide) ?_
          refine ⟨?_, rfl⟩
          simp [own_ws, nar, hc3, hc9, hc15, hc21]
theorem d2_0 : D method_4_code 0 (.iload_n 1) 1 1 := ⟨by decide +kernel, rfl⟩
theorem d2_1 : D method_4_code 1 (.iload_n 2) 1 2 := ⟨by decide +kernel, rfl⟩
theorem d2_2 : DB method_4_code 2 (.if_icmp .ge) 16 5 18 := ⟨by decide +kernel, rfl, by decide, by decide⟩
theorem d2_5 : D method_4_code 5 (.aload_n 0) 1 6 := ⟨by decide +kernel, rfl⟩
theorem d2_6 : D method_4_code 6 (.iload_n 1) 1 7 := ⟨by decide +kernel, rfl⟩
theorem d2_7 : D method_4_code 7 (.caload) 1 8 := ⟨by decide +kernel, rfl⟩
theorem d2_8 : D method_4_code 8 (.invokestatic 7) 3 11 := ⟨by decide +kernel, rfl⟩
theorem d2_11 : DB method_4_code 11 (.ifCond .eq) 7 14 18 := ⟨by decide +kernel, rfl, by decide, by decide⟩
theorem d2_14 : D method_4_code 14 (.iload_n 1) 1 15 := ⟨by decide +kernel, rfl⟩
theorem d2_15 : D method_4_code 15 (.iconst 1) 1 16 := ⟨by decide +kernel, rfl⟩
theorem d2_16 : D method_4_code 16 (.iadd) 1 17 := ⟨by decide +kernel, rfl⟩
theorem d2_17 : D method_4_code 17 (.ireturn) 1 18 := ⟨by decide +kernel, rfl⟩
theorem d2_18 : D method_4_code 18 (.iload_n 1) 1 19 := ⟨by decide +kernel, rfl⟩
theorem d2_19 : D method_4_code 19 (.ireturn) 1 20 := ⟨by decide +kernel, rfl⟩
theorem pd2_0 : parseMethodDescriptor "(C)Z" = some ⟨[.char], some .boolean⟩ := by decide +kernel
theorem pn2 : plainFor (⟨"com/example/flowsieve/flowsieve/xml/XmlScannerSkipSpacePinLaw", "step", "([CII)I"⟩ : MethodName) = true := by first | exact plainFor_of_name (by first | (simp [plainName, overriddenIn]; done) | decide +kernel) | exact Jvm.Free.JP.mathPlain rfl (by decide +kernel) | decide +kernel
set_option maxRecDepth 65536 in
set_option maxHeartbeats 40000000 in
theorem ct2 {l : Launch} {Z : State} {a0 : Array Value} (hw : ∀ d ∈ tables_1, d.before a0 Z = true) {n0 : Nat} {h0 : Heap} (a1 : Addr) (e n : Nat) (vs : List Int32) (A : Ary Z h0 a1 .char vs) (hl : vs.length = 4) (he : e ≤ 4) (hn : n ≤ 4) : Ct l ⟨"com/example/flowsieve/flowsieve/xml/XmlScannerSkipSpacePinLaw", "step", "([CII)I"⟩ method_4_code 3 (some .int) [] ({ frames := 1, cells := 0, slots := 0, locals := 12 } : Room) Z n0 #[(.ref a1), (.int e.toInt32), (.int n.toInt32)] h0 (fun v h => v = some (.int (own_step vs n e).toInt32) ∧ h = h0) := by
  refine Ct.of (ls := [.val (.ref a1), .val (.int e.toInt32), .val (.int n.toInt32)]) pn2 (fun m => by first | (simp [entryFrame, mkF, argsToLocals, Value.category]; done) | rfl) ?_
  refine r_iloadN d2_0 rfl ?_
  refine r_iloadN d2_1 rfl ?_
  refine r_icmp_ge d2_2 (fun hc2 => ?_) (fun hc2 => ?_)
  · refine r_iloadN d2_18 rfl ?_
    refine r_iret d2_19 (by decide) (by decide) ?_
    have h2 : ¬ e < n := fun q => hc2 ((n32_lt (by omega) (by omega)).mpr q)
    exact ⟨by rw [own_step, if_neg (fun q => h2 q.1)], rfl⟩
  · have h2 := (n32_lt (a := e) (b := n) (by omega) (by omega)).mp hc2
    refine r_aloadN d2_5 rfl rfl ?_
    refine r_iloadN d2_6 rfl ?_
    refine r_ldC (own_at vs e) A (n32_nn (by omega)) (by rw [n32_clamp (by omega)]; exact own_get (by omega)) d2_7 ?_
    refine r_staticP [(.int (own_at vs e))] [] rfl pd2_0 rfl (hw _ (List.mem_of_getElem? (i := 62) rfl)) (hw _ (List.mem_of_getElem? (i := 63) rfl)) (hw _ (List.mem_of_getElem? (i := 3) rfl)) (hw _ (List.mem_of_getElem? (i := 64) rfl)) (by decide) (w := (.int (if own_ws (own_at vs e) then 1 else 0))) (R' := ({ frames := 0, cells := 0, slots := 0, locals := 0 } : Room)) (ct10 hw (own_at vs e)) d2_8 rfl (by decide) 0 rfl (by decide) rfl rfl (by decide) (by decide) ?_
    refine r_if_eq d2_11 (fun hc11 => ?_) (fun hc11 => ?_)
    · refine r_iloadN d2_18 rfl ?_
      refine r_iret d2_19 (by decide) (by decide) ?_
      have h3 : ¬ own_ws (own_at vs e) := fun q => by rw [if_pos q] at hc11; exact absurd hc11 (by decide)
      exact ⟨by rw [own_step, if_neg (fun q => h3 q.2)], rfl⟩
    · refine r_iloadN d2_14 rfl ?_
      refine r_iconst (1 : Int32) rfl d2_15 ?_
      refine r_iadd d2_16 ?_
      refine r_iret d2_17 (by decide) (by decide) ?_
      have h3 : own_ws (own_at vs e) := Decidable.byContradiction fun q => hc11 (if_neg q)
      exact ⟨by rw [own_step, if_pos ⟨h2, h3⟩, ← n32_add]; rfl, rfl⟩
theorem d3_0 : D method_5_code 0 (.iload_n 1) 1 1 := ⟨by decide +kernel, rfl⟩
theorem d3_1 : D method_5_code 1 (.iload_n 2) 1 2 := ⟨by decide +kernel, rfl⟩
theorem d3_2 : DB method_5_code 2 (.if_icmp .lt) 8 5 10 := ⟨by decide +kernel, rfl, by decide, by decide⟩
theorem d3_5 : D method_5_code 5 (.iload_n 1) 1 6 := ⟨by decide +kernel, rfl⟩
theorem d3_6 : D method_5_code 6 (.iload_n 3) 1 7 := ⟨by decide +kernel, rfl⟩
theorem d3_7 : DB method_5_code 7 (.if_icmp .lt) 5 10 12 := ⟨by decide +kernel, rfl, by decide, by decide⟩
theorem d3_10 : D method_5_code 10 (.iconst 0) 1 11 := ⟨by decide +kernel, rfl⟩
theorem d3_11 : D method_5_code 11 (.ireturn) 1 12 := ⟨by decide +kernel, rfl⟩
theorem d3_12 : D method_5_code 12 (.aload_n 0) 1 13 := ⟨by decide +kernel, rfl⟩
theorem d3_13 : D method_5_code 13 (.iload_n 1) 1 14 := ⟨by decide +kernel, rfl⟩
theorem d3_14 : D method_5_code 14 (.caload) 1 15 := ⟨by decide +kernel, rfl⟩
theorem d3_15 : D method_5_code 15 (.bipush 13) 2 17 := ⟨by decide +kernel, rfl⟩
theorem d3_17 : DB method_5_code 17 (.if_icmp .ne) 5 20 22 := ⟨by decide +kernel, rfl, by decide, by decide⟩
theorem d3_20 : D method_5_code 20 (.iconst 1) 1 21 := ⟨by decide +kernel, rfl⟩
theorem d3_21 : D method_5_code 21 (.ireturn) 1 22 := ⟨by decide +kernel, rfl⟩
theorem d3_22 : D method_5_code 22 (.aload_n 0) 1 23 := ⟨by decide +kernel, rfl⟩
theorem d3_23 : D method_5_code 23 (.iload_n 1) 1 24 := ⟨by decide +kernel, rfl⟩
theorem d3_24 : D method_5_code 24 (.caload) 1 25 := ⟨by decide +kernel, rfl⟩
theorem d3_25 : D method_5_code 25 (.bipush 10) 2 27 := ⟨by decide +kernel, rfl⟩
theorem d3_27 : DB method_5_code 27 (.if_icmp .ne) 19 30 46 := ⟨by decide +kernel, rfl, by decide, by decide⟩
theorem d3_30 : D method_5_code 30 (.iload_n 1) 1 31 := ⟨by decide +kernel, rfl⟩
theorem d3_31 : DB method_5_code 31 (.ifCond .eq) 13 34 44 := ⟨by decide +kernel, rfl, by decide, by decide⟩
theorem d3_34 : D method_5_code 34 (.aload_n 0) 1 35 := ⟨by decide +kernel, rfl⟩
theorem d3_35 : D method_5_code 35 (.iload_n 1) 1 36 := ⟨by decide +kernel, rfl⟩
theorem d3_36 : D method_5_code 36 (.iconst 1) 1 37 := ⟨by decide +kernel, rfl⟩
theorem d3_37 : D method_5_code 37 (.isub) 1 38 := ⟨by decide +kernel, rfl⟩
theorem d3_38 : D method_5_code 38 (.caload) 1 39 := ⟨by decide +kernel, rfl⟩
theorem d3_39 : D method_5_code 39 (.bipush 13) 2 41 := ⟨by decide +kernel, rfl⟩
theorem d3_41 : DB method_5_code 41 (.if_icmp .eq) 5 44 46 := ⟨by decide +kernel, rfl, by decide, by decide⟩
theorem d3_44 : D method_5_code 44 (.iconst 1) 1 45 := ⟨by decide +kernel, rfl⟩
theorem d3_45 : D method_5_code 45 (.ireturn) 1 46 := ⟨by decide +kernel, rfl⟩
theorem d3_46 : D method_5_code 46 (.iconst 0) 1 47 := ⟨by decide +kernel, rfl⟩
theorem d3_47 : D method_5_code 47 (.ireturn) 1 48 := ⟨by decide +kernel, rfl⟩
theorem pn3 : plainFor (⟨"com/example/flowsieve/flowsieve/xml/XmlScannerSkipSpacePinLaw", "counts", "([CIII)I"⟩ : MethodName) = true := by first | exact plainFor_of_name (by first | (simp [plainName, overriddenIn]; done) | decide +kernel) | exact Jvm.Free.JP.mathPlain rfl (by decide +kernel) | decide +kernel
set_option maxRecDepth 65536 in
set_option maxHeartbeats 40000000 in
theorem ct3 {l : Launch} {Z : State} {a0 : Array Value} (hw : ∀ d ∈ tables_1, d.before a0 Z = true) {n0 : Nat} {h0 : Heap} (a1 : Addr) (i a e : Nat) (vs : List Int32) (A : Ary Z h0 a1 .char vs) (hl : vs.length = 4) (hi : i < 4) (ha : a ≤ 4) (he : e ≤ 4) : Ct l ⟨"com/example/flowsieve/flowsieve/xml/XmlScannerSkipSpacePinLaw", "counts", "([CIII)I"⟩ method_5_code 4 (some .int) [] ({ frames := 0, cells := 0, slots := 0, locals := 0 } : Room) Z n0 #[(.ref a1), (.int i.toInt32), (.int a.toInt32), (.int e.toInt32)] h0 (fun v h => v = some (.int (own_cnt vs a e i)) ∧ h = h0) := by
  refine Ct.of (ls := [.val (.ref a1), .val (.int i.toInt32), .val (.int a.toInt32), .val (.int e.toInt32)]) pn3 (fun m => by first | (simp [entryFrame, mkF, argsToLocals, Value.category]; done) | rfl) ?_
  refine r_iloadN d3_0 rfl ?_
  refine r_iloadN d3_1 rfl ?_
  refine r_icmp_lt d3_2 (fun hc2 => ?_) (fun hc2 => ?_)
  · refine r_iconst (0 : Int32) rfl d3_10 ?_
    refine r_iret d3_11 (by decide) (by decide) ?_
    have h2 : ¬ a ≤ i := fun q => absurd ((n32_lt (a := i) (b := a) (by omega) (by omega)).mp hc2) (by omega)
    exact ⟨by rw [own_cnt, if_neg (fun q => h2 q.1.1)], rfl⟩
  · have h2 : a ≤ i := Nat.le_of_not_lt fun q => hc2 ((n32_lt (by omega) (by omega)).mpr q)
    refine r_iloadN d3_5 rfl ?_
    refine r_iloadN d3_6 rfl ?_
    refine r_icmp_lt d3_7 (fun hc7 => ?_) (fun hc7 => ?_)
    · have h7 : i < e := (n32_lt (a := i) (b := e) (by omega) (by omega)).mp hc7
      refine r_aloadN d3_12 rfl rfl ?_
      refine r_iloadN d3_13 rfl ?_
      refine r_ldC (own_at vs i) A (n32_nn (by omega)) (by rw [n32_clamp (by omega)]; exact own_get (by omega)) d3_14 ?_
      refine r_bipush (13 : Int32) rfl d3_15 ?_
      refine r_icmp_ne d3_17 (fun hc17 => ?_) (fun hc17 => ?_)
      · refine r_aloadN d3_22 rfl rfl ?_
        refine r_iloadN d3_23 rfl ?_
        refine r_ldC (own_at vs i) A (n32_nn (by omega)) (by rw [n32_clamp (by omega)]; exact own_get (by omega)) d3_24 ?_
        refine r_bipush (10 : Int32) rfl d3_25 ?_
        refine r_icmp_ne d3_27 (fun hc27 => ?_) (fun hc27 => ?_)
        · refine r_iconst (0 : Int32) rfl d3_46 ?_
          refine r_iret d3_47 (by decide) (by decide) ?_
          have hq : ¬ own_nl vs i := fun q => q.elim hc17 fun r => hc27 r.1
          exact ⟨by rw [own_cnt, if_neg (fun q => hq q.2)], rfl⟩
        · refine r_iloadN d3_30 rfl ?_
          refine r_if_eq d3_31 (fun hc31 => ?_) (fun hc31 => ?_)
          · refine r_iconst (1 : Int32) rfl d3_44 ?_
            refine r_iret d3_45 (by decide) (by decide) ?_
            have hq : own_nl vs i := Or.inr ⟨hc27, Or.inl ((n32_eq (a := i) (b := 0) (by omega) (by omega)).mp hc31)⟩
            exact ⟨by rw [own_cnt, if_pos ⟨⟨h2, h7⟩, hq⟩], rfl⟩
          · have hi0 : ¬ i = 0 := fun q => hc31 (by rw [q]; rfl)
            refine r_aloadN d3_34 rfl rfl ?_
            refine r_iloadN d3_35 rfl ?_
            refine r_iconst (1 : Int32) rfl d3_36 ?_
            refine r_isub d3_37 ?_
            rw [own_pred hi0]
            refine r_ldC (own_at vs (i - 1)) A (n32_nn (by omega)) (by rw [n32_clamp (by omega)]; exact own_get (by omega)) d3_38 ?_
            refine r_bipush (13 : Int32) rfl d3_39 ?_
            refine r_icmp_eq d3_41 (fun hc41 => ?_) (fun hc41 => ?_)
            · refine r_iconst (0 : Int32) rfl d3_46 ?_
              refine r_iret d3_47 (by decide) (by decide) ?_
              have hq : ¬ own_nl vs i := fun q => q.elim hc17 fun r => r.2.elim hi0 fun z => z hc41
              exact ⟨by rw [own_cnt, if_neg (fun q => hq q.2)], rfl⟩
            · refine r_iconst (1 : Int32) rfl d3_44 ?_
              refine r_iret d3_45 (by decide) (by decide) ?_
              have hq : own_nl vs i := Or.inr ⟨hc27, Or.inr hc41⟩
              exact ⟨by rw [own_cnt, if_pos ⟨⟨h2, h7⟩, hq⟩], rfl⟩
      · refine r_iconst (1 : Int32) rfl d3_20 ?_
        refine r_iret d3_21 (by decide) (by decide) ?_
        have hq : own_nl vs i := Or.inl hc17
        exact ⟨by rw [own_cnt, if_pos ⟨⟨h2, h7⟩, hq⟩], rfl⟩
    · refine r_iconst (0 : Int32) rfl d3_10 ?_
      refine r_iret d3_11 (by decide) (by decide) ?_
      have h7 : ¬ i < e := fun q => hc7 ((n32_lt (by omega) (by omega)).mpr q)
      exact ⟨by rw [own_cnt, if_neg (fun q => h7 q.1.2)], rfl⟩
theorem d4_0 : D method_6_code 0 (.iload_n 1) 1 1 := ⟨by decide +kernel, rfl⟩
theorem d4_1 : D method_6_code 1 (.iload_n 2) 1 2 := ⟨by decide +kernel, rfl⟩
theorem d4_2 : DB method_6_code 2 (.if_icmp .lt) 28 5 30 := ⟨by decide +kernel, rfl, by decide, by decide⟩
theorem d4_5 : D method_6_code 5 (.iload_n 1) 1 6 := ⟨by decide +kernel, rfl⟩
theorem d4_6 : D method_6_code 6 (.iload_n 3) 1 7 := ⟨by decide +kernel, rfl⟩
theorem d4_7 : DB method_6_code 7 (.if_icmp .ge) 23 10 30 := ⟨by decide +kernel, rfl, by decide, by decide⟩
theorem d4_10 : D method_6_code 10 (.aload_n 0) 1 11 := ⟨by decide +kernel, rfl⟩
theorem d4_11 : D method_6_code 11 (.iload_n 1) 1 12 := ⟨by decide +kernel, rfl⟩
theorem d4_12 : D method_6_code 12 (.caload) 1 13 := ⟨by decide +kernel, rfl⟩
theorem d4_13 : D method_6_code 13 (.bipush 10) 2 15 := ⟨by decide +kernel, rfl⟩
theorem d4_15 : DB method_6_code 15 (.if_icmp .eq) 11 18 26 := ⟨by decide +kernel, rfl, by decide, by decide⟩
theorem d4_18 : D method_6_code 18 (.aload_n 0) 1 19 := ⟨by decide +kernel, rfl⟩
theorem d4_19 : D method_6_code 19 (.iload_n 1) 1 20 := ⟨by decide +kernel, rfl⟩
theorem d4_20 : D method_6_code 20 (.caload) 1 21 := ⟨by decide +kernel, rfl⟩
theorem d4_21 : D method_6_code 21 (.bipush 13) 2 23 := ⟨by decide +kernel, rfl⟩
theorem d4_23 : DB method_6_code 23 (.if_icmp .ne) 7 26 30 := ⟨by decide +kernel, rfl, by decide, by decide⟩
theorem d4_26 : D method_6_code 26 (.iconst 1) 1 27 := ⟨by decide +kernel, rfl⟩
theorem d4_27 : DB method_6_code 27 (.goto) 4 30 31 := ⟨by decide +kernel, rfl, by decide, by decide⟩
theorem d4_30 : D method_6_code 30 (.iconst 0) 1 31 := ⟨by decide +kernel, rfl⟩
theorem d4_31 : D method_6_code 31 (.ireturn) 1 32 := ⟨by decide +kernel, rfl⟩
theorem pn4 : plainFor (⟨"com/example/flowsieve/flowsieve/xml/XmlScannerSkipSpacePinLaw", "isEnd", "([CIII)Z"⟩ : MethodName) = true := by first | exact plainFor_of_name (by first | (simp [plainName, overriddenIn]; done) | decide +kernel) | exact Jvm.Free.JP.mathPlain rfl (by decide +kernel) | decide +kernel
set_option maxRecDepth 65536 in
set_option maxHeartbeats 40000000 in
theorem ct4 {l : Launch} {Z : State} {a0 : Array Value} (hw : ∀ d ∈ tables_1, d.before a0 Z = true) {n0 : Nat} {h0 : Heap} (a1 : Addr) (i a e : Nat) (vs : List Int32) (A : Ary Z h0 a1 .char vs) (hl : vs.length = 4) (hi : i < 4) (ha : a ≤ 4) (he : e ≤ 4) : Ct l ⟨"com/example/flowsieve/flowsieve/xml/XmlScannerSkipSpacePinLaw", "isEnd", "([CIII)Z"⟩ method_6_code 4 (some .boolean) [] ({ frames := 0, cells := 0, slots := 0, locals := 0 } : Room) Z n0 #[(.ref a1), (.int i.toInt32), (.int a.toInt32), (.int e.toInt32)] h0 (fun v h => v = some (.int (own_end vs a e i)) ∧ h = h0) := by
  refine Ct.of (ls := [.val (.ref a1), .val (.int i.toInt32), .val (.int a.toInt32), .val (.int e.toInt32)]) pn4 (fun m => by first | (simp [entryFrame, mkF, argsToLocals, Value.category]; done) | rfl) ?_
  refine r_iloadN d4_0 rfl ?_
  refine r_iloadN d4_1 rfl ?_
  refine r_icmp_lt d4_2 (fun hc2 => ?_) (fun hc2 => ?_)
  · refine r_iconst (0 : Int32) rfl d4_30 ?_
    refine r_nret (t := .boolean) (by simp) d4_31 (by decide) (by decide) ?_
    have h2 : ¬ a ≤ i := fun q => absurd ((n32_lt (a := i) (b := a) (by omega) (by omega)).mp hc2) (by omega)
    exact ⟨by rw [own_end, if_neg (fun q => h2 q.1.1)]; rfl, rfl⟩
  · have h2 : a ≤ i := Nat.le_of_not_lt fun q => hc2 ((n32_lt (by omega) (by omega)).mpr q)
    refine r_iloadN d4_5 rfl ?_
    refine r_iloadN d4_6 rfl ?_
    refine r_icmp_ge d4_7 (fun hc7 => ?_) (fun hc7 => ?_)
    · refine r_iconst (0 : Int32) rfl d4_30 ?_
      refine r_nret (t := .boolean) (by simp) d4_31 (by decide) (by decide) ?_
      have h7 : ¬ i < e := fun q => hc7 ((n32_lt (by omega) (by omega)).mpr q)
      exact ⟨by rw [own_end, if_neg (fun q => h7 q.1.2)]; rfl, rfl⟩
    · have h7 : i < e := (n32_lt (a := i) (b := e) (by omega) (by omega)).mp hc7
      refine r_aloadN d4_10 rfl rfl ?_
      refine r_iloadN d4_11 rfl ?_
      refine r_ldC (own_at vs i) A (n32_nn (by omega)) (by rw [n32_clamp (by omega)]; exact own_get (by omega)) d4_12 ?_
      refine r_bipush (10 : Int32) rfl d4_13 ?_
      refine r_icmp_eq d4_15 (fun hc15 => ?_) (fun hc15 => ?_)
      · refine r_iconst (1 : Int32) rfl d4_26 ?_
        refine r_goto d4_27 ?_
        exact r_nret (t := .boolean) (by simp) d4_31 (by decide) (by decide) (⟨by rw [own_end, if_pos ⟨⟨h2, h7⟩, Or.inl hc15⟩]; rfl, rfl⟩)
      · refine r_aloadN d4_18 rfl rfl ?_
        refine r_iloadN d4_19 rfl ?_
        refine r_ldC (own_at vs i) A (n32_nn (by omega)) (by rw [n32_clamp (by omega)]; exact own_get (by omega)) d4_20 ?_
        refine r_bipush (13 : Int32) rfl d4_21 ?_
        refine r_icmp_ne d4_23 (fun hc23 => ?_) (fun hc23 => ?_)
        · refine r_iconst (0 : Int32) rfl d4_30 ?_
          exact r_nret (t := .boolean) (by simp) d4_31 (by decide) (by decide) (⟨by rw [own_end, if_neg (fun q => q.2.elim hc15 hc23)]; rfl, rfl⟩)
        · refine r_iconst (1 : Int32) rfl d4_26 ?_
          refine r_goto d4_27 ?_
          exact r_nret (t := .boolean) (by simp) d4_31 (by decide) (by decide) (⟨by rw [own_end, if_pos ⟨⟨h2, h7⟩, Or.inr hc23⟩]; rfl, rfl⟩)
def own_X (Z : State) (h : Heap) (a b : Addr) (vs : List Int32) (n : Nat) (at_ line ls : Int32) : Prop := Exa Z h a "com/example/flowsieve/flowsieve/xml/XmlScanner" ∧ a ≠ b ∧ Fld Z h a "com/example/flowsieve/flowsieve/xml/XmlScanner" "text" "[C" (.ref b) ∧ Fld Z h a "com/example/flowsieve/flowsieve/xml/XmlScanner" "length" "I" (.int n.toInt32) ∧ Fld Z h a "com/example/flowsieve/flowsieve/xml/XmlScanner" "at" "I" (.int at_) ∧ Fld Z h a "com/example/flowsieve/flowsieve/xml/XmlScanner" "line" "I" (.int line) ∧ Fld Z h a "com/example/flowsieve/flowsieve/xml/XmlScanner" "lineStart" "I" (.int ls) ∧ Ary Z h b .char vs
theorem own_X_at {Z : State} {a0 : Array Value} (hw : ∀ d ∈ tables_1, d.before a0 Z = true) {h h' : Heap} {a b : Addr} {vs : List Int32} {n : Nat} {at_ line ls v : Int32} (X : own_X Z h a b vs n at_ line ls) (W : Wr h h' a (Jvm.RoadKit.slotOf Z "com/example/flowsieve/flowsieve/xml/XmlScanner" "at" "I") (.int v)) : own_X Z h' a b vs n v line ls := by
  obtain ⟨E, ne, F0, F1, F2, F3, F4, A⟩ := X
  exact ⟨E.wr W, ne, Fld.other W F0 (Or.inr (slot_ne (Or.inr (hw _ (List.mem_of_getElem? (i := 29) rfl))) (Or.inl (hw _ (List.mem_of_getElem? (i := 52) rfl))) (by decide) (t := (.array .char)) (t' := .int) (by decide) (by decide))), Fld.other W F1 (Or.inr (slot_ne (Or.inr (hw _ (List.mem_of_getElem? (i := 31) rfl))) (Or.inl (hw _ (List.mem_of_getElem? (i := 52) rfl))) (by decide) (t := .int) (t' := .int) (by decide) (by decide))), Fld.same W F2, Fld.other W F3 (Or.inr (slot_ne (Or.inl (hw _ (List.mem_of_getElem? (i := 27) rfl))) (Or.inl (hw _ (List.mem_of_getElem? (i := 52) rfl))) (by decide) (t := .int) (t' := .int) (by decide) (by decide))), Fld.other W F4 (Or.inr (slot_ne (Or.inl (hw _ (List.mem_of_getElem? (i := 55) rfl))) (Or.inl (hw _ (List.mem_of_getElem? (i := 52) rfl))) (by decide) (t := .int) (t' := .int) (by decide) (by decide))), A.other W ne.symm⟩
theorem own_X_line {Z : State} {a0 : Array Value} (hw : ∀ d ∈ tables_1, d.before a0 Z = true) {h h' : Heap} {a b : Addr} {vs : List Int32} {n : Nat} {at_ line ls v : Int32} (X : own_X Z h a b vs n at_ line ls) (W : Wr h h' a (Jvm.RoadKit.slotOf Z "com/example/flowsieve/flowsieve/xml/XmlScanner" "line" "I") (.int v)) : own_X Z h' a b vs n at_ v ls := by
  obtain ⟨E, ne, F0, F1, F2, F3, F4, A⟩ := X
  exact ⟨E.wr W, ne, Fld.other W F0 (Or.inr (slot_ne (Or.inr (hw _ (List.mem_of_getElem? (i := 29) rfl))) (Or.inl (hw _ (List.mem_of_getElem? (i := 27) rfl))) (by decide) (t := (.array .char)) (t' := .int) (by decide) (by decide))), Fld.other W F1 (Or.inr (slot_ne (Or.inr (hw _ (List.mem_of_getElem? (i := 31) rfl))) (Or.inl (hw _ (List.mem_of_getElem? (i := 27) rfl))) (by decide) (t := .int) (t' := .int) (by decide) (by decide))), Fld.other W F2 (Or.inr (slot_ne (Or.inl (hw _ (List.mem_of_getElem? (i := 52) rfl))) (Or.inl (hw _ (List.mem_of_getElem? (i := 27) rfl))) (by decide) (t := .int) (t' := .int) (by decide) (by decide))), Fld.same W F3, Fld.other W F4 (Or.inr (slot_ne (Or.inl (hw _ (List.mem_of_getElem? (i := 55) rfl))) (Or.inl (hw _ (List.mem_of_getElem? (i := 27) rfl))) (by decide) (t := .int) (t' := .int) (by decide) (by decide))), A.other W ne.symm⟩
theorem own_X_lineStart {Z : State} {a0 : Array Value} (hw : ∀ d ∈ tables_1, d.before a0 Z = true) {h h' : Heap} {a b : Addr} {vs : List Int32} {n : Nat} {at_ line ls v : Int32} (X : own_X Z h a b vs n at_ line ls) (W : Wr h h' a (Jvm.RoadKit.slotOf Z "com/example/flowsieve/flowsieve/xml/XmlScanner" "lineStart" "I") (.int v)) : own_X Z h' a b vs n at_ line v := by
  obtain ⟨E, ne, F0, F1, F2, F3, F4, A⟩ := X
  exact ⟨E.wr W, ne, Fld.other W F0 (Or.inr (slot_ne (Or.inr (hw _ (List.mem_of_getElem? (i := 29) rfl))) (Or.inl (hw _ (List.mem_of_getElem? (i := 55) rfl))) (by decide) (t := (.array .char)) (t' := .int) (by decide) (by decide))), Fld.other W F1 (Or.inr (slot_ne (Or.inr (hw _ (List.mem_of_getElem? (i := 31) rfl))) (Or.inl (hw _ (List.mem_of_getElem? (i := 55) rfl))) (by decide) (t := .int) (t' := .int) (by decide) (by decide))), Fld.other W F2 (Or.inr (slot_ne (Or.inl (hw _ (List.mem_of_getElem? (i := 52) rfl))) (Or.inl (hw _ (List.mem_of_getElem? (i := 55) rfl))) (by decide) (t := .int) (t' := .int) (by decide) (by decide))), Fld.other W F3 (Or.inr (slot_ne (Or.inl (hw _ (List.mem_of_getElem? (i := 27) rfl))) (Or.inl (hw _ (List.mem_of_getElem? (i := 55) rfl))) (by decide) (t := .int) (t' := .int) (by decide) (by decide))), Fld.same W F4, A.other W ne.symm⟩
theorem d11_0 : D prog_56_method_39_code 0 (.aload_n 0) 1 1 := ⟨by decide +kernel, rfl⟩
theorem d11_1 : D prog_56_method_39_code 1 (.getfield 33) 3 4 := ⟨by decide +kernel, rfl⟩
theorem d11_4 : D prog_56_method_39_code 4 (.iload_n 1) 1 5 := ⟨by decide +kernel, rfl⟩
theorem d11_5 : D prog_56_method_39_code 5 (.caload) 1 6 := ⟨by decide +kernel, rfl⟩
theorem d11_6 : D prog_56_method_39_code 6 (.bipush 13) 2 8 := ⟨by decide +kernel, rfl⟩
theorem d11_8 : DB prog_56_method_39_code 8 (.if_icmp .eq) 20 11 28 := ⟨by decide +kernel, rfl, by decide, by decide⟩
theorem d11_11 : D prog_56_method_39_code 11 (.iload_n 1) 1 12 := ⟨by decide +kernel, rfl⟩
theorem d11_12 : DB prog_56_method_39_code 12 (.ifCond .eq) 16 15 28 := ⟨by decide +kernel, rfl, by decide, by decide⟩
theorem d11_15 : D prog_56_method_39_code 15 (.aload_n 0) 1 16 := ⟨by decide +kernel, rfl⟩
theorem d11_16 : D prog_56_method_39_code 16 (.getfield 33) 3 19 := ⟨by decide +kernel, rfl⟩
theorem d11_19 : D prog_56_method_39_code 19 (.iload_n 1) 1 20 := ⟨by decide +kernel, rfl⟩
theorem d11_20 : D prog_56_method_39_code 20 (.iconst 1) 1 21 := ⟨by decide +kernel, rfl⟩
theorem d11_21 : D prog_56_method_39_code 21 (.isub) 1 22 := ⟨by decide +kernel, rfl⟩
theorem d11_22 : D prog_56_method_39_code 22 (.caload) 1 23 := ⟨by decide +kernel, rfl⟩
theorem d11_23 : D prog_56_method_39_code 23 (.bipush 13) 2 25 := ⟨by decide +kernel, rfl⟩
theorem d11_25 : DB prog_56_method_39_code 25 (.if_icmp .eq) 13 28 38 := ⟨by decide +kernel, rfl, by decide, by decide⟩
theorem d11_28 : D prog_56_method_39_code 28 (.aload_n 0) 1 29 := ⟨by decide +kernel, rfl⟩
theorem d11_29 : D prog_56_method_39_code 29 (.dup) 1 30 := ⟨by decide +kernel, rfl⟩
theorem d11_30 : D prog_56_method_39_code 30 (.getfield 29) 3 33 := ⟨by decide +kernel, rfl⟩
theorem d11_33 : D prog_56_method_39_code 33 (.iconst 1) 1 34 := ⟨by decide +kernel, rfl⟩
theorem d11_34 : D prog_56_method_39_code 34 (.iadd) 1 35 := ⟨by decide +kernel, rfl⟩
theorem d11_35 : D prog_56_method_39_code 35 (.putfield 29) 3 38 := ⟨by decide +kernel, rfl⟩
theorem d11_38 : D prog_56_method_39_code 38 (.aload_n 0) 1 39 := ⟨by decide +kernel, rfl⟩
theorem d11_39 : D prog_56_method_39_code 39 (.iload_n 1) 1 40 := ⟨by decide +kernel, rfl⟩
theorem d11_40 : D prog_56_method_39_code 40 (.iconst 1) 1 41 := ⟨by decide +kernel, rfl⟩
theorem d11_41 : D prog_56_method_39_code 41 (.iadd) 1 42 := ⟨by decide +kernel, rfl⟩
theorem d11_42 : D prog_56_method_39_code 42 (.putfield 300) 3 45 := ⟨by decide +kernel, rfl⟩
theorem d11_45 : D prog_56_method_39_code 45 (.return_) 1 46 := ⟨by decide +kernel, rfl⟩
theorem pn11 : plainFor (⟨"com/example/flowsieve/flowsieve/xml/XmlScanner", "lineEndAt", "(I)V"⟩ : MethodName) = true := by first | exact plainFor_of_name (by first | (simp [plainName, overriddenIn]; done) | decide +kernel) | exact Jvm.Free.JP.mathPlain rfl (by decide +kernel) | decide +kernel
set_option maxRecDepth 65536 in
set_option maxHeartbeats 40000000 in
theorem ct11 {l : Launch} {Z : State} {a0 : Array Value} (hw : ∀ d ∈ tables_1, d.before a0 Z = true) {n0 : Nat} {h0 : Heap} (a1 b1 : Addr) (i : Nat) (vs : List Int32) (n : Nat) (at_ line ls : Int32) (X : own_X Z h0 a1 b1 vs n at_ line ls) (hl : vs.length = 4) (hi : i < 4) (hnl : ¬ own_at vs i = 13 → own_at vs i = 10) (g1 : n0 ≤ a1) : Ct l ⟨"com/example/flowsieve/flowsieve/xml/XmlScanner", "lineEndAt", "(I)V"⟩ prog_56_method_39_code 2 none [] ({ frames := 0, cells := 0, slots := 0, locals := 0 } : Room) Z n0 #[(.ref a1), (.int i.toInt32)] h0 (fun v h => v = none ∧ h0.size ≤ h.size ∧ own_X Z h a1 b1 vs n at_ (line + if own_nl vs i then 1 else 0) (i.toInt32 + 1)) := by
  refine Ct.of (ls := [.val (.ref a1), .val (.int i.toInt32)]) pn11 (fun m => by first | (simp [entryFrame, mkF, argsToLocals, Value.category]; done) | rfl) ?_
  refine r_aloadN d11_0 rfl rfl ?_
  refine r_getF (host := "") (Or.inl (hw _ (List.mem_of_getElem? (i := 28) rfl))) (v := (.ref b1)) (X.2.2.1) d11_1 ?_
  refine r_iloadN d11_4 rfl ?_
  refine r_ldC (own_at vs i) X.2.2.2.2.2.2.2 (n32_nn (by omega)) (by rw [n32_clamp (by omega)]; exact own_get (by omega)) d11_5 ?_
  refine r_bipush (13 : Int32) rfl d11_6 ?_
  refine r_icmp_eq d11_8 (fun hc8 => ?_) (fun hc8 => ?_)
  · refine r_aloadN d11_28 rfl rfl ?_
    refine r_dup d11_29 rfl ?_
    refine r_getF (host := "") (Or.inl (hw _ (List.mem_of_getElem? (i := 26) rfl))) (v := (.int line)) (X.2.2.2.2.2.1) d11_30 ?_
    refine r_iconst (1 : Int32) rfl d11_33 ?_
    refine r_iadd d11_34 ?_
    refine r_putF (host := "") (Or.inl (hw _ (List.mem_of_getElem? (i := 26) rfl))) (X.2.2.2.2.2.1) (X.1) (Or.inl (hw _ (List.mem_of_getElem? (i := 27) rfl))) (hw _ (List.mem_of_getElem? (i := 15) rfl)) (ty := .int) (by decide) rfl rfl g1 d11_35 ?_
    intro h35 W35
    have Y := own_X_line hw X W35
    refine r_aloadN d11_38 rfl rfl ?_
    refine r_iloadN d11_39 rfl ?_
    refine r_iconst (1 : Int32) rfl d11_40 ?_
    refine r_iadd d11_41 ?_
    refine r_putF (host := "") (Or.inl (hw _ (List.mem_of_getElem? (i := 69) rfl))) (Y.2.2.2.2.2.2.1) (Y.1) (Or.inl (hw _ (List.mem_of_getElem? (i := 55) rfl))) (hw _ (List.mem_of_getElem? (i := 15) rfl)) (ty := .int) (by decide) rfl rfl g1 d11_42 ?_
    intro h42 W42
    have Y2 := own_X_lineStart hw Y W42
    refine r_ret d11_45 (by decide) (by decide) ?_
    have hq : own_nl vs i := Or.inl hc8
    rw [if_pos hq]
    exact ⟨rfl, Nat.le_trans (Keep.of_wr W35).1 (Keep.of_wr W42).1, Y2⟩
  · refine r_iloadN d11_11 rfl ?_
    refine r_if_eq d11_12 (fun hc12 => ?_) (fun hc12 => ?_)
    · refine r_aloadN d11_28 rfl rfl ?_
      refine r_dup d11_29 rfl ?_
      refine r_getF (host := "") (Or.inl (hw _ (List.mem_of_getElem? (i := 26) rfl))) (v := (.int line)) (X.2.2.2.2.2.1) d11_30 ?_
      refine r_iconst (1 : Int32) rfl d11_33 ?_
      refine r_iadd d11_34 ?_
      refine r_putF (host := "") (Or.inl (hw _ (List.mem_of_getElem? (i := 26) rfl))) (X.2.2.2.2.2.1) (X.1) (Or.inl (hw _ (List.mem_of_getElem? (i := 27) rfl))) (hw _ (List.mem_of_getElem? (i := 15) rfl)) (ty := .int) (by decide) rfl rfl g1 d11_35 ?_
      intro h35 W35
      have Y := own_X_line hw X W35
      refine r_aloadN d11_38 rfl rfl ?_
      refine r_iloadN d11_39 rfl ?_
      refine r_iconst (1 : Int32) rfl d11_40 ?_
      refine r_iadd d11_41 ?_
      refine r_putF (host := "") (Or.inl (hw _ (List.mem_of_getElem? (i := 69) rfl))) (Y.2.2.2.2.2.2.1) (Y.1) (Or.inl (hw _ (List.mem_of_getElem? (i := 55) rfl))) (hw _ (List.mem_of_getElem? (i := 15) rfl)) (ty := .int) (by decide) rfl rfl g1 d11_42 ?_
      intro h42 W42
      have Y2 := own_X_lineStart hw Y W42
      refine r_ret d11_45 (by decide) (by decide) ?_
      have hq : own_nl vs i := Or.inr ⟨hnl hc8, Or.inl ((n32_eq (a := i) (b := 0) (by omega) (by omega)).mp hc12)⟩
      rw [if_pos hq]
      exact ⟨rfl, Nat.le_trans (Keep.of_wr W35).1 (Keep.of_wr W42).1, Y2⟩
    · have hi0 : ¬ i = 0 := fun q => hc12 (by rw [q]; rfl)
      refine r_aloadN d11_15 rfl rfl ?_
      refine r_getF (host := "") (Or.inl (hw _ (List.mem_of_getElem? (i := 28) rfl))) (v := (.ref b1)) (X.2.2.1) d11_16 ?_
      refine r_iloadN d11_19 rfl ?_
      refine r_iconst (1 : Int32) rfl d11_20 ?_
      refine r_isub d11_21 ?_
      rw [own_pred hi0]
      refine r_ldC (own_at vs (i - 1)) X.2.2.2.2.2.2.2 (n32_nn (by omega)) (by rw [n32_clamp (by omega)]; exact own_get (by omega)) d11_22 ?_
      refine r_bipush (13 : Int32) rfl d11_23 ?_
      refine r_icmp_eq d11_25 (fun hc25 => ?_) (fun hc25 => ?_)
      · refine r_aloadN d11_38 rfl rfl ?_
        refine r_iloadN d11_39 rfl ?_
        refine r_iconst (1 : Int32) rfl d11_40 ?_
        refine r_iadd d11_41 ?_
        refine r_putF (host := "") (Or.inl (hw _ (List.mem_of_getElem? (i := 69) rfl))) (X.2.2.2.2.2.2.1) (X.1) (Or.inl (hw _ (List.mem_of_getElem? (i := 55) rfl))) (hw _ (List.mem_of_getElem? (i := 15) rfl)) (ty := .int) (by decide) rfl rfl g1 d11_42 ?_
        intro h42 W42
        have Y2 := own_X_lineStart hw X W42
        refine r_ret d11_45 (by decide) (by decide) ?_
        have hq : ¬ own_nl vs i := fun q => q.elim hc8 fun r => r.2.elim hi0 fun z => z hc25
        rw [if_neg hq, Int32.add_zero]
        exact ⟨rfl, (Keep.of_wr W42).1, Y2⟩
      · refine r_aloadN d11_28 rfl rfl ?_
        refine r_dup d11_29 rfl ?_
        refine r_getF (host := "") (Or.inl (hw _ (List.mem_of_getElem? (i := 26) rfl))) (v := (.int line)) (X.2.2.2.2.2.1) d11_30 ?_
        refine r_iconst (1 : Int32) rfl d11_33 ?_
        refine r_iadd d11_34 ?_
        refine r_putF (host := "") (Or.inl (hw _ (List.mem_of_getElem? (i := 26) rfl))) (X.2.2.2.2.2.1) (X.1) (Or.inl (hw _ (List.mem_of_getElem? (i := 27) rfl))) (hw _ (List.mem_of_getElem? (i := 15) rfl)) (ty := .int) (by decide) rfl rfl g1 d11_35 ?_
        intro h35 W35
        have Y := own_X_line hw X W35
        refine r_aloadN d11_38 rfl rfl ?_
        refine r_iloadN d11_39 rfl ?_
        refine r_iconst (1 : Int32) rfl d11_40 ?_
        refine r_iadd d11_41 ?_
        refine r_putF (host := "") (Or.inl (hw _ (List.mem_of_getElem? (i := 69) rfl))) (Y.2.2.2.2.2.2.1) (Y.1) (Or.inl (hw _ (List.mem_of_getElem? (i := 55) rfl))) (hw _ (List.mem_of_getElem? (i := 15) rfl)) (ty := .int) (by decide) rfl rfl g1 d11_42 ?_
        intro h42 W42
        have Y2 := own_X_lineStart hw Y W42
        refine r_ret d11_45 (by decide) (by decide) ?_
        have hq : own_nl vs i := Or.inr ⟨hnl hc8, Or.inr hc25⟩
        rw [if_pos hq]
        exact ⟨rfl, Nat.le_trans (Keep.of_wr W35).1 (Keep.of_wr W42).1, Y2⟩
theorem own_ext (vs : List Int32) (a i : Nat) (hj : ∀ j, a ≤ j → j < i → own_ws (own_at vs j)) (h : own_ws (own_at vs i)) : ∀ j, a ≤ j → j < i + 1 → own_ws (own_at vs j) := fun j h1 h2 => by
  by_cases c : j = i
  · subst c; exact h
  · exact hj j h1 (by omega)
theorem own_cntS (vs : List Int32) (a i j : Nat) (hai : a ≤ i) : own_cnt vs a (i + 1) j = own_cnt vs a i j + (if j = i then (if own_nl vs i then 1 else 0) else 0) := by
  unfold own_cnt
  by_cases c : j = i
  · subst c
    rw [if_neg (show ¬ ((a ≤ j ∧ j < j) ∧ own_nl vs j) from fun q => absurd q.1.2 (Nat.lt_irrefl _)), if_pos rfl]
    by_cases d : own_nl vs j
    · rw [if_pos ⟨⟨hai, by omega⟩, d⟩, if_pos d]; rfl
    · rw [if_neg (fun q => d q.2), if_neg d]; rfl
  · rw [if_neg c, Int32.add_zero]
    have : (j < i + 1) ↔ (j < i) := by omega
    simp only [this]
theorem own_lineS (vs : List Int32) (a i : Nat) (l0 : Int32) (hai : a ≤ i) (hi : i < 4) : own_line vs a (i + 1) l0 = own_line vs a i l0 + if own_nl vs i then 1 else 0 := by
  unfold own_line
  rw [own_cntS vs a i 0 hai, own_cntS vs a i 1 hai, own_cntS vs a i 2 hai, own_cntS vs a i 3 hai]
  have : i = 0 ∨ i = 1 ∨ i = 2 ∨ i = 3 := by omega
  generalize own_cnt vs a i 0 = c0
  generalize own_cnt vs a i 1 = c1
  generalize own_cnt vs a i 2 = c2
  generalize own_cnt vs a i 3 = c3
  rcases this with rfl | rfl | rfl | rfl
  · simp only [if_true, show ¬ (1 = 0) by decide, show ¬ (2 = 0) by decide, show ¬ (3 = 0) by decide, if_false, Int32.add_zero]
    generalize (if own_nl vs 0 then (1 : Int32) else 0) = x
    ac_rfl
  · simp only [if_true, show ¬ (0 = 1) by decide, show ¬ (2 = 1) by decide, show ¬ (3 = 1) by decide, if_false, Int32.add_zero]
    generalize (if own_nl vs 1 then (1 : Int32) else 0) = x
    ac_rfl
  · simp only [if_true, show ¬ (0 = 2) by decide, show ¬ (1 = 2) by decide, show ¬ (3 = 2) by decide, if_false, Int32.add_zero]
    generalize (if own_nl vs 2 then (1 : Int32) else 0) = x
    ac_rfl
  · simp only [if_true, show ¬ (0 = 3) by decide, show ¬ (1 = 3) by decide, show ¬ (2 = 3) by decide, if_false, Int32.add_zero]
    simp only [Int32.add_assoc]
theorem own_endS (vs : List Int32) (a i j : Nat) (hai : a ≤ i) : own_end vs a (i + 1) j = if j = i then (if own_at vs i = 10 ∨ own_at vs i = 13 then 1 else 0) else own_end vs a i j := by
  unfold own_end
  by_cases c : j = i
  · subst c
    rw [if_pos rfl]
    by_cases d : own_at vs j = 10 ∨ own_at vs j = 13
    · rw [if_pos ⟨⟨hai, by omega⟩, d⟩, if_pos d]
    · rw [if_neg (fun q => d q.2), if_neg d]
  · rw [if_neg c]
    have : (j < i + 1) ↔ (j < i) := by omega
    simp only [this]
theorem own_endO (vs : List Int32) (a i j : Nat) (h : i ≤ j) : own_end vs a i j = 0 := by
  unfold own_end
  rw [if_neg (fun q => absurd q.1.2 (by omega))]
theorem own_lsS (vs : List Int32) (a i : Nat) (s0 : Int32) (hai : a ≤ i) (hi : i < 4) : own_ls vs a (i + 1) s0 = if own_at vs i = 10 ∨ own_at vs i = 13 then i.toInt32 + 1 else own_ls vs a i s0 := by
  unfold own_ls
  rw [own_endS vs a i 0 hai, own_endS vs a i 1 hai, own_endS vs a i 2 hai, own_endS vs a i 3 hai]
  by_cases d : own_at vs i = 10 ∨ own_at vs i = 13
  · rw [if_pos d]
    have : i = 0 ∨ i = 1 ∨ i = 2 ∨ i = 3 := by omega
    rcases this with rfl | rfl | rfl | rfl
    · rw [own_endO vs a 0 1 (by omega), own_endO vs a 0 2 (by omega), own_endO vs a 0 3 (by omega)]; simp [d]; rfl
    · rw [own_endO vs a 1 2 (by omega), own_endO vs a 1 3 (by omega)]; simp [d]; rfl
    · rw [own_endO vs a 2 3 (by omega)]; simp [d]; rfl
    · simp [d]; rfl
  · rw [if_neg d]
    have : i = 0 ∨ i = 1 ∨ i = 2 ∨ i = 3 := by omega
    rcases this with rfl | rfl | rfl | rfl
    · rw [own_endO vs a 0 0 (by omega)]; simp [d]
    · rw [own_endO vs a 1 1 (by omega)]; simp [d]
    · rw [own_endO vs a 2 2 (by omega)]; simp [d]
    · rw [own_endO vs a 3 3 (by omega)]; simp [d]
theorem own_line0 (vs : List Int32) (a : Nat) (l0 : Int32) : own_line vs a a l0 = l0 := by
  have h : ∀ j, own_cnt vs a a j = 0 := fun j => by unfold own_cnt; rw [if_neg (fun q => absurd q.1.2 (by omega))]
  unfold own_line
  rw [h, h, h, h]
  simp only [Int32.add_zero]
theorem own_ls0 (vs : List Int32) (a : Nat) (s0 : Int32) : own_ls vs a a s0 = s0 := by
  have h : ∀ j, own_end vs a a j = 0 := fun j => by unfold own_end; rw [if_neg (fun q => absurd q.1.2 (by omega))]
  unfold own_ls
  rw [h, h, h, h]
  simp
theorem own_steps (vs : List Int32) (n a e : Nat) (hn : n ≤ 4) (hae : a ≤ e) (hen : e ≤ n) (hj : ∀ j, a ≤ j → j < e → own_ws (own_at vs j)) (hs : ¬ (e < n ∧ own_ws (own_at vs e))) : own_step vs n (own_step vs n (own_step vs n (own_step vs n a))) = e := by
  have s1 : ∀ j, a ≤ j → j < e → own_step vs n j = j + 1 := fun j h1 h2 => by unfold own_step; rw [if_pos ⟨by omega, hj j h1 h2⟩]
  have s2 : own_step vs n e = e := by unfold own_step; rw [if_neg hs]
  have : e = a ∨ e = a + 1 ∨ e = a + 2 ∨ e = a + 3 ∨ e = a + 4 := by omega
  rcases this with c | c | c | c | c
  · rw [← c, s2, s2, s2, s2]
  · rw [s1 a (by omega) (by omega), ← c, s2, s2, s2]
  · rw [s1 a (by omega) (by omega), s1 (a + 1) (by omega) (by omega), show a + 1 + 1 = e by omega, s2, s2]
  · rw [s1 a (by omega) (by omega), s1 (a + 1) (by omega) (by omega), show a + 1 + 1 = a + 2 by omega, s1 (a + 2) (by omega) (by omega), show a + 2 + 1 = e by omega, s2]
  · rw [s1 a (by omega) (by omega), s1 (a + 1) (by omega) (by omega), show a + 1 + 1 = a + 2 by omega, s1 (a + 2) (by omega) (by omega), show a + 2 + 1 = a + 3 by omega, s1 (a + 3) (by omega) (by omega), show a + 3 + 1 = e by omega]
theorem own_stepLe (vs : List Int32) (n e : Nat) (h : e ≤ n) : own_step vs n e ≤ n := by
  unfold own_step
  split
  · omega
  · exact h
theorem d9_0 : D prog_56_method_15_code 0 (.aload_n 0) 1 1 := ⟨by decide +kernel, rfl⟩
theorem d9_1 : D prog_56_method_15_code 1 (.getfield 33) 3 4 := ⟨by decide +kernel, rfl⟩
theorem d9_4 : D prog_56_method_15_code 4 (.astore_n 1) 1 5 := ⟨by decide +kernel, rfl⟩
theorem d9_5 : D prog_56_method_15_code 5 (.aload_n 0) 1 6 := ⟨by decide +kernel, rfl⟩
theorem d9_6 : D prog_56_method_15_code 6 (.getfield 36) 3 9 := ⟨by decide +kernel, rfl⟩
theorem d9_9 : D prog_56_method_15_code 9 (.istore_n 2) 1 10 := ⟨by decide +kernel, rfl⟩
theorem d9_10 : D prog_56_method_15_code 10 (.aload_n 0) 1 11 := ⟨by decide +kernel, rfl⟩
theorem d9_11 : D prog_56_method_15_code 11 (.getfield 90) 3 14 := ⟨by decide +kernel, rfl⟩
theorem d9_14 : D prog_56_method_15_code 14 (.istore_n 3) 1 15 := ⟨by decide +kernel, rfl⟩
theorem d9_15 : D prog_56_method_15_code 15 (.iload_n 3) 1 16 := ⟨by decide +kernel, rfl⟩
theorem d9_16 : D prog_56_method_15_code 16 (.istore 4) 2 18 := ⟨by decide +kernel, rfl⟩
theorem d9_18 : D prog_56_method_15_code 18 (.iload 4) 2 20 := ⟨by decide +kernel, rfl⟩
theorem d9_20 : D prog_56_method_15_code 20 (.iload_n 2) 1 21 := ⟨by decide +kernel, rfl⟩
theorem d9_21 : DB prog_56_method_15_code 21 (.if_icmp .ge) 55 24 76 := ⟨by decide +kernel, rfl, by decide, by decide⟩
theorem d9_24 : D prog_56_method_15_code 24 (.aload_n 1) 1 25 := ⟨by decide +kernel, rfl⟩
theorem d9_25 : D prog_56_method_15_code 25 (.iload 4) 2 27 := ⟨by decide +kernel, rfl⟩
theorem d9_27 : D prog_56_method_15_code 27 (.caload) 1 28 := ⟨by decide +kernel, rfl⟩
theorem d9_28 : D prog_56_method_15_code 28 (.istore 5) 2 30 := ⟨by decide +kernel, rfl⟩
theorem d9_30 : D prog_56_method_15_code 30 (.iload 5) 2 32 := ⟨by decide +kernel, rfl⟩
theorem d9_32 : D prog_56_method_15_code 32 (.bipush 10) 2 34 := ⟨by decide +kernel, rfl⟩
theorem d9_34 : DB prog_56_method_15_code 34 (.if_icmp .eq) 10 37 44 := ⟨by decide +kernel, rfl, by decide, by decide⟩
theorem d9_37 : D prog_56_method_15_code 37 (.iload 5) 2 39 := ⟨by decide +kernel, rfl⟩
theorem d9_39 : D prog_56_method_15_code 39 (.bipush 13) 2 41 := ⟨by decide +kernel, rfl⟩
theorem d9_41 : DB prog_56_method_15_code 41 (.if_icmp .ne) 12 44 53 := ⟨by decide +kernel, rfl, by decide, by decide⟩
theorem d9_44 : D prog_56_method_15_code 44 (.aload_n 0) 1 45 := ⟨by decide +kernel, rfl⟩
theorem d9_45 : D prog_56_method_15_code 45 (.iload 4) 2 47 := ⟨by decide +kernel, rfl⟩
theorem d9_47 : D prog_56_method_15_code 47 (.invokevirtual 109) 3 50 := ⟨by decide +kernel, rfl⟩
theorem d9_50 : DB prog_56_method_15_code 50 (.goto) 20 53 70 := ⟨by decide +kernel, rfl, by decide, by decide⟩
theorem d9_53 : D prog_56_method_15_code 53 (.iload 5) 2 55 := ⟨by decide +kernel, rfl⟩
theorem d9_55 : D prog_56_method_15_code 55 (.bipush 32) 2 57 := ⟨by decide +kernel, rfl⟩
theorem d9_57 : DB prog_56_method_15_code 57 (.if_icmp .eq) 13 60 70 := ⟨by decide +kernel, rfl, by decide, by decide⟩
theorem d9_60 : D prog_56_method_15_code 60 (.iload 5) 2 62 := ⟨by decide +kernel, rfl⟩
theorem d9_62 : D prog_56_method_15_code 62 (.bipush 9) 2 64 := ⟨by decide +kernel, rfl⟩
theorem d9_64 : DB prog_56_method_15_code 64 (.if_icmp .eq) 6 67 70 := ⟨by decide +kernel, rfl, by decide, by decide⟩
theorem d9_67 : DB prog_56_method_15_code 67 (.goto) 9 70 76 := ⟨by decide +kernel, rfl, by decide, by decide⟩
theorem d9_70 : D prog_56_method_15_code 70 (.iinc 4 1) 3 73 := ⟨by decide +kernel, rfl⟩
theorem d9_73 : DB prog_56_method_15_code 73 (.goto) (-55) 76 18 := ⟨by decide +kernel, rfl, by decide, by decide⟩
theorem d9_76 : D prog_56_method_15_code 76 (.aload_n 0) 1 77 := ⟨by decide +kernel, rfl⟩
theorem d9_77 : D prog_56_method_15_code 77 (.iload 4) 2 79 := ⟨by decide +kernel, rfl⟩
theorem d9_79 : D prog_56_method_15_code 79 (.putfield 90) 3 82 := ⟨by decide +kernel, rfl⟩
theorem d9_82 : D prog_56_method_15_code 82 (.iload 4) 2 84 := ⟨by decide +kernel, rfl⟩
theorem d9_84 : D prog_56_method_15_code 84 (.iload_n 3) 1 85 := ⟨by decide +kernel, rfl⟩
theorem d9_85 : DB prog_56_method_15_code 85 (.if_icmp .le) 7 88 92 := ⟨by decide +kernel, rfl, by decide, by decide⟩
theorem d9_88 : D prog_56_method_15_code 88 (.iconst 1) 1 89 := ⟨by decide +kernel, rfl⟩
theorem d9_89 : DB prog_56_method_15_code 89 (.goto) 4 92 93 := ⟨by decide +kernel, rfl, by decide, by decide⟩
theorem d9_92 : D prog_56_method_15_code 92 (.iconst 0) 1 93 := ⟨by decide +kernel, rfl⟩
theorem d9_93 : D prog_56_method_15_code 93 (.ireturn) 1 94 := ⟨by decide +kernel, rfl⟩
theorem pd9_0 : parseMethodDescriptor "(I)V" = some ⟨[.int], none⟩ := by decide +kernel
theorem pn9 : plainFor (⟨"com/example/flowsieve/flowsieve/xml/XmlScanner", "skipSpace", "()Z"⟩ : MethodName) = true := by first | exact plainFor_of_name (by first | (simp [plainName, overriddenIn]; done) | decide +kernel) | exact Jvm.Free.JP.mathPlain rfl (by decide +kernel) | decide +kernel
set_option maxRecDepth 65536 in
set_option maxHeartbeats 40000000 in
theorem lp9 {l : Launch} {Z : State} {a0 : Array Value} (hw : ∀ d ∈ tables_1, d.before a0 Z = true) {n0 : Nat} (a1 b1 : Addr) (vs : List Int32) (n a : Nat) (l0 s0 : Int32) (hl : vs.length = 4) (hn : n ≤ 4) (g1 : n0 ≤ a1) : ∀ (t i : Nat) (h0 : Heap) (s5 : Slot), i + t = n → a ≤ i → (∀ j, a ≤ j → j < i → own_ws (own_at vs j)) → (s5 = .unset ∨ ∃ x : Int32, s5 = .val (.int x)) → own_X Z h0 a1 b1 vs n a.toInt32 (own_line vs a i l0) (own_ls vs a i s0) → ORun l ⟨"com/example/flowsieve/flowsieve/xml/XmlScanner", "skipSpace", "()Z"⟩ prog_56_method_15_code 6 (some .boolean) ({ frames := 1, cells := 0, slots := 0, locals := 20 } : Room) Z n0 #[(.ref a1)] (fun v h => ∃ e : Nat, v = some (.int (if a < e then 1 else 0)) ∧ a ≤ e ∧ e ≤ n ∧ (∀ j, a ≤ j → j < e → own_ws (own_at vs j)) ∧ ¬ (e < n ∧ own_ws (own_at vs e)) ∧ own_X Z h a1 b1 vs n e.toInt32 (own_line vs a e l0) (own_ls vs a e s0)) h0 0 0 18 [.val (.ref a1), .val (.ref b1), .val (.int n.toInt32), .val (.int a.toInt32), .val (.int i.toInt32), s5] [] := by
  intro t
  induction t with
  | zero =>
    intro i h0 s5 hi hai hj h5 X
    refine r_iload d9_18 rfl ?_
    refine r_iloadN d9_20 rfl ?_
    refine r_icmp_ge d9_21 (fun hc21 => ?_) (fun hc21 => ?_)
    · refine r_aloadN d9_76 rfl rfl ?_
      refine r_iload d9_77 rfl ?_
      refine r_putF (host := "") (Or.inl (hw _ (List.mem_of_getElem? (i := 61) rfl))) (X.2.2.2.2.1) (X.1) (Or.inl (hw _ (List.mem_of_getElem? (i := 52) rfl))) (hw _ (List.mem_of_getElem? (i := 15) rfl)) (ty := .int) (by decide) rfl rfl g1 d9_79 ?_
      intro h79 W79
      have Y := own_X_at hw X W79
      refine r_iload d9_82 rfl ?_
      refine r_iloadN d9_84 rfl ?_
      refine r_icmp_le d9_85 (fun hc85 => ?_) (fun hc85 => ?_)
      · refine r_iconst (0 : Int32) rfl d9_92 ?_
        refine r_nret (t := .boolean) (by simp) d9_93 (by decide) (by decide) ?_
        refine ⟨i, ?_, hai, by omega, hj, fun q => absurd q.1 (by omega), Y⟩
        rw [if_neg (show ¬ a < i from fun q => hc85 ((n32_lt (by omega) (by omega)).mpr q))]; rfl
      · refine r_iconst (1 : Int32) rfl d9_88 ?_
        refine r_goto d9_89 ?_
        refine r_nret (t := .boolean) (by simp) d9_93 (by decide) (by decide) ?_
        refine ⟨i, ?_, hai, by omega, hj, fun q => absurd q.1 (by omega), Y⟩
        rw [if_pos (show a < i from (n32_lt (a := a) (b := i) (by omega) (by omega)).mp hc85)]; rfl
    · exfalso; have := (n32_lt (a := i) (b := n) (by omega) (by omega)).mp hc21; omega
  | succ t ih =>
    intro i h0 s5 hi hai hj h5 X
    refine r_iload d9_18 rfl ?_
    refine r_iloadN d9_20 rfl ?_
    refine r_icmp_ge d9_21 (fun hc21 => ?_) (fun hc21 => ?_)
    · exfalso; exact hc21 ((n32_lt (by omega) (by omega)).mpr (by omega))
    · refine r_aloadN d9_24 rfl rfl ?_
      refine r_iload d9_25 rfl ?_
      refine r_ldC (own_at vs i) X.2.2.2.2.2.2.2 (n32_nn (by omega)) (by rw [n32_clamp (by omega)]; exact own_get (by omega)) d9_27 ?_
      refine r_istore d9_28 [.val (.ref a1), .val (.ref b1), .val (.int n.toInt32), .val (.int a.toInt32), .val (.int i.toInt32), .val (.int (own_at vs i))] (by rcases h5 with rfl | ⟨x, rfl⟩ <;> rfl) ?_
      refine r_iload d9_30 rfl ?_
      refine r_bipush (10 : Int32) rfl d9_32 ?_
      refine r_icmp_eq d9_34 (fun hc34 => ?_) (fun hc34 => ?_)
      · refine r_aloadN d9_44 rfl rfl ?_
        refine r_iload d9_45 rfl ?_
        refine r_private [(.int i.toInt32)] [] a1 X.1 rfl pd9_0 rfl (hw _ (List.mem_of_getElem? (i := 65) rfl)) (hw _ (List.mem_of_getElem? (i := 66) rfl)) (hw _ (List.mem_of_getElem? (i := 67) rfl)) (hw _ (List.mem_of_getElem? (i := 15) rfl)) (hw _ (List.mem_of_getElem? (i := 16) rfl)) (hw _ (List.mem_of_getElem? (i := 68) rfl)) (by decide) (R' := ({ frames := 0, cells := 0, slots := 0, locals := 0 } : Room)) (ct11 hw a1 b1 i vs n _ _ _ X hl (by omega) (fun _ => hc34) g1) d9_47 rfl (by decide) 0 rfl (by decide) (by decide) (by decide) ?_
        rintro _ h47 ⟨rfl, Z47, Y47⟩
        show ORun _ _ _ _ _ _ _ _ _ _ h47 0 0 50 [.val (.ref a1), .val (.ref b1), .val (.int n.toInt32), .val (.int a.toInt32), .val (.int i.toInt32), .val (.int (own_at vs i))] []
        refine r_goto d9_50 ?_
        refine r_iinc d9_70 rfl (n32_add i 1) [.val (.ref a1), .val (.ref b1), .val (.int n.toInt32), .val (.int a.toInt32), .val (.int (i + 1).toInt32), .val (.int (own_at vs i))] rfl ?_
        refine r_goto d9_73 ?_
        have hend : own_at vs i = 10 ∨ own_at vs i = 13 := Or.inl hc34
        have e1 := own_lineS vs a i l0 hai (by omega)
        have e2 := own_lsS vs a i s0 hai (by omega)
        rw [if_pos hend] at e2
        exact ih (i + 1) _ _ (by omega) (by omega) (own_ext vs a i hj (Or.inr (Or.inr (Or.inl hc34)))) (Or.inr ⟨_, rfl⟩) (by rw [e1, e2]; exact Y47)
      · refine r_iload d9_37 rfl ?_
        refine r_bipush (13 : Int32) rfl d9_39 ?_
        refine r_icmp_ne d9_41 (fun hc41 => ?_) (fun hc41 => ?_)
        · refine r_iload d9_53 rfl ?_
          refine r_bipush (32 : Int32) rfl d9_55 ?_
          refine r_icmp_eq d9_57 (fun hc57 => ?_) (fun hc57 => ?_)
          · refine r_iinc d9_70 rfl (n32_add i 1) [.val (.ref a1), .val (.ref b1), .val (.int n.toInt32), .val (.int a.toInt32), .val (.int (i + 1).toInt32), .val (.int (own_at vs i))] rfl ?_
            refine r_goto d9_73 ?_
            have e1 := own_lineS vs a i l0 hai (by omega)
            have e2 := own_lsS vs a i s0 hai (by omega)
            rw [if_neg (fun q => q.elim hc34 hc41)] at e2
            rw [if_neg (fun q => q.elim hc41 fun r => hc34 r.1), Int32.add_zero] at e1
            exact ih (i + 1) _ _ (by omega) (by omega) (own_ext vs a i hj (Or.inl hc57)) (Or.inr ⟨_, rfl⟩) (by rw [e1, e2]; exact X)
          · refine r_iload d9_60 rfl ?_
            refine r_bipush (9 : Int32) rfl d9_62 ?_
            refine r_icmp_eq d9_64 (fun hc64 => ?_) (fun hc64 => ?_)
            · refine r_iinc d9_70 rfl (n32_add i 1) [.val (.ref a1), .val (.ref b1), .val (.int n.toInt32), .val (.int a.toInt32), .val (.int (i + 1).toInt32), .val (.int (own_at vs i))] rfl ?_
              refine r_goto d9_73 ?_
              have e1 := own_lineS vs a i l0 hai (by omega)
              have e2 := own_lsS vs a i s0 hai (by omega)
              rw [if_neg (fun q => q.elim hc34 hc41)] at e2
              rw [if_neg (fun q => q.elim hc41 fun r => hc34 r.1), Int32.add_zero] at e1
              exact ih (i + 1) _ _ (by omega) (by omega) (own_ext vs a i hj (Or.inr (Or.inl hc64))) (Or.inr ⟨_, rfl⟩) (by rw [e1, e2]; exact X)
            · refine r_goto d9_67 ?_
              refine r_aloadN d9_76 rfl rfl ?_
              refine r_iload d9_77 rfl ?_
              refine r_putF (host := "") (Or.inl (hw _ (List.mem_of_getElem? (i := 61) rfl))) (X.2.2.2.2.1) (X.1) (Or.inl (hw _ (List.mem_of_getElem? (i := 52) rfl))) (hw _ (List.mem_of_getElem? (i := 15) rfl)) (ty := .int) (by decide) rfl rfl g1 d9_79 ?_
              intro h79 W79
              have Y := own_X_at hw X W79
              refine r_iload d9_82 rfl ?_
              refine r_iloadN d9_84 rfl ?_
              refine r_icmp_le d9_85 (fun hc85 => ?_) (fun hc85 => ?_)
              · refine r_iconst (0 : Int32) rfl d9_92 ?_
                refine r_nret (t := .boolean) (by simp) d9_93 (by decide) (by decide) ?_
                refine ⟨i, ?_, hai, by omega, hj, fun q => q.2.elim hc57 fun r => r.elim hc64 fun z => z.elim hc34 hc41, Y⟩
                rw [if_neg (show ¬ a < i from fun q => hc85 ((n32_lt (by omega) (by omega)).mpr q))]; rfl
              · refine r_iconst (1 : Int32) rfl d9_88 ?_
                refine r_goto d9_89 ?_
                refine r_nret (t := .boolean) (by simp) d9_93 (by decide) (by decide) ?_
                refine ⟨i, ?_, hai, by omega, hj, fun q => q.2.elim hc57 fun r => r.elim hc64 fun z => z.elim hc34 hc41, Y⟩
                rw [if_pos (show a < i from (n32_lt (a := a) (b := i) (by omega) (by omega)).mp hc85)]; rfl
        · refine r_aloadN d9_44 rfl rfl ?_
          refine r_iload d9_45 rfl ?_
          refine r_private [(.int i.toInt32)] [] a1 X.1 rfl pd9_0 rfl (hw _ (List.mem_of_getElem? (i := 65) rfl)) (hw _ (List.mem_of_getElem? (i := 66) rfl)) (hw _ (List.mem_of_getElem? (i := 67) rfl)) (hw _ (List.mem_of_getElem? (i := 15) rfl)) (hw _ (List.mem_of_getElem? (i := 16) rfl)) (hw _ (List.mem_of_getElem? (i := 68) rfl)) (by decide) (R' := ({ frames := 0, cells := 0, slots := 0, locals := 0 } : Room)) (ct11 hw a1 b1 i vs n _ _ _ X hl (by omega) (fun q => absurd hc41 q) g1) d9_47 rfl (by decide) 0 rfl (by decide) (by decide) (by decide) ?_
          rintro _ h47 ⟨rfl, Z47, Y47⟩
          show ORun _ _ _ _ _ _ _ _ _ _ h47 0 0 50 [.val (.ref a1), .val (.ref b1), .val (.int n.toInt32), .val (.int a.toInt32), .val (.int i.toInt32), .val (.int (own_at vs i))] []
          refine r_goto d9_50 ?_
          refine r_iinc d9_70 rfl (n32_add i 1) [.val (.ref a1), .val (.ref b1), .val (.int n.toInt32), .val (.int a.toInt32), .val (.int (i + 1).toInt32), .val (.int (own_at vs i))] rfl ?_
          refine r_goto d9_73 ?_
          have hend : own_at vs i = 10 ∨ own_at vs i = 13 := Or.inr hc41
          have e1 := own_lineS vs a i l0 hai (by omega)
          have e2 := own_lsS vs a i s0 hai (by omega)
          rw [if_pos hend] at e2
          exact ih (i + 1) _ _ (by omega) (by omega) (own_ext vs a i hj (Or.inr (Or.inr (Or.inr hc41)))) (Or.inr ⟨_, rfl⟩) (by rw [e1, e2]; exact Y47)
set_option maxRecDepth 65536 in
set_option maxHeartbeats 40000000 in
theorem ct9 {l : Launch} {Z : State} {a0 : Array Value} (hw : ∀ d ∈ tables_1, d.before a0 Z = true) {n0 : Nat} {h0 : Heap} (a1 b1 : Addr) (vs : List Int32) (n a : Nat) (l0 s0 : Int32) (X : own_X Z h0 a1 b1 vs n a.toInt32 l0 s0) (hl : vs.length = 4) (hn : n ≤ 4) (ha : a ≤ n) (g1 : n0 ≤ a1) : Ct l ⟨"com/example/flowsieve/flowsieve/xml/XmlScanner", "skipSpace", "()Z"⟩ prog_56_method_15_code 6 (some .boolean) [] ({ frames := 1, cells := 0, slots := 0, locals := 20 } : Room) Z n0 #[(.ref a1)] h0 (fun v h => ∃ e : Nat, v = some (.int (if a < e then 1 else 0)) ∧ a ≤ e ∧ e ≤ n ∧ (∀ j, a ≤ j → j < e → own_ws (own_at vs j)) ∧ ¬ (e < n ∧ own_ws (own_at vs e)) ∧ own_X Z h a1 b1 vs n e.toInt32 (own_line vs a e l0) (own_ls vs a e s0)) := by
  refine Ct.of (ls := [.val (.ref a1), .unset, .unset, .unset, .unset, .unset]) pn9 (fun m => by first | (simp [entryFrame, mkF, argsToLocals, Value.category]; done) | rfl) ?_
  refine r_aloadN d9_0 rfl rfl ?_
  refine r_getF (host := "") (Or.inl (hw _ (List.mem_of_getElem? (i := 28) rfl))) (v := (.ref b1)) (X.2.2.1) d9_1 ?_
  refine r_astoreN d9_4 rfl [.val (.ref a1), .val (.ref b1), .unset, .unset, .unset, .unset] rfl ?_
  refine r_aloadN d9_5 rfl rfl ?_
  refine r_getF (host := "") (Or.inl (hw _ (List.mem_of_getElem? (i := 30) rfl))) (v := (.int n.toInt32)) (X.2.2.2.1) d9_6 ?_
  refine r_istoreN d9_9 [.val (.ref a1), .val (.ref b1), .val (.int n.toInt32), .unset, .unset, .unset] rfl ?_
  refine r_aloadN d9_10 rfl rfl ?_
  refine r_getF (host := "") (Or.inl (hw _ (List.mem_of_getElem? (i := 61) rfl))) (v := (.int a.toInt32)) (X.2.2.2.2.1) d9_11 ?_
  refine r_istoreN d9_14 [.val (.ref a1), .val (.ref b1), .val (.int n.toInt32), .val (.int a.toInt32), .unset, .unset] rfl ?_
  refine r_iloadN d9_15 rfl ?_
  refine r_istore d9_16 [.val (.ref a1), .val (.ref b1), .val (.int n.toInt32), .val (.int a.toInt32), .val (.int a.toInt32), .unset] rfl ?_
  exact lp9 hw a1 b1 vs n a l0 s0 hl hn g1 (n - a) a _ _ (by omega) (Nat.le_refl _) (fun j h1 h2 => absurd h2 (by omega)) (Or.inl rfl) (by rw [own_line0, own_ls0]; exact X)
theorem d0_0 : D code 0 (.iconst 4) 1 1 := ⟨by decide +kernel, rfl⟩
theorem d0_1 : D code 1 (.newarray .char) 2 3 := ⟨by decide +kernel, rfl⟩
theorem d0_3 : D code 3 (.astore 7) 2 5 := ⟨by decide +kernel, rfl⟩
theorem d0_5 : D code 5 (.aload 7) 2 7 := ⟨by decide +kernel, rfl⟩
theorem d0_7 : D code 7 (.iconst 0) 1 8 := ⟨by decide +kernel, rfl⟩
theorem d0_8 : D code 8 (.iload_n 0) 1 9 := ⟨by decide +kernel, rfl⟩
theorem d0_9 : D code 9 (.invokestatic 13) 3 12 := ⟨by decide +kernel, rfl⟩
theorem d0_12 : D code 12 (.castore) 1 13 := ⟨by decide +kernel, rfl⟩
theorem d0_13 : D code 13 (.aload 7) 2 15 := ⟨by decide +kernel, rfl⟩
theorem d0_15 : D code 15 (.iconst 1) 1 16 := ⟨by decide +kernel, rfl⟩
theorem d0_16 : D code 16 (.iload_n 1) 1 17 := ⟨by decide +kernel, rfl⟩
theorem d0_17 : D code 17 (.invokestatic 13) 3 20 := ⟨by decide +kernel, rfl⟩
theorem d0_20 : D code 20 (.castore) 1 21 := ⟨by decide +kernel, rfl⟩
theorem d0_21 : D code 21 (.aload 7) 2 23 := ⟨by decide +kernel, rfl⟩
theorem d0_23 : D code 23 (.iconst 2) 1 24 := ⟨by decide +kernel, rfl⟩
theorem d0_24 : D code 24 (.iload_n 2) 1 25 := ⟨by decide +kernel, rfl⟩
theorem d0_25 : D code 25 (.invokestatic 13) 3 28 := ⟨by decide +kernel, rfl⟩
theorem d0_28 : D code 28 (.castore) 1 29 := ⟨by decide +kernel, rfl⟩
theorem d0_29 : D code 29 (.aload 7) 2 31 := ⟨by decide +kernel, rfl⟩
theorem d0_31 : D code 31 (.iconst 3) 1 32 := ⟨by decide +kernel, rfl⟩
theorem d0_32 : D code 32 (.iload_n 3) 1 33 := ⟨by decide +kernel, rfl⟩
theorem d0_33 : D code 33 (.invokestatic 13) 3 36 := ⟨by decide +kernel, rfl⟩
theorem d0_36 : D code 36 (.castore) 1 37 := ⟨by decide +kernel, rfl⟩
theorem d0_37 : D code 37 (.iload 4) 2 39 := ⟨by decide +kernel, rfl⟩
theorem d0_39 : D code 39 (.sipush 255) 3 42 := ⟨by decide +kernel, rfl⟩
theorem d0_42 : D code 42 (.iand) 1 43 := ⟨by decide +kernel, rfl⟩
theorem d0_43 : D code 43 (.iconst 5) 1 44 := ⟨by decide +kernel, rfl⟩
theorem d0_44 : D code 44 (.irem) 1 45 := ⟨by decide +kernel, rfl⟩
theorem d0_45 : D code 45 (.istore 8) 2 47 := ⟨by decide +kernel, rfl⟩
theorem d0_47 : D code 47 (.iload 4) 2 49 := ⟨by decide +kernel, rfl⟩
theorem d0_49 : D code 49 (.bipush 8) 2 51 := ⟨by decide +kernel, rfl⟩
theorem d0_51 : D code 51 (.iushr) 1 52 := ⟨by decide +kernel, rfl⟩
theorem d0_52 : D code 52 (.iload 8) 2 54 := ⟨by decide +kernel, rfl⟩
theorem d0_54 : D code 54 (.iconst 1) 1 55 := ⟨by decide +kernel, rfl⟩
theorem d0_55 : D code 55 (.iadd) 1 56 := ⟨by decide +kernel, rfl⟩
theorem d0_56 : D code 56 (.irem) 1 57 := ⟨by decide +kernel, rfl⟩
theorem d0_57 : D code 57 (.istore 9) 2 59 := ⟨by decide +kernel, rfl⟩
theorem d0_59 : D code 59 (.lload 5) 2 61 := ⟨by decide +kernel, rfl⟩
theorem d0_61 : D code 61 (.l2i) 1 62 := ⟨by decide +kernel, rfl⟩
theorem d0_62 : D code 62 (.istore 10) 2 64 := ⟨by decide +kernel, rfl⟩
theorem d0_64 : D code 64 (.lload 5) 2 66 := ⟨by decide +kernel, rfl⟩
theorem d0_66 : D code 66 (.bipush 32) 2 68 := ⟨by decide +kernel, rfl⟩
theorem d0_68 : D code 68 (.lushr) 1 69 := ⟨by decide +kernel, rfl⟩
theorem d0_69 : D code 69 (.l2i) 1 70 := ⟨by decide +kernel, rfl⟩
theorem d0_70 : D code 70 (.istore 11) 2 72 := ⟨by decide +kernel, rfl⟩
theorem d0_72 : D code 72 (.iload 9) 2 74 := ⟨by decide +kernel, rfl⟩
theorem d0_74 : D code 74 (.istore 12) 2 76 := ⟨by decide +kernel, rfl⟩
theorem d0_76 : D code 76 (.aload 7) 2 78 := ⟨by decide +kernel, rfl⟩
theorem d0_78 : D code 78 (.iload 12) 2 80 := ⟨by decide +kernel, rfl⟩
theorem d0_80 : D code 80 (.iload 8) 2 82 := ⟨by decide +kernel, rfl⟩
theorem d0_82 : D code 82 (.invokestatic 17) 3 85 := ⟨by decide +kernel, rfl⟩
theorem d0_85 : D code 85 (.istore 12) 2 87 := ⟨by decide +kernel, rfl⟩
theorem d0_87 : D code 87 (.aload 7) 2 89 := ⟨by decide +kernel, rfl⟩
theorem d0_89 : D code 89 (.iload 12) 2 91 := ⟨by decide +kernel, rfl⟩
theorem d0_91 : D code 91 (.iload 8) 2 93 := ⟨by decide +kernel, rfl⟩
theorem d0_93 : D code 93 (.invokestatic 17) 3 96 := ⟨by decide +kernel, rfl⟩
theorem d0_96 : D code 96 (.istore 12) 2 98 := ⟨by decide +kernel, rfl⟩
theorem d0_98 : D code 98 (.aload 7) 2 100 := ⟨by decide +kernel, rfl⟩
theorem d0_100 : D code 100 (.iload 12) 2 102 := ⟨by decide +kernel, rfl⟩
theorem d0_102 : D code 102 (.iload 8) 2 104 := ⟨by decide +kernel, rfl⟩
theorem d0_104 : D code 104 (.invokestatic 17) 3 107 := ⟨by decide +kernel, rfl⟩
theorem d0_107 : D code 107 (.istore 12) 2 109 := ⟨by decide +kernel, rfl⟩
theorem d0_109 : D code 109 (.aload 7) 2 111 := ⟨by decide +kernel, rfl⟩
theorem d0_111 : D code 111 (.iload 12) 2 113 := ⟨by decide +kernel, rfl⟩
theorem d0_113 : D code 113 (.iload 8) 2 115 := ⟨by decide +kernel, rfl⟩
theorem d0_115 : D code 115 (.invokestatic 17) 3 118 := ⟨by decide +kernel, rfl⟩
theorem d0_118 : D code 118 (.istore 12) 2 120 := ⟨by decide +kernel, rfl⟩
theorem d0_120 : D code 120 (.iload 10) 2 122 := ⟨by decide +kernel, rfl⟩
theorem d0_122 : D code 122 (.aload 7) 2 124 := ⟨by decide +kernel, rfl⟩
theorem d0_124 : D code 124 (.iconst 0) 1 125 := ⟨by decide +kernel, rfl⟩
theorem d0_125 : D code 125 (.iload 9) 2 127 := ⟨by decide +kernel, rfl⟩
theorem d0_127 : D code 127 (.iload 12) 2 129 := ⟨by decide +kernel, rfl⟩
theorem d0_129 : D code 129 (.invokestatic 21) 3 132 := ⟨by decide +kernel, rfl⟩
theorem d0_132 : D code 132 (.iadd) 1 133 := ⟨by decide +kernel, rfl⟩
theorem d0_133 : D code 133 (.aload 7) 2 135 := ⟨by decide +kernel, rfl⟩
theorem d0_135 : D code 135 (.iconst 1) 1 136 := ⟨by decide +kernel, rfl⟩
theorem d0_136 : D code 136 (.iload 9) 2 138 := ⟨by decide +kernel, rfl⟩
theorem d0_138 : D code 138 (.iload 12) 2 140 := ⟨by decide +kernel, rfl⟩
theorem d0_140 : D code 140 (.invokestatic 21) 3 143 := ⟨by decide +kernel, rfl⟩
theorem d0_143 : D code 143 (.iadd) 1 144 := ⟨by decide +kernel, rfl⟩
theorem d0_144 : D code 144 (.aload 7) 2 146 := ⟨by decide +kernel, rfl⟩
theorem d0_146 : D code 146 (.iconst 2) 1 147 := ⟨by decide +kernel, rfl⟩
theorem d0_147 : D code 147 (.iload 9) 2 149 := ⟨by decide +kernel, rfl⟩
theorem d0_149 : D code 149 (.iload 12) 2 151 := ⟨by decide +kernel, rfl⟩
theorem d0_151 : D code 151 (.invokestatic 21) 3 154 := ⟨by decide +kernel, rfl⟩
theorem d0_154 : D code 154 (.iadd) 1 155 := ⟨by decide +kernel, rfl⟩
theorem d0_155 : D code 155 (.aload 7) 2 157 := ⟨by decide +kernel, rfl⟩
theorem d0_157 : D code 157 (.iconst 3) 1 158 := ⟨by decide +kernel, rfl⟩
theorem d0_158 : D code 158 (.iload 9) 2 160 := ⟨by decide +kernel, rfl⟩
theorem d0_160 : D code 160 (.iload 12) 2 162 := ⟨by decide +kernel, rfl⟩
theorem d0_162 : D code 162 (.invokestatic 21) 3 165 := ⟨by decide +kernel, rfl⟩
theorem d0_165 : D code 165 (.iadd) 1 166 := ⟨by decide +kernel, rfl⟩
theorem d0_166 : D code 166 (.istore 13) 2 168 := ⟨by decide +kernel, rfl⟩
theorem d0_168 : D code 168 (.iload 11) 2 170 := ⟨by decide +kernel, rfl⟩
theorem d0_170 : D code 170 (.istore 14) 2 172 := ⟨by decide +kernel, rfl⟩
theorem d0_172 : D code 172 (.aload 7) 2 174 := ⟨by decide +kernel, rfl⟩
theorem d0_174 : D code 174 (.iconst 0) 1 175 := ⟨by decide +kernel, rfl⟩
theorem d0_175 : D code 175 (.iload 9) 2 177 := ⟨by decide +kernel, rfl⟩
theorem d0_177 : D code 177 (.iload 12) 2 179 := ⟨by decide +kernel, rfl⟩
theorem d0_179 : D code 179 (.invokestatic 25) 3 182 := ⟨by decide +kernel, rfl⟩
theorem d0_182 : DB code 182 (.ifCond .eq) 6 185 188 := ⟨by decide +kernel, rfl, by decide, by decide⟩
theorem d0_185 : D code 185 (.iconst 1) 1 186 := ⟨by decide +kernel, rfl⟩
theorem d0_186 : D code 186 (.istore 14) 2 188 := ⟨by decide +kernel, rfl⟩
theorem d0_188 : D code 188 (.aload 7) 2 190 := ⟨by decide +kernel, rfl⟩
theorem d0_190 : D code 190 (.iconst 1) 1 191 := ⟨by decide +kernel, rfl⟩
theorem d0_191 : D code 191 (.iload 9) 2 193 := ⟨by decide +kernel, rfl⟩
theorem d0_193 : D code 193 (.iload 12) 2 195 := ⟨by decide +kernel, rfl⟩
theorem d0_195 : D code 195 (.invokestatic 25) 3 198 := ⟨by decide +kernel, rfl⟩
theorem d0_198 : DB code 198 (.ifCond .eq) 6 201 204 := ⟨by decide +kernel, rfl, by decide, by decide⟩
theorem d0_201 : D code 201 (.iconst 2) 1 202 := ⟨by decide +kernel, rfl⟩
theorem d0_202 : D code 202 (.istore 14) 2 204 := ⟨by decide +kernel, rfl⟩
theorem d0_204 : D code 204 (.aload 7) 2 206 := ⟨by decide +kernel, rfl⟩
theorem d0_206 : D code 206 (.iconst 2) 1 207 := ⟨by decide +kernel, rfl⟩
theorem d0_207 : D code 207 (.iload 9) 2 209 := ⟨by decide +kernel, rfl⟩
theorem d0_209 : D code 209 (.iload 12) 2 211 := ⟨by decide +kernel, rfl⟩
theorem d0_211 : D code 211 (.invokestatic 25) 3 214 := ⟨by decide +kernel, rfl⟩
theorem d0_214 : DB code 214 (.ifCond .eq) 6 217 220 := ⟨by decide +kernel, rfl, by decide, by decide⟩
theorem d0_217 : D code 217 (.iconst 3) 1 218 := ⟨by decide +kernel, rfl⟩
theorem d0_218 : D code 218 (.istore 14) 2 220 := ⟨by decide +kernel, rfl⟩
theorem d0_220 : D code 220 (.aload 7) 2 222 := ⟨by decide +kernel, rfl⟩
theorem d0_222 : D code 222 (.iconst 3) 1 223 := ⟨by decide +kernel, rfl⟩
theorem d0_223 : D code 223 (.iload 9) 2 225 := ⟨by decide +kernel, rfl⟩
theorem d0_225 : D code 225 (.iload 12) 2 227 := ⟨by decide +kernel, rfl⟩
theorem d0_227 : D code 227 (.invokestatic 25) 3 230 := ⟨by decide +kernel, rfl⟩
theorem d0_230 : DB code 230 (.ifCond .eq) 6 233 236 := ⟨by decide +kernel, rfl, by decide, by decide⟩
theorem d0_233 : D code 233 (.iconst 4) 1 234 := ⟨by decide +kernel, rfl⟩
theorem d0_234 : D code 234 (.istore 14) 2 236 := ⟨by decide +kernel, rfl⟩
theorem d0_236 : D code 236 (.new 29) 3 239 := ⟨by decide +kernel, rfl⟩
theorem d0_239 : D code 239 (.dup) 1 240 := ⟨by decide +kernel, rfl⟩
theorem d0_240 : D code 240 (.aload 7) 2 242 := ⟨by decide +kernel, rfl⟩
theorem d0_242 : D code 242 (.iload 8) 2 244 := ⟨by decide +kernel, rfl⟩
theorem d0_244 : D code 244 (.invokespecial 31) 3 247 := ⟨by decide +kernel, rfl⟩
theorem d0_247 : D code 247 (.astore 15) 2 249 := ⟨by decide +kernel, rfl⟩
theorem d0_249 : D code 249 (.aload 15) 2 251 := ⟨by decide +kernel, rfl⟩
theorem d0_251 : D code 251 (.iload 9) 2 253 := ⟨by decide +kernel, rfl⟩
theorem d0_253 : D code 253 (.putfield 34) 3 256 := ⟨by decide +kernel, rfl⟩
theorem d0_256 : D code 256 (.aload 15) 2 258 := ⟨by decide +kernel, rfl⟩
theorem d0_258 : D code 258 (.iload 10) 2 260 := ⟨by decide +kernel, rfl⟩
theorem d0_260 : D code 260 (.putfield 38) 3 263 := ⟨by decide +kernel, rfl⟩
theorem d0_263 : D code 263 (.aload 15) 2 265 := ⟨by decide +kernel, rfl⟩
theorem d0_265 : D code 265 (.iload 11) 2 267 := ⟨by decide +kernel, rfl⟩
theorem d0_267 : D code 267 (.putfield 41) 3 270 := ⟨by decide +kernel, rfl⟩
theorem d0_270 : D code 270 (.aload 15) 2 272 := ⟨by decide +kernel, rfl⟩
theorem d0_272 : D code 272 (.invokevirtual 44) 3 275 := ⟨by decide +kernel, rfl⟩
theorem d0_275 : D code 275 (.istore 16) 2 277 := ⟨by decide +kernel, rfl⟩
theorem d0_277 : D code 277 (.iload 16) 2 279 := ⟨by decide +kernel, rfl⟩
theorem d0_279 : D code 279 (.iload 12) 2 281 := ⟨by decide +kernel, rfl⟩
theorem d0_281 : D code 281 (.iload 9) 2 283 := ⟨by decide +kernel, rfl⟩
theorem d0_283 : DB code 283 (.if_icmp .le) 7 286 290 := ⟨by decide +kernel, rfl, by decide, by decide⟩
theorem d0_286 : D code 286 (.iconst 1) 1 287 := ⟨by decide +kernel, rfl⟩
theorem d0_287 : DB code 287 (.goto) 4 290 291 := ⟨by decide +kernel, rfl, by decide, by decide⟩
theorem d0_290 : D code 290 (.iconst 0) 1 291 := ⟨by decide +kernel, rfl⟩
theorem d0_291 : DB code 291 (.if_icmp .ne) 37 294 328 := ⟨by decide +kernel, rfl, by decide, by decide⟩
theorem d0_294 : D code 294 (.aload 15) 2 296 := ⟨by decide +kernel, rfl⟩
theorem d0_296 : D code 296 (.getfield 34) 3 299 := ⟨by decide +kernel, rfl⟩
theorem d0_299 : D code 299 (.iload 12) 2 301 := ⟨by decide +kernel, rfl⟩
theorem d0_301 : DB code 301 (.if_icmp .ne) 27 304 328 := ⟨by decide +kernel, rfl, by decide, by decide⟩
theorem d0_304 : D code 304 (.aload 15) 2 306 := ⟨by decide +kernel, rfl⟩
theorem d0_306 : D code 306 (.getfield 38) 3 309 := ⟨by decide +kernel, rfl⟩
theorem d0_309 : D code 309 (.iload 13) 2 311 := ⟨by decide +kernel, rfl⟩
theorem d0_311 : DB code 311 (.if_icmp .ne) 17 314 328 := ⟨by decide +kernel, rfl, by decide, by decide⟩
theorem d0_314 : D code 314 (.aload 15) 2 316 := ⟨by decide +kernel, rfl⟩
theorem d0_316 : D code 316 (.getfield 41) 3 319 := ⟨by decide +kernel, rfl⟩
theorem d0_319 : D code 319 (.iload 14) 2 321 := ⟨by decide +kernel, rfl⟩
theorem d0_321 : DB code 321 (.if_icmp .ne) 7 324 328 := ⟨by decide +kernel, rfl, by decide, by decide⟩
theorem d0_324 : D code 324 (.iconst 1) 1 325 := ⟨by decide +kernel, rfl⟩
theorem d0_325 : DB code 325 (.goto) 4 328 329 := ⟨by decide +kernel, rfl, by decide, by decide⟩
theorem d0_329 : D code 329 (.ireturn) 1 330 := ⟨by decide +kernel, rfl⟩
theorem pd0_0 : parseMethodDescriptor "(I)C" = some ⟨[.int], some .char⟩ := by decide +kernel
theorem pd0_1 : parseMethodDescriptor "([CII)I" = some ⟨[(.array .char), .int, .int], some .int⟩ := by decide +kernel
theorem pd0_2 : parseMethodDescriptor "([CIII)I" = some ⟨[(.array .char), .int, .int, .int], some .int⟩ := by decide +kernel
theorem pd0_3 : parseMethodDescriptor "([CIII)Z" = some ⟨[(.array .char), .int, .int, .int], some .boolean⟩ := by decide +kernel
theorem pd0_4 : parseMethodDescriptor "([CI)V" = some ⟨[(.array .char), .int], none⟩ := by decide +kernel
theorem pd0_5 : parseMethodDescriptor "()Z" = some ⟨[], some .boolean⟩ := by decide +kernel
theorem pn0 : plainFor (⟨"com/example/flowsieve/flowsieve/xml/XmlScannerSkipSpacePinLaw", "law", "(IIIIIJ)Z"⟩ : MethodName) = true := by first | exact plainFor_of_name (by first | (simp [plainName, overriddenIn]; done) | decide +kernel) | exact Jvm.Free.JP.mathPlain rfl (by decide +kernel) | decide +kernel
set_option maxRecDepth 65536 in
set_option maxHeartbeats 40000000 in
theorem ct0 {l : Launch} {Z : State} {a0 : Array Value} (hw : ∀ d ∈ tables_1, d.before a0 Z = true) {n0 : Nat} {h0 : Heap} (hz : n0 ≤ h0.size) (p1 p2 p3 p4 p5 : Int32) (p6 : Int64) : Ct l x code maxLocals ret tables_1 room_1 Z n0 #[(.int p1), (.int p2), (.int p3), (.int p4), (.int p5), (.long p6)] h0 (fun v h => v = some (.int 1)) := by
  refine Ct.of (ls := [.val (.int p1), .val (.int p2), .val (.int p3), .val (.int p4), .val (.int p5), .val (.long p6), .second, .unset, .unset, .unset, .unset, .unset, .unset, .unset, .unset, .unset, .unset]) pn0 (fun m => by first | (simp [entryFrame, mkF, argsToLocals, Value.category, maxLocals]; done) | rfl) ?_
  refine r_iconst (4 : Int32) rfl d0_0 ?_
  refine r_newarr 4 (hw _ (List.mem_of_getElem? (i := 0) rfl)) d0_1 (by decide) (by decide) (by decide) (by decide) (by decide) ?_
  intro hn1 cA1 E1 A1
  obtain ⟨b1, g1⟩ : ∃ z, z = h0.size := ⟨_, rfl⟩
  rw [← g1] at A1 ⊢
  have V1 : Ary Z hn1 b1 .char [0, 0, 0, 0] := Ary.new A1 rfl rfl
  show ORun _ _ _ _ _ _ _ _ _ _ hn1 1 4 3 [.val (.int p1), .val (.int p2), .val (.int p3), .val (.int p4), .val (.int p5), .val (.long p6), .second, .unset, .unset, .unset, .unset, .unset, .unset, .unset, .unset, .unset, .unset] [(.ref b1)]
  have ge1 : n0 ≤ b1 := by rw [g1]; exact hz
  refine r_astore d0_3 rfl [.val (.int p1), .val (.int p2), .val (.int p3), .val (.int p4), .val (.int p5), .val (.long p6), .second, .val (.ref b1), .unset, .unset, .unset, .unset, .unset, .unset, .unset, .unset, .unset] rfl ?_
  refine r_aload d0_5 rfl rfl ?_
  refine r_iconst (0 : Int32) rfl d0_7 ?_
  refine r_iloadN d0_8 rfl ?_
  refine r_static [(.int p1)] [(.int (0 : Int32)), (.ref b1)] rfl pd0_0 rfl (hw _ (List.mem_of_getElem? (i := 1) rfl)) (hw _ (List.mem_of_getElem? (i := 2) rfl)) (hw _ (List.mem_of_getElem? (i := 3) rfl)) (hw _ (List.mem_of_getElem? (i := 4) rfl)) (by decide) (R' := ({ frames := 0, cells := 0, slots := 0, locals := 0 } : Room)) (ct1 hw p1) d0_9 rfl (by decide) 2 rfl (by decide) (by decide) (by decide) ?_
  rintro _ hq9 ⟨c9, rfl, eq9⟩
  rw [eq9]
  show ORun _ _ _ _ _ _ _ _ _ _ hn1 1 4 12 [.val (.int p1), .val (.int p2), .val (.int p3), .val (.int p4), .val (.int p5), .val (.long p6), .second, .val (.ref b1), .unset, .unset, .unset, .unset, .unset, .unset, .unset, .unset, .unset] [(.int c9), (.int (0 : Int32)), (.ref b1)]
  refine r_stC 0 [(nar .char c9), (0 : Int32), (0 : Int32), (0 : Int32)] V1 (by decide) rfl (Nat.le_of_ble_eq_true rfl) rfl ge1 d0_12 ?_
  intro h12 W12 V12
  refine r_aload d0_13 rfl rfl ?_
  refine r_iconst (1 : Int32) rfl d0_15 ?_
  refine r_iloadN d0_16 rfl ?_
  refine r_static [(.int p2)] [(.int (1 : Int32)), (.ref b1)] rfl pd0_0 rfl (hw _ (List.mem_of_getElem? (i := 1) rfl)) (hw _ (List.mem_of_getElem? (i := 2) rfl)) (hw _ (List.mem_of_getElem? (i := 3) rfl)) (hw _ (List.mem_of_getElem? (i := 4) rfl)) (by decide) (R' := ({ frames := 0, cells := 0, slots := 0, locals := 0 } : Room)) (ct1 hw p2) d0_17 rfl (by decide) 2 rfl (by decide) (by decide) (by decide) ?_
  rintro _ hq17 ⟨c17, rfl, eq17⟩
  rw [eq17]
  show ORun _ _ _ _ _ _ _ _ _ _ h12 1 4 20 [.val (.int p1), .val (.int p2), .val (.int p3), .val (.int p4), .val (.int p5), .val (.long p6), .second, .val (.ref b1), .unset, .unset, .unset, .unset, .unset, .unset, .unset, .unset, .unset] [(.int c17), (.int (1 : Int32)), (.ref b1)]
  refine r_stC 1 [(nar .char c9), (nar .char c17), (0 : Int32), (0 : Int32)] V12 (by decide) rfl (Nat.le_of_ble_eq_true rfl) rfl ge1 d0_20 ?_
  intro h20 W20 V20
  refine r_aload d0_21 rfl rfl ?_
  refine r_iconst (2 : Int32) rfl d0_23 ?_
  refine r_iloadN d0_24 rfl ?_
  refine r_static [(.int p3)] [(.int (2 : Int32)), (.ref b1)] rfl pd0_0 rfl (hw _ (List.mem_of_getElem? (i := 1) rfl)) (hw _ (List.mem_of_getElem? (i := 2) rfl)) (hw _ (List.mem_of_getElem? (i := 3) rfl)) (hw _ (List.mem_of_getElem? (i := 4) rfl)) (by decide) (R' := ({ frames := 0, cells := 0, slots := 0, locals := 0 } : Room)) (ct1 hw p3) d0_25 rfl (by decide) 2 rfl (by decide) (by decide) (by decide) ?_
  rintro _ hq25 ⟨c25, rfl, eq25⟩
  rw [eq25]
  show ORun _ _ _ _ _ _ _ _ _ _ h20 1 4 28 [.val (.int p1), .val (.int p2), .val (.int p3), .val (.int p4), .val (.int p5), .val (.long p6), .second, .val (.ref b1), .unset, .unset, .unset, .unset, .unset, .unset, .unset, .unset, .unset] [(.int c25), (.int (2 : Int32)), (.ref b1)]
  refine r_stC 2 [(nar .char c9), (nar .char c17), (nar .char c25), (0 : Int32)] V20 (by decide) rfl (Nat.le_of_ble_eq_true rfl) rfl ge1 d0_28 ?_
  intro h28 W28 V28
  refine r_aload d0_29 rfl rfl ?_
  refine r_iconst (3 : Int32) rfl d0_31 ?_
  refine r_iloadN d0_32 rfl ?_
  refine r_static [(.int p4)] [(.int (3 : Int32)), (.ref b1)] rfl pd0_0 rfl (hw _ (List.mem_of_getElem? (i := 1) rfl)) (hw _ (List.mem_of_getElem? (i := 2) rfl)) (hw _ (List.mem_of_getElem? (i := 3) rfl)) (hw _ (List.mem_of_getElem? (i := 4) rfl)) (by decide) (R' := ({ frames := 0, cells := 0, slots := 0, locals := 0 } : Room)) (ct1 hw p4) d0_33 rfl (by decide) 2 rfl (by decide) (by decide) (by decide) ?_
  rintro _ hq33 ⟨c33, rfl, eq33⟩
  rw [eq33]
  show ORun _ _ _ _ _ _ _ _ _ _ h28 1 4 36 [.val (.int p1), .val (.int p2), .val (.int p3), .val (.int p4), .val (.int p5), .val (.long p6), .second, .val (.ref b1), .unset, .unset, .unset, .unset, .unset, .unset, .unset, .unset, .unset] [(.int c33), (.int (3 : Int32)), (.ref b1)]
  refine r_stC 3 [(nar .char c9), (nar .char c17), (nar .char c25), (nar .char c33)] V28 (by decide) rfl (Nat.le_of_ble_eq_true rfl) rfl ge1 d0_36 ?_
  intro h36 W36 V36
  obtain ⟨vs, hl, V⟩ : ∃ vs : List Int32, vs.length = 4 ∧ Ary Z h36 b1 .char vs := ⟨_, rfl, V36⟩
  have hz36 : n0 ≤ h36.size := Nat.le_trans ge1 (Nat.le_of_lt V.lt)
  refine r_iload d0_37 rfl ?_
  refine r_sipush (255 : Int32) rfl d0_39 ?_
  refine r_iand d0_42 ?_
  obtain ⟨u, e_u, l_u⟩ := n32_and p5 255 8 (by decide) (by decide)
  rw [e_u]
  refine r_iconst (5 : Int32) rfl d0_43 ?_
  refine r_irem d0_44 (by decide) ?_
  rw [show u.toInt32 % (5 : Int32) = (u % 5).toInt32 from n32_rem (k := 5) (by omega) (by decide) (by decide)]
  obtain ⟨n, e_n⟩ : ∃ n, n = u % 5 := ⟨_, rfl⟩
  rw [← e_n]
  have hn : n ≤ 4 := by omega
  refine r_istore d0_45 [.val (.int p1), .val (.int p2), .val (.int p3), .val (.int p4), .val (.int p5), .val (.long p6), .second, .val (.ref b1), .val (.int n.toInt32), .unset, .unset, .unset, .unset, .unset, .unset, .unset, .unset] rfl ?_
  refine r_iload d0_47 rfl ?_
  refine r_bipush (8 : Int32) rfl d0_49 ?_
  refine r_iushr d0_51 ?_
  obtain ⟨t, e_t, l_t⟩ := n32_ushr p5 8 8 (by decide) (by decide)
  rw [e_t]
  refine r_iload d0_52 rfl ?_
  refine r_iconst (1 : Int32) rfl d0_54 ?_
  refine r_iadd d0_55 ?_
  rw [show n.toInt32 + (1 : Int32) = (n + 1).toInt32 from n32_add n 1]
  refine r_irem d0_56 (fun z => by have := (n32_eq (a := n + 1) (b := 0) (by omega) (by omega)).mp z; omega) ?_
  rw [n32_rem l_t (Nat.succ_pos n) (by omega)]
  obtain ⟨a, e_a⟩ : ∃ a, a = t % (n + 1) := ⟨_, rfl⟩
  rw [← e_a]
  have ha : a ≤ n := by rw [e_a]; exact Nat.le_of_lt_succ (Nat.mod_lt t (Nat.succ_pos n))
  refine r_istore d0_57 [.val (.int p1), .val (.int p2), .val (.int p3), .val (.int p4), .val (.int p5), .val (.long p6), .second, .val (.ref b1), .val (.int n.toInt32), .val (.int a.toInt32), .unset, .unset, .unset, .unset, .unset, .unset, .unset] rfl ?_
  refine r_lload d0_59 rfl ?_
  refine r_l2i d0_61 ?_
  refine r_istore d0_62 [.val (.int p1), .val (.int p2), .val (.int p3), .val (.int p4), .val (.int p5), .val (.long p6), .second, .val (.ref b1), .val (.int n.toInt32), .val (.int a.toInt32), .val (.int (p6.toInt32)), .unset, .unset, .unset, .unset, .unset, .unset] rfl ?_
  generalize e_l0 : (p6.toInt32) = l0
  refine r_lload d0_64 rfl ?_
  refine r_bipush (32 : Int32) rfl d0_66 ?_
  refine r_lushr d0_68 ?_
  refine r_l2i d0_69 ?_
  refine r_istore d0_70 [.val (.int p1), .val (.int p2), .val (.int p3), .val (.int p4), .val (.int p5), .val (.long p6), .second, .val (.ref b1), .val (.int n.toInt32), .val (.int a.toInt32), .val (.int l0), .val (.int (((p6.toUInt64 >>> ((32 : Int32) &&& 63).toInt64.toUInt64).toInt64).toInt32)), .unset, .unset, .unset, .unset, .unset] rfl ?_
  generalize e_s0 : (((p6.toUInt64 >>> ((32 : Int32) &&& 63).toInt64.toUInt64).toInt64).toInt32) = s0
  refine r_iload d0_72 rfl ?_
  refine r_istore d0_74 [.val (.int p1), .val (.int p2), .val (.int p3), .val (.int p4), .val (.int p5), .val (.long p6), .second, .val (.ref b1), .val (.int n.toInt32), .val (.int a.toInt32), .val (.int l0), .val (.int s0), .val (.int a.toInt32), .unset, .unset, .unset, .unset] rfl ?_
  refine r_aload d0_76 rfl rfl ?_
  refine r_iload d0_78 rfl ?_
  refine r_iload d0_80 rfl ?_
  refine r_staticP [(.ref b1), (.int a.toInt32), (.int n.toInt32)] [] rfl pd0_1 rfl (hw _ (List.mem_of_getElem? (i := 5) rfl)) (hw _ (List.mem_of_getElem? (i := 6) rfl)) (hw _ (List.mem_of_getElem? (i := 3) rfl)) (hw _ (List.mem_of_getElem? (i := 7) rfl)) (by decide) (w := (.int (own_step vs n a).toInt32)) (R' := ({ frames := 1, cells := 0, slots := 0, locals := 12 } : Room)) (ct2 hw b1 a n vs V hl (by omega) hn) d0_82 rfl (by decide) 0 rfl (by decide) rfl rfl (by decide) (by decide) ?_
  have h_e1 := own_stepLe vs n a ha
  generalize q_e1 : own_step vs n a = e1 at h_e1 ⊢
  refine r_istore d0_85 [.val (.int p1), .val (.int p2), .val (.int p3), .val (.int p4), .val (.int p5), .val (.long p6), .second, .val (.ref b1), .val (.int n.toInt32), .val (.int a.toInt32), .val (.int l0), .val (.int s0), .val (.int e1.toInt32), .unset, .unset, .unset, .unset] rfl ?_
  refine r_aload d0_87 rfl rfl ?_
  refine r_iload d0_89 rfl ?_
  refine r_iload d0_91 rfl ?_
  refine r_staticP [(.ref b1), (.int e1.toInt32), (.int n.toInt32)] [] rfl pd0_1 rfl (hw _ (List.mem_of_getElem? (i := 5) rfl)) (hw _ (List.mem_of_getElem? (i := 6) rfl)) (hw _ (List.mem_of_getElem? (i := 3) rfl)) (hw _ (List.mem_of_getElem? (i := 7) rfl)) (by decide) (w := (.int (own_step vs n e1).toInt32)) (R' := ({ frames := 1, cells := 0, slots := 0, locals := 12 } : Room)) (ct2 hw b1 e1 n vs V hl (by omega) hn) d0_93 rfl (by decide) 0 rfl (by decide) rfl rfl (by decide) (by decide) ?_
  have h_e2 := own_stepLe vs n e1 h_e1
  generalize q_e2 : own_step vs n e1 = e2 at h_e2 ⊢
  refine r_istore d0_96 [.val (.int p1), .val (.int p2), .val (.int p3), .val (.int p4), .val (.int p5), .val (.long p6), .second, .val (.ref b1), .val (.int n.toInt32), .val (.int a.toInt32), .val (.int l0), .val (.int s0), .val (.int e2.toInt32), .unset, .unset, .unset, .unset] rfl ?_
  refine r_aload d0_98 rfl rfl ?_
  refine r_iload d0_100 rfl ?_
  refine r_iload d0_102 rfl ?_
  refine r_staticP [(.ref b1), (.int e2.toInt32), (.int n.toInt32)] [] rfl pd0_1 rfl (hw _ (List.mem_of_getElem? (i := 5) rfl)) (hw _ (List.mem_of_getElem? (i := 6) rfl)) (hw _ (List.mem_of_getElem? (i := 3) rfl)) (hw _ (List.mem_of_getElem? (i := 7) rfl)) (by decide) (w := (.int (own_step vs n e2).toInt32)) (R' := ({ frames := 1, cells := 0, slots := 0, locals := 12 } : Room)) (ct2 hw b1 e2 n vs V hl (by omega) hn) d0_104 rfl (by decide) 0 rfl (by decide) rfl rfl (by decide) (by decide) ?_
  have h_e3 := own_stepLe vs n e2 h_e2
  generalize q_e3 : own_step vs n e2 = e3 at h_e3 ⊢
  refine r_istore d0_107 [.val (.int p1), .val (.int p2), .val (.int p3), .val (.int p4), .val (.int p5), .val (.long p6), .second, .val (.ref b1), .val (.int n.toInt32), .val (.int a.toInt32), .val (.int l0), .val (.int s0), .val (.int e3.toInt32), .unset, .unset, .unset, .unset] rfl ?_
  refine r_aload d0_109 rfl rfl ?_
  refine r_iload d0_111 rfl ?_
  refine r_iload d0_113 rfl ?_
  refine r_staticP [(.ref b1), (.int e3.toInt32), (.int n.toInt32)] [] rfl pd0_1 rfl (hw _ (List.mem_of_getElem? (i := 5) rfl)) (hw _ (List.mem_of_getElem? (i := 6) rfl)) (hw _ (List.mem_of_getElem? (i := 3) rfl)) (hw _ (List.mem_of_getElem? (i := 7) rfl)) (by decide) (w := (.int (own_step vs n e3).toInt32)) (R' := ({ frames := 1, cells := 0, slots := 0, locals := 12 } : Room)) (ct2 hw b1 e3 n vs V hl (by omega) hn) d0_115 rfl (by decide) 0 rfl (by decide) rfl rfl (by decide) (by decide) ?_
  have h_e4 := own_stepLe vs n e3 h_e3
  generalize q_e4 : own_step vs n e3 = e4 at h_e4 ⊢
  refine r_istore d0_118 [.val (.int p1), .val (.int p2), .val (.int p3), .val (.int p4), .val (.int p5), .val (.long p6), .second, .val (.ref b1), .val (.int n.toInt32), .val (.int a.toInt32), .val (.int l0), .val (.int s0), .val (.int e4.toInt32), .unset, .unset, .unset, .unset] rfl ?_
  refine r_iload d0_120 rfl ?_
  refine r_aload d0_122 rfl rfl ?_
  refine r_iconst (0 : Int32) rfl d0_124 ?_
  refine r_iload d0_125 rfl ?_
  refine r_iload d0_127 rfl ?_
  refine r_staticP [(.ref b1), (.int (0 : Int32)), (.int a.toInt32), (.int e4.toInt32)] [(.int l0)] rfl pd0_2 rfl (hw _ (List.mem_of_getElem? (i := 8) rfl)) (hw _ (List.mem_of_getElem? (i := 9) rfl)) (hw _ (List.mem_of_getElem? (i := 3) rfl)) (hw _ (List.mem_of_getElem? (i := 10) rfl)) (by decide) (w := (.int (own_cnt vs a e4 0))) (R' := ({ frames := 0, cells := 0, slots := 0, locals := 0 } : Room)) (ct3 hw b1 0 a e4 vs V hl (by decide) (by omega) (by omega)) d0_129 rfl (by decide) 1 rfl (by decide) rfl rfl (by decide) (by decide) ?_
  refine r_iadd d0_132 ?_
  refine r_aload d0_133 rfl rfl ?_
  refine r_iconst (1 : Int32) rfl d0_135 ?_
  refine r_iload d0_136 rfl ?_
  refine r_iload d0_138 rfl ?_
  refine r_staticP [(.ref b1), (.int (1 : Int32)), (.int a.toInt32), (.int e4.toInt32)] [(.int (l0 + (own_cnt vs a e4 0)))] rfl pd0_2 rfl (hw _ (List.mem_of_getElem? (i := 8) rfl)) (hw _ (List.mem_of_getElem? (i := 9) rfl)) (hw _ (List.mem_of_getElem? (i := 3) rfl)) (hw _ (List.mem_of_getElem? (i := 10) rfl)) (by decide) (w := (.int (own_cnt vs a e4 1))) (R' := ({ frames := 0, cells := 0, slots := 0, locals := 0 } : Room)) (ct3 hw b1 1 a e4 vs V hl (by decide) (by omega) (by omega)) d0_140 rfl (by decide) 1 rfl (by decide) rfl rfl (by decide) (by decide) ?_
  refine r_iadd d0_143 ?_
  refine r_aload d0_144 rfl rfl ?_
  refine r_iconst (2 : Int32) rfl d0_146 ?_
  refine r_iload d0_147 rfl ?_
  refine r_iload d0_149 rfl ?_
  refine r_staticP [(.ref b1), (.int (2 : Int32)), (.int a.toInt32), (.int e4.toInt32)] [(.int ((l0 + (own_cnt vs a e4 0)) + (own_cnt vs a e4 1)))] rfl pd0_2 rfl (hw _ (List.mem_of_getElem? (i := 8) rfl)) (hw _ (List.mem_of_getElem? (i := 9) rfl)) (hw _ (List.mem_of_getElem? (i := 3) rfl)) (hw _ (List.mem_of_getElem? (i := 10) rfl)) (by decide) (w := (.int (own_cnt vs a e4 2))) (R' := ({ frames := 0, cells := 0, slots := 0, locals := 0 } : Room)) (ct3 hw b1 2 a e4 vs V hl (by decide) (by omega) (by omega)) d0_151 rfl (by decide) 1 rfl (by decide) rfl rfl (by decide) (by decide) ?_
  refine r_iadd d0_154 ?_
  refine r_aload d0_155 rfl rfl ?_
  refine r_iconst (3 : Int32) rfl d0_157 ?_
  refine r_iload d0_158 rfl ?_
  refine r_iload d0_160 rfl ?_
  refine r_staticP [(.ref b1), (.int (3 : Int32)), (.int a.toInt32), (.int e4.toInt32)] [(.int (((l0 + (own_cnt vs a e4 0)) + (own_cnt vs a e4 1)) + (own_cnt vs a e4 2)))] rfl pd0_2 rfl (hw _ (List.mem_of_getElem? (i := 8) rfl)) (hw _ (List.mem_of_getElem? (i := 9) rfl)) (hw _ (List.mem_of_getElem? (i := 3) rfl)) (hw _ (List.mem_of_getElem? (i := 10) rfl)) (by decide) (w := (.int (own_cnt vs a e4 3))) (R' := ({ frames := 0, cells := 0, slots := 0, locals := 0 } : Room)) (ct3 hw b1 3 a e4 vs V hl (by decide) (by omega) (by omega)) d0_162 rfl (by decide) 1 rfl (by decide) rfl rfl (by decide) (by decide) ?_
  refine r_iadd d0_165 ?_
  refine r_istore d0_166 [.val (.int p1), .val (.int p2), .val (.int p3), .val (.int p4), .val (.int p5), .val (.long p6), .second, .val (.ref b1), .val (.int n.toInt32), .val (.int a.toInt32), .val (.int l0), .val (.int s0), .val (.int e4.toInt32), .val (.int ((((l0 + (own_cnt vs a e4 0)) + (own_cnt vs a e4 1)) + (own_cnt vs a e4 2)) + (own_cnt vs a e4 3))), .unset, .unset, .unset] rfl ?_
  change ORun _ _ _ _ _ _ _ _ _ _ _ _ _ _ [.val (.int p1), .val (.int p2), .val (.int p3), .val (.int p4), .val (.int p5), .val (.long p6), .second, .val (.ref b1), .val (.int n.toInt32), .val (.int a.toInt32), .val (.int l0), .val (.int s0), .val (.int e4.toInt32), .val (.int (own_line vs a e4 l0)), .unset, .unset, .unset] _
  refine r_iload d0_168 rfl ?_
  refine r_istore d0_170 [.val (.int p1), .val (.int p2), .val (.int p3), .val (.int p4), .val (.int p5), .val (.long p6), .second, .val (.ref b1), .val (.int n.toInt32), .val (.int a.toInt32), .val (.int l0), .val (.int s0), .val (.int e4.toInt32), .val (.int (own_line vs a e4 l0)), .val (.int s0), .unset, .unset] rfl ?_
  refine r_aload d0_172 rfl rfl ?_
  refine r_iconst (0 : Int32) rfl d0_174 ?_
  refine r_iload d0_175 rfl ?_
  refine r_iload d0_177 rfl ?_
  refine r_staticP [(.ref b1), (.int (0 : Int32)), (.int a.toInt32), (.int e4.toInt32)] [] rfl pd0_3 rfl (hw _ (List.mem_of_getElem? (i := 11) rfl)) (hw _ (List.mem_of_getElem? (i := 12) rfl)) (hw _ (List.mem_of_getElem? (i := 3) rfl)) (hw _ (List.mem_of_getElem? (i := 13) rfl)) (by decide) (w := (.int (own_end vs a e4 0))) (R' := ({ frames := 0, cells := 0, slots := 0, locals := 0 } : Room)) (ct4 hw b1 0 a e4 vs V hl (by decide) (by omega) (by omega)) d0_179 rfl (by decide) 0 rfl (by decide) rfl rfl (by decide) (by decide) ?_
  have J188 : ∀ (x188 : Int32) (hx188 : x188 = (if own_end vs a e4 0 = 0 then s0 else (1 : Int32))), ORun l x code maxLocals ret room_1 Z n0 #[(.int p1), (.int p2), (.int p3), (.int p4), (.int p5), (.long p6)] (fun v h => v = some (.int 1)) h36 1 4 188 [.val (.int p1), .val (.int p2), .val (.int p3), .val (.int p4), .val (.int p5), .val (.long p6), .second, .val (.ref b1), .val (.int n.toInt32), .val (.int a.toInt32), .val (.int l0), .val (.int s0), .val (.int e4.toInt32), .val (.int (own_line vs a e4 l0)), .val (.int x188), .unset, .unset] [] := by
    intro x188 hx188
    refine r_aload d0_188 rfl rfl ?_
    refine r_iconst (1 : Int32) rfl d0_190 ?_
    refine r_iload d0_191 rfl ?_
    refine r_iload d0_193 rfl ?_
    refine r_staticP [(.ref b1), (.int (1 : Int32)), (.int a.toInt32), (.int e4.toInt32)] [] rfl pd0_3 rfl (hw _ (List.mem_of_getElem? (i := 11) rfl)) (hw _ (List.mem_of_getElem? (i := 12) rfl)) (hw _ (List.mem_of_getElem? (i := 3) rfl)) (hw _ (List.mem_of_getElem? (i := 13) rfl)) (by decide) (w := (.int (own_end vs a e4 1))) (R' := ({ frames := 0, cells := 0, slots := 0, locals := 0 } : Room)) (ct4 hw b1 1 a e4 vs V hl (by decide) (by omega) (by omega)) d0_195 rfl (by decide) 0 rfl (by decide) rfl rfl (by decide) (by decide) ?_
    have J204 : ∀ (x204 : Int32) (hx204 : x204 = (if own_end vs a e4 1 = 0 then x188 else (2 : Int32))), ORun l x code maxLocals ret room_1 Z n0 #[(.int p1), (.int p2), (.int p3), (.int p4), (.int p5), (.long p6)] (fun v h => v = some (.int 1)) h36 1 4 204 [.val (.int p1), .val (.int p2), .val (.int p3), .val (.int p4), .val (.int p5), .val (.long p6), .second, .val (.ref b1), .val (.int n.toInt32), .val (.int a.toInt32), .val (.int l0), .val (.int s0), .val (.int e4.toInt32), .val (.int (own_line vs a e4 l0)), .val (.int x204), .unset, .unset] [] := by
      intro x204 hx204
      refine r_aload d0_204 rfl rfl ?_
      refine r_iconst (2 : Int32) rfl d0_206 ?_
      refine r_iload d0_207 rfl ?_
      refine r_iload d0_209 rfl ?_
      refine r_staticP [(.ref b1), (.int (2 : Int32)), (.int a.toInt32), (.int e4.toInt32)] [] rfl pd0_3 rfl (hw _ (List.mem_of_getElem? (i := 11) rfl)) (hw _ (List.mem_of_getElem? (i := 12) rfl)) (hw _ (List.mem_of_getElem? (i := 3) rfl)) (hw _ (List.mem_of_getElem? (i := 13) rfl)) (by decide) (w := (.int (own_end vs a e4 2))) (R' := ({ frames := 0, cells := 0, slots := 0, locals := 0 } : Room)) (ct4 hw b1 2 a e4 vs V hl (by decide) (by omega) (by omega)) d0_211 rfl (by decide) 0 rfl (by decide) rfl rfl (by decide) (by decide) ?_
      have J220 : ∀ (x220 : Int32) (hx220 : x220 = (if own_end vs a e4 2 = 0 then x204 else (3 : Int32))), ORun l x code maxLocals ret room_1 Z n0 #[(.int p1), (.int p2), (.int p3), (.int p4), (.int p5), (.long p6)] (fun v h => v = some (.int 1)) h36 1 4 220 [.val (.int p1), .val (.int p2), .val (.int p3), .val (.int p4), .val (.int p5), .val (.long p6), .second, .val (.ref b1), .val (.int n.toInt32), .val (.int a.toInt32), .val (.int l0), .val (.int s0), .val (.int e4.toInt32), .val (.int (own_line vs a e4 l0)), .val (.int x220), .unset, .unset] [] := by
        intro x220 hx220
        refine r_aload d0_220 rfl rfl ?_
        refine r_iconst (3 : Int32) rfl d0_222 ?_
        refine r_iload d0_223 rfl ?_
        refine r_iload d0_225 rfl ?_
        refine r_staticP [(.ref b1), (.int (3 : Int32)), (.int a.toInt32), (.int e4.toInt32)] [] rfl pd0_3 rfl (hw _ (List.mem_of_getElem? (i := 11) rfl)) (hw _ (List.mem_of_getElem? (i := 12) rfl)) (hw _ (List.mem_of_getElem? (i := 3) rfl)) (hw _ (List.mem_of_getElem? (i := 13) rfl)) (by decide) (w := (.int (own_end vs a e4 3))) (R' := ({ frames := 0, cells := 0, slots := 0, locals := 0 } : Room)) (ct4 hw b1 3 a e4 vs V hl (by decide) (by omega) (by omega)) d0_227 rfl (by decide) 0 rfl (by decide) rfl rfl (by decide) (by decide) ?_
        have J236 : ∀ (x236 : Int32) (hx236 : x236 = (if own_end vs a e4 3 = 0 then x220 else (4 : Int32))), ORun l x code maxLocals ret room_1 Z n0 #[(.int p1), (.int p2), (.int p3), (.int p4), (.int p5), (.long p6)] (fun v h => v = some (.int 1)) h36 1 4 236 [.val (.int p1), .val (.int p2), .val (.int p3), .val (.int p4), .val (.int p5), .val (.long p6), .second, .val (.ref b1), .val (.int n.toInt32), .val (.int a.toInt32), .val (.int l0), .val (.int s0), .val (.int e4.toInt32), .val (.int (own_line vs a e4 l0)), .val (.int x236), .unset, .unset] [] := by
          intro x236 hx236
          refine r_new (hw _ (List.mem_of_getElem? (i := 14) rfl)) (hw _ (List.mem_of_getElem? (i := 15) rfl)) (hw _ (List.mem_of_getElem? (i := 16) rfl)) d0_236 (by decide) (by decide) ?_
          rintro hn236 ⟨E236, A236, D236⟩
          obtain ⟨b236, g236⟩ : ∃ z, z = h36.size := ⟨_, rfl⟩
          rw [← g236] at A236 ⊢
          simp only [← g236] at D236
          have F236_line : Fld Z hn236 b236 "com/example/flowsieve/flowsieve/xml/XmlScanner" "line" "I" (.int (0 : Int32)) := D236 (Or.inl (hw _ (List.mem_of_getElem? (i := 27) rfl))) (ty := .int) (by decide)
          have F236_text : Fld Z hn236 b236 "com/example/flowsieve/flowsieve/xml/XmlScanner" "text" "[C" .null := D236 (Or.inr (hw _ (List.mem_of_getElem? (i := 29) rfl))) (ty := (.array .char)) (by decide)
          have F236_length : Fld Z hn236 b236 "com/example/flowsieve/flowsieve/xml/XmlScanner" "length" "I" (.int (0 : Int32)) := D236 (Or.inr (hw _ (List.mem_of_getElem? (i := 31) rfl))) (ty := .int) (by decide)
          have F236_undecodable : Fld Z hn236 b236 "com/example/flowsieve/flowsieve/xml/XmlScanner" "undecodable" "Ljava/lang/String;" .null := D236 (Or.inr (hw _ (List.mem_of_getElem? (i := 33) rfl))) (ty := (.object "java/lang/String")) (by decide)
          have F236_undecodableIndex : Fld Z hn236 b236 "com/example/flowsieve/flowsieve/xml/XmlScanner" "undecodableIndex" "I" (.int (0 : Int32)) := D236 (Or.inr (hw _ (List.mem_of_getElem? (i := 35) rfl))) (ty := .int) (by decide)
          have F236_places : Fld Z hn236 b236 "com/example/flowsieve/flowsieve/xml/XmlScanner" "places" "Lcom/example/flowsieve/flowsieve/xml/Places;" .null := D236 (Or.inr (hw _ (List.mem_of_getElem? (i := 50) rfl))) (ty := (.object "com/example/flowsieve/flowsieve/xml/Places")) (by decide)
          have F236_at : Fld Z hn236 b236 "com/example/flowsieve/flowsieve/xml/XmlScanner" "at" "I" (.int (0 : Int32)) := D236 (Or.inl (hw _ (List.mem_of_getElem? (i := 52) rfl))) (ty := .int) (by decide)
          have F236_lineStart : Fld Z hn236 b236 "com/example/flowsieve/flowsieve/xml/XmlScanner" "lineStart" "I" (.int (0 : Int32)) := D236 (Or.inl (hw _ (List.mem_of_getElem? (i := 55) rfl))) (ty := .int) (by decide)
          show ORun _ _ _ _ _ _ _ _ _ _ hn236 2 12 239 [.val (.int p1), .val (.int p2), .val (.int p3), .val (.int p4), .val (.int p5), .val (.long p6), .second, .val (.ref b1), .val (.int n.toInt32), .val (.int a.toInt32), .val (.int l0), .val (.int s0), .val (.int e4.toInt32), .val (.int (own_line vs a e4 l0)), .val (.int x236), .unset, .unset] [(.ref b236)]
          refine r_dup d0_239 rfl ?_
          refine r_aload d0_240 rfl rfl ?_
          refine r_iload d0_242 rfl ?_
          have ge236 : n0 ≤ b236 := by rw [g236]; exact hz36
          have ne236 : b1 ≠ b236 := by rw [g236]; exact Nat.ne_of_lt V.lt
          have hls : x236 = own_ls vs a e4 s0 := by rw [hx236, hx220, hx204, hx188]; rfl
          refine r_special [(.ref b1), (.int n.toInt32)] [(.ref b236)] b236 rfl pd0_4 rfl rfl (hw _ (List.mem_of_getElem? (i := 17) rfl)) (hw _ (List.mem_of_getElem? (i := 18) rfl)) (hw _ (List.mem_of_getElem? (i := 16) rfl)) (hw _ (List.mem_of_getElem? (i := 19) rfl)) (by decide) (R' := ({ frames := 3, cells := 1, slots := 4, locals := 56 } : Room)) (ct5 hw b236 b1 n.toInt32 A236 F236_line F236_text F236_length F236_undecodable F236_undecodableIndex F236_places F236_at F236_lineStart ge236 (Nat.le_trans hz36 E236.1)) d0_244 rfl (by decide) 1 rfl (by decide) (by decide) (by decide) ?_
          rintro _ h244 ⟨rfl, K244, X244, G_line, G_text, G_length, G_at, G_lineStart⟩
          have X0 : own_X Z h244 b236 b1 vs n 0 1 0 := ⟨X244, ne236.symm, G_text, G_length, G_at, G_line, G_lineStart, (V.ext E236).keep K244 (ninS ne236 nin0)⟩
          show ORun _ _ _ _ _ _ _ _ _ _ h244 3 16 247 [.val (.int p1), .val (.int p2), .val (.int p3), .val (.int p4), .val (.int p5), .val (.long p6), .second, .val (.ref b1), .val (.int n.toInt32), .val (.int a.toInt32), .val (.int l0), .val (.int s0), .val (.int e4.toInt32), .val (.int (own_line vs a e4 l0)), .val (.int x236), .unset, .unset] [(.ref b236)]
          refine r_astore d0_247 rfl [.val (.int p1), .val (.int p2), .val (.int p3), .val (.int p4), .val (.int p5), .val (.long p6), .second, .val (.ref b1), .val (.int n.toInt32), .val (.int a.toInt32), .val (.int l0), .val (.int s0), .val (.int e4.toInt32), .val (.int (own_line vs a e4 l0)), .val (.int x236), .val (.ref b236), .unset] rfl ?_
          refine r_aload d0_249 rfl rfl ?_
          refine r_iload d0_251 rfl ?_
          refine r_putF (host := "") (Or.inl (hw _ (List.mem_of_getElem? (i := 51) rfl))) (X0.2.2.2.2.1) (X0.1) (Or.inl (hw _ (List.mem_of_getElem? (i := 52) rfl))) (hw _ (List.mem_of_getElem? (i := 15) rfl)) (ty := .int) (by decide) rfl rfl ge236 d0_253 ?_
          intro h253 W253
          have X1 := own_X_at hw X0 W253
          refine r_aload d0_256 rfl rfl ?_
          refine r_iload d0_258 rfl ?_
          refine r_putF (host := "") (Or.inl (hw _ (List.mem_of_getElem? (i := 53) rfl))) (X1.2.2.2.2.2.1) (X1.1) (Or.inl (hw _ (List.mem_of_getElem? (i := 27) rfl))) (hw _ (List.mem_of_getElem? (i := 15) rfl)) (ty := .int) (by decide) rfl rfl ge236 d0_260 ?_
          intro h260 W260
          have X2 := own_X_line hw X1 W260
          refine r_aload d0_263 rfl rfl ?_
          refine r_iload d0_265 rfl ?_
          refine r_putF (host := "") (Or.inl (hw _ (List.mem_of_getElem? (i := 54) rfl))) (X2.2.2.2.2.2.2.1) (X2.1) (Or.inl (hw _ (List.mem_of_getElem? (i := 55) rfl))) (hw _ (List.mem_of_getElem? (i := 15) rfl)) (ty := .int) (by decide) rfl rfl ge236 d0_267 ?_
          intro h267 W267
          have X3 := own_X_lineStart hw X2 W267
          refine r_aload d0_270 rfl rfl ?_
          refine r_virtual [] [] b236 X3.1 rfl pd0_5 rfl (hw _ (List.mem_of_getElem? (i := 56) rfl)) (hw _ (List.mem_of_getElem? (i := 57) rfl)) (hw _ (List.mem_of_getElem? (i := 59) rfl)) (hw _ (List.mem_of_getElem? (i := 58) rfl)) (hw _ (List.mem_of_getElem? (i := 16) rfl)) (hw _ (List.mem_of_getElem? (i := 60) rfl)) rfl (by decide) (R' := ({ frames := 1, cells := 0, slots := 0, locals := 20 } : Room)) (ct9 hw b236 b1 vs n a l0 s0 X3 hl hn ha ge236) d0_272 rfl (by decide) 0 rfl (by decide) (by decide) (by decide) ?_
          rintro _ h272 ⟨e, rfl, q1, q2, q3, q4, X4⟩
          have he : e4 = e := by rw [← q_e4, ← q_e3, ← q_e2, ← q_e1]; exact own_steps vs n a e hn q1 q2 q3 q4
          subst he
          show ORun _ _ _ _ _ _ _ _ _ _ h272 3 16 275 [.val (.int p1), .val (.int p2), .val (.int p3), .val (.int p4), .val (.int p5), .val (.long p6), .second, .val (.ref b1), .val (.int n.toInt32), .val (.int a.toInt32), .val (.int l0), .val (.int s0), .val (.int e4.toInt32), .val (.int (own_line vs a e4 l0)), .val (.int x236), .val (.ref b236), .unset] [(.int (if a < e4 then 1 else 0))]
          refine r_istore d0_275 [.val (.int p1), .val (.int p2), .val (.int p3), .val (.int p4), .val (.int p5), .val (.long p6), .second, .val (.ref b1), .val (.int n.toInt32), .val (.int a.toInt32), .val (.int l0), .val (.int s0), .val (.int e4.toInt32), .val (.int (own_line vs a e4 l0)), .val (.int x236), .val (.ref b236), .val (.int (if a < e4 then 1 else 0))] rfl ?_
          refine r_iload d0_277 rfl ?_
          refine r_iload d0_279 rfl ?_
          refine r_iload d0_281 rfl ?_
          refine r_icmp_le d0_283 (fun hc283 => ?_) (fun hc283 => ?_)
          · refine r_iconst (0 : Int32) rfl d0_290 ?_
            refine r_icmp_ne d0_291 (fun hc291 => ?_) (fun hc291 => ?_)
            · exfalso; exact hc291 (if_neg (fun q => hc283 ((n32_lt (by omega) (by omega)).mpr q)))
            · refine r_aload d0_294 rfl rfl ?_
              refine r_getF (host := "") (Or.inl (hw _ (List.mem_of_getElem? (i := 51) rfl))) (v := (.int e4.toInt32)) (X4.2.2.2.2.1) d0_296 ?_
              refine r_iload d0_299 rfl ?_
              refine r_icmp_ne d0_301 (fun hc301 => ?_) (fun hc301 => ?_)
              · exfalso; exact hc301 rfl
              · refine r_aload d0_304 rfl rfl ?_
                refine r_getF (host := "") (Or.inl (hw _ (List.mem_of_getElem? (i := 53) rfl))) (v := (.int (own_line vs a e4 l0))) (X4.2.2.2.2.2.1) d0_306 ?_
                refine r_iload d0_309 rfl ?_
                refine r_icmp_ne d0_311 (fun hc311 => ?_) (fun hc311 => ?_)
                · exfalso; exact hc311 rfl
                · refine r_aload d0_314 rfl rfl ?_
                  refine r_getF (host := "") (Or.inl (hw _ (List.mem_of_getElem? (i := 54) rfl))) (v := (.int (own_ls vs a e4 s0))) (X4.2.2.2.2.2.2.1) d0_316 ?_
                  refine r_iload d0_319 rfl ?_
                  refine r_icmp_ne d0_321 (fun hc321 => ?_) (fun hc321 => ?_)
                  · exfalso; exact hc321 hls.symm
                  · refine r_iconst (1 : Int32) rfl d0_324 ?_
                    refine r_goto d0_325 ?_
                    exact r_nret (t := .boolean) (by simp) d0_329 (by decide) (by decide) (rfl)
          · refine r_iconst (1 : Int32) rfl d0_286 ?_
            refine r_goto d0_287 ?_
            refine r_icmp_ne d0_291 (fun hc291 => ?_) (fun hc291 => ?_)
            · exfalso; exact hc291 (if_pos ((n32_lt (a := a) (b := e4) (by omega) (by omega)).mp hc283))
            · refine r_aload d0_294 rfl rfl ?_
              refine r_getF (host := "") (Or.inl (hw _ (List.mem_of_getElem? (i := 51) rfl))) (v := (.int e4.toInt32)) (X4.2.2.2.2.1) d0_296 ?_
              refine r_iload d0_299 rfl ?_
              refine r_icmp_ne d0_301 (fun hc301 => ?_) (fun hc301 => ?_)
              · exfalso; exact hc301 rfl
              · refine r_aload d0_304 rfl rfl ?_
                refine r_getF (host := "") (Or.inl (hw _ (List.mem_of_getElem? (i := 53) rfl))) (v := (.int (own_line vs a e4 l0))) (X4.2.2.2.2.2.1) d0_306 ?_
                refine r_iload d0_309 rfl ?_
                refine r_icmp_ne d0_311 (fun hc311 => ?_) (fun hc311 => ?_)
                · exfalso; exact hc311 rfl
                · refine r_aload d0_314 rfl rfl ?_
                  refine r_getF (host := "") (Or.inl (hw _ (List.mem_of_getElem? (i := 54) rfl))) (v := (.int (own_ls vs a e4 s0))) (X4.2.2.2.2.2.2.1) d0_316 ?_
                  refine r_iload d0_319 rfl ?_
                  refine r_icmp_ne d0_321 (fun hc321 => ?_) (fun hc321 => ?_)
                  · exfalso; exact hc321 hls.symm
                  · refine r_iconst (1 : Int32) rfl d0_324 ?_
                    refine r_goto d0_325 ?_
                    exact r_nret (t := .boolean) (by simp) d0_329 (by decide) (by decide) (rfl)
        refine r_if_eq d0_230 (fun hc230 => ?_) (fun hc230 => ?_)
        · exact J236 _ (by rw [if_pos hc230])
        · refine r_iconst (4 : Int32) rfl d0_233 ?_
          refine r_istore d0_234 [.val (.int p1), .val (.int p2), .val (.int p3), .val (.int p4), .val (.int p5), .val (.long p6), .second, .val (.ref b1), .val (.int n.toInt32), .val (.int a.toInt32), .val (.int l0), .val (.int s0), .val (.int e4.toInt32), .val (.int (own_line vs a e4 l0)), .val (.int (4 : Int32)), .unset, .unset] rfl ?_
          exact J236 _ (by rw [if_neg hc230])
      refine r_if_eq d0_214 (fun hc214 => ?_) (fun hc214 => ?_)
      · exact J220 _ (by rw [if_pos hc214])
      · refine r_iconst (3 : Int32) rfl d0_217 ?_
        refine r_istore d0_218 [.val (.int p1), .val (.int p2), .val (.int p3), .val (.int p4), .val (.int p5), .val (.long p6), .second, .val (.ref b1), .val (.int n.toInt32), .val (.int a.toInt32), .val (.int l0), .val (.int s0), .val (.int e4.toInt32), .val (.int (own_line vs a e4 l0)), .val (.int (3 : Int32)), .unset, .unset] rfl ?_
        exact J220 _ (by rw [if_neg hc214])
    refine r_if_eq d0_198 (fun hc198 => ?_) (fun hc198 => ?_)
    · exact J204 _ (by rw [if_pos hc198])
    · refine r_iconst (2 : Int32) rfl d0_201 ?_
      refine r_istore d0_202 [.val (.int p1), .val (.int p2), .val (.int p3), .val (.int p4), .val (.int p5), .val (.long p6), .second, .val (.ref b1), .val (.int n.toInt32), .val (.int a.toInt32), .val (.int l0), .val (.int s0), .val (.int e4.toInt32), .val (.int (own_line vs a e4 l0)), .val (.int (2 : Int32)), .unset, .unset] rfl ?_
      exact J204 _ (by rw [if_neg hc198])
  refine r_if_eq d0_182 (fun hc182 => ?_) (fun hc182 => ?_)
  · exact J188 _ (by rw [if_pos hc182])
  · refine r_iconst (1 : Int32) rfl d0_185 ?_
    refine r_istore d0_186 [.val (.int p1), .val (.int p2), .val (.int p3), .val (.int p4), .val (.int p5), .val (.long p6), .second, .val (.ref b1), .val (.int n.toInt32), .val (.int a.toInt32), .val (.int l0), .val (.int s0), .val (.int e4.toInt32), .val (.int (own_line vs a e4 l0)), .val (.int (1 : Int32)), .unset, .unset] rfl ?_
    exact J188 _ (by rw [if_neg hc182])
set_option maxRecDepth 65536 in
set_option maxHeartbeats 40000000 in
theorem comes_1 {Post : Tables → Env → Array Value → State → Outcome → State → Prop} (hpost : ∀ tb e args s v u, (limb_1_1.after args s (.returned v) u = true ∧ limb_1_2.after args s (.returned v) u = true ∧ True) → FrameEnd s (.returned v) u (Jvm.fieldLocs frame_1_writes args s ++ Jvm.arrayLocs frame_1_arrays args s ++ Jvm.staticLocs frame_1_statics s) 16 128 → Post tb e args s (.returned v) u) :
    ArmFor flags0 classFile x code maxLocals ret World_1 tables_1 room_1 Calls_1 rest_1 Pre_1 Post := by
  intro l hfl _ _ p e ha hc hk s m args below hf hA hF happ hP
  obtain ⟨hcalls, hrest, hpre⟩ := hP
  obtain ⟨-, -, -, hnamed, -, -, -, hat⟩ := (Spec.applies_iff hf).mp happ
  obtain ⟨hg, hn⟩ := and_e (Cond.before_iff.mp (show (Jvm.Cond.and given_1 narrow_1).before args s = true from hpre))
  obtain ⟨g1, g2⟩ := and_e hg
  obtain ⟨g3, g4⟩ := and_e g2
  obtain ⟨g5, g6⟩ := and_e g4
  obtain ⟨g7, g8⟩ := and_e g6
  obtain ⟨g9, g10⟩ := and_e g8
  obtain ⟨g11, g12⟩ := and_e g10
  obtain ⟨w0, w1, w2, w3, w4, w5, rfl⟩ : ∃ w0 w1 w2 w3 w4 w5 : Value, args = #[w0, w1, w2, w3, w4, w5] := by
    have hs : args.size = 6 := by simpa [Cond.value, given_1] using g1
    obtain ⟨L⟩ := args
    match L, hs with
    | [w0, w1, w2, w3, w4, w5], _ => exact ⟨w0, w1, w2, w3, w4, w5, rfl⟩
  have hw := fun d (hd : d ∈ tables_1) => atoms_spec (ws := Jvm.Cond.code x code maxLocals ret :: tables_1) hat d (List.mem_cons_of_mem _ hd)
  have hfit : Fit s := fun {y c} hc i hi => by
    obtain ⟨ha, rfl⟩ := Array.getElem?_eq_some_iff.mp hc
    have q := List.all_eq_true.mp ((Array.all_eq_true_iff_forall_mem.mp hF) _ (Array.getElem_mem ha)) i (List.mem_range.mpr hi)
    simpa [Array.getElem?_eq_getElem hi] using q
  obtain ⟨i0, ei0⟩ := is_v g3
  obtain rfl : w0 = (.int i0) := Option.some.inj ei0
  obtain ⟨i1, ei1⟩ := is_v g5
  obtain rfl : w1 = (.int i1) := Option.some.inj ei1
  obtain ⟨i2, ei2⟩ := is_v g7
  obtain rfl : w2 = (.int i2) := Option.some.inj ei2
  obtain ⟨i3, ei3⟩ := is_v g9
  obtain rfl : w3 = (.int i3) := Option.some.inj ei3
  obtain ⟨i4, ei4⟩ := is_v g11
  obtain rfl : w4 = (.int i4) := Option.some.inj ei4
  obtain ⟨i5, ei5⟩ := isL_v g12
  obtain rfl : w5 = (.long i5) := Option.some.inj ei5
  obtain ⟨n, o, h1, h2, h3, _, L, rfl, ⟨rfl, N⟩, hq⟩ := ct0 (n0 := s.heap.size) hw (Nat.le_refl _) i0 i1 i2 i3 i4 i5 p e ha hc hk s m _ below hf ((Spec.applies_iff_loose hf).mp happ).1 ⟨rfl, State.Warmed39.refl s, rfl⟩ trivial
  exact ⟨n, _, h1, h2, h3, hpost _ _ _ _ _ _ ⟨Cond.after_iff.mpr rfl, Cond.after_iff.mpr (eq_i res_at (Term.int_eval (1)) rfl), trivial⟩ ⟨hq.1, hq.2.1, (hq.2.2.sift fun y hy => Or.inr (N y hy)).mono (by decide) (by decide)⟩⟩
theorem main_1_1 : Claimed_1_1 := comes_1 fun _ _ _ _ _ _ h hF => ⟨h.1, hF⟩
theorem main_1_2 : Claimed_1_2 := comes_1 fun _ _ _ _ _ _ h hF => ⟨h.2.1, hF⟩
end Jvm.Pilot.@@N@@
namespace Jvm.Pilot.@@N@@
open Jvm Jvm.ClassFile Sem Op Lib Jvm.Free Jvm.Stand Jvm.Pilot.@@N@@.Jvm.D
/-! MADE BY PROGRAM (witnessworld.py) out of the Statement's table words and the real class files: 12 classes; the members and pool entries that the words name. The judged class is class 1, her method 6. -/
namespace start1
open Jvm.ClassFile
def u (s : String) : CpInfo := .utf8 (stringToUtf16 s)
/-- a pool by its gaps: so many unusable entries, then the entry; so many at the end -/
def gap : Nat → List CpInfo → List CpInfo
  | 0, r => r
  | n + 1, r => .unusable :: gap n r
def poolList (es : List (Nat × CpInfo)) (last : Nat) : List CpInfo := es.foldr (fun e r => gap e.1 (e.2 :: r)) (gap last [])
def pool (es : List (Nat × CpInfo)) (last : Nat) : Array CpInfo := ⟨poolList es last⟩
def fileOf (pool : Array CpInfo) (this : Nat) (attrs : Array Attribute := #[]) (ms : Array MethodInfo := #[]) (fl : Nat := 33) (sup : Nat := 0) (ifs : Array Nat := #[]) (fds : Array FieldInfo := #[]) : ClassFile where
  minorVersion := 0
  majorVersion := 65
  constantPool := pool
  accessFlags := fl
  thisClass := this
  superClass := sup
  interfaces := ifs
  fields := fds
  methods := ms
  attributes := attrs
def plain (name : String) (sup : Option ClassId) : Class where
  name := name
  kind := .ordinary
  loader := none
  accessFlags := 33
  super := sup
  interfaces := #[]
  cf := none
  fields := #[]
  methods := #[]
  instanceTypes := #[]
  staticTypes := #[]
  resolved := #[]
  callSites := []
  init := .initialized
  statics := none
  mirror := none

def pool0 : Array CpInfo := pool [(5, u "<init>"), (0, u "()V"), (1, .class_ 10), (1, u "java/lang/Object")] 113

def k0c0 : Code := { maxStack := 0, maxLocals := 1, code := object_method_1_code, exceptionTable := #[], attributes := #[] }
def k0m0 : Method := { name := "<init>", desc := "()V", sig := { parameters := [], returnType := none }, accessFlags := 1, code := some k0c0 }
/-- java/lang/Object -/
def k0 : Class := { plain "java/lang/Object" none with
  accessFlags := 33
  interfaces := #[]
  cf := some (fileOf pool0 8 #[] #[{ accessFlags := 1, nameIndex := 5, descriptorIndex := 6, attributes := #[] }] 33 0 #[] #[])
  fields := #[]
  methods := #[k0m0]
  instanceTypes := #[]
  staticTypes := #[]
  resolved := Array.replicate 124 none
  statics := none }

def pool1 : Array CpInfo := pool [(2, .class_ 4), (1, u "java/lang/Object"), (0, u "<init>"), (0, u "()V"), (0, .methodref 8 9), (0, .class_ 10), (0, .nameAndType 11 12), (0, u "com/example/flowsieve/flowsieve/xml/XmlScannerSkipSpacePinLaw"), (0, u "ws"), (0, u "(C)Z"), (0, .methodref 8 14), (0, .nameAndType 15 16), (0, u "draw"), (0, u "(I)C"), (0, .methodref 8 18), (0, .nameAndType 19 20), (0, u "step"), (0, u "([CII)I"), (0, .methodref 8 22), (0, .nameAndType 23 24), (0, u "counts"), (0, u "([CIII)I"), (0, .methodref 8 26), (0, .nameAndType 27 28), (0, u "isEnd"), (0, u "([CIII)Z"), (0, .class_ 30), (0, u "com/example/flowsieve/flowsieve/xml/XmlScanner"), (0, .methodref 29 32), (0, .nameAndType 5 33), (0, u "([CI)V"), (0, .fieldref 29 35), (0, .nameAndType 36 37), (0, u "at"), (0, u "I"), (0, .fieldref 29 39), (0, .nameAndType 40 37), (0, u "line"), (0, .fieldref 29 42), (0, .nameAndType 43 37), (0, u "lineStart"), (0, .methodref 29 45), (0, .nameAndType 46 47), (0, u "skipSpace"), (0, u "()Z"), (3, u "law"), (0, u "(IIIIIJ)Z")] 4

def k1m0 : Method := { name := "<init>", desc := "()V", sig := { parameters := [], returnType := none }, accessFlags := 2, code := none }
def k1c1 : Code := { maxStack := 2, maxLocals := 2, code := method_2_code, exceptionTable := #[], attributes := #[] }
def k1m1 : Method := { name := "draw", desc := "(I)C", sig := { parameters := [.int], returnType := some .char }, accessFlags := 10, code := some k1c1 }
def k1c2 : Code := { maxStack := 2, maxLocals := 1, code := method_3_code, exceptionTable := #[], attributes := #[] }
def k1m2 : Method := { name := "ws", desc := "(C)Z", sig := { parameters := [.char], returnType := some .boolean }, accessFlags := 10, code := some k1c2 }
def k1c3 : Code := { maxStack := 2, maxLocals := 3, code := method_4_code, exceptionTable := #[], attributes := #[] }
def k1m3 : Method := { name := "step", desc := "([CII)I", sig := { parameters := [(.array .char), .int, .int], returnType := some .int }, accessFlags := 10, code := some k1c3 }
def k1c4 : Code := { maxStack := 3, maxLocals := 4, code := method_5_code, exceptionTable := #[], attributes := #[] }
def k1m4 : Method := { name := "counts", desc := "([CIII)I", sig := { parameters := [(.array .char), .int, .int, .int], returnType := some .int }, accessFlags := 10, code := some k1c4 }
def k1c5 : Code := { maxStack := 2, maxLocals := 4, code := method_6_code, exceptionTable := #[], attributes := #[] }
def k1m5 : Method := { name := "isEnd", desc := "([CIII)Z", sig := { parameters := [(.array .char), .int, .int, .int], returnType := some .boolean }, accessFlags := 10, code := some k1c5 }
def k1c6 : Code := { maxStack := 5, maxLocals := 17, code := code, exceptionTable := #[], attributes := #[] }
def k1m6 : Method := { name := "law", desc := "(IIIIIJ)Z", sig := { parameters := [.int, .int, .int, .int, .int, .long], returnType := some .boolean }, accessFlags := 9, code := some k1c6 }
/-- com/example/flowsieve/flowsieve/xml/XmlScannerSkipSpacePinLaw -/
def k1 : Class := { plain "com/example/flowsieve/flowsieve/xml/XmlScannerSkipSpacePinLaw" (some 0) with
  accessFlags := 49
  interfaces := #[]
  cf := some (fileOf pool1 8 #[] #[{ accessFlags := 2, nameIndex := 5, descriptorIndex := 6, attributes := #[] }, { accessFlags := 10, nameIndex := 15, descriptorIndex := 16, attributes := #[] }, { accessFlags := 10, nameIndex := 11, descriptorIndex := 12, attributes := #[] }, { accessFlags := 10, nameIndex := 19, descriptorIndex := 20, attributes := #[] }, { accessFlags := 10, nameIndex := 23, descriptorIndex := 24, attributes := #[] }, { accessFlags := 10, nameIndex := 27, descriptorIndex := 28, attributes := #[] }, { accessFlags := 9, nameIndex := 51, descriptorIndex := 52, attributes := #[] }] 49 2 #[] #[])
  fields := #[]
  methods := #[k1m0, k1m1, k1m2, k1m3, k1m4, k1m5, k1m6]
  instanceTypes := #[]
  staticTypes := #[]
  resolved := Array.replicate 57 none
  statics := none }

def pool2 : Array CpInfo := pool [(1, .methodref 2 3), (0, .class_ 4), (0, .nameAndType 5 6), (0, u "com/example/flowsieve/flowsieve/xml/XmlScanner"), (0, u "<init>"), (0, u "([CILjava/lang/String;I)V"), (4, u "text"), (3, u "length"), (8, .methodref 25 26), (0, .class_ 27), (0, .nameAndType 5 28), (0, u "java/lang/Object"), (0, u "()V"), (0, .fieldref 2 30), (0, .nameAndType 31 32), (0, u "line"), (0, u "I"), (0, .fieldref 2 34), (0, .nameAndType 11 35), (0, u "[C"), (0, .fieldref 2 37), (0, .nameAndType 15 32), (0, .fieldref 2 39), (0, .nameAndType 40 41), (0, u "undecodable"), (0, u "Ljava/lang/String;"), (0, .fieldref 2 43), (0, .nameAndType 44 32), (0, u "undecodableIndex"), (0, .class_ 46), (0, u "com/example/flowsieve/flowsieve/xml/Places"), (0, .methodref 45 48), (0, .nameAndType 5 49), (0, u "([C)V"), (0, .fieldref 2 51), (0, .nameAndType 52 53), (0, u "places"), (0, u "Lcom/example/flowsieve/flowsieve/xml/Places;"), (36, .fieldref 2 91), (0, .nameAndType 92 32), (0, u "at"), (16, .methodref 2 110), (0, .nameAndType 111 112), (0, u "lineEndAt"), (0, u "(I)V"), (2, u "ASCII_NAME_START"), (0, u "[Z"), (9, u "ASCII_NAME_PART"), (87, u "PREDEFINED_ENTITIES"), (0, u "[Ljava/lang/String;"), (2, u "PREDEFINED_CHARACTERS"), (36, u "skipSpace"), (0, u "()Z"), (41, .class_ 299), (0, u "com/example/flowsieve/flowsieve/xml/XmlScanner$Declaration"), (0, .fieldref 2 301), (0, .nameAndType 302 32), (0, u "lineStart"), (53, u "NAME_START_RANGES"), (0, u "[I"), (6, u "NAME_PART_RANGES"), (14, u "INSIDE_COMMENT"), (1, u "INSIDE_CDATA_SECTION"), (0, u "([CI)V")] 60

def k2c0 : Code := { maxStack := 5, maxLocals := 3, code := prog_56_method_1_code, exceptionTable := #[], attributes := #[] }
def k2m0 : Method := { name := "<init>", desc := "([CI)V", sig := { parameters := [(.array .char), .int], returnType := none }, accessFlags := 0, code := some k2c0 }
def k2c1 : Code := { maxStack := 4, maxLocals := 5, code := prog_56_method_3_code, exceptionTable := #[], attributes := #[] }
def k2m1 : Method := { name := "<init>", desc := "([CILjava/lang/String;I)V", sig := { parameters := [(.array .char), .int, (.object "java/lang/String"), .int], returnType := none }, accessFlags := 2, code := some k2c1 }
def k2c2 : Code := { maxStack := 2, maxLocals := 6, code := prog_56_method_15_code, exceptionTable := #[], attributes := #[] }
def k2m2 : Method := { name := "skipSpace", desc := "()Z", sig := { parameters := [], returnType := some .boolean }, accessFlags := 0, code := some k2c2 }
def k2c3 : Code := { maxStack := 3, maxLocals := 2, code := prog_56_method_39_code, exceptionTable := #[], attributes := #[] }
def k2m3 : Method := { name := "lineEndAt", desc := "(I)V", sig := { parameters := [.int], returnType := none }, accessFlags := 2, code := some k2c3 }
/-- com/example/flowsieve/flowsieve/xml/XmlScanner -/
def k2 : Class := { plain "com/example/flowsieve/flowsieve/xml/XmlScanner" (some 0) with
  accessFlags := 48
  interfaces := #[]
  cf := some (fileOf pool2 2 #[.nestMembers #[298]] #[{ accessFlags := 0, nameIndex := 5, descriptorIndex := 382, attributes := #[] }, { accessFlags := 2, nameIndex := 5, descriptorIndex := 6, attributes := #[] }, { accessFlags := 0, nameIndex := 255, descriptorIndex := 256, attributes := #[] }, { accessFlags := 2, nameIndex := 111, descriptorIndex := 112, attributes := #[] }] 48 25 #[] #[{ accessFlags := 26, nameIndex := 214, descriptorIndex := 215, attributes := #[] }, { accessFlags := 26, nameIndex := 218, descriptorIndex := 35, attributes := #[] }, { accessFlags := 26, nameIndex := 356, descriptorIndex := 357, attributes := #[] }, { accessFlags := 26, nameIndex := 364, descriptorIndex := 357, attributes := #[] }, { accessFlags := 26, nameIndex := 115, descriptorIndex := 116, attributes := #[] }, { accessFlags := 26, nameIndex := 126, descriptorIndex := 116, attributes := #[] }, { accessFlags := 24, nameIndex := 379, descriptorIndex := 41, attributes := #[] }, { accessFlags := 24, nameIndex := 381, descriptorIndex := 41, attributes := #[] }, { accessFlags := 16, nameIndex := 11, descriptorIndex := 35, attributes := #[] }, { accessFlags := 16, nameIndex := 15, descriptorIndex := 32, attributes := #[] }, { accessFlags := 0, nameIndex := 92, descriptorIndex := 32, attributes := #[] }, { accessFlags := 0, nameIndex := 31, descriptorIndex := 32, attributes := #[] }, { accessFlags := 0, nameIndex := 302, descriptorIndex := 32, attributes := #[] }, { accessFlags := 18, nameIndex := 40, descriptorIndex := 41, attributes := #[] }, { accessFlags := 18, nameIndex := 44, descriptorIndex := 32, attributes := #[] }, { accessFlags := 18, nameIndex := 52, descriptorIndex := 53, attributes := #[] }])
  fields := #[{ name := "PREDEFINED_ENTITIES", type := (.array (.object "java/lang/String")), accessFlags := 26, slot := 0, constantValue := 0 }, { name := "PREDEFINED_CHARACTERS", type := (.array .char), accessFlags := 26, slot := 1, constantValue := 0 }, { name := "NAME_START_RANGES", type := (.array .int), accessFlags := 26, slot := 2, constantValue := 0 }, { name := "NAME_PART_RANGES", type := (.array .int), accessFlags := 26, slot := 3, constantValue := 0 }, { name := "ASCII_NAME_START", type := (.array .boolean), accessFlags := 26, slot := 4, constantValue := 0 }, { name := "ASCII_NAME_PART", type := (.array .boolean), accessFlags := 26, slot := 5, constantValue := 0 }, { name := "INSIDE_COMMENT", type := (.object "java/lang/String"), accessFlags := 24, slot := 6, constantValue := 0 }, { name := "INSIDE_CDATA_SECTION", type := (.object "java/lang/String"), accessFlags := 24, slot := 7, constantValue := 0 }, { name := "text", type := (.array .char), accessFlags := 16, slot := 0, constantValue := 0 }, { name := "length", type := .int, accessFlags := 16, slot := 1, constantValue := 0 }, { name := "at", type := .int, accessFlags := 0, slot := 2, constantValue := 0 }, { name := "line", type := .int, accessFlags := 0, slot := 3, constantValue := 0 }, { name := "lineStart", type := .int, accessFlags := 0, slot := 4, constantValue := 0 }, { name := "undecodable", type := (.object "java/lang/String"), accessFlags := 18, slot := 5, constantValue := 0 }, { name := "undecodableIndex", type := .int, accessFlags := 18, slot := 6, constantValue := 0 }, { name := "places", type := (.object "com/example/flowsieve/flowsieve/xml/Places"), accessFlags := 18, slot := 7, constantValue := 0 }]
  methods := #[k2m0, k2m1, k2m2, k2m3]
  instanceTypes := #[(.array .char), .int, .int, .int, .int, (.object "java/lang/String"), .int, (.object "com/example/flowsieve/flowsieve/xml/Places")]
  staticTypes := #[(.array (.object "java/lang/String")), (.array .char), (.array .int), (.array .int), (.array .boolean), (.array .boolean), (.object "java/lang/String"), (.object "java/lang/String")]
  resolved := Array.replicate 443 none
  statics := none }

def pool3 : Array CpInfo := pool [(1, .methodref 2 3), (0, .class_ 4), (0, .nameAndType 5 6), (0, u "java/lang/Object"), (0, u "<init>"), (0, u "()V"), (0, .fieldref 8 9), (0, .class_ 10), (0, .nameAndType 11 12), (0, u "com/example/flowsieve/flowsieve/xml/Places"), (0, u "line"), (0, u "I"), (0, .fieldref 8 14), (0, .nameAndType 15 12), (0, u "column"), (0, .fieldref 8 17), (0, .nameAndType 18 19), (0, u "text"), (0, u "[C"), (2, u "index"), (17, u "([C)V")] 7

def k3c0 : Code := { maxStack := 2, maxLocals := 2, code := prog_48_method_1_code, exceptionTable := #[], attributes := #[] }
def k3m0 : Method := { name := "<init>", desc := "([C)V", sig := { parameters := [(.array .char)], returnType := none }, accessFlags := 0, code := some k3c0 }
/-- com/example/flowsieve/flowsieve/xml/Places -/
def k3 : Class := { plain "com/example/flowsieve/flowsieve/xml/Places" (some 0) with
  accessFlags := 48
  interfaces := #[]
  cf := some (fileOf pool3 8 #[] #[{ accessFlags := 0, nameIndex := 5, descriptorIndex := 40, attributes := #[] }] 48 2 #[] #[{ accessFlags := 18, nameIndex := 18, descriptorIndex := 19, attributes := #[] }, { accessFlags := 2, nameIndex := 22, descriptorIndex := 12, attributes := #[] }, { accessFlags := 2, nameIndex := 11, descriptorIndex := 12, attributes := #[] }, { accessFlags := 2, nameIndex := 15, descriptorIndex := 12, attributes := #[] }])
  fields := #[{ name := "text", type := (.array .char), accessFlags := 18, slot := 0, constantValue := 0 }, { name := "index", type := .int, accessFlags := 2, slot := 1, constantValue := 0 }, { name := "line", type := .int, accessFlags := 2, slot := 2, constantValue := 0 }, { name := "column", type := .int, accessFlags := 2, slot := 3, constantValue := 0 }]
  methods := #[k3m0]
  instanceTypes := #[(.array .char), .int, .int, .int]
  staticTypes := #[]
  resolved := Array.replicate 48 none
  statics := none }

def pool4 : Array CpInfo := pool [(1, u "java/lang/Cloneable"), (0, .class_ 1), (0, u "java/lang/Object"), (0, .class_ 3)] 3

/-- java/lang/Cloneable -/
def k4 : Class := { plain "java/lang/Cloneable" (some 0) with
  accessFlags := 1537
  interfaces := #[]
  cf := some (fileOf pool4 2 #[] #[] 1537 4 #[] #[])
  fields := #[]
  methods := #[]
  instanceTypes := #[]
  staticTypes := #[]
  resolved := Array.replicate 8 none
  statics := none }

def pool5 : Array CpInfo := pool [(1, u "java/io/Serializable"), (0, .class_ 1), (0, u "java/lang/Object"), (0, .class_ 3)] 3

/-- java/io/Serializable -/
def k5 : Class := { plain "java/io/Serializable" (some 0) with
  accessFlags := 1537
  interfaces := #[]
  cf := some (fileOf pool5 2 #[] #[] 1537 4 #[] #[])
  fields := #[]
  methods := #[]
  instanceTypes := #[]
  staticTypes := #[]
  resolved := Array.replicate 8 none
  statics := none }

/-- the primitive byte -/
def k6 : Class := { plain "byte" none with kind := .primitive 'B', accessFlags := 0x411 }
/-- [B -/
def k7 : Class := { plain "[B" (some 0) with kind := .array 6 .byte, interfaces := #[4, 5], accessFlags := 1041 }

/-- the primitive char -/
def k8 : Class := { plain "char" none with kind := .primitive 'C', accessFlags := 0x411 }
/-- [C -/
def k9 : Class := { plain "[C" (some 0) with kind := .array 8 .char, interfaces := #[4, 5], accessFlags := 1041 }

/-- the primitive int -/
def k10 : Class := { plain "int" none with kind := .primitive 'I', accessFlags := 0x411 }
/-- [I -/
def k11 : Class := { plain "[I" (some 0) with kind := .array 10 .int, interfaces := #[4, 5], accessFlags := 1041 }

def heap : Heap := #[]
def classes : Array Class := #[k0, k1, k2, k3, k4, k5, k6, k7, k8, k9, k10, k11]
def interned : List (Array UInt16 × Addr) := []
def slotsUsed : Nat := 0
def theMethod : MethodId := ⟨1, 6⟩
def args0 : Array Value := #[.int 5, .int 7, .int 9, .int 3, .int 3, .long 1]
def aboutOver (below : List Frame) : State where
  vm := { classes := classes, interned := interned.toArray }
  heap := heap
  slotsUsed := slotsUsed
  threads := #[{ frames := .invoking theMethod args0 :: below }]
def below0 : List Frame := [.native { method := ⟨0, 0⟩, args := #[] }]
def about1 : State := aboutOver below0
def p0 : Program := .bare "" "" ""
def e0 : Env := launch0.env 0 0 0
theorem w_frames : about1.frames = Frame.invoking theMethod args0 :: below0 := rfl
set_option maxRecDepth 65536 in
theorem w_args : argsFit about1.vm theMethod args0 = true := by decide +kernel
set_option maxRecDepth 65536 in
theorem w_heap : heapFits about1 = true := by decide +kernel
set_option maxRecDepth 65536 in
theorem w_runnable : about1.curStatus? = some .runnable := by decide +kernel
set_option maxRecDepth 65536 in
theorem w_alone : about1.alone = true := by decide +kernel
set_option maxRecDepth 65536 in
theorem w_named : about1.methodNamed? x = some theMethod := by decide +kernel
set_option maxRecDepth 65536 in
theorem w_hears : about1.hears theMethod below0 = true := by decide +kernel
set_option maxRecDepth 65536 in
theorem w_ripe : about1.ripe theMethod args0 below0 = true := by decide +kernel
theorem w_running : about1.status = .running := rfl
set_option maxRecDepth 65536 in
theorem w_room : about1.hasRoom e0.platform room_1 = true :=
  launch0.hasRoom_least _ room_1 (by decide +kernel) (by decide +kernel) (by decide +kernel) (by decide +kernel) (by decide +kernel) (by decide +kernel)
theorem allAtoms_all (ts : List Jvm.Cond) (a : Array Jvm.Value) (st : Jvm.State) : (allAtoms ts).before a st = ts.all (fun c => c.before a st) := by
  induction ts with
  | nil => rfl
  | cons c t ih =>
    show (Jvm.Cond.and c (allAtoms t)).before a st = _
    rw [Jvm.Cond.before_and, ih, List.all_cons]
def words1 : List Jvm.Cond := Jvm.Cond.code x code maxLocals ret :: tables_1
/-- a 'code' word, met by the world's own term for the bytes: nothing is compared byte by byte -/
theorem code_word {y : MethodName} {bytes : ByteArray} {mx : Nat} {rt : Option FieldType} {a : Array Value} {s : State} {m : MethodId} {meth : Method} {c : Code} (h1 : s.methodNamed? y = some m) (h2 : s.vm.method? m = some meth) (h3 : meth.code = some c) (h4 : c.code = bytes)
    (h5 : (c.maxLocals == mx && c.exceptionTable.isEmpty && decide (c.maxStack ≤ mostOperands) && decide (meth.sig.returnType = rt) && !meth.locks && decide (parseMethodDescriptor y.desc = some meth.sig)) = true) : (Jvm.Cond.code y bytes mx rt).before a s = true := by
  simp only [Bool.and_eq_true, beq_iff_eq, Bool.not_eq_true', decide_eq_true_eq] at h5
  obtain ⟨⟨⟨⟨⟨g1, g2⟩, g3⟩, g4⟩, g5⟩, g6⟩ := h5
  simp [Cond.before, Cond.holds, Cond.value, h1, h2, h3, h4, g1, g2, g3, g4, g5, g6]
def isCode : Jvm.Cond → Bool
  | .code _ _ _ _ => true
  | _ => false
theorem all_split {L : List Jvm.Cond} {P : Jvm.Cond → Bool} (h1 : L.all (fun c => isCode c || P c) = true) (h2 : ∀ c ∈ L.filter isCode, P c = true) : L.all P = true := by
  refine List.all_eq_true.mpr fun c hc => ?_
  have h := List.all_eq_true.mp h1 c hc
  rcases Bool.eq_false_or_eq_true (isCode c) with hi | hi
  · exact h2 c (List.mem_filter.mpr ⟨hc, hi⟩)
  · simpa [hi] using h
set_option maxRecDepth 65536 in
theorem w_c0 : (Jvm.Cond.code x code maxLocals ret).before args0 about1 = true := code_word (m := ⟨1, 6⟩) (meth := k1m6) (c := k1c6) (by decide +kernel) rfl rfl rfl (by decide +kernel)
set_option maxRecDepth 65536 in
theorem w_c1 : (Jvm.Cond.code ({ cls := "com/example/flowsieve/flowsieve/xml/XmlScannerSkipSpacePinLaw", name := "draw", desc := "(I)C" } : Jvm.MethodName) method_2_code (2 : Nat) (Option.some Jvm.ClassFile.FieldType.char)).before args0 about1 = true := code_word (m := ⟨1, 1⟩) (meth := k1m1) (c := k1c1) (by decide +kernel) rfl rfl rfl (by decide +kernel)
set_option maxRecDepth 65536 in
theorem w_c2 : (Jvm.Cond.code ({ cls := "com/example/flowsieve/flowsieve/xml/XmlScannerSkipSpacePinLaw", name := "step", desc := "([CII)I" } : Jvm.MethodName) method_4_code (3 : Nat) (Option.some Jvm.ClassFile.FieldType.int)).before args0 about1 = true := code_word (m := ⟨1, 3⟩) (meth := k1m3) (c := k1c3) (by decide +kernel) rfl rfl rfl (by decide +kernel)
set_option maxRecDepth 65536 in
theorem w_c3 : (Jvm.Cond.code ({ cls := "com/example/flowsieve/flowsieve/xml/XmlScannerSkipSpacePinLaw", name := "counts", desc := "([CIII)I" } : Jvm.MethodName) method_5_code (4 : Nat) (Option.some Jvm.ClassFile.FieldType.int)).before args0 about1 = true := code_word (m := ⟨1, 4⟩) (meth := k1m4) (c := k1c4) (by decide +kernel) rfl rfl rfl (by decide +kernel)
set_option maxRecDepth 65536 in
theorem w_c4 : (Jvm.Cond.code ({ cls := "com/example/flowsieve/flowsieve/xml/XmlScannerSkipSpacePinLaw", name := "isEnd", desc := "([CIII)Z" } : Jvm.MethodName) method_6_code (4 : Nat) (Option.some Jvm.ClassFile.FieldType.boolean)).before args0 about1 = true := code_word (m := ⟨1, 5⟩) (meth := k1m5) (c := k1c5) (by decide +kernel) rfl rfl rfl (by decide +kernel)
set_option maxRecDepth 65536 in
theorem w_c5 : (Jvm.Cond.code ({ cls := "com/example/flowsieve/flowsieve/xml/XmlScanner", name := "<init>", desc := "([CI)V" } : Jvm.MethodName) prog_56_method_1_code (3 : Nat) (Option.none : Option Jvm.ClassFile.FieldType)).before args0 about1 = true := code_word (m := ⟨2, 0⟩) (meth := k2m0) (c := k2c0) (by decide +kernel) rfl rfl rfl (by decide +kernel)
set_option maxRecDepth 65536 in
theorem w_c6 : (Jvm.Cond.code ({ cls := "com/example/flowsieve/flowsieve/xml/XmlScanner", name := "<init>", desc := "([CILjava/lang/String;I)V" } : Jvm.MethodName) prog_56_method_3_code (5 : Nat) (Option.none : Option Jvm.ClassFile.FieldType)).before args0 about1 = true := code_word (m := ⟨2, 1⟩) (meth := k2m1) (c := k2c1) (by decide +kernel) rfl rfl rfl (by decide +kernel)
set_option maxRecDepth 65536 in
theorem w_c7 : (Jvm.Cond.code ({ cls := "java/lang/Object", name := "<init>", desc := "()V" } : Jvm.MethodName) object_method_1_code (1 : Nat) (Option.none : Option Jvm.ClassFile.FieldType)).before args0 about1 = true := code_word (m := ⟨0, 0⟩) (meth := k0m0) (c := k0c0) (by decide +kernel) rfl rfl rfl (by decide +kernel)
set_option maxRecDepth 65536 in
theorem w_c8 : (Jvm.Cond.code ({ cls := "com/example/flowsieve/flowsieve/xml/Places", name := "<init>", desc := "([C)V" } : Jvm.MethodName) prog_48_method_1_code (2 : Nat) (Option.none : Option Jvm.ClassFile.FieldType)).before args0 about1 = true := code_word (m := ⟨3, 0⟩) (meth := k3m0) (c := k3c0) (by decide +kernel) rfl rfl rfl (by decide +kernel)
set_option maxRecDepth 65536 in
theorem w_c9 : (Jvm.Cond.code ({ cls := "com/example/flowsieve/flowsieve/xml/XmlScanner", name := "skipSpace", desc := "()Z" } : Jvm.MethodName) prog_56_method_15_code (6 : Nat) (Option.some Jvm.ClassFile.FieldType.boolean)).before args0 about1 = true := code_word (m := ⟨2, 2⟩) (meth := k2m2) (c := k2c2) (by decide +kernel) rfl rfl rfl (by decide +kernel)
set_option maxRecDepth 65536 in
theorem w_c10 : (Jvm.Cond.code ({ cls := "com/example/flowsieve/flowsieve/xml/XmlScannerSkipSpacePinLaw", name := "ws", desc := "(C)Z" } : Jvm.MethodName) method_3_code (1 : Nat) (Option.some Jvm.ClassFile.FieldType.boolean)).before args0 about1 = true := code_word (m := ⟨1, 2⟩) (meth := k1m2) (c := k1c2) (by decide +kernel) rfl rfl rfl (by decide +kernel)
set_option maxRecDepth 65536 in
theorem w_c11 : (Jvm.Cond.code ({ cls := "com/example/flowsieve/flowsieve/xml/XmlScanner", name := "lineEndAt", desc := "(I)V" } : Jvm.MethodName) prog_56_method_39_code (2 : Nat) (Option.none : Option Jvm.ClassFile.FieldType)).before args0 about1 = true := code_word (m := ⟨2, 3⟩) (meth := k2m3) (c := k2c3) (by decide +kernel) rfl rfl rfl (by decide +kernel)
def codes1 : List Jvm.Cond := [Jvm.Cond.code x code maxLocals ret, Jvm.Cond.code ({ cls := "com/example/flowsieve/flowsieve/xml/XmlScannerSkipSpacePinLaw", name := "draw", desc := "(I)C" } : Jvm.MethodName) method_2_code (2 : Nat) (Option.some Jvm.ClassFile.FieldType.char), Jvm.Cond.code ({ cls := "com/example/flowsieve/flowsieve/xml/XmlScannerSkipSpacePinLaw", name := "step", desc := "([CII)I" } : Jvm.MethodName) method_4_code (3 : Nat) (Option.some Jvm.ClassFile.FieldType.int), Jvm.Cond.code ({ cls := "com/example/flowsieve/flowsieve/xml/XmlScannerSkipSpacePinLaw", name := "counts", desc := "([CIII)I" } : Jvm.MethodName) method_5_code (4 : Nat) (Option.some Jvm.ClassFile.FieldType.int), Jvm.Cond.code ({ cls := "com/example/flowsieve/flowsieve/xml/XmlScannerSkipSpacePinLaw", name := "isEnd", desc := "([CIII)Z" } : Jvm.MethodName) method_6_code (4 : Nat) (Option.some Jvm.ClassFile.FieldType.boolean), Jvm.Cond.code ({ cls := "com/example/flowsieve/flowsieve/xml/XmlScanner", name := "<init>", desc := "([CI)V" } : Jvm.MethodName) prog_56_method_1_code (3 : Nat) (Option.none : Option Jvm.ClassFile.FieldType), Jvm.Cond.code ({ cls := "com/example/flowsieve/flowsieve/xml/XmlScanner", name := "<init>", desc := "([CILjava/lang/String;I)V" } : Jvm.MethodName) prog_56_method_3_code (5 : Nat) (Option.none : Option Jvm.ClassFile.FieldType), Jvm.Cond.code ({ cls := "java/lang/Object", name := "<init>", desc := "()V" } : Jvm.MethodName) object_method_1_code (1 : Nat) (Option.none : Option Jvm.ClassFile.FieldType), Jvm.Cond.code ({ cls := "com/example/flowsieve/flowsieve/xml/Places", name := "<init>", desc := "([C)V" } : Jvm.MethodName) prog_48_method_1_code (2 : Nat) (Option.none : Option Jvm.ClassFile.FieldType), Jvm.Cond.code ({ cls := "com/example/flowsieve/flowsieve/xml/XmlScanner", name := "skipSpace", desc := "()Z" } : Jvm.MethodName) prog_56_method_15_code (6 : Nat) (Option.some Jvm.ClassFile.FieldType.boolean), Jvm.Cond.code ({ cls := "com/example/flowsieve/flowsieve/xml/XmlScannerSkipSpacePinLaw", name := "ws", desc := "(C)Z" } : Jvm.MethodName) method_3_code (1 : Nat) (Option.some Jvm.ClassFile.FieldType.boolean), Jvm.Cond.code ({ cls := "com/example/flowsieve/flowsieve/xml/XmlScanner", name := "lineEndAt", desc := "(I)V" } : Jvm.MethodName) prog_56_method_39_code (2 : Nat) (Option.none : Option Jvm.ClassFile.FieldType)]
set_option maxRecDepth 65536 in
theorem codes_eq : words1.filter isCode = codes1 := rfl
theorem w_codes : ∀ c ∈ words1.filter isCode, c.before args0 about1 = true := by
  rw [codes_eq]
  intro c hc
  simp only [codes1, List.mem_cons, List.not_mem_nil, or_false] at hc
  rcases hc with rfl | rfl | rfl | rfl | rfl | rfl | rfl | rfl | rfl | rfl | rfl | rfl
  · exact w_c0
  · exact w_c1
  · exact w_c2
  · exact w_c3
  · exact w_c4
  · exact w_c5
  · exact w_c6
  · exact w_c7
  · exact w_c8
  · exact w_c9
  · exact w_c10
  · exact w_c11
set_option maxRecDepth 65536 in
theorem w_t1 : (words1.take 24).all (fun c => isCode c || c.before args0 about1) = true := by decide +kernel
set_option maxRecDepth 65536 in
theorem w_t2 : ((words1.drop 24).take 24).all (fun c => isCode c || c.before args0 about1) = true := by decide +kernel
set_option maxRecDepth 65536 in
theorem w_t3 : ((words1.drop 24).drop 24).all (fun c => isCode c || c.before args0 about1) = true := by decide +kernel
theorem w_tables : (allAtoms (Jvm.Cond.code x code maxLocals ret :: tables_1)).before args0 about1 = true := by
  rw [allAtoms_all]
  show words1.all (fun c => c.before args0 about1) = true
  refine all_split ?_ w_codes
  rw [← List.take_append_drop 24 words1, List.all_append, w_t1, ← List.take_append_drop 24 (words1.drop 24), List.all_append, w_t2, w_t3]
  rfl
set_option maxRecDepth 65536 in
theorem w_case : (Jvm.Cond.and given_1 narrow_1).before args0 about1 = true := by decide +kernel
theorem w_applies : (headSpec (Jvm.Cond.code x code maxLocals ret :: tables_1) room_1).applies x e0.platform about1 = true :=
  (Spec.applies_iff w_frames).mpr ⟨w_running, w_runnable, w_alone, w_named, w_hears, w_ripe, w_room, w_tables⟩
theorem atStart : AtStart classFile x code maxLocals ret World_1 tables_1 room_1 Calls_1 rest_1 Pre_1 launch0 p0 e0 about1 theMethod args0 below0 :=
  ⟨lists_1, trivial, launch0.admits_env _ _ _, launch0.least_env, fairChoices_fair.cas, fairChoices_fair.clock, w_frames, w_args, w_heap, w_applies, trivial, trivial, w_case⟩
end start1
theorem witness_1 : WitnessClaimed_1 := ⟨start1.p0, start1.e0, start1.about1, start1.theMethod, start1.args0, start1.below0, start1.atStart⟩
end Jvm.Pilot.@@N@@
