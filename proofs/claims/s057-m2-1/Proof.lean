import JvmDerived
import JvmDerived.Pilot.@@N@@Statement
import JvmDerived.Pilot.@@N@@Code
set_option linter.unusedVariables false
set_option linter.unusedSimpArgs false
namespace Jvm.OwnKit
open Sem ClassFile Op Lib Jvm.Stand Jvm.Free Jvm.LawKit Jvm.RoadKit
/-- a run of the method y that stands at pc with the locals ls, the stack st and the heap h comes to a return that Q allows -/
def ORun (l : Launch) (y : MethodName) (bytes : ByteArray) (maxL : Nat) (ret : Option FieldType) (R : Room) (Z : State) (n0 : Nat) (as' : Array Value) (Q : Option Value → Heap → Prop) (Es : State → Prop) (FE : State → Outcome → State → List Loc → Nat → Nat → Prop) (h : Heap) (cells slots pc : Nat) (ls : List Slot) (st : List Value) : Prop :=
  ∀ (p : Program) (e : Env) (s : State) (m : MethodId) (below : List Frame) (meth : Method) (c : Code) (T : State) (locs : List Loc),
    p.tables.exec = Jvm.exec → Z.Warmed39 s.vm → c.code = bytes → c.maxLocals = maxL → s.vm.findClass y.cls = some m.cls → meth.name = y.name → meth.sig.returnType = ret → meth.locks = false →
    Stand p l e R s m as' below meth c T locs cells slots → T.heap = h → Fr n0 locs → Es s →
    ∃ (U : State) (o : Outcome), Steps p.tables e below (T.setTop (mkF m pc ls.toArray st)) U ∧ U.status = .running ∧ Ended U below o ∧ ∃ v L, o = .returned v ∧ (Q v U.heap ∧ Fr n0 L) ∧ FE s o U L R.cells R.slots
/-- the contract of a method at the heap h and the arguments as' -/
def Ct (l : Launch) (y : MethodName) (bytes : ByteArray) (maxL : Nat) (ret : Option FieldType) (ws : List Jvm.Cond) (R : Room) (Z : State) (n0 : Nat) (as' : Array Value) (h : Heap) (Q : Option Value → Heap → Prop) : Prop :=
  MetFree l y (head1 (Jvm.Cond.code y bytes maxL ret :: ws) R) (fun a U => a = as' ∧ Z.Warmed39 U.vm ∧ U.heap = h) (fun _ _ _ _ _ => True) (fun _ U o U' => ∃ v L, o = .returned v ∧ (Q v U'.heap ∧ Fr n0 L) ∧ FrameEnd U o U' L R.cells R.slots)
def D (bytes : ByteArray) (pc : Nat) (i : Instr) (len nx : Nat) : Prop := decode bytes pc = .ok (i, len) ∧ pc + len = nx
def DB (bytes : ByteArray) (pc : Nat) (i : Int → Instr) (off : Int) (nx tgt : Nat) : Prop := decode bytes pc = .ok (i off, 3) ∧ pc + 3 = nx ∧ 0 ≤ (pc : Int) + off ∧ ((pc : Int) + off).toNat = tgt
/-- an array of a primitive kind whose elements are kept as ints, by their list -/
def Ary (Z : State) (h : Heap) (a : Addr) (ty : FieldType) (vs : List Int32) : Prop := ∃ c : Cell, Arr Z h a c ty ∧ c.slots = (vs.map Value.int).toArray
theorem eq_ints {args : Array Value} {first s : State} {o : Option Outcome} {idx : List Nat} {a b : Term} {x y : Int32} (ha : a.eval args first o idx s = some (.int x)) (hb : b.eval args first o idx s = some (.int y)) : (Jvm.Cond.eq a b).value args first o s idx = some (decide (x = y)) := by simp [Cond.value, ha, hb]
theorem fldEq {args : Array Value} {s : State} {t : Term} {C n d : String} {x : Addr} {k : Int32} (ht : t.eval args s none [] s = some (.ref x)) (h : (Jvm.Cond.eq (.field t C n d) (.int k)).value args s none s [] = some true) : Fld s s.heap x C n d (.int k) := by
  have e : (Term.field t C n d).eval args s none [] s = some (.int k) := by
    obtain ⟨v, w, e1, e2, k1, k2⟩ := cmp_v (Or.inl h)
    cases (show some (Value.int k) = some w from e2)
    obtain ⟨z, rfl⟩ := k2
    have q := gotT (eq_ints e1 e2) h
    rw [q] at e1; exact e1
  exact Fld.start (by rw [← fld_at ht]; exact e)
theorem n32_add (a b : Nat) : a.toInt32 + b.toInt32 = (a + b).toInt32 := (Int32.ofNat_add a b).symm
theorem n32_int {a : Nat} (h : a < 2 ^ 31) : a.toInt32.toInt = a := Int32.toInt_ofNat_of_lt h
theorem n32_sub {a b : Nat} (h : b ≤ a) : a.toInt32 - b.toInt32 = (a - b).toInt32 := by
  have e : (a - b).toInt32 + b.toInt32 = a.toInt32 := by rw [n32_add]; congr 1; omega
  rw [← e, Int32.add_sub_cancel]
theorem n32_lt {a b : Nat} (ha : a < 2 ^ 31) (hb : b < 2 ^ 31) : a.toInt32 < b.toInt32 ↔ a < b := by
  rw [Int32.lt_iff_toInt_lt, n32_int ha, n32_int hb]; omega
theorem n32_eq {a b : Nat} (ha : a < 2 ^ 31) (hb : b < 2 ^ 31) : a.toInt32 = b.toInt32 ↔ a = b := by
  rw [← Int32.toInt_inj, n32_int ha, n32_int hb]; omega
theorem n32_clamp {a : Nat} (h : a < 2 ^ 31) : a.toInt32.toNatClampNeg = a := by
  show a.toInt32.toInt.toNat = a
  rw [n32_int h]; rfl
theorem n32_nn {a : Nat} (h : a < 2 ^ 31) : ¬ a.toInt32 < 0 := by
  have h0 : (0 : Int32).toInt = 0 := by decide
  rw [Int32.lt_iff_toInt_lt, n32_int h]; omega
theorem n32_of {x : Int32} (h : ¬ x < 0) : ∃ n : Nat, x = n.toInt32 ∧ n < 2 ^ 31 ∧ x.toInt = n := ⟨x.toNatClampNeg, (back32 h).1.symm, (back32 h).2, nat_of h⟩
theorem n32_and (x m : Int32) (k : Nat) (hk : k ≤ 31) (hm : m.toBitVec.toNat = 2 ^ k - 1) : ∃ n : Nat, x &&& m = n.toInt32 ∧ n < 2 ^ k := by
  have h1 := c_mask x m k hk hm
  have h2 : (0 : Int) ≤ (x &&& m).toInt := by rw [h1]; exact Int.emod_nonneg _ (by have := Nat.pow_pos (n := k) (show 0 < 2 by decide); omega)
  have h3 : (x &&& m).toInt < (2 ^ k : Nat) := by rw [h1]; exact Int.emod_lt_of_pos _ (by have := Nat.pow_pos (n := k) (show 0 < 2 by decide); omega)
  have h0 : (0 : Int32).toInt = 0 := by decide
  obtain ⟨n, e1, e2, e3⟩ := n32_of (x := x &&& m) (by rw [Int32.lt_iff_toInt_lt]; omega)
  exact ⟨n, e1, by omega⟩
theorem n32_rem {u k : Nat} (hu : u < 2 ^ 31) (hk : 0 < k) (hk2 : k < 2 ^ 31) : u.toInt32 % k.toInt32 = (u % k).toInt32 := by
  have h2 := (c_irem u.toInt32 k.toInt32 k (n32_int hk2)).1 (by rw [n32_int hu]; omega)
  have h3 := Nat.mod_lt u hk
  refine Int32.toInt_inj.mp ?_
  rw [h2, n32_int hu, n32_int (by omega)]
  omega
theorem n32_ushr (x q : Int32) (k : Nat) (hk : q.toBitVec.toNat % 32 = k) (h0 : 0 < k) : ∃ u : Nat, (x.toUInt32 >>> (q &&& 31).toUInt32).toInt32 = u.toInt32 ∧ u < 2 ^ 31 := by
  have h1 := c_iushr x q k hk h0
  have h2 : (2 : Nat) ≤ 2 ^ k := Nat.le_trans (by decide) (Nat.pow_le_pow_right (by decide) h0)
  have h3 : 0 ≤ (x.toInt % 4294967296) / ((2 ^ k : Nat) : Int) := Int.ediv_nonneg (by omega) (by omega)
  have z : (0 : Int32).toInt = 0 := by decide
  obtain ⟨n, e1, e2, e3⟩ := n32_of (x := (x.toUInt32 >>> (q &&& 31).toUInt32).toInt32) (by rw [Int32.lt_iff_toInt_lt]; omega)
  exact ⟨n, e1, e2⟩
theorem n32_mod (x : Int32) (k : Nat) (hk : 0 < k) (hk2 : k < 2 ^ 31) : ∃ n : Nat, (x &&& (2147483647 : Int32)) % k.toInt32 = n.toInt32 ∧ n < k := by
  have h1 := c_mask x 2147483647 31 (by decide) (by decide)
  have h2 := (c_irem (x &&& 2147483647) k.toInt32 k (n32_int hk2)).1 (by omega)
  have h4 := Int.emod_nonneg (x &&& 2147483647).toInt (b := (k : Int)) (by omega)
  have h5 := Int.emod_lt_of_pos (x &&& 2147483647).toInt (b := (k : Int)) (by omega)
  have h0 : (0 : Int32).toInt = 0 := by decide
  obtain ⟨n, e1, e2, e3⟩ := n32_of (x := (x &&& (2147483647 : Int32)) % k.toInt32) (by rw [Int32.lt_iff_toInt_lt]; omega)
  exact ⟨n, e1, by omega⟩
theorem lenEq {args : Array Value} {s : State} {t : Term} {a : Addr} {cl : Cell} {ty : FieldType} {k : Int32} (ht : t.eval args s none [] s = some (.ref a)) (A : Arr s s.heap a cl ty) (h : (Jvm.Cond.eq (.length t) (.int k)).value args s none s [] = some true) : cl.slots.size < 2 ^ 31 ∧ cl.slots.size.toInt32 = k := by
  have ha := A.fin (Vm.Alike.refl _)
  obtain ⟨v, w, e1, e2, k1, k2⟩ := cmp_v (Or.inl h)
  by_cases hl : cl.slots.size < 2 ^ 31
  · have e := len_f ht ha hl
    exact ⟨hl, gotT (eq_ints e (show (Term.int k).eval args s none [] s = some (.int k) from rfl)) h⟩
  · simp [Term.eval, ht, ha, hl] at e1
theorem elemEq {args : Array Value} {s : State} {t u : Term} {a b : Addr} {cl : Cell} {ty : FieldType} {j : Int32} (ht : t.eval args s none [] s = some (.ref a)) (A : Arr s s.heap a cl ty) (hu : u.eval args s none [] s = some (.ref b)) (h : (Jvm.Cond.eq (.elem t (.int j)) u).value args s none s [] = some true) : cl.slots[j.toNatClampNeg]? = some (.ref b) := by
  obtain ⟨v, w, e1, e2, k1, k2⟩ := cmp_v (Or.inl h)
  cases hu.symm.trans e2
  have hv : v.isRef = true := k2.2
  have q := gotT (eq_R e1 hu hv rfl) h
  rw [q] at e1
  exact (elem_in e1 ht rfl A.1).2
section AryFacts
variable {Z : State} {h h' : Heap} {a b : Addr} {ty : FieldType} {vs vs' : List Int32} {sl : Nat} {v : Value} {ws : List Addr}
theorem Ary.lt (F : Ary Z h a ty vs) : a < h.size := by obtain ⟨c, A, -⟩ := F; exact A.lt
theorem Ary.ext (F : Ary Z h a ty vs) (E : Ext h h') : Ary Z h' a ty vs := by obtain ⟨c, A, q⟩ := F; exact ⟨c, A.ext E, q⟩
theorem Ary.other (F : Ary Z h b ty vs) (W : Wr h h' a sl v) (q : b ≠ a) : Ary Z h' b ty vs := by obtain ⟨c, A, r⟩ := F; exact ⟨c, A.other W q, r⟩
theorem Ary.keep (F : Ary Z h a ty vs) (K : Keep h h' ws) (q : a ∉ ws) : Ary Z h' a ty vs := by obtain ⟨c, A, r⟩ := F; exact ⟨c, ⟨K.2.1 a c A.1 q, A.2⟩, r⟩
theorem Ary.set {i : Nat} {x : Int32} (F : Ary Z h a ty vs) (W : Wr h h' a i (.int x)) (e : vs.set i x = vs') : Ary Z h' a ty vs' := by
  obtain ⟨c, A, r⟩ := F
  refine ⟨_, A.same W, ?_⟩
  subst e
  simp [Cell.setSlot, r, List.map_set]
theorem Ary.new {k : ClassId} {n : Int32} {m : Nat} (A : Arr Z h a (newA k ty n) ty) (hd : defaultValue ty = .int 0) (hn : n.toNatClampNeg = m) : Ary Z h a ty (List.replicate m 0) := by
  refine ⟨_, A, ?_⟩
  subst hn
  simp [newA, hd]
theorem Ary.inb {j : Int32} {x : Int32} {c : Cell} (q : c.slots = (vs.map Value.int).toArray) (hj : ¬ j < 0) (hv : vs[j.toNatClampNeg]? = some x) : ¬ (j < 0 ∨ c.slots.size ≤ j.toNatClampNeg) ∧ c.slots[j.toNatClampNeg]? = some (.int x) := by
  have h1 : j.toNatClampNeg < vs.length := by
    rcases Nat.lt_or_ge j.toNatClampNeg vs.length with h | h
    · exact h
    · rw [List.getElem?_eq_none h] at hv; cases hv
  refine ⟨fun r => ?_, ?_⟩
  · rcases r with r | r
    · exact hj r
    · rw [q] at r; simp at r; omega
  · rw [q]; simp [hv]
theorem Ary.size {c : Cell} (q : c.slots = (vs.map Value.int).toArray) : c.slots.size = vs.length := by rw [q]; simp
end AryFacts
section Logic
variable {l : Launch} {y : MethodName} {bytes : ByteArray} {maxL : Nat} {ret : Option FieldType} {ws : List Jvm.Cond} {R : Room} {Z : State} {n0 : Nat} {as' : Array Value} {Q : Option Value → Heap → Prop} {Es : State → Prop} {FE : State → Outcome → State → List Loc → Nat → Nat → Prop} {h : Heap} {cells slots pc nx tgt : Nat} {ls ls' : List Slot} {st : List Value} {a0 : Array Value}
theorem Ct.of (hpl : plainFor y = true) (hef : ∀ m, entryFrame m as' maxL = mkF m 0 ls.toArray []) (H : ORun l y bytes maxL ret R Z n0 as' Q (fun _ => True) FrameEnd h 0 0 0 ls []) : Ct l y bytes maxL ret ws R Z n0 as' h Q := by
  refine MetFree.of_bodySF hpl hisR ?_
  intro p e s m args below meth c s₁ Bd hml0 hP hK
  obtain ⟨rfl, hZ, hh⟩ := hP
  rw [hef m]
  exact H p e s m below meth c s₁ [] Bd.exec hZ Bd.bytes hml0 (findClass_of_methodNamed Bd.named) (name_of_methodNamed Bd.named Bd.method).1 Bd.returns Bd.notSynchronized (Stand.of_body Bd) (by rw [← hh, Bd.state]; rfl) (Fr.nil n0) trivial
theorem ORun.weak {cells' slots' : Nat} (hc : cells ≤ cells') (hs : slots ≤ slots') (K : ORun l y bytes maxL ret R Z n0 as' Q Es FE h cells' slots' pc ls st) : ORun l y bytes maxL ret R Z n0 as' Q Es FE h cells slots pc ls st :=
  fun p e s m below meth c T locs hx hZ hby hml hown hnm hret hlk X eT N hE => K p e s m below meth c T locs hx hZ hby hml hown hnm hret hlk ⟨X.admits, X.cas, X.clock, X.frames, X.room, X.hears, X.method, X.code, X.here, X.tail, X.warmed, X.limits, X.bytes, X.same.mono hc hs⟩ eT N hE
/-- one step that moves neither heap nor tables -/
theorem ORun.step {pc' : Nat} {st' : List Value}
    (hs : ∀ (p : Program) (e : Env) (s : State) (m : MethodId) (below : List Frame) (meth : Method) (c : Code) (T : State) (locs : List Loc), p.tables.exec = Jvm.exec → Z.Warmed39 s.vm → c.code = bytes → s.vm.findClass y.cls = some m.cls → Stand p l e R s m as' below meth c T locs cells slots → T.heap = h →
      ∀ target, Steps p.tables e below (T.setTop (mkF m pc' ls'.toArray st')) target → Steps p.tables e below (T.setTop (mkF m pc ls.toArray st)) target)
    (K : ORun l y bytes maxL ret R Z n0 as' Q Es FE h cells slots pc' ls' st') : ORun l y bytes maxL ret R Z n0 as' Q Es FE h cells slots pc ls st :=
  fun p e s m below meth c T locs hx hZ hby hml hown hnm hret hlk X eT N hE => by
    obtain ⟨U, o, h1, h2⟩ := K p e s m below meth c T locs hx hZ hby hml hown hnm hret hlk X eT N hE
    exact ⟨U, o, hs p e s m below meth c T locs hx hZ hby hown X eT _ h1, h2⟩
/-- one step by a law that hands back a new state -/
theorem ORun.law {pc' : Nat} {st' : List Value} {h' : Heap} {cells' slots' : Nat}
    (hs : ∀ (p : Program) (e : Env) (s : State) (m : MethodId) (below : List Frame) (meth : Method) (c : Code) (T : State) (locs : List Loc), p.tables.exec = Jvm.exec → Z.Warmed39 s.vm → c.code = bytes → c.maxLocals = maxL → s.vm.findClass y.cls = some m.cls → meth.name = y.name → Stand p l e R s m as' below meth c T locs cells slots → T.heap = h → Fr n0 locs →
      ∃ T' locs', Stand p l e R s m as' below meth c T' locs' cells' slots' ∧ T'.heap = h' ∧ Fr n0 locs' ∧ ∀ target, Steps p.tables e below (T'.setTop (mkF m pc' ls'.toArray st')) target → Steps p.tables e below (T.setTop (mkF m pc ls.toArray st)) target)
    (K : ORun l y bytes maxL ret R Z n0 as' Q Es FE h' cells' slots' pc' ls' st') : ORun l y bytes maxL ret R Z n0 as' Q Es FE h cells slots pc ls st :=
  fun p e s m below meth c T locs hx hZ hby hml hown hnm hret hlk X eT N hE => by
    obtain ⟨T', locs', X', eT', N', st⟩ := hs p e s m below meth c T locs hx hZ hby hml hown hnm X eT N
    obtain ⟨U, o, h1, h2⟩ := K p e s m below meth c T' locs' hx hZ hby hml hown hnm hret hlk X' eT' N' hE
    exact ⟨U, o, st _ h1, h2⟩
theorem getL {k : Nat} {v : Slot} (q : ls[k]? = some v) : ls.toArray[k]? = some v := by simpa using q
/-! loads, stores -/
theorem r_iloadN {k : Fin 4} {v : Int32} (hd : D bytes pc (.iload_n k) 1 nx) (hl : ls[k.val]? = some (.val (.int v))) (K : ORun l y bytes maxL ret R Z n0 as' Q Es FE h cells slots nx ls (.int v :: st)) : ORun l y bytes maxL ret R Z n0 as' Q Es FE h cells slots pc ls st := by
  obtain ⟨hd, rfl⟩ := hd
  exact K.step fun p e s m below meth c T locs hx hZ hby hown X eT t k => XS.iloadN X.here hx rfl (hb hby hd) (getL hl) k
theorem r_iload {k : Nat} {v : Int32} (hd : D bytes pc (.iload k) 2 nx) (hl : ls[k]? = some (.val (.int v))) (K : ORun l y bytes maxL ret R Z n0 as' Q Es FE h cells slots nx ls (.int v :: st)) : ORun l y bytes maxL ret R Z n0 as' Q Es FE h cells slots pc ls st := by
  obtain ⟨hd, rfl⟩ := hd
  exact K.step fun p e s m below meth c T locs hx hZ hby hown X eT t k => XS.iload X.here hx rfl (hb hby hd) (getL hl) k
theorem r_aloadN {k : Fin 4} {v : Value} (hd : D bytes pc (.aload_n k) 1 nx) (hl : ls[k.val]? = some (.val v)) (hv : v.isRef = true) (K : ORun l y bytes maxL ret R Z n0 as' Q Es FE h cells slots nx ls (v :: st)) : ORun l y bytes maxL ret R Z n0 as' Q Es FE h cells slots pc ls st := by
  obtain ⟨hd, rfl⟩ := hd
  exact K.step fun p e s m below meth c T locs hx hZ hby hown X eT t k => XS.aloadN X.here hx rfl (hb hby hd) (getL hl) hv k
theorem r_aload {k : Nat} {v : Value} (hd : D bytes pc (.aload k) 2 nx) (hl : ls[k]? = some (.val v)) (hv : v.isRef = true) (K : ORun l y bytes maxL ret R Z n0 as' Q Es FE h cells slots nx ls (v :: st)) : ORun l y bytes maxL ret R Z n0 as' Q Es FE h cells slots pc ls st := by
  obtain ⟨hd, rfl⟩ := hd
  exact K.step fun p e s m below meth c T locs hx hZ hby hown X eT t k => XS.aload X.here hx rfl (hb hby hd) (getL hl) hv k
theorem r_lloadN {k : Fin 4} {v : Int64} (hd : D bytes pc (.lload_n k) 1 nx) (hl : ls[k.val]? = some (.val (.long v))) (K : ORun l y bytes maxL ret R Z n0 as' Q Es FE h cells slots nx ls (.long v :: st)) : ORun l y bytes maxL ret R Z n0 as' Q Es FE h cells slots pc ls st := by
  obtain ⟨hd, rfl⟩ := hd
  exact K.step fun p e s m below meth c T locs hx hZ hby hown X eT t k => XS.lloadN X.here hx rfl (hb hby hd) (getL hl) k
theorem r_lload {k : Nat} {v : Int64} (hd : D bytes pc (.lload k) 2 nx) (hl : ls[k]? = some (.val (.long v))) (K : ORun l y bytes maxL ret R Z n0 as' Q Es FE h cells slots nx ls (.long v :: st)) : ORun l y bytes maxL ret R Z n0 as' Q Es FE h cells slots pc ls st := by
  obtain ⟨hd, rfl⟩ := hd
  exact K.step fun p e s m below meth c T locs hx hZ hby hown X eT t k => XS.lload X.here hx rfl (hb hby hd) (getL hl) k
theorem r_istoreN {k : Fin 4} {v : Int32} (hd : D bytes pc (.istore_n k) 1 nx) (ls' : List Slot) (hl : storeLocals ls.toArray k.val (.int v) = some ls'.toArray) (K : ORun l y bytes maxL ret R Z n0 as' Q Es FE h cells slots nx ls' st) : ORun l y bytes maxL ret R Z n0 as' Q Es FE h cells slots pc ls (.int v :: st) := by
  obtain ⟨hd, rfl⟩ := hd
  exact K.step fun p e s m below meth c T locs hx hZ hby hown X eT t k => XS.istoreN X.here hx rfl (hb hby hd) rfl hl k
theorem r_istore {k : Nat} {v : Int32} (hd : D bytes pc (.istore k) 2 nx) (ls' : List Slot) (hl : storeLocals ls.toArray k (.int v) = some ls'.toArray) (K : ORun l y bytes maxL ret R Z n0 as' Q Es FE h cells slots nx ls' st) : ORun l y bytes maxL ret R Z n0 as' Q Es FE h cells slots pc ls (.int v :: st) := by
  obtain ⟨hd, rfl⟩ := hd
  exact K.step fun p e s m below meth c T locs hx hZ hby hown X eT t k => XS.istore X.here hx rfl (hb hby hd) rfl hl k
theorem r_astoreN {k : Fin 4} {v : Value} (hd : D bytes pc (.astore_n k) 1 nx) (hv : v.isRef = true) (ls' : List Slot) (hl : storeLocals ls.toArray k.val v = some ls'.toArray) (K : ORun l y bytes maxL ret R Z n0 as' Q Es FE h cells slots nx ls' st) : ORun l y bytes maxL ret R Z n0 as' Q Es FE h cells slots pc ls (v :: st) := by
  obtain ⟨hd, rfl⟩ := hd
  exact K.step fun p e s m below meth c T locs hx hZ hby hown X eT t k => XS.astoreN X.here hx rfl (hb hby hd) rfl hv hl k
theorem r_astore {k : Nat} {v : Value} (hd : D bytes pc (.astore k) 2 nx) (hv : v.isRef = true) (ls' : List Slot) (hl : storeLocals ls.toArray k v = some ls'.toArray) (K : ORun l y bytes maxL ret R Z n0 as' Q Es FE h cells slots nx ls' st) : ORun l y bytes maxL ret R Z n0 as' Q Es FE h cells slots pc ls (v :: st) := by
  obtain ⟨hd, rfl⟩ := hd
  exact K.step fun p e s m below meth c T locs hx hZ hby hown X eT t k => XS.astore X.here hx rfl (hb hby hd) rfl hv hl k
theorem r_lstoreN {k : Fin 4} {v : Int64} (hd : D bytes pc (.lstore_n k) 1 nx) (ls' : List Slot) (hl : storeLocals ls.toArray k.val (.long v) = some ls'.toArray) (K : ORun l y bytes maxL ret R Z n0 as' Q Es FE h cells slots nx ls' st) : ORun l y bytes maxL ret R Z n0 as' Q Es FE h cells slots pc ls (.long v :: st) := by
  obtain ⟨hd, rfl⟩ := hd
  exact K.step fun p e s m below meth c T locs hx hZ hby hown X eT t k => XS.lstoreN X.here hx rfl (hb hby hd) rfl hl k
theorem r_lstore {k : Nat} {v : Int64} (hd : D bytes pc (.lstore k) 2 nx) (ls' : List Slot) (hl : storeLocals ls.toArray k (.long v) = some ls'.toArray) (K : ORun l y bytes maxL ret R Z n0 as' Q Es FE h cells slots nx ls' st) : ORun l y bytes maxL ret R Z n0 as' Q Es FE h cells slots pc ls (.long v :: st) := by
  obtain ⟨hd, rfl⟩ := hd
  exact K.step fun p e s m below meth c T locs hx hZ hby hown X eT t k => XS.lstore X.here hx rfl (hb hby hd) rfl hl k
theorem r_iinc {k : Nat} {i : Int} {v w : Int32} (hd : D bytes pc (.iinc k i) 3 nx) (hl : ls[k]? = some (.val (.int v))) (hw : v + Int32.ofInt i = w) (ls' : List Slot) (hl' : storeLocals ls.toArray k (.int w) = some ls'.toArray) (K : ORun l y bytes maxL ret R Z n0 as' Q Es FE h cells slots nx ls' st) : ORun l y bytes maxL ret R Z n0 as' Q Es FE h cells slots pc ls st := by
  obtain ⟨hd, rfl⟩ := hd
  subst hw
  exact K.step fun p e s m below meth c T locs hx hZ hby hown X eT t k => XS.iinc X.here hx rfl (hb hby hd) (getL hl) hl' k
/-! constants -/
theorem r_iconst {i : Int} (v : Int32) (hv : Int32.ofInt i = v) (hd : D bytes pc (.iconst i) 1 nx) (K : ORun l y bytes maxL ret R Z n0 as' Q Es FE h cells slots nx ls (.int v :: st)) : ORun l y bytes maxL ret R Z n0 as' Q Es FE h cells slots pc ls st := by
  obtain ⟨hd, rfl⟩ := hd
  subst hv
  exact K.step fun p e s m below meth c T locs hx hZ hby hown X eT t k => XS.iconst X.here hx rfl (hb hby hd) k
theorem r_bipush {i : Int} (v : Int32) (hv : (Int8.ofInt i).toInt32 = v) (hd : D bytes pc (.bipush i) 2 nx) (K : ORun l y bytes maxL ret R Z n0 as' Q Es FE h cells slots nx ls (.int v :: st)) : ORun l y bytes maxL ret R Z n0 as' Q Es FE h cells slots pc ls st := by
  obtain ⟨hd, rfl⟩ := hd
  subst hv
  exact K.step fun p e s m below meth c T locs hx hZ hby hown X eT t k => XS.bipush X.here hx rfl (hb hby hd) k
theorem r_sipush {i : Int} (v : Int32) (hv : (Int16.ofInt i).toInt32 = v) (hd : D bytes pc (.sipush i) 3 nx) (K : ORun l y bytes maxL ret R Z n0 as' Q Es FE h cells slots nx ls (.int v :: st)) : ORun l y bytes maxL ret R Z n0 as' Q Es FE h cells slots pc ls st := by
  obtain ⟨hd, rfl⟩ := hd
  subst hv
  exact K.step fun p e s m below meth c T locs hx hZ hby hown X eT t k => XS.sipush X.here hx rfl (hb hby hd) k
theorem r_lconst {i : Fin 2} (v : Int64) (hv : Int64.ofNat i = v) (hd : D bytes pc (.lconst i) 1 nx) (K : ORun l y bytes maxL ret R Z n0 as' Q Es FE h cells slots nx ls (.long v :: st)) : ORun l y bytes maxL ret R Z n0 as' Q Es FE h cells slots pc ls st := by
  obtain ⟨hd, rfl⟩ := hd
  subst hv
  exact K.step fun p e s m below meth c T locs hx hZ hby hown X eT t k => XS.lconst X.here hx rfl (hb hby hd) k
theorem r_null (hd : D bytes pc .aconst_null 1 nx) (K : ORun l y bytes maxL ret R Z n0 as' Q Es FE h cells slots nx ls (.null :: st)) : ORun l y bytes maxL ret R Z n0 as' Q Es FE h cells slots pc ls st := by
  obtain ⟨hd, rfl⟩ := hd
  exact K.step fun p e s m below meth c T locs hx hZ hby hown X eT t k => XS.aconstNull X.here hx rfl (hb hby hd) k
theorem r_ldc {i : Nat} {v : Int32} (w : (Cond.constant y.cls i v).before a0 Z = true) (hd : D bytes pc (.ldc i) 2 nx) (K : ORun l y bytes maxL ret R Z n0 as' Q Es FE h cells slots nx ls (.int v :: st)) : ORun l y bytes maxL ret R Z n0 as' Q Es FE h cells slots pc ls st := by
  obtain ⟨hd, rfl⟩ := hd
  exact K.step fun p e s m below meth c T locs hx hZ hby hown X eT t k => X.ldcInt hx hown (mvT hZ w) (g := mkF m pc ls.toArray st) rfl (hb hby hd) _ k
theorem r_ldc2 {i : Nat} {v : Int64} (w : (Cond.constantLong y.cls i v).before a0 Z = true) (hd : D bytes pc (.ldc2_w i) 3 nx) (K : ORun l y bytes maxL ret R Z n0 as' Q Es FE h cells slots nx ls (.long v :: st)) : ORun l y bytes maxL ret R Z n0 as' Q Es FE h cells slots pc ls st := by
  obtain ⟨hd, rfl⟩ := hd
  exact K.step fun p e s m below meth c T locs hx hZ hby hown X eT t k => X.ldc2Long hx hown (mvT hZ w) (g := mkF m pc ls.toArray st) rfl (hb hby hd) _ k
theorem r_ldcS {i : Nat} {text : String} {a : Addr} (w : (Cond.stringRef y.cls i text).before a0 Z = true) (L : Lit Z y.cls i a) (hd : D bytes pc (.ldc i) 2 nx) (K : ORun l y bytes maxL ret R Z n0 as' Q Es FE h cells slots nx ls (.ref a :: st)) : ORun l y bytes maxL ret R Z n0 as' Q Es FE h cells slots pc ls st := by
  obtain ⟨hd, rfl⟩ := hd
  exact K.step fun p e s m below meth c T locs hx hZ hby hown X eT t k => ldcR X hx hZ hown w L (g := mkF m pc ls.toArray st) rfl (hb hby hd) _ k
/-! arithmetic -/
theorem r_iadd {x z : Int32} (hd : D bytes pc .iadd 1 nx) (K : ORun l y bytes maxL ret R Z n0 as' Q Es FE h cells slots nx ls (.int (x + z) :: st)) : ORun l y bytes maxL ret R Z n0 as' Q Es FE h cells slots pc ls (.int z :: .int x :: st) := by
  obtain ⟨hd, rfl⟩ := hd
  exact K.step fun p e s m below meth c T locs hx hZ hby hown X eT t k => XS.iadd X.here hx rfl (hb hby hd) rfl k
theorem r_isub {x z : Int32} (hd : D bytes pc .isub 1 nx) (K : ORun l y bytes maxL ret R Z n0 as' Q Es FE h cells slots nx ls (.int (x - z) :: st)) : ORun l y bytes maxL ret R Z n0 as' Q Es FE h cells slots pc ls (.int z :: .int x :: st) := by
  obtain ⟨hd, rfl⟩ := hd
  exact K.step fun p e s m below meth c T locs hx hZ hby hown X eT t k => XS.isub X.here hx rfl (hb hby hd) rfl k
theorem r_iand {x z : Int32} (hd : D bytes pc .iand 1 nx) (K : ORun l y bytes maxL ret R Z n0 as' Q Es FE h cells slots nx ls (.int (x &&& z) :: st)) : ORun l y bytes maxL ret R Z n0 as' Q Es FE h cells slots pc ls (.int z :: .int x :: st) := by
  obtain ⟨hd, rfl⟩ := hd
  exact K.step fun p e s m below meth c T locs hx hZ hby hown X eT t k => XS.iand X.here hx rfl (hb hby hd) rfl k
theorem r_imul {x z : Int32} (hd : D bytes pc .imul 1 nx) (K : ORun l y bytes maxL ret R Z n0 as' Q Es FE h cells slots nx ls (.int (x * z) :: st)) : ORun l y bytes maxL ret R Z n0 as' Q Es FE h cells slots pc ls (.int z :: .int x :: st) := by
  obtain ⟨hd, rfl⟩ := hd
  exact K.step fun p e s m below meth c T locs hx hZ hby hown X eT t k => XS.imul X.here hx rfl (hb hby hd) rfl k
theorem r_ior {x z : Int32} (hd : D bytes pc .ior 1 nx) (K : ORun l y bytes maxL ret R Z n0 as' Q Es FE h cells slots nx ls (.int (x ||| z) :: st)) : ORun l y bytes maxL ret R Z n0 as' Q Es FE h cells slots pc ls (.int z :: .int x :: st) := by
  obtain ⟨hd, rfl⟩ := hd
  exact K.step fun p e s m below meth c T locs hx hZ hby hown X eT t k => XS.ior X.here hx rfl (hb hby hd) rfl k
theorem r_ixor {x z : Int32} (hd : D bytes pc .ixor 1 nx) (K : ORun l y bytes maxL ret R Z n0 as' Q Es FE h cells slots nx ls (.int (x ^^^ z) :: st)) : ORun l y bytes maxL ret R Z n0 as' Q Es FE h cells slots pc ls (.int z :: .int x :: st) := by
  obtain ⟨hd, rfl⟩ := hd
  exact K.step fun p e s m below meth c T locs hx hZ hby hown X eT t k => XS.ixor X.here hx rfl (hb hby hd) rfl k
theorem r_ishl {x z : Int32} (hd : D bytes pc .ishl 1 nx) (K : ORun l y bytes maxL ret R Z n0 as' Q Es FE h cells slots nx ls (.int (x <<< (z &&& 31)) :: st)) : ORun l y bytes maxL ret R Z n0 as' Q Es FE h cells slots pc ls (.int z :: .int x :: st) := by
  obtain ⟨hd, rfl⟩ := hd
  exact K.step fun p e s m below meth c T locs hx hZ hby hown X eT t k => XS.ishl X.here hx rfl (hb hby hd) rfl k
theorem r_ishr {x z : Int32} (hd : D bytes pc .ishr 1 nx) (K : ORun l y bytes maxL ret R Z n0 as' Q Es FE h cells slots nx ls (.int (x >>> (z &&& 31)) :: st)) : ORun l y bytes maxL ret R Z n0 as' Q Es FE h cells slots pc ls (.int z :: .int x :: st) := by
  obtain ⟨hd, rfl⟩ := hd
  exact K.step fun p e s m below meth c T locs hx hZ hby hown X eT t k => XS.ishr X.here hx rfl (hb hby hd) rfl k
theorem r_iushr {x z : Int32} (hd : D bytes pc .iushr 1 nx) (K : ORun l y bytes maxL ret R Z n0 as' Q Es FE h cells slots nx ls (.int ((x.toUInt32 >>> (z &&& 31).toUInt32).toInt32) :: st)) : ORun l y bytes maxL ret R Z n0 as' Q Es FE h cells slots pc ls (.int z :: .int x :: st) := by
  obtain ⟨hd, rfl⟩ := hd
  exact K.step fun p e s m below meth c T locs hx hZ hby hown X eT t k => XS.iushr X.here hx rfl (hb hby hd) rfl k
theorem r_ladd {x z : Int64} (hd : D bytes pc .ladd 1 nx) (K : ORun l y bytes maxL ret R Z n0 as' Q Es FE h cells slots nx ls (.long (x + z) :: st)) : ORun l y bytes maxL ret R Z n0 as' Q Es FE h cells slots pc ls (.long z :: .long x :: st) := by
  obtain ⟨hd, rfl⟩ := hd
  exact K.step fun p e s m below meth c T locs hx hZ hby hown X eT t k => XS.ladd X.here hx rfl (hb hby hd) rfl k
theorem r_lsub {x z : Int64} (hd : D bytes pc .lsub 1 nx) (K : ORun l y bytes maxL ret R Z n0 as' Q Es FE h cells slots nx ls (.long (x - z) :: st)) : ORun l y bytes maxL ret R Z n0 as' Q Es FE h cells slots pc ls (.long z :: .long x :: st) := by
  obtain ⟨hd, rfl⟩ := hd
  exact K.step fun p e s m below meth c T locs hx hZ hby hown X eT t k => XS.lsub X.here hx rfl (hb hby hd) rfl k
theorem r_land {x z : Int64} (hd : D bytes pc .land 1 nx) (K : ORun l y bytes maxL ret R Z n0 as' Q Es FE h cells slots nx ls (.long (x &&& z) :: st)) : ORun l y bytes maxL ret R Z n0 as' Q Es FE h cells slots pc ls (.long z :: .long x :: st) := by
  obtain ⟨hd, rfl⟩ := hd
  exact K.step fun p e s m below meth c T locs hx hZ hby hown X eT t k => XS.land X.here hx rfl (hb hby hd) rfl k
theorem r_lmul {x z : Int64} (hd : D bytes pc .lmul 1 nx) (K : ORun l y bytes maxL ret R Z n0 as' Q Es FE h cells slots nx ls (.long (x * z) :: st)) : ORun l y bytes maxL ret R Z n0 as' Q Es FE h cells slots pc ls (.long z :: .long x :: st) := by
  obtain ⟨hd, rfl⟩ := hd
  exact K.step fun p e s m below meth c T locs hx hZ hby hown X eT t k => XS.lmul X.here hx rfl (hb hby hd) rfl k
theorem r_lor {x z : Int64} (hd : D bytes pc .lor 1 nx) (K : ORun l y bytes maxL ret R Z n0 as' Q Es FE h cells slots nx ls (.long (x ||| z) :: st)) : ORun l y bytes maxL ret R Z n0 as' Q Es FE h cells slots pc ls (.long z :: .long x :: st) := by
  obtain ⟨hd, rfl⟩ := hd
  exact K.step fun p e s m below meth c T locs hx hZ hby hown X eT t k => XS.lor X.here hx rfl (hb hby hd) rfl k
theorem r_lxor {x z : Int64} (hd : D bytes pc .lxor 1 nx) (K : ORun l y bytes maxL ret R Z n0 as' Q Es FE h cells slots nx ls (.long (x ^^^ z) :: st)) : ORun l y bytes maxL ret R Z n0 as' Q Es FE h cells slots pc ls (.long z :: .long x :: st) := by
  obtain ⟨hd, rfl⟩ := hd
  exact K.step fun p e s m below meth c T locs hx hZ hby hown X eT t k => XS.lxor X.here hx rfl (hb hby hd) rfl k
theorem r_lshl {x : Int64} {z : Int32} (hd : D bytes pc .lshl 1 nx) (K : ORun l y bytes maxL ret R Z n0 as' Q Es FE h cells slots nx ls (.long (x <<< (z &&& 63).toInt64) :: st)) : ORun l y bytes maxL ret R Z n0 as' Q Es FE h cells slots pc ls (.int z :: .long x :: st) := by
  obtain ⟨hd, rfl⟩ := hd
  exact K.step fun p e s m below meth c T locs hx hZ hby hown X eT t k => XS.lshl X.here hx rfl (hb hby hd) rfl k
theorem r_lshr {x : Int64} {z : Int32} (hd : D bytes pc .lshr 1 nx) (K : ORun l y bytes maxL ret R Z n0 as' Q Es FE h cells slots nx ls (.long (x >>> (z &&& 63).toInt64) :: st)) : ORun l y bytes maxL ret R Z n0 as' Q Es FE h cells slots pc ls (.int z :: .long x :: st) := by
  obtain ⟨hd, rfl⟩ := hd
  exact K.step fun p e s m below meth c T locs hx hZ hby hown X eT t k => XS.lshr X.here hx rfl (hb hby hd) rfl k
theorem r_lushr {x : Int64} {z : Int32} (hd : D bytes pc .lushr 1 nx) (K : ORun l y bytes maxL ret R Z n0 as' Q Es FE h cells slots nx ls (.long ((x.toUInt64 >>> (z &&& 63).toInt64.toUInt64).toInt64) :: st)) : ORun l y bytes maxL ret R Z n0 as' Q Es FE h cells slots pc ls (.int z :: .long x :: st) := by
  obtain ⟨hd, rfl⟩ := hd
  exact K.step fun p e s m below meth c T locs hx hZ hby hown X eT t k => XS.lushr X.here hx rfl (hb hby hd) rfl k
theorem r_idiv {x z : Int32} (hd : D bytes pc .idiv 1 nx) (hz : z ≠ 0) (K : ORun l y bytes maxL ret R Z n0 as' Q Es FE h cells slots nx ls (.int (x / z) :: st)) : ORun l y bytes maxL ret R Z n0 as' Q Es FE h cells slots pc ls (.int z :: .int x :: st) := by
  obtain ⟨hd, rfl⟩ := hd
  exact K.step fun p e s m below meth c T locs hx hZ hby hown X eT t k => XS.idiv X.here hx rfl (hb hby hd) rfl hz k
theorem r_ldiv {x z : Int64} (hd : D bytes pc .ldiv 1 nx) (hz : z ≠ 0) (K : ORun l y bytes maxL ret R Z n0 as' Q Es FE h cells slots nx ls (.long (x / z) :: st)) : ORun l y bytes maxL ret R Z n0 as' Q Es FE h cells slots pc ls (.long z :: .long x :: st) := by
  obtain ⟨hd, rfl⟩ := hd
  exact K.step fun p e s m below meth c T locs hx hZ hby hown X eT t k => XS.ldiv X.here hx rfl (hb hby hd) rfl hz k
theorem r_ineg {x : Int32} (hd : D bytes pc .ineg 1 nx) (K : ORun l y bytes maxL ret R Z n0 as' Q Es FE h cells slots nx ls (.int (-x) :: st)) : ORun l y bytes maxL ret R Z n0 as' Q Es FE h cells slots pc ls (.int x :: st) := by
  obtain ⟨hd, rfl⟩ := hd
  exact K.step fun p e s m below meth c T locs hx hZ hby hown X eT t k => XS.ineg X.here hx rfl (hb hby hd) rfl k
theorem r_lneg {x : Int64} (hd : D bytes pc .lneg 1 nx) (K : ORun l y bytes maxL ret R Z n0 as' Q Es FE h cells slots nx ls (.long (-x) :: st)) : ORun l y bytes maxL ret R Z n0 as' Q Es FE h cells slots pc ls (.long x :: st) := by
  obtain ⟨hd, rfl⟩ := hd
  exact K.step fun p e s m below meth c T locs hx hZ hby hown X eT t k => XS.lneg X.here hx rfl (hb hby hd) rfl k
theorem r_i2l {x : Int32} (hd : D bytes pc .i2l 1 nx) (K : ORun l y bytes maxL ret R Z n0 as' Q Es FE h cells slots nx ls (.long (x.toInt64) :: st)) : ORun l y bytes maxL ret R Z n0 as' Q Es FE h cells slots pc ls (.int x :: st) := by
  obtain ⟨hd, rfl⟩ := hd
  exact K.step fun p e s m below meth c T locs hx hZ hby hown X eT t k => XS.i2l X.here hx rfl (hb hby hd) rfl k
theorem r_l2i {x : Int64} (hd : D bytes pc .l2i 1 nx) (K : ORun l y bytes maxL ret R Z n0 as' Q Es FE h cells slots nx ls (.int (x.toInt32) :: st)) : ORun l y bytes maxL ret R Z n0 as' Q Es FE h cells slots pc ls (.long x :: st) := by
  obtain ⟨hd, rfl⟩ := hd
  exact K.step fun p e s m below meth c T locs hx hZ hby hown X eT t k => XS.l2i X.here hx rfl (hb hby hd) rfl k
theorem r_i2b {x : Int32} (hd : D bytes pc .i2b 1 nx) (K : ORun l y bytes maxL ret R Z n0 as' Q Es FE h cells slots nx ls (.int (x.toInt8.toInt32) :: st)) : ORun l y bytes maxL ret R Z n0 as' Q Es FE h cells slots pc ls (.int x :: st) := by
  obtain ⟨hd, rfl⟩ := hd
  exact K.step fun p e s m below meth c T locs hx hZ hby hown X eT t k => XS.i2b X.here hx rfl (hb hby hd) rfl k
theorem r_i2s {x : Int32} (hd : D bytes pc .i2s 1 nx) (K : ORun l y bytes maxL ret R Z n0 as' Q Es FE h cells slots nx ls (.int (x.toInt16.toInt32) :: st)) : ORun l y bytes maxL ret R Z n0 as' Q Es FE h cells slots pc ls (.int x :: st) := by
  obtain ⟨hd, rfl⟩ := hd
  exact K.step fun p e s m below meth c T locs hx hZ hby hown X eT t k => XS.i2s X.here hx rfl (hb hby hd) rfl k
theorem r_i2c {x : Int32} (hd : D bytes pc .i2c 1 nx) (K : ORun l y bytes maxL ret R Z n0 as' Q Es FE h cells slots nx ls (.int (x.toUInt32.toUInt16.toUInt32.toInt32) :: st)) : ORun l y bytes maxL ret R Z n0 as' Q Es FE h cells slots pc ls (.int x :: st) := by
  obtain ⟨hd, rfl⟩ := hd
  exact K.step fun p e s m below meth c T locs hx hZ hby hown X eT t k => XS.i2c X.here hx rfl (hb hby hd) rfl k
theorem r_lcmp {x z : Int64} (hd : D bytes pc .lcmp 1 nx) (K : ORun l y bytes maxL ret R Z n0 as' Q Es FE h cells slots nx ls (.int (lcmpW x z) :: st)) : ORun l y bytes maxL ret R Z n0 as' Q Es FE h cells slots pc ls (.long z :: .long x :: st) := by
  obtain ⟨hd, rfl⟩ := hd
  exact K.step fun p e s m below meth c T locs hx hZ hby hown X eT t k => XS.lcmp X.here hx rfl (hb hby hd) rfl k
theorem r_dup {x : Value} (hd : D bytes pc .dup 1 nx) (hc : x.category = 1) (K : ORun l y bytes maxL ret R Z n0 as' Q Es FE h cells slots nx ls (x :: x :: st)) : ORun l y bytes maxL ret R Z n0 as' Q Es FE h cells slots pc ls (x :: st) := by
  obtain ⟨hd, rfl⟩ := hd
  exact K.step fun p e s m below meth c T locs hx hZ hby hown X eT t k => XS.dup X.here hx rfl (hb hby hd) rfl hc k
theorem r_pop {x : Value} (hd : D bytes pc .pop 1 nx) (hc : x.category = 1) (K : ORun l y bytes maxL ret R Z n0 as' Q Es FE h cells slots nx ls st) : ORun l y bytes maxL ret R Z n0 as' Q Es FE h cells slots pc ls (x :: st) := by
  obtain ⟨hd, rfl⟩ := hd
  exact K.step fun p e s m below meth c T locs hx hZ hby hown X eT t k => XS.pop X.here hx rfl (hb hby hd) rfl hc k
theorem r_dupX1 {x z : Value} (hd : D bytes pc .dup_x1 1 nx) (hc : x.category = 1) (hc2 : z.category = 1) (K : ORun l y bytes maxL ret R Z n0 as' Q Es FE h cells slots nx ls (x :: z :: x :: st)) : ORun l y bytes maxL ret R Z n0 as' Q Es FE h cells slots pc ls (x :: z :: st) := by
  obtain ⟨hd, rfl⟩ := hd
  exact K.step fun p e s m below meth c T locs hx hZ hby hown X eT t k => XS.dupX1 X.here hx rfl (hb hby hd) rfl hc hc2 k
theorem r_dup2 {x z : Value} (hd : D bytes pc .dup2 1 nx) (hc : x.category = 1) (hc2 : z.category = 1) (K : ORun l y bytes maxL ret R Z n0 as' Q Es FE h cells slots nx ls (x :: z :: x :: z :: st)) : ORun l y bytes maxL ret R Z n0 as' Q Es FE h cells slots pc ls (x :: z :: st) := by
  obtain ⟨hd, rfl⟩ := hd
  exact K.step fun p e s m below meth c T locs hx hZ hby hown X eT t k => XT.dup2 X.here hx rfl (hb hby hd) rfl hc hc2 k
theorem r_dup2L {x : Int64} (hd : D bytes pc .dup2 1 nx) (K : ORun l y bytes maxL ret R Z n0 as' Q Es FE h cells slots nx ls (.long x :: .long x :: st)) : ORun l y bytes maxL ret R Z n0 as' Q Es FE h cells slots pc ls (.long x :: st) := by
  obtain ⟨hd, rfl⟩ := hd
  exact K.step fun p e s m below meth c T locs hx hZ hby hown X eT t k => XT.dup2L X.here hx rfl (hb hby hd) rfl k
theorem r_irem {x z : Int32} (hd : D bytes pc .irem 1 nx) (hz : z ≠ 0) (K : ORun l y bytes maxL ret R Z n0 as' Q Es FE h cells slots nx ls (.int (x % z) :: st)) : ORun l y bytes maxL ret R Z n0 as' Q Es FE h cells slots pc ls (.int z :: .int x :: st) := by
  obtain ⟨hd, rfl⟩ := hd
  exact K.step fun p e s m below meth c T locs hx hZ hby hown X eT t k => iremM X hx rfl (hb hby hd) rfl hz k
theorem r_lrem {x z : Int64} (hd : D bytes pc .lrem 1 nx) (hz : z ≠ 0) (K : ORun l y bytes maxL ret R Z n0 as' Q Es FE h cells slots nx ls (.long (x % z) :: st)) : ORun l y bytes maxL ret R Z n0 as' Q Es FE h cells slots pc ls (.long z :: .long x :: st) := by
  obtain ⟨hd, rfl⟩ := hd
  rw [← lrem_mod] at K
  exact K.step fun p e s m below meth c T locs hx hZ hby hown X eT t k => XS.lrem X.here hx rfl (hb hby hd) rfl hz k
/-! branches -/
theorem r_goto {off : Int} (hd : DB bytes pc .goto off nx tgt) (K : ORun l y bytes maxL ret R Z n0 as' Q Es FE h cells slots tgt ls st) : ORun l y bytes maxL ret R Z n0 as' Q Es FE h cells slots pc ls st := by
  obtain ⟨hd, rfl, ho, rfl⟩ := hd
  exact K.step fun p e s m below meth c T locs hx hZ hby hown X eT t k => XS.goto X.here hx rfl rfl (hb hby hd) ho rfl k
theorem r_icmp {cd : ClassFile.Cond} {off : Int} {x z : Int32} (hd : DB bytes pc (.if_icmp cd) off nx tgt) (K1 : if_icmp.holds cd x z = true → ORun l y bytes maxL ret R Z n0 as' Q Es FE h cells slots tgt ls st) (K2 : if_icmp.holds cd x z = false → ORun l y bytes maxL ret R Z n0 as' Q Es FE h cells slots nx ls st) : ORun l y bytes maxL ret R Z n0 as' Q Es FE h cells slots pc ls (.int z :: .int x :: st) := by
  obtain ⟨hd, rfl, ho, rfl⟩ := hd
  cases hc : if_icmp.holds cd x z
  · exact (K2 hc).step fun p e s m below meth c T locs hx hZ hby hown X eT t k => XS.icmpNo X.here hx rfl (hb hby hd) rfl hc k
  · exact (K1 hc).step fun p e s m below meth c T locs hx hZ hby hown X eT t k => XS.icmpYes X.here hx rfl rfl (hb hby hd) rfl hc ho rfl k
theorem r_if {cd : ClassFile.Cond} {off : Int} {x : Int32} (hd : DB bytes pc (.ifCond cd) off nx tgt) (K1 : if_icmp.holds cd x 0 = true → ORun l y bytes maxL ret R Z n0 as' Q Es FE h cells slots tgt ls st) (K2 : if_icmp.holds cd x 0 = false → ORun l y bytes maxL ret R Z n0 as' Q Es FE h cells slots nx ls st) : ORun l y bytes maxL ret R Z n0 as' Q Es FE h cells slots pc ls (.int x :: st) := by
  obtain ⟨hd, rfl, ho, rfl⟩ := hd
  cases hc : if_icmp.holds cd x 0
  · exact (K2 hc).step fun p e s m below meth c T locs hx hZ hby hown X eT t k => XS.ifNo X.here hx rfl (hb hby hd) rfl ((if0 _ _).trans hc) k
  · exact (K1 hc).step fun p e s m below meth c T locs hx hZ hby hown X eT t k => XS.ifYes X.here hx rfl rfl (hb hby hd) rfl ((if0 _ _).trans hc) ho rfl k
theorem r_icmp_lt {off : Int} {x z : Int32} (hd : DB bytes pc (.if_icmp .lt) off nx tgt) (K1 : x < z → ORun l y bytes maxL ret R Z n0 as' Q Es FE h cells slots tgt ls st) (K2 : ¬ x < z → ORun l y bytes maxL ret R Z n0 as' Q Es FE h cells slots nx ls st) : ORun l y bytes maxL ret R Z n0 as' Q Es FE h cells slots pc ls (.int z :: .int x :: st) :=
  r_icmp hd (fun q => K1 (Decidable.byContradiction fun r => by rw [(flt r).1] at q; cases q)) (fun q => K2 (fun r => by rw [(tlt r).1] at q; cases q))
theorem r_if_lt {off : Int} {x : Int32} (hd : DB bytes pc (.ifCond .lt) off nx tgt) (K1 : x < 0 → ORun l y bytes maxL ret R Z n0 as' Q Es FE h cells slots tgt ls st) (K2 : ¬ x < 0 → ORun l y bytes maxL ret R Z n0 as' Q Es FE h cells slots nx ls st) : ORun l y bytes maxL ret R Z n0 as' Q Es FE h cells slots pc ls (.int x :: st) :=
  r_if hd (fun q => K1 (Decidable.byContradiction fun r => by rw [(flt r).1] at q; cases q)) (fun q => K2 (fun r => by rw [(tlt r).1] at q; cases q))
theorem r_icmp_ge {off : Int} {x z : Int32} (hd : DB bytes pc (.if_icmp .ge) off nx tgt) (K1 : ¬ x < z → ORun l y bytes maxL ret R Z n0 as' Q Es FE h cells slots tgt ls st) (K2 : x < z → ORun l y bytes maxL ret R Z n0 as' Q Es FE h cells slots nx ls st) : ORun l y bytes maxL ret R Z n0 as' Q Es FE h cells slots pc ls (.int z :: .int x :: st) :=
  r_icmp hd (fun q => K1 (fun r => by rw [(tlt r).2.1] at q; cases q)) (fun q => K2 (Decidable.byContradiction fun r => by rw [(flt r).2.1] at q; cases q))
theorem r_if_ge {off : Int} {x : Int32} (hd : DB bytes pc (.ifCond .ge) off nx tgt) (K1 : ¬ x < 0 → ORun l y bytes maxL ret R Z n0 as' Q Es FE h cells slots tgt ls st) (K2 : x < 0 → ORun l y bytes maxL ret R Z n0 as' Q Es FE h cells slots nx ls st) : ORun l y bytes maxL ret R Z n0 as' Q Es FE h cells slots pc ls (.int x :: st) :=
  r_if hd (fun q => K1 (fun r => by rw [(tlt r).2.1] at q; cases q)) (fun q => K2 (Decidable.byContradiction fun r => by rw [(flt r).2.1] at q; cases q))
theorem r_icmp_gt {off : Int} {x z : Int32} (hd : DB bytes pc (.if_icmp .gt) off nx tgt) (K1 : z < x → ORun l y bytes maxL ret R Z n0 as' Q Es FE h cells slots tgt ls st) (K2 : ¬ z < x → ORun l y bytes maxL ret R Z n0 as' Q Es FE h cells slots nx ls st) : ORun l y bytes maxL ret R Z n0 as' Q Es FE h cells slots pc ls (.int z :: .int x :: st) :=
  r_icmp hd (fun q => K1 (Decidable.byContradiction fun r => by rw [(flt r).2.2.1] at q; cases q)) (fun q => K2 (fun r => by rw [(tlt r).2.2.1] at q; cases q))
theorem r_if_gt {off : Int} {x : Int32} (hd : DB bytes pc (.ifCond .gt) off nx tgt) (K1 : 0 < x → ORun l y bytes maxL ret R Z n0 as' Q Es FE h cells slots tgt ls st) (K2 : ¬ 0 < x → ORun l y bytes maxL ret R Z n0 as' Q Es FE h cells slots nx ls st) : ORun l y bytes maxL ret R Z n0 as' Q Es FE h cells slots pc ls (.int x :: st) :=
  r_if hd (fun q => K1 (Decidable.byContradiction fun r => by rw [(flt r).2.2.1] at q; cases q)) (fun q => K2 (fun r => by rw [(tlt r).2.2.1] at q; cases q))
theorem r_icmp_le {off : Int} {x z : Int32} (hd : DB bytes pc (.if_icmp .le) off nx tgt) (K1 : ¬ z < x → ORun l y bytes maxL ret R Z n0 as' Q Es FE h cells slots tgt ls st) (K2 : z < x → ORun l y bytes maxL ret R Z n0 as' Q Es FE h cells slots nx ls st) : ORun l y bytes maxL ret R Z n0 as' Q Es FE h cells slots pc ls (.int z :: .int x :: st) :=
  r_icmp hd (fun q => K1 (fun r => by rw [(tlt r).2.2.2] at q; cases q)) (fun q => K2 (Decidable.byContradiction fun r => by rw [(flt r).2.2.2] at q; cases q))
theorem r_if_le {off : Int} {x : Int32} (hd : DB bytes pc (.ifCond .le) off nx tgt) (K1 : ¬ 0 < x → ORun l y bytes maxL ret R Z n0 as' Q Es FE h cells slots tgt ls st) (K2 : 0 < x → ORun l y bytes maxL ret R Z n0 as' Q Es FE h cells slots nx ls st) : ORun l y bytes maxL ret R Z n0 as' Q Es FE h cells slots pc ls (.int x :: st) :=
  r_if hd (fun q => K1 (fun r => by rw [(tlt r).2.2.2] at q; cases q)) (fun q => K2 (Decidable.byContradiction fun r => by rw [(flt r).2.2.2] at q; cases q))
theorem r_icmp_eq {off : Int} {x z : Int32} (hd : DB bytes pc (.if_icmp .eq) off nx tgt) (K1 : x = z → ORun l y bytes maxL ret R Z n0 as' Q Es FE h cells slots tgt ls st) (K2 : ¬ x = z → ORun l y bytes maxL ret R Z n0 as' Q Es FE h cells slots nx ls st) : ORun l y bytes maxL ret R Z n0 as' Q Es FE h cells slots pc ls (.int z :: .int x :: st) :=
  r_icmp hd (fun q => K1 (Decidable.byContradiction fun r => by rw [(feq r).1] at q; cases q)) (fun q => K2 (fun r => by rw [(teq r).1] at q; cases q))
theorem r_if_eq {off : Int} {x : Int32} (hd : DB bytes pc (.ifCond .eq) off nx tgt) (K1 : x = 0 → ORun l y bytes maxL ret R Z n0 as' Q Es FE h cells slots tgt ls st) (K2 : ¬ x = 0 → ORun l y bytes maxL ret R Z n0 as' Q Es FE h cells slots nx ls st) : ORun l y bytes maxL ret R Z n0 as' Q Es FE h cells slots pc ls (.int x :: st) :=
  r_if hd (fun q => K1 (Decidable.byContradiction fun r => by rw [(feq r).1] at q; cases q)) (fun q => K2 (fun r => by rw [(teq r).1] at q; cases q))
theorem r_icmp_ne {off : Int} {x z : Int32} (hd : DB bytes pc (.if_icmp .ne) off nx tgt) (K1 : ¬ x = z → ORun l y bytes maxL ret R Z n0 as' Q Es FE h cells slots tgt ls st) (K2 : x = z → ORun l y bytes maxL ret R Z n0 as' Q Es FE h cells slots nx ls st) : ORun l y bytes maxL ret R Z n0 as' Q Es FE h cells slots pc ls (.int z :: .int x :: st) :=
  r_icmp hd (fun q => K1 (fun r => by rw [(teq r).2] at q; cases q)) (fun q => K2 (Decidable.byContradiction fun r => by rw [(feq r).2] at q; cases q))
theorem r_if_ne {off : Int} {x : Int32} (hd : DB bytes pc (.ifCond .ne) off nx tgt) (K1 : ¬ x = 0 → ORun l y bytes maxL ret R Z n0 as' Q Es FE h cells slots tgt ls st) (K2 : x = 0 → ORun l y bytes maxL ret R Z n0 as' Q Es FE h cells slots nx ls st) : ORun l y bytes maxL ret R Z n0 as' Q Es FE h cells slots pc ls (.int x :: st) :=
  r_if hd (fun q => K1 (fun r => by rw [(teq r).2] at q; cases q)) (fun q => K2 (Decidable.byContradiction fun r => by rw [(feq r).2] at q; cases q))
theorem r_ifnull0 {off : Int} (hd : DB bytes pc .ifnull off nx tgt) (K : ORun l y bytes maxL ret R Z n0 as' Q Es FE h cells slots tgt ls st) : ORun l y bytes maxL ret R Z n0 as' Q Es FE h cells slots pc ls (.null :: st) := by
  obtain ⟨hd, rfl, ho, rfl⟩ := hd
  exact K.step fun p e s m below meth c T locs hx hZ hby hown X eT t k => XS.ifnullYes X.here hx rfl rfl (hb hby hd) rfl ho rfl k
theorem r_ifnull1 {off : Int} {b : Addr} (hd : DB bytes pc .ifnull off nx tgt) (K : ORun l y bytes maxL ret R Z n0 as' Q Es FE h cells slots nx ls st) : ORun l y bytes maxL ret R Z n0 as' Q Es FE h cells slots pc ls (.ref b :: st) := by
  obtain ⟨hd, rfl, ho, rfl⟩ := hd
  exact K.step fun p e s m below meth c T locs hx hZ hby hown X eT t k => XS.ifnullNo X.here hx rfl (hb hby hd) rfl k
theorem r_ifnonnull0 {off : Int} (hd : DB bytes pc .ifnonnull off nx tgt) (K : ORun l y bytes maxL ret R Z n0 as' Q Es FE h cells slots nx ls st) : ORun l y bytes maxL ret R Z n0 as' Q Es FE h cells slots pc ls (.null :: st) := by
  obtain ⟨hd, rfl, ho, rfl⟩ := hd
  exact K.step fun p e s m below meth c T locs hx hZ hby hown X eT t k => XS.ifnonnullNo X.here hx rfl (hb hby hd) rfl k
theorem r_ifnonnull1 {off : Int} {b : Addr} (hd : DB bytes pc .ifnonnull off nx tgt) (K : ORun l y bytes maxL ret R Z n0 as' Q Es FE h cells slots tgt ls st) : ORun l y bytes maxL ret R Z n0 as' Q Es FE h cells slots pc ls (.ref b :: st) := by
  obtain ⟨hd, rfl, ho, rfl⟩ := hd
  exact K.step fun p e s m below meth c T locs hx hZ hby hown X eT t k => XS.ifnonnullYes X.here hx rfl rfl (hb hby hd) rfl ho rfl k
theorem r_acmp {cd : ACond} {off : Int} {x z : Value} (h1 : x.isRef = true) (h2 : z.isRef = true) (hd : DB bytes pc (.if_acmp cd) off nx tgt) (K1 : acV cd (decide (x = z)) = true → ORun l y bytes maxL ret R Z n0 as' Q Es FE h cells slots tgt ls st) (K2 : acV cd (decide (x = z)) = false → ORun l y bytes maxL ret R Z n0 as' Q Es FE h cells slots nx ls st) : ORun l y bytes maxL ret R Z n0 as' Q Es FE h cells slots pc ls (z :: x :: st) := by
  obtain ⟨hd, rfl, ho, rfl⟩ := hd
  cases hc : acV cd (decide (x = z))
  · exact (K2 hc).step fun p e s m below meth c T locs hx hZ hby hown X eT t k => Jvm.RoadKit.acmp (g := mkF m pc ls.toArray (z :: x :: st)) X hx rfl h1 h2 (same := decide (x = z)) rfl (hb hby hd) rfl rfl ho (by rw [hc]; rfl) k
  · exact (K1 hc).step fun p e s m below meth c T locs hx hZ hby hown X eT t k => Jvm.RoadKit.acmp (g := mkF m pc ls.toArray (z :: x :: st)) X hx rfl h1 h2 (same := decide (x = z)) rfl (hb hby hd) rfl rfl ho (by rw [hc]; rfl) k
theorem r_acmp_eq {off : Int} {x z : Value} (h1 : x.isRef = true) (h2 : z.isRef = true) (hd : DB bytes pc (.if_acmp .eq) off nx tgt) (K1 : x = z → ORun l y bytes maxL ret R Z n0 as' Q Es FE h cells slots tgt ls st) (K2 : ¬ x = z → ORun l y bytes maxL ret R Z n0 as' Q Es FE h cells slots nx ls st) : ORun l y bytes maxL ret R Z n0 as' Q Es FE h cells slots pc ls (z :: x :: st) :=
  r_acmp h1 h2 hd (fun q => K1 (by simpa [acV] using q)) (fun q => K2 (by simpa [acV] using q))
theorem r_acmp_ne {off : Int} {x z : Value} (h1 : x.isRef = true) (h2 : z.isRef = true) (hd : DB bytes pc (.if_acmp .ne) off nx tgt) (K1 : ¬ x = z → ORun l y bytes maxL ret R Z n0 as' Q Es FE h cells slots tgt ls st) (K2 : x = z → ORun l y bytes maxL ret R Z n0 as' Q Es FE h cells slots nx ls st) : ORun l y bytes maxL ret R Z n0 as' Q Es FE h cells slots pc ls (z :: x :: st) :=
  r_acmp h1 h2 hd (fun q => K1 (by simpa [acV] using q)) (fun q => K2 (by simpa [acV] using q))
/-! returns -/
theorem ORun.back (hFE : ∀ s o U L k n, FrameEnd s o U L k n → FE s o U L k n) {v : Option Value} (hv : ret = none → v = none) (hc : cells ≤ R.cells) (hs : slots ≤ R.slots) (hq : Q v h)
    (hl : ∀ (p : Program) (e : Env) (s : State) (m : MethodId) (below : List Frame) (meth : Method) (c : Code) (T : State) (locs : List Loc), p.tables.exec = Jvm.exec → c.code = bytes → meth.sig.returnType = ret → Stand p l e R s m as' below meth c T locs cells slots → ∀ fs : List Frame,
      (∀ (f : JFrame) (acts : List Action), f.method = m → f.locked = none → f.entered = [] → (doReturn e (T.setTop f) acts v).1 = T.setFrames fs) → Steps p.tables e below (T.setTop (mkF m pc ls.toArray st)) (T.setFrames fs)) : ORun l y bytes maxL ret R Z n0 as' Q Es FE h cells slots pc ls st :=
  fun p e s m below meth c T locs hx hZ hby hml hown hnm hret hlk X eT N hE => by
    obtain ⟨fs, hr, hrun, hended, hW, hsame⟩ := X.leave (v := v) (fun q => hv (hret ▸ q)) hlk
    exact ⟨_, _, hl p e s m below meth c T locs hx hby hret X fs hr, hrun, hended, v, locs, rfl, ⟨by show Q v T.heap; rw [eT]; exact hq, N⟩, hFE _ _ _ _ _ _ ⟨⟨v, rfl⟩, hW, hsame.mono hc hs⟩⟩
theorem r_ret (hd : D bytes pc .return_ 1 nx) (hc : cells ≤ R.cells) (hs : slots ≤ R.slots) (hq : Q none h) : ORun l y bytes maxL none R Z n0 as' Q Es FrameEnd h cells slots pc ls [] :=
  ORun.back (fun _ _ _ _ _ _ q => q) (fun _ => rfl) hc hs hq fun p e s m below meth c T locs hx hby hret X fs hr => X.returnOut hx hret (hb hby hd.1) hr
theorem r_iret {v : Int32} (hd : D bytes pc .ireturn 1 nx) (hc : cells ≤ R.cells) (hs : slots ≤ R.slots) (hq : Q (some (.int v)) h) : ORun l y bytes maxL (some .int) R Z n0 as' Q Es FrameEnd h cells slots pc ls (.int v :: st) :=
  ORun.back (fun _ _ _ _ _ _ q => q) (fun q => nomatch q) hc hs hq fun p e s m below meth c T locs hx hby hret X fs hr => retOut X hx (t := .int) hret rfl (Or.inl ⟨rfl, Or.inl rfl, _, rfl⟩) (hb hby hd.1) hr
theorem r_nret {v : Int32} {t : FieldType} (ht : t = .boolean ∨ t = .byte ∨ t = .char ∨ t = .short) (hd : D bytes pc .ireturn 1 nx) (hc : cells ≤ R.cells) (hs : slots ≤ R.slots) (hq : Q (some (.int (nar t v))) h) : ORun l y bytes maxL (some t) R Z n0 as' Q Es FrameEnd h cells slots pc ls (.int v :: st) :=
  ORun.back (fun _ _ _ _ _ _ q => q) (fun q => nomatch q) hc hs hq fun p e s m below meth c T locs hx hby hret X fs hr => retN X hx (t := t) hret ht (hb hby hd.1) hr
theorem r_nretW {v : Int32} {t : FieldType} (ht : t = .boolean ∨ t = .byte ∨ t = .char ∨ t = .short) (hd : D bytes pc .ireturn 1 nx) (hc : cells ≤ R.cells) (hs : slots ≤ R.slots) (hq : Q (some (.int (nar t v))) h) : ORun l y bytes maxL (some t) R Z n0 as' Q Es ReturnedEndW h cells slots pc ls (.int v :: st) :=
  ORun.back (fun _ _ _ _ _ _ q => ReturnedEndW.of_narrow q.1 q.2.1 q.2.2) (fun q => nomatch q) hc hs hq fun p e s m below meth c T locs hx hby hret X fs hr => retN X hx (t := t) hret ht (hb hby hd.1) hr
theorem r_lret {v : Int64} (hd : D bytes pc .lreturn 1 nx) (hc : cells ≤ R.cells) (hs : slots ≤ R.slots) (hq : Q (some (.long v)) h) : ORun l y bytes maxL (some .long) R Z n0 as' Q Es FrameEnd h cells slots pc ls (.long v :: st) :=
  ORun.back (fun _ _ _ _ _ _ q => q) (fun q => nomatch q) hc hs hq fun p e s m below meth c T locs hx hby hret X fs hr => retOut X hx (t := .long) hret rfl (Or.inr (Or.inl ⟨rfl, rfl, _, rfl⟩)) (hb hby hd.1) hr
theorem r_aret {v : Value} {t : FieldType} (ht : t.isReference = true) (hv : v.isRef = true) (hn : narrow t v = v) (hd : D bytes pc .areturn 1 nx) (hc : cells ≤ R.cells) (hs : slots ≤ R.slots) (hq : Q (some v) h) : ORun l y bytes maxL (some t) R Z n0 as' Q Es FrameEnd h cells slots pc ls (v :: st) :=
  ORun.back (fun _ _ _ _ _ _ q => q) (fun q => nomatch q) hc hs hq fun p e s m below meth c T locs hx hby hret X fs hr => retOut X hx (t := t) hret hn (Or.inr (Or.inr (Or.inr (Or.inr ⟨rfl, ht, hv⟩)))) (hb hby hd.1) hr
/-! fields, objects -/
theorem r_getF {index : Nat} {O n d host : String} {a : Addr} {v : Value} (w : (Cond.fieldLink y.cls index O n d).before a0 Z = true ∨ (Cond.fieldLinkNest y.cls index O n d host).before a0 Z = true) (F : Fld Z h a O n d v) (hd : D bytes pc (.getfield index) 3 nx) (K : ORun l y bytes maxL ret R Z n0 as' Q Es FE h cells slots nx ls (v :: st)) : ORun l y bytes maxL ret R Z n0 as' Q Es FE h cells slots pc ls (.ref a :: st) := by
  obtain ⟨hd, rfl⟩ := hd
  refine K.law fun p e s m below meth c T locs hx hZ hby hml hown hnm X eT N => ?_
  obtain ⟨T', X', e', st'⟩ := getF X hx hZ hown w Via.refl eT F (g := mkF m pc ls.toArray (.ref a :: st)) rfl rfl (hb hby hd)
  exact ⟨T', locs, X', e', N, st'⟩
theorem r_getS {index : Nat} {O n d : String} {v : Value} (w : (Cond.fieldLink y.cls index O n d).before a0 Z = true) (F : Sta Z h O n d v) (hd : D bytes pc (.getstatic index) 3 nx) (K : ORun l y bytes maxL ret R Z n0 as' Q Es FE h cells slots nx ls (v :: st)) : ORun l y bytes maxL ret R Z n0 as' Q Es FE h cells slots pc ls st := by
  obtain ⟨hd, rfl⟩ := hd
  refine K.law fun p e s m below meth c T locs hx hZ hby hml hown hnm X eT N => ?_
  obtain ⟨T', X', e', st'⟩ := getS2 X hx hZ hown (host := "") (Or.inl w) Via.refl eT F (g := mkF m pc ls.toArray st) rfl (hb hby hd)
  exact ⟨T', locs, X', e', N, st'⟩
theorem ORun.lawK {pc' : Nat} {st' : List Value} {cells' slots' : Nat} {P : Heap → Prop}
    (hs : ∀ (p : Program) (e : Env) (s : State) (m : MethodId) (below : List Frame) (meth : Method) (c : Code) (T : State) (locs : List Loc), p.tables.exec = Jvm.exec → Z.Warmed39 s.vm → c.code = bytes → c.maxLocals = maxL → s.vm.findClass y.cls = some m.cls → meth.name = y.name → Stand p l e R s m as' below meth c T locs cells slots → T.heap = h → Fr n0 locs →
      ∃ T' locs', Stand p l e R s m as' below meth c T' locs' cells' slots' ∧ P T'.heap ∧ Fr n0 locs' ∧ ∀ target, Steps p.tables e below (T'.setTop (mkF m pc' ls'.toArray st')) target → Steps p.tables e below (T.setTop (mkF m pc ls.toArray st)) target)
    (K : ∀ h', P h' → ORun l y bytes maxL ret R Z n0 as' Q Es FE h' cells' slots' pc' ls' st') : ORun l y bytes maxL ret R Z n0 as' Q Es FE h cells slots pc ls st :=
  fun p e s m below meth c T locs hx hZ hby hml hown hnm hret hlk X eT N hE => by
    obtain ⟨T', locs', X', eT', N', st⟩ := hs p e s m below meth c T locs hx hZ hby hml hown hnm X eT N
    obtain ⟨U, o, h1, h2⟩ := K _ eT' p e s m below meth c T' locs' hx hZ hby hml hown hnm hret hlk X' rfl N' hE
    exact ⟨U, o, st _ h1, h2⟩
theorem r_putF {index kk : Nat} {O n d C host : String} {ty : FieldType} {a : Addr} {v old : Value} (w : (Cond.fieldLink y.cls index O n d).before a0 Z = true ∨ (Cond.fieldLinkNest y.cls index O n d host).before a0 Z = true) (F : Fld Z h a O n d old) (E : Exa Z h a C)
    (L : (Cond.lays C O n d).before a0 Z = true ∨ ((Cond.laysFinal C O n d).before a0 Z = true ∧ y.cls = O ∧ y.name = "<init>")) (wi : (Cond.instantiable C kk).before a0 Z = true) (hty : parseFieldDescriptor d = some ty) (hn : narrow ty v = v) (hf : fits ty v = true) (ge : n0 ≤ a) (hd : D bytes pc (.putfield index) 3 nx)
    (K : ∀ h', Wr h h' a (Jvm.RoadKit.slotOf Z O n d) v → ORun l y bytes maxL ret R Z n0 as' Q Es FE h' cells slots nx ls st) : ORun l y bytes maxL ret R Z n0 as' Q Es FE h cells slots pc ls (v :: .ref a :: st) := by
  obtain ⟨hd, rfl⟩ := hd
  refine ORun.lawK (fun p e s m below meth c T locs hx hZ hby hml hown hnm X eT N => ?_) K
  obtain ⟨T', h', X', rfl, W, st'⟩ := putF X hx hZ hown w Via.refl eT F E (L.imp id fun q => ⟨q.1, q.2.1, hnm.trans q.2.2⟩) wi hty hn hf (g := mkF m pc ls.toArray (v :: .ref a :: st)) rfl rfl (hb hby hd)
  exact ⟨T', _, X', W, Fr.snoc X' N ge, st'⟩
theorem r_putFN {index kk : Nat} {O n d C : String} {ty : FieldType} {a : Addr} {v v' old : Value} (w : (Cond.fieldLink y.cls index O n d).before a0 Z = true) (F : Fld Z h a O n d old) (E : Exa Z h a C)
    (L : (Cond.lays C O n d).before a0 Z = true ∨ ((Cond.laysFinal C O n d).before a0 Z = true ∧ y.cls = O ∧ y.name = "<init>")) (wi : (Cond.instantiable C kk).before a0 Z = true) (hty : parseFieldDescriptor d = some ty) (hn : narrow ty v = v') (hf : fits ty v' = true) (ge : n0 ≤ a) (hd : D bytes pc (.putfield index) 3 nx)
    (K : ∀ h', Wr h h' a (Jvm.RoadKit.slotOf Z O n d) v' → ORun l y bytes maxL ret R Z n0 as' Q Es FE h' cells slots nx ls st) : ORun l y bytes maxL ret R Z n0 as' Q Es FE h cells slots pc ls (v :: .ref a :: st) := by
  obtain ⟨hd, rfl⟩ := hd
  refine ORun.lawK (fun p e s m below meth c T locs hx hZ hby hml hown hnm X eT N => ?_) K
  obtain ⟨T', h', X', rfl, W, st'⟩ := putFN X hx hZ hown w Via.refl eT F E (L.imp id fun q => ⟨q.1, q.2.1, hnm.trans q.2.2⟩) wi hty hn hf (g := mkF m pc ls.toArray (v :: .ref a :: st)) rfl rfl (hb hby hd)
  exact ⟨T', _, X', W, Fr.snoc X' N ge, st'⟩
theorem r_new {index n : Nat} {C : String} (w : (Cond.classLink y.cls index C).before a0 Z = true) (wi : (Cond.instantiable C n).before a0 Z = true) (wz : (Cond.initialized C).before a0 Z = true) (hd : D bytes pc (.new index) 3 nx) (hc : cells + 1 ≤ R.cells) (hl : slots + n ≤ R.slots)
    (K : ∀ h', Ext h h' ∧ Exa Z h' h.size C ∧ (∀ {O nm d : String} {ty : FieldType}, Laid Z a0 C O nm d → parseFieldDescriptor d = some ty → Fld Z h' h.size O nm d (defaultValue ty)) → ORun l y bytes maxL ret R Z n0 as' Q Es FE h' (cells + 1) (slots + n) nx ls (.ref h.size :: st)) : ORun l y bytes maxL ret R Z n0 as' Q Es FE h cells slots pc ls st := by
  obtain ⟨hd, rfl⟩ := hd
  refine ORun.lawK (fun p e s m below meth c T locs hx hZ hby hml hown hnm X eT N => ?_) K
  obtain ⟨T', h', X', rfl, E, A, D', -, st'⟩ := newO X hx hZ hown w wi wz eT (g := mkF m pc ls.toArray st) rfl (hb hby hd) hc hl
  exact ⟨T', _, X', ⟨E, A, D'⟩, N, st'⟩
theorem r_newarr {aty : ArrayType} {n : Int32} (cap : Nat) (w : (Cond.arrayClass (newarray.typeOf aty)).before a0 Z = true) (hd : D bytes pc (.newarray aty) 2 nx) (hn : ¬ n < 0) (hcap : n.toNatClampNeg ≤ cap) (hb' : cap * 8 ≤ 536870912) (hc : cells + 1 ≤ R.cells) (hl : slots + cap ≤ R.slots)
    (K : ∀ h' cA, Ext h h' → Arr Z h' h.size (newA cA (newarray.typeOf aty) n) (newarray.typeOf aty) → ORun l y bytes maxL ret R Z n0 as' Q Es FE h' (cells + 1) (slots + cap) nx ls (.ref h.size :: st)) : ORun l y bytes maxL ret R Z n0 as' Q Es FE h cells slots pc ls (.int n :: st) := by
  obtain ⟨hd, rfl⟩ := hd
  refine ORun.lawK (P := fun h' => ∃ cA, Ext h h' ∧ Arr Z h' h.size (newA cA (newarray.typeOf aty) n) (newarray.typeOf aty)) (fun p e s m below meth c T locs hx hZ hby hml hown hnm X eT N => ?_) (fun h' q => by obtain ⟨cA, E, A⟩ := q; exact K h' cA E A)
  obtain ⟨T', h', cA, X', rfl, E, A, st'⟩ := newP X hx hZ w eT (g := mkF m pc ls.toArray (.int n :: st)) rfl (hb hby hd) rfl hn hcap hb' hc hl
  exact ⟨T', _, X', ⟨cA, E, A⟩, N, st'⟩
/-! arrays -/
theorem r_len {a : Addr} {cl : Cell} {ty : FieldType} (A : Arr Z h a cl ty) (hd : D bytes pc .arraylength 1 nx) (K : ORun l y bytes maxL ret R Z n0 as' Q Es FE h cells slots nx ls (.int cl.slots.size.toInt32 :: st)) : ORun l y bytes maxL ret R Z n0 as' Q Es FE h cells slots pc ls (.ref a :: st) := by
  obtain ⟨hd, rfl⟩ := hd
  exact K.step fun p e s m below meth c T locs hx hZ hby hown X eT t k => X.arraylength hx (by rw [eT]; exact A.1) (State.isArrayOf_alike hZ.alike A.2.1) (g := mkF m pc ls.toArray (.ref a :: st)) rfl rfl (hb hby hd) _ k
theorem r_iaload {a : Addr} {cl : Cell} {j : Int32} {v : Value} (A : Arr Z h a cl .int) (hj : ¬ (j < 0 ∨ cl.slots.size ≤ j.toNatClampNeg)) (hv : cl.slots[j.toNatClampNeg]? = some v) (hd : D bytes pc .iaload 1 nx) (K : ORun l y bytes maxL ret R Z n0 as' Q Es FE h cells slots nx ls (v :: st)) : ORun l y bytes maxL ret R Z n0 as' Q Es FE h cells slots pc ls (.int j :: .ref a :: st) := by
  obtain ⟨hd, rfl⟩ := hd
  exact K.step fun p e s m below meth c T locs hx hZ hby hown X eT t k => X.iaload hx (j := j) (v := v) (by rw [eT]; exact A.1) (State.isArrayOf_alike hZ.alike A.2.1) A.2.2 hj hv (g := mkF m pc ls.toArray (.int j :: .ref a :: st)) rfl rfl (hb hby hd) _ k
theorem r_caload {a : Addr} {cl : Cell} {j : Int32} {v : Value} (A : Arr Z h a cl .char) (hj : ¬ (j < 0 ∨ cl.slots.size ≤ j.toNatClampNeg)) (hv : cl.slots[j.toNatClampNeg]? = some v) (hd : D bytes pc .caload 1 nx) (K : ORun l y bytes maxL ret R Z n0 as' Q Es FE h cells slots nx ls (v :: st)) : ORun l y bytes maxL ret R Z n0 as' Q Es FE h cells slots pc ls (.int j :: .ref a :: st) := by
  obtain ⟨hd, rfl⟩ := hd
  exact K.step fun p e s m below meth c T locs hx hZ hby hown X eT t k => X.caload hx (j := j) (v := v) (by rw [eT]; exact A.1) (State.isArrayOf_alike hZ.alike A.2.1) A.2.2 hj hv (g := mkF m pc ls.toArray (.int j :: .ref a :: st)) rfl rfl (hb hby hd) _ k
theorem r_baload {a : Addr} {cl : Cell} {j : Int32} {v : Value} (A : Arr Z h a cl .byte) (hj : ¬ (j < 0 ∨ cl.slots.size ≤ j.toNatClampNeg)) (hv : cl.slots[j.toNatClampNeg]? = some v) (hd : D bytes pc .baload 1 nx) (K : ORun l y bytes maxL ret R Z n0 as' Q Es FE h cells slots nx ls (v :: st)) : ORun l y bytes maxL ret R Z n0 as' Q Es FE h cells slots pc ls (.int j :: .ref a :: st) := by
  obtain ⟨hd, rfl⟩ := hd
  exact K.step fun p e s m below meth c T locs hx hZ hby hown X eT t k => X.baloadBytes hx (j := j) (v := v) (by rw [eT]; exact A.1) (State.isArrayOf_alike hZ.alike A.2.1) A.2.2 hj hv (g := mkF m pc ls.toArray (.int j :: .ref a :: st)) rfl rfl (hb hby hd) _ k
theorem r_laload {a : Addr} {cl : Cell} {j : Int32} {v : Value} (A : Arr Z h a cl .long) (hj : ¬ (j < 0 ∨ cl.slots.size ≤ j.toNatClampNeg)) (hv : cl.slots[j.toNatClampNeg]? = some v) (hd : D bytes pc .laload 1 nx) (K : ORun l y bytes maxL ret R Z n0 as' Q Es FE h cells slots nx ls (v :: st)) : ORun l y bytes maxL ret R Z n0 as' Q Es FE h cells slots pc ls (.int j :: .ref a :: st) := by
  obtain ⟨hd, rfl⟩ := hd
  exact K.step fun p e s m below meth c T locs hx hZ hby hown X eT t k => X.laload hx (j := j) (v := v) (by rw [eT]; exact A.1) (State.isArrayOf_alike hZ.alike A.2.1) A.2.2 hj hv (g := mkF m pc ls.toArray (.int j :: .ref a :: st)) rfl rfl (hb hby hd) _ k
theorem r_saload {a : Addr} {cl : Cell} {j : Int32} {v : Value} (A : Arr Z h a cl .short) (hj : ¬ (j < 0 ∨ cl.slots.size ≤ j.toNatClampNeg)) (hv : cl.slots[j.toNatClampNeg]? = some v) (hd : D bytes pc .saload 1 nx) (K : ORun l y bytes maxL ret R Z n0 as' Q Es FE h cells slots nx ls (v :: st)) : ORun l y bytes maxL ret R Z n0 as' Q Es FE h cells slots pc ls (.int j :: .ref a :: st) := by
  obtain ⟨hd, rfl⟩ := hd
  exact K.step fun p e s m below meth c T locs hx hZ hby hown X eT t k => X.saload hx (j := j) (v := v) (by rw [eT]; exact A.1) (State.isArrayOf_alike hZ.alike A.2.1) A.2.2 hj hv (g := mkF m pc ls.toArray (.int j :: .ref a :: st)) rfl rfl (hb hby hd) _ k
theorem r_aaload {a : Addr} {cl : Cell} {j : Int32} {v : Value} {ty : FieldType} (A : Arr Z h a cl ty) (hty : ty.isReference = true) (hj : ¬ (j < 0 ∨ cl.slots.size ≤ j.toNatClampNeg)) (hv : cl.slots[j.toNatClampNeg]? = some v) (hd : D bytes pc .aaload 1 nx) (K : ORun l y bytes maxL ret R Z n0 as' Q Es FE h cells slots nx ls (v :: st)) : ORun l y bytes maxL ret R Z n0 as' Q Es FE h cells slots pc ls (.int j :: .ref a :: st) := by
  obtain ⟨hd, rfl⟩ := hd
  exact K.step fun p e s m below meth c T locs hx hZ hby hown X eT t k => X.aaload hx (j := j) (v := v) (by rw [eT]; exact A.1) (State.isArrayOf_alike hZ.alike A.2.1) hty A.2.2 hj hv (g := mkF m pc ls.toArray (.int j :: .ref a :: st)) rfl rfl (hb hby hd) _ k
theorem r_iastore {a : Addr} {cl : Cell} {j : Int32} {x : Int32} (A : Arr Z h a cl .int) (hj : ¬ (j < 0 ∨ cl.slots.size ≤ j.toNatClampNeg)) (ge : n0 ≤ a) (hd : D bytes pc .iastore 1 nx) (K : ∀ h', Wr h h' a j.toNatClampNeg (.int x) → ORun l y bytes maxL ret R Z n0 as' Q Es FE h' cells slots nx ls st) : ORun l y bytes maxL ret R Z n0 as' Q Es FE h cells slots pc ls (.int x :: .int j :: .ref a :: st) := by
  obtain ⟨hd, rfl⟩ := hd
  refine ORun.lawK (fun p e s m below meth c T locs hx hZ hby hml hown hnm X eT N => ?_) K
  obtain ⟨T', h', X', rfl, W, st'⟩ := stI X hx hZ eT A hj (g := mkF m pc ls.toArray (.int x :: .int j :: .ref a :: st)) rfl rfl (hb hby hd)
  exact ⟨T', _, X', W, Fr.snoc X' N ge, st'⟩
theorem r_castore {a : Addr} {cl : Cell} {j : Int32} {x : Int32} (A : Arr Z h a cl .char) (hj : ¬ (j < 0 ∨ cl.slots.size ≤ j.toNatClampNeg)) (ge : n0 ≤ a) (hd : D bytes pc .castore 1 nx) (K : ∀ h', Wr h h' a j.toNatClampNeg (.int (nar .char x)) → ORun l y bytes maxL ret R Z n0 as' Q Es FE h' cells slots nx ls st) : ORun l y bytes maxL ret R Z n0 as' Q Es FE h cells slots pc ls (.int x :: .int j :: .ref a :: st) := by
  obtain ⟨hd, rfl⟩ := hd
  refine ORun.lawK (fun p e s m below meth c T locs hx hZ hby hml hown hnm X eT N => ?_) K
  obtain ⟨T', h', X', rfl, W, st'⟩ := stC X hx hZ eT A hj (g := mkF m pc ls.toArray (.int x :: .int j :: .ref a :: st)) rfl rfl (hb hby hd)
  exact ⟨T', _, X', W, Fr.snoc X' N ge, st'⟩
theorem r_bastore {a : Addr} {cl : Cell} {j : Int32} {x : Int32} (A : Arr Z h a cl .byte) (hj : ¬ (j < 0 ∨ cl.slots.size ≤ j.toNatClampNeg)) (ge : n0 ≤ a) (hd : D bytes pc .bastore 1 nx) (K : ∀ h', Wr h h' a j.toNatClampNeg (.int (nar .byte x)) → ORun l y bytes maxL ret R Z n0 as' Q Es FE h' cells slots nx ls st) : ORun l y bytes maxL ret R Z n0 as' Q Es FE h cells slots pc ls (.int x :: .int j :: .ref a :: st) := by
  obtain ⟨hd, rfl⟩ := hd
  refine ORun.lawK (fun p e s m below meth c T locs hx hZ hby hml hown hnm X eT N => ?_) K
  obtain ⟨T', h', X', rfl, W, st'⟩ := stB X hx hZ eT A hj (g := mkF m pc ls.toArray (.int x :: .int j :: .ref a :: st)) rfl rfl (hb hby hd)
  exact ⟨T', _, X', W, Fr.snoc X' N ge, st'⟩
theorem r_lastore {a : Addr} {cl : Cell} {j : Int32} {x : Int64} (A : Arr Z h a cl .long) (hj : ¬ (j < 0 ∨ cl.slots.size ≤ j.toNatClampNeg)) (ge : n0 ≤ a) (hd : D bytes pc .lastore 1 nx) (K : ∀ h', Wr h h' a j.toNatClampNeg (.long x) → ORun l y bytes maxL ret R Z n0 as' Q Es FE h' cells slots nx ls st) : ORun l y bytes maxL ret R Z n0 as' Q Es FE h cells slots pc ls (.long x :: .int j :: .ref a :: st) := by
  obtain ⟨hd, rfl⟩ := hd
  refine ORun.lawK (fun p e s m below meth c T locs hx hZ hby hml hown hnm X eT N => ?_) K
  obtain ⟨T', h', X', rfl, W, st'⟩ := stJ X hx hZ eT A hj (g := mkF m pc ls.toArray (.long x :: .int j :: .ref a :: st)) rfl rfl (hb hby hd)
  exact ⟨T', _, X', W, Fr.snoc X' N ge, st'⟩
theorem r_lenA {a : Addr} {ty : FieldType} {vs : List Int32} (n : Int32) (A : Ary Z h a ty vs) (hn : vs.length.toInt32 = n) (hd : D bytes pc .arraylength 1 nx) (K : ORun l y bytes maxL ret R Z n0 as' Q Es FE h cells slots nx ls (.int n :: st)) : ORun l y bytes maxL ret R Z n0 as' Q Es FE h cells slots pc ls (.ref a :: st) := by
  obtain ⟨c, A, q⟩ := A
  refine r_len A hd ?_
  rw [Ary.size q, hn]; exact K
theorem r_ldI {a : Addr} {vs : List Int32} {j : Int32} (x : Int32) (A : Ary Z h a .int vs) (hj : ¬ j < 0) (hv : vs[j.toNatClampNeg]? = some x) (hd : D bytes pc .iaload 1 nx) (K : ORun l y bytes maxL ret R Z n0 as' Q Es FE h cells slots nx ls (.int x :: st)) : ORun l y bytes maxL ret R Z n0 as' Q Es FE h cells slots pc ls (.int j :: .ref a :: st) := by
  obtain ⟨c, A, q⟩ := A
  have e := Ary.inb q hj hv
  exact r_iaload A e.1 e.2 hd K
theorem r_ldC {a : Addr} {vs : List Int32} {j : Int32} (x : Int32) (A : Ary Z h a .char vs) (hj : ¬ j < 0) (hv : vs[j.toNatClampNeg]? = some x) (hd : D bytes pc .caload 1 nx) (K : ORun l y bytes maxL ret R Z n0 as' Q Es FE h cells slots nx ls (.int x :: st)) : ORun l y bytes maxL ret R Z n0 as' Q Es FE h cells slots pc ls (.int j :: .ref a :: st) := by
  obtain ⟨c, A, q⟩ := A
  have e := Ary.inb q hj hv
  exact r_caload A e.1 e.2 hd K
theorem r_ldB {a : Addr} {vs : List Int32} {j : Int32} (x : Int32) (A : Ary Z h a .byte vs) (hj : ¬ j < 0) (hv : vs[j.toNatClampNeg]? = some x) (hd : D bytes pc .baload 1 nx) (K : ORun l y bytes maxL ret R Z n0 as' Q Es FE h cells slots nx ls (.int x :: st)) : ORun l y bytes maxL ret R Z n0 as' Q Es FE h cells slots pc ls (.int j :: .ref a :: st) := by
  obtain ⟨c, A, q⟩ := A
  have e := Ary.inb q hj hv
  exact r_baload A e.1 e.2 hd K
theorem r_stI {a : Addr} {vs : List Int32} {j x : Int32} (i : Nat) (vs' : List Int32) (A : Ary Z h a .int vs) (hj : ¬ j < 0) (hi : j.toNatClampNeg = i) (hl : i < vs.length) (hvs : vs.set i x = vs') (ge : n0 ≤ a) (hd : D bytes pc .iastore 1 nx) (K : ∀ h', Wr h h' a i (.int x) → Ary Z h' a .int vs' → ORun l y bytes maxL ret R Z n0 as' Q Es FE h' cells slots nx ls st) : ORun l y bytes maxL ret R Z n0 as' Q Es FE h cells slots pc ls (.int x :: .int j :: .ref a :: st) := by
  have A' := A
  obtain ⟨c, A, q⟩ := A
  subst hi
  refine r_iastore A (fun r => ?_) ge hd fun h' W => K h' W (A'.set W hvs)
  rcases r with r | r
  · exact hj r
  · rw [Ary.size q] at r; omega
theorem r_stC {a : Addr} {vs : List Int32} {j x : Int32} (i : Nat) (vs' : List Int32) (A : Ary Z h a .char vs) (hj : ¬ j < 0) (hi : j.toNatClampNeg = i) (hl : i < vs.length) (hvs : vs.set i (nar .char x) = vs') (ge : n0 ≤ a) (hd : D bytes pc .castore 1 nx) (K : ∀ h', Wr h h' a i (.int (nar .char x)) → Ary Z h' a .char vs' → ORun l y bytes maxL ret R Z n0 as' Q Es FE h' cells slots nx ls st) : ORun l y bytes maxL ret R Z n0 as' Q Es FE h cells slots pc ls (.int x :: .int j :: .ref a :: st) := by
  have A' := A
  obtain ⟨c, A, q⟩ := A
  subst hi
  refine r_castore A (fun r => ?_) ge hd fun h' W => K h' W (A'.set W hvs)
  rcases r with r | r
  · exact hj r
  · rw [Ary.size q] at r; omega
theorem r_stB {a : Addr} {vs : List Int32} {j x : Int32} (i : Nat) (vs' : List Int32) (A : Ary Z h a .byte vs) (hj : ¬ j < 0) (hi : j.toNatClampNeg = i) (hl : i < vs.length) (hvs : vs.set i (nar .byte x) = vs') (ge : n0 ≤ a) (hd : D bytes pc .bastore 1 nx) (K : ∀ h', Wr h h' a i (.int (nar .byte x)) → Ary Z h' a .byte vs' → ORun l y bytes maxL ret R Z n0 as' Q Es FE h' cells slots nx ls st) : ORun l y bytes maxL ret R Z n0 as' Q Es FE h cells slots pc ls (.int x :: .int j :: .ref a :: st) := by
  have A' := A
  obtain ⟨c, A, q⟩ := A
  subst hi
  refine r_bastore A (fun r => ?_) ge hd fun h' W => K h' W (A'.set W hvs)
  rcases r with r | r
  · exact hj r
  · rw [Ary.size q] at r; omega
/-! calls -/
theorem r_initO {idx : Nat} {a : Addr} (w1 : (Cond.methodLink y.cls idx Lib.objectInit).before a0 Z = true) (w2 : (Cond.instanceMethod Lib.objectInit).before a0 Z = true) (w3 : (Cond.code Lib.objectInit ⟨#[0xb1]⟩ 1 none).before a0 Z = true) (hd : D bytes pc (.invokespecial idx) 3 nx) (hsz : ls.length = maxL) (hf : 1 ≤ R.frames) (W : Nat) (hW : (st.map fun v => v.category).sum = W) (hl : W + 12 ≤ R.locals)
    (K : ORun l y bytes maxL ret R Z n0 as' Q Es FE h cells slots nx ls st) : ORun l y bytes maxL ret R Z n0 as' Q Es FE h cells slots pc ls (.ref a :: st) := by
  obtain ⟨hd, rfl⟩ := hd
  refine K.law fun p e s m below meth c T locs hx hZ hby hml hown hnm X eT N => ?_
  obtain ⟨T', X', e', st'⟩ := initO X hx hZ hown w1 w2 w3 eT (g := mkF m pc ls.toArray (.ref a :: st)) rfl (by rw [hml]; simpa using hsz) rfl (hb hby hd) hf (W := W) (by show 2 * 0 + _ ≤ _; omega) hl
  exact ⟨T', locs, X', e', N, st'⟩
theorem ORun.call {y' : MethodName} {R' : Room} {Q' : Option Value → Heap → Prop} {rest : List Value}
    (hs : ∀ (p : Program) (e : Env) (s : State) (m : MethodId) (below : List Frame) (meth : Method) (c : Code) (T : State) (locs : List Loc), p.tables.exec = Jvm.exec → Z.Warmed39 s.vm → c.code = bytes → c.maxLocals = maxL → s.vm.findClass y.cls = some m.cls → Stand p l e R s m as' below meth c T locs cells slots → T.heap = h →
      ∃ (v : Option Value) (B : Pt), Stand p l e R s m as' below meth c B.U B.locs B.cells B.slots ∧ (∃ L, (Q' v B.U.heap ∧ Fr n0 L) ∧ B.locs = locs ++ L ∧ B.cells = cells + R'.cells ∧ B.slots = slots + R'.slots) ∧
        ∀ target, Steps p.tables e below (B.U.setTop (mkF m nx ls.toArray (v.toList ++ rest))) target → Steps p.tables e below (T.setTop (mkF m pc ls.toArray st)) target)
    (K : ∀ v h', Q' v h' → ORun l y bytes maxL ret R Z n0 as' Q Es FE h' (cells + R'.cells) (slots + R'.slots) nx ls (v.toList ++ rest)) : ORun l y bytes maxL ret R Z n0 as' Q Es FE h cells slots pc ls st :=
  fun p e s m below meth c T locs hx hZ hby hml hown hnm hret hlk X eT N hE => by
    obtain ⟨v, ⟨T', L', k', n'⟩, X', ⟨L, ⟨hq, N'⟩, q1, q2, q3⟩, st⟩ := hs p e s m below meth c T locs hx hZ hby hml hown X eT
    dsimp only [Pt.U, Pt.locs, Pt.cells, Pt.slots] at X' q1 q2 q3 st hq
    subst q1 q2 q3
    obtain ⟨U, o, h1, h2⟩ := K v _ hq p e s m below meth c T' _ hx hZ hby hml hown hnm hret hlk X' rfl (Fr.app N N') hE
    exact ⟨U, o, st _ h1, h2⟩
variable {b' : ByteArray} {mL' : Nat} {ret' : Option FieldType} {R' : Room} {Q' : Option Value → Heap → Prop} {y' : MethodName} {idx : Nat}
theorem r_static (argsL rest : List Value) (hst : st = argsL.reverse ++ rest) {ps : List FieldType} (hpd : parseMethodDescriptor y'.desc = some ⟨ps, ret'⟩) (hlen : argsL.length = ps.length)
    (w1 : (Cond.methodLink y.cls idx y').before a0 Z = true) (w2 : (Cond.static y').before a0 Z = true) (w3 : (Cond.initialized y'.cls).before a0 Z = true) (w4 : (Cond.code y' b' mL' ret').before a0 Z = true) (hy : y'.cls ≠ "java/lang/invoke/MethodHandle" ∧ y'.cls ≠ "java/lang/invoke/VarHandle")
    (C : Ct l y' b' mL' ret' [] R' Z n0 argsL.toArray h Q') (hd : D bytes pc (.invokestatic idx) 3 nx) (hsz : ls.length = maxL) (hf : R'.frames + 1 ≤ R.frames) (W : Nat) (hW : (rest.map fun v => v.category).sum = W) (hl : W + (mL' + 11) + R'.locals ≤ R.locals) (hc : cells + R'.cells ≤ R.cells) (hs : slots + R'.slots ≤ R.slots)
    (K : ∀ v h', Q' v h' → ORun l y bytes maxL ret R Z n0 as' Q Es FE h' (cells + R'.cells) (slots + R'.slots) nx ls (v.toList ++ rest)) : ORun l y bytes maxL ret R Z n0 as' Q Es FE h cells slots pc ls st := by
  obtain ⟨hd, rfl⟩ := hd
  subst hst
  refine ORun.call (y' := y') (fun p e s m below meth c T locs hx hZ hby hml hown X eT => ?_) K
  obtain ⟨v, _, B, -, X', hq, st'⟩ := Jvm.LawKit.callS X hx (y := y') hown (mvT hZ w1) (mvT hZ w2) (mvT hZ w3) (mvT hZ w4) hy (backOf (len := 3) (W := W) (Q := fun v h L => Q' v h ∧ Fr n0 L) C hZ w4 w3 hf hl) (g := mkF m pc ls.toArray (argsL.reverse ++ rest)) rfl (by rw [hml]; simpa using hsz) (argsL := argsL) (rest := rest) (lenOf hpd hlen) rfl (by show 2 * 0 + _ ≤ _; omega) (hb hby hd) (fun _ _ => ⟨rfl, eT, hc, hs⟩)
  exact ⟨v, B, X', hq, st'⟩
theorem r_special (argsL rest : List Value) (a : Addr) (hst : st = argsL.reverse ++ .ref a :: rest) {ps : List FieldType} (hpd : parseMethodDescriptor y'.desc = some ⟨ps, none⟩) (hlen : argsL.length = ps.length) (hn : y'.name = "<init>")
    (w1 : (Cond.methodLink y.cls idx y').before a0 Z = true) (w2 : (Cond.instanceMethod y').before a0 Z = true) (w3 : (Cond.initialized y'.cls).before a0 Z = true) (w4 : (Cond.code y' b' mL' none).before a0 Z = true) (hy : y'.cls ≠ "java/lang/invoke/MethodHandle" ∧ y'.cls ≠ "java/lang/invoke/VarHandle")
    (C : Ct l y' b' mL' none [] R' Z n0 (.ref a :: argsL).toArray h Q') (hd : D bytes pc (.invokespecial idx) 3 nx) (hsz : ls.length = maxL) (hf : R'.frames + 1 ≤ R.frames) (W : Nat) (hW : (rest.map fun v => v.category).sum = W) (hl : W + (mL' + 11) + R'.locals ≤ R.locals) (hc : cells + R'.cells ≤ R.cells) (hs : slots + R'.slots ≤ R.slots)
    (K : ∀ v h', Q' v h' → ORun l y bytes maxL ret R Z n0 as' Q Es FE h' (cells + R'.cells) (slots + R'.slots) nx ls (v.toList ++ rest)) : ORun l y bytes maxL ret R Z n0 as' Q Es FE h cells slots pc ls st := by
  obtain ⟨hd, rfl⟩ := hd
  subst hst
  refine ORun.call (y' := y') (fun p e s m below meth c T locs hx hZ hby hml hown X eT => ?_) K
  obtain ⟨v, _, B, -, X', hq, st'⟩ := X.specialBack hx (y := y') hn hown (mvT hZ w1) (mvT hZ w2) (mvT hZ w4) hy (backOf (len := 3) (W := W) (Q := fun v h L => Q' v h ∧ Fr n0 L) C hZ w4 w3 hf hl) (g := mkF m pc ls.toArray (argsL.reverse ++ .ref a :: rest)) rfl (by rw [hml]; simpa using hsz) (Steps.refl _) (a := a) (argsL := argsL) (rest := rest) (lenOf hpd hlen) rfl (by show 2 * 0 + _ ≤ _; omega) (hb hby hd) (fun _ _ => ⟨rfl, eT, hc, hs⟩)
  exact ⟨v, B, X', hq, fun t k => st'.trans k⟩
theorem r_virtual (argsL rest : List Value) (a : Addr) {C : String} (E : Exa Z h a C) (hst : st = argsL.reverse ++ .ref a :: rest) {ps : List FieldType} (hpd : parseMethodDescriptor y'.desc = some ⟨ps, ret'⟩) (hlen : argsL.length = ps.length)
    (w1 : (Cond.methodLink y.cls idx y').before a0 Z = true) (w2 : (Cond.declares y').before a0 Z = true) (ws : (Cond.selects C y' y').before a0 Z = true) (w5 : (Cond.instanceMethod y').before a0 Z = true) (w3 : (Cond.initialized y'.cls).before a0 Z = true) (w4 : (Cond.code y' b' mL' ret').before a0 Z = true) (hC : C = y'.cls) (hy : y'.cls ≠ "java/lang/invoke/MethodHandle" ∧ y'.cls ≠ "java/lang/invoke/VarHandle")
    (C' : Ct l y' b' mL' ret' [] R' Z n0 (.ref a :: argsL).toArray h Q') (hd : D bytes pc (.invokevirtual idx) 3 nx) (hsz : ls.length = maxL) (hf : R'.frames + 1 ≤ R.frames) (W : Nat) (hW : (rest.map fun v => v.category).sum = W) (hl : W + (mL' + 11) + R'.locals ≤ R.locals) (hc : cells + R'.cells ≤ R.cells) (hs : slots + R'.slots ≤ R.slots)
    (K : ∀ v h', Q' v h' → ORun l y bytes maxL ret R Z n0 as' Q Es FE h' (cells + R'.cells) (slots + R'.slots) nx ls (v.toList ++ rest)) : ORun l y bytes maxL ret R Z n0 as' Q Es FE h cells slots pc ls st := by
  obtain ⟨hd, rfl⟩ := hd
  subst hst hC
  refine ORun.call (y' := y') (fun p e s m below meth c T locs hx hZ hby hml hown X eT => ?_) K
  obtain ⟨cq, kq, q1, q2, q3⟩ := isOf hZ eT E
  obtain ⟨v, _, B, -, X', hq, st'⟩ := X.virtualBack hx (y := y') (z := y') hown (mvT hZ w1) (mvT hZ w2) (notFace_of_selects (args := #[]) (mvT hZ ws)) (mvT hZ ws) (mvT hZ w5) hy (backOf (len := 3) (W := W) (Q := fun v h L => Q' v h ∧ Fr n0 L) C' hZ w4 w3 hf hl) q1 q3 (g := mkF m pc ls.toArray (argsL.reverse ++ .ref a :: rest)) rfl (by rw [hml]; simpa using hsz) (Steps.refl _) (argsL := argsL) (rest := rest) (lenOf hpd hlen) rfl (by show 2 * 0 + _ ≤ _; omega) (hb hby hd) (fun _ _ => ⟨rfl, eT, hc, hs⟩)
  exact ⟨v, B, X', hq, fun t k => st'.trans k⟩
theorem r_staticP (argsL rest : List Value) (hst : st = argsL.reverse ++ rest) {ps : List FieldType} (hpd : parseMethodDescriptor y'.desc = some ⟨ps, ret'⟩) (hlen : argsL.length = ps.length)
    (w1 : (Cond.methodLink y.cls idx y').before a0 Z = true) (w2 : (Cond.static y').before a0 Z = true) (w3 : (Cond.initialized y'.cls).before a0 Z = true) (w4 : (Cond.code y' b' mL' ret').before a0 Z = true) (hy : y'.cls ≠ "java/lang/invoke/MethodHandle" ∧ y'.cls ≠ "java/lang/invoke/VarHandle") {w : Value}
    (C : Ct l y' b' mL' ret' [] R' Z n0 argsL.toArray h (fun v h' => v = some w ∧ h' = h)) (hd : D bytes pc (.invokestatic idx) 3 nx) (hsz : ls.length = maxL) (hf : R'.frames + 1 ≤ R.frames) (W : Nat) (hW : (rest.map fun v => v.category).sum = W) (hl : W + (mL' + 11) + R'.locals ≤ R.locals) (h0c : R'.cells = 0) (h0s : R'.slots = 0) (hc : cells ≤ R.cells) (hs : slots ≤ R.slots)
    (K : ORun l y bytes maxL ret R Z n0 as' Q Es FE h cells slots nx ls (w :: rest)) : ORun l y bytes maxL ret R Z n0 as' Q Es FE h cells slots pc ls st :=
  r_static argsL rest hst hpd hlen w1 w2 w3 w4 hy C hd hsz hf W hW hl (by omega) (by omega) fun v h' q => by
    obtain ⟨rfl, rfl⟩ := q
    rw [h0c, h0s]; exact K
theorem r_virtualP (argsL rest : List Value) (a : Addr) {C : String} (E : Exa Z h a C) (hst : st = argsL.reverse ++ .ref a :: rest) {ps : List FieldType} (hpd : parseMethodDescriptor y'.desc = some ⟨ps, ret'⟩) (hlen : argsL.length = ps.length)
    (w1 : (Cond.methodLink y.cls idx y').before a0 Z = true) (w2 : (Cond.declares y').before a0 Z = true) (ws : (Cond.selects C y' y').before a0 Z = true) (w5 : (Cond.instanceMethod y').before a0 Z = true) (w3 : (Cond.initialized y'.cls).before a0 Z = true) (w4 : (Cond.code y' b' mL' ret').before a0 Z = true) (hC : C = y'.cls) (hy : y'.cls ≠ "java/lang/invoke/MethodHandle" ∧ y'.cls ≠ "java/lang/invoke/VarHandle") {w : Value}
    (C' : Ct l y' b' mL' ret' [] R' Z n0 (.ref a :: argsL).toArray h (fun v h' => v = some w ∧ h' = h)) (hd : D bytes pc (.invokevirtual idx) 3 nx) (hsz : ls.length = maxL) (hf : R'.frames + 1 ≤ R.frames) (W : Nat) (hW : (rest.map fun v => v.category).sum = W) (hl : W + (mL' + 11) + R'.locals ≤ R.locals) (h0c : R'.cells = 0) (h0s : R'.slots = 0) (hc : cells ≤ R.cells) (hs : slots ≤ R.slots)
    (K : ORun l y bytes maxL ret R Z n0 as' Q Es FE h cells slots nx ls (w :: rest)) : ORun l y bytes maxL ret R Z n0 as' Q Es FE h cells slots pc ls st :=
  r_virtual argsL rest a E hst hpd hlen w1 w2 ws w5 w3 w4 hC hy C' hd hsz hf W hW hl (by omega) (by omega) fun v h' q => by
    obtain ⟨rfl, rfl⟩ := q
    rw [h0c, h0s]; exact K
theorem r_private (argsL rest : List Value) (a : Addr) {C : String} {kk : Nat} (E : Exa Z h a C) (hst : st = argsL.reverse ++ .ref a :: rest) {ps : List FieldType} (hpd : parseMethodDescriptor y'.desc = some ⟨ps, ret'⟩) (hlen : argsL.length = ps.length)
    (w1 : (Cond.methodLink y.cls idx y').before a0 Z = true) (w5 : (Cond.instanceMethod y').before a0 Z = true) (wp : (Cond.privateMethod y').before a0 Z = true) (wi : (Cond.instantiable y'.cls kk).before a0 Z = true) (w3 : (Cond.initialized y'.cls).before a0 Z = true) (w4 : (Cond.code y' b' mL' ret').before a0 Z = true) (hy : y'.cls ≠ "java/lang/invoke/MethodHandle" ∧ y'.cls ≠ "java/lang/invoke/VarHandle")
    (C' : Ct l y' b' mL' ret' [] R' Z n0 (.ref a :: argsL).toArray h Q') (hd : D bytes pc (.invokevirtual idx) 3 nx) (hsz : ls.length = maxL) (hf : R'.frames + 1 ≤ R.frames) (W : Nat) (hW : (rest.map fun v => v.category).sum = W) (hl : W + (mL' + 11) + R'.locals ≤ R.locals) (hc : cells + R'.cells ≤ R.cells) (hs : slots + R'.slots ≤ R.slots)
    (K : ∀ v h', Q' v h' → ORun l y bytes maxL ret R Z n0 as' Q Es FE h' (cells + R'.cells) (slots + R'.slots) nx ls (v.toList ++ rest)) : ORun l y bytes maxL ret R Z n0 as' Q Es FE h cells slots pc ls st := by
  obtain ⟨hd, rfl⟩ := hd
  subst hst
  refine ORun.call (y' := y') (fun p e s m below meth c T locs hx hZ hby hml hown X eT => ?_) K
  obtain ⟨cell, hcl, hob⟩ := E.cell
  have hi : (Cond.instanceMethod y').before as' s = true := mvT hZ w5
  have hp : s.PrivateAt y' := Cond.privateMethod_at (mvP hZ wp (args := as'))
  obtain ⟨cc, k, i1, i2, -, i4, -⟩ := Cond.instantiable_spec (show (Cond.instantiable y'.cls kk).before as' s = true from mvT hZ wi)
  have hni : k.isInterface = false := by simp only [Bool.or_eq_false_iff] at i4; exact i4.1
  have hsel : (Cond.selects y'.cls y' y').before as' s = true := selects_self_of_private i1 i2 hni hp hi hy
  obtain ⟨v, _, B, -, X', hq, st'⟩ := X.privateBack hx (y := y') hown (mvT hZ w1) hi hsel hp (mvT hZ w4) hy (backOf (len := 3) (W := W) (Q := fun v h L => Q' v h ∧ Fr n0 L) C' hZ w4 w3 hf hl) (g := mkF m pc ls.toArray (argsL.reverse ++ .ref a :: rest)) rfl (by rw [hml]; simpa using hsz) (Steps.refl _) (a := a) (by rw [eT]; exact hcl) hob (argsL := argsL) (rest := rest) (lenOf hpd hlen) rfl (by show 2 * 0 + _ ≤ _; omega) (hb hby hd) (fun _ _ => ⟨rfl, eT, hc, hs⟩)
  exact ⟨v, B, X', hq, fun t k => st'.trans k⟩
theorem r_cast {index : Nat} {K : String} {a : Addr} (w : (Cond.classLink y.cls index K).before a0 Z = true) (F : Ins Z h a K true) (hd : D bytes pc (.checkcast index) 3 nx) (K' : ORun l y bytes maxL ret R Z n0 as' Q Es FE h cells slots nx ls (.ref a :: st)) : ORun l y bytes maxL ret R Z n0 as' Q Es FE h cells slots pc ls (.ref a :: st) := by
  obtain ⟨hd, rfl⟩ := hd
  refine K'.law fun p e s m below meth c T locs hx hZ hby hml hown hnm X eT N => ?_
  obtain ⟨T', X', e', st'⟩ := castY X hx hZ hown w eT F (g := mkF m pc ls.toArray (.ref a :: st)) rfl rfl (hb hby hd)
  exact ⟨T', locs, X', e', N, st'⟩
theorem r_clone {index : Nat} {ad : String} {a : Addr} {cl : Cell} {ty : FieldType} (cap : Nat) (w1 : (Cond.methodLink y.cls index ⟨ad, "clone", "()Ljava/lang/Object;"⟩).before a0 Z = true) (w2 : (Cond.sameMethod ad "java/lang/Object" "clone" "()Ljava/lang/Object;").before a0 Z = true) (w3 : (Cond.native ⟨"java/lang/Object", "clone", "()Ljava/lang/Object;"⟩).before a0 Z = true)
    (w4 : (Cond.instanceMethod ⟨"java/lang/Object", "clone", "()Ljava/lang/Object;"⟩).before a0 Z = true) (w5 : (Cond.selects ad ⟨ad, "clone", "()Ljava/lang/Object;"⟩ ⟨"java/lang/Object", "clone", "()Ljava/lang/Object;"⟩).before a0 Z = true) (w6 : (Cond.castable ad "java/lang/Cloneable").before a0 Z = true)
    (A : Arr Z h a cl ty) (E : Exa Z h a ad) (F : FitC Z cl) (hd : D bytes pc (.invokevirtual index) 3 nx) (hsz : ls.length = maxL) (hf : 1 ≤ R.frames) (W : Nat) (hW : (st.map fun v => v.category).sum = W) (hl : W + 14 ≤ R.locals) (hcap : cl.slots.size ≤ cap) (hc : cells + 1 ≤ R.cells) (hs : slots + cap ≤ R.slots)
    (K : ∀ h', Ext h h' ∧ Arr Z h' h.size (cloneOf cl) ty ∧ Exa Z h' h.size ad → ORun l y bytes maxL ret R Z n0 as' Q Es FE h' (cells + 1) (slots + cap) nx ls (.ref h.size :: st)) : ORun l y bytes maxL ret R Z n0 as' Q Es FE h cells slots pc ls (.ref a :: st) := by
  obtain ⟨hd, rfl⟩ := hd
  refine ORun.lawK (fun p e s m below meth c T locs hx hZ hby hml hown hnm X eT N => ?_) K
  obtain ⟨T', h', X', rfl, E', A', Y', st'⟩ := cloneA X hx hZ hown w1 w2 w3 w4 w5 w6 eT A E F (g := mkF m pc ls.toArray (.ref a :: st)) rfl (by rw [hml]; simpa using hsz) rfl (hb hby hd) hf (W := W) (by show 2 * 0 + _ ≤ _; omega) hl hcap hc hs
  exact ⟨T', _, X', ⟨E', A', Y'⟩, N, st'⟩
end Logic
/-! a start that may intern -/
def EW (Z : State) : State → Prop := fun s => s.vm.interned = Z.vm.interned ∧ s.heap = Z.heap
def CtW (l : Launch) (y : MethodName) (bytes : ByteArray) (maxL : Nat) (ret : Option FieldType) (ws : List Jvm.Cond) (R : Room) (Z : State) (n0 : Nat) (as' : Array Value) (Q : Option Value → Heap → Prop) : Prop :=
  MetFree l y (head1 (Jvm.Cond.code y bytes maxL ret :: ws) R) (fun a U => a = as' ∧ Z.Warmed39 U.vm ∧ U.heap = Z.heap ∧ U.vm.interned = Z.vm.interned) (fun _ _ _ _ _ => True) (fun _ U o U' => ∃ v L, o = .returned v ∧ (Q v U'.heap ∧ Fr n0 L) ∧ ReturnedEndW U o U' L R.cells R.slots)
section LogicW
variable {l : Launch} {y : MethodName} {bytes : ByteArray} {maxL : Nat} {ret : Option FieldType} {ws : List Jvm.Cond} {R : Room} {Z : State} {n0 : Nat} {as' : Array Value} {Q : Option Value → Heap → Prop} {h : Heap} {cells slots pc nx tgt : Nat} {ls ls' : List Slot} {st : List Value} {a0 : Array Value}
theorem CtW.of (hpl : plainFor y = true) (hef : ∀ m, entryFrame m as' maxL = mkF m 0 ls.toArray []) (H : ORun l y bytes maxL ret R Z n0 as' Q (EW Z) ReturnedEndW Z.heap 0 0 0 ls []) : CtW l y bytes maxL ret ws R Z n0 as' Q := by
  refine MetFree.of_bodySF hpl hisR ?_
  intro p e s m args below meth c s₁ Bd hml0 hP hK
  obtain ⟨rfl, hZ, hh, hi⟩ := hP
  rw [hef m]
  exact H p e s m below meth c s₁ [] Bd.exec hZ Bd.bytes hml0 (findClass_of_methodNamed Bd.named) (name_of_methodNamed Bd.named Bd.method).1 Bd.returns Bd.notSynchronized (Stand.of_body Bd) (by rw [← hh, Bd.state]; rfl) (Fr.nil n0) ⟨hi, hh⟩
theorem endW {s U : State} {vm₁ : Vm} {o : Outcome} {L : List Loc} {k n j : Nat} (hS : s.Since vm₁ j) (hj : j ≤ U.heap.size) (F : FrameEnd (s.setVm vm₁) o U L k n) : ReturnedEndW s o U L k n := by
  obtain ⟨h1, h2, h3⟩ := F
  obtain ⟨a, b, c⟩ := hS.ended h2 hj h3
  exact ⟨h1, a, b, c⟩
/-- the load of a String constant that may be interned by it -/
theorem r_ldcW {index : Nat} {text : String} {vs : List Value} {z : Int32} (hn0 : n0 = Z.heap.size) (w : (Cond.stringLink y.cls index text).before a0 Z = true) (wS : ∀ a ∈ Bundle.stringAtoms, a.before a0 Z = true) (hh : Jvm.Lit.constHeld Z y.cls index) (hcw : Jvm.Lit.compactW.before a0 Z = true)
    (ht : (∀ c ∈ text.toList, c.toNat < 256) ∧ text.toList.map (fun c => Value.int (Jvm.Lit.byteI c.toNat.toUInt16)) = vs) (hz : ¬ z < 0) (hl : z.toNatClampNeg = vs.length) (n : Nat) (hn : 4 * text.toList.length ≤ n) (hbig : n ≤ 536870912) (hd : D bytes pc (.ldc index) 2 nx) (hc : cells + 2 ≤ R.cells) (hsl : slots + (n + 4) ≤ R.slots)
    (K : ∀ (a b : Addr) (k : ClassId) (h' : Heap), Ext h h' → Exa Z h' a "java/lang/String" → Fld Z h' a "java/lang/String" "coder" "B" (.int 0) → Fld Z h' a "java/lang/String" "value" "[B" (.ref b) → Arv Z h' b k .byte z vs (.int 0) → ORun l y bytes maxL ret R Z n0 as' (fun v hh => Q v hh ∧ h'.size ≤ hh.size) (fun _ => True) FrameEnd h' (cells + 2) (slots + (n + 4)) nx ls (.ref a :: st)) :
    ORun l y bytes maxL ret R Z n0 as' Q (EW Z) ReturnedEndW h cells slots pc ls st := by
  obtain ⟨hd, rfl⟩ := hd
  intro p e s m below meth c T locs hx hZ hby hml hown hnm hret hlk X eT N hE
  have X0 : Stand p l e R (s.setVm s.vm) m as' below meth c T locs cells slots := by rw [State.setVm_self]; exact X
  obtain ⟨a, T', h', k1, b, k, X', rfl, ex, hS, hk1, hZ', hown', f1, f2, f3, f4, -, -, -, st'⟩ := ldcSV X0 hx hZ hown w wS eT ((State.WarmedH.refl s).since 0) (Nat.zero_le _) (by rw [hE.2, ← hn0]; exact N) (fun b cl q => by rw [hE.2]; exact q) (Ts := []) ⟨#[], by rw [hE.1]; simp, fun q hq => by simp at hq⟩ (by simp) hh hcw ht hz hl (g := mkF m pc ls.toArray st) rfl (hb hby hd) hn hbig hc hsl
  obtain ⟨U, o, h1, h2, h3, v, L, rfl, ⟨⟨hq, hg⟩, N'⟩, F⟩ := K a b k _ ex f1 f2 f3 f4 p e (s.setVm T'.vm) m below meth c T' locs hx hZ' hby hml hown' hnm hret hlk X' rfl N trivial
  exact ⟨U, _, st' _ h1, h2, h3, v, L, rfl, ⟨hq, N'⟩, endW hS (Nat.le_trans hk1 hg) F⟩
variable {b' : ByteArray} {mL' : Nat} {ret' : Option FieldType} {R' : Room} {Q' : Option Value → Heap → Prop} {y' : MethodName} {idx : Nat}
/-- a static call of a method that may intern, from a start that has not; behind it the walk goes on over the re-based start -/
theorem r_staticW (argsL rest : List Value) (hst : st = argsL.reverse ++ rest) {ps : List FieldType} (hpd : parseMethodDescriptor y'.desc = some ⟨ps, ret'⟩) (hlen : argsL.length = ps.length)
    (w1 : (Cond.methodLink y.cls idx y').before a0 Z = true) (w2 : (Cond.static y').before a0 Z = true) (w3 : (Cond.initialized y'.cls).before a0 Z = true) (w4 : (Cond.code y' b' mL' ret').before a0 Z = true) (hy : y'.cls ≠ "java/lang/invoke/MethodHandle" ∧ y'.cls ≠ "java/lang/invoke/VarHandle")
    (C : CtW l y' b' mL' ret' [] R' Z n0 argsL.toArray Q') (hd : D bytes pc (.invokestatic idx) 3 nx) (hsz : ls.length = maxL) (hf : R'.frames + 1 ≤ R.frames) (W : Nat) (hW : (rest.map fun v => v.category).sum = W) (hl : W + (mL' + 11) + R'.locals ≤ R.locals) (hc : cells + R'.cells ≤ R.cells) (hs : slots + R'.slots ≤ R.slots)
    (K : ∀ v h', Q' v h' → ORun l y bytes maxL ret R Z n0 as' (fun v hh => Q v hh ∧ h'.size ≤ hh.size) (fun _ => True) FrameEnd h' (cells + R'.cells) (slots + R'.slots) nx ls (v.toList ++ rest)) : ORun l y bytes maxL ret R Z n0 as' Q (EW Z) ReturnedEndW Z.heap cells slots pc ls st := by
  obtain ⟨hd, rfl⟩ := hd
  subst hst
  intro p e s m below meth c T locs hx hZ hby hml hown hnm hret hlk X eT N hE
  have hB : BackS l R p e below s as' y' 3 W (fun A a => a = argsL.toArray ∧ A.U.heap = Z.heap ∧ A.cells + R'.cells ≤ R.cells ∧ A.slots + R'.slots ≤ R.slots) (fun A _ v B => ∃ L, (Q' v B.U.heap ∧ Fr n0 L) ∧ B.locs = A.locs ++ L ∧ B.cells = A.cells + R'.cells ∧ B.slots = A.slots + R'.slots) := by
    refine BackS.of_freeW (bytes := b') (maxL := mL') (ret := ret') (E := fun _ _ o t L k n => k = R'.cells ∧ n = R'.slots ∧ ∃ v, o = .returned v ∧ (Q' v t.heap ∧ Fr n0 L)) C hf hl ?_ ?_ (fun _ _ _ _ _ _ _ _ _ => trivial) ?_ ?_
    · intro m meth c A a Y hp
      have hU : Z.Warmed39 A.U.vm := wtrans hZ Y.warmed
      exact ⟨by show (Cond.and _ .tt).before a A.U = true; rw [Cond.before_and, mv hU w4]; rfl, mv hU w4, mv hU w3, hp.2.2.1, hp.2.2.2⟩
    · intro m meth c A a g mk Y hp
      exact ⟨hp.1, wtrans hZ Y.warmed, hp.2.1, (Y.warmed.interned_eq).trans hE.1⟩
    · rintro _ _ _ _ ⟨v, L, h1, h2, h3⟩
      exact ⟨L, _, _, h3, rfl, rfl, v, h1, h2⟩
    · rintro m meth c A a g mk v t L k n Y hp - - ⟨e1, e2, v', e3, e4⟩
      cases e3
      subst e1 e2
      exact ⟨L, e4, rfl, rfl, rfl⟩
  obtain ⟨v, vm1, ⟨T', L', k', n'⟩, -, X', hS, -, ⟨L, ⟨hq, N'⟩, q1, q2, q3⟩, st'⟩ := callSS X hx (y := y') hown (mvT hZ w1) (mvT hZ w2) (mvT hZ w3) (mvT hZ w4) hy hB (g := mkF m pc ls.toArray (argsL.reverse ++ rest)) rfl (by rw [hml]; simpa using hsz) (argsL := argsL) (rest := rest) (lenOf hpd hlen) rfl (by show 2 * 0 + _ ≤ _; omega) (hb hby hd) (fun _ _ => ⟨rfl, eT, hc, hs⟩)
  dsimp only [Pt.U, Pt.locs, Pt.cells, Pt.slots] at X' q1 q2 q3 st' hq hS
  subst q1 q2 q3
  have hZ' : Z.Warmed39 (s.setVm T'.vm).vm := State.Warmed39.trans hZ hS.1
  have hown' : (s.setVm T'.vm).vm.findClass y.cls = some m.cls := by
    show T'.vm.findClass y.cls = some m.cls
    rw [hS.1.alike.findClass]; exact hown
  obtain ⟨U, o, h1, h2, h3, v2, L2, rfl, ⟨⟨hq2, hg⟩, N2⟩, F⟩ := K v _ hq p e (s.setVm T'.vm) m below meth c T' _ hx hZ' hby hml hown' hnm hret hlk X' rfl (Fr.app N N') trivial
  exact ⟨U, _, st'.trans h1, h2, h3, v2, L2, rfl, ⟨hq2, N2⟩, endW hS hg F⟩
end LogicW
end Jvm.OwnKit
namespace Jvm.Pilot.@@N@@
open Jvm Jvm.ClassFile Sem Op Lib Jvm.Free Jvm.Stand Jvm.LawKit Jvm.RoadKit Jvm.OwnKit Bundle Jvm.Pilot.@@N@@.Jvm.D
def own_S (Z : State) (h : Heap) (a b : Addr) (cs : Int32) : Prop := Exa Z h a "java/lang/String" ∧ Fld Z h a "java/lang/String" "coder" "B" (.int 0) ∧ Fld Z h a "java/lang/String" "value" "[B" (.ref b) ∧ Ary Z h b .byte [(45 : Int32), (46 : Int32), (95 : Int32), (126 : Int32)] ∧ Sta Z h "java/lang/String" "COMPACT_STRINGS" "Z" (.int cs) ∧ ¬ cs = 0
def own_ix (x : Int32) : Int32 := if 45 = x then 0 else if 46 = x then 1 else if 95 = x then 2 else if 126 = x then 3 else -1
def own_can (c : Int32) : Int32 := if ¬ c < 0 ∧ ¬ 255 < c then 1 else 0
def own_sx (c : Int32) : Int32 := if ¬ c < 0 ∧ ¬ 255 < c then own_ix c.toInt8.toInt32 else -1
def own_P (c : Int32) : Prop := (¬ c < 65 ∧ ¬ 90 < c) ∨ (¬ c < 97 ∧ ¬ 122 < c) ∨ (¬ c < 48 ∧ ¬ 57 < c) ∨ c = 45 ∨ c = 46 ∨ c = 95 ∨ c = 126
instance (c : Int32) : Decidable (own_P c) := inferInstanceAs (Decidable ((¬ c < 65 ∧ ¬ 90 < c) ∨ (¬ c < 97 ∧ ¬ 122 < c) ∨ (¬ c < 48 ∧ ¬ 57 < c) ∨ c = 45 ∨ c = 46 ∨ c = 95 ∨ c = 126))
def own_u (c : Int32) : Int32 := if own_P c then 1 else 0
def own_e (c : Int32) : Int32 := if ¬ (c < 0 ∨ 127 < c) ∧ own_P c then 1 else 0
theorem d4_0 : D jdk_42_method_154_code 0 (.getstatic 38) 3 3 := ⟨by decide +kernel, rfl⟩
theorem d4_3 : DB jdk_42_method_154_code 3 (.ifCond .eq) 14 6 17 := ⟨by decide +kernel, rfl, by decide, by decide⟩
theorem d4_6 : D jdk_42_method_154_code 6 (.aload_n 0) 1 7 := ⟨by decide +kernel, rfl⟩
theorem d4_7 : D jdk_42_method_154_code 7 (.getfield 15) 3 10 := ⟨by decide +kernel, rfl⟩
theorem d4_10 : DB jdk_42_method_154_code 10 (.ifCond .ne) 7 13 17 := ⟨by decide +kernel, rfl, by decide, by decide⟩
theorem d4_13 : D jdk_42_method_154_code 13 (.iconst 1) 1 14 := ⟨by decide +kernel, rfl⟩
theorem d4_14 : DB jdk_42_method_154_code 14 (.goto) 4 17 18 := ⟨by decide +kernel, rfl, by decide, by decide⟩
theorem d4_18 : D jdk_42_method_154_code 18 (.ireturn) 1 19 := ⟨by decide +kernel, rfl⟩
theorem pn4 : plainFor (⟨"java/lang/String", "isLatin1", "()Z"⟩ : MethodName) = true := by first | exact plainFor_of_name (by first | (simp [plainName, overriddenIn]; done) | decide +kernel) | exact Jvm.Free.JP.mathPlain rfl (by decide +kernel) | decide +kernel
set_option maxRecDepth 65536 in
set_option maxHeartbeats 40000000 in
theorem ct4 {l : Launch} {Z : State} {a0 : Array Value} (hw : ∀ d ∈ tables_1, d.before a0 Z = true) {n0 : Nat} {h0 : Heap} (a1 b1 : Addr) (cs : Int32) (X : own_S Z h0 a1 b1 cs) : Ct l ⟨"java/lang/String", "isLatin1", "()Z"⟩ jdk_42_method_154_code 1 (some .boolean) [] ({ frames := 0, cells := 0, slots := 0, locals := 0 } : Room) Z n0 #[(.ref a1)] h0 (fun v h => v = some (.int 1) ∧ h = h0) := by
  refine Ct.of (ls := [.val (.ref a1)]) pn4 (fun m => by first | (simp [entryFrame, mkF, argsToLocals, Value.category]; done) | rfl) ?_
  refine r_getS (hw _ (List.mem_of_getElem? (i := 28) rfl)) (v := (.int cs)) X.2.2.2.2.1 d4_0 ?_
  refine r_if_eq d4_3 (fun hc3 => ?_) (fun hc3 => ?_)
  · exfalso; exact X.2.2.2.2.2 hc3
  · refine r_aloadN d4_6 rfl rfl ?_
    refine r_getF (host := "") (Or.inl (hw _ (List.mem_of_getElem? (i := 29) rfl))) (v := (.int (0 : Int32))) (X.2.1) d4_7 ?_
    refine r_if_ne d4_10 (fun hc10 => ?_) (fun hc10 => ?_)
    · exfalso; exact hc10 rfl
    · refine r_iconst (1 : Int32) rfl d4_13 ?_
      refine r_goto d4_14 ?_
      exact r_nret (t := .boolean) (by simp) d4_18 (by decide) (by decide) (⟨rfl, rfl⟩)
theorem d6_0 : D jdk_42_method_152_code 0 (.getstatic 38) 3 3 := ⟨by decide +kernel, rfl⟩
theorem d6_3 : DB jdk_42_method_152_code 3 (.ifCond .eq) 10 6 13 := ⟨by decide +kernel, rfl, by decide, by decide⟩
theorem d6_6 : D jdk_42_method_152_code 6 (.aload_n 0) 1 7 := ⟨by decide +kernel, rfl⟩
theorem d6_7 : D jdk_42_method_152_code 7 (.getfield 15) 3 10 := ⟨by decide +kernel, rfl⟩
theorem d6_10 : DB jdk_42_method_152_code 10 (.goto) 4 13 14 := ⟨by decide +kernel, rfl, by decide, by decide⟩
theorem d6_14 : D jdk_42_method_152_code 14 (.ireturn) 1 15 := ⟨by decide +kernel, rfl⟩
theorem pn6 : plainFor (⟨"java/lang/String", "coder", "()B"⟩ : MethodName) = true := by first | exact plainFor_of_name (by first | (simp [plainName, overriddenIn]; done) | decide +kernel) | exact Jvm.Free.JP.mathPlain rfl (by decide +kernel) | decide +kernel
set_option maxRecDepth 65536 in
set_option maxHeartbeats 40000000 in
theorem ct6 {l : Launch} {Z : State} {a0 : Array Value} (hw : ∀ d ∈ tables_1, d.before a0 Z = true) {n0 : Nat} {h0 : Heap} (a1 b1 : Addr) (cs : Int32) (X : own_S Z h0 a1 b1 cs) : Ct l ⟨"java/lang/String", "coder", "()B"⟩ jdk_42_method_152_code 1 (some .byte) [] ({ frames := 0, cells := 0, slots := 0, locals := 0 } : Room) Z n0 #[(.ref a1)] h0 (fun v h => v = some (.int 0) ∧ h = h0) := by
  refine Ct.of (ls := [.val (.ref a1)]) pn6 (fun m => by first | (simp [entryFrame, mkF, argsToLocals, Value.category]; done) | rfl) ?_
  refine r_getS (hw _ (List.mem_of_getElem? (i := 28) rfl)) (v := (.int cs)) X.2.2.2.2.1 d6_0 ?_
  refine r_if_eq d6_3 (fun hc3 => ?_) (fun hc3 => ?_)
  · exfalso; exact X.2.2.2.2.2 hc3
  · refine r_aloadN d6_6 rfl rfl ?_
    refine r_getF (host := "") (Or.inl (hw _ (List.mem_of_getElem? (i := 29) rfl))) (v := (.int (0 : Int32))) (X.2.1) d6_7 ?_
    refine r_goto d6_10 ?_
    exact r_nret (t := .byte) (by simp) d6_14 (by decide) (by decide) (⟨rfl, rfl⟩)
theorem d5_0 : D jdk_42_method_54_code 0 (.aload_n 0) 1 1 := ⟨by decide +kernel, rfl⟩
theorem d5_1 : D jdk_42_method_54_code 1 (.getfield 9) 3 4 := ⟨by decide +kernel, rfl⟩
theorem d5_4 : D jdk_42_method_54_code 4 (.arraylength) 1 5 := ⟨by decide +kernel, rfl⟩
theorem d5_5 : D jdk_42_method_54_code 5 (.aload_n 0) 1 6 := ⟨by decide +kernel, rfl⟩
theorem d5_6 : D jdk_42_method_54_code 6 (.invokevirtual 335) 3 9 := ⟨by decide +kernel, rfl⟩
theorem d5_9 : D jdk_42_method_54_code 9 (.ishr) 1 10 := ⟨by decide +kernel, rfl⟩
theorem d5_10 : D jdk_42_method_54_code 10 (.ireturn) 1 11 := ⟨by decide +kernel, rfl⟩
theorem pd5_0 : parseMethodDescriptor "()B" = some ⟨[], some .byte⟩ := by decide +kernel
theorem pn5 : plainFor (⟨"java/lang/String", "length", "()I"⟩ : MethodName) = true := by first | exact plainFor_of_name (by first | (simp [plainName, overriddenIn]; done) | decide +kernel) | exact Jvm.Free.JP.mathPlain rfl (by decide +kernel) | decide +kernel
set_option maxRecDepth 65536 in
set_option maxHeartbeats 40000000 in
theorem ct5 {l : Launch} {Z : State} {a0 : Array Value} (hw : ∀ d ∈ tables_1, d.before a0 Z = true) {n0 : Nat} {h0 : Heap} (a1 b1 : Addr) (cs : Int32) (X : own_S Z h0 a1 b1 cs) : Ct l ⟨"java/lang/String", "length", "()I"⟩ jdk_42_method_54_code 1 (some .int) [] ({ frames := 1, cells := 0, slots := 0, locals := 14 } : Room) Z n0 #[(.ref a1)] h0 (fun v h => v = some (.int 4) ∧ h = h0) := by
  refine Ct.of (ls := [.val (.ref a1)]) pn5 (fun m => by first | (simp [entryFrame, mkF, argsToLocals, Value.category]; done) | rfl) ?_
  refine r_aloadN d5_0 rfl rfl ?_
  refine r_getF (host := "") (Or.inl (hw _ (List.mem_of_getElem? (i := 30) rfl))) (v := (.ref b1)) (X.2.2.1) d5_1 ?_
  refine r_lenA (4 : Int32) X.2.2.2.1 rfl d5_4 ?_
  refine r_aloadN d5_5 rfl rfl ?_
  refine r_virtualP [] [(.int (4 : Int32))] a1 X.1 rfl pd5_0 rfl (hw _ (List.mem_of_getElem? (i := 36) rfl)) (hw _ (List.mem_of_getElem? (i := 37) rfl)) (hw _ (List.mem_of_getElem? (i := 39) rfl)) (hw _ (List.mem_of_getElem? (i := 38) rfl)) (hw _ (List.mem_of_getElem? (i := 6) rfl)) (hw _ (List.mem_of_getElem? (i := 40) rfl)) rfl (by decide) (w := (.int (0 : Int32))) (R' := ({ frames := 0, cells := 0, slots := 0, locals := 0 } : Room)) (ct6 hw a1 b1 cs X) d5_6 rfl (by decide) 1 rfl (by decide) rfl rfl (by decide) (by decide) ?_
  refine r_ishr d5_9 ?_
  exact r_iret d5_10 (by decide) (by decide) (⟨by rw [show (4 : Int32) >>> ((0 : Int32) &&& 31) = 4 by decide], rfl⟩)
theorem d8_0 : D jdk_43_method_4_code 0 (.iload_n 0) 1 1 := ⟨by decide +kernel, rfl⟩
theorem d8_1 : DB jdk_43_method_4_code 1 (.ifCond .lt) 14 4 15 := ⟨by decide +kernel, rfl, by decide, by decide⟩
theorem d8_4 : D jdk_43_method_4_code 4 (.iload_n 0) 1 5 := ⟨by decide +kernel, rfl⟩
theorem d8_5 : D jdk_43_method_4_code 5 (.sipush 255) 3 8 := ⟨by decide +kernel, rfl⟩
theorem d8_8 : DB jdk_43_method_4_code 8 (.if_icmp .gt) 7 11 15 := ⟨by decide +kernel, rfl, by decide, by decide⟩
theorem d8_11 : D jdk_43_method_4_code 11 (.iconst 1) 1 12 := ⟨by decide +kernel, rfl⟩
theorem d8_12 : DB jdk_43_method_4_code 12 (.goto) 4 15 16 := ⟨by decide +kernel, rfl, by decide, by decide⟩
theorem d8_15 : D jdk_43_method_4_code 15 (.iconst 0) 1 16 := ⟨by decide +kernel, rfl⟩
theorem d8_16 : D jdk_43_method_4_code 16 (.ireturn) 1 17 := ⟨by decide +kernel, rfl⟩
theorem pn8 : plainFor (⟨"java/lang/StringLatin1", "canEncode", "(I)Z"⟩ : MethodName) = true := by first | exact plainFor_of_name (by first | (simp [plainName, overriddenIn]; done) | decide +kernel) | exact Jvm.Free.JP.mathPlain rfl (by decide +kernel) | decide +kernel
set_option maxRecDepth 65536 in
set_option maxHeartbeats 40000000 in
theorem ct8 {l : Launch} {Z : State} {a0 : Array Value} (hw : ∀ d ∈ tables_1, d.before a0 Z = true) {n0 : Nat} {h0 : Heap} (c : Int32) : Ct l ⟨"java/lang/StringLatin1", "canEncode", "(I)Z"⟩ jdk_43_method_4_code 1 (some .boolean) [] ({ frames := 0, cells := 0, slots := 0, locals := 0 } : Room) Z n0 #[(.int c)] h0 (fun v h => v = some (.int (own_can c)) ∧ h = h0) := by
  refine Ct.of (ls := [.val (.int c)]) pn8 (fun m => by first | (simp [entryFrame, mkF, argsToLocals, Value.category]; done) | rfl) ?_
  refine r_iloadN d8_0 rfl ?_
  refine r_if_lt d8_1 (fun hc1 => ?_) (fun hc1 => ?_)
  · refine r_iconst (0 : Int32) rfl d8_15 ?_
    refine r_nret (t := .boolean) (by simp) d8_16 (by decide) (by decide) ?_
    refine ⟨?_, rfl⟩
    simp [own_can, nar, hc1]
  · refine r_iloadN d8_4 rfl ?_
    refine r_sipush (255 : Int32) rfl d8_5 ?_
    refine r_icmp_gt d8_8 (fun hc8 => ?_) (fun hc8 => ?_)
    · refine r_iconst (0 : Int32) rfl d8_15 ?_
      refine r_nret (t := .boolean) (by simp) d8_16 (by decide) (by decide) ?_
      refine ⟨?_, rfl⟩
      simp [own_can, nar, hc1, hc8]
    · refine r_iconst (1 : Int32) rfl d8_11 ?_
      refine r_goto d8_12 ?_
      refine r_nret (t := .boolean) (by simp) d8_16 (by decide) (by decide) ?_
      refine ⟨?_, rfl⟩
      simp [own_can, nar, hc1, hc8]
def own_max (a b : Int32) : Int32 := if a < b then b else a
theorem d9_0 : D jdk_29_method_65_code 0 (.iload_n 0) 1 1 := ⟨by decide +kernel, rfl⟩
theorem d9_1 : D jdk_29_method_65_code 1 (.iload_n 1) 1 2 := ⟨by decide +kernel, rfl⟩
theorem d9_2 : DB jdk_29_method_65_code 2 (.if_icmp .lt) 7 5 9 := ⟨by decide +kernel, rfl, by decide, by decide⟩
theorem d9_5 : D jdk_29_method_65_code 5 (.iload_n 0) 1 6 := ⟨by decide +kernel, rfl⟩
theorem d9_6 : DB jdk_29_method_65_code 6 (.goto) 4 9 10 := ⟨by decide +kernel, rfl, by decide, by decide⟩
theorem d9_9 : D jdk_29_method_65_code 9 (.iload_n 1) 1 10 := ⟨by decide +kernel, rfl⟩
theorem d9_10 : D jdk_29_method_65_code 10 (.ireturn) 1 11 := ⟨by decide +kernel, rfl⟩
theorem pn9 : plainFor (⟨"java/lang/Math", "max", "(II)I"⟩ : MethodName) = true := by first | exact plainFor_of_name (by first | (simp [plainName, overriddenIn]; done) | decide +kernel) | exact Jvm.Free.JP.mathPlain rfl (by decide +kernel) | decide +kernel
set_option maxRecDepth 65536 in
set_option maxHeartbeats 40000000 in
theorem ct9 {l : Launch} {Z : State} {a0 : Array Value} (hw : ∀ d ∈ tables_1, d.before a0 Z = true) {n0 : Nat} {h0 : Heap} (p1 p2 : Int32) : Ct l ⟨"java/lang/Math", "max", "(II)I"⟩ jdk_29_method_65_code 2 (some .int) [] ({ frames := 0, cells := 0, slots := 0, locals := 0 } : Room) Z n0 #[(.int p1), (.int p2)] h0 (fun v h => v = some (.int (own_max p1 p2)) ∧ h = h0) := by
  refine Ct.of (ls := [.val (.int p1), .val (.int p2)]) pn9 (fun m => by first | (simp [entryFrame, mkF, argsToLocals, Value.category]; done) | rfl) ?_
  refine r_iloadN d9_0 rfl ?_
  refine r_iloadN d9_1 rfl ?_
  refine r_icmp_lt d9_2 (fun hc2 => ?_) (fun hc2 => ?_)
  · refine r_iloadN d9_9 rfl ?_
    refine r_iret d9_10 (by decide) (by decide) ?_
    refine ⟨?_, rfl⟩
    simp [own_max, hc2]
  · refine r_iloadN d9_5 rfl ?_
    refine r_goto d9_6 ?_
    refine r_iret d9_10 (by decide) (by decide) ?_
    refine ⟨?_, rfl⟩
    simp [own_max, hc2]
def own_min (a b : Int32) : Int32 := if b < a then b else a
theorem d10_0 : D jdk_29_method_69_code 0 (.iload_n 0) 1 1 := ⟨by decide +kernel, rfl⟩
theorem d10_1 : D jdk_29_method_69_code 1 (.iload_n 1) 1 2 := ⟨by decide +kernel, rfl⟩
theorem d10_2 : DB jdk_29_method_69_code 2 (.if_icmp .gt) 7 5 9 := ⟨by decide +kernel, rfl, by decide, by decide⟩
theorem d10_5 : D jdk_29_method_69_code 5 (.iload_n 0) 1 6 := ⟨by decide +kernel, rfl⟩
theorem d10_6 : DB jdk_29_method_69_code 6 (.goto) 4 9 10 := ⟨by decide +kernel, rfl, by decide, by decide⟩
theorem d10_9 : D jdk_29_method_69_code 9 (.iload_n 1) 1 10 := ⟨by decide +kernel, rfl⟩
theorem d10_10 : D jdk_29_method_69_code 10 (.ireturn) 1 11 := ⟨by decide +kernel, rfl⟩
theorem pn10 : plainFor (⟨"java/lang/Math", "min", "(II)I"⟩ : MethodName) = true := by first | exact plainFor_of_name (by first | (simp [plainName, overriddenIn]; done) | decide +kernel) | exact Jvm.Free.JP.mathPlain rfl (by decide +kernel) | decide +kernel
set_option maxRecDepth 65536 in
set_option maxHeartbeats 40000000 in
theorem ct10 {l : Launch} {Z : State} {a0 : Array Value} (hw : ∀ d ∈ tables_1, d.before a0 Z = true) {n0 : Nat} {h0 : Heap} (p1 p2 : Int32) : Ct l ⟨"java/lang/Math", "min", "(II)I"⟩ jdk_29_method_69_code 2 (some .int) [] ({ frames := 0, cells := 0, slots := 0, locals := 0 } : Room) Z n0 #[(.int p1), (.int p2)] h0 (fun v h => v = some (.int (own_min p1 p2)) ∧ h = h0) := by
  refine Ct.of (ls := [.val (.int p1), .val (.int p2)]) pn10 (fun m => by first | (simp [entryFrame, mkF, argsToLocals, Value.category]; done) | rfl) ?_
  refine r_iloadN d10_0 rfl ?_
  refine r_iloadN d10_1 rfl ?_
  refine r_icmp_gt d10_2 (fun hc2 => ?_) (fun hc2 => ?_)
  · refine r_iloadN d10_9 rfl ?_
    refine r_iret d10_10 (by decide) (by decide) ?_
    refine ⟨?_, rfl⟩
    simp [own_min, hc2]
  · refine r_iloadN d10_5 rfl ?_
    refine r_goto d10_6 ?_
    refine r_iret d10_10 (by decide) (by decide) ?_
    refine ⟨?_, rfl⟩
    simp [own_min, hc2]
theorem d11_0 : D jdk_43_method_23_code 0 (.iload_n 1) 1 1 := ⟨by decide +kernel, rfl⟩
theorem d11_1 : D jdk_43_method_23_code 1 (.i2b) 1 2 := ⟨by decide +kernel, rfl⟩
theorem d11_2 : D jdk_43_method_23_code 2 (.istore 4) 2 4 := ⟨by decide +kernel, rfl⟩
theorem d11_4 : D jdk_43_method_23_code 4 (.iload_n 2) 1 5 := ⟨by decide +kernel, rfl⟩
theorem d11_5 : D jdk_43_method_23_code 5 (.istore 5) 2 7 := ⟨by decide +kernel, rfl⟩
theorem d11_7 : D jdk_43_method_23_code 7 (.iload 5) 2 9 := ⟨by decide +kernel, rfl⟩
theorem d11_9 : D jdk_43_method_23_code 9 (.iload_n 3) 1 10 := ⟨by decide +kernel, rfl⟩
theorem d11_10 : DB jdk_43_method_23_code 10 (.if_icmp .ge) 21 13 31 := ⟨by decide +kernel, rfl, by decide, by decide⟩
theorem d11_13 : D jdk_43_method_23_code 13 (.aload_n 0) 1 14 := ⟨by decide +kernel, rfl⟩
theorem d11_14 : D jdk_43_method_23_code 14 (.iload 5) 2 16 := ⟨by decide +kernel, rfl⟩
theorem d11_16 : D jdk_43_method_23_code 16 (.baload) 1 17 := ⟨by decide +kernel, rfl⟩
theorem d11_17 : D jdk_43_method_23_code 17 (.iload 4) 2 19 := ⟨by decide +kernel, rfl⟩
theorem d11_19 : DB jdk_43_method_23_code 19 (.if_icmp .ne) 6 22 25 := ⟨by decide +kernel, rfl, by decide, by decide⟩
theorem d11_22 : D jdk_43_method_23_code 22 (.iload 5) 2 24 := ⟨by decide +kernel, rfl⟩
theorem d11_24 : D jdk_43_method_23_code 24 (.ireturn) 1 25 := ⟨by decide +kernel, rfl⟩
theorem d11_25 : D jdk_43_method_23_code 25 (.iinc 5 1) 3 28 := ⟨by decide +kernel, rfl⟩
theorem d11_28 : DB jdk_43_method_23_code 28 (.goto) (-21) 31 7 := ⟨by decide +kernel, rfl, by decide, by decide⟩
theorem d11_31 : D jdk_43_method_23_code 31 (.iconst (-1)) 1 32 := ⟨by decide +kernel, rfl⟩
theorem d11_32 : D jdk_43_method_23_code 32 (.ireturn) 1 33 := ⟨by decide +kernel, rfl⟩
theorem pn11 : plainFor (⟨"java/lang/StringLatin1", "indexOfChar", "([BIII)I"⟩ : MethodName) = true := by first | exact plainFor_of_name (by first | (simp [plainName, overriddenIn]; done) | decide +kernel) | exact Jvm.Free.JP.mathPlain rfl (by decide +kernel) | decide +kernel
set_option maxRecDepth 65536 in
set_option maxHeartbeats 40000000 in
theorem ct11 {l : Launch} {Z : State} {a0 : Array Value} (hw : ∀ d ∈ tables_1, d.before a0 Z = true) {n0 : Nat} {h0 : Heap} (b1 : Addr) (c : Int32) (A : Ary Z h0 b1 .byte [(45 : Int32), (46 : Int32), (95 : Int32), (126 : Int32)]) : Ct l ⟨"java/lang/StringLatin1", "indexOfChar", "([BIII)I"⟩ jdk_43_method_23_code 6 (some .int) [] ({ frames := 0, cells := 0, slots := 0, locals := 0 } : Room) Z n0 #[(.ref b1), (.int c), (.int (0 : Int32)), (.int (4 : Int32))] h0 (fun v h => v = some (.int (own_ix c.toInt8.toInt32)) ∧ h = h0) := by
  refine Ct.of (ls := [.val (.ref b1), .val (.int c), .val (.int (0 : Int32)), .val (.int (4 : Int32)), .unset, .unset]) pn11 (fun m => by first | (simp [entryFrame, mkF, argsToLocals, Value.category]; done) | rfl) ?_
  refine r_iloadN d11_0 rfl ?_
  refine r_i2b d11_1 ?_
  refine r_istore d11_2 [.val (.ref b1), .val (.int c), .val (.int (0 : Int32)), .val (.int (4 : Int32)), .val (.int (c.toInt8.toInt32)), .unset] rfl ?_
  generalize e_x8 : (c.toInt8.toInt32) = x8
  refine r_iloadN d11_4 rfl ?_
  refine r_istore d11_5 [.val (.ref b1), .val (.int c), .val (.int (0 : Int32)), .val (.int (4 : Int32)), .val (.int x8), .val (.int (0 : Int32))] rfl ?_
  refine r_iload d11_7 rfl ?_
  refine r_iloadN d11_9 rfl ?_
  refine r_icmp_ge d11_10 (fun hc10 => ?_) (fun hc10 => ?_)
  · exfalso; exact hc10 (by decide)
  · refine r_aloadN d11_13 rfl rfl ?_
    refine r_iload d11_14 rfl ?_
    refine r_ldB (45 : Int32) A (by decide) (by decide) d11_16 ?_
    refine r_iload d11_17 rfl ?_
    refine r_icmp_ne d11_19 (fun hc19_0 => ?_) (fun hc19_0 => ?_)
    · refine r_iinc (w := ((0 : Int32) + (1 : Int32))) d11_25 rfl rfl [.val (.ref b1), .val (.int c), .val (.int (0 : Int32)), .val (.int (4 : Int32)), .val (.int x8), .val (.int ((0 : Int32) + (1 : Int32)))] rfl ?_
      refine r_goto d11_28 ?_
      refine r_iload d11_7 rfl ?_
      refine r_iloadN d11_9 rfl ?_
      refine r_icmp_ge d11_10 (fun hc10 => ?_) (fun hc10 => ?_)
      · exfalso; exact hc10 (by decide)
      · refine r_aloadN d11_13 rfl rfl ?_
        refine r_iload d11_14 rfl ?_
        refine r_ldB (46 : Int32) A (by decide) (by decide) d11_16 ?_
        refine r_iload d11_17 rfl ?_
        refine r_icmp_ne d11_19 (fun hc19_1 => ?_) (fun hc19_1 => ?_)
        · refine r_iinc (w := (((0 : Int32) + (1 : Int32)) + (1 : Int32))) d11_25 rfl rfl [.val (.ref b1), .val (.int c), .val (.int (0 : Int32)), .val (.int (4 : Int32)), .val (.int x8), .val (.int (((0 : Int32) + (1 : Int32)) + (1 : Int32)))] rfl ?_
          refine r_goto d11_28 ?_
          refine r_iload d11_7 rfl ?_
          refine r_iloadN d11_9 rfl ?_
          refine r_icmp_ge d11_10 (fun hc10 => ?_) (fun hc10 => ?_)
          · exfalso; exact hc10 (by decide)
          · refine r_aloadN d11_13 rfl rfl ?_
            refine r_iload d11_14 rfl ?_
            refine r_ldB (95 : Int32) A (by decide) (by decide) d11_16 ?_
            refine r_iload d11_17 rfl ?_
            refine r_icmp_ne d11_19 (fun hc19_2 => ?_) (fun hc19_2 => ?_)
            · refine r_iinc (w := ((((0 : Int32) + (1 : Int32)) + (1 : Int32)) + (1 : Int32))) d11_25 rfl rfl [.val (.ref b1), .val (.int c), .val (.int (0 : Int32)), .val (.int (4 : Int32)), .val (.int x8), .val (.int ((((0 : Int32) + (1 : Int32)) + (1 : Int32)) + (1 : Int32)))] rfl ?_
              refine r_goto d11_28 ?_
              refine r_iload d11_7 rfl ?_
              refine r_iloadN d11_9 rfl ?_
              refine r_icmp_ge d11_10 (fun hc10 => ?_) (fun hc10 => ?_)
              · exfalso; exact hc10 (by decide)
              · refine r_aloadN d11_13 rfl rfl ?_
                refine r_iload d11_14 rfl ?_
                refine r_ldB (126 : Int32) A (by decide) (by decide) d11_16 ?_
                refine r_iload d11_17 rfl ?_
                refine r_icmp_ne d11_19 (fun hc19_3 => ?_) (fun hc19_3 => ?_)
                · refine r_iinc (w := (((((0 : Int32) + (1 : Int32)) + (1 : Int32)) + (1 : Int32)) + (1 : Int32))) d11_25 rfl rfl [.val (.ref b1), .val (.int c), .val (.int (0 : Int32)), .val (.int (4 : Int32)), .val (.int x8), .val (.int (((((0 : Int32) + (1 : Int32)) + (1 : Int32)) + (1 : Int32)) + (1 : Int32)))] rfl ?_
                  refine r_goto d11_28 ?_
                  refine r_iload d11_7 rfl ?_
                  refine r_iloadN d11_9 rfl ?_
                  refine r_icmp_ge d11_10 (fun hc10 => ?_) (fun hc10 => ?_)
                  · refine r_iconst (-1 : Int32) rfl d11_31 ?_
                    refine r_iret d11_32 (by decide) (by decide) ?_
                    refine ⟨?_, rfl⟩
                    rw [own_ix, if_neg hc19_0, if_neg hc19_1, if_neg hc19_2, if_neg hc19_3]
                  · exfalso; exact absurd hc10 (by decide)
                · refine r_iload d11_22 rfl ?_
                  refine r_iret d11_24 (by decide) (by decide) ?_
                  refine ⟨?_, rfl⟩
                  rw [own_ix, if_neg hc19_0, if_neg hc19_1, if_neg hc19_2, if_pos hc19_3]; rfl
            · refine r_iload d11_22 rfl ?_
              refine r_iret d11_24 (by decide) (by decide) ?_
              refine ⟨?_, rfl⟩
              rw [own_ix, if_neg hc19_0, if_neg hc19_1, if_pos hc19_2]; rfl
        · refine r_iload d11_22 rfl ?_
          refine r_iret d11_24 (by decide) (by decide) ?_
          refine ⟨?_, rfl⟩
          rw [own_ix, if_neg hc19_0, if_pos hc19_1]; rfl
    · refine r_iload d11_22 rfl ?_
      refine r_iret d11_24 (by decide) (by decide) ?_
      refine ⟨?_, rfl⟩
      rw [own_ix, if_pos hc19_0]
theorem d7_0 : D jdk_43_method_22_code 0 (.iload_n 1) 1 1 := ⟨by decide +kernel, rfl⟩
theorem d7_1 : D jdk_43_method_22_code 1 (.invokestatic 88) 3 4 := ⟨by decide +kernel, rfl⟩
theorem d7_4 : DB jdk_43_method_22_code 4 (.ifCond .ne) 5 7 9 := ⟨by decide +kernel, rfl, by decide, by decide⟩
theorem d7_7 : D jdk_43_method_22_code 7 (.iconst (-1)) 1 8 := ⟨by decide +kernel, rfl⟩
theorem d7_8 : D jdk_43_method_22_code 8 (.ireturn) 1 9 := ⟨by decide +kernel, rfl⟩
theorem d7_9 : D jdk_43_method_22_code 9 (.iload_n 2) 1 10 := ⟨by decide +kernel, rfl⟩
theorem d7_10 : D jdk_43_method_22_code 10 (.iconst 0) 1 11 := ⟨by decide +kernel, rfl⟩
theorem d7_11 : D jdk_43_method_22_code 11 (.invokestatic 92) 3 14 := ⟨by decide +kernel, rfl⟩
theorem d7_14 : D jdk_43_method_22_code 14 (.istore_n 2) 1 15 := ⟨by decide +kernel, rfl⟩
theorem d7_15 : D jdk_43_method_22_code 15 (.iload_n 3) 1 16 := ⟨by decide +kernel, rfl⟩
theorem d7_16 : D jdk_43_method_22_code 16 (.aload_n 0) 1 17 := ⟨by decide +kernel, rfl⟩
theorem d7_17 : D jdk_43_method_22_code 17 (.arraylength) 1 18 := ⟨by decide +kernel, rfl⟩
theorem d7_18 : D jdk_43_method_22_code 18 (.invokestatic 38) 3 21 := ⟨by decide +kernel, rfl⟩
theorem d7_21 : D jdk_43_method_22_code 21 (.istore_n 3) 1 22 := ⟨by decide +kernel, rfl⟩
theorem d7_22 : D jdk_43_method_22_code 22 (.iload_n 2) 1 23 := ⟨by decide +kernel, rfl⟩
theorem d7_23 : D jdk_43_method_22_code 23 (.iload_n 3) 1 24 := ⟨by decide +kernel, rfl⟩
theorem d7_24 : DB jdk_43_method_22_code 24 (.if_icmp .lt) 5 27 29 := ⟨by decide +kernel, rfl, by decide, by decide⟩
theorem d7_29 : D jdk_43_method_22_code 29 (.aload_n 0) 1 30 := ⟨by decide +kernel, rfl⟩
theorem d7_30 : D jdk_43_method_22_code 30 (.iload_n 1) 1 31 := ⟨by decide +kernel, rfl⟩
theorem d7_31 : D jdk_43_method_22_code 31 (.iload_n 2) 1 32 := ⟨by decide +kernel, rfl⟩
theorem d7_32 : D jdk_43_method_22_code 32 (.iload_n 3) 1 33 := ⟨by decide +kernel, rfl⟩
theorem d7_33 : D jdk_43_method_22_code 33 (.invokestatic 95) 3 36 := ⟨by decide +kernel, rfl⟩
theorem d7_36 : D jdk_43_method_22_code 36 (.ireturn) 1 37 := ⟨by decide +kernel, rfl⟩
theorem pd7_0 : parseMethodDescriptor "(I)Z" = some ⟨[.int], some .boolean⟩ := by decide +kernel
theorem pd7_1 : parseMethodDescriptor "(II)I" = some ⟨[.int, .int], some .int⟩ := by decide +kernel
theorem pd7_2 : parseMethodDescriptor "([BIII)I" = some ⟨[(.array .byte), .int, .int, .int], some .int⟩ := by decide +kernel
theorem pn7 : plainFor (⟨"java/lang/StringLatin1", "indexOf", "([BIII)I"⟩ : MethodName) = true := by first | exact plainFor_of_name (by first | (simp [plainName, overriddenIn]; done) | decide +kernel) | exact Jvm.Free.JP.mathPlain rfl (by decide +kernel) | decide +kernel
set_option maxRecDepth 65536 in
set_option maxHeartbeats 40000000 in
theorem ct7 {l : Launch} {Z : State} {a0 : Array Value} (hw : ∀ d ∈ tables_1, d.before a0 Z = true) {n0 : Nat} {h0 : Heap} (b1 : Addr) (c : Int32) (A : Ary Z h0 b1 .byte [(45 : Int32), (46 : Int32), (95 : Int32), (126 : Int32)]) : Ct l ⟨"java/lang/StringLatin1", "indexOf", "([BIII)I"⟩ jdk_43_method_22_code 4 (some .int) [] ({ frames := 1, cells := 0, slots := 0, locals := 20 } : Room) Z n0 #[(.ref b1), (.int c), (.int (0 : Int32)), (.int (4 : Int32))] h0 (fun v h => v = some (.int (own_sx c)) ∧ h = h0) := by
  refine Ct.of (ls := [.val (.ref b1), .val (.int c), .val (.int (0 : Int32)), .val (.int (4 : Int32))]) pn7 (fun m => by first | (simp [entryFrame, mkF, argsToLocals, Value.category]; done) | rfl) ?_
  refine r_iloadN d7_0 rfl ?_
  refine r_staticP [(.int c)] [] rfl pd7_0 rfl (hw _ (List.mem_of_getElem? (i := 45) rfl)) (hw _ (List.mem_of_getElem? (i := 46) rfl)) (hw _ (List.mem_of_getElem? (i := 43) rfl)) (hw _ (List.mem_of_getElem? (i := 47) rfl)) (by decide) (w := (.int (own_can c))) (R' := ({ frames := 0, cells := 0, slots := 0, locals := 0 } : Room)) (ct8 hw c) d7_1 rfl (by decide) 0 rfl (by decide) rfl rfl (by decide) (by decide) ?_
  refine r_if_ne d7_4 (fun hc4 => ?_) (fun hc4 => ?_)
  · refine r_iloadN d7_9 rfl ?_
    refine r_iconst (0 : Int32) rfl d7_10 ?_
    refine r_staticP [(.int (0 : Int32)), (.int (0 : Int32))] [] rfl pd7_1 rfl (hw _ (List.mem_of_getElem? (i := 48) rfl)) (hw _ (List.mem_of_getElem? (i := 49) rfl)) (hw _ (List.mem_of_getElem? (i := 50) rfl)) (hw _ (List.mem_of_getElem? (i := 51) rfl)) (by decide) (w := (.int (0 : Int32))) (R' := ({ frames := 0, cells := 0, slots := 0, locals := 0 } : Room)) (by have q := ct9 (l := l) (n0 := n0) (h0 := h0) hw (0 : Int32) (0 : Int32); rw [show own_max 0 0 = 0 by decide] at q; exact q) d7_11 rfl (by decide) 0 rfl (by decide) rfl rfl (by decide) (by decide) ?_
    refine r_istoreN d7_14 [.val (.ref b1), .val (.int c), .val (.int (0 : Int32)), .val (.int (4 : Int32))] rfl ?_
    refine r_iloadN d7_15 rfl ?_
    refine r_aloadN d7_16 rfl rfl ?_
    refine r_lenA (4 : Int32) A rfl d7_17 ?_
    refine r_staticP [(.int (4 : Int32)), (.int (4 : Int32))] [] rfl pd7_1 rfl (hw _ (List.mem_of_getElem? (i := 52) rfl)) (hw _ (List.mem_of_getElem? (i := 53) rfl)) (hw _ (List.mem_of_getElem? (i := 50) rfl)) (hw _ (List.mem_of_getElem? (i := 54) rfl)) (by decide) (w := (.int (4 : Int32))) (R' := ({ frames := 0, cells := 0, slots := 0, locals := 0 } : Room)) (by have q := ct10 (l := l) (n0 := n0) (h0 := h0) hw (4 : Int32) (4 : Int32); rw [show own_min 4 4 = 4 by decide] at q; exact q) d7_18 rfl (by decide) 0 rfl (by decide) rfl rfl (by decide) (by decide) ?_
    refine r_istoreN d7_21 [.val (.ref b1), .val (.int c), .val (.int (0 : Int32)), .val (.int (4 : Int32))] rfl ?_
    refine r_iloadN d7_22 rfl ?_
    refine r_iloadN d7_23 rfl ?_
    refine r_icmp_lt d7_24 (fun hc24 => ?_) (fun hc24 => ?_)
    · refine r_aloadN d7_29 rfl rfl ?_
      refine r_iloadN d7_30 rfl ?_
      refine r_iloadN d7_31 rfl ?_
      refine r_iloadN d7_32 rfl ?_
      refine r_staticP [(.ref b1), (.int c), (.int (0 : Int32)), (.int (4 : Int32))] [] rfl pd7_2 rfl (hw _ (List.mem_of_getElem? (i := 55) rfl)) (hw _ (List.mem_of_getElem? (i := 56) rfl)) (hw _ (List.mem_of_getElem? (i := 43) rfl)) (hw _ (List.mem_of_getElem? (i := 57) rfl)) (by decide) (w := (.int (own_ix c.toInt8.toInt32))) (R' := ({ frames := 0, cells := 0, slots := 0, locals := 0 } : Room)) (ct11 hw b1 c A) d7_33 rfl (by decide) 0 rfl (by decide) rfl rfl (by decide) (by decide) ?_
      refine r_iret d7_36 (by decide) (by decide) ?_
      have hq : (¬ c < 0 ∧ ¬ 255 < c) := Decidable.byContradiction fun q => hc4 (if_neg q)
      exact ⟨by rw [own_sx, if_pos hq], rfl⟩
    · exfalso; exact hc24 (by decide)
  · refine r_iconst (-1 : Int32) rfl d7_7 ?_
    refine r_iret d7_8 (by decide) (by decide) ?_
    have hq : ¬ (¬ c < 0 ∧ ¬ 255 < c) := fun q => absurd ((if_pos q).symm.trans hc4) (by decide)
    exact ⟨by rw [own_sx, if_neg hq], rfl⟩
theorem d3_0 : D jdk_42_method_80_code 0 (.aload_n 0) 1 1 := ⟨by decide +kernel, rfl⟩
theorem d3_1 : D jdk_42_method_80_code 1 (.invokevirtual 492) 3 4 := ⟨by decide +kernel, rfl⟩
theorem d3_4 : DB jdk_42_method_80_code 4 (.ifCond .eq) 19 7 23 := ⟨by decide +kernel, rfl, by decide, by decide⟩
theorem d3_7 : D jdk_42_method_80_code 7 (.aload_n 0) 1 8 := ⟨by decide +kernel, rfl⟩
theorem d3_8 : D jdk_42_method_80_code 8 (.getfield 9) 3 11 := ⟨by decide +kernel, rfl⟩
theorem d3_11 : D jdk_42_method_80_code 11 (.iload_n 1) 1 12 := ⟨by decide +kernel, rfl⟩
theorem d3_12 : D jdk_42_method_80_code 12 (.iload_n 2) 1 13 := ⟨by decide +kernel, rfl⟩
theorem d3_13 : D jdk_42_method_80_code 13 (.aload_n 0) 1 14 := ⟨by decide +kernel, rfl⟩
theorem d3_14 : D jdk_42_method_80_code 14 (.invokevirtual 505) 3 17 := ⟨by decide +kernel, rfl⟩
theorem d3_17 : D jdk_42_method_80_code 17 (.invokestatic 637) 3 20 := ⟨by decide +kernel, rfl⟩
theorem d3_20 : DB jdk_42_method_80_code 20 (.goto) 16 23 36 := ⟨by decide +kernel, rfl, by decide, by decide⟩
theorem d3_36 : D jdk_42_method_80_code 36 (.ireturn) 1 37 := ⟨by decide +kernel, rfl⟩
theorem pd3_0 : parseMethodDescriptor "()Z" = some ⟨[], some .boolean⟩ := by decide +kernel
theorem pd3_1 : parseMethodDescriptor "()I" = some ⟨[], some .int⟩ := by decide +kernel
theorem pd3_2 : parseMethodDescriptor "([BIII)I" = some ⟨[(.array .byte), .int, .int, .int], some .int⟩ := by decide +kernel
theorem pn3 : plainFor (⟨"java/lang/String", "indexOf", "(II)I"⟩ : MethodName) = true := by first | exact plainFor_of_name (by first | (simp [plainName, overriddenIn]; done) | decide +kernel) | exact Jvm.Free.JP.mathPlain rfl (by decide +kernel) | decide +kernel
set_option maxRecDepth 65536 in
set_option maxHeartbeats 40000000 in
theorem ct3 {l : Launch} {Z : State} {a0 : Array Value} (hw : ∀ d ∈ tables_1, d.before a0 Z = true) {n0 : Nat} {h0 : Heap} (a1 b1 : Addr) (cs c : Int32) (X : own_S Z h0 a1 b1 cs) : Ct l ⟨"java/lang/String", "indexOf", "(II)I"⟩ jdk_42_method_80_code 3 (some .int) [] ({ frames := 2, cells := 0, slots := 0, locals := 40 } : Room) Z n0 #[(.ref a1), (.int c), (.int (0 : Int32))] h0 (fun v h => v = some (.int (own_sx c)) ∧ h = h0) := by
  refine Ct.of (ls := [.val (.ref a1), .val (.int c), .val (.int (0 : Int32))]) pn3 (fun m => by first | (simp [entryFrame, mkF, argsToLocals, Value.category]; done) | rfl) ?_
  refine r_aloadN d3_0 rfl rfl ?_
  refine r_virtualP [] [] a1 X.1 rfl pd3_0 rfl (hw _ (List.mem_of_getElem? (i := 23) rfl)) (hw _ (List.mem_of_getElem? (i := 24) rfl)) (hw _ (List.mem_of_getElem? (i := 26) rfl)) (hw _ (List.mem_of_getElem? (i := 25) rfl)) (hw _ (List.mem_of_getElem? (i := 6) rfl)) (hw _ (List.mem_of_getElem? (i := 27) rfl)) rfl (by decide) (w := (.int (1 : Int32))) (R' := ({ frames := 0, cells := 0, slots := 0, locals := 0 } : Room)) (ct4 hw a1 b1 cs X) d3_1 rfl (by decide) 0 rfl (by decide) rfl rfl (by decide) (by decide) ?_
  refine r_if_eq d3_4 (fun hc4 => ?_) (fun hc4 => ?_)
  · exfalso; exact absurd hc4 (by decide)
  · refine r_aloadN d3_7 rfl rfl ?_
    refine r_getF (host := "") (Or.inl (hw _ (List.mem_of_getElem? (i := 30) rfl))) (v := (.ref b1)) (X.2.2.1) d3_8 ?_
    refine r_iloadN d3_11 rfl ?_
    refine r_iloadN d3_12 rfl ?_
    refine r_aloadN d3_13 rfl rfl ?_
    refine r_virtualP [] [(.int (0 : Int32)), (.int c), (.ref b1)] a1 X.1 rfl pd3_1 rfl (hw _ (List.mem_of_getElem? (i := 31) rfl)) (hw _ (List.mem_of_getElem? (i := 32) rfl)) (hw _ (List.mem_of_getElem? (i := 34) rfl)) (hw _ (List.mem_of_getElem? (i := 33) rfl)) (hw _ (List.mem_of_getElem? (i := 6) rfl)) (hw _ (List.mem_of_getElem? (i := 35) rfl)) rfl (by decide) (w := (.int (4 : Int32))) (R' := ({ frames := 1, cells := 0, slots := 0, locals := 14 } : Room)) (ct5 hw a1 b1 cs X) d3_14 rfl (by decide) 3 rfl (by decide) rfl rfl (by decide) (by decide) ?_
    refine r_staticP [(.ref b1), (.int c), (.int (0 : Int32)), (.int (4 : Int32))] [] rfl pd3_2 rfl (hw _ (List.mem_of_getElem? (i := 41) rfl)) (hw _ (List.mem_of_getElem? (i := 42) rfl)) (hw _ (List.mem_of_getElem? (i := 43) rfl)) (hw _ (List.mem_of_getElem? (i := 44) rfl)) (by decide) (w := (.int (own_sx c))) (R' := ({ frames := 1, cells := 0, slots := 0, locals := 20 } : Room)) (ct7 hw b1 c X.2.2.2.1) d3_17 rfl (by decide) 0 rfl (by decide) rfl rfl (by decide) (by decide) ?_
    refine r_goto d3_20 ?_
    exact r_iret d3_36 (by decide) (by decide) (⟨rfl, rfl⟩)
theorem d2_0 : D jdk_42_method_79_code 0 (.aload_n 0) 1 1 := ⟨by decide +kernel, rfl⟩
theorem d2_1 : D jdk_42_method_79_code 1 (.iload_n 1) 1 2 := ⟨by decide +kernel, rfl⟩
theorem d2_2 : D jdk_42_method_79_code 2 (.iconst 0) 1 3 := ⟨by decide +kernel, rfl⟩
theorem d2_3 : D jdk_42_method_79_code 3 (.invokevirtual 633) 3 6 := ⟨by decide +kernel, rfl⟩
theorem d2_6 : D jdk_42_method_79_code 6 (.ireturn) 1 7 := ⟨by decide +kernel, rfl⟩
theorem pd2_0 : parseMethodDescriptor "(II)I" = some ⟨[.int, .int], some .int⟩ := by decide +kernel
theorem pn2 : plainFor (⟨"java/lang/String", "indexOf", "(I)I"⟩ : MethodName) = true := by first | exact plainFor_of_name (by first | (simp [plainName, overriddenIn]; done) | decide +kernel) | exact Jvm.Free.JP.mathPlain rfl (by decide +kernel) | decide +kernel
set_option maxRecDepth 65536 in
set_option maxHeartbeats 40000000 in
theorem ct2 {l : Launch} {Z : State} {a0 : Array Value} (hw : ∀ d ∈ tables_1, d.before a0 Z = true) {n0 : Nat} {h0 : Heap} (a1 b1 : Addr) (cs c : Int32) (X : own_S Z h0 a1 b1 cs) : Ct l ⟨"java/lang/String", "indexOf", "(I)I"⟩ jdk_42_method_79_code 2 (some .int) [] ({ frames := 3, cells := 0, slots := 0, locals := 56 } : Room) Z n0 #[(.ref a1), (.int c)] h0 (fun v h => v = some (.int (own_sx c)) ∧ h = h0) := by
  refine Ct.of (ls := [.val (.ref a1), .val (.int c)]) pn2 (fun m => by first | (simp [entryFrame, mkF, argsToLocals, Value.category]; done) | rfl) ?_
  refine r_aloadN d2_0 rfl rfl ?_
  refine r_iloadN d2_1 rfl ?_
  refine r_iconst (0 : Int32) rfl d2_2 ?_
  refine r_virtualP [(.int c), (.int (0 : Int32))] [] a1 X.1 rfl pd2_0 rfl (hw _ (List.mem_of_getElem? (i := 18) rfl)) (hw _ (List.mem_of_getElem? (i := 19) rfl)) (hw _ (List.mem_of_getElem? (i := 21) rfl)) (hw _ (List.mem_of_getElem? (i := 20) rfl)) (hw _ (List.mem_of_getElem? (i := 6) rfl)) (hw _ (List.mem_of_getElem? (i := 22) rfl)) rfl (by decide) (w := (.int (own_sx c))) (R' := ({ frames := 2, cells := 0, slots := 0, locals := 40 } : Room)) (ct3 hw a1 b1 cs c X) d2_3 rfl (by decide) 0 rfl (by decide) rfl rfl (by decide) (by decide) ?_
  exact r_iret d2_6 (by decide) (by decide) (⟨rfl, rfl⟩)
theorem d12_0 : D method_3_code 0 (.iload_n 0) 1 1 := ⟨by decide +kernel, rfl⟩
theorem d12_1 : DB method_3_code 1 (.ifCond .lt) 9 4 10 := ⟨by decide +kernel, rfl, by decide, by decide⟩
theorem d12_4 : D method_3_code 4 (.iload_n 0) 1 5 := ⟨by decide +kernel, rfl⟩
theorem d12_5 : D method_3_code 5 (.bipush 127) 2 7 := ⟨by decide +kernel, rfl⟩
theorem d12_7 : DB method_3_code 7 (.if_icmp .le) 5 10 12 := ⟨by decide +kernel, rfl, by decide, by decide⟩
theorem d12_10 : D method_3_code 10 (.iconst 0) 1 11 := ⟨by decide +kernel, rfl⟩
theorem d12_11 : D method_3_code 11 (.ireturn) 1 12 := ⟨by decide +kernel, rfl⟩
theorem d12_12 : D method_3_code 12 (.iload_n 0) 1 13 := ⟨by decide +kernel, rfl⟩
theorem d12_13 : D method_3_code 13 (.bipush 65) 2 15 := ⟨by decide +kernel, rfl⟩
theorem d12_15 : DB method_3_code 15 (.if_icmp .lt) 11 18 26 := ⟨by decide +kernel, rfl, by decide, by decide⟩
theorem d12_18 : D method_3_code 18 (.iload_n 0) 1 19 := ⟨by decide +kernel, rfl⟩
theorem d12_19 : D method_3_code 19 (.bipush 90) 2 21 := ⟨by decide +kernel, rfl⟩
theorem d12_21 : DB method_3_code 21 (.if_icmp .gt) 5 24 26 := ⟨by decide +kernel, rfl, by decide, by decide⟩
theorem d12_24 : D method_3_code 24 (.iconst 1) 1 25 := ⟨by decide +kernel, rfl⟩
theorem d12_25 : D method_3_code 25 (.ireturn) 1 26 := ⟨by decide +kernel, rfl⟩
theorem d12_26 : D method_3_code 26 (.iload_n 0) 1 27 := ⟨by decide +kernel, rfl⟩
theorem d12_27 : D method_3_code 27 (.bipush 97) 2 29 := ⟨by decide +kernel, rfl⟩
theorem d12_29 : DB method_3_code 29 (.if_icmp .lt) 11 32 40 := ⟨by decide +kernel, rfl, by decide, by decide⟩
theorem d12_32 : D method_3_code 32 (.iload_n 0) 1 33 := ⟨by decide +kernel, rfl⟩
theorem d12_33 : D method_3_code 33 (.bipush 122) 2 35 := ⟨by decide +kernel, rfl⟩
theorem d12_35 : DB method_3_code 35 (.if_icmp .gt) 5 38 40 := ⟨by decide +kernel, rfl, by decide, by decide⟩
theorem d12_38 : D method_3_code 38 (.iconst 1) 1 39 := ⟨by decide +kernel, rfl⟩
theorem d12_39 : D method_3_code 39 (.ireturn) 1 40 := ⟨by decide +kernel, rfl⟩
theorem d12_40 : D method_3_code 40 (.iload_n 0) 1 41 := ⟨by decide +kernel, rfl⟩
theorem d12_41 : D method_3_code 41 (.bipush 48) 2 43 := ⟨by decide +kernel, rfl⟩
theorem d12_43 : DB method_3_code 43 (.if_icmp .lt) 11 46 54 := ⟨by decide +kernel, rfl, by decide, by decide⟩
theorem d12_46 : D method_3_code 46 (.iload_n 0) 1 47 := ⟨by decide +kernel, rfl⟩
theorem d12_47 : D method_3_code 47 (.bipush 57) 2 49 := ⟨by decide +kernel, rfl⟩
theorem d12_49 : DB method_3_code 49 (.if_icmp .gt) 5 52 54 := ⟨by decide +kernel, rfl, by decide, by decide⟩
theorem d12_52 : D method_3_code 52 (.iconst 1) 1 53 := ⟨by decide +kernel, rfl⟩
theorem d12_53 : D method_3_code 53 (.ireturn) 1 54 := ⟨by decide +kernel, rfl⟩
theorem d12_54 : D method_3_code 54 (.iload_n 0) 1 55 := ⟨by decide +kernel, rfl⟩
theorem d12_55 : D method_3_code 55 (.bipush 45) 2 57 := ⟨by decide +kernel, rfl⟩
theorem d12_57 : DB method_3_code 57 (.if_icmp .ne) 5 60 62 := ⟨by decide +kernel, rfl, by decide, by decide⟩
theorem d12_60 : D method_3_code 60 (.iconst 1) 1 61 := ⟨by decide +kernel, rfl⟩
theorem d12_61 : D method_3_code 61 (.ireturn) 1 62 := ⟨by decide +kernel, rfl⟩
theorem d12_62 : D method_3_code 62 (.iload_n 0) 1 63 := ⟨by decide +kernel, rfl⟩
theorem d12_63 : D method_3_code 63 (.bipush 46) 2 65 := ⟨by decide +kernel, rfl⟩
theorem d12_65 : DB method_3_code 65 (.if_icmp .ne) 5 68 70 := ⟨by decide +kernel, rfl, by decide, by decide⟩
theorem d12_68 : D method_3_code 68 (.iconst 1) 1 69 := ⟨by decide +kernel, rfl⟩
theorem d12_69 : D method_3_code 69 (.ireturn) 1 70 := ⟨by decide +kernel, rfl⟩
theorem d12_70 : D method_3_code 70 (.iload_n 0) 1 71 := ⟨by decide +kernel, rfl⟩
theorem d12_71 : D method_3_code 71 (.bipush 95) 2 73 := ⟨by decide +kernel, rfl⟩
theorem d12_73 : DB method_3_code 73 (.if_icmp .ne) 5 76 78 := ⟨by decide +kernel, rfl, by decide, by decide⟩
theorem d12_76 : D method_3_code 76 (.iconst 1) 1 77 := ⟨by decide +kernel, rfl⟩
theorem d12_77 : D method_3_code 77 (.ireturn) 1 78 := ⟨by decide +kernel, rfl⟩
theorem d12_78 : D method_3_code 78 (.iload_n 0) 1 79 := ⟨by decide +kernel, rfl⟩
theorem d12_79 : D method_3_code 79 (.bipush 126) 2 81 := ⟨by decide +kernel, rfl⟩
theorem d12_81 : DB method_3_code 81 (.if_icmp .ne) 5 84 86 := ⟨by decide +kernel, rfl, by decide, by decide⟩
theorem d12_84 : D method_3_code 84 (.iconst 1) 1 85 := ⟨by decide +kernel, rfl⟩
theorem d12_85 : D method_3_code 85 (.ireturn) 1 86 := ⟨by decide +kernel, rfl⟩
theorem d12_86 : D method_3_code 86 (.iconst 0) 1 87 := ⟨by decide +kernel, rfl⟩
theorem d12_87 : D method_3_code 87 (.ireturn) 1 88 := ⟨by decide +kernel, rfl⟩
theorem pn12 : plainFor (⟨"com/example/moor/moor/http/UriSyntaxIsUnreservedPinLaw", "expected", "(I)Z"⟩ : MethodName) = true := by first | exact plainFor_of_name (by first | (simp [plainName, overriddenIn]; done) | decide +kernel) | exact Jvm.Free.JP.mathPlain rfl (by decide +kernel) | decide +kernel
set_option maxRecDepth 65536 in
set_option maxHeartbeats 40000000 in
theorem ct12 {l : Launch} {Z : State} {a0 : Array Value} (hw : ∀ d ∈ tables_1, d.before a0 Z = true) {n0 : Nat} {h0 : Heap} (c : Int32) : Ct l ⟨"com/example/moor/moor/http/UriSyntaxIsUnreservedPinLaw", "expected", "(I)Z"⟩ method_3_code 1 (some .boolean) [] ({ frames := 0, cells := 0, slots := 0, locals := 0 } : Room) Z n0 #[(.int c)] h0 (fun v h => v = some (.int (own_e c)) ∧ h = h0) := by
  refine Ct.of (ls := [.val (.int c)]) pn12 (fun m => by first | (simp [entryFrame, mkF, argsToLocals, Value.category]; done) | rfl) ?_
  refine r_iloadN d12_0 rfl ?_
  refine r_if_lt d12_1 (fun hc1 => ?_) (fun hc1 => ?_)
  · refine r_iconst (0 : Int32) rfl d12_10 ?_
    refine r_nret (t := .boolean) (by simp) d12_11 (by decide) (by decide) ?_
    refine ⟨?_, rfl⟩
    simp [own_e, own_P, nar, hc1]
  · refine r_iloadN d12_4 rfl ?_
    refine r_bipush (127 : Int32) rfl d12_5 ?_
    refine r_icmp_le d12_7 (fun hc7 => ?_) (fun hc7 => ?_)
    · refine r_iloadN d12_12 rfl ?_
      refine r_bipush (65 : Int32) rfl d12_13 ?_
      refine r_icmp_lt d12_15 (fun hc15 => ?_) (fun hc15 => ?_)
      · refine r_iloadN d12_26 rfl ?_
        refine r_bipush (97 : Int32) rfl d12_27 ?_
        refine r_icmp_lt d12_29 (fun hc29 => ?_) (fun hc29 => ?_)
        · refine r_iloadN d12_40 rfl ?_
          refine r_bipush (48 : Int32) rfl d12_41 ?_
          refine r_icmp_lt d12_43 (fun hc43 => ?_) (fun hc43 => ?_)
          · refine r_iloadN d12_54 rfl ?_
            refine r_bipush (45 : Int32) rfl d12_55 ?_
            refine r_icmp_ne d12_57 (fun hc57 => ?_) (fun hc57 => ?_)
            · refine r_iloadN d12_62 rfl ?_
              refine r_bipush (46 : Int32) rfl d12_63 ?_
              refine r_icmp_ne d12_65 (fun hc65 => ?_) (fun hc65 => ?_)
              · refine r_iloadN d12_70 rfl ?_
                refine r_bipush (95 : Int32) rfl d12_71 ?_
                refine r_icmp_ne d12_73 (fun hc73 => ?_) (fun hc73 => ?_)
                · refine r_iloadN d12_78 rfl ?_
                  refine r_bipush (126 : Int32) rfl d12_79 ?_
                  refine r_icmp_ne d12_81 (fun hc81 => ?_) (fun hc81 => ?_)
                  · refine r_iconst (0 : Int32) rfl d12_86 ?_
                    refine r_nret (t := .boolean) (by simp) d12_87 (by decide) (by decide) ?_
                    refine ⟨?_, rfl⟩
                    simp [own_e, own_P, nar, hc1, hc7, hc15, hc29, hc43, hc57, hc65, hc73, hc81]
                  · refine r_iconst (1 : Int32) rfl d12_84 ?_
                    refine r_nret (t := .boolean) (by simp) d12_85 (by decide) (by decide) ?_
                    refine ⟨?_, rfl⟩
                    simp [own_e, own_P, nar, hc1, hc7, hc15, hc29, hc43, hc57, hc65, hc73, hc81]
                · refine r_iconst (1 : Int32) rfl d12_76 ?_
                  refine r_nret (t := .boolean) (by simp) d12_77 (by decide) (by decide) ?_
                  refine ⟨?_, rfl⟩
                  simp [own_e, own_P, nar, hc1, hc7, hc15, hc29, hc43, hc57, hc65, hc73]
              · refine r_iconst (1 : Int32) rfl d12_68 ?_
                refine r_nret (t := .boolean) (by simp) d12_69 (by decide) (by decide) ?_
                refine ⟨?_, rfl⟩
                simp [own_e, own_P, nar, hc1, hc7, hc15, hc29, hc43, hc57, hc65]
            · refine r_iconst (1 : Int32) rfl d12_60 ?_
              refine r_nret (t := .boolean) (by simp) d12_61 (by decide) (by decide) ?_
              refine ⟨?_, rfl⟩
              simp [own_e, own_P, nar, hc1, hc7, hc15, hc29, hc43, hc57]
          · refine r_iloadN d12_46 rfl ?_
            refine r_bipush (57 : Int32) rfl d12_47 ?_
            refine r_icmp_gt d12_49 (fun hc49 => ?_) (fun hc49 => ?_)
            · refine r_iloadN d12_54 rfl ?_
              refine r_bipush (45 : Int32) rfl d12_55 ?_
              refine r_icmp_ne d12_57 (fun hc57 => ?_) (fun hc57 => ?_)
              · refine r_iloadN d12_62 rfl ?_
                refine r_bipush (46 : Int32) rfl d12_63 ?_
                refine r_icmp_ne d12_65 (fun hc65 => ?_) (fun hc65 => ?_)
                · refine r_iloadN d12_70 rfl ?_
                  refine r_bipush (95 : Int32) rfl d12_71 ?_
                  refine r_icmp_ne d12_73 (fun hc73 => ?_) (fun hc73 => ?_)
                  · refine r_iloadN d12_78 rfl ?_
                    refine r_bipush (126 : Int32) rfl d12_79 ?_
                    refine r_icmp_ne d12_81 (fun hc81 => ?_) (fun hc81 => ?_)
                    · refine r_iconst (0 : Int32) rfl d12_86 ?_
                      refine r_nret (t := .boolean) (by simp) d12_87 (by decide) (by decide) ?_
                      refine ⟨?_, rfl⟩
                      simp [own_e, own_P, nar, hc1, hc7, hc15, hc29, hc43, hc49, hc57, hc65, hc73, hc81]
                    · refine r_iconst (1 : Int32) rfl d12_84 ?_
                      refine r_nret (t := .boolean) (by simp) d12_85 (by decide) (by decide) ?_
                      refine ⟨?_, rfl⟩
                      simp [own_e, own_P, nar, hc1, hc7, hc15, hc29, hc43, hc49, hc57, hc65, hc73, hc81]
                  · refine r_iconst (1 : Int32) rfl d12_76 ?_
                    refine r_nret (t := .boolean) (by simp) d12_77 (by decide) (by decide) ?_
                    refine ⟨?_, rfl⟩
                    simp [own_e, own_P, nar, hc1, hc7, hc15, hc29, hc43, hc49, hc57, hc65, hc73]
                · refine r_iconst (1 : Int32) rfl d12_68 ?_
                  refine r_nret (t := .boolean) (by simp) d12_69 (by decide) (by decide) ?_
                  refine ⟨?_, rfl⟩
                  simp [own_e, own_P, nar, hc1, hc7, hc15, hc29, hc43, hc49, hc57, hc65]
              · refine r_iconst (1 : Int32) rfl d12_60 ?_
                refine r_nret (t := .boolean) (by simp) d12_61 (by decide) (by decide) ?_
                refine ⟨?_, rfl⟩
                simp [own_e, own_P, nar, hc1, hc7, hc15, hc29, hc43, hc49, hc57]
            · refine r_iconst (1 : Int32) rfl d12_52 ?_
              refine r_nret (t := .boolean) (by simp) d12_53 (by decide) (by decide) ?_
              refine ⟨?_, rfl⟩
              simp [own_e, own_P, nar, hc1, hc7, hc15, hc29, hc43, hc49]
        · refine r_iloadN d12_32 rfl ?_
          refine r_bipush (122 : Int32) rfl d12_33 ?_
          refine r_icmp_gt d12_35 (fun hc35 => ?_) (fun hc35 => ?_)
          · refine r_iloadN d12_40 rfl ?_
            refine r_bipush (48 : Int32) rfl d12_41 ?_
            refine r_icmp_lt d12_43 (fun hc43 => ?_) (fun hc43 => ?_)
            · refine r_iloadN d12_54 rfl ?_
              refine r_bipush (45 : Int32) rfl d12_55 ?_
              refine r_icmp_ne d12_57 (fun hc57 => ?_) (fun hc57 => ?_)
              · refine r_iloadN d12_62 rfl ?_
                refine r_bipush (46 : Int32) rfl d12_63 ?_
                refine r_icmp_ne d12_65 (fun hc65 => ?_) (fun hc65 => ?_)
                · refine r_iloadN d12_70 rfl ?_
                  refine r_bipush (95 : Int32) rfl d12_71 ?_
                  refine r_icmp_ne d12_73 (fun hc73 => ?_) (fun hc73 => ?_)
                  · refine r_iloadN d12_78 rfl ?_
                    refine r_bipush (126 : Int32) rfl d12_79 ?_
                    refine r_icmp_ne d12_81 (fun hc81 => ?_) (fun hc81 => ?_)
                    · refine r_iconst (0 : Int32) rfl d12_86 ?_
                      refine r_nret (t := .boolean) (by simp) d12_87 (by decide) (by decide) ?_
                      refine ⟨?_, rfl⟩
                      simp [own_e, own_P, nar, hc1, hc7, hc15, hc29, hc35, hc43, hc57, hc65, hc73, hc81]
                    · refine r_iconst (1 : Int32) rfl d12_84 ?_
                      refine r_nret (t := .boolean) (by simp) d12_85 (by decide) (by decide) ?_
                      refine ⟨?_, rfl⟩
                      simp [own_e, own_P, nar, hc1, hc7, hc15, hc29, hc35, hc43, hc57, hc65, hc73, hc81]
                  · refine r_iconst (1 : Int32) rfl d12_76 ?_
                    refine r_nret (t := .boolean) (by simp) d12_77 (by decide) (by decide) ?_
                    refine ⟨?_, rfl⟩
                    simp [own_e, own_P, nar, hc1, hc7, hc15, hc29, hc35, hc43, hc57, hc65, hc73]
                · refine r_iconst (1 : Int32) rfl d12_68 ?_
                  refine r_nret (t := .boolean) (by simp) d12_69 (by decide) (by decide) ?_
                  refine ⟨?_, rfl⟩
                  simp [own_e, own_P, nar, hc1, hc7, hc15, hc29, hc35, hc43, hc57, hc65]
              · refine r_iconst (1 : Int32) rfl d12_60 ?_
                refine r_nret (t := .boolean) (by simp) d12_61 (by decide) (by decide) ?_
                refine ⟨?_, rfl⟩
                simp [own_e, own_P, nar, hc1, hc7, hc15, hc29, hc35, hc43, hc57]
            · refine r_iloadN d12_46 rfl ?_
              refine r_bipush (57 : Int32) rfl d12_47 ?_
              refine r_icmp_gt d12_49 (fun hc49 => ?_) (fun hc49 => ?_)
              · refine r_iloadN d12_54 rfl ?_
                refine r_bipush (45 : Int32) rfl d12_55 ?_
                refine r_icmp_ne d12_57 (fun hc57 => ?_) (fun hc57 => ?_)
                · refine r_iloadN d12_62 rfl ?_
                  refine r_bipush (46 : Int32) rfl d12_63 ?_
                  refine r_icmp_ne d12_65 (fun hc65 => ?_) (fun hc65 => ?_)
                  · refine r_iloadN d12_70 rfl ?_
                    refine r_bipush (95 : Int32) rfl d12_71 ?_
                    refine r_icmp_ne d12_73 (fun hc73 => ?_) (fun hc73 => ?_)
                    · refine r_iloadN d12_78 rfl ?_
                      refine r_bipush (126 : Int32) rfl d12_79 ?_
                      refine r_icmp_ne d12_81 (fun hc81 => ?_) (fun hc81 => ?_)
                      · refine r_iconst (0 : Int32) rfl d12_86 ?_
                        refine r_nret (t := .boolean) (by simp) d12_87 (by decide) (by decide) ?_
                        refine ⟨?_, rfl⟩
                        simp [own_e, own_P, nar, hc1, hc7, hc15, hc29, hc35, hc43, hc49, hc57, hc65, hc73, hc81]
                      · refine r_iconst (1 : Int32) rfl d12_84 ?_
                        refine r_nret (t := .boolean) (by simp) d12_85 (by decide) (by decide) ?_
                        refine ⟨?_, rfl⟩
                        simp [own_e, own_P, nar, hc1, hc7, hc15, hc29, hc35, hc43, hc49, hc57, hc65, hc73, hc81]
                    · refine r_iconst (1 : Int32) rfl d12_76 ?_
                      refine r_nret (t := .boolean) (by simp) d12_77 (by decide) (by decide) ?_
                      refine ⟨?_, rfl⟩
                      simp [own_e, own_P, nar, hc1, hc7, hc15, hc29, hc35, hc43, hc49, hc57, hc65, hc73]
                  · refine r_iconst (1 : Int32) rfl d12_68 ?_
                    refine r_nret (t := .boolean) (by simp) d12_69 (by decide) (by decide) ?_
                    refine ⟨?_, rfl⟩
                    simp [own_e, own_P, nar, hc1, hc7, hc15, hc29, hc35, hc43, hc49, hc57, hc65]
                · refine r_iconst (1 : Int32) rfl d12_60 ?_
                  refine r_nret (t := .boolean) (by simp) d12_61 (by decide) (by decide) ?_
                  refine ⟨?_, rfl⟩
                  simp [own_e, own_P, nar, hc1, hc7, hc15, hc29, hc35, hc43, hc49, hc57]
              · refine r_iconst (1 : Int32) rfl d12_52 ?_
                refine r_nret (t := .boolean) (by simp) d12_53 (by decide) (by decide) ?_
                refine ⟨?_, rfl⟩
                simp [own_e, own_P, nar, hc1, hc7, hc15, hc29, hc35, hc43, hc49]
          · refine r_iconst (1 : Int32) rfl d12_38 ?_
            refine r_nret (t := .boolean) (by simp) d12_39 (by decide) (by decide) ?_
            refine ⟨?_, rfl⟩
            simp [own_e, own_P, nar, hc1, hc7, hc15, hc29, hc35]
      · refine r_iloadN d12_18 rfl ?_
        refine r_bipush (90 : Int32) rfl d12_19 ?_
        refine r_icmp_gt d12_21 (fun hc21 => ?_) (fun hc21 => ?_)
        · refine r_iloadN d12_26 rfl ?_
          refine r_bipush (97 : Int32) rfl d12_27 ?_
          refine r_icmp_lt d12_29 (fun hc29 => ?_) (fun hc29 => ?_)
          · refine r_iloadN d12_40 rfl ?_
            refine r_bipush (48 : Int32) rfl d12_41 ?_
            refine r_icmp_lt d12_43 (fun hc43 => ?_) (fun hc43 => ?_)
            · refine r_iloadN d12_54 rfl ?_
              refine r_bipush (45 : Int32) rfl d12_55 ?_
              refine r_icmp_ne d12_57 (fun hc57 => ?_) (fun hc57 => ?_)
              · refine r_iloadN d12_62 rfl ?_
                refine r_bipush (46 : Int32) rfl d12_63 ?_
                refine r_icmp_ne d12_65 (fun hc65 => ?_) (fun hc65 => ?_)
                · refine r_iloadN d12_70 rfl ?_
                  refine r_bipush (95 : Int32) rfl d12_71 ?_
                  refine r_icmp_ne d12_73 (fun hc73 => ?_) (fun hc73 => ?_)
                  · refine r_iloadN d12_78 rfl ?_
                    refine r_bipush (126 : Int32) rfl d12_79 ?_
                    refine r_icmp_ne d12_81 (fun hc81 => ?_) (fun hc81 => ?_)
                    · refine r_iconst (0 : Int32) rfl d12_86 ?_
                      refine r_nret (t := .boolean) (by simp) d12_87 (by decide) (by decide) ?_
                      refine ⟨?_, rfl⟩
                      simp [own_e, own_P, nar, hc1, hc7, hc15, hc21, hc29, hc43, hc57, hc65, hc73, hc81]
                    · refine r_iconst (1 : Int32) rfl d12_84 ?_
                      refine r_nret (t := .boolean) (by simp) d12_85 (by decide) (by decide) ?_
                      refine ⟨?_, rfl⟩
                      simp [own_e, own_P, nar, hc1, hc7, hc15, hc21, hc29, hc43, hc57, hc65, hc73, hc81]
                  · refine r_iconst (1 : Int32) rfl d12_76 ?_
                    refine r_nret (t := .boolean) (by simp) d12_77 (by decide) (by decide) ?_
                    refine ⟨?_, rfl⟩
                    simp [own_e, own_P, nar, hc1, hc7, hc15, hc21, hc29, hc43, hc57, hc65, hc73]
                · refine r_iconst (1 : Int32) rfl d12_68 ?_
                  refine r_nret (t := .boolean) (by simp) d12_69 (by decide) (by decide) ?_
                  refine ⟨?_, rfl⟩
                  simp [own_e, own_P, nar, hc1, hc7, hc15, hc21, hc29, hc43, hc57, hc65]
              · refine r_iconst (1 : Int32) rfl d12_60 ?_
                refine r_nret (t := .boolean) (by simp) d12_61 (by decide) (by decide) ?_
                refine ⟨?_, rfl⟩
                simp [own_e, own_P, nar, hc1, hc7, hc15, hc21, hc29, hc43, hc57]
            · refine r_iloadN d12_46 rfl ?_
              refine r_bipush (57 : Int32) rfl d12_47 ?_
              refine r_icmp_gt d12_49 (fun hc49 => ?_) (fun hc49 => ?_)
              · refine r_iloadN d12_54 rfl ?_
                refine r_bipush (45 : Int32) rfl d12_55 ?_
                refine r_icmp_ne d12_57 (fun hc57 => ?_) (fun hc57 => ?_)
                · refine r_iloadN d12_62 rfl ?_
                  refine r_bipush (46 : Int32) rfl d12_63 ?_
                  refine r_icmp_ne d12_65 (fun hc65 => ?_) (fun hc65 => ?_)
                  · refine r_iloadN d12_70 rfl ?_
                    refine r_bipush (95 : Int32) rfl d12_71 ?_
                    refine r_icmp_ne d12_73 (fun hc73 => ?_) (fun hc73 => ?_)
                    · refine r_iloadN d12_78 rfl ?_
                      refine r_bipush (126 : Int32) rfl d12_79 ?_
                      refine r_icmp_ne d12_81 (fun hc81 => ?_) (fun hc81 => ?_)
                      · refine r_iconst (0 : Int32) rfl d12_86 ?_
                        refine r_nret (t := .boolean) (by simp) d12_87 (by decide) (by decide) ?_
                        refine ⟨?_, rfl⟩
                        simp [own_e, own_P, nar, hc1, hc7, hc15, hc21, hc29, hc43, hc49, hc57, hc65, hc73, hc81]
                      · refine r_iconst (1 : Int32) rfl d12_84 ?_
                        refine r_nret (t := .boolean) (by simp) d12_85 (by decide) (by decide) ?_
                        refine ⟨?_, rfl⟩
                        simp [own_e, own_P, nar, hc1, hc7, hc15, hc21, hc29, hc43, hc49, hc57, hc65, hc73, hc81]
                    · refine r_iconst (1 : Int32) rfl d12_76 ?_
                      refine r_nret (t := .boolean) (by simp) d12_77 (by decide) (by decide) ?_
                      refine ⟨?_, rfl⟩
                      simp [own_e, own_P, nar, hc1, hc7, hc15, hc21, hc29, hc43, hc49, hc57, hc65, hc73]
                  · refine r_iconst (1 : Int32) rfl d12_68 ?_
                    refine r_nret (t := .boolean) (by simp) d12_69 (by decide) (by decide) ?_
                    refine ⟨?_, rfl⟩
                    simp [own_e, own_P, nar, hc1, hc7, hc15, hc21, hc29, hc43, hc49, hc57, hc65]
                · refine r_iconst (1 : Int32) rfl d12_60 ?_
                  refine r_nret (t := .boolean) (by simp) d12_61 (by decide) (by decide) ?_
                  refine ⟨?_, rfl⟩
                  simp [own_e, own_P, nar, hc1, hc7, hc15, hc21, hc29, hc43, hc49, hc57]
              · refine r_iconst (1 : Int32) rfl d12_52 ?_
                refine r_nret (t := .boolean) (by simp) d12_53 (by decide) (by decide) ?_
                refine ⟨?_, rfl⟩
                simp [own_e, own_P, nar, hc1, hc7, hc15, hc21, hc29, hc43, hc49]
          · refine r_iloadN d12_32 rfl ?_
            refine r_bipush (122 : Int32) rfl d12_33 ?_
            refine r_icmp_gt d12_35 (fun hc35 => ?_) (fun hc35 => ?_)
            · refine r_iloadN d12_40 rfl ?_
              refine r_bipush (48 : Int32) rfl d12_41 ?_
              refine r_icmp_lt d12_43 (fun hc43 => ?_) (fun hc43 => ?_)
              · refine r_iloadN d12_54 rfl ?_
                refine r_bipush (45 : Int32) rfl d12_55 ?_
                refine r_icmp_ne d12_57 (fun hc57 => ?_) (fun hc57 => ?_)
                · refine r_iloadN d12_62 rfl ?_
                  refine r_bipush (46 : Int32) rfl d12_63 ?_
                  refine r_icmp_ne d12_65 (fun hc65 => ?_) (fun hc65 => ?_)
                  · refine r_iloadN d12_70 rfl ?_
                    refine r_bipush (95 : Int32) rfl d12_71 ?_
                    refine r_icmp_ne d12_73 (fun hc73 => ?_) (fun hc73 => ?_)
                    · refine r_iloadN d12_78 rfl ?_
                      refine r_bipush (126 : Int32) rfl d12_79 ?_
                      refine r_icmp_ne d12_81 (fun hc81 => ?_) (fun hc81 => ?_)
                      · refine r_iconst (0 : Int32) rfl d12_86 ?_
                        refine r_nret (t := .boolean) (by simp) d12_87 (by decide) (by decide) ?_
                        refine ⟨?_, rfl⟩
                        simp [own_e, own_P, nar, hc1, hc7, hc15, hc21, hc29, hc35, hc43, hc57, hc65, hc73, hc81]
                      · refine r_iconst (1 : Int32) rfl d12_84 ?_
                        refine r_nret (t := .boolean) (by simp) d12_85 (by decide) (by decide) ?_
                        refine ⟨?_, rfl⟩
                        simp [own_e, own_P, nar, hc1, hc7, hc15, hc21, hc29, hc35, hc43, hc57, hc65, hc73, hc81]
                    · refine r_iconst (1 : Int32) rfl d12_76 ?_
                      refine r_nret (t := .boolean) (by simp) d12_77 (by decide) (by decide) ?_
                      refine ⟨?_, rfl⟩
                      simp [own_e, own_P, nar, hc1, hc7, hc15, hc21, hc29, hc35, hc43, hc57, hc65, hc73]
                  · refine r_iconst (1 : Int32) rfl d12_68 ?_
                    refine r_nret (t := .boolean) (by simp) d12_69 (by decide) (by decide) ?_
                    refine ⟨?_, rfl⟩
                    simp [own_e, own_P, nar, hc1, hc7, hc15, hc21, hc29, hc35, hc43, hc57, hc65]
                · refine r_iconst (1 : Int32) rfl d12_60 ?_
                  refine r_nret (t := .boolean) (by simp) d12_61 (by decide) (by decide) ?_
                  refine ⟨?_, rfl⟩
                  simp [own_e, own_P, nar, hc1, hc7, hc15, hc21, hc29, hc35, hc43, hc57]
              · refine r_iloadN d12_46 rfl ?_
                refine r_bipush (57 : Int32) rfl d12_47 ?_
                refine r_icmp_gt d12_49 (fun hc49 => ?_) (fun hc49 => ?_)
                · refine r_iloadN d12_54 rfl ?_
                  refine r_bipush (45 : Int32) rfl d12_55 ?_
                  refine r_icmp_ne d12_57 (fun hc57 => ?_) (fun hc57 => ?_)
                  · refine r_iloadN d12_62 rfl ?_
                    refine r_bipush (46 : Int32) rfl d12_63 ?_
                    refine r_icmp_ne d12_65 (fun hc65 => ?_) (fun hc65 => ?_)
                    · refine r_iloadN d12_70 rfl ?_
                      refine r_bipush (95 : Int32) rfl d12_71 ?_
                      refine r_icmp_ne d12_73 (fun hc73 => ?_) (fun hc73 => ?_)
                      · refine r_iloadN d12_78 rfl ?_
                        refine r_bipush (126 : Int32) rfl d12_79 ?_
                        refine r_icmp_ne d12_81 (fun hc81 => ?_) (fun hc81 => ?_)
                        · refine r_iconst (0 : Int32) rfl d12_86 ?_
                          refine r_nret (t := .boolean) (by simp) d12_87 (by decide) (by decide) ?_
                          refine ⟨?_, rfl⟩
                          simp [own_e, own_P, nar, hc1, hc7, hc15, hc21, hc29, hc35, hc43, hc49, hc57, hc65, hc73, hc81]
                        · refine r_iconst (1 : Int32) rfl d12_84 ?_
                          refine r_nret (t := .boolean) (by simp) d12_85 (by decide) (by decide) ?_
                          refine ⟨?_, rfl⟩
                          simp [own_e, own_P, nar, hc1, hc7, hc15, hc21, hc29, hc35, hc43, hc49, hc57, hc65, hc73, hc81]
                      · refine r_iconst (1 : Int32) rfl d12_76 ?_
                        refine r_nret (t := .boolean) (by simp) d12_77 (by decide) (by decide) ?_
                        refine ⟨?_, rfl⟩
                        simp [own_e, own_P, nar, hc1, hc7, hc15, hc21, hc29, hc35, hc43, hc49, hc57, hc65, hc73]
                    · refine r_iconst (1 : Int32) rfl d12_68 ?_
                      refine r_nret (t := .boolean) (by simp) d12_69 (by decide) (by decide) ?_
                      refine ⟨?_, rfl⟩
                      simp [own_e, own_P, nar, hc1, hc7, hc15, hc21, hc29, hc35, hc43, hc49, hc57, hc65]
                  · refine r_iconst (1 : Int32) rfl d12_60 ?_
                    refine r_nret (t := .boolean) (by simp) d12_61 (by decide) (by decide) ?_
                    refine ⟨?_, rfl⟩
                    simp [own_e, own_P, nar, hc1, hc7, hc15, hc21, hc29, hc35, hc43, hc49, hc57]
                · refine r_iconst (1 : Int32) rfl d12_52 ?_
                  refine r_nret (t := .boolean) (by simp) d12_53 (by decide) (by decide) ?_
                  refine ⟨?_, rfl⟩
                  simp [own_e, own_P, nar, hc1, hc7, hc15, hc21, hc29, hc35, hc43, hc49]
            · refine r_iconst (1 : Int32) rfl d12_38 ?_
              refine r_nret (t := .boolean) (by simp) d12_39 (by decide) (by decide) ?_
              refine ⟨?_, rfl⟩
              simp [own_e, own_P, nar, hc1, hc7, hc15, hc21, hc29, hc35]
        · refine r_iconst (1 : Int32) rfl d12_24 ?_
          refine r_nret (t := .boolean) (by simp) d12_25 (by decide) (by decide) ?_
          refine ⟨?_, rfl⟩
          simp [own_e, own_P, nar, hc1, hc7, hc15, hc21]
    · refine r_iconst (0 : Int32) rfl d12_10 ?_
      refine r_nret (t := .boolean) (by simp) d12_11 (by decide) (by decide) ?_
      refine ⟨?_, rfl⟩
      simp [own_e, own_P, nar, hc1, hc7]
theorem own_b8 (c : Int32) (h0 : ¬ c < 0) (h1 : ¬ 255 < c) (k : Int32) (hk : 0 ≤ k.toInt ∧ k.toInt < 128) : k = c.toInt8.toInt32 ↔ c = k := by
  have e := c_i2b c
  rw [Int32.lt_iff_toInt_lt] at h0 h1
  have z : (0 : Int32).toInt = 0 := by decide
  have y : (255 : Int32).toInt = 255 := by decide
  rw [← Int32.toInt_inj, ← Int32.toInt_inj]
  omega
theorem own_sxn (c : Int32) : own_sx c < 0 ↔ ¬ (c = 45 ∨ c = 46 ∨ c = 95 ∨ c = 126) := by
  unfold own_sx
  by_cases h : ¬ c < 0 ∧ ¬ 255 < c
  · rw [if_pos h]
    have a := own_b8 c h.1 h.2 45 (by decide)
    have b := own_b8 c h.1 h.2 46 (by decide)
    have d := own_b8 c h.1 h.2 95 (by decide)
    have f := own_b8 c h.1 h.2 126 (by decide)
    unfold own_ix
    simp only [a, b, d, f]
    by_cases a' : c = 45
    · rw [if_pos a']; exact ⟨fun q => absurd q (by decide), fun q => absurd (Or.inl a') q⟩
    · rw [if_neg a']
      by_cases b' : c = 46
      · rw [if_pos b']; exact ⟨fun q => absurd q (by decide), fun q => absurd (Or.inr (Or.inl b')) q⟩
      · rw [if_neg b']
        by_cases d' : c = 95
        · rw [if_pos d']; exact ⟨fun q => absurd q (by decide), fun q => absurd (Or.inr (Or.inr (Or.inl d'))) q⟩
        · rw [if_neg d']
          by_cases f' : c = 126
          · rw [if_pos f']; exact ⟨fun q => absurd q (by decide), fun q => absurd (Or.inr (Or.inr (Or.inr f'))) q⟩
          · rw [if_neg f']; exact ⟨fun _ q => q.elim a' fun q => q.elim b' fun q => q.elim d' f', fun _ => by decide⟩
  · rw [if_neg h]
    refine ⟨fun _ q => h ?_, fun _ => by decide⟩
    rcases q with rfl | rfl | rfl | rfl <;> decide
theorem own_ue (c : Int32) : own_u c = own_e c := by
  unfold own_u own_e
  by_cases h : own_P c
  · rw [if_pos h, if_pos]
    refine ⟨?_, h⟩
    unfold own_P at h
    simp only [Int32.lt_iff_toInt_lt, ← Int32.toInt_inj] at *
    have z : (0 : Int32).toInt = 0 ∧ (127 : Int32).toInt = 127 ∧ (65 : Int32).toInt = 65 ∧ (90 : Int32).toInt = 90 ∧ (97 : Int32).toInt = 97 ∧ (122 : Int32).toInt = 122 ∧ (48 : Int32).toInt = 48 ∧ (57 : Int32).toInt = 57 ∧ (45 : Int32).toInt = 45 ∧ (46 : Int32).toInt = 46 ∧ (95 : Int32).toInt = 95 ∧ (126 : Int32).toInt = 126 := by decide
    omega
  · rw [if_neg h, if_neg (fun q => h q.2)]
theorem own_ary {Z : State} {h : Heap} {b : Addr} {k : ClassId} (A : Arv Z h b k .byte 4 [.int 45, .int 46, .int 95, .int 126] (.int 0)) : Ary Z h b .byte [(45 : Int32), (46 : Int32), (95 : Int32), (126 : Int32)] := by
  obtain ⟨c, A, -, S, -, H, -⟩ := A
  refine ⟨c, A, ?_⟩
  have S' : c.slots.size = 4 := S
  apply Array.ext_getElem?
  intro i
  by_cases hi : i < 4
  · rw [H i (by omega)]
    have : i = 0 ∨ i = 1 ∨ i = 2 ∨ i = 3 := by omega
    rcases this with rfl | rfl | rfl | rfl <;> rfl
  · rw [Array.getElem?_eq_none (by omega), Array.getElem?_eq_none (by simp; omega)]
theorem d1_0 : D prog_67_method_2_code 0 (.iload_n 0) 1 1 := ⟨by decide +kernel, rfl⟩
theorem d1_1 : D prog_67_method_2_code 1 (.bipush 65) 2 3 := ⟨by decide +kernel, rfl⟩
theorem d1_3 : DB prog_67_method_2_code 3 (.if_icmp .lt) 9 6 12 := ⟨by decide +kernel, rfl, by decide, by decide⟩
theorem d1_6 : D prog_67_method_2_code 6 (.iload_n 0) 1 7 := ⟨by decide +kernel, rfl⟩
theorem d1_7 : D prog_67_method_2_code 7 (.bipush 90) 2 9 := ⟨by decide +kernel, rfl⟩
theorem d1_9 : DB prog_67_method_2_code 9 (.if_icmp .le) 36 12 45 := ⟨by decide +kernel, rfl, by decide, by decide⟩
theorem d1_12 : D prog_67_method_2_code 12 (.iload_n 0) 1 13 := ⟨by decide +kernel, rfl⟩
theorem d1_13 : D prog_67_method_2_code 13 (.bipush 97) 2 15 := ⟨by decide +kernel, rfl⟩
theorem d1_15 : DB prog_67_method_2_code 15 (.if_icmp .lt) 9 18 24 := ⟨by decide +kernel, rfl, by decide, by decide⟩
theorem d1_18 : D prog_67_method_2_code 18 (.iload_n 0) 1 19 := ⟨by decide +kernel, rfl⟩
theorem d1_19 : D prog_67_method_2_code 19 (.bipush 122) 2 21 := ⟨by decide +kernel, rfl⟩
theorem d1_21 : DB prog_67_method_2_code 21 (.if_icmp .le) 24 24 45 := ⟨by decide +kernel, rfl, by decide, by decide⟩
theorem d1_24 : D prog_67_method_2_code 24 (.iload_n 0) 1 25 := ⟨by decide +kernel, rfl⟩
theorem d1_25 : D prog_67_method_2_code 25 (.bipush 48) 2 27 := ⟨by decide +kernel, rfl⟩
theorem d1_27 : DB prog_67_method_2_code 27 (.if_icmp .lt) 9 30 36 := ⟨by decide +kernel, rfl, by decide, by decide⟩
theorem d1_30 : D prog_67_method_2_code 30 (.iload_n 0) 1 31 := ⟨by decide +kernel, rfl⟩
theorem d1_31 : D prog_67_method_2_code 31 (.bipush 57) 2 33 := ⟨by decide +kernel, rfl⟩
theorem d1_33 : DB prog_67_method_2_code 33 (.if_icmp .le) 12 36 45 := ⟨by decide +kernel, rfl, by decide, by decide⟩
theorem d1_36 : D prog_67_method_2_code 36 (.ldc 7) 2 38 := ⟨by decide +kernel, rfl⟩
theorem d1_38 : D prog_67_method_2_code 38 (.iload_n 0) 1 39 := ⟨by decide +kernel, rfl⟩
theorem d1_39 : D prog_67_method_2_code 39 (.invokevirtual 9) 3 42 := ⟨by decide +kernel, rfl⟩
theorem d1_42 : DB prog_67_method_2_code 42 (.ifCond .lt) 7 45 49 := ⟨by decide +kernel, rfl, by decide, by decide⟩
theorem d1_45 : D prog_67_method_2_code 45 (.iconst 1) 1 46 := ⟨by decide +kernel, rfl⟩
theorem d1_46 : DB prog_67_method_2_code 46 (.goto) 4 49 50 := ⟨by decide +kernel, rfl, by decide, by decide⟩
theorem d1_49 : D prog_67_method_2_code 49 (.iconst 0) 1 50 := ⟨by decide +kernel, rfl⟩
theorem d1_50 : D prog_67_method_2_code 50 (.ireturn) 1 51 := ⟨by decide +kernel, rfl⟩
theorem pd1_0 : parseMethodDescriptor "(I)I" = some ⟨[.int], some .int⟩ := by decide +kernel
theorem pn1 : plainFor (⟨"com/example/moor/moor/http/UriSyntax", "isUnreserved", "(I)Z"⟩ : MethodName) = true := by first | exact plainFor_of_name (by first | (simp [plainName, overriddenIn]; done) | decide +kernel) | exact Jvm.Free.JP.mathPlain rfl (by decide +kernel) | decide +kernel
set_option maxRecDepth 65536 in
set_option maxHeartbeats 40000000 in
theorem ct1 {l : Launch} {Z : State} {a0 : Array Value} (hw : ∀ d ∈ tables_1, d.before a0 Z = true) {n0 : Nat} (c cs : Int32) (hn0 : n0 = Z.heap.size) (wS : ∀ a ∈ Bundle.stringAtoms, a.before a0 Z = true) (hh : Jvm.Lit.constHeld Z "com/example/moor/moor/http/UriSyntax" 7) (hcw : Jvm.Lit.compactW.before a0 Z = true) (SC : Sta Z Z.heap "java/lang/String" "COMPACT_STRINGS" "Z" (.int cs)) (hcs : ¬ cs = 0) : CtW l ⟨"com/example/moor/moor/http/UriSyntax", "isUnreserved", "(I)Z"⟩ prog_67_method_2_code 1 (some .boolean) [] ({ frames := 4, cells := 2, slots := 20, locals := 72 } : Room) Z n0 #[(.int c)] (fun v h => v = some (.int (own_u c))) := by
  refine CtW.of (ls := [.val (.int c)]) pn1 (fun m => by first | (simp [entryFrame, mkF, argsToLocals, Value.category]; done) | rfl) ?_
  refine r_iloadN d1_0 rfl ?_
  refine r_bipush (65 : Int32) rfl d1_1 ?_
  have J12 : ∀ (n1 : ¬ (¬ c < 65 ∧ ¬ 90 < c)), ORun l ⟨"com/example/moor/moor/http/UriSyntax", "isUnreserved", "(I)Z"⟩ prog_67_method_2_code 1 (some .boolean) ({ frames := 4, cells := 2, slots := 20, locals := 72 } : Room) Z n0 #[(.int c)] (fun v h => v = some (.int (own_u c))) (EW Z) ReturnedEndW Z.heap 0 0 12 [.val (.int c)] [] := by
    intro n1
    refine r_iloadN d1_12 rfl ?_
    refine r_bipush (97 : Int32) rfl d1_13 ?_
    have J24 : ∀ (n2 : ¬ (¬ c < 97 ∧ ¬ 122 < c)), ORun l ⟨"com/example/moor/moor/http/UriSyntax", "isUnreserved", "(I)Z"⟩ prog_67_method_2_code 1 (some .boolean) ({ frames := 4, cells := 2, slots := 20, locals := 72 } : Room) Z n0 #[(.int c)] (fun v h => v = some (.int (own_u c))) (EW Z) ReturnedEndW Z.heap 0 0 24 [.val (.int c)] [] := by
      intro n2
      refine r_iloadN d1_24 rfl ?_
      refine r_bipush (48 : Int32) rfl d1_25 ?_
      have J36 : ∀ (n3 : ¬ (¬ c < 48 ∧ ¬ 57 < c)), ORun l ⟨"com/example/moor/moor/http/UriSyntax", "isUnreserved", "(I)Z"⟩ prog_67_method_2_code 1 (some .boolean) ({ frames := 4, cells := 2, slots := 20, locals := 72 } : Room) Z n0 #[(.int c)] (fun v h => v = some (.int (own_u c))) (EW Z) ReturnedEndW Z.heap 0 0 36 [.val (.int c)] [] := by
        intro n3
        refine r_ldcW (vs := [.int 45, .int 46, .int 95, .int 126]) (z := 4) hn0 (hw _ (List.mem_of_getElem? (i := 5) rfl)) wS hh hcw (by decide) (by decide) (by decide) 16 (by decide) (by decide) d1_36 (by decide) (by decide) ?_
        intro a1 b1 kk h36 E36 f1 f2 f3 f4
        have X : own_S Z h36 a1 b1 cs := ⟨f1, f2, f3, own_ary f4, Sta.ext E36 SC, hcs⟩
        show ORun _ _ _ _ _ _ _ _ _ _ _ _ h36 2 20 38 [.val (.int c)] [(.ref a1)]
        refine r_iloadN d1_38 rfl ?_
        refine r_virtualP [(.int c)] [] a1 X.1 rfl pd1_0 rfl (hw _ (List.mem_of_getElem? (i := 13) rfl)) (hw _ (List.mem_of_getElem? (i := 14) rfl)) (hw _ (List.mem_of_getElem? (i := 16) rfl)) (hw _ (List.mem_of_getElem? (i := 15) rfl)) (hw _ (List.mem_of_getElem? (i := 6) rfl)) (hw _ (List.mem_of_getElem? (i := 17) rfl)) rfl (by decide) (w := (.int (own_sx c))) (R' := ({ frames := 3, cells := 0, slots := 0, locals := 56 } : Room)) (ct2 hw a1 b1 cs c X) d1_39 rfl (by decide) 0 rfl (by decide) rfl rfl (by decide) (by decide) ?_
        refine r_if_lt d1_42 (fun hc42 => ?_) (fun hc42 => ?_)
        · refine r_iconst (0 : Int32) rfl d1_49 ?_
          refine r_nret (t := .boolean) (by simp) d1_50 (by decide) (by decide) ?_
          refine ⟨?_, Nat.le_refl _⟩
          rw [own_u, if_neg (fun q => q.elim n1 fun q => q.elim n2 fun q => q.elim n3 ((own_sxn c).mp hc42))]; rfl
        · refine r_iconst (1 : Int32) rfl d1_45 ?_
          refine r_goto d1_46 ?_
          refine r_nret (t := .boolean) (by simp) d1_50 (by decide) (by decide) ?_
          refine ⟨?_, Nat.le_refl _⟩
          rw [own_u, if_pos (show own_P c from Or.inr (Or.inr (Or.inr (Decidable.byContradiction fun q => hc42 ((own_sxn c).mpr q)))))]; rfl
      refine r_icmp_lt d1_27 (fun hc27 => ?_) (fun hc27 => ?_)
      · exact J36 (fun q => q.1 hc27)
      · refine r_iloadN d1_30 rfl ?_
        refine r_bipush (57 : Int32) rfl d1_31 ?_
        refine r_icmp_le d1_33 (fun hc33 => ?_) (fun hc33 => ?_)
        · refine r_iconst (1 : Int32) rfl d1_45 ?_
          refine r_goto d1_46 ?_
          refine r_nretW (t := .boolean) (by simp) d1_50 (by decide) (by decide) ?_
          rw [own_u, if_pos (show own_P c from Or.inr (Or.inr (Or.inl ⟨hc27, hc33⟩)))]; rfl
        · exact J36 (fun q => q.2 hc33)
    refine r_icmp_lt d1_15 (fun hc15 => ?_) (fun hc15 => ?_)
    · exact J24 (fun q => q.1 hc15)
    · refine r_iloadN d1_18 rfl ?_
      refine r_bipush (122 : Int32) rfl d1_19 ?_
      refine r_icmp_le d1_21 (fun hc21 => ?_) (fun hc21 => ?_)
      · refine r_iconst (1 : Int32) rfl d1_45 ?_
        refine r_goto d1_46 ?_
        refine r_nretW (t := .boolean) (by simp) d1_50 (by decide) (by decide) ?_
        rw [own_u, if_pos (show own_P c from Or.inr (Or.inl ⟨hc15, hc21⟩))]; rfl
      · exact J24 (fun q => q.2 hc21)
  refine r_icmp_lt d1_3 (fun hc3 => ?_) (fun hc3 => ?_)
  · exact J12 (fun q => q.1 hc3)
  · refine r_iloadN d1_6 rfl ?_
    refine r_bipush (90 : Int32) rfl d1_7 ?_
    refine r_icmp_le d1_9 (fun hc9 => ?_) (fun hc9 => ?_)
    · refine r_iconst (1 : Int32) rfl d1_45 ?_
      refine r_goto d1_46 ?_
      refine r_nretW (t := .boolean) (by simp) d1_50 (by decide) (by decide) ?_
      rw [own_u, if_pos (show own_P c from Or.inl ⟨hc3, hc9⟩)]; rfl
    · exact J12 (fun q => q.2 hc9)
theorem d0_0 : D code 0 (.iload_n 1) 1 1 := ⟨by decide +kernel, rfl⟩
theorem d0_1 : D code 1 (.iconst 3) 1 2 := ⟨by decide +kernel, rfl⟩
theorem d0_2 : D code 2 (.iand) 1 3 := ⟨by decide +kernel, rfl⟩
theorem d0_3 : D code 3 (.istore_n 2) 1 4 := ⟨by decide +kernel, rfl⟩
theorem d0_4 : D code 4 (.iload_n 2) 1 5 := ⟨by decide +kernel, rfl⟩
theorem d0_5 : DB code 5 (.ifCond .ne) 8 8 13 := ⟨by decide +kernel, rfl, by decide, by decide⟩
theorem d0_8 : D code 8 (.iload_n 0) 1 9 := ⟨by decide +kernel, rfl⟩
theorem d0_9 : D code 9 (.istore_n 3) 1 10 := ⟨by decide +kernel, rfl⟩
theorem d0_10 : DB code 10 (.goto) 35 13 45 := ⟨by decide +kernel, rfl, by decide, by decide⟩
theorem d0_13 : D code 13 (.iload_n 2) 1 14 := ⟨by decide +kernel, rfl⟩
theorem d0_14 : D code 14 (.iconst 1) 1 15 := ⟨by decide +kernel, rfl⟩
theorem d0_15 : DB code 15 (.if_icmp .ne) 12 18 27 := ⟨by decide +kernel, rfl, by decide, by decide⟩
theorem d0_18 : D code 18 (.iload_n 0) 1 19 := ⟨by decide +kernel, rfl⟩
theorem d0_19 : D code 19 (.sipush 255) 3 22 := ⟨by decide +kernel, rfl⟩
theorem d0_22 : D code 22 (.iand) 1 23 := ⟨by decide +kernel, rfl⟩
theorem d0_23 : D code 23 (.istore_n 3) 1 24 := ⟨by decide +kernel, rfl⟩
theorem d0_24 : DB code 24 (.goto) 21 27 45 := ⟨by decide +kernel, rfl, by decide, by decide⟩
theorem d0_27 : D code 27 (.iload_n 2) 1 28 := ⟨by decide +kernel, rfl⟩
theorem d0_28 : D code 28 (.iconst 2) 1 29 := ⟨by decide +kernel, rfl⟩
theorem d0_29 : DB code 29 (.if_icmp .ne) 11 32 40 := ⟨by decide +kernel, rfl, by decide, by decide⟩
theorem d0_32 : D code 32 (.iload_n 0) 1 33 := ⟨by decide +kernel, rfl⟩
theorem d0_33 : D code 33 (.bipush 127) 2 35 := ⟨by decide +kernel, rfl⟩
theorem d0_35 : D code 35 (.iand) 1 36 := ⟨by decide +kernel, rfl⟩
theorem d0_36 : D code 36 (.istore_n 3) 1 37 := ⟨by decide +kernel, rfl⟩
theorem d0_37 : DB code 37 (.goto) 8 40 45 := ⟨by decide +kernel, rfl, by decide, by decide⟩
theorem d0_40 : D code 40 (.iload_n 0) 1 41 := ⟨by decide +kernel, rfl⟩
theorem d0_41 : D code 41 (.ldc 7) 2 43 := ⟨by decide +kernel, rfl⟩
theorem d0_43 : D code 43 (.iand) 1 44 := ⟨by decide +kernel, rfl⟩
theorem d0_44 : D code 44 (.istore_n 3) 1 45 := ⟨by decide +kernel, rfl⟩
theorem d0_45 : D code 45 (.iload_n 3) 1 46 := ⟨by decide +kernel, rfl⟩
theorem d0_46 : D code 46 (.invokestatic 8) 3 49 := ⟨by decide +kernel, rfl⟩
theorem d0_49 : D code 49 (.iload_n 3) 1 50 := ⟨by decide +kernel, rfl⟩
theorem d0_50 : D code 50 (.invokestatic 14) 3 53 := ⟨by decide +kernel, rfl⟩
theorem d0_53 : DB code 53 (.if_icmp .ne) 7 56 60 := ⟨by decide +kernel, rfl, by decide, by decide⟩
theorem d0_56 : D code 56 (.iconst 1) 1 57 := ⟨by decide +kernel, rfl⟩
theorem d0_57 : DB code 57 (.goto) 4 60 61 := ⟨by decide +kernel, rfl, by decide, by decide⟩
theorem d0_61 : D code 61 (.ireturn) 1 62 := ⟨by decide +kernel, rfl⟩
theorem pd0_0 : parseMethodDescriptor "(I)Z" = some ⟨[.int], some .boolean⟩ := by decide +kernel
theorem pn0 : plainFor (⟨"com/example/moor/moor/http/UriSyntaxIsUnreservedPinLaw", "law", "(II)Z"⟩ : MethodName) = true := by first | exact plainFor_of_name (by first | (simp [plainName, overriddenIn]; done) | decide +kernel) | exact Jvm.Free.JP.mathPlain rfl (by decide +kernel) | decide +kernel
set_option maxRecDepth 65536 in
set_option maxHeartbeats 40000000 in
theorem ct0 {l : Launch} {Z : State} {a0 : Array Value} (hw : ∀ d ∈ tables_1, d.before a0 Z = true) {n0 : Nat} (p1 p2 cs : Int32) (hn0 : n0 = Z.heap.size) (wS : ∀ a ∈ Bundle.stringAtoms, a.before a0 Z = true) (hh : Jvm.Lit.constHeld Z "com/example/moor/moor/http/UriSyntax" 7) (hcw : Jvm.Lit.compactW.before a0 Z = true) (SC : Sta Z Z.heap "java/lang/String" "COMPACT_STRINGS" "Z" (.int cs)) (hcs : ¬ cs = 0) : CtW l x code maxLocals ret tables_1 room_1 Z n0 #[(.int p1), (.int p2)] (fun v h => v = some (.int 1)) := by
  refine CtW.of (ls := [.val (.int p1), .val (.int p2), .unset, .unset]) pn0 (fun m => by first | (simp [entryFrame, mkF, argsToLocals, Value.category, maxLocals]; done) | rfl) ?_
  refine r_iloadN d0_0 rfl ?_
  refine r_iconst (3 : Int32) rfl d0_1 ?_
  refine r_iand d0_2 ?_
  refine r_istoreN d0_3 [.val (.int p1), .val (.int p2), .val (.int (p2 &&& (3 : Int32))), .unset] rfl ?_
  refine r_iloadN d0_4 rfl ?_
  have J45 : ∀ (c : Int32), ORun l x code maxLocals ret room_1 Z n0 #[(.int p1), (.int p2)] (fun v h => v = some (.int 1)) (EW Z) ReturnedEndW Z.heap 0 0 45 [.val (.int p1), .val (.int p2), .val (.int (p2 &&& (3 : Int32))), .val (.int c)] [] := by
    intro c
    refine r_iloadN d0_45 rfl ?_
    refine r_staticW [(.int c)] [] rfl pd0_0 rfl (hw _ (List.mem_of_getElem? (i := 1) rfl)) (hw _ (List.mem_of_getElem? (i := 2) rfl)) (hw _ (List.mem_of_getElem? (i := 3) rfl)) (hw _ (List.mem_of_getElem? (i := 4) rfl)) (by decide) (R' := ({ frames := 4, cells := 2, slots := 20, locals := 72 } : Room)) (ct1 hw c cs hn0 wS hh hcw SC hcs) d0_46 rfl (by decide) 0 rfl (by decide) (by decide) (by decide) ?_
    rintro _ h46 rfl
    show ORun _ _ _ _ _ _ _ _ _ _ _ _ h46 2 20 49 [.val (.int p1), .val (.int p2), .val (.int (p2 &&& (3 : Int32))), .val (.int c)] [(.int (own_u c))]
    refine r_iloadN d0_49 rfl ?_
    refine r_staticP [(.int c)] [(.int (own_u c))] rfl pd0_0 rfl (hw _ (List.mem_of_getElem? (i := 58) rfl)) (hw _ (List.mem_of_getElem? (i := 59) rfl)) (hw _ (List.mem_of_getElem? (i := 60) rfl)) (hw _ (List.mem_of_getElem? (i := 61) rfl)) (by decide) (w := (.int (own_e c))) (R' := ({ frames := 0, cells := 0, slots := 0, locals := 0 } : Room)) (ct12 hw c) d0_50 rfl (by decide) 1 rfl (by decide) rfl rfl (by decide) (by decide) ?_
    refine r_icmp_ne d0_53 (fun hc53 => ?_) (fun hc53 => ?_)
    · exfalso; exact hc53 (own_ue c)
    · refine r_iconst (1 : Int32) rfl d0_56 ?_
      refine r_goto d0_57 ?_
      exact r_nret (t := .boolean) (by simp) d0_61 (by decide) (by decide) (⟨rfl, Nat.le_refl _⟩)
  refine r_if_ne d0_5 (fun hc5 => ?_) (fun hc5 => ?_)
  · refine r_iloadN d0_13 rfl ?_
    refine r_iconst (1 : Int32) rfl d0_14 ?_
    refine r_icmp_ne d0_15 (fun hc15 => ?_) (fun hc15 => ?_)
    · refine r_iloadN d0_27 rfl ?_
      refine r_iconst (2 : Int32) rfl d0_28 ?_
      refine r_icmp_ne d0_29 (fun hc29 => ?_) (fun hc29 => ?_)
      · refine r_iloadN d0_40 rfl ?_
        refine r_ldc (v := (65535 : Int32)) (hw _ (List.mem_of_getElem? (i := 0) rfl)) d0_41 ?_
        refine r_iand d0_43 ?_
        refine r_istoreN d0_44 [.val (.int p1), .val (.int p2), .val (.int (p2 &&& (3 : Int32))), .val (.int (p1 &&& (65535 : Int32)))] rfl ?_
        exact J45 _
      · refine r_iloadN d0_32 rfl ?_
        refine r_bipush (127 : Int32) rfl d0_33 ?_
        refine r_iand d0_35 ?_
        refine r_istoreN d0_36 [.val (.int p1), .val (.int p2), .val (.int (p2 &&& (3 : Int32))), .val (.int (p1 &&& (127 : Int32)))] rfl ?_
        refine r_goto d0_37 ?_
        exact J45 _
    · refine r_iloadN d0_18 rfl ?_
      refine r_sipush (255 : Int32) rfl d0_19 ?_
      refine r_iand d0_22 ?_
      refine r_istoreN d0_23 [.val (.int p1), .val (.int p2), .val (.int (p2 &&& (3 : Int32))), .val (.int (p1 &&& (255 : Int32)))] rfl ?_
      refine r_goto d0_24 ?_
      exact J45 _
  · refine r_iloadN d0_8 rfl ?_
    refine r_istoreN d0_9 [.val (.int p1), .val (.int p2), .val (.int (p2 &&& (3 : Int32))), .val (.int p1)] rfl ?_
    refine r_goto d0_10 ?_
    exact J45 _
theorem not_iF {args : Array Value} {first s : State} {o : Option Outcome} {idx : List Nat} {c : Jvm.Cond} {b : Bool} (h : c.value args first o s idx = some b) : (Jvm.Cond.not c).value args first o s idx = some (!b) := by simp [Cond.value, h]
set_option maxRecDepth 65536 in
set_option maxHeartbeats 40000000 in
theorem comes_1 {Post : Tables → Env → Array Value → State → Outcome → State → Prop} (hpost : ∀ tb e args s v u, (limb_1_1.after args s (.returned v) u = true ∧ limb_1_2.after args s (.returned v) u = true ∧ True) → ReturnedEndW s (.returned v) u (Jvm.fieldLocs frame_1_writes args s ++ Jvm.arrayLocs frame_1_arrays args s ++ Jvm.staticLocs frame_1_statics s) 8 1088 → Post tb e args s (.returned v) u) :
    ArmFor flags0 classFile x code maxLocals ret World_1 tables_1 room_1 Calls_1 rest_1 Pre_1 Post := by
  intro l hfl _ _ p e ha hc hk s m args below hf hA hF happ hP
  obtain ⟨hcalls, hrest, hpre⟩ := hP
  obtain ⟨-, -, -, hnamed, -, -, -, hat⟩ := (Spec.applies_iff hf).mp happ
  obtain ⟨hg, hn⟩ := and_e (Cond.before_iff.mp (show (Jvm.Cond.and given_1 narrow_1).before args s = true from hpre))
  obtain ⟨g1, g2⟩ := and_e hg
  obtain ⟨g3, g4⟩ := and_e g2
  obtain ⟨w0, w1, rfl⟩ : ∃ w0 w1 : Value, args = #[w0, w1] := by
    have hs : args.size = 2 := by simpa [Cond.value, given_1] using g1
    obtain ⟨L⟩ := args
    match L, hs with
    | [w0, w1], _ => exact ⟨w0, w1, rfl⟩
  have hw := fun d (hd : d ∈ tables_1) => atoms_spec (ws := Jvm.Cond.code x code maxLocals ret :: tables_1) hat d (List.mem_cons_of_mem _ hd)
  have hfit : Fit s := fun {y c} hc i hi => by
    obtain ⟨ha, rfl⟩ := Array.getElem?_eq_some_iff.mp hc
    have q := List.all_eq_true.mp ((Array.all_eq_true_iff_forall_mem.mp hF) _ (Array.getElem_mem ha)) i (List.mem_range.mpr hi)
    simpa [Array.getElem?_eq_getElem hi] using q
  obtain ⟨hsets, hown0⟩ := atoms_of _ (rest_1_c_eq ▸ (show rest_1_c.before _ s = true from hrest))
  have hr0 := Cond.before_iff.mp hown0
  obtain ⟨i0, ei0⟩ := is_v g3
  obtain rfl : w0 = (.int i0) := Option.some.inj ei0
  obtain ⟨i1, ei1⟩ := is_v g4
  obtain rfl : w1 = (.int i1) := Option.some.inj ei1
  have wS : ∀ a ∈ Bundle.stringAtoms, a.before _ s = true := fun a ha => by
    simp only [Bundle.stringAtoms, List.mem_cons, List.not_mem_nil, or_false] at ha
    rcases ha with rfl | rfl | rfl | rfl | rfl | rfl | rfl
    · exact (hw _ (List.mem_of_getElem? (i := 6) rfl))
    · exact (hw _ (List.mem_of_getElem? (i := 7) rfl))
    · exact (hw _ (List.mem_of_getElem? (i := 8) rfl))
    · exact (hw _ (List.mem_of_getElem? (i := 9) rfl))
    · exact (hw _ (List.mem_of_getElem? (i := 10) rfl))
    · exact (hw _ (List.mem_of_getElem? (i := 11) rfl))
    · exact (hw _ (List.mem_of_getElem? (i := 12) rfl))
  obtain ⟨cs, ecs⟩ := is_v (Cond.before_iff.mp (hsets _ (List.mem_of_getElem? (i := 1) rfl)))
  have SC := Sta.start ecs (Or.inl (hsets _ (List.mem_of_getElem? (i := 0) rfl)))
  have hcs : ¬ cs = 0 := fun q => by
    have z := Cond.before_iff.mp (hsets _ (List.mem_of_getElem? (i := 2) rfl))
    subst q
    rw [not_iF (eq_ints ecs (show (Term.int 0).eval _ s none [] s = some (.int 0) from rfl))] at z
    simp at z
  obtain ⟨n, o, h1, h2, h3, _, L, rfl, ⟨rfl, N⟩, hq⟩ := ct0 (n0 := s.heap.size) hw i0 i1 cs rfl wS (hcalls.1 _ (List.mem_cons_self ..)) (hsets _ (List.mem_of_getElem? (i := 2) rfl)) SC hcs p e ha hc hk s m _ below hf ((Spec.applies_iff_loose hf).mp happ).1 ⟨rfl, State.Warmed39.refl s, rfl, rfl⟩ trivial
  exact ⟨n, _, h1, h2, h3, hpost _ _ _ _ _ _ ⟨Cond.after_iff.mpr rfl, Cond.after_iff.mpr (eq_i res_at (Term.int_eval (1)) rfl), trivial⟩ ⟨hq.1, hq.2.1, hq.2.2.1, (hq.2.2.2.sift fun y hy => Or.inr (N y hy)).mono (by decide) (by decide)⟩⟩
theorem main_1_1 : Claimed_1_1 := comes_1 fun _ _ _ _ _ _ h hF => ⟨h.1, hF⟩
theorem main_1_2 : Claimed_1_2 := comes_1 fun _ _ _ _ _ _ h hF => ⟨h.2.1, hF⟩
end Jvm.Pilot.@@N@@
namespace Jvm.Pilot.@@N@@
open Jvm Jvm.ClassFile Sem Op Lib Jvm.Free Jvm.Stand Jvm.Pilot.@@N@@.Jvm.D
/-! MADE BY PROGRAM (witnessworld.py) out of the Statement's table words and the real class files: 18 classes; the members and pool entries that the words name. The judged class is class 1, her method 1. -/
namespace start1
open Jvm.ClassFile
def u (s : String) : CpInfo := .utf8 (stringToUtf16 s)
/-- a pool by its gaps: so many unusable entries, then the entry; so many at the end -/
def gap : Nat → List CpInfo → List CpInfo
  | 0, r => r
  | n + 1, r => .unusable :: gap n r
def poolList (es : List (Nat × CpInfo)) (last : Nat) : List CpInfo := es.foldr (fun e r => gap e.1 (e.2 :: r)) (gap last [])
def pool (es : List (Nat × CpInfo)) (last : Nat) : Array CpInfo := ⟨poolList es last⟩
def fileOf (pool : Array CpInfo) (this : Nat) (attrs : Array Attribute := #[]) (ms : Array MethodInfo := #[]) (fl : Nat := 33) (sup : Nat := 0) (ifs : Array Nat := #[]) (fds : Array FieldInfo := #[]) : ClassFile where
  minorVersion := 0
  majorVersion := 65
  constantPool := pool
  accessFlags := fl
  thisClass := this
  superClass := sup
  interfaces := ifs
  fields := fds
  methods := ms
  attributes := attrs
def plain (name : String) (sup : Option ClassId) : Class where
  name := name
  kind := .ordinary
  loader := none
  accessFlags := 33
  super := sup
  interfaces := #[]
  cf := none
  fields := #[]
  methods := #[]
  instanceTypes := #[]
  staticTypes := #[]
  resolved := #[]
  callSites := []
  init := .initialized
  statics := none
  mirror := none

def pool0 : Array CpInfo := pool [(5, u "<init>"), (0, u "()V"), (1, .class_ 10), (1, u "java/lang/Object")] 113

def k0m0 : Method := { name := "<init>", desc := "()V", sig := { parameters := [], returnType := none }, accessFlags := 1, code := none }
/-- java/lang/Object -/
def k0 : Class := { plain "java/lang/Object" none with
  accessFlags := 33
  interfaces := #[]
  cf := some (fileOf pool0 8 #[] #[{ accessFlags := 1, nameIndex := 5, descriptorIndex := 6, attributes := #[] }] 33 0 #[] #[])
  fields := #[]
  methods := #[k0m0]
  instanceTypes := #[]
  staticTypes := #[]
  resolved := Array.replicate 124 none
  statics := none }

def pool1 : Array CpInfo := pool [(2, .class_ 4), (1, u "java/lang/Object"), (0, u "<init>"), (0, u "()V"), (0, .integer 65535), (0, .methodref 9 10), (0, .class_ 11), (0, .nameAndType 12 13), (0, u "com/example/moor/moor/http/UriSyntax"), (0, u "isUnreserved"), (0, u "(I)Z"), (0, .methodref 15 16), (0, .class_ 17), (0, .nameAndType 18 13), (0, u "com/example/moor/moor/http/UriSyntaxIsUnreservedPinLaw"), (0, u "expected"), (2, u "law"), (0, u "(II)Z")] 3

def k1m0 : Method := { name := "<init>", desc := "()V", sig := { parameters := [], returnType := none }, accessFlags := 2, code := none }
def k1c1 : Code := { maxStack := 2, maxLocals := 4, code := code, exceptionTable := #[], attributes := #[] }
def k1m1 : Method := { name := "law", desc := "(II)Z", sig := { parameters := [.int, .int], returnType := some .boolean }, accessFlags := 9, code := some k1c1 }
def k1c2 : Code := { maxStack := 2, maxLocals := 1, code := method_3_code, exceptionTable := #[], attributes := #[] }
def k1m2 : Method := { name := "expected", desc := "(I)Z", sig := { parameters := [.int], returnType := some .boolean }, accessFlags := 10, code := some k1c2 }
/-- com/example/moor/moor/http/UriSyntaxIsUnreservedPinLaw -/
def k1 : Class := { plain "com/example/moor/moor/http/UriSyntaxIsUnreservedPinLaw" (some 0) with
  accessFlags := 49
  interfaces := #[]
  cf := some (fileOf pool1 15 #[] #[{ accessFlags := 2, nameIndex := 5, descriptorIndex := 6, attributes := #[] }, { accessFlags := 9, nameIndex := 21, descriptorIndex := 22, attributes := #[] }, { accessFlags := 10, nameIndex := 18, descriptorIndex := 13, attributes := #[] }] 49 2 #[] #[])
  fields := #[]
  methods := #[k1m0, k1m1, k1m2]
  instanceTypes := #[]
  staticTypes := #[]
  resolved := Array.replicate 26 none
  statics := none }

def pool2 : Array CpInfo := pool [(2, .class_ 4), (1, u "java/lang/Object"), (0, u "<init>"), (0, u "()V"), (0, .string 8), (0, u "-._~"), (0, .methodref 10 11), (0, .class_ 12), (0, .nameAndType 13 14), (0, u "java/lang/String"), (0, u "indexOf"), (0, u "(I)I"), (13, .class_ 30), (1, u "com/example/moor/moor/http/UriSyntax"), (30, u "(I)Z"), (2, u "isUnreserved"), (26, u "IPV4"), (0, u "Ljava/util/regex/Pattern;"), (24, u "DEC_OCTET"), (0, u "Ljava/lang/String;"), (3, u "IPV6_PIECES"), (0, u "I")] 31

def k2m0 : Method := { name := "<init>", desc := "()V", sig := { parameters := [], returnType := none }, accessFlags := 2, code := none }
def k2c1 : Code := { maxStack := 2, maxLocals := 1, code := prog_67_method_2_code, exceptionTable := #[], attributes := #[] }
def k2m1 : Method := { name := "isUnreserved", desc := "(I)Z", sig := { parameters := [.int], returnType := some .boolean }, accessFlags := 8, code := some k2c1 }
/-- com/example/moor/moor/http/UriSyntax -/
def k2 : Class := { plain "com/example/moor/moor/http/UriSyntax" (some 0) with
  accessFlags := 48
  interfaces := #[]
  cf := some (fileOf pool2 28 #[] #[{ accessFlags := 2, nameIndex := 5, descriptorIndex := 6, attributes := #[] }, { accessFlags := 8, nameIndex := 64, descriptorIndex := 61, attributes := #[] }] 48 2 #[] #[{ accessFlags := 26, nameIndex := 117, descriptorIndex := 118, attributes := #[] }, { accessFlags := 26, nameIndex := 91, descriptorIndex := 92, attributes := #[] }, { accessFlags := 26, nameIndex := 122, descriptorIndex := 123, attributes := #[] }])
  fields := #[{ name := "DEC_OCTET", type := (.object "java/lang/String"), accessFlags := 26, slot := 0, constantValue := 0 }, { name := "IPV4", type := (.object "java/util/regex/Pattern"), accessFlags := 26, slot := 1, constantValue := 0 }, { name := "IPV6_PIECES", type := .int, accessFlags := 26, slot := 2, constantValue := 0 }]
  methods := #[k2m0, k2m1]
  instanceTypes := #[]
  staticTypes := #[(.object "java/lang/String"), (.object "java/util/regex/Pattern"), .int]
  resolved := Array.replicate 155 none
  statics := none }

def pool3 : Array CpInfo := pool [(1, .class_ 2), (0, u "java/io/Serializable"), (0, .class_ 4), (0, u "java/lang/Object")] 2

/-- java/io/Serializable -/
def k3 : Class := { plain "java/io/Serializable" (some 0) with
  accessFlags := 1537
  interfaces := #[]
  cf := some (fileOf pool3 1 #[] #[] 1537 3 #[] #[])
  fields := #[]
  methods := #[]
  instanceTypes := #[]
  staticTypes := #[]
  resolved := Array.replicate 7 none
  statics := none }

def pool4 : Array CpInfo := pool [(1, .class_ 2), (0, u "java/lang/Comparable"), (0, .class_ 4), (0, u "java/lang/Object")] 7

/-- java/lang/Comparable -/
def k4 : Class := { plain "java/lang/Comparable" (some 0) with
  accessFlags := 1537
  interfaces := #[]
  cf := some (fileOf pool4 1 #[] #[] 1537 3 #[] #[])
  fields := #[]
  methods := #[]
  instanceTypes := #[]
  staticTypes := #[]
  resolved := Array.replicate 12 none
  statics := none }

def pool5 : Array CpInfo := pool [(2, .class_ 4), (1, u "java/lang/CharSequence"), (42, .class_ 48), (0, u "java/lang/CharSequence$1CodePointIterator"), (10, .class_ 60), (0, u "java/lang/CharSequence$1CharIterator"), (5, .class_ 67), (0, u "java/lang/Object")] 63

/-- java/lang/CharSequence -/
def k5 : Class := { plain "java/lang/CharSequence" (some 0) with
  accessFlags := 1537
  interfaces := #[]
  cf := some (fileOf pool5 2 #[.nestMembers #[47, 59]] #[] 1537 66 #[] #[])
  fields := #[]
  methods := #[]
  instanceTypes := #[]
  staticTypes := #[]
  resolved := Array.replicate 131 none
  statics := none }

def pool6 : Array CpInfo := pool [(1, .class_ 2), (0, u "java/lang/constant/Constable"), (0, .class_ 4), (0, u "java/lang/Object")] 6

/-- java/lang/constant/Constable -/
def k6 : Class := { plain "java/lang/constant/Constable" (some 0) with
  accessFlags := 1537
  interfaces := #[]
  cf := some (fileOf pool6 1 #[] #[] 1537 3 #[] #[])
  fields := #[]
  methods := #[]
  instanceTypes := #[]
  staticTypes := #[]
  resolved := Array.replicate 11 none
  statics := none }

def pool7 : Array CpInfo := pool [(1, .class_ 2), (0, u "java/lang/constant/ConstantDesc"), (0, .class_ 4), (0, u "java/lang/Object")] 32

/-- java/lang/constant/ConstantDesc -/
def k7 : Class := { plain "java/lang/constant/ConstantDesc" (some 0) with
  accessFlags := 1537
  interfaces := #[]
  cf := some (fileOf pool7 1 #[] #[] 1537 3 #[] #[])
  fields := #[]
  methods := #[]
  instanceTypes := #[]
  staticTypes := #[]
  resolved := Array.replicate 37 none
  statics := none }

def pool8 : Array CpInfo := pool [(2, .class_ 4), (1, u "java/lang/Object"), (0, u "<init>"), (0, u "()V"), (2, .fieldref 10 11), (0, .class_ 12), (0, .nameAndType 13 14), (0, u "java/lang/String"), (0, u "value"), (0, u "[B"), (0, .fieldref 10 16), (0, .nameAndType 17 18), (0, u "coder"), (0, u "B"), (2, u "hash"), (0, u "I"), (2, u "hashIsZero"), (0, u "Z"), (11, .fieldref 10 39), (0, .nameAndType 40 26), (0, u "COMPACT_STRINGS"), (66, .class_ 109), (1, u "java/lang/StringLatin1"), (32, u "()Z"), (191, u "()I"), (0, .methodref 10 336), (0, .nameAndType 17 337), (0, u "()B"), (154, .methodref 10 493), (0, .nameAndType 494 142), (0, u "isLatin1"), (10, .methodref 10 506), (0, .nameAndType 507 334), (0, u "length"), (67, .class_ 576), (0, u "java/lang/CharSequence"), (22, u "CASE_INSENSITIVE_ORDER"), (0, u "Ljava/util/Comparator;"), (32, .methodref 10 634), (0, .nameAndType 635 636), (0, u "indexOf"), (0, u "(II)I"), (0, .methodref 107 638), (0, .nameAndType 635 639), (0, u "([BIII)I"), (125, u "(I)I"), (335, u "serialPersistentFields"), (0, u "[Ljava/io/ObjectStreamField;"), (0, .class_ 1104), (0, u "java/lang/String$CaseInsensitiveComparator"), (1, .class_ 1107), (0, u "java/io/Serializable"), (0, .class_ 1109), (0, u "java/lang/Comparable"), (0, .class_ 1111), (0, u "java/lang/constant/Constable"), (0, .class_ 1113), (0, u "java/lang/constant/ConstantDesc"), (2, u "serialVersionUID"), (0, u "J"), (3, u "REPL"), (0, u "C"), (2, u "LATIN1"), (1, u "UTF16")] 323

def k8m0 : Method := { name := "<init>", desc := "()V", sig := { parameters := [], returnType := none }, accessFlags := 1, code := none }
def k8c1 : Code := { maxStack := 2, maxLocals := 1, code := jdk_42_method_54_code, exceptionTable := #[], attributes := #[] }
def k8m1 : Method := { name := "length", desc := "()I", sig := { parameters := [], returnType := some .int }, accessFlags := 1, code := some k8c1 }
def k8c2 : Code := { maxStack := 3, maxLocals := 2, code := jdk_42_method_79_code, exceptionTable := #[], attributes := #[] }
def k8m2 : Method := { name := "indexOf", desc := "(I)I", sig := { parameters := [.int], returnType := some .int }, accessFlags := 1, code := some k8c2 }
def k8c3 : Code := { maxStack := 4, maxLocals := 3, code := jdk_42_method_80_code, exceptionTable := #[], attributes := #[] }
def k8m3 : Method := { name := "indexOf", desc := "(II)I", sig := { parameters := [.int, .int], returnType := some .int }, accessFlags := 1, code := some k8c3 }
def k8c4 : Code := { maxStack := 1, maxLocals := 1, code := jdk_42_method_152_code, exceptionTable := #[], attributes := #[] }
def k8m4 : Method := { name := "coder", desc := "()B", sig := { parameters := [], returnType := some .byte }, accessFlags := 0, code := some k8c4 }
def k8c5 : Code := { maxStack := 1, maxLocals := 1, code := jdk_42_method_154_code, exceptionTable := #[], attributes := #[] }
def k8m5 : Method := { name := "isLatin1", desc := "()Z", sig := { parameters := [], returnType := some .boolean }, accessFlags := 0, code := some k8c5 }
/-- java/lang/String -/
def k8 : Class := { plain "java/lang/String" (some 0) with
  accessFlags := 49
  interfaces := #[3, 4, 5, 6, 7]
  cf := some (fileOf pool8 10 #[.nestMembers #[1103]] #[{ accessFlags := 1, nameIndex := 5, descriptorIndex := 6, attributes := #[] }, { accessFlags := 1, nameIndex := 507, descriptorIndex := 334, attributes := #[] }, { accessFlags := 1, nameIndex := 635, descriptorIndex := 765, attributes := #[] }, { accessFlags := 1, nameIndex := 635, descriptorIndex := 636, attributes := #[] }, { accessFlags := 0, nameIndex := 17, descriptorIndex := 337, attributes := #[] }, { accessFlags := 0, nameIndex := 494, descriptorIndex := 142, attributes := #[] }] 49 2 #[1106, 1108, 575, 1110, 1112] #[{ accessFlags := 18, nameIndex := 13, descriptorIndex := 14, attributes := #[] }, { accessFlags := 18, nameIndex := 17, descriptorIndex := 18, attributes := #[] }, { accessFlags := 2, nameIndex := 21, descriptorIndex := 22, attributes := #[] }, { accessFlags := 2, nameIndex := 25, descriptorIndex := 26, attributes := #[] }, { accessFlags := 26, nameIndex := 1116, descriptorIndex := 1117, attributes := #[] }, { accessFlags := 24, nameIndex := 40, descriptorIndex := 26, attributes := #[] }, { accessFlags := 26, nameIndex := 1101, descriptorIndex := 1102, attributes := #[] }, { accessFlags := 26, nameIndex := 1121, descriptorIndex := 1122, attributes := #[] }, { accessFlags := 25, nameIndex := 599, descriptorIndex := 600, attributes := #[] }, { accessFlags := 24, nameIndex := 1125, descriptorIndex := 18, attributes := #[] }, { accessFlags := 24, nameIndex := 1127, descriptorIndex := 18, attributes := #[] }])
  fields := #[{ name := "value", type := (.array .byte), accessFlags := 18, slot := 0, constantValue := 0 }, { name := "coder", type := .byte, accessFlags := 18, slot := 1, constantValue := 0 }, { name := "hash", type := .int, accessFlags := 2, slot := 2, constantValue := 0 }, { name := "hashIsZero", type := .boolean, accessFlags := 2, slot := 3, constantValue := 0 }, { name := "serialVersionUID", type := .long, accessFlags := 26, slot := 0, constantValue := 0 }, { name := "COMPACT_STRINGS", type := .boolean, accessFlags := 24, slot := 1, constantValue := 0 }, { name := "serialPersistentFields", type := (.array (.object "java/io/ObjectStreamField")), accessFlags := 26, slot := 2, constantValue := 0 }, { name := "REPL", type := .char, accessFlags := 26, slot := 3, constantValue := 0 }, { name := "CASE_INSENSITIVE_ORDER", type := (.object "java/util/Comparator"), accessFlags := 25, slot := 4, constantValue := 0 }, { name := "LATIN1", type := .byte, accessFlags := 24, slot := 5, constantValue := 0 }, { name := "UTF16", type := .byte, accessFlags := 24, slot := 6, constantValue := 0 }]
  methods := #[k8m0, k8m1, k8m2, k8m3, k8m4, k8m5]
  instanceTypes := #[(.array .byte), .byte, .int, .boolean]
  staticTypes := #[.long, .boolean, (.array (.object "java/io/ObjectStreamField")), .char, (.object "java/util/Comparator"), .byte, .byte]
  resolved := Array.replicate 1451 none
  statics := some 0 }

def pool9 : Array CpInfo := pool [(4, .class_ 6), (1, u "java/lang/Object"), (0, u "<init>"), (0, u "()V"), (5, .class_ 16), (1, u "java/lang/StringLatin1"), (21, .methodref 39 40), (0, .class_ 41), (0, .nameAndType 42 43), (0, u "java/lang/Math"), (0, u "min"), (0, u "(II)I"), (44, .methodref 14 89), (0, .nameAndType 90 91), (0, u "canEncode"), (0, u "(I)Z"), (0, .methodref 39 93), (0, .nameAndType 94 43), (0, u "max"), (0, .methodref 14 96), (0, .nameAndType 97 98), (0, u "indexOfChar"), (0, u "([BIII)I"), (2, u "indexOf"), (19, u "$assertionsDisabled"), (0, u "Z"), (98, .class_ 223), (1, u "java/lang/StringLatin1$LinesSpliterator"), (166, .class_ 391), (0, u "java/lang/StringLatin1$CharsSpliterator")] 3

def k9m0 : Method := { name := "<init>", desc := "()V", sig := { parameters := [], returnType := none }, accessFlags := 0, code := none }
def k9c1 : Code := { maxStack := 2, maxLocals := 1, code := jdk_43_method_4_code, exceptionTable := #[], attributes := #[] }
def k9m1 : Method := { name := "canEncode", desc := "(I)Z", sig := { parameters := [.int], returnType := some .boolean }, accessFlags := 9, code := some k9c1 }
def k9c2 : Code := { maxStack := 4, maxLocals := 4, code := jdk_43_method_22_code, exceptionTable := #[], attributes := #[] }
def k9m2 : Method := { name := "indexOf", desc := "([BIII)I", sig := { parameters := [(.array .byte), .int, .int, .int], returnType := some .int }, accessFlags := 9, code := some k9c2 }
def k9c3 : Code := { maxStack := 2, maxLocals := 6, code := jdk_43_method_23_code, exceptionTable := #[], attributes := #[] }
def k9m3 : Method := { name := "indexOfChar", desc := "([BIII)I", sig := { parameters := [(.array .byte), .int, .int, .int], returnType := some .int }, accessFlags := 10, code := some k9c3 }
/-- java/lang/StringLatin1 -/
def k9 : Class := { plain "java/lang/StringLatin1" (some 0) with
  accessFlags := 48
  interfaces := #[]
  cf := some (fileOf pool9 14 #[.nestMembers #[390, 221]] #[{ accessFlags := 0, nameIndex := 7, descriptorIndex := 8, attributes := #[] }, { accessFlags := 9, nameIndex := 90, descriptorIndex := 91, attributes := #[] }, { accessFlags := 9, nameIndex := 101, descriptorIndex := 98, attributes := #[] }, { accessFlags := 10, nameIndex := 97, descriptorIndex := 98, attributes := #[] }] 48 4 #[] #[{ accessFlags := 4120, nameIndex := 121, descriptorIndex := 122, attributes := #[] }])
  fields := #[{ name := "$assertionsDisabled", type := .boolean, accessFlags := 4120, slot := 0, constantValue := 0 }]
  methods := #[k9m0, k9m1, k9m2, k9m3]
  instanceTypes := #[]
  staticTypes := #[.boolean]
  resolved := Array.replicate 395 none
  statics := none }

def pool10 : Array CpInfo := pool [(1, .class_ 2), (0, u "java/lang/Math"), (1, .class_ 6), (1, u "java/lang/Object"), (0, u "<init>"), (0, u "()V"), (89, .class_ 100), (1, u "java/lang/Math$RandomNumberGeneratorHolder"), (71, u "negativeZeroFloatBits"), (0, u "J"), (2, u "negativeZeroDoubleBits"), (21, u "max"), (2, u "min"), (43, u "$assertionsDisabled"), (0, u "Z"), (88, u "(II)I"), (2, u "twoToTheDoubleScaleDown"), (0, u "D"), (4, u "twoToTheDoubleScaleUp"), (9, u "E"), (3, u "PI"), (2, u "TAU"), (2, u "DEGREES_TO_RADIANS"), (0, u "RADIANS_TO_DEGREES")] 94

def k10m0 : Method := { name := "<init>", desc := "()V", sig := { parameters := [], returnType := none }, accessFlags := 2, code := none }
def k10c1 : Code := { maxStack := 2, maxLocals := 2, code := jdk_29_method_65_code, exceptionTable := #[], attributes := #[] }
def k10m1 : Method := { name := "max", desc := "(II)I", sig := { parameters := [.int, .int], returnType := some .int }, accessFlags := 9, code := some k10c1 }
def k10c2 : Code := { maxStack := 2, maxLocals := 2, code := jdk_29_method_69_code, exceptionTable := #[], attributes := #[] }
def k10m2 : Method := { name := "min", desc := "(II)I", sig := { parameters := [.int, .int], returnType := some .int }, accessFlags := 9, code := some k10c2 }
/-- java/lang/Math -/
def k10 : Class := { plain "java/lang/Math" (some 0) with
  accessFlags := 49
  interfaces := #[]
  cf := some (fileOf pool10 1 #[.nestMembers #[98]] #[{ accessFlags := 2, nameIndex := 7, descriptorIndex := 8, attributes := #[] }, { accessFlags := 9, nameIndex := 198, descriptorIndex := 335, attributes := #[] }, { accessFlags := 9, nameIndex := 201, descriptorIndex := 335, attributes := #[] }] 49 4 #[] #[{ accessFlags := 25, nameIndex := 354, descriptorIndex := 339, attributes := #[] }, { accessFlags := 25, nameIndex := 358, descriptorIndex := 339, attributes := #[] }, { accessFlags := 25, nameIndex := 361, descriptorIndex := 339, attributes := #[] }, { accessFlags := 26, nameIndex := 364, descriptorIndex := 339, attributes := #[] }, { accessFlags := 26, nameIndex := 365, descriptorIndex := 339, attributes := #[] }, { accessFlags := 26, nameIndex := 172, descriptorIndex := 173, attributes := #[] }, { accessFlags := 26, nameIndex := 176, descriptorIndex := 173, attributes := #[] }, { accessFlags := 8, nameIndex := 344, descriptorIndex := 339, attributes := #[] }, { accessFlags := 8, nameIndex := 338, descriptorIndex := 339, attributes := #[] }, { accessFlags := 4120, nameIndex := 245, descriptorIndex := 246, attributes := #[] }])
  fields := #[{ name := "E", type := .double, accessFlags := 25, slot := 0, constantValue := 0 }, { name := "PI", type := .double, accessFlags := 25, slot := 1, constantValue := 0 }, { name := "TAU", type := .double, accessFlags := 25, slot := 2, constantValue := 0 }, { name := "DEGREES_TO_RADIANS", type := .double, accessFlags := 26, slot := 3, constantValue := 0 }, { name := "RADIANS_TO_DEGREES", type := .double, accessFlags := 26, slot := 4, constantValue := 0 }, { name := "negativeZeroFloatBits", type := .long, accessFlags := 26, slot := 5, constantValue := 0 }, { name := "negativeZeroDoubleBits", type := .long, accessFlags := 26, slot := 6, constantValue := 0 }, { name := "twoToTheDoubleScaleUp", type := .double, accessFlags := 8, slot := 7, constantValue := 0 }, { name := "twoToTheDoubleScaleDown", type := .double, accessFlags := 8, slot := 8, constantValue := 0 }, { name := "$assertionsDisabled", type := .boolean, accessFlags := 4120, slot := 9, constantValue := 0 }]
  methods := #[k10m0, k10m1, k10m2]
  instanceTypes := #[]
  staticTypes := #[.double, .double, .double, .double, .double, .long, .long, .double, .double, .boolean]
  resolved := Array.replicate 460 none
  statics := none }

def pool11 : Array CpInfo := pool [(2, .class_ 4), (1, u "java/lang/Object"), (0, u "<init>"), (0, u "()V"), (17, .class_ 26), (1, u "jdk/internal/util/Preconditions"), (28, .class_ 56), (0, u "jdk/internal/util/Preconditions$4"), (57, .class_ 115), (0, u "jdk/internal/util/Preconditions$1"), (7, u "SIOOBE_FORMATTER"), (0, u "Ljava/util/function/BiFunction;"), (0, .class_ 126), (0, u "jdk/internal/util/Preconditions$2"), (3, u "AIOOBE_FORMATTER"), (0, .class_ 132), (0, u "jdk/internal/util/Preconditions$3"), (3, u "IOOBE_FORMATTER")] 57

def k11m0 : Method := { name := "<init>", desc := "()V", sig := { parameters := [], returnType := none }, accessFlags := 1, code := none }
/-- jdk/internal/util/Preconditions -/
def k11 : Class := { plain "jdk/internal/util/Preconditions" (some 0) with
  accessFlags := 33
  interfaces := #[]
  cf := some (fileOf pool11 24 #[.nestMembers #[55, 131, 125, 114]] #[{ accessFlags := 1, nameIndex := 5, descriptorIndex := 6, attributes := #[] }] 33 2 #[] #[{ accessFlags := 25, nameIndex := 123, descriptorIndex := 124, attributes := #[] }, { accessFlags := 25, nameIndex := 130, descriptorIndex := 124, attributes := #[] }, { accessFlags := 25, nameIndex := 136, descriptorIndex := 124, attributes := #[] }])
  fields := #[{ name := "SIOOBE_FORMATTER", type := (.object "java/util/function/BiFunction"), accessFlags := 25, slot := 0, constantValue := 0 }, { name := "AIOOBE_FORMATTER", type := (.object "java/util/function/BiFunction"), accessFlags := 25, slot := 1, constantValue := 0 }, { name := "IOOBE_FORMATTER", type := (.object "java/util/function/BiFunction"), accessFlags := 25, slot := 2, constantValue := 0 }]
  methods := #[k11m0]
  instanceTypes := #[]
  staticTypes := #[(.object "java/util/function/BiFunction"), (.object "java/util/function/BiFunction"), (.object "java/util/function/BiFunction")]
  resolved := Array.replicate 194 none
  statics := some 1 }

def pool12 : Array CpInfo := pool [(9, u "<init>"), (6, .class_ 18), (1, u "java/lang/Object"), (0, u "()V"), (1, .class_ 23), (1, u "jdk/internal/util/ArraysSupport"), (0, u "LOG2_ARRAY_LONG_INDEX_SCALE"), (0, u "I"), (2, u "U"), (0, u "Ljdk/internal/misc/Unsafe;"), (8, u "BIG_ENDIAN"), (0, u "Z"), (8, u "LOG2_BYTE_BIT_SIZE"), (4, u "LOG2_ARRAY_INT_INDEX_SCALE"), (54, u "JLA"), (0, u "Ljdk/internal/access/JavaLangAccess;"), (11, u "LOG2_ARRAY_BOOLEAN_INDEX_SCALE"), (9, u "LOG2_ARRAY_BYTE_INDEX_SCALE"), (5, u "LOG2_ARRAY_CHAR_INDEX_SCALE"), (5, u "LOG2_ARRAY_SHORT_INDEX_SCALE"), (18, u "LOG2_ARRAY_FLOAT_INDEX_SCALE"), (24, u "LOG2_ARRAY_DOUBLE_INDEX_SCALE"), (89, u "T_BOOLEAN"), (2, u "T_CHAR"), (1, u "T_FLOAT"), (1, u "T_DOUBLE"), (1, u "T_BYTE"), (1, u "T_SHORT"), (1, u "T_INT"), (1, u "T_LONG"), (1, u "SOFT_MAX_ARRAY_LENGTH")] 83

def k12m0 : Method := { name := "<init>", desc := "()V", sig := { parameters := [], returnType := none }, accessFlags := 2, code := none }
/-- jdk/internal/util/ArraysSupport -/
def k12 : Class := { plain "jdk/internal/util/ArraysSupport" (some 0) with
  accessFlags := 33
  interfaces := #[]
  cf := some (fileOf pool12 21 #[] #[{ accessFlags := 2, nameIndex := 9, descriptorIndex := 19, attributes := #[] }] 33 16 #[] #[{ accessFlags := 24, nameIndex := 28, descriptorIndex := 29, attributes := #[] }, { accessFlags := 26, nameIndex := 38, descriptorIndex := 39, attributes := #[] }, { accessFlags := 25, nameIndex := 121, descriptorIndex := 25, attributes := #[] }, { accessFlags := 25, nameIndex := 131, descriptorIndex := 25, attributes := #[] }, { accessFlags := 25, nameIndex := 137, descriptorIndex := 25, attributes := #[] }, { accessFlags := 25, nameIndex := 143, descriptorIndex := 25, attributes := #[] }, { accessFlags := 25, nameIndex := 53, descriptorIndex := 25, attributes := #[] }, { accessFlags := 25, nameIndex := 24, descriptorIndex := 25, attributes := #[] }, { accessFlags := 25, nameIndex := 162, descriptorIndex := 25, attributes := #[] }, { accessFlags := 25, nameIndex := 187, descriptorIndex := 25, attributes := #[] }, { accessFlags := 26, nameIndex := 48, descriptorIndex := 25, attributes := #[] }, { accessFlags := 25, nameIndex := 277, descriptorIndex := 25, attributes := #[] }, { accessFlags := 25, nameIndex := 280, descriptorIndex := 25, attributes := #[] }, { accessFlags := 25, nameIndex := 282, descriptorIndex := 25, attributes := #[] }, { accessFlags := 25, nameIndex := 284, descriptorIndex := 25, attributes := #[] }, { accessFlags := 25, nameIndex := 286, descriptorIndex := 25, attributes := #[] }, { accessFlags := 25, nameIndex := 288, descriptorIndex := 25, attributes := #[] }, { accessFlags := 25, nameIndex := 290, descriptorIndex := 25, attributes := #[] }, { accessFlags := 25, nameIndex := 292, descriptorIndex := 25, attributes := #[] }, { accessFlags := 26, nameIndex := 108, descriptorIndex := 109, attributes := #[] }, { accessFlags := 25, nameIndex := 294, descriptorIndex := 25, attributes := #[] }])
  fields := #[{ name := "U", type := (.object "jdk/internal/misc/Unsafe"), accessFlags := 24, slot := 0, constantValue := 0 }, { name := "BIG_ENDIAN", type := .boolean, accessFlags := 26, slot := 1, constantValue := 0 }, { name := "LOG2_ARRAY_BOOLEAN_INDEX_SCALE", type := .int, accessFlags := 25, slot := 2, constantValue := 0 }, { name := "LOG2_ARRAY_BYTE_INDEX_SCALE", type := .int, accessFlags := 25, slot := 3, constantValue := 0 }, { name := "LOG2_ARRAY_CHAR_INDEX_SCALE", type := .int, accessFlags := 25, slot := 4, constantValue := 0 }, { name := "LOG2_ARRAY_SHORT_INDEX_SCALE", type := .int, accessFlags := 25, slot := 5, constantValue := 0 }, { name := "LOG2_ARRAY_INT_INDEX_SCALE", type := .int, accessFlags := 25, slot := 6, constantValue := 0 }, { name := "LOG2_ARRAY_LONG_INDEX_SCALE", type := .int, accessFlags := 25, slot := 7, constantValue := 0 }, { name := "LOG2_ARRAY_FLOAT_INDEX_SCALE", type := .int, accessFlags := 25, slot := 8, constantValue := 0 }, { name := "LOG2_ARRAY_DOUBLE_INDEX_SCALE", type := .int, accessFlags := 25, slot := 9, constantValue := 0 }, { name := "LOG2_BYTE_BIT_SIZE", type := .int, accessFlags := 26, slot := 10, constantValue := 0 }, { name := "T_BOOLEAN", type := .int, accessFlags := 25, slot := 11, constantValue := 0 }, { name := "T_CHAR", type := .int, accessFlags := 25, slot := 12, constantValue := 0 }, { name := "T_FLOAT", type := .int, accessFlags := 25, slot := 13, constantValue := 0 }, { name := "T_DOUBLE", type := .int, accessFlags := 25, slot := 14, constantValue := 0 }, { name := "T_BYTE", type := .int, accessFlags := 25, slot := 15, constantValue := 0 }, { name := "T_SHORT", type := .int, accessFlags := 25, slot := 16, constantValue := 0 }, { name := "T_INT", type := .int, accessFlags := 25, slot := 17, constantValue := 0 }, { name := "T_LONG", type := .int, accessFlags := 25, slot := 18, constantValue := 0 }, { name := "JLA", type := (.object "jdk/internal/access/JavaLangAccess"), accessFlags := 26, slot := 19, constantValue := 0 }, { name := "SOFT_MAX_ARRAY_LENGTH", type := .int, accessFlags := 25, slot := 20, constantValue := 0 }]
  methods := #[k12m0]
  instanceTypes := #[]
  staticTypes := #[(.object "jdk/internal/misc/Unsafe"), .boolean, .int, .int, .int, .int, .int, .int, .int, .int, .int, .int, .int, .int, .int, .int, .int, .int, .int, (.object "jdk/internal/access/JavaLangAccess"), .int]
  resolved := Array.replicate 378 none
  statics := none }

def pool13 : Array CpInfo := pool [(1, u "java/lang/Cloneable"), (0, .class_ 1), (0, u "java/lang/Object"), (0, .class_ 3)] 3

/-- java/lang/Cloneable -/
def k13 : Class := { plain "java/lang/Cloneable" (some 0) with
  accessFlags := 1537
  interfaces := #[]
  cf := some (fileOf pool13 2 #[] #[] 1537 4 #[] #[])
  fields := #[]
  methods := #[]
  instanceTypes := #[]
  staticTypes := #[]
  resolved := Array.replicate 8 none
  statics := none }

/-- the primitive byte -/
def k14 : Class := { plain "byte" none with kind := .primitive 'B', accessFlags := 0x411 }
/-- [B -/
def k15 : Class := { plain "[B" (some 0) with kind := .array 14 .byte, interfaces := #[13, 3], accessFlags := 1041 }

/-- the primitive int -/
def k16 : Class := { plain "int" none with kind := .primitive 'I', accessFlags := 0x411 }
/-- [I -/
def k17 : Class := { plain "[I" (some 0) with kind := .array 16 .int, interfaces := #[13, 3], accessFlags := 1041 }

def heap : Heap := #[{ cls := 8, slots := #[.long 0, .int 1, .null, .int 0, .null, .int 0, .int 0], vm := .statics 8 },
  { cls := 11, slots := #[.null, .null, .null], vm := .statics 11 }]
def classes : Array Class := #[k0, k1, k2, k3, k4, k5, k6, k7, k8, k9, k10, k11, k12, k13, k14, k15, k16, k17]
def interned : List (Array UInt16 × Addr) := []
def slotsUsed : Nat := 10
def theMethod : MethodId := ⟨1, 1⟩
def args0 : Array Value := #[.int 65, .int 0]
def aboutOver (below : List Frame) : State where
  vm := { classes := classes, interned := interned.toArray }
  heap := heap
  slotsUsed := slotsUsed
  threads := #[{ frames := .invoking theMethod args0 :: below }]
def below0 : List Frame := [.native { method := ⟨0, 0⟩, args := #[] }]
def about1 : State := aboutOver below0
def p0 : Program := .bare "" "" ""
def e0 : Env := launch0.env 0 0 0
theorem w_frames : about1.frames = Frame.invoking theMethod args0 :: below0 := rfl
set_option maxRecDepth 65536 in
theorem w_args : argsFit about1.vm theMethod args0 = true := by decide +kernel
set_option maxRecDepth 65536 in
theorem w_heap : heapFits about1 = true := by decide +kernel
set_option maxRecDepth 65536 in
theorem w_runnable : about1.curStatus? = some .runnable := by decide +kernel
set_option maxRecDepth 65536 in
theorem w_alone : about1.alone = true := by decide +kernel
set_option maxRecDepth 65536 in
theorem w_named : about1.methodNamed? x = some theMethod := by decide +kernel
set_option maxRecDepth 65536 in
theorem w_hears : about1.hears theMethod below0 = true := by decide +kernel
set_option maxRecDepth 65536 in
theorem w_ripe : about1.ripe theMethod args0 below0 = true := by decide +kernel
theorem w_running : about1.status = .running := rfl
set_option maxRecDepth 65536 in
theorem w_room : about1.hasRoom e0.platform room_1 = true :=
  launch0.hasRoom_least _ room_1 (by decide +kernel) (by decide +kernel) (by decide +kernel) (by decide +kernel) (by decide +kernel) (by decide +kernel)
theorem allAtoms_all (ts : List Jvm.Cond) (a : Array Jvm.Value) (st : Jvm.State) : (allAtoms ts).before a st = ts.all (fun c => c.before a st) := by
  induction ts with
  | nil => rfl
  | cons c t ih =>
    show (Jvm.Cond.and c (allAtoms t)).before a st = _
    rw [Jvm.Cond.before_and, ih, List.all_cons]
def words1 : List Jvm.Cond := Jvm.Cond.code x code maxLocals ret :: tables_1
/-- a 'code' word, met by the world's own term for the bytes: nothing is compared byte by byte -/
theorem code_word {y : MethodName} {bytes : ByteArray} {mx : Nat} {rt : Option FieldType} {a : Array Value} {s : State} {m : MethodId} {meth : Method} {c : Code} (h1 : s.methodNamed? y = some m) (h2 : s.vm.method? m = some meth) (h3 : meth.code = some c) (h4 : c.code = bytes)
    (h5 : (c.maxLocals == mx && c.exceptionTable.isEmpty && decide (c.maxStack ≤ mostOperands) && decide (meth.sig.returnType = rt) && !meth.locks && decide (parseMethodDescriptor y.desc = some meth.sig)) = true) : (Jvm.Cond.code y bytes mx rt).before a s = true := by
  simp only [Bool.and_eq_true, beq_iff_eq, Bool.not_eq_true', decide_eq_true_eq] at h5
  obtain ⟨⟨⟨⟨⟨g1, g2⟩, g3⟩, g4⟩, g5⟩, g6⟩ := h5
  simp [Cond.before, Cond.holds, Cond.value, h1, h2, h3, h4, g1, g2, g3, g4, g5, g6]
def isCode : Jvm.Cond → Bool
  | .code _ _ _ _ => true
  | _ => false
theorem all_split {L : List Jvm.Cond} {P : Jvm.Cond → Bool} (h1 : L.all (fun c => isCode c || P c) = true) (h2 : ∀ c ∈ L.filter isCode, P c = true) : L.all P = true := by
  refine List.all_eq_true.mpr fun c hc => ?_
  have h := List.all_eq_true.mp h1 c hc
  rcases Bool.eq_false_or_eq_true (isCode c) with hi | hi
  · exact h2 c (List.mem_filter.mpr ⟨hc, hi⟩)
  · simpa [hi] using h
set_option maxRecDepth 65536 in
theorem w_c0 : (Jvm.Cond.code x code maxLocals ret).before args0 about1 = true := code_word (m := ⟨1, 1⟩) (meth := k1m1) (c := k1c1) (by decide +kernel) rfl rfl rfl (by decide +kernel)
set_option maxRecDepth 65536 in
theorem w_c1 : (Jvm.Cond.code ({ cls := "com/example/moor/moor/http/UriSyntax", name := "isUnreserved", desc := "(I)Z" } : Jvm.MethodName) prog_67_method_2_code (1 : Nat) (Option.some Jvm.ClassFile.FieldType.boolean)).before args0 about1 = true := code_word (m := ⟨2, 1⟩) (meth := k2m1) (c := k2c1) (by decide +kernel) rfl rfl rfl (by decide +kernel)
set_option maxRecDepth 65536 in
theorem w_c2 : (Jvm.Cond.code ({ cls := "java/lang/String", name := "indexOf", desc := "(I)I" } : Jvm.MethodName) jdk_42_method_79_code (2 : Nat) (Option.some Jvm.ClassFile.FieldType.int)).before args0 about1 = true := code_word (m := ⟨8, 2⟩) (meth := k8m2) (c := k8c2) (by decide +kernel) rfl rfl rfl (by decide +kernel)
set_option maxRecDepth 65536 in
theorem w_c3 : (Jvm.Cond.code ({ cls := "java/lang/String", name := "indexOf", desc := "(II)I" } : Jvm.MethodName) jdk_42_method_80_code (3 : Nat) (Option.some Jvm.ClassFile.FieldType.int)).before args0 about1 = true := code_word (m := ⟨8, 3⟩) (meth := k8m3) (c := k8c3) (by decide +kernel) rfl rfl rfl (by decide +kernel)
set_option maxRecDepth 65536 in
theorem w_c4 : (Jvm.Cond.code ({ cls := "java/lang/String", name := "isLatin1", desc := "()Z" } : Jvm.MethodName) jdk_42_method_154_code (1 : Nat) (Option.some Jvm.ClassFile.FieldType.boolean)).before args0 about1 = true := code_word (m := ⟨8, 5⟩) (meth := k8m5) (c := k8c5) (by decide +kernel) rfl rfl rfl (by decide +kernel)
set_option maxRecDepth 65536 in
theorem w_c5 : (Jvm.Cond.code ({ cls := "java/lang/String", name := "length", desc := "()I" } : Jvm.MethodName) jdk_42_method_54_code (1 : Nat) (Option.some Jvm.ClassFile.FieldType.int)).before args0 about1 = true := code_word (m := ⟨8, 1⟩) (meth := k8m1) (c := k8c1) (by decide +kernel) rfl rfl rfl (by decide +kernel)
set_option maxRecDepth 65536 in
theorem w_c6 : (Jvm.Cond.code ({ cls := "java/lang/String", name := "coder", desc := "()B" } : Jvm.MethodName) jdk_42_method_152_code (1 : Nat) (Option.some Jvm.ClassFile.FieldType.byte)).before args0 about1 = true := code_word (m := ⟨8, 4⟩) (meth := k8m4) (c := k8c4) (by decide +kernel) rfl rfl rfl (by decide +kernel)
set_option maxRecDepth 65536 in
theorem w_c7 : (Jvm.Cond.code ({ cls := "java/lang/StringLatin1", name := "indexOf", desc := "([BIII)I" } : Jvm.MethodName) jdk_43_method_22_code (4 : Nat) (Option.some Jvm.ClassFile.FieldType.int)).before args0 about1 = true := code_word (m := ⟨9, 2⟩) (meth := k9m2) (c := k9c2) (by decide +kernel) rfl rfl rfl (by decide +kernel)
set_option maxRecDepth 65536 in
theorem w_c8 : (Jvm.Cond.code ({ cls := "java/lang/StringLatin1", name := "canEncode", desc := "(I)Z" } : Jvm.MethodName) jdk_43_method_4_code (1 : Nat) (Option.some Jvm.ClassFile.FieldType.boolean)).before args0 about1 = true := code_word (m := ⟨9, 1⟩) (meth := k9m1) (c := k9c1) (by decide +kernel) rfl rfl rfl (by decide +kernel)
set_option maxRecDepth 65536 in
theorem w_c9 : (Jvm.Cond.code ({ cls := "java/lang/Math", name := "max", desc := "(II)I" } : Jvm.MethodName) jdk_29_method_65_code (2 : Nat) (Option.some Jvm.ClassFile.FieldType.int)).before args0 about1 = true := code_word (m := ⟨10, 1⟩) (meth := k10m1) (c := k10c1) (by decide +kernel) rfl rfl rfl (by decide +kernel)
set_option maxRecDepth 65536 in
theorem w_c10 : (Jvm.Cond.code ({ cls := "java/lang/Math", name := "min", desc := "(II)I" } : Jvm.MethodName) jdk_29_method_69_code (2 : Nat) (Option.some Jvm.ClassFile.FieldType.int)).before args0 about1 = true := code_word (m := ⟨10, 2⟩) (meth := k10m2) (c := k10c2) (by decide +kernel) rfl rfl rfl (by decide +kernel)
set_option maxRecDepth 65536 in
theorem w_c11 : (Jvm.Cond.code ({ cls := "java/lang/StringLatin1", name := "indexOfChar", desc := "([BIII)I" } : Jvm.MethodName) jdk_43_method_23_code (6 : Nat) (Option.some Jvm.ClassFile.FieldType.int)).before args0 about1 = true := code_word (m := ⟨9, 3⟩) (meth := k9m3) (c := k9c3) (by decide +kernel) rfl rfl rfl (by decide +kernel)
set_option maxRecDepth 65536 in
theorem w_c12 : (Jvm.Cond.code ({ cls := "com/example/moor/moor/http/UriSyntaxIsUnreservedPinLaw", name := "expected", desc := "(I)Z" } : Jvm.MethodName) method_3_code (1 : Nat) (Option.some Jvm.ClassFile.FieldType.boolean)).before args0 about1 = true := code_word (m := ⟨1, 2⟩) (meth := k1m2) (c := k1c2) (by decide +kernel) rfl rfl rfl (by decide +kernel)
def codes1 : List Jvm.Cond := [Jvm.Cond.code x code maxLocals ret, Jvm.Cond.code ({ cls := "com/example/moor/moor/http/UriSyntax", name := "isUnreserved", desc := "(I)Z" } : Jvm.MethodName) prog_67_method_2_code (1 : Nat) (Option.some Jvm.ClassFile.FieldType.boolean), Jvm.Cond.code ({ cls := "java/lang/String", name := "indexOf", desc := "(I)I" } : Jvm.MethodName) jdk_42_method_79_code (2 : Nat) (Option.some Jvm.ClassFile.FieldType.int), Jvm.Cond.code ({ cls := "java/lang/String", name := "indexOf", desc := "(II)I" } : Jvm.MethodName) jdk_42_method_80_code (3 : Nat) (Option.some Jvm.ClassFile.FieldType.int), Jvm.Cond.code ({ cls := "java/lang/String", name := "isLatin1", desc := "()Z" } : Jvm.MethodName) jdk_42_method_154_code (1 : Nat) (Option.some Jvm.ClassFile.FieldType.boolean), Jvm.Cond.code ({ cls := "java/lang/String", name := "length", desc := "()I" } : Jvm.MethodName) jdk_42_method_54_code (1 : Nat) (Option.some Jvm.ClassFile.FieldType.int), Jvm.Cond.code ({ cls := "java/lang/String", name := "coder", desc := "()B" } : Jvm.MethodName) jdk_42_method_152_code (1 : Nat) (Option.some Jvm.ClassFile.FieldType.byte), Jvm.Cond.code ({ cls := "java/lang/StringLatin1", name := "indexOf", desc := "([BIII)I" } : Jvm.MethodName) jdk_43_method_22_code (4 : Nat) (Option.some Jvm.ClassFile.FieldType.int), Jvm.Cond.code ({ cls := "java/lang/StringLatin1", name := "canEncode", desc := "(I)Z" } : Jvm.MethodName) jdk_43_method_4_code (1 : Nat) (Option.some Jvm.ClassFile.FieldType.boolean), Jvm.Cond.code ({ cls := "java/lang/Math", name := "max", desc := "(II)I" } : Jvm.MethodName) jdk_29_method_65_code (2 : Nat) (Option.some Jvm.ClassFile.FieldType.int), Jvm.Cond.code ({ cls := "java/lang/Math", name := "min", desc := "(II)I" } : Jvm.MethodName) jdk_29_method_69_code (2 : Nat) (Option.some Jvm.ClassFile.FieldType.int), Jvm.Cond.code ({ cls := "java/lang/StringLatin1", name := "indexOfChar", desc := "([BIII)I" } : Jvm.MethodName) jdk_43_method_23_code (6 : Nat) (Option.some Jvm.ClassFile.FieldType.int), Jvm.Cond.code ({ cls := "com/example/moor/moor/http/UriSyntaxIsUnreservedPinLaw", name := "expected", desc := "(I)Z" } : Jvm.MethodName) method_3_code (1 : Nat) (Option.some Jvm.ClassFile.FieldType.boolean)]
set_option maxRecDepth 65536 in
theorem codes_eq : words1.filter isCode = codes1 := rfl
theorem w_codes : ∀ c ∈ words1.filter isCode, c.before args0 about1 = true := by
  rw [codes_eq]
  intro c hc
  simp only [codes1, List.mem_cons, List.not_mem_nil, or_false] at hc
  rcases hc with rfl | rfl | rfl | rfl | rfl | rfl | rfl | rfl | rfl | rfl | rfl | rfl | rfl
  · exact w_c0
  · exact w_c1
  · exact w_c2
  · exact w_c3
  · exact w_c4
  · exact w_c5
  · exact w_c6
  · exact w_c7
  · exact w_c8
  · exact w_c9
  · exact w_c10
  · exact w_c11
  · exact w_c12
set_option maxRecDepth 65536 in
theorem w_t1 : (words1.take 24).all (fun c => isCode c || c.before args0 about1) = true := by decide +kernel
set_option maxRecDepth 65536 in
theorem w_t2 : ((words1.drop 24).take 24).all (fun c => isCode c || c.before args0 about1) = true := by decide +kernel
set_option maxRecDepth 65536 in
theorem w_t3 : ((words1.drop 24).drop 24).all (fun c => isCode c || c.before args0 about1) = true := by decide +kernel
theorem w_tables : (allAtoms (Jvm.Cond.code x code maxLocals ret :: tables_1)).before args0 about1 = true := by
  rw [allAtoms_all]
  show words1.all (fun c => c.before args0 about1) = true
  refine all_split ?_ w_codes
  rw [← List.take_append_drop 24 words1, List.all_append, w_t1, ← List.take_append_drop 24 (words1.drop 24), List.all_append, w_t2, w_t3]
  rfl
set_option maxRecDepth 65536 in
theorem w_rest : rest_1_c.before args0 about1 = true := by decide +kernel
set_option maxRecDepth 65536 in
theorem w_case : (Jvm.Cond.and given_1 narrow_1).before args0 about1 = true := by decide +kernel
set_option maxRecDepth 65536 in
theorem w_consts : constsHeld consts_1 about1 := Jvm.Lit.constsHeldB_iff.mp (by decide +kernel)
theorem w_applies : (headSpec (Jvm.Cond.code x code maxLocals ret :: tables_1) room_1).applies x e0.platform about1 = true :=
  (Spec.applies_iff w_frames).mpr ⟨w_running, w_runnable, w_alone, w_named, w_hears, w_ripe, w_room, w_tables⟩
theorem atStart : AtStart classFile x code maxLocals ret World_1 tables_1 room_1 Calls_1 rest_1 Pre_1 launch0 p0 e0 about1 theMethod args0 below0 :=
  ⟨lists_1, trivial, launch0.admits_env _ _ _, launch0.least_env, fairChoices_fair.cas, fairChoices_fair.clock, w_frames, w_args, w_heap, w_applies, ⟨w_consts, trivial⟩, w_rest, w_case⟩
end start1
theorem witness_1 : WitnessClaimed_1 := ⟨start1.p0, start1.e0, start1.about1, start1.theMethod, start1.args0, start1.below0, start1.atStart⟩
end Jvm.Pilot.@@N@@
