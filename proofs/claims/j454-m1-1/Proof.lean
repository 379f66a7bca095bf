import JvmDerived
import JvmDerived.Pilot.@@N@@Statement
import JvmDerived.Pilot.@@N@@Code
set_option linter.unusedVariables false
set_option linter.unusedSimpArgs false
namespace Jvm.Own
open Sem ClassFile Op Lib Jvm.Free Jvm.Stand Jvm.LawKit Jvm.RoadKit Bundle
/-- the walk of a method's body from one point on: it ends in a return that answers Q -/
def Go (p : Program) (l : Launch) (e : Env) (R : Room) (s : State) (m : MethodId) (args : Array Value) (below : List Frame) (meth : Method) (c : Code) (Z : State) (a0 : Array Value) (EL : List (String × Nat)) (nw : Prop) (Q : Option Value → Vm → Heap → Prop)
    (vm : Vm) (h : Heap) (k n pc : Nat) (L : Array Slot) (st : List Value) : Prop :=
  ∀ (T : State) (locs : List Loc) (k0 : Nat), p.tables.exec = Jvm.exec → meth.locks = false → EW Z a0 EL →
    Stand p l e R (s.setVm vm) m args below meth c T locs k n → T.heap = h → s.Since vm k0 → k0 ≤ h.size → Fr Z.heap.size locs → Z.Warmed39 vm → (nw → s.WarmedH vm) → CHr Z EL s.vm s.heap vm h → Ext Z.heap h →
    ∃ (t : State) (v : Option Value) (L' : List Loc), Steps p.tables e below (T.setTop (mkF m pc L st)) t ∧ t.status = .running ∧ Ended t below (.returned v) ∧ Fr Z.heap.size L' ∧ Q v t.vm t.heap ∧ CHr Z EL s.vm s.heap t.vm t.heap ∧ Ext Z.heap t.heap ∧ ReturnedEndW s (.returned v) t L' R.cells R.slots ∧ (nw → s.WarmedH t.vm)
/-- a method's contract at one call: these arguments, this heap; sf: what it may write of Strings and byte arrays -/
def Ct (l : Launch) (Z : State) (EL : List (String × Nat)) (nw : Prop) (ws : List Jvm.Cond) (y : MethodName) (bytes : ByteArray) (maxL : Nat) (ret : Option FieldType) (rm : Room) (as : Array Value) (h : Heap) (sf : List Addr) (Q : Option Value → Vm → Heap → Prop) : Prop :=
  MetFree l y (head1 (Jvm.Cond.code y bytes maxL ret :: ws) rm) (fun a U => a = as ∧ Z.Warmed39 U.vm ∧ U.heap = h ∧ CHv Z EL U.vm h ∧ Ext Z.heap h ∧ ∀ x ∈ sf, Safe Z EL U.vm h x) (fun _ _ _ _ _ => True)
    (fun _ U o U' => ∃ v L, o = .returned v ∧ Fr Z.heap.size L ∧ Q v U'.vm U'.heap ∧ CHr Z EL U.vm U.heap U'.vm U'.heap ∧ Ext Z.heap U'.heap ∧ (nw → U.WarmedH U'.vm) ∧ ReturnedEndW U o U' L rm.cells rm.slots)
/-- an array, by its components -/
def Ar (Z : State) (h : Heap) (a : Addr) (k : ClassId) (ty : FieldType) (vs : List Value) : Prop := ∃ c : Cell, Arr Z h a c ty ∧ c.cls = k ∧ c.slots.toList = vs
/-- a String of Latin-1 bytes -/
def St (Z : State) (h : Heap) (a b : Addr) (k : ClassId) (bs : List Int32) : Prop := Exa Z h a "java/lang/String" ∧ Fld Z h a "java/lang/String" "coder" "B" (.int 0) ∧ Fld Z h a "java/lang/String" "value" "[B" (.ref b) ∧ Ar Z h b k .byte (bs.map Value.int) ∧ bs.length < 536870912
section Facts
variable {Z : State} {h h' h0 : Heap} {a b w : Addr} {k : ClassId} {ty : FieldType} {vs : List Value} {bs : List Int32} {ws : List Addr} {sl : Nat} {v : Value} {EL : List (String × Nat)} {vm vm' : Vm}
theorem ext_trans {h1 h2 h3 : Heap} (E : Ext h1 h2) (F : Ext h2 h3) : Ext h1 h3 := ⟨Nat.le_trans E.1 F.1, fun a c q => F.2 a c (E.2 a c q)⟩
theorem ext_keep (O : Ext Z.heap h) (K : Keep h h' ws) (q : ∀ x ∈ ws, Z.heap.size ≤ x) : Ext Z.heap h' := (Old.keep (n0 := Z.heap.size) ⟨rfl, O⟩ K q).2
theorem ext_wr (O : Ext Z.heap h) (W : Wr h h' a sl v) (q : Z.heap.size ≤ a) : Ext Z.heap h' := (Old.wr (n0 := Z.heap.size) ⟨rfl, O⟩ W q).2
theorem Ar.lt (F : Ar Z h a k ty vs) : a < h.size := by obtain ⟨c, A, -⟩ := F; exact A.lt
theorem Ar.ext (F : Ar Z h a k ty vs) (E : Ext h h') : Ar Z h' a k ty vs := by obtain ⟨c, A, r⟩ := F; exact ⟨c, A.ext E, r⟩
theorem Ar.other (F : Ar Z h a k ty vs) (W : Wr h h' b sl v) (q : a ≠ b) : Ar Z h' a k ty vs := by obtain ⟨c, A, r⟩ := F; exact ⟨c, A.other W q, r⟩
theorem Ar.keep (F : Ar Z h a k ty vs) (K : Keep h h' ws) (q : a ∉ ws) : Ar Z h' a k ty vs := by obtain ⟨c, A, r⟩ := F; exact ⟨c, ⟨K.2.1 a c A.1 q, A.2⟩, r⟩
theorem Ar.set (F : Ar Z h a k ty vs) (W : Wr h h' a sl v) : Ar Z h' a k ty (vs.set sl v) := by
  obtain ⟨c, A, r1, r2⟩ := F
  refine ⟨_, A.same W, r1, ?_⟩
  simp [Cell.setSlot, r2]
theorem Ar.of_arv {z : Int32} {d : Value} (F : Arv Z h a k ty z vs d) (hl : z.toNatClampNeg = vs.length) : Ar Z h a k ty vs := by
  obtain ⟨c, A, r1, r2, r3, H, -⟩ := F
  refine ⟨c, A, r1, List.ext_getElem? fun i => ?_⟩
  by_cases hi : i < c.slots.size
  · have q := H i hi
    rw [Array.getElem?_toList, q]
    have : i < vs.length := by omega
    simp [List.getD, this]
  · rw [Array.getElem?_toList, Array.getElem?_eq_none (by omega), List.getElem?_eq_none (by omega)]
theorem Ar.safe (hal : Z.vm.Alike vm) (F : Ar Z h a k ty vs) (ht : ty ≠ .byte) : Safe Z EL vm h a := by obtain ⟨c, A, -⟩ := F; exact Safe.arr hal A ht
theorem Ar.ne_exa {C : String} {a0 : Array Value} {kk : Nat} (F : Ar Z h a k ty vs) (E : Exa Z h b C) (wi : (Jvm.Cond.instantiable C kk).before a0 Z = true) : b ≠ a := by obtain ⟨c, A, -⟩ := F; exact ne_arr E wi A
theorem Ar.ne_ty {ty' : FieldType} {k' : ClassId} {vs' : List Value} (F : Ar Z h a k ty vs) (G : Ar Z h b k' ty' vs') (hn : ty ≠ ty') : a ≠ b := by
  rintro rfl
  obtain ⟨c, A, -⟩ := F
  obtain ⟨c', B, -⟩ := G
  cases A.1.symm.trans B.1
  obtain ⟨-, k1, h1, c1, h2⟩ := A.2.1
  obtain ⟨-, k2, g1, c2, g2⟩ := B.2.1
  cases h1.symm.trans g1
  have q := h2.symm.trans g2
  injection q with _ e
  exact hn e
theorem St.lt (F : St Z h a b k bs) : a < h.size := F.1.lt
theorem St.ltb (F : St Z h a b k bs) : b < h.size := F.2.2.2.1.lt
theorem Fld.uniq {C n d : String} {v w : Value} (F : Fld Z h a C n d v) (G : Fld Z h a C n d w) : v = w := Classical.byContradiction fun q => Fld.ne F G q rfl
theorem Ar.uniq {k' : ClassId} {ty' : FieldType} {vs' : List Value} (F : Ar Z h a k ty vs) (G : Ar Z h a k' ty' vs') : vs = vs' := by
  obtain ⟨c, A, -, rfl⟩ := F
  obtain ⟨c', B, -, rfl⟩ := G
  cases A.1.symm.trans B.1; rfl
theorem map_int_inj {xs ys : List Int32} (q : xs.map Value.int = ys.map Value.int) : xs = ys := by
  induction xs generalizing ys with
  | nil => cases ys with | nil => rfl | cons y ys => cases q
  | cons x xs ih => cases ys with
    | nil => cases q
    | cons y ys => simp only [List.map_cons, List.cons.injEq, Value.int.injEq] at q; rw [q.1, ih q.2]
theorem St.uniq {b' : Addr} {k' : ClassId} {bs' : List Int32} (F : St Z h a b k bs) (G : St Z h a b' k' bs') : bs = bs' := by
  cases Value.ref.inj (Fld.uniq F.2.2.1 G.2.2.1)
  exact map_int_inj (Ar.uniq F.2.2.2.1 G.2.2.2.1)
theorem St.ext (F : St Z h a b k bs) (E : Ext h h') : St Z h' a b k bs := ⟨F.1.ext E, F.2.1.ext E, F.2.2.1.ext E, F.2.2.2.1.ext E, F.2.2.2.2⟩
theorem St.keep (F : St Z h a b k bs) (K : Keep h h' ws) (q : a ∉ ws) (q' : b ∉ ws) : St Z h' a b k bs := ⟨F.1.keep K, F.2.1.keep K q, F.2.2.1.keep K q, F.2.2.2.1.keep K q', F.2.2.2.2⟩
theorem St.wr (F : St Z h a b k bs) (W : Wr h h' w sl v) (q : a ≠ w) (q' : b ≠ w) : St Z h' a b k bs := F.keep (Keep.of_wr W) (by simpa using q) (by simpa using q')
theorem Keep.ofExt (E : Ext h h') : Keep h h' [] := (Keep.refl h []).ext E
theorem Keep.tr (K : Keep h0 h ws) (K' : Keep h h' ws) : Keep h0 h' ws := K.trans K' fun x hx => Or.inl hx
theorem Keep.more {ws' : List Addr} (K : Keep h h' ws) (q : ∀ x ∈ ws, x ∈ ws' ∨ h.size ≤ x) : Keep h h' ws' := (Keep.refl h ws').trans K q
theorem ltN {x : Addr} {n : Nat} (q : x < n) : n > x := q
theorem neN {x y : Addr} (q : @Eq Nat x y → False) : x ≠ y := q
theorem Safe.to (C : CHr Z EL vm h vm' h') (lt : h.size > a) (S : Safe Z EL vm h a) : Safe Z EL vm' h' a := C.safe lt S
theorem tr0 (E : Ext h h') : h.size ≤ h'.size := E.1
theorem cat1 {v : Value} (q : v.isRef = true) : v.category = 1 := by cases v <;> simp [Value.isRef] at q <;> rfl
theorem narU {v : Value} {ty : FieldType} (q : v.isRef = true) : narrow ty v = v := by cases v <;> simp [Value.isRef] at q <;> cases ty <;> rfl
theorem fitsU {v : Value} {ty : FieldType} (r : ty.isReference = true) (q : v.isRef = true) : fits ty v = true := by cases ty <;> simp [FieldType.isReference] at r <;> cases v <;> simp [Value.isRef] at q <;> rfl
theorem noInst {a0 : Array Value} {C K : String} {n : Nat} (w : (Jvm.Cond.superclass C "java/lang/Object").before a0 Z = true) (w0 : (Jvm.Cond.noSuperclass "java/lang/Object").before a0 Z = true) (wi : (Jvm.Cond.instantiable K n).before a0 Z = true) (h1 : C ≠ K) (h2 : "java/lang/Object" ≠ K) : ∃ c t, Z.vm.findClass C = some c ∧ Z.vm.findClass K = some t ∧ Z.vm.assignable c t = false := by
  obtain ⟨t, kt, g0, g2, g5, g7, -, -⟩ := Cond.instantiable_spec wi
  have g7' : kt.isInterface = false := (Bool.or_eq_false_iff.mp g7).1
  have n0 : NS Z "java/lang/Object" K := by
    obtain ⟨c, k, q1, q2, q3, -, -⟩ := Cond.noSuperclass_spec w0
    have ne := ids_ne q1 g0 h2
    refine ⟨c, t, q1, g0, fun fuel => ?_⟩
    cases fuel with
    | zero => rfl
    | succ f => simp [Vm.isSubclassAux, ne, q2, q3]
  obtain ⟨c, t', h0, g0', n3⟩ := NS.step w n0 h1
  cases g0.symm.trans g0'
  obtain ⟨p, k, kp, q1, q2, q3, q4, q5, -, q7⟩ := Cond.superclass_spec h0 w
  have ne := ids_ne h0 g0 h1
  refine ⟨c, t, h0, g0, ?_⟩
  show Z.vm.assignableAux (255 + 1) c t = false
  simp [Vm.assignableAux, ne, q2, g2, q5, g5, g7', Vm.isSubclass, n3]
theorem own_rep {α : Type} (n : Nat) (v : α) : Array.replicate n v = (List.replicate n v).toArray := rfl
theorem Wr.sz (W : Wr h h' a sl v) : h'.size = h.size := W.size
end Facts
section Walk
variable {p : Program} {l : Launch} {e : Env} {R : Room} {s : State} {m : MethodId} {args : Array Value} {below : List Frame} {meth : Method} {c : Code} {Z : State} {a0 : Array Value} {EL : List (String × Nat)} {nw : Prop} {Q : Option Value → Vm → Heap → Prop} {vm : Vm} {h : Heap} {k n pc pc' : Nat} {L : Array Slot} {st : List Value}
theorem Go.plain {pc2 : Nat} {L2 : Array Slot} {st2 : List Value} (hstep : ∀ (T : State) (locs : List Loc), p.tables.exec = Jvm.exec → Stand p l e R (s.setVm vm) m args below meth c T locs k n → ∀ target, Steps p.tables e below (T.setTop (mkF m pc2 L2 st2)) target → Steps p.tables e below (T.setTop (mkF m pc L st)) target)
    (K : Go p l e R s m args below meth c Z a0 EL nw Q vm h k n pc2 L2 st2) : Go p l e R s m args below meth c Z a0 EL nw Q vm h k n pc L st := fun T locs k0 hx hk hE X eT hS hk0 hF hZ hN hC hO => by
  obtain ⟨t, v, L', r1, r2⟩ := K T locs k0 hx hk hE X eT hS hk0 hF hZ hN hC hO
  exact ⟨t, v, L', hstep T locs hx X _ r1, r2⟩
theorem Go.mono {k' n' : Nat} (K : Go p l e R s m args below meth c Z a0 EL nw Q vm h k' n' pc L st) (hk : k ≤ k') (hn : n ≤ n') : Go p l e R s m args below meth c Z a0 EL nw Q vm h k n pc L st := fun T locs k0 hx hl hE X eT hS hk0 hF hZ hN hC hO =>
  K T locs k0 hx hl hE ⟨X.admits, X.cas, X.clock, X.frames, X.room, X.hears, X.method, X.code, X.here, X.tail, X.warmed, X.limits, X.bytes, X.same.mono hk hn⟩ eT hS hk0 hF hZ hN hC hO
theorem Go.aloadN {q : Fin 4} {v : Value} (hd : decode c.code pc = .ok (.aload_n q, 1)) (hp : pc + 1 = pc') (hl : L[q.val]? = some (.val v)) (hv : v.isRef = true) (K : Go p l e R s m args below meth c Z a0 EL nw Q vm h k n pc' L (v :: st)) : Go p l e R s m args below meth c Z a0 EL nw Q vm h k n pc L st := by
  subst hp
  exact Go.plain (fun T _ hx X _ r => XS.aloadN X.here hx rfl hd hl hv r) K
theorem Go.aload {q : Nat} {v : Value} (hd : decode c.code pc = .ok (.aload q, 2)) (hp : pc + 2 = pc') (hl : L[q]? = some (.val v)) (hv : v.isRef = true) (K : Go p l e R s m args below meth c Z a0 EL nw Q vm h k n pc' L (v :: st)) : Go p l e R s m args below meth c Z a0 EL nw Q vm h k n pc L st := by
  subst hp
  exact Go.plain (fun T _ hx X _ r => XS.aload X.here hx rfl hd hl hv r) K
theorem Go.iloadN {q : Fin 4} {z : Int32} (hd : decode c.code pc = .ok (.iload_n q, 1)) (hp : pc + 1 = pc') (hl : L[q.val]? = some (.val (.int z))) (K : Go p l e R s m args below meth c Z a0 EL nw Q vm h k n pc' L (.int z :: st)) : Go p l e R s m args below meth c Z a0 EL nw Q vm h k n pc L st := by
  subst hp
  exact Go.plain (fun T _ hx X _ r => XS.iloadN X.here hx rfl hd hl r) K
theorem Go.iload {q : Nat} {z : Int32} (hd : decode c.code pc = .ok (.iload q, 2)) (hp : pc + 2 = pc') (hl : L[q]? = some (.val (.int z))) (K : Go p l e R s m args below meth c Z a0 EL nw Q vm h k n pc' L (.int z :: st)) : Go p l e R s m args below meth c Z a0 EL nw Q vm h k n pc L st := by
  subst hp
  exact Go.plain (fun T _ hx X _ r => XS.iload X.here hx rfl hd hl r) K
theorem Go.lloadN {q : Fin 4} {z : Int64} (hd : decode c.code pc = .ok (.lload_n q, 1)) (hp : pc + 1 = pc') (hl : L[q.val]? = some (.val (.long z))) (K : Go p l e R s m args below meth c Z a0 EL nw Q vm h k n pc' L (.long z :: st)) : Go p l e R s m args below meth c Z a0 EL nw Q vm h k n pc L st := by
  subst hp
  exact Go.plain (fun T _ hx X _ r => XT.lloadN X.here hx rfl hd hl r) K
theorem Go.lload {q : Nat} {z : Int64} (hd : decode c.code pc = .ok (.lload q, 2)) (hp : pc + 2 = pc') (hl : L[q]? = some (.val (.long z))) (K : Go p l e R s m args below meth c Z a0 EL nw Q vm h k n pc' L (.long z :: st)) : Go p l e R s m args below meth c Z a0 EL nw Q vm h k n pc L st := by
  subst hp
  exact Go.plain (fun T _ hx X _ r => XT.lload X.here hx rfl hd hl r) K
theorem Go.iconst {i : Int} {z : Int32} (hd : decode c.code pc = .ok (.iconst i, 1)) (hp : pc + 1 = pc') (hz : Int32.ofInt i = z) (K : Go p l e R s m args below meth c Z a0 EL nw Q vm h k n pc' L (.int z :: st)) : Go p l e R s m args below meth c Z a0 EL nw Q vm h k n pc L st := by
  subst hp
  exact Go.plain (fun T _ hx X _ r => XS.iconst X.here hx rfl hd (by rw [hz]; exact r)) K
theorem Go.bipush {i : Int} {z : Int32} (hd : decode c.code pc = .ok (.bipush i, 2)) (hp : pc + 2 = pc') (hz : (Int8.ofInt i).toInt32 = z) (K : Go p l e R s m args below meth c Z a0 EL nw Q vm h k n pc' L (.int z :: st)) : Go p l e R s m args below meth c Z a0 EL nw Q vm h k n pc L st := by
  subst hp
  exact Go.plain (fun T _ hx X _ r => XS.bipush X.here hx rfl hd (by rw [hz]; exact r)) K
theorem Go.sipush {i : Int} {z : Int32} (hd : decode c.code pc = .ok (.sipush i, 3)) (hp : pc + 3 = pc') (hz : (Int16.ofInt i).toInt32 = z) (K : Go p l e R s m args below meth c Z a0 EL nw Q vm h k n pc' L (.int z :: st)) : Go p l e R s m args below meth c Z a0 EL nw Q vm h k n pc L st := by
  subst hp
  exact Go.plain (fun T _ hx X _ r => XS.sipush X.here hx rfl hd (by rw [hz]; exact r)) K
theorem Go.lconst {q : Fin 2} (hd : decode c.code pc = .ok (.lconst q, 1)) (hp : pc + 1 = pc') (K : Go p l e R s m args below meth c Z a0 EL nw Q vm h k n pc' L (.long (Int64.ofNat q) :: st)) : Go p l e R s m args below meth c Z a0 EL nw Q vm h k n pc L st := by
  subst hp
  exact Go.plain (fun T _ hx X _ r => XT.lconst X.here hx rfl hd r) K
theorem Go.aconstNull (hd : decode c.code pc = .ok (.aconst_null, 1)) (hp : pc + 1 = pc') (K : Go p l e R s m args below meth c Z a0 EL nw Q vm h k n pc' L (.null :: st)) : Go p l e R s m args below meth c Z a0 EL nw Q vm h k n pc L st := by
  subst hp
  exact Go.plain (fun T _ hx X _ r => XS.aconstNull X.here hx rfl hd r) K
theorem Go.iadd {x y : Int32} (hd : decode c.code pc = .ok (.iadd, 1)) (hp : pc + 1 = pc') (K : Go p l e R s m args below meth c Z a0 EL nw Q vm h k n pc' L (.int (x + y) :: st)) : Go p l e R s m args below meth c Z a0 EL nw Q vm h k n pc L (.int y :: .int x :: st) := by
  subst hp
  exact Go.plain (fun T _ hx X _ r => XS.iadd X.here hx rfl hd rfl r) K
theorem Go.isub {x y : Int32} (hd : decode c.code pc = .ok (.isub, 1)) (hp : pc + 1 = pc') (K : Go p l e R s m args below meth c Z a0 EL nw Q vm h k n pc' L (.int (x - y) :: st)) : Go p l e R s m args below meth c Z a0 EL nw Q vm h k n pc L (.int y :: .int x :: st) := by
  subst hp
  exact Go.plain (fun T _ hx X _ r => XS.isub X.here hx rfl hd rfl r) K
theorem Go.iand {x y : Int32} (hd : decode c.code pc = .ok (.iand, 1)) (hp : pc + 1 = pc') (K : Go p l e R s m args below meth c Z a0 EL nw Q vm h k n pc' L (.int (x &&& y) :: st)) : Go p l e R s m args below meth c Z a0 EL nw Q vm h k n pc L (.int y :: .int x :: st) := by
  subst hp
  exact Go.plain (fun T _ hx X _ r => XS.iand X.here hx rfl hd rfl r) K
theorem Go.imul {x y : Int32} (hd : decode c.code pc = .ok (.imul, 1)) (hp : pc + 1 = pc') (K : Go p l e R s m args below meth c Z a0 EL nw Q vm h k n pc' L (.int (x * y) :: st)) : Go p l e R s m args below meth c Z a0 EL nw Q vm h k n pc L (.int y :: .int x :: st) := by
  subst hp
  exact Go.plain (fun T _ hx X _ r => XS.imul X.here hx rfl hd rfl r) K
theorem Go.ineg {x : Int32} (hd : decode c.code pc = .ok (.ineg, 1)) (hp : pc + 1 = pc') (K : Go p l e R s m args below meth c Z a0 EL nw Q vm h k n pc' L (.int (-x) :: st)) : Go p l e R s m args below meth c Z a0 EL nw Q vm h k n pc L (.int x :: st) := by
  subst hp
  exact Go.plain (fun T _ hx X _ r => XS.ineg X.here hx rfl hd rfl r) K
theorem Go.idiv {x y : Int32} (hd : decode c.code pc = .ok (.idiv, 1)) (hp : pc + 1 = pc') (hy : y ≠ 0) (K : Go p l e R s m args below meth c Z a0 EL nw Q vm h k n pc' L (.int (x / y) :: st)) : Go p l e R s m args below meth c Z a0 EL nw Q vm h k n pc L (.int y :: .int x :: st) := by
  subst hp
  exact Go.plain (fun T _ hx X _ r => XS.idiv X.here hx rfl hd rfl hy r) K
theorem Go.ixor {x y : Int32} (hd : decode c.code pc = .ok (.ixor, 1)) (hp : pc + 1 = pc') (K : Go p l e R s m args below meth c Z a0 EL nw Q vm h k n pc' L (.int (x ^^^ y) :: st)) : Go p l e R s m args below meth c Z a0 EL nw Q vm h k n pc L (.int y :: .int x :: st) := by
  subst hp
  exact Go.plain (fun T _ hx X _ r => XT.ixor X.here hx rfl hd rfl r) K
theorem Go.ior {x y : Int32} (hd : decode c.code pc = .ok (.ior, 1)) (hp : pc + 1 = pc') (K : Go p l e R s m args below meth c Z a0 EL nw Q vm h k n pc' L (.int (x ||| y) :: st)) : Go p l e R s m args below meth c Z a0 EL nw Q vm h k n pc L (.int y :: .int x :: st) := by
  subst hp
  exact Go.plain (fun T _ hx X _ r => XT.ior X.here hx rfl hd rfl r) K
theorem Go.ishl {x y : Int32} (hd : decode c.code pc = .ok (.ishl, 1)) (hp : pc + 1 = pc') (K : Go p l e R s m args below meth c Z a0 EL nw Q vm h k n pc' L (.int (x <<< (y &&& 31)) :: st)) : Go p l e R s m args below meth c Z a0 EL nw Q vm h k n pc L (.int y :: .int x :: st) := by
  subst hp
  exact Go.plain (fun T _ hx X _ r => XT.ishl X.here hx rfl hd rfl r) K
theorem Go.ishr {x y : Int32} (hd : decode c.code pc = .ok (.ishr, 1)) (hp : pc + 1 = pc') (K : Go p l e R s m args below meth c Z a0 EL nw Q vm h k n pc' L (.int (x >>> (y &&& 31)) :: st)) : Go p l e R s m args below meth c Z a0 EL nw Q vm h k n pc L (.int y :: .int x :: st) := by
  subst hp
  exact Go.plain (fun T _ hx X _ r => XT.ishr X.here hx rfl hd rfl r) K
theorem Go.iushr {x y : Int32} (hd : decode c.code pc = .ok (.iushr, 1)) (hp : pc + 1 = pc') (K : Go p l e R s m args below meth c Z a0 EL nw Q vm h k n pc' L (.int (XT.ushr x y) :: st)) : Go p l e R s m args below meth c Z a0 EL nw Q vm h k n pc L (.int y :: .int x :: st) := by
  subst hp
  exact Go.plain (fun T _ hx X _ r => XT.iushr X.here hx rfl hd rfl r) K
theorem Go.ladd {x y : Int64} (hd : decode c.code pc = .ok (.ladd, 1)) (hp : pc + 1 = pc') (K : Go p l e R s m args below meth c Z a0 EL nw Q vm h k n pc' L (.long (x + y) :: st)) : Go p l e R s m args below meth c Z a0 EL nw Q vm h k n pc L (.long y :: .long x :: st) := by
  subst hp
  exact Go.plain (fun T _ hx X _ r => XT.ladd X.here hx rfl hd rfl r) K
theorem Go.lsub {x y : Int64} (hd : decode c.code pc = .ok (.lsub, 1)) (hp : pc + 1 = pc') (K : Go p l e R s m args below meth c Z a0 EL nw Q vm h k n pc' L (.long (x - y) :: st)) : Go p l e R s m args below meth c Z a0 EL nw Q vm h k n pc L (.long y :: .long x :: st) := by
  subst hp
  exact Go.plain (fun T _ hx X _ r => XT.lsub X.here hx rfl hd rfl r) K
theorem Go.lmul {x y : Int64} (hd : decode c.code pc = .ok (.lmul, 1)) (hp : pc + 1 = pc') (K : Go p l e R s m args below meth c Z a0 EL nw Q vm h k n pc' L (.long (x * y) :: st)) : Go p l e R s m args below meth c Z a0 EL nw Q vm h k n pc L (.long y :: .long x :: st) := by
  subst hp
  exact Go.plain (fun T _ hx X _ r => XT.lmul X.here hx rfl hd rfl r) K
theorem Go.land {x y : Int64} (hd : decode c.code pc = .ok (.land, 1)) (hp : pc + 1 = pc') (K : Go p l e R s m args below meth c Z a0 EL nw Q vm h k n pc' L (.long (x &&& y) :: st)) : Go p l e R s m args below meth c Z a0 EL nw Q vm h k n pc L (.long y :: .long x :: st) := by
  subst hp
  exact Go.plain (fun T _ hx X _ r => XT.land X.here hx rfl hd rfl r) K
theorem Go.lor {x y : Int64} (hd : decode c.code pc = .ok (.lor, 1)) (hp : pc + 1 = pc') (K : Go p l e R s m args below meth c Z a0 EL nw Q vm h k n pc' L (.long (x ||| y) :: st)) : Go p l e R s m args below meth c Z a0 EL nw Q vm h k n pc L (.long y :: .long x :: st) := by
  subst hp
  exact Go.plain (fun T _ hx X _ r => XT.lor X.here hx rfl hd rfl r) K
theorem Go.lxor {x y : Int64} (hd : decode c.code pc = .ok (.lxor, 1)) (hp : pc + 1 = pc') (K : Go p l e R s m args below meth c Z a0 EL nw Q vm h k n pc' L (.long (x ^^^ y) :: st)) : Go p l e R s m args below meth c Z a0 EL nw Q vm h k n pc L (.long y :: .long x :: st) := by
  subst hp
  exact Go.plain (fun T _ hx X _ r => XT.lxor X.here hx rfl hd rfl r) K
theorem Go.lshl {x : Int64} {y : Int32} (hd : decode c.code pc = .ok (.lshl, 1)) (hp : pc + 1 = pc') (K : Go p l e R s m args below meth c Z a0 EL nw Q vm h k n pc' L (.long (x <<< (y.toInt64 &&& 63)) :: st)) : Go p l e R s m args below meth c Z a0 EL nw Q vm h k n pc L (.int y :: .long x :: st) := by
  subst hp
  exact Go.plain (fun T _ hx X _ r => XT.lshl X.here hx rfl hd rfl r) K
theorem Go.lshr {x : Int64} {y : Int32} (hd : decode c.code pc = .ok (.lshr, 1)) (hp : pc + 1 = pc') (K : Go p l e R s m args below meth c Z a0 EL nw Q vm h k n pc' L (.long (x >>> (y.toInt64 &&& 63)) :: st)) : Go p l e R s m args below meth c Z a0 EL nw Q vm h k n pc L (.int y :: .long x :: st) := by
  subst hp
  exact Go.plain (fun T _ hx X _ r => XT.lshr X.here hx rfl hd rfl r) K
theorem Go.lushr {x : Int64} {y : Int32} (hd : decode c.code pc = .ok (.lushr, 1)) (hp : pc + 1 = pc') (K : Go p l e R s m args below meth c Z a0 EL nw Q vm h k n pc' L (.long (XT.ushrL x y) :: st)) : Go p l e R s m args below meth c Z a0 EL nw Q vm h k n pc L (.int y :: .long x :: st) := by
  subst hp
  exact Go.plain (fun T _ hx X _ r => XT.lushr X.here hx rfl hd rfl r) K
theorem Go.ldiv {x y : Int64} (hd : decode c.code pc = .ok (.ldiv, 1)) (hp : pc + 1 = pc') (hy : y ≠ 0) (K : Go p l e R s m args below meth c Z a0 EL nw Q vm h k n pc' L (.long (x / y) :: st)) : Go p l e R s m args below meth c Z a0 EL nw Q vm h k n pc L (.long y :: .long x :: st) := by
  subst hp
  exact Go.plain (fun T _ hx X _ r => XT.ldiv X.here hx rfl hd rfl hy r) K
theorem Go.lrem {x y : Int64} (hd : decode c.code pc = .ok (.lrem, 1)) (hp : pc + 1 = pc') (hy : y ≠ 0) (K : Go p l e R s m args below meth c Z a0 EL nw Q vm h k n pc' L (.long (x - (x / y) * y) :: st)) : Go p l e R s m args below meth c Z a0 EL nw Q vm h k n pc L (.long y :: .long x :: st) := by
  subst hp
  exact Go.plain (fun T _ hx X _ r => XT.lrem X.here hx rfl hd rfl hy r) K
theorem Go.lneg {x : Int64} (hd : decode c.code pc = .ok (.lneg, 1)) (hp : pc + 1 = pc') (K : Go p l e R s m args below meth c Z a0 EL nw Q vm h k n pc' L (.long (-x) :: st)) : Go p l e R s m args below meth c Z a0 EL nw Q vm h k n pc L (.long x :: st) := by
  subst hp
  exact Go.plain (fun T _ hx X _ r => XT.lneg X.here hx rfl hd rfl r) K
theorem Go.i2l {x : Int32} (hd : decode c.code pc = .ok (.i2l, 1)) (hp : pc + 1 = pc') (K : Go p l e R s m args below meth c Z a0 EL nw Q vm h k n pc' L (.long x.toInt64 :: st)) : Go p l e R s m args below meth c Z a0 EL nw Q vm h k n pc L (.int x :: st) := by
  subst hp
  exact Go.plain (fun T _ hx X _ r => XT.i2l X.here hx rfl hd rfl r) K
theorem Go.l2i {x : Int64} (hd : decode c.code pc = .ok (.l2i, 1)) (hp : pc + 1 = pc') (K : Go p l e R s m args below meth c Z a0 EL nw Q vm h k n pc' L (.int x.toInt32 :: st)) : Go p l e R s m args below meth c Z a0 EL nw Q vm h k n pc L (.long x :: st) := by
  subst hp
  exact Go.plain (fun T _ hx X _ r => XT.l2i X.here hx rfl hd rfl r) K
theorem Go.i2b {x : Int32} (hd : decode c.code pc = .ok (.i2b, 1)) (hp : pc + 1 = pc') (K : Go p l e R s m args below meth c Z a0 EL nw Q vm h k n pc' L (.int x.toInt8.toInt32 :: st)) : Go p l e R s m args below meth c Z a0 EL nw Q vm h k n pc L (.int x :: st) := by
  subst hp
  exact Go.plain (fun T _ hx X _ r => XT.i2b X.here hx rfl hd rfl r) K
theorem Go.i2c {x : Int32} (hd : decode c.code pc = .ok (.i2c, 1)) (hp : pc + 1 = pc') (K : Go p l e R s m args below meth c Z a0 EL nw Q vm h k n pc' L (.int (nar .char x) :: st)) : Go p l e R s m args below meth c Z a0 EL nw Q vm h k n pc L (.int x :: st) := by
  subst hp
  exact Go.plain (fun T _ hx X _ r => XT.i2c X.here hx rfl hd rfl r) K
theorem Go.i2s {x : Int32} (hd : decode c.code pc = .ok (.i2s, 1)) (hp : pc + 1 = pc') (K : Go p l e R s m args below meth c Z a0 EL nw Q vm h k n pc' L (.int x.toInt16.toInt32 :: st)) : Go p l e R s m args below meth c Z a0 EL nw Q vm h k n pc L (.int x :: st) := by
  subst hp
  exact Go.plain (fun T _ hx X _ r => XT.i2s X.here hx rfl hd rfl r) K
theorem Go.lcmp {x y : Int64} (hd : decode c.code pc = .ok (.lcmp, 1)) (hp : pc + 1 = pc') (K : Go p l e R s m args below meth c Z a0 EL nw Q vm h k n pc' L (.int (XT.cmpL x y) :: st)) : Go p l e R s m args below meth c Z a0 EL nw Q vm h k n pc L (.long y :: .long x :: st) := by
  subst hp
  exact Go.plain (fun T _ hx X _ r => XT.lcmp X.here hx rfl hd rfl r) K
theorem Go.dup {v : Value} (hd : decode c.code pc = .ok (.dup, 1)) (hp : pc + 1 = pc') (hc : v.category = 1) (K : Go p l e R s m args below meth c Z a0 EL nw Q vm h k n pc' L (v :: v :: st)) : Go p l e R s m args below meth c Z a0 EL nw Q vm h k n pc L (v :: st) := by
  subst hp
  exact Go.plain (fun T _ hx X _ r => XS.dup X.here hx rfl hd rfl hc r) K
theorem Go.pop {v : Value} (hd : decode c.code pc = .ok (.pop, 1)) (hp : pc + 1 = pc') (hc : v.category = 1) (K : Go p l e R s m args below meth c Z a0 EL nw Q vm h k n pc' L st) : Go p l e R s m args below meth c Z a0 EL nw Q vm h k n pc L (v :: st) := by
  subst hp
  exact Go.plain (fun T _ hx X _ r => XT.pop X.here hx rfl hd rfl hc r) K
theorem Go.dupX1 {v w : Value} (hd : decode c.code pc = .ok (.dup_x1, 1)) (hp : pc + 1 = pc') (hc : v.category = 1) (hc' : w.category = 1) (K : Go p l e R s m args below meth c Z a0 EL nw Q vm h k n pc' L (v :: w :: v :: st)) : Go p l e R s m args below meth c Z a0 EL nw Q vm h k n pc L (v :: w :: st) := by
  subst hp
  exact Go.plain (fun T _ hx X _ r => XT.dupX1 X.here hx rfl hd rfl hc hc' r) K
theorem Go.dup2 {v w : Value} (hd : decode c.code pc = .ok (.dup2, 1)) (hp : pc + 1 = pc') (hc : v.category = 1) (hc' : w.category = 1) (K : Go p l e R s m args below meth c Z a0 EL nw Q vm h k n pc' L (v :: w :: v :: w :: st)) : Go p l e R s m args below meth c Z a0 EL nw Q vm h k n pc L (v :: w :: st) := by
  subst hp
  exact Go.plain (fun T _ hx X _ r => XT.dup2 X.here hx rfl hd rfl hc hc' r) K
theorem Go.istoreN {q : Fin 4} {z : Int32} {L' : Array Slot} (hd : decode c.code pc = .ok (.istore_n q, 1)) (hp : pc + 1 = pc') (hl : storeLocals L q.val (.int z) = some L') (K : Go p l e R s m args below meth c Z a0 EL nw Q vm h k n pc' L' st) : Go p l e R s m args below meth c Z a0 EL nw Q vm h k n pc L (.int z :: st) := by
  subst hp
  exact Go.plain (fun T _ hx X _ r => XS.istoreN X.here hx rfl hd rfl hl r) K
theorem Go.istore {q : Nat} {z : Int32} {L' : Array Slot} (hd : decode c.code pc = .ok (.istore q, 2)) (hp : pc + 2 = pc') (hl : storeLocals L q (.int z) = some L') (K : Go p l e R s m args below meth c Z a0 EL nw Q vm h k n pc' L' st) : Go p l e R s m args below meth c Z a0 EL nw Q vm h k n pc L (.int z :: st) := by
  subst hp
  exact Go.plain (fun T _ hx X _ r => XS.istore X.here hx rfl hd rfl hl r) K
theorem Go.lstoreN {q : Fin 4} {z : Int64} {L' : Array Slot} (hd : decode c.code pc = .ok (.lstore_n q, 1)) (hp : pc + 1 = pc') (hl : storeLocals L q.val (.long z) = some L') (K : Go p l e R s m args below meth c Z a0 EL nw Q vm h k n pc' L' st) : Go p l e R s m args below meth c Z a0 EL nw Q vm h k n pc L (.long z :: st) := by
  subst hp
  exact Go.plain (fun T _ hx X _ r => XT.lstoreN X.here hx rfl hd rfl hl r) K
theorem Go.lstore {q : Nat} {z : Int64} {L' : Array Slot} (hd : decode c.code pc = .ok (.lstore q, 2)) (hp : pc + 2 = pc') (hl : storeLocals L q (.long z) = some L') (K : Go p l e R s m args below meth c Z a0 EL nw Q vm h k n pc' L' st) : Go p l e R s m args below meth c Z a0 EL nw Q vm h k n pc L (.long z :: st) := by
  subst hp
  exact Go.plain (fun T _ hx X _ r => XT.lstore X.here hx rfl hd rfl hl r) K
theorem Go.astoreN {q : Fin 4} {v : Value} {L' : Array Slot} (hd : decode c.code pc = .ok (.astore_n q, 1)) (hp : pc + 1 = pc') (hv : v.isRef = true) (hl : storeLocals L q.val v = some L') (K : Go p l e R s m args below meth c Z a0 EL nw Q vm h k n pc' L' st) : Go p l e R s m args below meth c Z a0 EL nw Q vm h k n pc L (v :: st) := by
  subst hp
  exact Go.plain (fun T _ hx X _ r => XS.astoreN X.here hx rfl hd rfl hv hl r) K
theorem Go.astore {q : Nat} {v : Value} {L' : Array Slot} (hd : decode c.code pc = .ok (.astore q, 2)) (hp : pc + 2 = pc') (hv : v.isRef = true) (hl : storeLocals L q v = some L') (K : Go p l e R s m args below meth c Z a0 EL nw Q vm h k n pc' L' st) : Go p l e R s m args below meth c Z a0 EL nw Q vm h k n pc L (v :: st) := by
  subst hp
  exact Go.plain (fun T _ hx X _ r => XS.astore X.here hx rfl hd rfl hv hl r) K
theorem Go.iinc {q : Nat} {i : Int} {x : Int32} {L' : Array Slot} (hd : decode c.code pc = .ok (.iinc q i, 3)) (hp : pc + 3 = pc') (hl : L[q]? = some (.val (.int x))) (hl' : storeLocals L q (.int (x + Int32.ofInt i)) = some L') (K : Go p l e R s m args below meth c Z a0 EL nw Q vm h k n pc' L' st) : Go p l e R s m args below meth c Z a0 EL nw Q vm h k n pc L st := by
  subst hp
  exact Go.plain (fun T _ hx X _ r => XS.iinc X.here hx rfl hd hl hl' r) K
theorem Go.irem {x y : Int32} (hd : decode c.code pc = .ok (.irem, 1)) (hp : pc + 1 = pc') (hy : y ≠ 0) (K : Go p l e R s m args below meth c Z a0 EL nw Q vm h k n pc' L (.int (x % y) :: st)) : Go p l e R s m args below meth c Z a0 EL nw Q vm h k n pc L (.int y :: .int x :: st) := by
  subst hp
  exact Go.plain (fun T _ hx X _ r => iremM X hx (g := mkF m pc L (.int y :: .int x :: st)) rfl hd rfl hy r) K
theorem Go.goto {o : Int} (hd : decode c.code pc = .ok (.goto o, 3)) (ho : 0 ≤ (pc : Int) + o) (hp : ((pc : Int) + o).toNat = pc') (K : Go p l e R s m args below meth c Z a0 EL nw Q vm h k n pc' L st) : Go p l e R s m args below meth c Z a0 EL nw Q vm h k n pc L st :=
  Go.plain (fun T _ hx X _ r => XS.goto X.here hx rfl rfl hd ho hp r) K
/-- what a comparison of ints asks -/
def cP : ClassFile.Cond → Int32 → Int32 → Prop
  | .eq, x, y => x = y
  | .ne, x, y => ¬ x = y
  | .lt, x, y => x < y
  | .ge, x, y => ¬ x < y
  | .gt, x, y => y < x
  | .le, x, y => ¬ y < x
theorem cP_t {cd : ClassFile.Cond} {x y : Int32} (q : cP cd x y) : if_icmp.holds cd x y = true := by
  cases cd
  · exact (teq q).1
  · exact (feq q).2
  · exact (tlt q).1
  · exact (flt q).2.1
  · exact (tlt q).2.2.1
  · exact (flt q).2.2.2
theorem cP_f {cd : ClassFile.Cond} {x y : Int32} (q : ¬ cP cd x y) : if_icmp.holds cd x y = false := by
  cases cd
  · exact (feq q).1
  · exact (teq (Classical.not_not.mp q)).2
  · exact (flt q).1
  · exact (tlt (Classical.not_not.mp q)).2.1
  · exact (flt q).2.2.1
  · exact (tlt (Classical.not_not.mp q)).2.2.2
theorem Go.icmp {cd : ClassFile.Cond} {x y : Int32} {o : Int} {pc2 : Nat} (hd : decode c.code pc = .ok (.if_icmp cd o, 3)) (ho : 0 ≤ (pc : Int) + o) (hp : ((pc : Int) + o).toNat = pc') (hp2 : pc + 3 = pc2) (Kt : cP cd x y → Go p l e R s m args below meth c Z a0 EL nw Q vm h k n pc' L st) (Kf : ¬ cP cd x y → Go p l e R s m args below meth c Z a0 EL nw Q vm h k n pc2 L st) : Go p l e R s m args below meth c Z a0 EL nw Q vm h k n pc L (.int y :: .int x :: st) := by
  subst hp2
  by_cases q : cP cd x y
  · exact Go.plain (fun T _ hx X _ r => XS.icmpYes X.here hx rfl rfl hd rfl (cP_t q) ho hp r) (Kt q)
  · exact Go.plain (fun T _ hx X _ r => XS.icmpNo X.here hx rfl hd rfl (cP_f q) r) (Kf q)
theorem Go.icmpY {cd : ClassFile.Cond} {x y : Int32} {o : Int} (hd : decode c.code pc = .ok (.if_icmp cd o, 3)) (ho : 0 ≤ (pc : Int) + o) (hp : ((pc : Int) + o).toNat = pc') (q : cP cd x y) (K : Go p l e R s m args below meth c Z a0 EL nw Q vm h k n pc' L st) : Go p l e R s m args below meth c Z a0 EL nw Q vm h k n pc L (.int y :: .int x :: st) :=
  Go.plain (fun T _ hx X _ r => XS.icmpYes X.here hx rfl rfl hd rfl (cP_t q) ho hp r) K
theorem Go.icmpN {cd : ClassFile.Cond} {x y : Int32} {o : Int} (hd : decode c.code pc = .ok (.if_icmp cd o, 3)) (hp : pc + 3 = pc') (q : ¬ cP cd x y) (K : Go p l e R s m args below meth c Z a0 EL nw Q vm h k n pc' L st) : Go p l e R s m args below meth c Z a0 EL nw Q vm h k n pc L (.int y :: .int x :: st) := by
  subst hp
  exact Go.plain (fun T _ hx X _ r => XS.icmpNo X.here hx rfl hd rfl (cP_f q) r) K
theorem Go.ifc {cd : ClassFile.Cond} {x : Int32} {o : Int} {pc2 : Nat} (hd : decode c.code pc = .ok (.ifCond cd o, 3)) (ho : 0 ≤ (pc : Int) + o) (hp : ((pc : Int) + o).toNat = pc') (hp2 : pc + 3 = pc2) (Kt : cP cd x 0 → Go p l e R s m args below meth c Z a0 EL nw Q vm h k n pc' L st) (Kf : ¬ cP cd x 0 → Go p l e R s m args below meth c Z a0 EL nw Q vm h k n pc2 L st) : Go p l e R s m args below meth c Z a0 EL nw Q vm h k n pc L (.int x :: st) := by
  subst hp2
  by_cases q : cP cd x 0
  · exact Go.plain (fun T _ hx X _ r => XS.ifYes X.here hx rfl rfl hd rfl ((if0 cd x).trans (cP_t q)) ho hp r) (Kt q)
  · exact Go.plain (fun T _ hx X _ r => XS.ifNo X.here hx rfl hd rfl ((if0 cd x).trans (cP_f q)) r) (Kf q)
theorem Go.ifY {cd : ClassFile.Cond} {x : Int32} {o : Int} (hd : decode c.code pc = .ok (.ifCond cd o, 3)) (ho : 0 ≤ (pc : Int) + o) (hp : ((pc : Int) + o).toNat = pc') (q : cP cd x 0) (K : Go p l e R s m args below meth c Z a0 EL nw Q vm h k n pc' L st) : Go p l e R s m args below meth c Z a0 EL nw Q vm h k n pc L (.int x :: st) :=
  Go.plain (fun T _ hx X _ r => XS.ifYes X.here hx rfl rfl hd rfl ((if0 cd x).trans (cP_t q)) ho hp r) K
theorem Go.ifN {cd : ClassFile.Cond} {x : Int32} {o : Int} (hd : decode c.code pc = .ok (.ifCond cd o, 3)) (hp : pc + 3 = pc') (q : ¬ cP cd x 0) (K : Go p l e R s m args below meth c Z a0 EL nw Q vm h k n pc' L st) : Go p l e R s m args below meth c Z a0 EL nw Q vm h k n pc L (.int x :: st) := by
  subst hp
  exact Go.plain (fun T _ hx X _ r => XS.ifNo X.here hx rfl hd rfl ((if0 cd x).trans (cP_f q)) r) K
theorem Go.ifnullY {o : Int} (hd : decode c.code pc = .ok (.ifnull o, 3)) (ho : 0 ≤ (pc : Int) + o) (hp : ((pc : Int) + o).toNat = pc') (K : Go p l e R s m args below meth c Z a0 EL nw Q vm h k n pc' L st) : Go p l e R s m args below meth c Z a0 EL nw Q vm h k n pc L (.null :: st) :=
  Go.plain (fun T _ hx X _ r => XS.ifnullYes X.here hx rfl rfl hd rfl ho hp r) K
theorem Go.ifnullN {o : Int} {b : Addr} (hd : decode c.code pc = .ok (.ifnull o, 3)) (hp : pc + 3 = pc') (K : Go p l e R s m args below meth c Z a0 EL nw Q vm h k n pc' L st) : Go p l e R s m args below meth c Z a0 EL nw Q vm h k n pc L (.ref b :: st) := by
  subst hp
  exact Go.plain (fun T _ hx X _ r => XS.ifnullNo X.here hx rfl hd rfl r) K
theorem Go.ifnonnullY {o : Int} {b : Addr} (hd : decode c.code pc = .ok (.ifnonnull o, 3)) (ho : 0 ≤ (pc : Int) + o) (hp : ((pc : Int) + o).toNat = pc') (K : Go p l e R s m args below meth c Z a0 EL nw Q vm h k n pc' L st) : Go p l e R s m args below meth c Z a0 EL nw Q vm h k n pc L (.ref b :: st) :=
  Go.plain (fun T _ hx X _ r => XT.ifnonnullYes X.here hx rfl rfl hd rfl ho hp r) K
theorem Go.ifnonnullN {o : Int} (hd : decode c.code pc = .ok (.ifnonnull o, 3)) (hp : pc + 3 = pc') (K : Go p l e R s m args below meth c Z a0 EL nw Q vm h k n pc' L st) : Go p l e R s m args below meth c Z a0 EL nw Q vm h k n pc L (.null :: st) := by
  subst hp
  exact Go.plain (fun T _ hx X _ r => XT.ifnonnullNo X.here hx rfl hd rfl r) K
theorem Go.acmpY {cd : ClassFile.ACond} {x y : Value} {o : Int} (hd : decode c.code pc = .ok (.if_acmp cd o, 3)) (ho : 0 ≤ (pc : Int) + o) (hp : ((pc : Int) + o).toNat = pc') (h1 : x.isRef = true) (h2 : y.isRef = true) (q : XT.acmp cd x y = true) (K : Go p l e R s m args below meth c Z a0 EL nw Q vm h k n pc' L st) : Go p l e R s m args below meth c Z a0 EL nw Q vm h k n pc L (y :: x :: st) :=
  Go.plain (fun T _ hx X _ r => XT.acmpYes X.here hx rfl rfl hd rfl h1 h2 q ho hp r) K
theorem Go.acmpN {cd : ClassFile.ACond} {x y : Value} {o : Int} (hd : decode c.code pc = .ok (.if_acmp cd o, 3)) (hp : pc + 3 = pc') (h1 : x.isRef = true) (h2 : y.isRef = true) (q : XT.acmp cd x y = false) (K : Go p l e R s m args below meth c Z a0 EL nw Q vm h k n pc' L st) : Go p l e R s m args below meth c Z a0 EL nw Q vm h k n pc L (y :: x :: st) := by
  subst hp
  exact Go.plain (fun T _ hx X _ r => XT.acmpNo X.here hx rfl hd rfl h1 h2 q r) K
theorem Go.getF {own R0 O nm d : String} {index : Nat} {a : Addr} {v : Value} (hown : Z.vm.findClass own = some m.cls) (w : (Jvm.Cond.fieldLink own index R0 nm d).before a0 Z = true) (via : Via Z R0 O nm d) (F : Fld Z h a O nm d v) (hd : decode c.code pc = .ok (.getfield index, 3)) (hp : pc + 3 = pc') (K : Go p l e R s m args below meth c Z a0 EL nw Q vm h k n pc' L (v :: st)) : Go p l e R s m args below meth c Z a0 EL nw Q vm h k n pc L (.ref a :: st) := fun T locs k0 hx hk hE X eT hS hk0 hF hZ hN hC hO => by
  subst hp
  have hown' : (s.setVm vm).vm.findClass own = some m.cls := by
    show vm.findClass own = _
    rw [hZ.alike.findClass]; exact hown
  obtain ⟨T', X', e', st'⟩ := RoadKit.getF X hx (s := s.setVm vm) hZ hown' (host := "") (Or.inl w) via eT F (g := mkF m pc L (.ref a :: st)) rfl rfl hd
  obtain ⟨t, v, L', r1, r2⟩ := K T' locs k0 hx hk hE X' e' hS hk0 hF hZ hN hC hO
  exact ⟨t, v, L', st' _ r1, r2⟩
theorem Go.getFN {own R0 O nm d host : String} {index : Nat} {a : Addr} {v : Value} (hown : Z.vm.findClass own = some m.cls) (w : (Jvm.Cond.fieldLinkNest own index R0 nm d host).before a0 Z = true) (via : Via Z R0 O nm d) (F : Fld Z h a O nm d v) (hd : decode c.code pc = .ok (.getfield index, 3)) (hp : pc + 3 = pc') (K : Go p l e R s m args below meth c Z a0 EL nw Q vm h k n pc' L (v :: st)) : Go p l e R s m args below meth c Z a0 EL nw Q vm h k n pc L (.ref a :: st) := fun T locs k0 hx hk hE X eT hS hk0 hF hZ hN hC hO => by
  subst hp
  have hown' : (s.setVm vm).vm.findClass own = some m.cls := by
    show vm.findClass own = _
    rw [hZ.alike.findClass]; exact hown
  obtain ⟨T', X', e', st'⟩ := RoadKit.getF X hx (s := s.setVm vm) hZ hown' (Or.inr w) via eT F (g := mkF m pc L (.ref a :: st)) rfl rfl hd
  obtain ⟨t, v, L', r1, r2⟩ := K T' locs k0 hx hk hE X' e' hS hk0 hF hZ hN hC hO
  exact ⟨t, v, L', st' _ r1, r2⟩
theorem Go.getS {own R0 O nm d : String} {index : Nat} {v : Value} (hown : Z.vm.findClass own = some m.cls) (w : (Jvm.Cond.fieldLink own index R0 nm d).before a0 Z = true) (via : Via Z R0 O nm d) (F : Sta Z Z.heap O nm d v) (hd : decode c.code pc = .ok (.getstatic index, 3)) (hp : pc + 3 = pc') (K : Go p l e R s m args below meth c Z a0 EL nw Q vm h k n pc' L (v :: st)) : Go p l e R s m args below meth c Z a0 EL nw Q vm h k n pc L st := fun T locs k0 hx hk hE X eT hS hk0 hF hZ hN hC hO => by
  subst hp
  have hown' : (s.setVm vm).vm.findClass own = some m.cls := by
    show vm.findClass own = _
    rw [hZ.alike.findClass]; exact hown
  obtain ⟨T', X', e', st'⟩ := RoadKit.getS X hx (s := s.setVm vm) hZ (host := "") hown' w via eT (F.ext hO) (g := mkF m pc L st) rfl hd
  obtain ⟨t, v, L', r1, r2⟩ := K T' locs k0 hx hk hE X' e' hS hk0 hF hZ hN hC hO
  exact ⟨t, v, L', st' _ r1, r2⟩
theorem Go.getSN {own R0 O nm d host : String} {index : Nat} {v : Value} (hown : Z.vm.findClass own = some m.cls) (w : (Jvm.Cond.fieldLinkNest own index R0 nm d host).before a0 Z = true) (via : Via Z R0 O nm d) (F : Sta Z Z.heap O nm d v) (hd : decode c.code pc = .ok (.getstatic index, 3)) (hp : pc + 3 = pc') (K : Go p l e R s m args below meth c Z a0 EL nw Q vm h k n pc' L (v :: st)) : Go p l e R s m args below meth c Z a0 EL nw Q vm h k n pc L st := fun T locs k0 hx hk hE X eT hS hk0 hF hZ hN hC hO => by
  subst hp
  have hown' : (s.setVm vm).vm.findClass own = some m.cls := by
    show vm.findClass own = _
    rw [hZ.alike.findClass]; exact hown
  obtain ⟨T', X', e', st'⟩ := RoadKit.getS2 X hx (s := s.setVm vm) hZ hown' (Or.inr w) via eT (F.ext hO) (g := mkF m pc L st) rfl hd
  obtain ⟨t, v, L', r1, r2⟩ := K T' locs k0 hx hk hE X' e' hS hk0 hF hZ hN hC hO
  exact ⟨t, v, L', st' _ r1, r2⟩
theorem Go.castY {own K0 : String} {index : Nat} {a : Addr} (hown : Z.vm.findClass own = some m.cls) (w : (Jvm.Cond.classLink own index K0).before a0 Z = true) (F : Ins Z h a K0 true) (hd : decode c.code pc = .ok (.checkcast index, 3)) (hp : pc + 3 = pc') (K : Go p l e R s m args below meth c Z a0 EL nw Q vm h k n pc' L (.ref a :: st)) : Go p l e R s m args below meth c Z a0 EL nw Q vm h k n pc L (.ref a :: st) := fun T locs k0 hx hk hE X eT hS hk0 hF hZ hN hC hO => by
  subst hp
  have hown' : (s.setVm vm).vm.findClass own = some m.cls := by
    show vm.findClass own = _
    rw [hZ.alike.findClass]; exact hown
  obtain ⟨T', X', e', st'⟩ := RoadKit.castY X hx (s := s.setVm vm) hZ hown' w eT F (g := mkF m pc L (.ref a :: st)) rfl rfl hd
  obtain ⟨t, v, L', r1, r2⟩ := K T' locs k0 hx hk hE X' e' hS hk0 hF hZ hN hC hO
  exact ⟨t, v, L', st' _ r1, r2⟩
theorem Go.instY {own K0 : String} {index : Nat} {a : Addr} (hown : Z.vm.findClass own = some m.cls) (w : (Jvm.Cond.classLink own index K0).before a0 Z = true) (F : Ins Z h a K0 true) (hd : decode c.code pc = .ok (.instanceof index, 3)) (hp : pc + 3 = pc') (K : Go p l e R s m args below meth c Z a0 EL nw Q vm h k n pc' L (.int 1 :: st)) : Go p l e R s m args below meth c Z a0 EL nw Q vm h k n pc L (.ref a :: st) := fun T locs k0 hx hk hE X eT hS hk0 hF hZ hN hC hO => by
  subst hp
  have hown' : (s.setVm vm).vm.findClass own = some m.cls := by
    show vm.findClass own = _
    rw [hZ.alike.findClass]; exact hown
  obtain ⟨T', X', e', st'⟩ := RoadKit.instY X hx (s := s.setVm vm) hZ hown' w eT F (g := mkF m pc L (.ref a :: st)) rfl rfl hd
  obtain ⟨t, v, L', r1, r2⟩ := K T' locs k0 hx hk hE X' e' hS hk0 hF hZ hN hC hO
  exact ⟨t, v, L', st' _ r1, r2⟩
theorem Go.instNo {own K0 C : String} {index : Nat} {a : Addr} (hown : Z.vm.findClass own = some m.cls) (w : (Jvm.Cond.classLink own index K0).before a0 Z = true) (E : Exa Z h a C) (F : ∃ c t, Z.vm.findClass C = some c ∧ Z.vm.findClass K0 = some t ∧ Z.vm.assignable c t = false) (hd : decode c.code pc = .ok (.instanceof index, 3)) (hp : pc + 3 = pc') (K : Go p l e R s m args below meth c Z a0 EL nw Q vm h k n pc' L (.int 0 :: st)) : Go p l e R s m args below meth c Z a0 EL nw Q vm h k n pc L (.ref a :: st) := fun T locs k0 hx hk hE X eT hS hk0 hF hZ hN hC hO => by
  subst hp
  have hown' : (s.setVm vm).vm.findClass own = some m.cls := by
    show vm.findClass own = _
    rw [hZ.alike.findClass]; exact hown
  obtain ⟨T', X', e', st'⟩ := RoadKit.instNo X hx (s := s.setVm vm) hZ hown' w eT E F (g := mkF m pc L (.ref a :: st)) rfl rfl hd
  obtain ⟨t, v, L', r1, r2⟩ := K T' locs k0 hx hk hE X' e' hS hk0 hF hZ hN hC hO
  exact ⟨t, v, L', st' _ r1, r2⟩
theorem Go.initO {own : String} {index W : Nat} {a : Addr} (hown : Z.vm.findClass own = some m.cls) (w1 : (Jvm.Cond.methodLink own index Lib.objectInit).before a0 Z = true) (w2 : (Jvm.Cond.instanceMethod Lib.objectInit).before a0 Z = true) (w3 : (Jvm.Cond.code Lib.objectInit ⟨#[0xb1]⟩ 1 none).before a0 Z = true) (hL : L.size = c.maxLocals) (hd : decode c.code pc = .ok (.invokespecial index, 3)) (hf : 1 ≤ R.frames) (hW : (st.map fun v => v.category).sum = W) (hl : W + 12 ≤ R.locals) (hp : pc + 3 = pc') (K : Go p l e R s m args below meth c Z a0 EL nw Q vm h k n pc' L st) : Go p l e R s m args below meth c Z a0 EL nw Q vm h k n pc L (.ref a :: st) := fun T locs k0 hx hk hE X eT hS hk0 hF hZ hN hC hO => by
  subst hp
  have hown' : (s.setVm vm).vm.findClass own = some m.cls := by
    show vm.findClass own = _
    rw [hZ.alike.findClass]; exact hown
  obtain ⟨T', X', e', st'⟩ := RoadKit.initO X hx (s := s.setVm vm) hZ hown' w1 w2 w3 eT (g := mkF m pc L (.ref a :: st)) rfl hL rfl hd hf (W := W) (by show 2 * 0 + _ ≤ _; rw [Nat.mul_zero, Nat.zero_add]; exact Nat.le_of_eq hW) hl
  obtain ⟨t, v, L', r1, r2⟩ := K T' locs k0 hx hk hE X' e' hS hk0 hF hZ hN hC hO
  exact ⟨t, v, L', st' _ r1, r2⟩
theorem Go.ldcInt {own : String} {index : Nat} {z : Int32} (hown : Z.vm.findClass own = some m.cls) (w : (Jvm.Cond.constant own index z).before a0 Z = true) (hd : decode c.code pc = .ok (.ldc index, 2)) (hp : pc + 2 = pc') (K : Go p l e R s m args below meth c Z a0 EL nw Q vm h k n pc' L (.int z :: st)) : Go p l e R s m args below meth c Z a0 EL nw Q vm h k n pc L st := fun T locs k0 hx hk hE X eT hS hk0 hF hZ hN hC hO => by
  subst hp
  have hown' : (s.setVm vm).vm.findClass own = some m.cls := by
    show vm.findClass own = _
    rw [hZ.alike.findClass]; exact hown
  obtain ⟨t, v, L', r1, r2⟩ := K T locs k0 hx hk hE X eT hS hk0 hF hZ hN hC hO
  exact ⟨t, v, L', X.ldcInt hx hown' (mv (s := s.setVm vm) hZ w) (g := mkF m pc L st) rfl hd _ r1, r2⟩
theorem Go.ldc2Long {own : String} {index : Nat} {z : Int64} (hown : Z.vm.findClass own = some m.cls) (w : (Jvm.Cond.constantLong own index z).before a0 Z = true) (hd : decode c.code pc = .ok (.ldc2_w index, 3)) (hp : pc + 3 = pc') (K : Go p l e R s m args below meth c Z a0 EL nw Q vm h k n pc' L (.long z :: st)) : Go p l e R s m args below meth c Z a0 EL nw Q vm h k n pc L st := fun T locs k0 hx hk hE X eT hS hk0 hF hZ hN hC hO => by
  subst hp
  have hown' : (s.setVm vm).vm.findClass own = some m.cls := by
    show vm.findClass own = _
    rw [hZ.alike.findClass]; exact hown
  obtain ⟨t, v, L', r1, r2⟩ := K T locs k0 hx hk hE X eT hS hk0 hF hZ hN hC hO
  exact ⟨t, v, L', X.ldc2Long hx hown' (mv (s := s.setVm vm) hZ w) (g := mkF m pc L st) rfl hd _ r1, r2⟩
theorem Go.alen {a : Addr} {kA : ClassId} {ty : FieldType} {vs : List Value} {z : Int32} (A : Ar Z h a kA ty vs) (hz : vs.length.toInt32 = z) (hd : decode c.code pc = .ok (.arraylength, 1)) (hp : pc + 1 = pc') (K : Go p l e R s m args below meth c Z a0 EL nw Q vm h k n pc' L (.int z :: st)) : Go p l e R s m args below meth c Z a0 EL nw Q vm h k n pc L (.ref a :: st) := fun T locs k0 hx hk hE X eT hS hk0 hF hZ hN hC hO => by
  subst hp
  obtain ⟨t, v, L', r1, r2⟩ := K T locs k0 hx hk hE X eT hS hk0 hF hZ hN hC hO
  obtain ⟨cl, A, -, rfl⟩ := A
  refine ⟨t, v, L', X.arraylength hx (cell := cl) (by rw [eT]; exact A.1) (State.isArrayOf_alike (s := Z) (T := s.setVm vm) hZ.alike A.2.1) (g := mkF m pc L (.ref a :: st)) rfl rfl hd _ ?_, r2⟩
  have q : cl.slots.size.toInt32 = z := by rw [← hz]; simp
  rw [q]; exact r1
theorem Go.caload {a : Addr} {kA : ClassId} {vs : List Value} {j : Int32} {v : Value} (A : Ar Z h a kA .char vs) (hj : ¬ j < 0) (hv : vs[j.toNatClampNeg]? = some v) (hd : decode c.code pc = .ok (.caload, 1)) (hp : pc + 1 = pc') (K : Go p l e R s m args below meth c Z a0 EL nw Q vm h k n pc' L (v :: st)) : Go p l e R s m args below meth c Z a0 EL nw Q vm h k n pc L (.int j :: .ref a :: st) := fun T locs k0 hx hk hE X eT hS hk0 hF hZ hN hC hO => by
  subst hp
  obtain ⟨t, v', L', r1, r2⟩ := K T locs k0 hx hk hE X eT hS hk0 hF hZ hN hC hO
  obtain ⟨cl, A, -, rfl⟩ := A
  rw [Array.getElem?_toList] at hv
  exact ⟨t, v', L', X.caload hx (cell := cl) (by rw [eT]; exact A.1) (State.isArrayOf_alike (s := Z) (T := s.setVm vm) hZ.alike A.2.1) A.2.2 (fun q => q.elim hj fun q => absurd (Array.getElem?_eq_some_iff.mp hv).1 (Nat.not_lt.mpr q)) hv (g := mkF m pc L (.int j :: .ref a :: st)) rfl rfl hd _ r1, r2⟩
theorem Go.baload {a : Addr} {kA : ClassId} {vs : List Value} {j : Int32} {v : Value} (A : Ar Z h a kA .byte vs) (hj : ¬ j < 0) (hv : vs[j.toNatClampNeg]? = some v) (hd : decode c.code pc = .ok (.baload, 1)) (hp : pc + 1 = pc') (K : Go p l e R s m args below meth c Z a0 EL nw Q vm h k n pc' L (v :: st)) : Go p l e R s m args below meth c Z a0 EL nw Q vm h k n pc L (.int j :: .ref a :: st) := fun T locs k0 hx hk hE X eT hS hk0 hF hZ hN hC hO => by
  subst hp
  obtain ⟨t, v', L', r1, r2⟩ := K T locs k0 hx hk hE X eT hS hk0 hF hZ hN hC hO
  obtain ⟨cl, A, -, rfl⟩ := A
  rw [Array.getElem?_toList] at hv
  exact ⟨t, v', L', X.baloadBytes hx (cell := cl) (by rw [eT]; exact A.1) (State.isArrayOf_alike (s := Z) (T := s.setVm vm) hZ.alike A.2.1) A.2.2 (fun q => q.elim hj fun q => absurd (Array.getElem?_eq_some_iff.mp hv).1 (Nat.not_lt.mpr q)) hv (g := mkF m pc L (.int j :: .ref a :: st)) rfl rfl hd _ r1, r2⟩
theorem Go.iaload {a : Addr} {kA : ClassId} {vs : List Value} {j : Int32} {v : Value} (A : Ar Z h a kA .int vs) (hj : ¬ j < 0) (hv : vs[j.toNatClampNeg]? = some v) (hd : decode c.code pc = .ok (.iaload, 1)) (hp : pc + 1 = pc') (K : Go p l e R s m args below meth c Z a0 EL nw Q vm h k n pc' L (v :: st)) : Go p l e R s m args below meth c Z a0 EL nw Q vm h k n pc L (.int j :: .ref a :: st) := fun T locs k0 hx hk hE X eT hS hk0 hF hZ hN hC hO => by
  subst hp
  obtain ⟨t, v', L', r1, r2⟩ := K T locs k0 hx hk hE X eT hS hk0 hF hZ hN hC hO
  obtain ⟨cl, A, -, rfl⟩ := A
  rw [Array.getElem?_toList] at hv
  exact ⟨t, v', L', X.iaload hx (cell := cl) (by rw [eT]; exact A.1) (State.isArrayOf_alike (s := Z) (T := s.setVm vm) hZ.alike A.2.1) A.2.2 (fun q => q.elim hj fun q => absurd (Array.getElem?_eq_some_iff.mp hv).1 (Nat.not_lt.mpr q)) hv (g := mkF m pc L (.int j :: .ref a :: st)) rfl rfl hd _ r1, r2⟩
theorem Go.laload {a : Addr} {kA : ClassId} {vs : List Value} {j : Int32} {v : Value} (A : Ar Z h a kA .long vs) (hj : ¬ j < 0) (hv : vs[j.toNatClampNeg]? = some v) (hd : decode c.code pc = .ok (.laload, 1)) (hp : pc + 1 = pc') (K : Go p l e R s m args below meth c Z a0 EL nw Q vm h k n pc' L (v :: st)) : Go p l e R s m args below meth c Z a0 EL nw Q vm h k n pc L (.int j :: .ref a :: st) := fun T locs k0 hx hk hE X eT hS hk0 hF hZ hN hC hO => by
  subst hp
  obtain ⟨t, v', L', r1, r2⟩ := K T locs k0 hx hk hE X eT hS hk0 hF hZ hN hC hO
  obtain ⟨cl, A, -, rfl⟩ := A
  rw [Array.getElem?_toList] at hv
  exact ⟨t, v', L', X.laload hx (cell := cl) (by rw [eT]; exact A.1) (State.isArrayOf_alike (s := Z) (T := s.setVm vm) hZ.alike A.2.1) A.2.2 (fun q => q.elim hj fun q => absurd (Array.getElem?_eq_some_iff.mp hv).1 (Nat.not_lt.mpr q)) hv (g := mkF m pc L (.int j :: .ref a :: st)) rfl rfl hd _ r1, r2⟩
theorem Go.aaload {a : Addr} {kA : ClassId} {ty : FieldType} {vs : List Value} {j : Int32} {v : Value} (A : Ar Z h a kA ty vs) (hty : ty.isReference = true) (hj : ¬ j < 0) (hv : vs[j.toNatClampNeg]? = some v) (hd : decode c.code pc = .ok (.aaload, 1)) (hp : pc + 1 = pc') (K : Go p l e R s m args below meth c Z a0 EL nw Q vm h k n pc' L (v :: st)) : Go p l e R s m args below meth c Z a0 EL nw Q vm h k n pc L (.int j :: .ref a :: st) := fun T locs k0 hx hk hE X eT hS hk0 hF hZ hN hC hO => by
  subst hp
  obtain ⟨t, v', L', r1, r2⟩ := K T locs k0 hx hk hE X eT hS hk0 hF hZ hN hC hO
  obtain ⟨cl, A, -, rfl⟩ := A
  rw [Array.getElem?_toList] at hv
  exact ⟨t, v', L', X.aaload hx (cell := cl) (by rw [eT]; exact A.1) (State.isArrayOf_alike (s := Z) (T := s.setVm vm) hZ.alike A.2.1) hty A.2.2 (fun q => q.elim hj fun q => absurd (Array.getElem?_eq_some_iff.mp hv).1 (Nat.not_lt.mpr q)) hv (g := mkF m pc L (.int j :: .ref a :: st)) rfl rfl hd _ r1, r2⟩
theorem Go.newO {own C : String} {index nn : Nat} (hown : Z.vm.findClass own = some m.cls) (w : (Jvm.Cond.classLink own index C).before a0 Z = true) (wi : (Jvm.Cond.instantiable C nn).before a0 Z = true) (wz : (Jvm.Cond.initialized C).before a0 Z = true) (hd : decode c.code pc = .ok (.new index, 3)) (hp : pc + 3 = pc') (hc : k + 1 ≤ R.cells) (hl : n + nn ≤ R.slots)
    (K : ∀ (h' : Heap) (a : Addr), h.size ≤ a → h'.size > a → Ext h h' → Exa Z h' a C → (∀ {O nm d : String} {ty : FieldType}, Laid Z a0 C O nm d → parseFieldDescriptor d = some ty → Fld Z h' a O nm d (defaultValue ty)) → Safe Z EL vm h' a → CHr Z EL vm h vm h' → Go p l e R s m args below meth c Z a0 EL nw Q vm h' (k + 1) (n + nn) pc' L (.ref a :: st)) : Go p l e R s m args below meth c Z a0 EL nw Q vm h k n pc L st := fun T locs k0 hx hk hE X eT hS hk0 hF hZ hN hC hO => by
  subst hp
  have hown' : (s.setVm vm).vm.findClass own = some m.cls := by
    show vm.findClass own = _
    rw [hZ.alike.findClass]; exact hown
  obtain ⟨T', h', X', e', E', A', D', -, st'⟩ := RoadKit.newO X hx (s := s.setVm vm) hZ hown' w wi wz eT (g := mkF m pc L st) rfl hd hc hl
  obtain ⟨t, v, L', r1, r2⟩ := K h' h.size (Nat.le_refl _) A'.lt E' A' D' (Safe.ext E' hC.1 (Safe.new (Nat.le_refl _))) (CHr.ext E' hC.1) T' locs k0 hx hk hE X' e' hS (Nat.le_trans hk0 E'.1) hF hZ hN (hC.trans (CHr.ext E' hC.1)) (ext_trans hO E')
  exact ⟨t, v, L', st' _ r1, r2⟩
theorem Go.newP {aty : ArrayType} {ty : FieldType} {z : Int32} {cap : Nat} (hty : newarray.typeOf aty = ty) (w : (Jvm.Cond.arrayClass ty).before a0 Z = true) (hd : decode c.code pc = .ok (.newarray aty, 2)) (hp : pc + 2 = pc') (hz : ¬ z < 0) (hcap : z.toNatClampNeg ≤ cap) (hb : cap * 8 ≤ 536870912) (hc : k + 1 ≤ R.cells) (hl : n + cap ≤ R.slots)
    (K : ∀ (h' : Heap) (a : Addr) (kA : ClassId), h.size ≤ a → h'.size > a → Ext h h' → Ar Z h' a kA ty (List.replicate z.toNatClampNeg (defaultValue ty)) → Safe Z EL vm h' a → CHr Z EL vm h vm h' → Go p l e R s m args below meth c Z a0 EL nw Q vm h' (k + 1) (n + cap) pc' L (.ref a :: st)) : Go p l e R s m args below meth c Z a0 EL nw Q vm h k n pc L (.int z :: st) := fun T locs k0 hx hk hE X eT hS hk0 hF hZ hN hC hO => by
  subst hp hty
  obtain ⟨T', h', cA, X', e', E', A', st'⟩ := RoadKit.newP X hx (s := s.setVm vm) hZ w eT (g := mkF m pc L (.int z :: st)) rfl hd rfl hz hcap hb hc hl
  obtain ⟨t, v, L', r1, r2⟩ := K h' h.size cA (Nat.le_refl _) A'.lt E' ⟨_, A', rfl, by simp [newA]⟩ (Safe.ext E' hC.1 (Safe.new (Nat.le_refl _))) (CHr.ext E' hC.1) T' locs k0 hx hk hE X' e' hS (Nat.le_trans hk0 E'.1) hF hZ hN (hC.trans (CHr.ext E' hC.1)) (ext_trans hO E')
  exact ⟨t, v, L', st' _ r1, r2⟩
theorem Go.newR {own C : String} {index : Nat} {z : Int32} {cap : Nat} (hown : Z.vm.findClass own = some m.cls) (w1 : (Jvm.Cond.classLink own index C).before a0 Z = true) (w2 : (Jvm.Cond.arrayOver (.object C)).before a0 Z = true) (hd : decode c.code pc = .ok (.anewarray index, 3)) (hp : pc + 3 = pc') (hz : ¬ z < 0) (hcap : z.toNatClampNeg ≤ cap) (hb : cap * 8 ≤ 536870912) (hc : k + 1 ≤ R.cells) (hl : n + cap ≤ R.slots)
    (K : ∀ (h' : Heap) (a : Addr) (kA : ClassId), h.size ≤ a → h'.size > a → Ext h h' → Ar Z h' a kA (.object C) (List.replicate z.toNatClampNeg .null) → Ovr Z kA C → CHr Z EL vm h vm h' → Go p l e R s m args below meth c Z a0 EL nw Q vm h' (k + 1) (n + cap) pc' L (.ref a :: st)) : Go p l e R s m args below meth c Z a0 EL nw Q vm h k n pc L (.int z :: st) := fun T locs k0 hx hk hE X eT hS hk0 hF hZ hN hC hO => by
  subst hp
  have hown' : (s.setVm vm).vm.findClass own = some m.cls := by
    show vm.findClass own = _
    rw [hZ.alike.findClass]; exact hown
  obtain ⟨T', h', cA, X', e', E', A', O', st'⟩ := RoadKit.newR X hx (s := s.setVm vm) hZ hown' w1 w2 eT (g := mkF m pc L (.int z :: st)) rfl hd rfl hz hcap hb hc hl
  obtain ⟨t, v, L', r1, r2⟩ := K h' h.size cA (Nat.le_refl _) A'.lt E' ⟨_, A', rfl, by simp [newA, defaultValue]⟩ O' (CHr.ext E' hC.1) T' locs k0 hx hk hE X' e' hS (Nat.le_trans hk0 E'.1) hF hZ hN (hC.trans (CHr.ext E' hC.1)) (ext_trans hO E')
  exact ⟨t, v, L', st' _ r1, r2⟩
theorem Go.putF {own R0 O nm d C : String} {index kk : Nat} {ty : FieldType} {a : Addr} {v v' old : Value} (hown : Z.vm.findClass own = some m.cls) (w : (Jvm.Cond.fieldLink own index R0 nm d).before a0 Z = true) (via : Via Z R0 O nm d) (F : Fld Z h a O nm d old) (E : Exa Z h a C)
    (Ly : (Jvm.Cond.lays C O nm d).before a0 Z = true ∨ ((Jvm.Cond.laysFinal C O nm d).before a0 Z = true ∧ own = O ∧ meth.name = "<init>")) (wi : (Jvm.Cond.instantiable C kk).before a0 Z = true) (hty : parseFieldDescriptor d = some ty) (hn : narrow ty v = v') (hf : fits ty v' = true) (hs0 : (C ≠ "java/lang/String" ∧ C ≠ "[B") ∨ Safe Z EL vm h a) (hge : Z.heap.size ≤ a) (hd : decode c.code pc = .ok (.putfield index, 3)) (hp : pc + 3 = pc')
    (K : ∀ (h' : Heap), Wr h h' a (RoadKit.slotOf Z O nm d) v' → h'.size = h.size → Keep h h' [a] → CHr Z EL vm h vm h' → Go p l e R s m args below meth c Z a0 EL nw Q vm h' k n pc' L st) : Go p l e R s m args below meth c Z a0 EL nw Q vm h k n pc L (v :: .ref a :: st) := fun T locs k0 hx hk hE X eT hS hk0 hF hZ hN hC hO => by
  subst hp
  have hown' : (s.setVm vm).vm.findClass own = some m.cls := by
    show vm.findClass own = _
    rw [hZ.alike.findClass]; exact hown
  have hs : Safe Z EL vm h a := hs0.elim (fun q => Safe.exa hZ.alike E q.1 q.2) id
  obtain ⟨T', h', X', e', W', st'⟩ := RoadKit.putFN X hx (s := s.setVm vm) hZ hown' w via eT F E Ly wi hty hn hf (g := mkF m pc L (v :: .ref a :: st)) rfl rfl hd
  obtain ⟨t, v, L', r1, r2⟩ := K h' W' W'.size (Keep.of_wr W') (CHr.wr W' hs hC.1) T' _ k0 hx hk hE X' e' hS (by rw [W'.size]; exact hk0) (Fr.snoc X' hF hge) hZ hN (hC.trans (CHr.wr W' hs hC.1)) (ext_wr hO W' hge)
  exact ⟨t, v, L', st' _ r1, r2⟩
theorem Go.putFN {own R0 O nm d C host : String} {index kk : Nat} {ty : FieldType} {a : Addr} {v old : Value} (hown : Z.vm.findClass own = some m.cls) (w : (Jvm.Cond.fieldLinkNest own index R0 nm d host).before a0 Z = true) (via : Via Z R0 O nm d) (F : Fld Z h a O nm d old) (E : Exa Z h a C)
    (Ly : (Jvm.Cond.lays C O nm d).before a0 Z = true ∨ ((Jvm.Cond.laysFinal C O nm d).before a0 Z = true ∧ own = O ∧ meth.name = "<init>")) (wi : (Jvm.Cond.instantiable C kk).before a0 Z = true) (hty : parseFieldDescriptor d = some ty) (hn : narrow ty v = v) (hf : fits ty v = true) (hs0 : (C ≠ "java/lang/String" ∧ C ≠ "[B") ∨ Safe Z EL vm h a) (hge : Z.heap.size ≤ a) (hd : decode c.code pc = .ok (.putfield index, 3)) (hp : pc + 3 = pc')
    (K : ∀ (h' : Heap), Wr h h' a (RoadKit.slotOf Z O nm d) v → h'.size = h.size → Keep h h' [a] → CHr Z EL vm h vm h' → Go p l e R s m args below meth c Z a0 EL nw Q vm h' k n pc' L st) : Go p l e R s m args below meth c Z a0 EL nw Q vm h k n pc L (v :: .ref a :: st) := fun T locs k0 hx hk hE X eT hS hk0 hF hZ hN hC hO => by
  subst hp
  have hown' : (s.setVm vm).vm.findClass own = some m.cls := by
    show vm.findClass own = _
    rw [hZ.alike.findClass]; exact hown
  have hs : Safe Z EL vm h a := hs0.elim (fun q => Safe.exa hZ.alike E q.1 q.2) id
  obtain ⟨T', h', X', e', W', st'⟩ := RoadKit.putF X hx (s := s.setVm vm) hZ hown' (Or.inr w) via eT F E Ly wi hty hn hf (g := mkF m pc L (v :: .ref a :: st)) rfl rfl hd
  obtain ⟨t, v, L', r1, r2⟩ := K h' W' W'.size (Keep.of_wr W') (CHr.wr W' hs hC.1) T' _ k0 hx hk hE X' e' hS (by rw [W'.size]; exact hk0) (Fr.snoc X' hF hge) hZ hN (hC.trans (CHr.wr W' hs hC.1)) (ext_wr hO W' hge)
  exact ⟨t, v, L', st' _ r1, r2⟩
theorem Go.castore {a : Addr} {kA : ClassId} {vs : List Value} {j x : Int32} (A : Ar Z h a kA .char vs) (hj : ¬ j < 0) (hlt : j.toNatClampNeg < vs.length) (hge : Z.heap.size ≤ a) (hd : decode c.code pc = .ok (.castore, 1)) (hp : pc + 1 = pc')
    (K : ∀ (h' : Heap), Ar Z h' a kA .char (vs.set j.toNatClampNeg (.int (nar .char x))) → h'.size = h.size → Keep h h' [a] → Safe Z EL vm h' a → CHr Z EL vm h vm h' → Go p l e R s m args below meth c Z a0 EL nw Q vm h' k n pc' L st) : Go p l e R s m args below meth c Z a0 EL nw Q vm h k n pc L (.int x :: .int j :: .ref a :: st) := fun T locs k0 hx hk hE X eT hS hk0 hF hZ hN hC hO => by
  subst hp
  have A0 := A
  have hs : Safe Z EL vm h a := A.safe hZ.alike (by intro q; cases q)
  obtain ⟨cl, A, -, e2⟩ := A
  have hin : ¬ (j < 0 ∨ cl.slots.size ≤ j.toNatClampNeg) := fun q => q.elim hj fun q => by rw [← e2] at hlt; simp at hlt; omega
  obtain ⟨T', h', X', e', W', st'⟩ := RoadKit.stC X hx (s := s.setVm vm) hZ eT A hin (g := mkF m pc L (.int x :: .int j :: .ref a :: st)) rfl rfl hd
  obtain ⟨t, v, L', r1, r2⟩ := K h' (A0.set W') W'.size (Keep.of_wr W') (Safe.wr W' hs hC.1 hs) (CHr.wr W' hs hC.1) T' _ k0 hx hk hE X' e' hS (by rw [W'.size]; exact hk0) (Fr.snoc X' hF hge) hZ hN (hC.trans (CHr.wr W' hs hC.1)) (ext_wr hO W' hge)
  exact ⟨t, v, L', st' _ r1, r2⟩
theorem Go.bastore {a : Addr} {kA : ClassId} {vs : List Value} {j x : Int32} (A : Ar Z h a kA .byte vs) (hj : ¬ j < 0) (hlt : j.toNatClampNeg < vs.length) (hs : Safe Z EL vm h a) (hge : Z.heap.size ≤ a) (hd : decode c.code pc = .ok (.bastore, 1)) (hp : pc + 1 = pc')
    (K : ∀ (h' : Heap), Ar Z h' a kA .byte (vs.set j.toNatClampNeg (.int (nar .byte x))) → h'.size = h.size → Keep h h' [a] → Safe Z EL vm h' a → CHr Z EL vm h vm h' → Go p l e R s m args below meth c Z a0 EL nw Q vm h' k n pc' L st) : Go p l e R s m args below meth c Z a0 EL nw Q vm h k n pc L (.int x :: .int j :: .ref a :: st) := fun T locs k0 hx hk hE X eT hS hk0 hF hZ hN hC hO => by
  subst hp
  have A0 := A
  obtain ⟨cl, A, -, e2⟩ := A
  have hin : ¬ (j < 0 ∨ cl.slots.size ≤ j.toNatClampNeg) := fun q => q.elim hj fun q => by rw [← e2] at hlt; simp at hlt; omega
  obtain ⟨T', h', X', e', W', st'⟩ := RoadKit.stB X hx (s := s.setVm vm) hZ eT A hin (g := mkF m pc L (.int x :: .int j :: .ref a :: st)) rfl rfl hd
  obtain ⟨t, v, L', r1, r2⟩ := K h' (A0.set W') W'.size (Keep.of_wr W') (Safe.wr W' hs hC.1 hs) (CHr.wr W' hs hC.1) T' _ k0 hx hk hE X' e' hS (by rw [W'.size]; exact hk0) (Fr.snoc X' hF hge) hZ hN (hC.trans (CHr.wr W' hs hC.1)) (ext_wr hO W' hge)
  exact ⟨t, v, L', st' _ r1, r2⟩
theorem Go.zastore {a : Addr} {kA : ClassId} {vs : List Value} {j x : Int32} (A : Ar Z h a kA .boolean vs) (hj : ¬ j < 0) (hlt : j.toNatClampNeg < vs.length) (hge : Z.heap.size ≤ a) (hd : decode c.code pc = .ok (.bastore, 1)) (hp : pc + 1 = pc')
    (K : ∀ (h' : Heap), Ar Z h' a kA .boolean (vs.set j.toNatClampNeg (.int (nar .boolean x))) → h'.size = h.size → Keep h h' [a] → Safe Z EL vm h' a → CHr Z EL vm h vm h' → Go p l e R s m args below meth c Z a0 EL nw Q vm h' k n pc' L st) : Go p l e R s m args below meth c Z a0 EL nw Q vm h k n pc L (.int x :: .int j :: .ref a :: st) := fun T locs k0 hx hk hE X eT hS hk0 hF hZ hN hC hO => by
  subst hp
  have A0 := A
  have hs : Safe Z EL vm h a := A.safe hZ.alike (by intro q; cases q)
  obtain ⟨cl, A, -, e2⟩ := A
  have hin : ¬ (j < 0 ∨ cl.slots.size ≤ j.toNatClampNeg) := fun q => q.elim hj fun q => by rw [← e2] at hlt; simp at hlt; omega
  obtain ⟨T', h', X', e', W', st'⟩ := RoadKit.stZ X hx (s := s.setVm vm) hZ eT A hin (g := mkF m pc L (.int x :: .int j :: .ref a :: st)) rfl rfl hd
  obtain ⟨t, v, L', r1, r2⟩ := K h' (A0.set W') W'.size (Keep.of_wr W') (Safe.wr W' hs hC.1 hs) (CHr.wr W' hs hC.1) T' _ k0 hx hk hE X' e' hS (by rw [W'.size]; exact hk0) (Fr.snoc X' hF hge) hZ hN (hC.trans (CHr.wr W' hs hC.1)) (ext_wr hO W' hge)
  exact ⟨t, v, L', st' _ r1, r2⟩
theorem Go.iastore {a : Addr} {kA : ClassId} {vs : List Value} {j x : Int32} (A : Ar Z h a kA .int vs) (hj : ¬ j < 0) (hlt : j.toNatClampNeg < vs.length) (hge : Z.heap.size ≤ a) (hd : decode c.code pc = .ok (.iastore, 1)) (hp : pc + 1 = pc')
    (K : ∀ (h' : Heap), Ar Z h' a kA .int (vs.set j.toNatClampNeg (.int x)) → h'.size = h.size → Keep h h' [a] → Safe Z EL vm h' a → CHr Z EL vm h vm h' → Go p l e R s m args below meth c Z a0 EL nw Q vm h' k n pc' L st) : Go p l e R s m args below meth c Z a0 EL nw Q vm h k n pc L (.int x :: .int j :: .ref a :: st) := fun T locs k0 hx hk hE X eT hS hk0 hF hZ hN hC hO => by
  subst hp
  have A0 := A
  have hs : Safe Z EL vm h a := A.safe hZ.alike (by intro q; cases q)
  obtain ⟨cl, A, -, e2⟩ := A
  have hin : ¬ (j < 0 ∨ cl.slots.size ≤ j.toNatClampNeg) := fun q => q.elim hj fun q => by rw [← e2] at hlt; simp at hlt; omega
  obtain ⟨T', h', X', e', W', st'⟩ := RoadKit.stI X hx (s := s.setVm vm) hZ eT A hin (g := mkF m pc L (.int x :: .int j :: .ref a :: st)) rfl rfl hd
  obtain ⟨t, v, L', r1, r2⟩ := K h' (A0.set W') W'.size (Keep.of_wr W') (Safe.wr W' hs hC.1 hs) (CHr.wr W' hs hC.1) T' _ k0 hx hk hE X' e' hS (by rw [W'.size]; exact hk0) (Fr.snoc X' hF hge) hZ hN (hC.trans (CHr.wr W' hs hC.1)) (ext_wr hO W' hge)
  exact ⟨t, v, L', st' _ r1, r2⟩
theorem Go.aastore {a : Addr} {kA : ClassId} {ty : FieldType} {vs : List Value} {j : Int32} {v : Value} (A : Ar Z h a kA ty vs) (hty : ty.isReference = true) (hj : ¬ j < 0) (hlt : j.toNatClampNeg < vs.length) (F : Sto Z h a v) (hge : Z.heap.size ≤ a) (hd : decode c.code pc = .ok (.aastore, 1)) (hp : pc + 1 = pc')
    (K : ∀ (h' : Heap), Ar Z h' a kA ty (vs.set j.toNatClampNeg v) → h'.size = h.size → Keep h h' [a] → CHr Z EL vm h vm h' → Go p l e R s m args below meth c Z a0 EL nw Q vm h' k n pc' L st) : Go p l e R s m args below meth c Z a0 EL nw Q vm h k n pc L (v :: .int j :: .ref a :: st) := fun T locs k0 hx hk hE X eT hS hk0 hF hZ hN hC hO => by
  subst hp
  have A0 := A
  have hs : Safe Z EL vm h a := A.safe hZ.alike (by rintro rfl; cases hty)
  obtain ⟨cl, A, -, e2⟩ := A
  have hin : ¬ (j < 0 ∨ cl.slots.size ≤ j.toNatClampNeg) := fun q => q.elim hj fun q => by rw [← e2] at hlt; simp at hlt; omega
  obtain ⟨T', h', X', e', W', st'⟩ := RoadKit.stR X hx (s := s.setVm vm) hZ eT A hin hty F (g := mkF m pc L (v :: .int j :: .ref a :: st)) rfl rfl hd
  obtain ⟨t, v, L', r1, r2⟩ := K h' (A0.set W') W'.size (Keep.of_wr W') (CHr.wr W' hs hC.1) T' _ k0 hx hk hE X' e' hS (by rw [W'.size]; exact hk0) (Fr.snoc X' hF hge) hZ hN (hC.trans (CHr.wr W' hs hC.1)) (ext_wr hO W' hge)
  exact ⟨t, v, L', st' _ r1, r2⟩
theorem Go.know {P : Prop} (q : Z.Warmed39 vm → CHv Z EL vm h → Ext Z.heap h → P) (K : P → Go p l e R s m args below meth c Z a0 EL nw Q vm h k n pc L st) : Go p l e R s m args below meth c Z a0 EL nw Q vm h k n pc L st := fun T locs k0 hx hk hE X eT hS hk0 hF hZ hN hC hO => K (q hZ hC.1 hO) T locs k0 hx hk hE X eT hS hk0 hF hZ hN hC hO
theorem Go.joinH {pcM k1 n1 : Nat} {P : Vm → Heap → Value → Prop} {F : Value → Array Slot} {S : Value → List Value} (J : ∀ vm' h' v, P vm' h' v → Go p l e R s m args below meth c Z a0 EL nw Q vm' h' k1 n1 pcM (F v) (S v)) (K : (∀ vm' h' v, P vm' h' v → Go p l e R s m args below meth c Z a0 EL nw Q vm' h' k1 n1 pcM (F v) (S v)) → Go p l e R s m args below meth c Z a0 EL nw Q vm h k n pc L st) : Go p l e R s m args below meth c Z a0 EL nw Q vm h k n pc L st := K J
theorem Go.joinI {pcM : Nat} {P : Int32 → Prop} {F : Int32 → Array Slot} {S : Int32 → List Value} (J : ∀ x, P x → Go p l e R s m args below meth c Z a0 EL nw Q vm h k n pcM (F x) (S x)) (K : (∀ x, P x → Go p l e R s m args below meth c Z a0 EL nw Q vm h k n pcM (F x) (S x)) → Go p l e R s m args below meth c Z a0 EL nw Q vm h k n pc L st) : Go p l e R s m args below meth c Z a0 EL nw Q vm h k n pc L st := K J
theorem Go.joinJ {pcM : Nat} {P : Int64 → Prop} {F : Int64 → Array Slot} {S : Int64 → List Value} (J : ∀ x, P x → Go p l e R s m args below meth c Z a0 EL nw Q vm h k n pcM (F x) (S x)) (K : (∀ x, P x → Go p l e R s m args below meth c Z a0 EL nw Q vm h k n pcM (F x) (S x)) → Go p l e R s m args below meth c Z a0 EL nw Q vm h k n pc L st) : Go p l e R s m args below meth c Z a0 EL nw Q vm h k n pc L st := K J
theorem Go.loop {pcH : Nat} {st0 : List Value} {Inv : Nat → Vm → Heap → Nat → Nat → Array Slot → Prop} (step : ∀ r vm h k n L, Inv r vm h k n L → (∀ r' vm' h' k' n' L', r' < r → Inv r' vm' h' k' n' L' → Go p l e R s m args below meth c Z a0 EL nw Q vm' h' k' n' pcH L' st0) → Go p l e R s m args below meth c Z a0 EL nw Q vm h k n pcH L st0) : ∀ r vm h k n L, Inv r vm h k n L → Go p l e R s m args below meth c Z a0 EL nw Q vm h k n pcH L st0 := by
  intro r
  induction r using Nat.strongRecOn with
  | ind r ih => intro vm h k n L hI; exact step r vm h k n L hI fun r' vm' h' k' n' L' hr hI' => ih r' hr vm' h' k' n' L' hI'
theorem Go.castNull {index : Nat} (hd : decode c.code pc = .ok (.checkcast index, 3)) (hp : pc + 3 = pc') (K : Go p l e R s m args below meth c Z a0 EL nw Q vm h k n pc' L (.null :: st)) : Go p l e R s m args below meth c Z a0 EL nw Q vm h k n pc L (.null :: st) := by
  subst hp
  exact Go.plain (fun T _ hx X _ r => Stand.checkcastNull X hx (g := mkF m pc L (.null :: st)) rfl (rest := st) rfl hd _ r) K
theorem Go.instNull {index : Nat} (hd : decode c.code pc = .ok (.instanceof index, 3)) (hp : pc + 3 = pc') (K : Go p l e R s m args below meth c Z a0 EL nw Q vm h k n pc' L (.int 0 :: st)) : Go p l e R s m args below meth c Z a0 EL nw Q vm h k n pc L (.null :: st) := by
  subst hp
  exact Go.plain (fun T _ hx X _ r => Stand.instanceofNull X hx (g := mkF m pc L (.null :: st)) rfl (rest := st) rfl hd _ r) K
theorem Go.ldcStr {own text : String} {index n0 : Nat} {vs : List Value} (hnw : ¬ nw) (hown : Z.vm.findClass own = some m.cls) (w : (Jvm.Cond.stringLink own index text).before a0 Z = true) (wS : ∀ a ∈ Bundle.stringAtoms, a.before a0 Z = true) (hmem : (own, index) ∈ EL)
    (ht : (∀ c ∈ text.toList, c.toNat < 256) ∧ text.toList.map (fun c => Value.int (Jvm.Lit.byteI c.toNat.toUInt16)) = vs) (hd : decode c.code pc = .ok (.ldc index, 2)) (hp : pc + 2 = pc') (hn : 4 * text.toList.length ≤ n0) (hbig : n0 ≤ 536870912) (hc : k + 2 ≤ R.cells) (hl : n + (n0 + 4) ≤ R.slots)
    (K : ∀ (vm' : Vm) (h' : Heap) (a b : Addr) (kA : ClassId), Ext h h' → CHr Z EL vm h vm' h' → Exa Z h' a "java/lang/String" → Fld Z h' a "java/lang/String" "coder" "B" (.int 0) → Fld Z h' a "java/lang/String" "value" "[B" (.ref b) → Ar Z h' b kA .byte vs → h'.size > a → h'.size > b → (∀ x, Safe Z EL vm' h' x → x ≠ a ∧ x ≠ b) → Go p l e R s m args below meth c Z a0 EL nw Q vm' h' (k + 2) (n + (n0 + 4)) pc' L (.ref a :: st)) : Go p l e R s m args below meth c Z a0 EL nw Q vm h k n pc L st := fun T locs k0 hx hk hE X eT hS hk0 hF hZ hN hC hO => by
  subst hp
  have hown' : (s.setVm vm).vm.findClass own = some m.cls := by
    show vm.findClass own = _
    rw [hZ.alike.findClass]; exact hown
  have hlen : vs.length = text.toList.length := by rw [← ht.2, List.length_map]
  have hz : ¬ (vs.length.toInt32 < 0) := by
    have q : vs.length < 2 ^ 31 := by omega
    have := Int32.toInt_ofNat_small q
    intro z
    have := Int32.lt_iff_toInt_lt.mp z
    have e0 : (0 : Int32).toInt = 0 := rfl
    have e1 : vs.length.toInt32.toInt = vs.length := Int32.toInt_ofNat_small q
    omega
  have hlz : vs.length.toInt32.toNatClampNeg = vs.length := by
    have q : vs.length < 2 ^ 31 := by omega
    have e1 : vs.length.toInt32.toInt = vs.length := Int32.toInt_ofNat_small q
    rw [← Int32.toNat_toInt, e1]; rfl
  obtain ⟨a, T', h', k1, b, kA, X', e', E', hS', hk', hZ', hown2, x1, x2, x3, x4, x5, x6, hC', -, hsafe, st'⟩ := ldcCH X hx hZ hown' w wS eT hS hk0 hE hmem hC.1 ht hz hlz (g := mkF m pc L st) rfl hd hn hbig hc hl
  obtain ⟨t, v, L', r1, r2⟩ := K T'.vm h' a b kA E' hC' x1 x2 x3 (Ar.of_arv x4 hlz) x5 x6 hsafe T' locs k1 hx hk hE X' e' hS' hk' hF hZ' (fun q => absurd q hnw) (hC.trans hC') (ext_trans hO E')
  exact ⟨t, v, L', st' _ r1, r2⟩
theorem Go.ldcRef {own text : String} {index n0 : Nat} (hnw : ¬ nw) (hown : Z.vm.findClass own = some m.cls) (w : (Jvm.Cond.stringLink own index text).before a0 Z = true) (wS : ∀ a ∈ Bundle.stringAtoms, a.before a0 Z = true)
    (hd : decode c.code pc = .ok (.ldc index, 2)) (hp : pc + 2 = pc') (hn : 4 * text.toList.length ≤ n0) (hbig : n0 ≤ 536870912) (hc : k + 2 ≤ R.cells) (hl : n + (n0 + 4) ≤ R.slots)
    (K : ∀ (vm' : Vm) (h' : Heap) (a : Addr), Ext h h' → CHr Z EL vm h vm' h' → Go p l e R s m args below meth c Z a0 EL nw Q vm' h' (k + 2) (n + (n0 + 4)) pc' L (.ref a :: st)) : Go p l e R s m args below meth c Z a0 EL nw Q vm h k n pc L st := fun T locs k0 hx hk hE X eT hS hk0 hF hZ hN hC hO => by
  subst hp
  have hown' : (s.setVm vm).vm.findClass own = some m.cls := by
    show vm.findClass own = _
    rw [hZ.alike.findClass]; exact hown
  obtain ⟨a, T', h', k1, X', e', E', hS', hk', hZ', hown2, hC', -, st'⟩ := ldcOH X hx hZ hown' w wS eT hS hk0 hE hC.1 (g := mkF m pc L st) rfl hd hn hbig hc hl
  obtain ⟨t, v, L', r1, r2⟩ := K T'.vm h' a E' hC' T' locs k1 hx hk hE X' e' hS' hk' hF hZ' (fun q => absurd q hnw) (hC.trans hC') (ext_trans hO E')
  exact ⟨t, v, L', st' _ r1, r2⟩
theorem Go.ret (hret : meth.sig.returnType = none) (hd : decode c.code pc = .ok (.return_, 1)) (hk1 : k ≤ R.cells) (hn1 : n ≤ R.slots) (q : ∀ vm', CHr Z EL vm h vm' h → Q none vm' h) : Go p l e R s m args below meth c Z a0 EL nw Q vm h k n pc L [] := fun T locs k0 hx hk hE X eT hS hk0 hF hZ hN hC hO => by
  subst eT
  obtain ⟨fs, h1, h2, h3, h4⟩ := X.leaveW hS hk0 (v := none) (fun _ => rfl) hk
  have hA := CHv.at X hZ hE hC.1
  refine ⟨_, none, locs, X.returnOut hx hret hd h1, h2, h3, hF, q _ hA, hC.trans hA, hO, ?_, fun z => State.WarmedH.trans (t := s.setVm vm) (hN z) X.warmed⟩
  exact ⟨h4.1, h4.2.1, h4.2.2.1, h4.2.2.2.mono hk1 hn1⟩
theorem Go.retV {w : Value} {t : FieldType} {i : Instr} (hret : meth.sig.returnType = some t) (hn : narrow t w = w)
    (hi : (i = .ireturn ∧ (t = .int ∨ t = .boolean ∨ t = .byte ∨ t = .char ∨ t = .short) ∧ ∃ z, w = .int z) ∨ (i = .lreturn ∧ t = .long ∧ ∃ z, w = .long z) ∨ (i = .dreturn ∧ t = .double ∧ ∃ z, w = .double z) ∨ (i = .freturn ∧ t = .float ∧ ∃ z, w = .float z) ∨ (i = .areturn ∧ t.isReference = true ∧ w.isRef = true))
    (hd : decode c.code pc = .ok (i, 1)) (hk1 : k ≤ R.cells) (hn1 : n ≤ R.slots) (q : ∀ vm', CHr Z EL vm h vm' h → Q (some w) vm' h) : Go p l e R s m args below meth c Z a0 EL nw Q vm h k n pc L (w :: st) := fun T locs k0 hx hk hE X eT hS hk0 hF hZ hN hC hO => by
  subst eT
  obtain ⟨fs, h1, h2, h3, h4⟩ := X.leaveW hS hk0 (v := some w) (fun z => by rw [hret] at z; cases z) hk
  have hA := CHv.at X hZ hE hC.1
  refine ⟨_, some w, locs, retOut X hx hret hn hi hd h1, h2, h3, hF, q _ hA, hC.trans hA, hO, ?_, fun z => State.WarmedH.trans (t := s.setVm vm) (hN z) X.warmed⟩
  exact ⟨h4.1, h4.2.1, h4.2.2.1, h4.2.2.2.mono hk1 hn1⟩
theorem Go.retA {w : Value} {t : FieldType} (hret : meth.sig.returnType = some t) (ht : t.isReference = true) (hw : w.isRef = true) (hd : decode c.code pc = .ok (.areturn, 1)) (hk1 : k ≤ R.cells) (hn1 : n ≤ R.slots) (q : ∀ vm', CHr Z EL vm h vm' h → Q (some w) vm' h) : Go p l e R s m args below meth c Z a0 EL nw Q vm h k n pc L (w :: st) :=
  Go.retV hret (by cases t <;> simp [FieldType.isReference] at ht <;> cases w <;> simp [Value.isRef] at hw <;> rfl) (Or.inr (Or.inr (Or.inr (Or.inr ⟨rfl, ht, hw⟩)))) hd hk1 hn1 q
theorem Go.retI {z : Int32} (hret : meth.sig.returnType = some .int) (hd : decode c.code pc = .ok (.ireturn, 1)) (hk1 : k ≤ R.cells) (hn1 : n ≤ R.slots) (q : ∀ vm', CHr Z EL vm h vm' h → Q (some (.int z)) vm' h) : Go p l e R s m args below meth c Z a0 EL nw Q vm h k n pc L (.int z :: st) :=
  Go.retV hret rfl (Or.inl ⟨rfl, Or.inl rfl, _, rfl⟩) hd hk1 hn1 q
theorem Go.retJ {z : Int64} (hret : meth.sig.returnType = some .long) (hd : decode c.code pc = .ok (.lreturn, 1)) (hk1 : k ≤ R.cells) (hn1 : n ≤ R.slots) (q : ∀ vm', CHr Z EL vm h vm' h → Q (some (.long z)) vm' h) : Go p l e R s m args below meth c Z a0 EL nw Q vm h k n pc L (.long z :: st) :=
  Go.retV hret rfl (Or.inr (Or.inl ⟨rfl, rfl, _, rfl⟩)) hd hk1 hn1 q
theorem Go.retN {z : Int32} {t : FieldType} (hret : meth.sig.returnType = some t) (ht : t = .boolean ∨ t = .byte ∨ t = .char ∨ t = .short) (hd : decode c.code pc = .ok (.ireturn, 1)) (hk1 : k ≤ R.cells) (hn1 : n ≤ R.slots) (q : ∀ vm', CHr Z EL vm h vm' h → Q (some (.int (nar t z))) vm' h) : Go p l e R s m args below meth c Z a0 EL nw Q vm h k n pc L (.int z :: st) := fun T locs k0 hx hk hE X eT hS hk0 hF hZ hN hC hO => by
  subst eT
  obtain ⟨fs, h1, h2, h3, h4⟩ := X.leaveW hS hk0 (v := some (.int (nar t z))) (fun z => by rw [hret] at z; cases z) hk
  have hA := CHv.at X hZ hE hC.1
  refine ⟨_, some (.int (nar t z)), locs, RoadKit.retN X hx hret ht hd h1, h2, h3, hF, q _ hA, hC.trans hA, hO, ?_, fun z => State.WarmedH.trans (t := s.setVm vm) (hN z) X.warmed⟩
  exact ⟨h4.1, h4.2.1, h4.2.2.1, h4.2.2.2.mono hk1 hn1⟩
theorem Ct.of_go {ws : List Jvm.Cond} {y : MethodName} {bytes : ByteArray} {maxL : Nat} {ret : Option FieldType} {rm : Room} {as : Array Value} {sf : List Addr} {L0 : Array Slot} (hEL : EW Z a0 EL) (pn : plainName y.cls = true) (hL : ∀ m, entryFrame m as maxL = mkF m 0 L0 [])
    (body : ∀ (p : Program) (e : Env) (s : State) (m : MethodId) (below : List Frame) (meth : Method) (c : Code), Z.vm.findClass y.cls = some m.cls → c.code = bytes → c.maxLocals = maxL → meth.sig.returnType = ret → meth.name = y.name → Z.Warmed39 s.vm → CHv Z EL s.vm h → Ext Z.heap h → (∀ x ∈ sf, Safe Z EL s.vm h x) →
      Go p l e rm s m as below meth c Z a0 EL nw Q s.vm h 0 0 0 L0 []) : Ct l Z EL nw ws y bytes maxL ret rm as h sf Q := by
  refine MetFree.of_bodySF (plainFor_of_name pn) hisR ?_
  intro p e s m args below meth c s₁ Bd hml hP hK
  obtain ⟨rfl, hZ, hh, hC, hO, hsf⟩ := hP
  have hown : s.vm.findClass y.cls = some m.cls := findClass_of_methodNamed Bd.named
  have hnm := (name_of_methodNamed Bd.named Bd.method).1
  have X0 : Stand p l e rm (s.setVm s.vm) m args below meth c s₁ [] 0 0 := Stand.of_body Bd
  have e0 : s₁.heap = h := by rw [← hh, Bd.state]; rfl
  have hC0 : CHr Z EL s.vm s.heap s.vm h := by rw [hh]; exact CHr.refl hC
  obtain ⟨t, v, L', r1, r2, r3, r4, r5, r6, r7, r8, r9⟩ := body p e s m below meth c (by rw [← hZ.alike.findClass]; exact hown) Bd.bytes hml Bd.returns hnm hZ hC hO hsf s₁ [] 0 Bd.exec Bd.notSynchronized hEL X0 e0 ((State.WarmedH.refl s).since 0) (Nat.zero_le _) (Fr.nil _) hZ (fun _ => State.WarmedH.refl s) hC0 hO
  exact ⟨t, .returned v, castTop (hL m) r1, r2, r3, v, L', rfl, r4, r5, r6, r7, r9, r8⟩
theorem Ct.back {y : MethodName} {bytes : ByteArray} {maxL : Nat} {ret : Option FieldType} {rm : Room} {len W : Nat} {as : Array Value} {sf : List Addr} {Q' : Option Value → Vm → Heap → Prop} (hM : Ct l Z EL nw [] y bytes maxL ret rm as h sf Q')
    (hZ : Z.Warmed39 vm) (wc : (Jvm.Cond.code y bytes maxL ret).before a0 Z = true) (wz : (Jvm.Cond.initialized y.cls).before a0 Z = true) (hf : rm.frames + 1 ≤ R.frames) (hl : W + (maxL + 11) + rm.locals ≤ R.locals) (hEL : EW Z a0 EL) (H : CHv Z EL vm h) (hO : Ext Z.heap h) (hsf : ∀ x ∈ sf, h.size > x ∧ Safe Z EL vm h x) :
    BackS l R p e below (s.setVm vm) args y len W (fun A a => a = as ∧ A.U.heap = h ∧ A.cells + rm.cells ≤ R.cells ∧ A.slots + rm.slots ≤ R.slots)
      (fun A _ v B => ∃ L, B.locs = A.locs ++ L ∧ B.cells = A.cells + rm.cells ∧ B.slots = A.slots + rm.slots ∧ Fr Z.heap.size L ∧ Q' v B.U.vm B.U.heap ∧ CHr Z EL vm h B.U.vm B.U.heap ∧ Ext Z.heap B.U.heap ∧ (nw → (s.setVm vm).WarmedH B.U.vm)) :=
  BackS.of_freeW (bytes := bytes) (maxL := maxL) (ret := ret) (E := fun _ first o t L k n => k = rm.cells ∧ n = rm.slots ∧ ∃ v, o = .returned v ∧ Fr Z.heap.size L ∧ Q' v t.vm t.heap ∧ CHr Z EL first.vm first.heap t.vm t.heap ∧ Ext Z.heap t.heap ∧ (nw → first.WarmedH t.vm)) hM hf hl
    (fun m meth c A a Y hp => have hU : Z.Warmed39 A.U.vm := wtrans (s := s.setVm vm) hZ Y.warmed
      ⟨by show (Jvm.Cond.and _ .tt).before a A.U = true; rw [Cond.before_and, mv hU wc]; rfl, mv hU wc, mv hU wz, hp.2.2.1, hp.2.2.2⟩)
    (fun m meth c A a g mk Y hp => ⟨hp.1, wtrans (s := s.setVm vm) hZ Y.warmed, hp.2.1, (CHv.at Y hZ hEL H).1, hO, fun x hx => (CHv.at Y hZ hEL H).safe (hsf x hx).1 (hsf x hx).2⟩) (fun _ _ _ _ _ _ _ _ _ => trivial)
    (fun _ _ _ _ ⟨v, L, h1, h2, h3, h4, h5, h6, h7⟩ => ⟨L, _, _, h7, rfl, rfl, v, h1, h2, h3, h4, h5, h6⟩)
    (fun m meth c A a g mk v t L k n Y hp _ _ ⟨e1, e2, v', e3, e4, e5, e6, e7, e8⟩ => by
      cases e3; subst e1 e2
      refine ⟨L, rfl, rfl, rfl, e4, e5, (CHv.at Y hZ hEL H).trans ?_, e7, fun z => State.WarmedH.trans Y.warmed (e8 z)⟩
      rw [← hp.2.1]; exact e6)
theorem nf_warm {y : MethodName} (hZ : Z.Warmed39 vm) (nf : NotFace Z y) : NotFace (s.setVm vm) y := fun r0 hr => by
  have q : Z.methodNamed? y = some r0 := by
    have := State.methodNamed?_setVm (s := Z) (vm' := vm) hZ.alike y
    rw [← this]; exact hr
  obtain ⟨kr, h1, h2⟩ := nf r0 q
  obtain ⟨kr', g1, g2⟩ := hZ.alike.2.2 _ _ h1
  exact ⟨kr', g1, by rw [g2]; exact h2⟩
theorem Go.callS {own : String} {y : MethodName} {bytes : ByteArray} {maxL : Nat} {ret : Option FieldType} {rm : Room} {W index : Nat} {argsL : List Value} {as : Array Value} {sf : List Addr} {Q' : Option Value → Vm → Heap → Prop} (hM : Ct l Z EL nw [] y bytes maxL ret rm as h sf Q') (hown : Z.vm.findClass own = some m.cls) (w1 : (Jvm.Cond.methodLink own index y).before a0 Z = true) (w2 : (Jvm.Cond.static y).before a0 Z = true) (wc : (Jvm.Cond.code y bytes maxL ret).before a0 Z = true) (wz : (Jvm.Cond.initialized y.cls).before a0 Z = true)
    (hy : y.cls ≠ "java/lang/invoke/MethodHandle" ∧ y.cls ≠ "java/lang/invoke/VarHandle") (hlen : ∀ sig, parseMethodDescriptor y.desc = some sig → argsL.length = sig.parameters.length) (has : as = argsL.toArray) (hL : L.size = c.maxLocals) (hW : (st.map fun v => v.category).sum = W) (hd : decode c.code pc = .ok (.invokestatic index, 3)) (hp : pc + 3 = pc') (hf : rm.frames + 1 ≤ R.frames) (hl : W + (maxL + 11) + rm.locals ≤ R.locals) (hc1 : k + rm.cells ≤ R.cells) (hc2 : n + rm.slots ≤ R.slots) (hsf : ∀ x ∈ sf, h.size > x ∧ Safe Z EL vm h x)
    (K : ∀ (v : Option Value) (vm' : Vm) (h' : Heap), Q' v vm' h' → CHr Z EL vm h vm' h' → Go p l e R s m args below meth c Z a0 EL nw Q vm' h' (k + rm.cells) (n + rm.slots) pc' L (v.toList ++ st)) : Go p l e R s m args below meth c Z a0 EL nw Q vm h k n pc L (argsL.reverse ++ st) := fun T locs k0 hx hk hE X eT hS hk0 hF hZ hN hC hO => by
  subst hp has
  have hown' : (s.setVm vm).vm.findClass own = some m.cls := by
    show vm.findClass own = _
    rw [hZ.alike.findClass]; exact hown
  have hWW : 2 * (mkF m pc L (argsL.reverse ++ st)).monitorRoom + (st.map fun v => v.category).sum ≤ W := by show 2 * 0 + _ ≤ _; rw [Nat.mul_zero, Nat.zero_add]; exact Nat.le_of_eq hW
  have hB := fun len => Ct.back (p := p) (e := e) (below := below) (s := s) (args := args) (len := len) hM hZ wc wz hf hl hE hC.1 hO hsf
  obtain ⟨v, vm1, ⟨T', L1, k1, n1⟩, -, X', hS', hg', hP', st'⟩ := callSS X hx hown' (mv (s := s.setVm vm) hZ w1) (mv (s := s.setVm vm) hZ w2) (mv (s := s.setVm vm) hZ wz) (mv (s := s.setVm vm) hZ wc) hy (hB 3) (g := mkF m pc L (argsL.reverse ++ st)) rfl hL hlen rfl hWW hd (fun _ _ => ⟨rfl, eT, hc1, hc2⟩)
  dsimp only [Pt.U, Pt.locs, Pt.cells, Pt.slots] at X' hS' hg' hP' st'
  obtain ⟨L2, rfl, rfl, rfl, q1, q2, q3, q4, q5⟩ := hP'
  obtain ⟨t, v', L', r1, r2⟩ := K v T'.vm T'.heap q2 q3 T' _ _ hx hk hE X' rfl (hS.trans hS' (Nat.le_trans hk0 (by rw [← eT]; exact hg'))) (Nat.le_refl _) (Fr.app hF q1) (State.Warmed39.trans (t := s.setVm vm) hZ hS'.1) (fun z => State.WarmedH.trans (t := s.setVm vm) (hN z) (q5 z)) (hC.trans q3) q4
  exact ⟨t, v', L', st'.trans r1, r2⟩
theorem Go.callSN {own host : String} {y : MethodName} {bytes : ByteArray} {maxL : Nat} {ret : Option FieldType} {rm : Room} {W index : Nat} {argsL : List Value} {as : Array Value} {sf : List Addr} {Q' : Option Value → Vm → Heap → Prop} (hM : Ct l Z EL nw [] y bytes maxL ret rm as h sf Q') (hown : Z.vm.findClass own = some m.cls) (w1 : (Jvm.Cond.methodLinkNest own index y host).before a0 Z = true) (w2 : (Jvm.Cond.static y).before a0 Z = true) (wc : (Jvm.Cond.code y bytes maxL ret).before a0 Z = true) (wz : (Jvm.Cond.initialized y.cls).before a0 Z = true)
    (hy : y.cls ≠ "java/lang/invoke/MethodHandle" ∧ y.cls ≠ "java/lang/invoke/VarHandle") (hlen : ∀ sig, parseMethodDescriptor y.desc = some sig → argsL.length = sig.parameters.length) (has : as = argsL.toArray) (hL : L.size = c.maxLocals) (hW : (st.map fun v => v.category).sum = W) (hd : decode c.code pc = .ok (.invokestatic index, 3)) (hp : pc + 3 = pc') (hf : rm.frames + 1 ≤ R.frames) (hl : W + (maxL + 11) + rm.locals ≤ R.locals) (hc1 : k + rm.cells ≤ R.cells) (hc2 : n + rm.slots ≤ R.slots) (hsf : ∀ x ∈ sf, h.size > x ∧ Safe Z EL vm h x)
    (K : ∀ (v : Option Value) (vm' : Vm) (h' : Heap), Q' v vm' h' → CHr Z EL vm h vm' h' → Go p l e R s m args below meth c Z a0 EL nw Q vm' h' (k + rm.cells) (n + rm.slots) pc' L (v.toList ++ st)) : Go p l e R s m args below meth c Z a0 EL nw Q vm h k n pc L (argsL.reverse ++ st) := fun T locs k0 hx hk hE X eT hS hk0 hF hZ hN hC hO => by
  subst hp has
  have hown' : (s.setVm vm).vm.findClass own = some m.cls := by
    show vm.findClass own = _
    rw [hZ.alike.findClass]; exact hown
  have hWW : 2 * (mkF m pc L (argsL.reverse ++ st)).monitorRoom + (st.map fun v => v.category).sum ≤ W := by show 2 * 0 + _ ≤ _; rw [Nat.mul_zero, Nat.zero_add]; exact Nat.le_of_eq hW
  have hB := fun len => Ct.back (p := p) (e := e) (below := below) (s := s) (args := args) (len := len) hM hZ wc wz hf hl hE hC.1 hO hsf
  obtain ⟨v, vm1, ⟨T', L1, k1, n1⟩, -, X', hS', hg', hP', st'⟩ := callSNS X hx hown' (Cond.methodLinkNest_wide hZ w1 :) (mv (s := s.setVm vm) hZ w2) (mv (s := s.setVm vm) hZ wz) (mv (s := s.setVm vm) hZ wc) hy (hB 3) (g := mkF m pc L (argsL.reverse ++ st)) rfl hL hlen rfl hWW hd (fun _ _ => ⟨rfl, eT, hc1, hc2⟩)
  dsimp only [Pt.U, Pt.locs, Pt.cells, Pt.slots] at X' hS' hg' hP' st'
  obtain ⟨L2, rfl, rfl, rfl, q1, q2, q3, q4, q5⟩ := hP'
  obtain ⟨t, v', L', r1, r2⟩ := K v T'.vm T'.heap q2 q3 T' _ _ hx hk hE X' rfl (hS.trans hS' (Nat.le_trans hk0 (by rw [← eT]; exact hg'))) (Nat.le_refl _) (Fr.app hF q1) (State.Warmed39.trans (t := s.setVm vm) hZ hS'.1) (fun z => State.WarmedH.trans (t := s.setVm vm) (hN z) (q5 z)) (hC.trans q3) q4
  exact ⟨t, v', L', st'.trans r1, r2⟩
theorem Go.callC {own : String} {a : Addr} {y : MethodName} {bytes : ByteArray} {maxL : Nat} {ret : Option FieldType} {rm : Room} {W index : Nat} {argsL : List Value} {as : Array Value} {sf : List Addr} {Q' : Option Value → Vm → Heap → Prop} (hM : Ct l Z EL nw [] y bytes maxL ret rm as h sf Q') (hown : Z.vm.findClass own = some m.cls) (hret0 : ret = none) (hinit : y.name = "<init>") (w1 : (Jvm.Cond.methodLink own index y).before a0 Z = true) (w2 : (Jvm.Cond.instanceMethod y).before a0 Z = true) (wc : (Jvm.Cond.code y bytes maxL ret).before a0 Z = true) (wz : (Jvm.Cond.initialized y.cls).before a0 Z = true)
    (hy : y.cls ≠ "java/lang/invoke/MethodHandle" ∧ y.cls ≠ "java/lang/invoke/VarHandle") (hlen : ∀ sig, parseMethodDescriptor y.desc = some sig → argsL.length = sig.parameters.length) (has : as = (.ref a :: argsL).toArray) (hL : L.size = c.maxLocals) (hW : (st.map fun v => v.category).sum = W) (hd : decode c.code pc = .ok (.invokespecial index, 3)) (hp : pc + 3 = pc') (hf : rm.frames + 1 ≤ R.frames) (hl : W + (maxL + 11) + rm.locals ≤ R.locals) (hc1 : k + rm.cells ≤ R.cells) (hc2 : n + rm.slots ≤ R.slots) (hsf : ∀ x ∈ sf, h.size > x ∧ Safe Z EL vm h x)
    (K : ∀ (v : Option Value) (vm' : Vm) (h' : Heap), Q' v vm' h' → CHr Z EL vm h vm' h' → Go p l e R s m args below meth c Z a0 EL nw Q vm' h' (k + rm.cells) (n + rm.slots) pc' L (v.toList ++ st)) : Go p l e R s m args below meth c Z a0 EL nw Q vm h k n pc L (argsL.reverse ++ .ref a :: st) := fun T locs k0 hx hk hE X eT hS hk0 hF hZ hN hC hO => by
  subst hp has
  have hown' : (s.setVm vm).vm.findClass own = some m.cls := by
    show vm.findClass own = _
    rw [hZ.alike.findClass]; exact hown
  have hWW : 2 * (mkF m pc L (argsL.reverse ++ .ref a :: st)).monitorRoom + (st.map fun v => v.category).sum ≤ W := by show 2 * 0 + _ ≤ _; rw [Nat.mul_zero, Nat.zero_add]; exact Nat.le_of_eq hW
  have hB := fun len => Ct.back (p := p) (e := e) (below := below) (s := s) (args := args) (len := len) hM hZ wc wz hf hl hE hC.1 hO hsf
  subst hret0
  obtain ⟨v, vm1, ⟨T', L1, k1, n1⟩, -, X', hS', hg', hP', st'⟩ := X.specialBackS hx hinit hown' (mv (s := s.setVm vm) hZ w1) (mv (s := s.setVm vm) hZ w2) (mv (s := s.setVm vm) hZ wc) hy (hB 3) (g := mkF m pc L (argsL.reverse ++ .ref a :: st)) rfl hL (Steps.refl _) (a := a) (argsL := argsL) (rest := st) hlen rfl hWW hd (fun _ _ => ⟨rfl, eT, hc1, hc2⟩)
  dsimp only [Pt.U, Pt.locs, Pt.cells, Pt.slots] at X' hS' hg' hP' st'
  obtain ⟨L2, rfl, rfl, rfl, q1, q2, q3, q4, q5⟩ := hP'
  obtain ⟨t, v', L', r1, r2⟩ := K v T'.vm T'.heap q2 q3 T' _ _ hx hk hE X' rfl (hS.trans hS' (Nat.le_trans hk0 (by rw [← eT]; exact hg'))) (Nat.le_refl _) (Fr.app hF q1) (State.Warmed39.trans (t := s.setVm vm) hZ hS'.1) (fun z => State.WarmedH.trans (t := s.setVm vm) (hN z) (q5 z)) (hC.trans q3) q4
  exact ⟨t, v', L', st'.trans r1, r2⟩
theorem Go.callCN {own host : String} {a : Addr} {y : MethodName} {bytes : ByteArray} {maxL : Nat} {ret : Option FieldType} {rm : Room} {W index : Nat} {argsL : List Value} {as : Array Value} {sf : List Addr} {Q' : Option Value → Vm → Heap → Prop} (hM : Ct l Z EL nw [] y bytes maxL ret rm as h sf Q') (hown : Z.vm.findClass own = some m.cls) (hret0 : ret = none) (hinit : y.name = "<init>") (w1 : (Jvm.Cond.methodLinkNest own index y host).before a0 Z = true) (w2 : (Jvm.Cond.instanceMethod y).before a0 Z = true) (wc : (Jvm.Cond.code y bytes maxL ret).before a0 Z = true) (wz : (Jvm.Cond.initialized y.cls).before a0 Z = true)
    (hy : y.cls ≠ "java/lang/invoke/MethodHandle" ∧ y.cls ≠ "java/lang/invoke/VarHandle") (hlen : ∀ sig, parseMethodDescriptor y.desc = some sig → argsL.length = sig.parameters.length) (has : as = (.ref a :: argsL).toArray) (hL : L.size = c.maxLocals) (hW : (st.map fun v => v.category).sum = W) (hd : decode c.code pc = .ok (.invokespecial index, 3)) (hp : pc + 3 = pc') (hf : rm.frames + 1 ≤ R.frames) (hl : W + (maxL + 11) + rm.locals ≤ R.locals) (hc1 : k + rm.cells ≤ R.cells) (hc2 : n + rm.slots ≤ R.slots) (hsf : ∀ x ∈ sf, h.size > x ∧ Safe Z EL vm h x)
    (K : ∀ (v : Option Value) (vm' : Vm) (h' : Heap), Q' v vm' h' → CHr Z EL vm h vm' h' → Go p l e R s m args below meth c Z a0 EL nw Q vm' h' (k + rm.cells) (n + rm.slots) pc' L (v.toList ++ st)) : Go p l e R s m args below meth c Z a0 EL nw Q vm h k n pc L (argsL.reverse ++ .ref a :: st) := fun T locs k0 hx hk hE X eT hS hk0 hF hZ hN hC hO => by
  subst hp has
  have hown' : (s.setVm vm).vm.findClass own = some m.cls := by
    show vm.findClass own = _
    rw [hZ.alike.findClass]; exact hown
  have hWW : 2 * (mkF m pc L (argsL.reverse ++ .ref a :: st)).monitorRoom + (st.map fun v => v.category).sum ≤ W := by show 2 * 0 + _ ≤ _; rw [Nat.mul_zero, Nat.zero_add]; exact Nat.le_of_eq hW
  have hB := fun len => Ct.back (p := p) (e := e) (below := below) (s := s) (args := args) (len := len) hM hZ wc wz hf hl hE hC.1 hO hsf
  subst hret0
  obtain ⟨v, vm1, ⟨T', L1, k1, n1⟩, -, X', hS', hg', hP', st'⟩ := X.specialBackNestS hx hinit hown' (Cond.methodLinkNest_wide hZ w1 :) (mv (s := s.setVm vm) hZ w2) (mv (s := s.setVm vm) hZ wc) hy (hB 3) (g := mkF m pc L (argsL.reverse ++ .ref a :: st)) rfl hL (Steps.refl _) (a := a) (argsL := argsL) (rest := st) hlen rfl hWW hd (fun _ _ => ⟨rfl, eT, hc1, hc2⟩)
  dsimp only [Pt.U, Pt.locs, Pt.cells, Pt.slots] at X' hS' hg' hP' st'
  obtain ⟨L2, rfl, rfl, rfl, q1, q2, q3, q4, q5⟩ := hP'
  obtain ⟨t, v', L', r1, r2⟩ := K v T'.vm T'.heap q2 q3 T' _ _ hx hk hE X' rfl (hS.trans hS' (Nat.le_trans hk0 (by rw [← eT]; exact hg'))) (Nat.le_refl _) (Fr.app hF q1) (State.Warmed39.trans (t := s.setVm vm) hZ hS'.1) (fun z => State.WarmedH.trans (t := s.setVm vm) (hN z) (q5 z)) (hC.trans q3) q4
  exact ⟨t, v', L', st'.trans r1, r2⟩
theorem Go.callV {own C : String} {a : Addr} {y0 : MethodName} {y : MethodName} {bytes : ByteArray} {maxL : Nat} {ret : Option FieldType} {rm : Room} {W index : Nat} {argsL : List Value} {as : Array Value} {sf : List Addr} {Q' : Option Value → Vm → Heap → Prop} (hM : Ct l Z EL nw [] y bytes maxL ret rm as h sf Q') (hown : Z.vm.findClass own = some m.cls) (w1 : (Jvm.Cond.methodLink own index y0).before a0 Z = true) (w2 : (Jvm.Cond.declares y0).before a0 Z = true) (nf : NotFace Z y0) (w3 : (Jvm.Cond.selects C y0 y).before a0 Z = true) (w4 : (Jvm.Cond.instanceMethod y).before a0 Z = true) (E : Exa Z h a C) (wc : (Jvm.Cond.code y bytes maxL ret).before a0 Z = true) (wz : (Jvm.Cond.initialized y.cls).before a0 Z = true)
    (hy : y0.cls ≠ "java/lang/invoke/MethodHandle" ∧ y0.cls ≠ "java/lang/invoke/VarHandle") (hlen : ∀ sig, parseMethodDescriptor y0.desc = some sig → argsL.length = sig.parameters.length) (has : as = (.ref a :: argsL).toArray) (hL : L.size = c.maxLocals) (hW : (st.map fun v => v.category).sum = W) (hd : decode c.code pc = .ok (.invokevirtual index, 3)) (hp : pc + 3 = pc') (hf : rm.frames + 1 ≤ R.frames) (hl : W + (maxL + 11) + rm.locals ≤ R.locals) (hc1 : k + rm.cells ≤ R.cells) (hc2 : n + rm.slots ≤ R.slots) (hsf : ∀ x ∈ sf, h.size > x ∧ Safe Z EL vm h x)
    (K : ∀ (v : Option Value) (vm' : Vm) (h' : Heap), Q' v vm' h' → CHr Z EL vm h vm' h' → Go p l e R s m args below meth c Z a0 EL nw Q vm' h' (k + rm.cells) (n + rm.slots) pc' L (v.toList ++ st)) : Go p l e R s m args below meth c Z a0 EL nw Q vm h k n pc L (argsL.reverse ++ .ref a :: st) := fun T locs k0 hx hk hE X eT hS hk0 hF hZ hN hC hO => by
  subst hp has
  have hown' : (s.setVm vm).vm.findClass own = some m.cls := by
    show vm.findClass own = _
    rw [hZ.alike.findClass]; exact hown
  have hWW : 2 * (mkF m pc L (argsL.reverse ++ .ref a :: st)).monitorRoom + (st.map fun v => v.category).sum ≤ W := by show 2 * 0 + _ ≤ _; rw [Nat.mul_zero, Nat.zero_add]; exact Nat.le_of_eq hW
  have hB := fun len => Ct.back (p := p) (e := e) (below := below) (s := s) (args := args) (len := len) hM hZ wc wz hf hl hE hC.1 hO hsf
  obtain ⟨cB, kB, qa, qb, qc⟩ := isOf (s := s.setVm vm) (T := T) hZ eT E
  obtain ⟨v, vm1, ⟨T', L1, k1, n1⟩, -, X', hS', hg', hP', st'⟩ := X.virtualBackS hx hown' (mv (s := s.setVm vm) hZ w1) (mv (s := s.setVm vm) hZ w2) (nf_warm hZ nf) (mv (s := s.setVm vm) hZ w3) (mv (s := s.setVm vm) hZ w4) hy (hB 3) qa qc (g := mkF m pc L (argsL.reverse ++ .ref a :: st)) rfl hL (Steps.refl _) (argsL := argsL) (rest := st) hlen rfl hWW hd (fun _ _ => ⟨rfl, eT, hc1, hc2⟩)
  dsimp only [Pt.U, Pt.locs, Pt.cells, Pt.slots] at X' hS' hg' hP' st'
  obtain ⟨L2, rfl, rfl, rfl, q1, q2, q3, q4, q5⟩ := hP'
  obtain ⟨t, v', L', r1, r2⟩ := K v T'.vm T'.heap q2 q3 T' _ _ hx hk hE X' rfl (hS.trans hS' (Nat.le_trans hk0 (by rw [← eT]; exact hg'))) (Nat.le_refl _) (Fr.app hF q1) (State.Warmed39.trans (t := s.setVm vm) hZ hS'.1) (fun z => State.WarmedH.trans (t := s.setVm vm) (hN z) (q5 z)) (hC.trans q3) q4
  exact ⟨t, v', L', st'.trans r1, r2⟩
theorem Go.callVU {own C owner : String} {a : Addr} {y0 : MethodName} {y : MethodName} {bytes : ByteArray} {maxL : Nat} {ret : Option FieldType} {rm : Room} {W index : Nat} {argsL : List Value} {as : Array Value} {sf : List Addr} {Q' : Option Value → Vm → Heap → Prop} (hM : Ct l Z EL nw [] y bytes maxL ret rm as h sf Q') (hown : Z.vm.findClass own = some m.cls) (w1 : (Jvm.Cond.methodLink own index y0).before a0 Z = true) (w2 : (Jvm.Cond.sameMethod y0.cls owner y0.name y0.desc).before a0 Z = true) (w5 : (Jvm.Cond.declares ⟨owner, y0.name, y0.desc⟩).before a0 Z = true) (w3 : (Jvm.Cond.selects C y0 y).before a0 Z = true) (w4 : (Jvm.Cond.instanceMethod y).before a0 Z = true) (E : Exa Z h a C) (wc : (Jvm.Cond.code y bytes maxL ret).before a0 Z = true) (wz : (Jvm.Cond.initialized y.cls).before a0 Z = true)
    (hy : owner ≠ "java/lang/invoke/MethodHandle" ∧ owner ≠ "java/lang/invoke/VarHandle") (hlen : ∀ sig, parseMethodDescriptor y0.desc = some sig → argsL.length = sig.parameters.length) (has : as = (.ref a :: argsL).toArray) (hL : L.size = c.maxLocals) (hW : (st.map fun v => v.category).sum = W) (hd : decode c.code pc = .ok (.invokevirtual index, 3)) (hp : pc + 3 = pc') (hf : rm.frames + 1 ≤ R.frames) (hl : W + (maxL + 11) + rm.locals ≤ R.locals) (hc1 : k + rm.cells ≤ R.cells) (hc2 : n + rm.slots ≤ R.slots) (hsf : ∀ x ∈ sf, h.size > x ∧ Safe Z EL vm h x)
    (K : ∀ (v : Option Value) (vm' : Vm) (h' : Heap), Q' v vm' h' → CHr Z EL vm h vm' h' → Go p l e R s m args below meth c Z a0 EL nw Q vm' h' (k + rm.cells) (n + rm.slots) pc' L (v.toList ++ st)) : Go p l e R s m args below meth c Z a0 EL nw Q vm h k n pc L (argsL.reverse ++ .ref a :: st) := fun T locs k0 hx hk hE X eT hS hk0 hF hZ hN hC hO => by
  subst hp has
  have hown' : (s.setVm vm).vm.findClass own = some m.cls := by
    show vm.findClass own = _
    rw [hZ.alike.findClass]; exact hown
  have hWW : 2 * (mkF m pc L (argsL.reverse ++ .ref a :: st)).monitorRoom + (st.map fun v => v.category).sum ≤ W := by show 2 * 0 + _ ≤ _; rw [Nat.mul_zero, Nat.zero_add]; exact Nat.le_of_eq hW
  have hB := fun len => Ct.back (p := p) (e := e) (below := below) (s := s) (args := args) (len := len) hM hZ wc wz hf hl hE hC.1 hO hsf
  obtain ⟨cB, kB, qa, qb, qc⟩ := isOf (s := s.setVm vm) (T := T) hZ eT E
  obtain ⟨v, vm1, ⟨T', L1, k1, n1⟩, -, X', hS', hg', hP', st'⟩ := X.virtualBackUpS hx hown' (mv (s := s.setVm vm) hZ w1) (mv (s := s.setVm vm) hZ w2) (mv (s := s.setVm vm) hZ w5) hy (mv (s := s.setVm vm) hZ w3) (mv (s := s.setVm vm) hZ w4) (hB 3) qa qc (g := mkF m pc L (argsL.reverse ++ .ref a :: st)) rfl hL (Steps.refl _) (argsL := argsL) (rest := st) hlen rfl hWW hd (fun _ _ => ⟨rfl, eT, hc1, hc2⟩)
  dsimp only [Pt.U, Pt.locs, Pt.cells, Pt.slots] at X' hS' hg' hP' st'
  obtain ⟨L2, rfl, rfl, rfl, q1, q2, q3, q4, q5⟩ := hP'
  obtain ⟨t, v', L', r1, r2⟩ := K v T'.vm T'.heap q2 q3 T' _ _ hx hk hE X' rfl (hS.trans hS' (Nat.le_trans hk0 (by rw [← eT]; exact hg'))) (Nat.le_refl _) (Fr.app hF q1) (State.Warmed39.trans (t := s.setVm vm) hZ hS'.1) (fun z => State.WarmedH.trans (t := s.setVm vm) (hN z) (q5 z)) (hC.trans q3) q4
  exact ⟨t, v', L', st'.trans r1, r2⟩
theorem Go.callI {own C : String} {a : Addr} {count : Nat} {y0 : MethodName} {y : MethodName} {bytes : ByteArray} {maxL : Nat} {ret : Option FieldType} {rm : Room} {W index : Nat} {argsL : List Value} {as : Array Value} {sf : List Addr} {Q' : Option Value → Vm → Heap → Prop} (hM : Ct l Z EL nw [] y bytes maxL ret rm as h sf Q') (hown : Z.vm.findClass own = some m.cls) (w1 : (Jvm.Cond.methodLink own index y0).before a0 Z = true) (w2 : (Jvm.Cond.declares y0).before a0 Z = true) (w5 : (Jvm.Cond.interfaceMethod y0.cls y0.cls y0.name y0.desc).before a0 Z = true) (w3 : (Jvm.Cond.selects C y0 y).before a0 Z = true) (w4 : (Jvm.Cond.instanceMethod y).before a0 Z = true) (w6 : (Jvm.Cond.publicMethod y).before a0 Z = true) (w7 : (Jvm.Cond.unhidden C y0.name y0.desc).before a0 Z = true) (w8 : (Jvm.Cond.castable C y0.cls).before a0 Z = true) (h5 : ((Jvm.Cond.interfaceMethod y0.cls y0.cls y0.name y0.desc).onTables && (Jvm.Cond.interfaceMethod y0.cls y0.cls y0.name y0.desc).keepsFace) = true) (E : Exa Z h a C) (wc : (Jvm.Cond.code y bytes maxL ret).before a0 Z = true) (wz : (Jvm.Cond.initialized y.cls).before a0 Z = true)
    (hy : y0.cls ≠ "java/lang/invoke/MethodHandle" ∧ y0.cls ≠ "java/lang/invoke/VarHandle") (hlen : ∀ sig, parseMethodDescriptor y0.desc = some sig → argsL.length = sig.parameters.length) (has : as = (.ref a :: argsL).toArray) (hL : L.size = c.maxLocals) (hW : (st.map fun v => v.category).sum = W) (hd : decode c.code pc = .ok (.invokeinterface index count, 5)) (hp : pc + 5 = pc') (hf : rm.frames + 1 ≤ R.frames) (hl : W + (maxL + 11) + rm.locals ≤ R.locals) (hc1 : k + rm.cells ≤ R.cells) (hc2 : n + rm.slots ≤ R.slots) (hsf : ∀ x ∈ sf, h.size > x ∧ Safe Z EL vm h x)
    (K : ∀ (v : Option Value) (vm' : Vm) (h' : Heap), Q' v vm' h' → CHr Z EL vm h vm' h' → Go p l e R s m args below meth c Z a0 EL nw Q vm' h' (k + rm.cells) (n + rm.slots) pc' L (v.toList ++ st)) : Go p l e R s m args below meth c Z a0 EL nw Q vm h k n pc L (argsL.reverse ++ .ref a :: st) := fun T locs k0 hx hk hE X eT hS hk0 hF hZ hN hC hO => by
  subst hp has
  have hown' : (s.setVm vm).vm.findClass own = some m.cls := by
    show vm.findClass own = _
    rw [hZ.alike.findClass]; exact hown
  have hWW : 2 * (mkF m pc L (argsL.reverse ++ .ref a :: st)).monitorRoom + (st.map fun v => v.category).sum ≤ W := by show 2 * 0 + _ ≤ _; rw [Nat.mul_zero, Nat.zero_add]; exact Nat.le_of_eq hW
  have hB := fun len => Ct.back (p := p) (e := e) (below := below) (s := s) (args := args) (len := len) hM hZ wc wz hf hl hE hC.1 hO hsf
  obtain ⟨cB, kB, qa, qb, qc⟩ := isOf (s := s.setVm vm) (T := T) hZ eT E
  obtain ⟨v, vm1, ⟨T', L1, k1, n1⟩, -, X', hS', hg', hP', st'⟩ := X.interfaceBackS hx hown' (mv (s := s.setVm vm) hZ w1) (mv (s := s.setVm vm) hZ w2) (mv (s := s.setVm vm) hZ w5 h5) (mv (s := s.setVm vm) hZ w3) (mv (s := s.setVm vm) hZ w4) (mv (s := s.setVm vm) hZ w6) (mv (s := s.setVm vm) hZ w7) (mv (s := s.setVm vm) hZ w8) hy (hB 5) qa qb qc (g := mkF m pc L (argsL.reverse ++ .ref a :: st)) rfl hL (Steps.refl _) (argsL := argsL) (rest := st) hlen rfl hWW hd (fun _ _ => ⟨rfl, eT, hc1, hc2⟩)
  dsimp only [Pt.U, Pt.locs, Pt.cells, Pt.slots] at X' hS' hg' hP' st'
  obtain ⟨L2, rfl, rfl, rfl, q1, q2, q3, q4, q5⟩ := hP'
  obtain ⟨t, v', L', r1, r2⟩ := K v T'.vm T'.heap q2 q3 T' _ _ hx hk hE X' rfl (hS.trans hS' (Nat.le_trans hk0 (by rw [← eT]; exact hg'))) (Nat.le_refl _) (Fr.app hF q1) (State.Warmed39.trans (t := s.setVm vm) hZ hS'.1) (fun z => State.WarmedH.trans (t := s.setVm vm) (hN z) (q5 z)) (hC.trans q3) q4
  exact ⟨t, v', L', st'.trans r1, r2⟩
theorem Go.callP {own C : String} {a : Addr} {y : MethodName} {bytes : ByteArray} {maxL : Nat} {ret : Option FieldType} {rm : Room} {W index : Nat} {argsL : List Value} {as : Array Value} {sf : List Addr} {Q' : Option Value → Vm → Heap → Prop} (hM : Ct l Z EL nw [] y bytes maxL ret rm as h sf Q') (hown : Z.vm.findClass own = some m.cls) (w1 : (Jvm.Cond.methodLink own index y).before a0 Z = true) (w2 : (Jvm.Cond.instanceMethod y).before a0 Z = true) (w3 : (Jvm.Cond.selects y.cls y y).before a0 Z = true) (w4 : (Jvm.Cond.privateMethod y).before a0 Z = true) (E : Exa Z h a C) (wc : (Jvm.Cond.code y bytes maxL ret).before a0 Z = true) (wz : (Jvm.Cond.initialized y.cls).before a0 Z = true)
    (hy : y.cls ≠ "java/lang/invoke/MethodHandle" ∧ y.cls ≠ "java/lang/invoke/VarHandle") (hlen : ∀ sig, parseMethodDescriptor y.desc = some sig → argsL.length = sig.parameters.length) (has : as = (.ref a :: argsL).toArray) (hL : L.size = c.maxLocals) (hW : (st.map fun v => v.category).sum = W) (hd : decode c.code pc = .ok (.invokevirtual index, 3)) (hp : pc + 3 = pc') (hf : rm.frames + 1 ≤ R.frames) (hl : W + (maxL + 11) + rm.locals ≤ R.locals) (hc1 : k + rm.cells ≤ R.cells) (hc2 : n + rm.slots ≤ R.slots) (hsf : ∀ x ∈ sf, h.size > x ∧ Safe Z EL vm h x)
    (K : ∀ (v : Option Value) (vm' : Vm) (h' : Heap), Q' v vm' h' → CHr Z EL vm h vm' h' → Go p l e R s m args below meth c Z a0 EL nw Q vm' h' (k + rm.cells) (n + rm.slots) pc' L (v.toList ++ st)) : Go p l e R s m args below meth c Z a0 EL nw Q vm h k n pc L (argsL.reverse ++ .ref a :: st) := fun T locs k0 hx hk hE X eT hS hk0 hF hZ hN hC hO => by
  subst hp has
  have hown' : (s.setVm vm).vm.findClass own = some m.cls := by
    show vm.findClass own = _
    rw [hZ.alike.findClass]; exact hown
  have hWW : 2 * (mkF m pc L (argsL.reverse ++ .ref a :: st)).monitorRoom + (st.map fun v => v.category).sum ≤ W := by show 2 * 0 + _ ≤ _; rw [Nat.mul_zero, Nat.zero_add]; exact Nat.le_of_eq hW
  have hB := fun len => Ct.back (p := p) (e := e) (below := below) (s := s) (args := args) (len := len) hM hZ wc wz hf hl hE hC.1 hO hsf
  obtain ⟨cq, q1', q2'⟩ := E.cell
  obtain ⟨v, vm1, ⟨T', L1, k1, n1⟩, -, X', hS', hg', hP', st'⟩ := X.privateBackS hx hown' (mv (s := s.setVm vm) hZ w1) (mv (s := s.setVm vm) hZ w2) (mv (s := s.setVm vm) hZ w3) (Cond.privateMethod_at (mvP (s := s.setVm vm) hZ w4 (args := #[]))) (mv (s := s.setVm vm) hZ wc) hy (hB 3) (g := mkF m pc L (argsL.reverse ++ .ref a :: st)) rfl hL (Steps.refl _) (a := a) (cell := cq) (by rw [eT]; exact q1') q2' (argsL := argsL) (rest := st) hlen rfl hWW hd (fun _ _ => ⟨rfl, eT, hc1, hc2⟩)
  dsimp only [Pt.U, Pt.locs, Pt.cells, Pt.slots] at X' hS' hg' hP' st'
  obtain ⟨L2, rfl, rfl, rfl, q1, q2, q3, q4, q5⟩ := hP'
  obtain ⟨t, v', L', r1, r2⟩ := K v T'.vm T'.heap q2 q3 T' _ _ hx hk hE X' rfl (hS.trans hS' (Nat.le_trans hk0 (by rw [← eT]; exact hg'))) (Nat.le_refl _) (Fr.app hF q1) (State.Warmed39.trans (t := s.setVm vm) hZ hS'.1) (fun z => State.WarmedH.trans (t := s.setVm vm) (hN z) (q5 z)) (hC.trans q3) q4
  exact ⟨t, v', L', st'.trans r1, r2⟩
end Walk
end Jvm.Own
namespace Jvm.Own
open Sem ClassFile Op Lib Jvm.Free Jvm.Stand Jvm.LawKit Jvm.RoadKit Bundle
theorem nc255 (x : Int32) : nar .char (x &&& 255) = x &&& 255 := i2c_mask x
theorem and_toInt (x : Int32) (m : Nat) (hm : m < 2 ^ 31) : 0 ≤ (x &&& Int32.ofNat m).toInt ∧ (x &&& Int32.ofNat m).toInt ≤ m := by
  have e : (x &&& Int32.ofNat m).toInt = (x.toBitVec &&& BitVec.ofNat 32 m).toInt := rfl
  have h1 : (x.toBitVec &&& BitVec.ofNat 32 m).toNat ≤ m := by
    rw [BitVec.toNat_and]
    refine Nat.le_trans Nat.and_le_right ?_
    rw [BitVec.toNat_ofNat]; exact Nat.mod_le _ _
  rw [e, BitVec.toInt_eq_toNat_of_lt (by omega)]
  omega
theorem m255 (x : Int32) : 0 ≤ (x &&& 255).toInt ∧ (x &&& 255).toInt ≤ 255 := and_toInt x 255 (by decide)
theorem al0 {P : Int32 → Prop} : ∀ x ∈ ([] : List Int32), P x := fun _ h => nomatch h
theorem alS {P : Int32 → Prop} {y : Int32} {L : List Int32} (q : P y) (r : ∀ x ∈ L, P x) : ∀ x ∈ y :: L, P x := fun x hx => (List.mem_cons.mp hx).elim (fun e => e ▸ q) (r x)
/-- the byte that a char becomes -/
def by8 (c : Int32) : Int32 := c.toInt8.toInt32
theorem toInt_nat {n : Nat} (h : n < 2 ^ 31) : n.toInt32.toInt = n := Int32.toInt_ofNat_small h
theorem clamp_nat {n : Nat} (h : n < 2 ^ 31) : n.toInt32.toNatClampNeg = n := by
  rw [← Int32.toNat_toInt, toInt_nat h]; rfl
theorem lt32 {i n : Nat} (hi : i < 2 ^ 31) (hn : n < 2 ^ 31) : i.toInt32 < n.toInt32 ↔ i < n := by
  rw [Int32.lt_iff_toInt_lt, toInt_nat hi, toInt_nat hn]; omega
theorem nneg32 {n : Nat} (h : n < 2 ^ 31) : ¬ n.toInt32 < 0 := by
  rw [Int32.lt_iff_toInt_lt, toInt_nat h]
  have e0 : (0 : Int32).toInt = 0 := rfl
  omega
theorem succ32 (i : Nat) : i.toInt32 + 1 = (i + 1).toInt32 := (Int32.ofNat_add i 1).symm
theorem eq32 {i n : Nat} (hi : i < 2 ^ 31) (hn : n < 2 ^ 31) : i.toInt32 = n.toInt32 ↔ i = n := by
  constructor
  · intro q
    have := congrArg Int32.toInt q
    rw [toInt_nat hi, toInt_nat hn] at this; omega
  · rintro rfl; rfl
theorem nz32 {n : Nat} (h : n < 2 ^ 31) (h0 : 0 < n) : ¬ n.toInt32 = 0 := fun q => by
  have := (eq32 (n := 0) h (by decide)).mp q; omega
theorem nar_by8 (c : Int32) : nar .byte (c.toInt8.toInt32) = by8 c := by
  show (c.toInt8.toInt32).toInt8.toInt32 = _
  simp [by8]
theorem sub0 (x : Int32) : x - x = 0 := by simp
theorem cache_ix {z : Int32} (h1 : ¬ z < -128) (h2 : ¬ (127 : Int32) < z) : ¬ (z + 128) < 0 ∧ (z + 128).toNatClampNeg < 256 := by
  rw [Int32.lt_iff_toInt_lt] at h1 h2
  have e1 : (-128 : Int32).toInt = -128 := rfl
  have e2 : (127 : Int32).toInt = 127 := rfl
  have e3 : (128 : Int32).toInt = 128 := rfl
  have e0 : (0 : Int32).toInt = 0 := rfl
  have q : (z + 128).toInt = z.toInt + 128 := by
    rw [Int32.toInt_add, e3]
    exact Int.bmod_eq_of_le (by omega) (by omega)
  refine ⟨?_, ?_⟩
  · rw [Int32.lt_iff_toInt_lt, q]; omega
  · rw [← Int32.toNat_toInt, q]; omega
theorem cache_ixL {z : Int64} (h1 : ¬ XT.cmpL z (-128) < 0) (h2 : ¬ (0 : Int32) < XT.cmpL z 127) : ¬ (z.toInt32 + 128) < 0 ∧ (z.toInt32 + 128).toNatClampNeg < 256 := by
  have g1 : ¬ z < -128 := fun q => h1 (by
    have a : ¬ (-128 : Int64) < z := fun r => by rw [Int64.lt_iff_toInt_lt] at q r; omega
    have b : ¬ z = -128 := fun r => by rw [r] at q; exact absurd q (by decide)
    rw [XT.cmpL, if_neg a, if_neg b]; decide)
  have g2 : ¬ (127 : Int64) < z := fun q => h2 (by rw [XT.cmpL, if_pos q]; decide)
  rw [Int64.lt_iff_toInt_lt] at g1 g2
  have e1 : (-128 : Int64).toInt = -128 := rfl
  have e2 : (127 : Int64).toInt = 127 := rfl
  have e3 : z.toInt32.toInt = z.toInt := by
    rw [Int64.toInt_toInt32]; exact Int.bmod_eq_of_le (by omega) (by omega)
  refine cache_ix ?_ ?_
  · rw [Int32.lt_iff_toInt_lt, e3]
    have : (-128 : Int32).toInt = -128 := rfl
    omega
  · rw [Int32.lt_iff_toInt_lt, e3]
    have : (127 : Int32).toInt = 127 := rfl
    omega
theorem and_toInt64 (x : Int64) (m : Nat) (hm : m < 2 ^ 63) : 0 ≤ (x &&& Int64.ofNat m).toInt ∧ (x &&& Int64.ofNat m).toInt ≤ m := by
  have e : (x &&& Int64.ofNat m).toInt = (x.toBitVec &&& BitVec.ofNat 64 m).toInt := rfl
  have h1 : (x.toBitVec &&& BitVec.ofNat 64 m).toNat ≤ m := by
    rw [BitVec.toNat_and]
    refine Nat.le_trans Nat.and_le_right ?_
    rw [BitVec.toNat_ofNat]; exact Nat.mod_le _ _
  rw [e, BitVec.toInt_eq_toNat_of_lt (by omega)]
  omega
theorem l255 (x : Int64) : 0 ≤ (x &&& 255).toInt32.toInt ∧ (x &&& 255).toInt32.toInt ≤ 255 := by
  have h : 0 ≤ (x &&& 255).toInt ∧ (x &&& 255).toInt ≤ 255 := and_toInt64 x 255 (by decide)
  have e3 : (x &&& 255).toInt32.toInt = (x &&& 255).toInt := by
    rw [Int64.toInt_toInt32]; exact Int.bmod_eq_of_le (by omega) (by omega)
  rw [e3]; exact h
/-- true and false as ints -/
def bo (q : Prop) [Decidable q] : Int32 := if q then 1 else 0
theorem bo_yes {q : Prop} [Decidable q] (h : q) : bo q = 1 := if_pos h
theorem bo_no {q : Prop} [Decidable q] (h : ¬ q) : bo q = 0 := if_neg h
theorem bo_nar {q : Prop} [Decidable q] : nar .boolean (bo q) = bo q := by unfold bo; split <;> rfl
theorem bo_ne0 {q : Prop} [Decidable q] : (¬ bo q = 0) ↔ q := by unfold bo; split <;> simp_all
theorem bo_cases {q : Prop} [Decidable q] : q ∧ bo q = 1 ∨ ¬ q ∧ bo q = 0 := by by_cases h : q <;> simp [bo, h]
theorem bo_congr {p q : Prop} [Decidable p] [Decidable q] (h : p ↔ q) : bo p = bo q := by unfold bo; simp [h]
theorem toInt_eq {x : Int32} {n : Int} (h : x.toInt = n) : x = Int32.ofInt n := by rw [← h, Int32.ofInt_toInt]
theorem and3 (x : Int32) : x &&& 3 = 0 ∨ x &&& 3 = 1 ∨ x &&& 3 = 2 ∨ x &&& 3 = 3 := by
  have h := and_toInt x 3 (by decide)
  have e : (x &&& Int32.ofNat 3) = x &&& 3 := rfl
  rw [e] at h
  have : (x &&& 3).toInt = 0 ∨ (x &&& 3).toInt = 1 ∨ (x &&& 3).toInt = 2 ∨ (x &&& 3).toInt = 3 := by omega
  rcases this with q | q | q | q
  · exact Or.inl (toInt_eq q)
  · exact Or.inr (Or.inl (toInt_eq q))
  · exact Or.inr (Or.inr (Or.inl (toInt_eq q)))
  · exact Or.inr (Or.inr (Or.inr (toInt_eq q)))
theorem rem3 (x : Int32) : (x &&& 3) % 3 = 0 ∨ (x &&& 3) % 3 = 1 ∨ (x &&& 3) % 3 = 2 := by
  rcases and3 x with q | q | q | q <;> rw [q] <;> decide
theorem by8_toInt (c : Int32) : (by8 c).toInt = c.toInt.bmod 256 := by
  show (c.toInt8.toInt32).toInt = _
  rw [Int8.toInt_toInt32, Int32.toInt_toInt8]
theorem by8_inj {x y : Int32} (hx : 0 ≤ x.toInt ∧ x.toInt ≤ 255) (hy : 0 ≤ y.toInt ∧ y.toInt ≤ 255) (h : by8 x = by8 y) : x = y := by
  have q := congrArg Int32.toInt h
  rw [by8_toInt, by8_toInt] at q
  apply Int32.toInt_inj.mp
  have h1 : (x.toInt.bmod 256) % 256 = x.toInt % 256 := Int.bmod_emod
  have h2 : (y.toInt.bmod 256) % 256 = y.toInt % 256 := Int.bmod_emod
  rw [q] at h1
  omega
theorem nch {x : Int32} (h : 0 ≤ x.toInt ∧ x.toInt ≤ 255) : nar .char x = x := by
  have e : x &&& 255 = x := by
    apply Int32.toBitVec_inj.mp
    show x.toBitVec &&& 255#32 = x.toBitVec
    apply BitVec.eq_of_toNat_eq
    have hn : x.toBitVec.toNat ≤ 255 := by
      have h2 : x.toInt = x.toBitVec.toInt := rfl
      rw [h2, BitVec.toInt_eq_toNat_cond] at h
      have := x.toBitVec.isLt
      split at h <;> omega
    rw [BitVec.toNat_and]
    show x.toBitVec.toNat &&& (2 ^ 8 - 1) = _
    rw [Nat.and_two_pow_sub_one_eq_mod]; omega
  rw [← e]; exact nc255 x
theorem le255 {x : Int32} (h : 0 ≤ x.toInt ∧ x.toInt ≤ 255) : ¬ (255 : Int32) < x := by
  rw [Int32.lt_iff_toInt_lt]
  have : (255 : Int32).toInt = 255 := rfl
  omega
theorem chL (x : Int64) : 0 ≤ (nar .char (nar .char (x &&& 255).toInt32)).toInt ∧ (nar .char (nar .char (x &&& 255).toInt32)).toInt ≤ 255 := by
  rw [nch (l255 x), nch (l255 x)]; exact l255 x
theorem nar01 {x : Int32} (h : x = 0 ∨ x = 1) : nar .boolean x = x := by rcases h with rfl | rfl <;> rfl
theorem not0lt {n : Int32} : (¬ (0 : Int32) < n) ↔ n < 1 := by
  rw [Int32.lt_iff_toInt_lt, Int32.lt_iff_toInt_lt]
  have : (0 : Int32).toInt = 0 := rfl
  have : (1 : Int32).toInt = 1 := rfl
  omega
theorem not1lt {n : Int32} : (¬ (1 : Int32) < n) ↔ n < 2 := by
  rw [Int32.lt_iff_toInt_lt, Int32.lt_iff_toInt_lt]
  have : (2 : Int32).toInt = 2 := rfl
  have : (1 : Int32).toInt = 1 := rfl
  omega
theorem and3L (x : Int64) : x &&& 3 = 0 ∨ x &&& 3 = 1 ∨ x &&& 3 = 2 ∨ x &&& 3 = 3 := by
  have h : 0 ≤ (x &&& 3).toInt ∧ (x &&& 3).toInt ≤ 3 := and_toInt64 x 3 (by decide)
  have e : ∀ n : Int, (x &&& 3).toInt = n → x &&& 3 = Int64.ofInt n := fun n q => by rw [← q, Int64.ofInt_toInt]
  have : (x &&& 3).toInt = 0 ∨ (x &&& 3).toInt = 1 ∨ (x &&& 3).toInt = 2 ∨ (x &&& 3).toInt = 3 := by omega
  rcases this with q | q | q | q
  · exact Or.inl (e _ q)
  · exact Or.inr (Or.inl (e _ q))
  · exact Or.inr (Or.inr (Or.inl (e _ q)))
  · exact Or.inr (Or.inr (Or.inr (e _ q)))
theorem fill_set {α : Type} (xs : List α) (z : α) (i : Nat) (hi : i < xs.length) : (xs.take i ++ List.replicate (xs.length - i) z).set i xs[i] = xs.take (i + 1) ++ List.replicate (xs.length - (i + 1)) z := by
  have h1 : (xs.take i).length = i := by simp; omega
  have h2 : xs.length - i = (xs.length - (i + 1)) + 1 := by omega
  rw [List.set_append_right _ _ (by omega), h1, Nat.sub_self, h2, List.replicate_succ, List.set_cons_zero, List.take_succ_eq_append_getElem hi, List.append_assoc]; rfl
end Jvm.Own
namespace Jvm.Pilot.@@N@@
open Jvm Jvm.ClassFile Sem Op Lib Jvm.Free Jvm.Stand Jvm.LawKit Jvm.RoadKit Bundle Jvm.Own Jvm.Pilot.@@N@@.Jvm.D
def GH (Z : State) (a0 : Array Value) (EL : List (String × Nat)) (zc : Int32) : Prop :=
  (∀ d ∈ tables_1, d.before a0 Z = true) ∧ EW Z a0 EL ∧ (∀ a ∈ Bundle.stringAtoms, a.before a0 Z = true) ∧ (∀ p ∈ consts_1, p ∈ EL) ∧ Sta Z Z.heap "java/lang/String" "COMPACT_STRINGS" "Z" (.int zc) ∧ ¬ zc = 0 ∧ True
def mkS (n x y : Int32) : List Int32 := if n = 0 then [] else if n = 1 then [by8 x] else [by8 x, by8 y]
theorem mkS_bo {n m x y u v : Int32} (hn : n = 0 ∨ n = 1 ∨ n = 2) (hm : m = 0 ∨ m = 1 ∨ m = 2) (hx : 0 ≤ x.toInt ∧ x.toInt ≤ 255) (hy : 0 ≤ y.toInt ∧ y.toInt ≤ 255) (hu : 0 ≤ u.toInt ∧ u.toInt ≤ 255) (hv : 0 ≤ v.toInt ∧ v.toInt ≤ 255) :
    mkS n x y = mkS m u v ↔ (n = m ∧ (n < 1 ∨ x = u) ∧ (n < 2 ∨ y = v)) := by
  have i1 : by8 x = by8 u ↔ x = u := ⟨by8_inj hx hu, fun q => by rw [q]⟩
  have i2 : by8 y = by8 v ↔ y = v := ⟨by8_inj hy hv, fun q => by rw [q]⟩
  rcases hn with rfl | rfl | rfl <;> rcases hm with rfl | rfl | rfl <;> simp [mkS, i1, i2]
def lenv (z : Int64) : Int32 := ((z &&& 3) - ((z &&& 3) / 3) * 3).toInt32
theorem lenv_cases (z : Int64) : lenv z = 0 ∨ lenv z = 1 ∨ lenv z = 2 := by
  unfold lenv
  rcases and3L z with q | q | q | q <;> rw [q] <;> decide
def cv0 (z : Int64) : Int32 := nar .char (nar .char (XT.ushrL z 2 &&& 255).toInt32)
def cv1 (z : Int64) : Int32 := nar .char (nar .char (XT.ushrL z 10 &&& 255).toInt32)
theorem cv0_b (z : Int64) : 0 ≤ (cv0 z).toInt ∧ (cv0 z).toInt ≤ 255 := chL _
theorem cv1_b (z : Int64) : 0 ≤ (cv1 z).toInt ∧ (cv1 z).toInt ≤ 255 := chL _
/-- the bytes of the String that str builds -/
def sb (z : Int64) : List Int32 := mkS (lenv z) (cv0 z) (cv1 z)
theorem sb_iff (u v : Int64) : sb u = sb v ↔ (lenv u = lenv v ∧ (lenv u < 1 ∨ cv0 u = cv0 v) ∧ (lenv u < 2 ∨ cv1 u = cv1 v)) := mkS_bo (lenv_cases u) (lenv_cases v) (cv0_b u) (cv1_b u) (cv0_b v) (cv1_b v)
theorem wd_0 {Z : State} {a0 : Array Value} {EL : List (String × Nat)} {zc : Int32} (g : GH Z a0 EL zc) : (Jvm.Cond.constantLong "com/example/kunci/kunci/PermissionEqualsPinLaw" (29 : Nat) (262143 : Int64)).before a0 Z = true := g.1 _ (List.mem_of_getElem? (i := 0) rfl)
theorem wd_1 {Z : State} {a0 : Array Value} {EL : List (String × Nat)} {zc : Int32} (g : GH Z a0 EL zc) : (Jvm.Cond.classLink "com/example/kunci/kunci/PermissionEqualsPinLaw" (31 : Nat) "com/example/kunci/kunci/Permission").before a0 Z = true := g.1 _ (List.mem_of_getElem? (i := 1) rfl)
theorem wd_2 {Z : State} {a0 : Array Value} {EL : List (String × Nat)} {zc : Int32} (g : GH Z a0 EL zc) : (Jvm.Cond.instantiable "com/example/kunci/kunci/Permission" (4 : Nat)).before a0 Z = true := g.1 _ (List.mem_of_getElem? (i := 2) rfl)
theorem wd_3 {Z : State} {a0 : Array Value} {EL : List (String × Nat)} {zc : Int32} (g : GH Z a0 EL zc) : (Jvm.Cond.initialized "com/example/kunci/kunci/Permission").before a0 Z = true := g.1 _ (List.mem_of_getElem? (i := 3) rfl)
theorem wd_4 {Z : State} {a0 : Array Value} {EL : List (String × Nat)} {zc : Int32} (g : GH Z a0 EL zc) : (Jvm.Cond.methodLink "com/example/kunci/kunci/PermissionEqualsPinLaw" (33 : Nat) ({ cls := "com/example/kunci/kunci/PermissionEqualsPinLaw", name := "str", desc := "(J)Ljava/lang/String;" } : Jvm.MethodName)).before a0 Z = true := g.1 _ (List.mem_of_getElem? (i := 4) rfl)
theorem wd_5 {Z : State} {a0 : Array Value} {EL : List (String × Nat)} {zc : Int32} (g : GH Z a0 EL zc) : (Jvm.Cond.static ({ cls := "com/example/kunci/kunci/PermissionEqualsPinLaw", name := "str", desc := "(J)Ljava/lang/String;" } : Jvm.MethodName)).before a0 Z = true := g.1 _ (List.mem_of_getElem? (i := 5) rfl)
theorem wd_6 {Z : State} {a0 : Array Value} {EL : List (String × Nat)} {zc : Int32} (g : GH Z a0 EL zc) : (Jvm.Cond.initialized "com/example/kunci/kunci/PermissionEqualsPinLaw").before a0 Z = true := g.1 _ (List.mem_of_getElem? (i := 6) rfl)
theorem wd_7 {Z : State} {a0 : Array Value} {EL : List (String × Nat)} {zc : Int32} (g : GH Z a0 EL zc) : (Jvm.Cond.code ({ cls := "com/example/kunci/kunci/PermissionEqualsPinLaw", name := "str", desc := "(J)Ljava/lang/String;" } : Jvm.MethodName) method_5_code (4 : Nat) (Option.some (Jvm.ClassFile.FieldType.object "java/lang/String"))).before a0 Z = true := g.1 _ (List.mem_of_getElem? (i := 7) rfl)
theorem wd_8 {Z : State} {a0 : Array Value} {EL : List (String × Nat)} {zc : Int32} (g : GH Z a0 EL zc) : (Jvm.Cond.methodLink "com/example/kunci/kunci/PermissionEqualsPinLaw" (11 : Nat) ({ cls := "com/example/kunci/kunci/PermissionEqualsPinLaw", name := "len", desc := "(J)I" } : Jvm.MethodName)).before a0 Z = true := g.1 _ (List.mem_of_getElem? (i := 8) rfl)
theorem wd_9 {Z : State} {a0 : Array Value} {EL : List (String × Nat)} {zc : Int32} (g : GH Z a0 EL zc) : (Jvm.Cond.static ({ cls := "com/example/kunci/kunci/PermissionEqualsPinLaw", name := "len", desc := "(J)I" } : Jvm.MethodName)).before a0 Z = true := g.1 _ (List.mem_of_getElem? (i := 9) rfl)
theorem wd_10 {Z : State} {a0 : Array Value} {EL : List (String × Nat)} {zc : Int32} (g : GH Z a0 EL zc) : (Jvm.Cond.code ({ cls := "com/example/kunci/kunci/PermissionEqualsPinLaw", name := "len", desc := "(J)I" } : Jvm.MethodName) method_2_code (2 : Nat) (Option.some Jvm.ClassFile.FieldType.int)).before a0 Z = true := g.1 _ (List.mem_of_getElem? (i := 10) rfl)
theorem wd_11 {Z : State} {a0 : Array Value} {EL : List (String × Nat)} {zc : Int32} (g : GH Z a0 EL zc) : (Jvm.Cond.constantLong "com/example/kunci/kunci/PermissionEqualsPinLaw" (7 : Nat) (3 : Int64)).before a0 Z = true := g.1 _ (List.mem_of_getElem? (i := 11) rfl)
theorem wd_12 {Z : State} {a0 : Array Value} {EL : List (String × Nat)} {zc : Int32} (g : GH Z a0 EL zc) : (Jvm.Cond.arrayClass Jvm.ClassFile.FieldType.char).before a0 Z = true := g.1 _ (List.mem_of_getElem? (i := 12) rfl)
theorem wd_13 {Z : State} {a0 : Array Value} {EL : List (String × Nat)} {zc : Int32} (g : GH Z a0 EL zc) : (Jvm.Cond.classLink "com/example/kunci/kunci/PermissionEqualsPinLaw" (24 : Nat) "java/lang/String").before a0 Z = true := g.1 _ (List.mem_of_getElem? (i := 13) rfl)
theorem wd_14 {Z : State} {a0 : Array Value} {EL : List (String × Nat)} {zc : Int32} (g : GH Z a0 EL zc) : (Jvm.Cond.instantiable "java/lang/String" (4 : Nat)).before a0 Z = true := g.1 _ (List.mem_of_getElem? (i := 14) rfl)
theorem wd_15 {Z : State} {a0 : Array Value} {EL : List (String × Nat)} {zc : Int32} (g : GH Z a0 EL zc) : (Jvm.Cond.initialized "java/lang/String").before a0 Z = true := g.1 _ (List.mem_of_getElem? (i := 15) rfl)
theorem wd_16 {Z : State} {a0 : Array Value} {EL : List (String × Nat)} {zc : Int32} (g : GH Z a0 EL zc) : (Jvm.Cond.methodLink "com/example/kunci/kunci/PermissionEqualsPinLaw" (26 : Nat) ({ cls := "java/lang/String", name := "<init>", desc := "([C)V" } : Jvm.MethodName)).before a0 Z = true := g.1 _ (List.mem_of_getElem? (i := 16) rfl)
theorem wd_17 {Z : State} {a0 : Array Value} {EL : List (String × Nat)} {zc : Int32} (g : GH Z a0 EL zc) : (Jvm.Cond.instanceMethod ({ cls := "java/lang/String", name := "<init>", desc := "([C)V" } : Jvm.MethodName)).before a0 Z = true := g.1 _ (List.mem_of_getElem? (i := 17) rfl)
theorem wd_18 {Z : State} {a0 : Array Value} {EL : List (String × Nat)} {zc : Int32} (g : GH Z a0 EL zc) : (Jvm.Cond.code ({ cls := "java/lang/String", name := "<init>", desc := "([C)V" } : Jvm.MethodName) jdk_42_method_3_code (2 : Nat) (Option.none : Option Jvm.ClassFile.FieldType)).before a0 Z = true := g.1 _ (List.mem_of_getElem? (i := 18) rfl)
theorem wd_19 {Z : State} {a0 : Array Value} {EL : List (String × Nat)} {zc : Int32} (g : GH Z a0 EL zc) : (Jvm.Cond.methodLink "java/lang/String" (27 : Nat) ({ cls := "java/lang/String", name := "<init>", desc := "([CIILjava/lang/Void;)V" } : Jvm.MethodName)).before a0 Z = true := g.1 _ (List.mem_of_getElem? (i := 19) rfl)
theorem wd_20 {Z : State} {a0 : Array Value} {EL : List (String × Nat)} {zc : Int32} (g : GH Z a0 EL zc) : (Jvm.Cond.instanceMethod ({ cls := "java/lang/String", name := "<init>", desc := "([CIILjava/lang/Void;)V" } : Jvm.MethodName)).before a0 Z = true := g.1 _ (List.mem_of_getElem? (i := 20) rfl)
theorem wd_22 {Z : State} {a0 : Array Value} {EL : List (String × Nat)} {zc : Int32} (g : GH Z a0 EL zc) : (Jvm.Cond.code ({ cls := "java/lang/String", name := "<init>", desc := "([CIILjava/lang/Void;)V" } : Jvm.MethodName) jdk_42_method_149_code (6 : Nat) (Option.none : Option Jvm.ClassFile.FieldType)).before a0 Z = true := g.1 _ (List.mem_of_getElem? (i := 22) rfl)
theorem wd_23 {Z : State} {a0 : Array Value} {EL : List (String × Nat)} {zc : Int32} (g : GH Z a0 EL zc) : (Jvm.Cond.methodLink "java/lang/String" (1 : Nat) ({ cls := "java/lang/Object", name := "<init>", desc := "()V" } : Jvm.MethodName)).before a0 Z = true := g.1 _ (List.mem_of_getElem? (i := 23) rfl)
theorem wd_24 {Z : State} {a0 : Array Value} {EL : List (String × Nat)} {zc : Int32} (g : GH Z a0 EL zc) : (Jvm.Cond.instanceMethod ({ cls := "java/lang/Object", name := "<init>", desc := "()V" } : Jvm.MethodName)).before a0 Z = true := g.1 _ (List.mem_of_getElem? (i := 24) rfl)
theorem wd_25 {Z : State} {a0 : Array Value} {EL : List (String × Nat)} {zc : Int32} (g : GH Z a0 EL zc) : (Jvm.Cond.code ({ cls := "java/lang/Object", name := "<init>", desc := "()V" } : Jvm.MethodName) object_method_1_code (1 : Nat) (Option.none : Option Jvm.ClassFile.FieldType)).before a0 Z = true := g.1 _ (List.mem_of_getElem? (i := 25) rfl)
theorem wd_26 {Z : State} {a0 : Array Value} {EL : List (String × Nat)} {zc : Int32} (g : GH Z a0 EL zc) : (Jvm.Cond.stringLink "java/lang/String" (7 : Nat) "").before a0 Z = true := g.1 _ (List.mem_of_getElem? (i := 26) rfl)
theorem wd_27 {Z : State} {a0 : Array Value} {EL : List (String × Nat)} {zc : Int32} (g : GH Z a0 EL zc) : (Jvm.Cond.arrayClass Jvm.ClassFile.FieldType.byte).before a0 Z = true := g.1 _ (List.mem_of_getElem? (i := 27) rfl)
theorem wd_28 {Z : State} {a0 : Array Value} {EL : List (String × Nat)} {zc : Int32} (g : GH Z a0 EL zc) : (Jvm.Cond.laysFinal "java/lang/String" "java/lang/String" "value" "[B").before a0 Z = true := g.1 _ (List.mem_of_getElem? (i := 28) rfl)
theorem wd_29 {Z : State} {a0 : Array Value} {EL : List (String × Nat)} {zc : Int32} (g : GH Z a0 EL zc) : (Jvm.Cond.laysFinal "java/lang/String" "java/lang/String" "coder" "B").before a0 Z = true := g.1 _ (List.mem_of_getElem? (i := 29) rfl)
theorem wd_32 {Z : State} {a0 : Array Value} {EL : List (String × Nat)} {zc : Int32} (g : GH Z a0 EL zc) : (Jvm.Cond.fieldLink "java/lang/String" (9 : Nat) "java/lang/String" "value" "[B").before a0 Z = true := g.1 _ (List.mem_of_getElem? (i := 32) rfl)
theorem wd_33 {Z : State} {a0 : Array Value} {EL : List (String × Nat)} {zc : Int32} (g : GH Z a0 EL zc) : (Jvm.Cond.fieldLink "java/lang/String" (15 : Nat) "java/lang/String" "coder" "B").before a0 Z = true := g.1 _ (List.mem_of_getElem? (i := 33) rfl)
theorem wd_34 {Z : State} {a0 : Array Value} {EL : List (String × Nat)} {zc : Int32} (g : GH Z a0 EL zc) : (Jvm.Cond.methodLink "com/example/kunci/kunci/PermissionEqualsPinLaw" (17 : Nat) ({ cls := "com/example/kunci/kunci/PermissionEqualsPinLaw", name := "c0", desc := "(J)C" } : Jvm.MethodName)).before a0 Z = true := g.1 _ (List.mem_of_getElem? (i := 34) rfl)
theorem wd_35 {Z : State} {a0 : Array Value} {EL : List (String × Nat)} {zc : Int32} (g : GH Z a0 EL zc) : (Jvm.Cond.static ({ cls := "com/example/kunci/kunci/PermissionEqualsPinLaw", name := "c0", desc := "(J)C" } : Jvm.MethodName)).before a0 Z = true := g.1 _ (List.mem_of_getElem? (i := 35) rfl)
theorem wd_36 {Z : State} {a0 : Array Value} {EL : List (String × Nat)} {zc : Int32} (g : GH Z a0 EL zc) : (Jvm.Cond.code ({ cls := "com/example/kunci/kunci/PermissionEqualsPinLaw", name := "c0", desc := "(J)C" } : Jvm.MethodName) method_3_code (2 : Nat) (Option.some Jvm.ClassFile.FieldType.char)).before a0 Z = true := g.1 _ (List.mem_of_getElem? (i := 36) rfl)
theorem wd_37 {Z : State} {a0 : Array Value} {EL : List (String × Nat)} {zc : Int32} (g : GH Z a0 EL zc) : (Jvm.Cond.constantLong "com/example/kunci/kunci/PermissionEqualsPinLaw" (9 : Nat) (255 : Int64)).before a0 Z = true := g.1 _ (List.mem_of_getElem? (i := 37) rfl)
theorem wd_38 {Z : State} {a0 : Array Value} {EL : List (String × Nat)} {zc : Int32} (g : GH Z a0 EL zc) : (Jvm.Cond.fieldLink "java/lang/String" (38 : Nat) "java/lang/String" "COMPACT_STRINGS" "Z").before a0 Z = true := g.1 _ (List.mem_of_getElem? (i := 38) rfl)
theorem wd_39 {Z : State} {a0 : Array Value} {EL : List (String × Nat)} {zc : Int32} (g : GH Z a0 EL zc) : (Jvm.Cond.methodLink "java/lang/String" (177 : Nat) ({ cls := "java/lang/StringUTF16", name := "compress", desc := "([CII)[B" } : Jvm.MethodName)).before a0 Z = true := g.1 _ (List.mem_of_getElem? (i := 39) rfl)
theorem wd_40 {Z : State} {a0 : Array Value} {EL : List (String × Nat)} {zc : Int32} (g : GH Z a0 EL zc) : (Jvm.Cond.static ({ cls := "java/lang/StringUTF16", name := "compress", desc := "([CII)[B" } : Jvm.MethodName)).before a0 Z = true := g.1 _ (List.mem_of_getElem? (i := 40) rfl)
theorem wd_41 {Z : State} {a0 : Array Value} {EL : List (String × Nat)} {zc : Int32} (g : GH Z a0 EL zc) : (Jvm.Cond.initialized "java/lang/StringUTF16").before a0 Z = true := g.1 _ (List.mem_of_getElem? (i := 41) rfl)
theorem wd_42 {Z : State} {a0 : Array Value} {EL : List (String × Nat)} {zc : Int32} (g : GH Z a0 EL zc) : (Jvm.Cond.code ({ cls := "java/lang/StringUTF16", name := "compress", desc := "([CII)[B" } : Jvm.MethodName) jdk_52_method_16_code (6 : Nat) (Option.some (Jvm.ClassFile.FieldType.array Jvm.ClassFile.FieldType.byte))).before a0 Z = true := g.1 _ (List.mem_of_getElem? (i := 42) rfl)
theorem wd_43 {Z : State} {a0 : Array Value} {EL : List (String × Nat)} {zc : Int32} (g : GH Z a0 EL zc) : (Jvm.Cond.methodLink "java/lang/StringUTF16" (115 : Nat) ({ cls := "java/lang/StringUTF16", name := "compress", desc := "([CI[BII)I" } : Jvm.MethodName)).before a0 Z = true := g.1 _ (List.mem_of_getElem? (i := 43) rfl)
theorem wd_44 {Z : State} {a0 : Array Value} {EL : List (String × Nat)} {zc : Int32} (g : GH Z a0 EL zc) : (Jvm.Cond.static ({ cls := "java/lang/StringUTF16", name := "compress", desc := "([CI[BII)I" } : Jvm.MethodName)).before a0 Z = true := g.1 _ (List.mem_of_getElem? (i := 44) rfl)
theorem wd_45 {Z : State} {a0 : Array Value} {EL : List (String × Nat)} {zc : Int32} (g : GH Z a0 EL zc) : (Jvm.Cond.code ({ cls := "java/lang/StringUTF16", name := "compress", desc := "([CI[BII)I" } : Jvm.MethodName) jdk_52_method_21_code (7 : Nat) (Option.some Jvm.ClassFile.FieldType.int)).before a0 Z = true := g.1 _ (List.mem_of_getElem? (i := 45) rfl)
theorem wd_46 {Z : State} {a0 : Array Value} {EL : List (String × Nat)} {zc : Int32} (g : GH Z a0 EL zc) : (Jvm.Cond.methodLink "java/lang/String" (47 : Nat) ({ cls := "java/lang/StringUTF16", name := "coderFromArrayLen", desc := "([BI)B" } : Jvm.MethodName)).before a0 Z = true := g.1 _ (List.mem_of_getElem? (i := 46) rfl)
theorem wd_47 {Z : State} {a0 : Array Value} {EL : List (String × Nat)} {zc : Int32} (g : GH Z a0 EL zc) : (Jvm.Cond.static ({ cls := "java/lang/StringUTF16", name := "coderFromArrayLen", desc := "([BI)B" } : Jvm.MethodName)).before a0 Z = true := g.1 _ (List.mem_of_getElem? (i := 47) rfl)
theorem wd_48 {Z : State} {a0 : Array Value} {EL : List (String × Nat)} {zc : Int32} (g : GH Z a0 EL zc) : (Jvm.Cond.code ({ cls := "java/lang/StringUTF16", name := "coderFromArrayLen", desc := "([BI)B" } : Jvm.MethodName) jdk_52_method_15_code (2 : Nat) (Option.some Jvm.ClassFile.FieldType.byte)).before a0 Z = true := g.1 _ (List.mem_of_getElem? (i := 48) rfl)
theorem wd_49 {Z : State} {a0 : Array Value} {EL : List (String × Nat)} {zc : Int32} (g : GH Z a0 EL zc) : (Jvm.Cond.methodLink "com/example/kunci/kunci/PermissionEqualsPinLaw" (37 : Nat) ({ cls := "com/example/kunci/kunci/Permission", name := "<init>", desc := "(Ljava/lang/String;Ljava/lang/String;Ljava/lang/String;Z)V" } : Jvm.MethodName)).before a0 Z = true := g.1 _ (List.mem_of_getElem? (i := 49) rfl)
theorem wd_50 {Z : State} {a0 : Array Value} {EL : List (String × Nat)} {zc : Int32} (g : GH Z a0 EL zc) : (Jvm.Cond.instanceMethod ({ cls := "com/example/kunci/kunci/Permission", name := "<init>", desc := "(Ljava/lang/String;Ljava/lang/String;Ljava/lang/String;Z)V" } : Jvm.MethodName)).before a0 Z = true := g.1 _ (List.mem_of_getElem? (i := 50) rfl)
theorem wd_51 {Z : State} {a0 : Array Value} {EL : List (String × Nat)} {zc : Int32} (g : GH Z a0 EL zc) : (Jvm.Cond.code ({ cls := "com/example/kunci/kunci/Permission", name := "<init>", desc := "(Ljava/lang/String;Ljava/lang/String;Ljava/lang/String;Z)V" } : Jvm.MethodName) prog_7_method_1_code (5 : Nat) (Option.none : Option Jvm.ClassFile.FieldType)).before a0 Z = true := g.1 _ (List.mem_of_getElem? (i := 51) rfl)
theorem wd_52 {Z : State} {a0 : Array Value} {EL : List (String × Nat)} {zc : Int32} (g : GH Z a0 EL zc) : (Jvm.Cond.methodLink "com/example/kunci/kunci/Permission" (1 : Nat) ({ cls := "java/lang/Object", name := "<init>", desc := "()V" } : Jvm.MethodName)).before a0 Z = true := g.1 _ (List.mem_of_getElem? (i := 52) rfl)
theorem wd_53 {Z : State} {a0 : Array Value} {EL : List (String × Nat)} {zc : Int32} (g : GH Z a0 EL zc) : (Jvm.Cond.stringLink "com/example/kunci/kunci/Permission" (7 : Nat) "entity").before a0 Z = true := g.1 _ (List.mem_of_getElem? (i := 53) rfl)
theorem wd_54 {Z : State} {a0 : Array Value} {EL : List (String × Nat)} {zc : Int32} (g : GH Z a0 EL zc) : (Jvm.Cond.methodLink "com/example/kunci/kunci/Permission" (9 : Nat) ({ cls := "java/util/Objects", name := "requireNonNull", desc := "(Ljava/lang/Object;Ljava/lang/String;)Ljava/lang/Object;" } : Jvm.MethodName)).before a0 Z = true := g.1 _ (List.mem_of_getElem? (i := 54) rfl)
theorem wd_55 {Z : State} {a0 : Array Value} {EL : List (String × Nat)} {zc : Int32} (g : GH Z a0 EL zc) : (Jvm.Cond.static ({ cls := "java/util/Objects", name := "requireNonNull", desc := "(Ljava/lang/Object;Ljava/lang/String;)Ljava/lang/Object;" } : Jvm.MethodName)).before a0 Z = true := g.1 _ (List.mem_of_getElem? (i := 55) rfl)
theorem wd_56 {Z : State} {a0 : Array Value} {EL : List (String × Nat)} {zc : Int32} (g : GH Z a0 EL zc) : (Jvm.Cond.initialized "java/util/Objects").before a0 Z = true := g.1 _ (List.mem_of_getElem? (i := 56) rfl)
theorem wd_57 {Z : State} {a0 : Array Value} {EL : List (String × Nat)} {zc : Int32} (g : GH Z a0 EL zc) : (Jvm.Cond.code ({ cls := "java/util/Objects", name := "requireNonNull", desc := "(Ljava/lang/Object;Ljava/lang/String;)Ljava/lang/Object;" } : Jvm.MethodName) jdk_31_method_11_code (2 : Nat) (Option.some (Jvm.ClassFile.FieldType.object "java/lang/Object"))).before a0 Z = true := g.1 _ (List.mem_of_getElem? (i := 57) rfl)
theorem wd_58 {Z : State} {a0 : Array Value} {EL : List (String × Nat)} {zc : Int32} (g : GH Z a0 EL zc) : (Jvm.Cond.classLink "com/example/kunci/kunci/Permission" (15 : Nat) "java/lang/String").before a0 Z = true := g.1 _ (List.mem_of_getElem? (i := 58) rfl)
theorem wd_59 {Z : State} {a0 : Array Value} {EL : List (String × Nat)} {zc : Int32} (g : GH Z a0 EL zc) : (Jvm.Cond.fieldLink "com/example/kunci/kunci/Permission" (17 : Nat) "com/example/kunci/kunci/Permission" "entity" "Ljava/lang/String;").before a0 Z = true := g.1 _ (List.mem_of_getElem? (i := 59) rfl)
theorem wd_60 {Z : State} {a0 : Array Value} {EL : List (String × Nat)} {zc : Int32} (g : GH Z a0 EL zc) : (Jvm.Cond.laysFinal "com/example/kunci/kunci/Permission" "com/example/kunci/kunci/Permission" "entity" "Ljava/lang/String;").before a0 Z = true := g.1 _ (List.mem_of_getElem? (i := 60) rfl)
theorem wd_61 {Z : State} {a0 : Array Value} {EL : List (String × Nat)} {zc : Int32} (g : GH Z a0 EL zc) : (Jvm.Cond.stringLink "com/example/kunci/kunci/Permission" (22 : Nat) "principal").before a0 Z = true := g.1 _ (List.mem_of_getElem? (i := 61) rfl)
theorem wd_62 {Z : State} {a0 : Array Value} {EL : List (String × Nat)} {zc : Int32} (g : GH Z a0 EL zc) : (Jvm.Cond.fieldLink "com/example/kunci/kunci/Permission" (24 : Nat) "com/example/kunci/kunci/Permission" "principal" "Ljava/lang/String;").before a0 Z = true := g.1 _ (List.mem_of_getElem? (i := 62) rfl)
theorem wd_63 {Z : State} {a0 : Array Value} {EL : List (String × Nat)} {zc : Int32} (g : GH Z a0 EL zc) : (Jvm.Cond.laysFinal "com/example/kunci/kunci/Permission" "com/example/kunci/kunci/Permission" "principal" "Ljava/lang/String;").before a0 Z = true := g.1 _ (List.mem_of_getElem? (i := 63) rfl)
theorem wd_64 {Z : State} {a0 : Array Value} {EL : List (String × Nat)} {zc : Int32} (g : GH Z a0 EL zc) : (Jvm.Cond.stringLink "com/example/kunci/kunci/Permission" (26 : Nat) "role").before a0 Z = true := g.1 _ (List.mem_of_getElem? (i := 64) rfl)
theorem wd_65 {Z : State} {a0 : Array Value} {EL : List (String × Nat)} {zc : Int32} (g : GH Z a0 EL zc) : (Jvm.Cond.fieldLink "com/example/kunci/kunci/Permission" (28 : Nat) "com/example/kunci/kunci/Permission" "role" "Ljava/lang/String;").before a0 Z = true := g.1 _ (List.mem_of_getElem? (i := 65) rfl)
theorem wd_66 {Z : State} {a0 : Array Value} {EL : List (String × Nat)} {zc : Int32} (g : GH Z a0 EL zc) : (Jvm.Cond.laysFinal "com/example/kunci/kunci/Permission" "com/example/kunci/kunci/Permission" "role" "Ljava/lang/String;").before a0 Z = true := g.1 _ (List.mem_of_getElem? (i := 66) rfl)
theorem wd_67 {Z : State} {a0 : Array Value} {EL : List (String × Nat)} {zc : Int32} (g : GH Z a0 EL zc) : (Jvm.Cond.fieldLink "com/example/kunci/kunci/Permission" (30 : Nat) "com/example/kunci/kunci/Permission" "propagating" "Z").before a0 Z = true := g.1 _ (List.mem_of_getElem? (i := 67) rfl)
theorem wd_68 {Z : State} {a0 : Array Value} {EL : List (String × Nat)} {zc : Int32} (g : GH Z a0 EL zc) : (Jvm.Cond.laysFinal "com/example/kunci/kunci/Permission" "com/example/kunci/kunci/Permission" "propagating" "Z").before a0 Z = true := g.1 _ (List.mem_of_getElem? (i := 68) rfl)
theorem wd_69 {Z : State} {a0 : Array Value} {EL : List (String × Nat)} {zc : Int32} (g : GH Z a0 EL zc) : (Jvm.Cond.methodLink "com/example/kunci/kunci/PermissionEqualsPinLaw" (40 : Nat) ({ cls := "com/example/kunci/kunci/PermissionEqualsPinLaw", name := "same", desc := "(JJ)Z" } : Jvm.MethodName)).before a0 Z = true := g.1 _ (List.mem_of_getElem? (i := 69) rfl)
theorem wd_70 {Z : State} {a0 : Array Value} {EL : List (String × Nat)} {zc : Int32} (g : GH Z a0 EL zc) : (Jvm.Cond.static ({ cls := "com/example/kunci/kunci/PermissionEqualsPinLaw", name := "same", desc := "(JJ)Z" } : Jvm.MethodName)).before a0 Z = true := g.1 _ (List.mem_of_getElem? (i := 70) rfl)
theorem wd_71 {Z : State} {a0 : Array Value} {EL : List (String × Nat)} {zc : Int32} (g : GH Z a0 EL zc) : (Jvm.Cond.code ({ cls := "com/example/kunci/kunci/PermissionEqualsPinLaw", name := "same", desc := "(JJ)Z" } : Jvm.MethodName) method_6_code (5 : Nat) (Option.some Jvm.ClassFile.FieldType.boolean)).before a0 Z = true := g.1 _ (List.mem_of_getElem? (i := 71) rfl)
theorem wd_72 {Z : State} {a0 : Array Value} {EL : List (String × Nat)} {zc : Int32} (g : GH Z a0 EL zc) : (Jvm.Cond.methodLink "com/example/kunci/kunci/PermissionEqualsPinLaw" (44 : Nat) ({ cls := "com/example/kunci/kunci/Permission", name := "equals", desc := "(Ljava/lang/Object;)Z" } : Jvm.MethodName)).before a0 Z = true := g.1 _ (List.mem_of_getElem? (i := 72) rfl)
theorem wd_73 {Z : State} {a0 : Array Value} {EL : List (String × Nat)} {zc : Int32} (g : GH Z a0 EL zc) : (Jvm.Cond.declares ({ cls := "com/example/kunci/kunci/Permission", name := "equals", desc := "(Ljava/lang/Object;)Z" } : Jvm.MethodName)).before a0 Z = true := g.1 _ (List.mem_of_getElem? (i := 73) rfl)
theorem wd_74 {Z : State} {a0 : Array Value} {EL : List (String × Nat)} {zc : Int32} (g : GH Z a0 EL zc) : (Jvm.Cond.instanceMethod ({ cls := "com/example/kunci/kunci/Permission", name := "equals", desc := "(Ljava/lang/Object;)Z" } : Jvm.MethodName)).before a0 Z = true := g.1 _ (List.mem_of_getElem? (i := 74) rfl)
theorem wd_75 {Z : State} {a0 : Array Value} {EL : List (String × Nat)} {zc : Int32} (g : GH Z a0 EL zc) : (Jvm.Cond.selects "com/example/kunci/kunci/Permission" ({ cls := "com/example/kunci/kunci/Permission", name := "equals", desc := "(Ljava/lang/Object;)Z" } : Jvm.MethodName) ({ cls := "com/example/kunci/kunci/Permission", name := "equals", desc := "(Ljava/lang/Object;)Z" } : Jvm.MethodName)).before a0 Z = true := g.1 _ (List.mem_of_getElem? (i := 75) rfl)
theorem wd_76 {Z : State} {a0 : Array Value} {EL : List (String × Nat)} {zc : Int32} (g : GH Z a0 EL zc) : (Jvm.Cond.code ({ cls := "com/example/kunci/kunci/Permission", name := "equals", desc := "(Ljava/lang/Object;)Z" } : Jvm.MethodName) prog_7_method_6_code (3 : Nat) (Option.some Jvm.ClassFile.FieldType.boolean)).before a0 Z = true := g.1 _ (List.mem_of_getElem? (i := 76) rfl)
theorem wd_77 {Z : State} {a0 : Array Value} {EL : List (String × Nat)} {zc : Int32} (g : GH Z a0 EL zc) : (Jvm.Cond.classLink "com/example/kunci/kunci/Permission" (18 : Nat) "com/example/kunci/kunci/Permission").before a0 Z = true := g.1 _ (List.mem_of_getElem? (i := 77) rfl)
theorem wd_79 {Z : State} {a0 : Array Value} {EL : List (String × Nat)} {zc : Int32} (g : GH Z a0 EL zc) : (Jvm.Cond.methodLink "com/example/kunci/kunci/Permission" (34 : Nat) ({ cls := "java/lang/String", name := "equals", desc := "(Ljava/lang/Object;)Z" } : Jvm.MethodName)).before a0 Z = true := g.1 _ (List.mem_of_getElem? (i := 79) rfl)
theorem wd_80 {Z : State} {a0 : Array Value} {EL : List (String × Nat)} {zc : Int32} (g : GH Z a0 EL zc) : (Jvm.Cond.declares ({ cls := "java/lang/String", name := "equals", desc := "(Ljava/lang/Object;)Z" } : Jvm.MethodName)).before a0 Z = true := g.1 _ (List.mem_of_getElem? (i := 80) rfl)
theorem wd_81 {Z : State} {a0 : Array Value} {EL : List (String × Nat)} {zc : Int32} (g : GH Z a0 EL zc) : (Jvm.Cond.instanceMethod ({ cls := "java/lang/String", name := "equals", desc := "(Ljava/lang/Object;)Z" } : Jvm.MethodName)).before a0 Z = true := g.1 _ (List.mem_of_getElem? (i := 81) rfl)
theorem wd_82 {Z : State} {a0 : Array Value} {EL : List (String × Nat)} {zc : Int32} (g : GH Z a0 EL zc) : (Jvm.Cond.selects "java/lang/String" ({ cls := "java/lang/String", name := "equals", desc := "(Ljava/lang/Object;)Z" } : Jvm.MethodName) ({ cls := "java/lang/String", name := "equals", desc := "(Ljava/lang/Object;)Z" } : Jvm.MethodName)).before a0 Z = true := g.1 _ (List.mem_of_getElem? (i := 82) rfl)
theorem wd_83 {Z : State} {a0 : Array Value} {EL : List (String × Nat)} {zc : Int32} (g : GH Z a0 EL zc) : (Jvm.Cond.code ({ cls := "java/lang/String", name := "equals", desc := "(Ljava/lang/Object;)Z" } : Jvm.MethodName) jdk_42_method_66_code (3 : Nat) (Option.some Jvm.ClassFile.FieldType.boolean)).before a0 Z = true := g.1 _ (List.mem_of_getElem? (i := 83) rfl)
theorem wd_84 {Z : State} {a0 : Array Value} {EL : List (String × Nat)} {zc : Int32} (g : GH Z a0 EL zc) : (Jvm.Cond.classLink "java/lang/String" (10 : Nat) "java/lang/String").before a0 Z = true := g.1 _ (List.mem_of_getElem? (i := 84) rfl)
theorem wd_85 {Z : State} {a0 : Array Value} {EL : List (String × Nat)} {zc : Int32} (g : GH Z a0 EL zc) : (Jvm.Cond.methodLink "java/lang/String" (541 : Nat) ({ cls := "java/lang/StringLatin1", name := "equals", desc := "([B[B)Z" } : Jvm.MethodName)).before a0 Z = true := g.1 _ (List.mem_of_getElem? (i := 85) rfl)
theorem wd_86 {Z : State} {a0 : Array Value} {EL : List (String × Nat)} {zc : Int32} (g : GH Z a0 EL zc) : (Jvm.Cond.static ({ cls := "java/lang/StringLatin1", name := "equals", desc := "([B[B)Z" } : Jvm.MethodName)).before a0 Z = true := g.1 _ (List.mem_of_getElem? (i := 86) rfl)
theorem wd_87 {Z : State} {a0 : Array Value} {EL : List (String × Nat)} {zc : Int32} (g : GH Z a0 EL zc) : (Jvm.Cond.initialized "java/lang/StringLatin1").before a0 Z = true := g.1 _ (List.mem_of_getElem? (i := 87) rfl)
theorem wd_88 {Z : State} {a0 : Array Value} {EL : List (String × Nat)} {zc : Int32} (g : GH Z a0 EL zc) : (Jvm.Cond.code ({ cls := "java/lang/StringLatin1", name := "equals", desc := "([B[B)Z" } : Jvm.MethodName) jdk_43_method_13_code (3 : Nat) (Option.some Jvm.ClassFile.FieldType.boolean)).before a0 Z = true := g.1 _ (List.mem_of_getElem? (i := 88) rfl)
theorem wd_89 {Z : State} {a0 : Array Value} {EL : List (String × Nat)} {zc : Int32} (g : GH Z a0 EL zc) : (Jvm.Cond.methodLink "com/example/kunci/kunci/PermissionEqualsPinLaw" (21 : Nat) ({ cls := "com/example/kunci/kunci/PermissionEqualsPinLaw", name := "c1", desc := "(J)C" } : Jvm.MethodName)).before a0 Z = true := g.1 _ (List.mem_of_getElem? (i := 89) rfl)
theorem wd_90 {Z : State} {a0 : Array Value} {EL : List (String × Nat)} {zc : Int32} (g : GH Z a0 EL zc) : (Jvm.Cond.static ({ cls := "com/example/kunci/kunci/PermissionEqualsPinLaw", name := "c1", desc := "(J)C" } : Jvm.MethodName)).before a0 Z = true := g.1 _ (List.mem_of_getElem? (i := 90) rfl)
theorem wd_91 {Z : State} {a0 : Array Value} {EL : List (String × Nat)} {zc : Int32} (g : GH Z a0 EL zc) : (Jvm.Cond.code ({ cls := "com/example/kunci/kunci/PermissionEqualsPinLaw", name := "c1", desc := "(J)C" } : Jvm.MethodName) method_4_code (2 : Nat) (Option.some Jvm.ClassFile.FieldType.char)).before a0 Z = true := g.1 _ (List.mem_of_getElem? (i := 91) rfl)
theorem wd_92 {Z : State} {a0 : Array Value} {EL : List (String × Nat)} {zc : Int32} (g : GH Z a0 EL zc) : (Jvm.Cond.superclass "java/lang/String" "java/lang/Object").before a0 Z = true := g.1 _ (List.mem_of_getElem? (i := 92) rfl)
theorem wd_93 {Z : State} {a0 : Array Value} {EL : List (String × Nat)} {zc : Int32} (g : GH Z a0 EL zc) : (Jvm.Cond.noSuperclass "java/lang/Object").before a0 Z = true := g.1 _ (List.mem_of_getElem? (i := 93) rfl)
theorem D_prog_7_method_1_code_0 : decode prog_7_method_1_code 0 = .ok (.aload_n 0, 1) := by decide +kernel
theorem D_prog_7_method_1_code_1 : decode prog_7_method_1_code 1 = .ok (.invokespecial 1, 3) := by decide +kernel
theorem D_prog_7_method_1_code_11 : decode prog_7_method_1_code 11 = .ok (.checkcast 15, 3) := by decide +kernel
theorem D_prog_7_method_1_code_14 : decode prog_7_method_1_code 14 = .ok (.putfield 17, 3) := by decide +kernel
theorem D_prog_7_method_1_code_17 : decode prog_7_method_1_code 17 = .ok (.aload_n 0, 1) := by decide +kernel
theorem D_prog_7_method_1_code_18 : decode prog_7_method_1_code 18 = .ok (.aload_n 2, 1) := by decide +kernel
theorem D_prog_7_method_1_code_19 : decode prog_7_method_1_code 19 = .ok (.ldc 22, 2) := by decide +kernel
theorem D_prog_7_method_1_code_21 : decode prog_7_method_1_code 21 = .ok (.invokestatic 9, 3) := by decide +kernel
theorem D_prog_7_method_1_code_24 : decode prog_7_method_1_code 24 = .ok (.checkcast 15, 3) := by decide +kernel
theorem D_prog_7_method_1_code_27 : decode prog_7_method_1_code 27 = .ok (.putfield 24, 3) := by decide +kernel
theorem D_prog_7_method_1_code_30 : decode prog_7_method_1_code 30 = .ok (.aload_n 0, 1) := by decide +kernel
theorem D_prog_7_method_1_code_31 : decode prog_7_method_1_code 31 = .ok (.aload_n 3, 1) := by decide +kernel
theorem D_prog_7_method_1_code_32 : decode prog_7_method_1_code 32 = .ok (.ldc 26, 2) := by decide +kernel
theorem D_prog_7_method_1_code_34 : decode prog_7_method_1_code 34 = .ok (.invokestatic 9, 3) := by decide +kernel
theorem D_prog_7_method_1_code_37 : decode prog_7_method_1_code 37 = .ok (.checkcast 15, 3) := by decide +kernel
theorem D_prog_7_method_1_code_4 : decode prog_7_method_1_code 4 = .ok (.aload_n 0, 1) := by decide +kernel
theorem D_prog_7_method_1_code_40 : decode prog_7_method_1_code 40 = .ok (.putfield 28, 3) := by decide +kernel
theorem D_prog_7_method_1_code_43 : decode prog_7_method_1_code 43 = .ok (.aload_n 0, 1) := by decide +kernel
theorem D_prog_7_method_1_code_44 : decode prog_7_method_1_code 44 = .ok (.iload 4, 2) := by decide +kernel
theorem D_prog_7_method_1_code_46 : decode prog_7_method_1_code 46 = .ok (.putfield 30, 3) := by decide +kernel
theorem D_prog_7_method_1_code_49 : decode prog_7_method_1_code 49 = .ok (.return_, 1) := by decide +kernel
theorem D_prog_7_method_1_code_5 : decode prog_7_method_1_code 5 = .ok (.aload_n 1, 1) := by decide +kernel
theorem D_prog_7_method_1_code_6 : decode prog_7_method_1_code 6 = .ok (.ldc 7, 2) := by decide +kernel
theorem D_prog_7_method_1_code_8 : decode prog_7_method_1_code 8 = .ok (.invokestatic 9, 3) := by decide +kernel
theorem D_prog_7_method_6_code_0 : decode prog_7_method_6_code 0 = .ok (.aload_n 1, 1) := by decide +kernel
theorem D_prog_7_method_6_code_1 : decode prog_7_method_6_code 1 = .ok (.instanceof 18, 3) := by decide +kernel
theorem D_prog_7_method_6_code_10 : decode prog_7_method_6_code 10 = .ok (.checkcast 18, 3) := by decide +kernel
theorem D_prog_7_method_6_code_13 : decode prog_7_method_6_code 13 = .ok (.astore_n 2, 1) := by decide +kernel
theorem D_prog_7_method_6_code_14 : decode prog_7_method_6_code 14 = .ok (.aload_n 0, 1) := by decide +kernel
theorem D_prog_7_method_6_code_15 : decode prog_7_method_6_code 15 = .ok (.getfield 17, 3) := by decide +kernel
theorem D_prog_7_method_6_code_18 : decode prog_7_method_6_code 18 = .ok (.aload_n 2, 1) := by decide +kernel
theorem D_prog_7_method_6_code_19 : decode prog_7_method_6_code 19 = .ok (.getfield 17, 3) := by decide +kernel
theorem D_prog_7_method_6_code_22 : decode prog_7_method_6_code 22 = .ok (.invokevirtual 34, 3) := by decide +kernel
theorem D_prog_7_method_6_code_25 : decode prog_7_method_6_code 25 = .ok (.ifCond .eq 46, 3) := by decide +kernel
theorem D_prog_7_method_6_code_28 : decode prog_7_method_6_code 28 = .ok (.aload_n 0, 1) := by decide +kernel
theorem D_prog_7_method_6_code_29 : decode prog_7_method_6_code 29 = .ok (.getfield 24, 3) := by decide +kernel
theorem D_prog_7_method_6_code_32 : decode prog_7_method_6_code 32 = .ok (.aload_n 2, 1) := by decide +kernel
theorem D_prog_7_method_6_code_33 : decode prog_7_method_6_code 33 = .ok (.getfield 24, 3) := by decide +kernel
theorem D_prog_7_method_6_code_36 : decode prog_7_method_6_code 36 = .ok (.invokevirtual 34, 3) := by decide +kernel
theorem D_prog_7_method_6_code_39 : decode prog_7_method_6_code 39 = .ok (.ifCond .eq 32, 3) := by decide +kernel
theorem D_prog_7_method_6_code_4 : decode prog_7_method_6_code 4 = .ok (.ifCond .ne 5, 3) := by decide +kernel
theorem D_prog_7_method_6_code_42 : decode prog_7_method_6_code 42 = .ok (.aload_n 0, 1) := by decide +kernel
theorem D_prog_7_method_6_code_43 : decode prog_7_method_6_code 43 = .ok (.getfield 28, 3) := by decide +kernel
theorem D_prog_7_method_6_code_46 : decode prog_7_method_6_code 46 = .ok (.aload_n 2, 1) := by decide +kernel
theorem D_prog_7_method_6_code_47 : decode prog_7_method_6_code 47 = .ok (.getfield 28, 3) := by decide +kernel
theorem D_prog_7_method_6_code_50 : decode prog_7_method_6_code 50 = .ok (.invokevirtual 34, 3) := by decide +kernel
theorem D_prog_7_method_6_code_53 : decode prog_7_method_6_code 53 = .ok (.ifCond .eq 18, 3) := by decide +kernel
theorem D_prog_7_method_6_code_56 : decode prog_7_method_6_code 56 = .ok (.aload_n 0, 1) := by decide +kernel
theorem D_prog_7_method_6_code_57 : decode prog_7_method_6_code 57 = .ok (.getfield 30, 3) := by decide +kernel
theorem D_prog_7_method_6_code_60 : decode prog_7_method_6_code 60 = .ok (.aload_n 2, 1) := by decide +kernel
theorem D_prog_7_method_6_code_61 : decode prog_7_method_6_code 61 = .ok (.getfield 30, 3) := by decide +kernel
theorem D_prog_7_method_6_code_64 : decode prog_7_method_6_code 64 = .ok (.if_icmp .ne 7, 3) := by decide +kernel
theorem D_prog_7_method_6_code_67 : decode prog_7_method_6_code 67 = .ok (.iconst 1, 1) := by decide +kernel
theorem D_prog_7_method_6_code_68 : decode prog_7_method_6_code 68 = .ok (.goto 4, 3) := by decide +kernel
theorem D_prog_7_method_6_code_7 : decode prog_7_method_6_code 7 = .ok (.iconst 0, 1) := by decide +kernel
theorem D_prog_7_method_6_code_71 : decode prog_7_method_6_code 71 = .ok (.iconst 0, 1) := by decide +kernel
theorem D_prog_7_method_6_code_72 : decode prog_7_method_6_code 72 = .ok (.ireturn, 1) := by decide +kernel
theorem D_prog_7_method_6_code_8 : decode prog_7_method_6_code 8 = .ok (.ireturn, 1) := by decide +kernel
theorem D_prog_7_method_6_code_9 : decode prog_7_method_6_code 9 = .ok (.aload_n 1, 1) := by decide +kernel
theorem D_method_3_code_0 : decode method_3_code 0 = .ok (.lload_n 0, 1) := by decide +kernel
theorem D_method_3_code_1 : decode method_3_code 1 = .ok (.iconst 2, 1) := by decide +kernel
theorem D_method_3_code_2 : decode method_3_code 2 = .ok (.lushr, 1) := by decide +kernel
theorem D_method_3_code_3 : decode method_3_code 3 = .ok (.ldc2_w 9, 3) := by decide +kernel
theorem D_method_3_code_6 : decode method_3_code 6 = .ok (.land, 1) := by decide +kernel
theorem D_method_3_code_7 : decode method_3_code 7 = .ok (.l2i, 1) := by decide +kernel
theorem D_method_3_code_8 : decode method_3_code 8 = .ok (.i2c, 1) := by decide +kernel
theorem D_method_3_code_9 : decode method_3_code 9 = .ok (.ireturn, 1) := by decide +kernel
theorem D_method_4_code_0 : decode method_4_code 0 = .ok (.lload_n 0, 1) := by decide +kernel
theorem D_method_4_code_1 : decode method_4_code 1 = .ok (.bipush 10, 2) := by decide +kernel
theorem D_method_4_code_10 : decode method_4_code 10 = .ok (.ireturn, 1) := by decide +kernel
theorem D_method_4_code_3 : decode method_4_code 3 = .ok (.lushr, 1) := by decide +kernel
theorem D_method_4_code_4 : decode method_4_code 4 = .ok (.ldc2_w 9, 3) := by decide +kernel
theorem D_method_4_code_7 : decode method_4_code 7 = .ok (.land, 1) := by decide +kernel
theorem D_method_4_code_8 : decode method_4_code 8 = .ok (.l2i, 1) := by decide +kernel
theorem D_method_4_code_9 : decode method_4_code 9 = .ok (.i2c, 1) := by decide +kernel
theorem D_method_2_code_0 : decode method_2_code 0 = .ok (.lload_n 0, 1) := by decide +kernel
theorem D_method_2_code_1 : decode method_2_code 1 = .ok (.ldc2_w 7, 3) := by decide +kernel
theorem D_method_2_code_10 : decode method_2_code 10 = .ok (.ireturn, 1) := by decide +kernel
theorem D_method_2_code_4 : decode method_2_code 4 = .ok (.land, 1) := by decide +kernel
theorem D_method_2_code_5 : decode method_2_code 5 = .ok (.ldc2_w 7, 3) := by decide +kernel
theorem D_method_2_code_8 : decode method_2_code 8 = .ok (.lrem, 1) := by decide +kernel
theorem D_method_2_code_9 : decode method_2_code 9 = .ok (.l2i, 1) := by decide +kernel
theorem D_method_6_code_0 : decode method_6_code 0 = .ok (.lload_n 0, 1) := by decide +kernel
theorem D_method_6_code_1 : decode method_6_code 1 = .ok (.invokestatic 11, 3) := by decide +kernel
theorem D_method_6_code_12 : decode method_6_code 12 = .ok (.if_icmp .eq 5, 3) := by decide +kernel
theorem D_method_6_code_15 : decode method_6_code 15 = .ok (.iconst 0, 1) := by decide +kernel
theorem D_method_6_code_16 : decode method_6_code 16 = .ok (.ireturn, 1) := by decide +kernel
theorem D_method_6_code_17 : decode method_6_code 17 = .ok (.iload 4, 2) := by decide +kernel
theorem D_method_6_code_19 : decode method_6_code 19 = .ok (.ifCond .le 16, 3) := by decide +kernel
theorem D_method_6_code_22 : decode method_6_code 22 = .ok (.lload_n 0, 1) := by decide +kernel
theorem D_method_6_code_23 : decode method_6_code 23 = .ok (.invokestatic 17, 3) := by decide +kernel
theorem D_method_6_code_26 : decode method_6_code 26 = .ok (.lload_n 2, 1) := by decide +kernel
theorem D_method_6_code_27 : decode method_6_code 27 = .ok (.invokestatic 17, 3) := by decide +kernel
theorem D_method_6_code_30 : decode method_6_code 30 = .ok (.if_icmp .eq 5, 3) := by decide +kernel
theorem D_method_6_code_33 : decode method_6_code 33 = .ok (.iconst 0, 1) := by decide +kernel
theorem D_method_6_code_34 : decode method_6_code 34 = .ok (.ireturn, 1) := by decide +kernel
theorem D_method_6_code_35 : decode method_6_code 35 = .ok (.iload 4, 2) := by decide +kernel
theorem D_method_6_code_37 : decode method_6_code 37 = .ok (.iconst 1, 1) := by decide +kernel
theorem D_method_6_code_38 : decode method_6_code 38 = .ok (.if_icmp .le 16, 3) := by decide +kernel
theorem D_method_6_code_4 : decode method_6_code 4 = .ok (.istore 4, 2) := by decide +kernel
theorem D_method_6_code_41 : decode method_6_code 41 = .ok (.lload_n 0, 1) := by decide +kernel
theorem D_method_6_code_42 : decode method_6_code 42 = .ok (.invokestatic 21, 3) := by decide +kernel
theorem D_method_6_code_45 : decode method_6_code 45 = .ok (.lload_n 2, 1) := by decide +kernel
theorem D_method_6_code_46 : decode method_6_code 46 = .ok (.invokestatic 21, 3) := by decide +kernel
theorem D_method_6_code_49 : decode method_6_code 49 = .ok (.if_icmp .eq 5, 3) := by decide +kernel
theorem D_method_6_code_52 : decode method_6_code 52 = .ok (.iconst 0, 1) := by decide +kernel
theorem D_method_6_code_53 : decode method_6_code 53 = .ok (.ireturn, 1) := by decide +kernel
theorem D_method_6_code_54 : decode method_6_code 54 = .ok (.iconst 1, 1) := by decide +kernel
theorem D_method_6_code_55 : decode method_6_code 55 = .ok (.ireturn, 1) := by decide +kernel
theorem D_method_6_code_6 : decode method_6_code 6 = .ok (.iload 4, 2) := by decide +kernel
theorem D_method_6_code_8 : decode method_6_code 8 = .ok (.lload_n 2, 1) := by decide +kernel
theorem D_method_6_code_9 : decode method_6_code 9 = .ok (.invokestatic 11, 3) := by decide +kernel
theorem D_method_5_code_0 : decode method_5_code 0 = .ok (.lload_n 0, 1) := by decide +kernel
theorem D_method_5_code_1 : decode method_5_code 1 = .ok (.invokestatic 11, 3) := by decide +kernel
theorem D_method_5_code_10 : decode method_5_code 10 = .ok (.ifCond .le 10, 3) := by decide +kernel
theorem D_method_5_code_13 : decode method_5_code 13 = .ok (.aload_n 3, 1) := by decide +kernel
theorem D_method_5_code_14 : decode method_5_code 14 = .ok (.iconst 0, 1) := by decide +kernel
theorem D_method_5_code_15 : decode method_5_code 15 = .ok (.lload_n 0, 1) := by decide +kernel
theorem D_method_5_code_16 : decode method_5_code 16 = .ok (.invokestatic 17, 3) := by decide +kernel
theorem D_method_5_code_19 : decode method_5_code 19 = .ok (.castore, 1) := by decide +kernel
theorem D_method_5_code_20 : decode method_5_code 20 = .ok (.iload_n 2, 1) := by decide +kernel
theorem D_method_5_code_21 : decode method_5_code 21 = .ok (.iconst 1, 1) := by decide +kernel
theorem D_method_5_code_22 : decode method_5_code 22 = .ok (.if_icmp .le 10, 3) := by decide +kernel
theorem D_method_5_code_25 : decode method_5_code 25 = .ok (.aload_n 3, 1) := by decide +kernel
theorem D_method_5_code_26 : decode method_5_code 26 = .ok (.iconst 1, 1) := by decide +kernel
theorem D_method_5_code_27 : decode method_5_code 27 = .ok (.lload_n 0, 1) := by decide +kernel
theorem D_method_5_code_28 : decode method_5_code 28 = .ok (.invokestatic 21, 3) := by decide +kernel
theorem D_method_5_code_31 : decode method_5_code 31 = .ok (.castore, 1) := by decide +kernel
theorem D_method_5_code_32 : decode method_5_code 32 = .ok (.new 24, 3) := by decide +kernel
theorem D_method_5_code_35 : decode method_5_code 35 = .ok (.dup, 1) := by decide +kernel
theorem D_method_5_code_36 : decode method_5_code 36 = .ok (.aload_n 3, 1) := by decide +kernel
theorem D_method_5_code_37 : decode method_5_code 37 = .ok (.invokespecial 26, 3) := by decide +kernel
theorem D_method_5_code_4 : decode method_5_code 4 = .ok (.istore_n 2, 1) := by decide +kernel
theorem D_method_5_code_40 : decode method_5_code 40 = .ok (.areturn, 1) := by decide +kernel
theorem D_method_5_code_5 : decode method_5_code 5 = .ok (.iload_n 2, 1) := by decide +kernel
theorem D_method_5_code_6 : decode method_5_code 6 = .ok (.newarray .char, 2) := by decide +kernel
theorem D_method_5_code_8 : decode method_5_code 8 = .ok (.astore_n 3, 1) := by decide +kernel
theorem D_method_5_code_9 : decode method_5_code 9 = .ok (.iload_n 2, 1) := by decide +kernel
theorem D_jdk_42_method_3_code_0 : decode jdk_42_method_3_code 0 = .ok (.aload_n 0, 1) := by decide +kernel
theorem D_jdk_42_method_3_code_1 : decode jdk_42_method_3_code 1 = .ok (.aload_n 1, 1) := by decide +kernel
theorem D_jdk_42_method_3_code_2 : decode jdk_42_method_3_code 2 = .ok (.iconst 0, 1) := by decide +kernel
theorem D_jdk_42_method_3_code_3 : decode jdk_42_method_3_code 3 = .ok (.aload_n 1, 1) := by decide +kernel
theorem D_jdk_42_method_3_code_4 : decode jdk_42_method_3_code 4 = .ok (.arraylength, 1) := by decide +kernel
theorem D_jdk_42_method_3_code_5 : decode jdk_42_method_3_code 5 = .ok (.aconst_null, 1) := by decide +kernel
theorem D_jdk_42_method_3_code_6 : decode jdk_42_method_3_code 6 = .ok (.invokespecial 27, 3) := by decide +kernel
theorem D_jdk_42_method_3_code_9 : decode jdk_42_method_3_code 9 = .ok (.return_, 1) := by decide +kernel
theorem D_jdk_42_method_149_code_0 : decode jdk_42_method_149_code 0 = .ok (.aload_n 0, 1) := by decide +kernel
theorem D_jdk_42_method_149_code_1 : decode jdk_42_method_149_code 1 = .ok (.invokespecial 1, 3) := by decide +kernel
theorem D_jdk_42_method_149_code_11 : decode jdk_42_method_149_code 11 = .ok (.getfield 9, 3) := by decide +kernel
theorem D_jdk_42_method_149_code_14 : decode jdk_42_method_149_code 14 = .ok (.putfield 9, 3) := by decide +kernel
theorem D_jdk_42_method_149_code_17 : decode jdk_42_method_149_code 17 = .ok (.aload_n 0, 1) := by decide +kernel
theorem D_jdk_42_method_149_code_18 : decode jdk_42_method_149_code 18 = .ok (.ldc 7, 2) := by decide +kernel
theorem D_jdk_42_method_149_code_20 : decode jdk_42_method_149_code 20 = .ok (.getfield 15, 3) := by decide +kernel
theorem D_jdk_42_method_149_code_23 : decode jdk_42_method_149_code 23 = .ok (.putfield 15, 3) := by decide +kernel
theorem D_jdk_42_method_149_code_26 : decode jdk_42_method_149_code 26 = .ok (.return_, 1) := by decide +kernel
theorem D_jdk_42_method_149_code_27 : decode jdk_42_method_149_code 27 = .ok (.getstatic 38, 3) := by decide +kernel
theorem D_jdk_42_method_149_code_30 : decode jdk_42_method_149_code 30 = .ok (.ifCond .eq 28, 3) := by decide +kernel
theorem D_jdk_42_method_149_code_33 : decode jdk_42_method_149_code 33 = .ok (.aload_n 1, 1) := by decide +kernel
theorem D_jdk_42_method_149_code_34 : decode jdk_42_method_149_code 34 = .ok (.iload_n 2, 1) := by decide +kernel
theorem D_jdk_42_method_149_code_35 : decode jdk_42_method_149_code 35 = .ok (.iload_n 3, 1) := by decide +kernel
theorem D_jdk_42_method_149_code_36 : decode jdk_42_method_149_code 36 = .ok (.invokestatic 177, 3) := by decide +kernel
theorem D_jdk_42_method_149_code_39 : decode jdk_42_method_149_code 39 = .ok (.astore 5, 2) := by decide +kernel
theorem D_jdk_42_method_149_code_4 : decode jdk_42_method_149_code 4 = .ok (.iload_n 3, 1) := by decide +kernel
theorem D_jdk_42_method_149_code_41 : decode jdk_42_method_149_code 41 = .ok (.aload_n 0, 1) := by decide +kernel
theorem D_jdk_42_method_149_code_42 : decode jdk_42_method_149_code 42 = .ok (.aload 5, 2) := by decide +kernel
theorem D_jdk_42_method_149_code_44 : decode jdk_42_method_149_code 44 = .ok (.iload_n 3, 1) := by decide +kernel
theorem D_jdk_42_method_149_code_45 : decode jdk_42_method_149_code 45 = .ok (.invokestatic 47, 3) := by decide +kernel
theorem D_jdk_42_method_149_code_48 : decode jdk_42_method_149_code 48 = .ok (.putfield 15, 3) := by decide +kernel
theorem D_jdk_42_method_149_code_5 : decode jdk_42_method_149_code 5 = .ok (.ifCond .ne 22, 3) := by decide +kernel
theorem D_jdk_42_method_149_code_51 : decode jdk_42_method_149_code 51 = .ok (.aload_n 0, 1) := by decide +kernel
theorem D_jdk_42_method_149_code_52 : decode jdk_42_method_149_code 52 = .ok (.aload 5, 2) := by decide +kernel
theorem D_jdk_42_method_149_code_54 : decode jdk_42_method_149_code 54 = .ok (.putfield 9, 3) := by decide +kernel
theorem D_jdk_42_method_149_code_57 : decode jdk_42_method_149_code 57 = .ok (.return_, 1) := by decide +kernel
theorem D_jdk_42_method_149_code_8 : decode jdk_42_method_149_code 8 = .ok (.aload_n 0, 1) := by decide +kernel
theorem D_jdk_42_method_149_code_9 : decode jdk_42_method_149_code 9 = .ok (.ldc 7, 2) := by decide +kernel
theorem D_jdk_42_method_66_code_0 : decode jdk_42_method_66_code 0 = .ok (.aload_n 0, 1) := by decide +kernel
theorem D_jdk_42_method_66_code_1 : decode jdk_42_method_66_code 1 = .ok (.aload_n 1, 1) := by decide +kernel
theorem D_jdk_42_method_66_code_11 : decode jdk_42_method_66_code 11 = .ok (.ifCond .eq 43, 3) := by decide +kernel
theorem D_jdk_42_method_66_code_14 : decode jdk_42_method_66_code 14 = .ok (.aload_n 1, 1) := by decide +kernel
theorem D_jdk_42_method_66_code_15 : decode jdk_42_method_66_code 15 = .ok (.checkcast 10, 3) := by decide +kernel
theorem D_jdk_42_method_66_code_18 : decode jdk_42_method_66_code 18 = .ok (.astore_n 2, 1) := by decide +kernel
theorem D_jdk_42_method_66_code_19 : decode jdk_42_method_66_code 19 = .ok (.getstatic 38, 3) := by decide +kernel
theorem D_jdk_42_method_66_code_2 : decode jdk_42_method_66_code 2 = .ok (.if_acmp .ne 5, 3) := by decide +kernel
theorem D_jdk_42_method_66_code_22 : decode jdk_42_method_66_code 22 = .ok (.ifCond .eq 14, 3) := by decide +kernel
theorem D_jdk_42_method_66_code_25 : decode jdk_42_method_66_code 25 = .ok (.aload_n 0, 1) := by decide +kernel
theorem D_jdk_42_method_66_code_26 : decode jdk_42_method_66_code 26 = .ok (.getfield 15, 3) := by decide +kernel
theorem D_jdk_42_method_66_code_29 : decode jdk_42_method_66_code 29 = .ok (.aload_n 2, 1) := by decide +kernel
theorem D_jdk_42_method_66_code_30 : decode jdk_42_method_66_code 30 = .ok (.getfield 15, 3) := by decide +kernel
theorem D_jdk_42_method_66_code_33 : decode jdk_42_method_66_code 33 = .ok (.if_icmp .ne 21, 3) := by decide +kernel
theorem D_jdk_42_method_66_code_36 : decode jdk_42_method_66_code 36 = .ok (.aload_n 0, 1) := by decide +kernel
theorem D_jdk_42_method_66_code_37 : decode jdk_42_method_66_code 37 = .ok (.getfield 9, 3) := by decide +kernel
theorem D_jdk_42_method_66_code_40 : decode jdk_42_method_66_code 40 = .ok (.aload_n 2, 1) := by decide +kernel
theorem D_jdk_42_method_66_code_41 : decode jdk_42_method_66_code 41 = .ok (.getfield 9, 3) := by decide +kernel
theorem D_jdk_42_method_66_code_44 : decode jdk_42_method_66_code 44 = .ok (.invokestatic 541, 3) := by decide +kernel
theorem D_jdk_42_method_66_code_47 : decode jdk_42_method_66_code 47 = .ok (.ifCond .eq 7, 3) := by decide +kernel
theorem D_jdk_42_method_66_code_5 : decode jdk_42_method_66_code 5 = .ok (.iconst 1, 1) := by decide +kernel
theorem D_jdk_42_method_66_code_50 : decode jdk_42_method_66_code 50 = .ok (.iconst 1, 1) := by decide +kernel
theorem D_jdk_42_method_66_code_51 : decode jdk_42_method_66_code 51 = .ok (.goto 4, 3) := by decide +kernel
theorem D_jdk_42_method_66_code_54 : decode jdk_42_method_66_code 54 = .ok (.iconst 0, 1) := by decide +kernel
theorem D_jdk_42_method_66_code_55 : decode jdk_42_method_66_code 55 = .ok (.ireturn, 1) := by decide +kernel
theorem D_jdk_42_method_66_code_6 : decode jdk_42_method_66_code 6 = .ok (.ireturn, 1) := by decide +kernel
theorem D_jdk_42_method_66_code_7 : decode jdk_42_method_66_code 7 = .ok (.aload_n 1, 1) := by decide +kernel
theorem D_jdk_42_method_66_code_8 : decode jdk_42_method_66_code 8 = .ok (.instanceof 10, 3) := by decide +kernel
theorem D_jdk_43_method_13_code_0 : decode jdk_43_method_13_code 0 = .ok (.aload_n 0, 1) := by decide +kernel
theorem D_jdk_43_method_13_code_1 : decode jdk_43_method_13_code 1 = .ok (.arraylength, 1) := by decide +kernel
theorem D_jdk_43_method_13_code_10 : decode jdk_43_method_13_code 10 = .ok (.aload_n 0, 1) := by decide +kernel
theorem D_jdk_43_method_13_code_11 : decode jdk_43_method_13_code 11 = .ok (.arraylength, 1) := by decide +kernel
theorem D_jdk_43_method_13_code_12 : decode jdk_43_method_13_code 12 = .ok (.if_icmp .ge 20, 3) := by decide +kernel
theorem D_jdk_43_method_13_code_15 : decode jdk_43_method_13_code 15 = .ok (.aload_n 0, 1) := by decide +kernel
theorem D_jdk_43_method_13_code_16 : decode jdk_43_method_13_code 16 = .ok (.iload_n 2, 1) := by decide +kernel
theorem D_jdk_43_method_13_code_17 : decode jdk_43_method_13_code 17 = .ok (.baload, 1) := by decide +kernel
theorem D_jdk_43_method_13_code_18 : decode jdk_43_method_13_code 18 = .ok (.aload_n 1, 1) := by decide +kernel
theorem D_jdk_43_method_13_code_19 : decode jdk_43_method_13_code 19 = .ok (.iload_n 2, 1) := by decide +kernel
theorem D_jdk_43_method_13_code_2 : decode jdk_43_method_13_code 2 = .ok (.aload_n 1, 1) := by decide +kernel
theorem D_jdk_43_method_13_code_20 : decode jdk_43_method_13_code 20 = .ok (.baload, 1) := by decide +kernel
theorem D_jdk_43_method_13_code_21 : decode jdk_43_method_13_code 21 = .ok (.if_icmp .eq 5, 3) := by decide +kernel
theorem D_jdk_43_method_13_code_24 : decode jdk_43_method_13_code 24 = .ok (.iconst 0, 1) := by decide +kernel
theorem D_jdk_43_method_13_code_25 : decode jdk_43_method_13_code 25 = .ok (.ireturn, 1) := by decide +kernel
theorem D_jdk_43_method_13_code_26 : decode jdk_43_method_13_code 26 = .ok (.iinc 2 1, 3) := by decide +kernel
theorem D_jdk_43_method_13_code_29 : decode jdk_43_method_13_code 29 = .ok (.goto (-20), 3) := by decide +kernel
theorem D_jdk_43_method_13_code_3 : decode jdk_43_method_13_code 3 = .ok (.arraylength, 1) := by decide +kernel
theorem D_jdk_43_method_13_code_32 : decode jdk_43_method_13_code 32 = .ok (.iconst 1, 1) := by decide +kernel
theorem D_jdk_43_method_13_code_33 : decode jdk_43_method_13_code 33 = .ok (.ireturn, 1) := by decide +kernel
theorem D_jdk_43_method_13_code_34 : decode jdk_43_method_13_code 34 = .ok (.iconst 0, 1) := by decide +kernel
theorem D_jdk_43_method_13_code_35 : decode jdk_43_method_13_code 35 = .ok (.ireturn, 1) := by decide +kernel
theorem D_jdk_43_method_13_code_4 : decode jdk_43_method_13_code 4 = .ok (.if_icmp .ne 30, 3) := by decide +kernel
theorem D_jdk_43_method_13_code_7 : decode jdk_43_method_13_code 7 = .ok (.iconst 0, 1) := by decide +kernel
theorem D_jdk_43_method_13_code_8 : decode jdk_43_method_13_code 8 = .ok (.istore_n 2, 1) := by decide +kernel
theorem D_jdk_43_method_13_code_9 : decode jdk_43_method_13_code 9 = .ok (.iload_n 2, 1) := by decide +kernel
theorem D_jdk_52_method_15_code_0 : decode jdk_52_method_15_code 0 = .ok (.iload_n 1, 1) := by decide +kernel
theorem D_jdk_52_method_15_code_1 : decode jdk_52_method_15_code 1 = .ok (.aload_n 0, 1) := by decide +kernel
theorem D_jdk_52_method_15_code_2 : decode jdk_52_method_15_code 2 = .ok (.arraylength, 1) := by decide +kernel
theorem D_jdk_52_method_15_code_3 : decode jdk_52_method_15_code 3 = .ok (.isub, 1) := by decide +kernel
theorem D_jdk_52_method_15_code_4 : decode jdk_52_method_15_code 4 = .ok (.bipush 31, 2) := by decide +kernel
theorem D_jdk_52_method_15_code_6 : decode jdk_52_method_15_code 6 = .ok (.iushr, 1) := by decide +kernel
theorem D_jdk_52_method_15_code_7 : decode jdk_52_method_15_code 7 = .ok (.i2b, 1) := by decide +kernel
theorem D_jdk_52_method_15_code_8 : decode jdk_52_method_15_code 8 = .ok (.ireturn, 1) := by decide +kernel
theorem D_jdk_52_method_16_code_0 : decode jdk_52_method_16_code 0 = .ok (.iload_n 2, 1) := by decide +kernel
theorem D_jdk_52_method_16_code_1 : decode jdk_52_method_16_code 1 = .ok (.newarray .byte, 2) := by decide +kernel
theorem D_jdk_52_method_16_code_12 : decode jdk_52_method_16_code 12 = .ok (.istore 4, 2) := by decide +kernel
theorem D_jdk_52_method_16_code_14 : decode jdk_52_method_16_code 14 = .ok (.iload 4, 2) := by decide +kernel
theorem D_jdk_52_method_16_code_16 : decode jdk_52_method_16_code 16 = .ok (.iload_n 2, 1) := by decide +kernel
theorem D_jdk_52_method_16_code_17 : decode jdk_52_method_16_code 17 = .ok (.if_icmp .eq 40, 3) := by decide +kernel
theorem D_jdk_52_method_16_code_3 : decode jdk_52_method_16_code 3 = .ok (.astore_n 3, 1) := by decide +kernel
theorem D_jdk_52_method_16_code_4 : decode jdk_52_method_16_code 4 = .ok (.aload_n 0, 1) := by decide +kernel
theorem D_jdk_52_method_16_code_5 : decode jdk_52_method_16_code 5 = .ok (.iload_n 1, 1) := by decide +kernel
theorem D_jdk_52_method_16_code_57 : decode jdk_52_method_16_code 57 = .ok (.aload_n 3, 1) := by decide +kernel
theorem D_jdk_52_method_16_code_58 : decode jdk_52_method_16_code 58 = .ok (.areturn, 1) := by decide +kernel
theorem D_jdk_52_method_16_code_6 : decode jdk_52_method_16_code 6 = .ok (.aload_n 3, 1) := by decide +kernel
theorem D_jdk_52_method_16_code_7 : decode jdk_52_method_16_code 7 = .ok (.iconst 0, 1) := by decide +kernel
theorem D_jdk_52_method_16_code_8 : decode jdk_52_method_16_code 8 = .ok (.iload_n 2, 1) := by decide +kernel
theorem D_jdk_52_method_16_code_9 : decode jdk_52_method_16_code 9 = .ok (.invokestatic 115, 3) := by decide +kernel
theorem D_jdk_52_method_21_code_0 : decode jdk_52_method_21_code 0 = .ok (.iconst 0, 1) := by decide +kernel
theorem D_jdk_52_method_21_code_1 : decode jdk_52_method_21_code 1 = .ok (.istore 5, 2) := by decide +kernel
theorem D_jdk_52_method_21_code_10 : decode jdk_52_method_21_code 10 = .ok (.aload_n 0, 1) := by decide +kernel
theorem D_jdk_52_method_21_code_11 : decode jdk_52_method_21_code 11 = .ok (.iload_n 1, 1) := by decide +kernel
theorem D_jdk_52_method_21_code_12 : decode jdk_52_method_21_code 12 = .ok (.caload, 1) := by decide +kernel
theorem D_jdk_52_method_21_code_13 : decode jdk_52_method_21_code 13 = .ok (.istore 6, 2) := by decide +kernel
theorem D_jdk_52_method_21_code_15 : decode jdk_52_method_21_code 15 = .ok (.iload 6, 2) := by decide +kernel
theorem D_jdk_52_method_21_code_17 : decode jdk_52_method_21_code 17 = .ok (.sipush 255, 3) := by decide +kernel
theorem D_jdk_52_method_21_code_20 : decode jdk_52_method_21_code 20 = .ok (.if_icmp .le 6, 3) := by decide +kernel
theorem D_jdk_52_method_21_code_26 : decode jdk_52_method_21_code 26 = .ok (.aload_n 2, 1) := by decide +kernel
theorem D_jdk_52_method_21_code_27 : decode jdk_52_method_21_code 27 = .ok (.iload_n 3, 1) := by decide +kernel
theorem D_jdk_52_method_21_code_28 : decode jdk_52_method_21_code 28 = .ok (.iload 6, 2) := by decide +kernel
theorem D_jdk_52_method_21_code_3 : decode jdk_52_method_21_code 3 = .ok (.iload 5, 2) := by decide +kernel
theorem D_jdk_52_method_21_code_30 : decode jdk_52_method_21_code 30 = .ok (.i2b, 1) := by decide +kernel
theorem D_jdk_52_method_21_code_31 : decode jdk_52_method_21_code 31 = .ok (.bastore, 1) := by decide +kernel
theorem D_jdk_52_method_21_code_32 : decode jdk_52_method_21_code 32 = .ok (.iinc 1 1, 3) := by decide +kernel
theorem D_jdk_52_method_21_code_35 : decode jdk_52_method_21_code 35 = .ok (.iinc 3 1, 3) := by decide +kernel
theorem D_jdk_52_method_21_code_38 : decode jdk_52_method_21_code 38 = .ok (.iinc 5 1, 3) := by decide +kernel
theorem D_jdk_52_method_21_code_41 : decode jdk_52_method_21_code 41 = .ok (.goto (-38), 3) := by decide +kernel
theorem D_jdk_52_method_21_code_44 : decode jdk_52_method_21_code 44 = .ok (.iload 4, 2) := by decide +kernel
theorem D_jdk_52_method_21_code_46 : decode jdk_52_method_21_code 46 = .ok (.ireturn, 1) := by decide +kernel
theorem D_jdk_52_method_21_code_5 : decode jdk_52_method_21_code 5 = .ok (.iload 4, 2) := by decide +kernel
theorem D_jdk_52_method_21_code_7 : decode jdk_52_method_21_code 7 = .ok (.if_icmp .ge 37, 3) := by decide +kernel
theorem D_jdk_31_method_11_code_0 : decode jdk_31_method_11_code 0 = .ok (.aload_n 0, 1) := by decide +kernel
theorem D_jdk_31_method_11_code_1 : decode jdk_31_method_11_code 1 = .ok (.ifnonnull 12, 3) := by decide +kernel
theorem D_jdk_31_method_11_code_13 : decode jdk_31_method_11_code 13 = .ok (.aload_n 0, 1) := by decide +kernel
theorem D_jdk_31_method_11_code_14 : decode jdk_31_method_11_code 14 = .ok (.areturn, 1) := by decide +kernel
theorem pd_0 : parseMethodDescriptor "([CI[BII)I" = some ⟨[(.array .char), .int, (.array .byte), .int, .int], some .int⟩ := by decide +kernel
theorem pd_1 : parseMethodDescriptor "([CII)[B" = some ⟨[(.array .char), .int, .int], some (.array .byte)⟩ := by decide +kernel
theorem pd_2 : parseMethodDescriptor "([BI)B" = some ⟨[(.array .byte), .int], some .byte⟩ := by decide +kernel
theorem pd_3 : parseMethodDescriptor "([CIILjava/lang/Void;)V" = some ⟨[(.array .char), .int, .int, (.object "java/lang/Void")], none⟩ := by decide +kernel
theorem pd_4 : parseMethodDescriptor "([B[B)Z" = some ⟨[(.array .byte), (.array .byte)], some .boolean⟩ := by decide +kernel
theorem pd_5 : parseMethodDescriptor "(J)I" = some ⟨[.long], some .int⟩ := by decide +kernel
theorem pd_6 : parseMethodDescriptor "([C)V" = some ⟨[(.array .char)], none⟩ := by decide +kernel
theorem pd_7 : parseMethodDescriptor "(J)C" = some ⟨[.long], some .char⟩ := by decide +kernel
theorem pd_8 : parseMethodDescriptor "(Ljava/lang/Object;Ljava/lang/String;)Ljava/lang/Object;" = some ⟨[(.object "java/lang/Object"), (.object "java/lang/String")], some (.object "java/lang/Object")⟩ := by decide +kernel
theorem pd_9 : parseMethodDescriptor "(Ljava/lang/Object;)Z" = some ⟨[(.object "java/lang/Object")], some .boolean⟩ := by decide +kernel
theorem pd_10 : parseMethodDescriptor "(J)Ljava/lang/String;" = some ⟨[.long], some (.object "java/lang/String")⟩ := by decide +kernel
theorem pd_11 : parseMethodDescriptor "(Ljava/lang/String;Ljava/lang/String;Ljava/lang/String;Z)V" = some ⟨[(.object "java/lang/String"), (.object "java/lang/String"), (.object "java/lang/String"), .boolean], none⟩ := by decide +kernel
theorem pd_12 : parseMethodDescriptor "(JJ)Z" = some ⟨[.long, .long], some .boolean⟩ := by decide +kernel
theorem pn_0 : plainName "java/lang/StringUTF16" = true := by first | (simp [plainName, overriddenIn]; done) | decide +kernel
theorem pn_1 : plainName "java/lang/String" = true := by first | (simp [plainName, overriddenIn]; done) | decide +kernel
theorem pn_2 : plainName "java/lang/StringLatin1" = true := by first | (simp [plainName, overriddenIn]; done) | decide +kernel
theorem pn_3 : plainName "com/example/kunci/kunci/PermissionEqualsPinLaw" = true := by first | (simp [plainName, overriddenIn]; done) | decide +kernel
theorem pn_4 : plainName "java/util/Objects" = true := by first | (simp [plainName, overriddenIn]; done) | decide +kernel
theorem pn_5 : plainName "com/example/kunci/kunci/Permission" = true := by first | (simp [plainName, overriddenIn]; done) | decide +kernel
set_option maxRecDepth 65536 in
set_option maxHeartbeats 40000000 in
theorem c_compress5 {l : Launch} {Z : State} {a0 : Array Value} {EL : List (String × Nat)} {nw : Prop} {zc : Int32} (g : GH Z a0 EL zc) (h : Heap) (b : Addr) (kb : ClassId) (cs : List Int32) (d : Addr) (kd : ClassId) (hcs : ∀ c ∈ cs, 0 ≤ c.toInt ∧ c.toInt ≤ 255) (hl : cs.length ≤ 4000) (hne : ¬ b = d) (gd : Z.heap.size ≤ d) (e0 : Ar Z h b kb .char (cs.map Value.int)) (e1 : Ar Z h d kd .byte ((List.replicate cs.length (0 : Int32)).map Value.int)) (zz : Z.heap.size ≤ h.size) :
    Ct l Z EL nw [] ⟨"java/lang/StringUTF16", "compress", "([CI[BII)I"⟩ jdk_52_method_21_code 7 (some .int) ({ frames := 0, cells := 0, slots := 0, locals := 0 } : Room) #[(.ref b), (.int (0 : Int32)), (.ref d), (.int (0 : Int32)), (.int (cs.length.toInt32))] h [d] (fun res vm' h' => res = some (.int (cs.length.toInt32)) ∧ Keep h h' [d] ∧ Ar Z h' d kd .byte ((cs.map by8).map Value.int) ∧ Safe Z EL vm' h' d) := by
  have ye0 := ltN e0.lt
  have ye1 := ltN e1.lt
  refine Ct.of_go (a0 := a0) g.2.1 pn_0 (L0 := #[.val (.ref b), .val (.int (0 : Int32)), .val (.ref d), .val (.int (0 : Int32)), .val (.int (cs.length.toInt32)), .unset, .unset]) (fun m => by first | (simp [entryFrame, mkF, argsToLocals, Value.category, own_rep]; done) | rfl) ?_
  intro p e s m below meth c hown hby hml hret hnm hZ hC hO hsf
  refine Go.iconst (hb hby D_jdk_52_method_21_code_0) (pc' := 1) rfl (z := (0 : Int32)) rfl ?_
  refine Go.istore (hb hby D_jdk_52_method_21_code_1) (pc' := 3) rfl (L' := #[.val (.ref b), .val (.int (0 : Int32)), .val (.ref d), .val (.int (0 : Int32)), .val (.int (cs.length.toInt32)), .val (.int (0 : Int32)), .unset]) rfl ?_
  refine Go.loop (Inv := fun r vmI hI kI nI LI => vmI = s.vm ∧ kI = 0 ∧ nI = 0 ∧ ∃ (i : Nat) (s6 : Slot), i + r = cs.length ∧ (s6 = .unset ∨ ∃ w, s6 = .val (.int w)) ∧ LI = #[.val (.ref b), .val (.int i.toInt32), .val (.ref d), .val (.int i.toInt32), .val (.int (cs.length.toInt32)), .val (.int i.toInt32), s6] ∧ Keep h hI [d] ∧ Ar Z hI d kd .byte (((cs.map by8).take i ++ List.replicate ((cs.map by8).length - i) 0).map Value.int) ∧ Safe Z EL s.vm hI d) ?_ cs.length _ _ _ _ _ ⟨rfl, rfl, rfl, 0, .unset, Nat.zero_add _, Or.inl rfl, rfl, Keep.refl _ _, by simpa using e1, hsf _ (by simp)⟩
  rintro r vmI hI kI nI LI ⟨rfl, rfl, rfl, i, s6, hir, hs6, rfl, KI, AI, SI⟩ ih
  have yI := KI.1
  have hi31 : i < 2 ^ 31 := by omega
  have hn31 : cs.length < 2 ^ 31 := by omega
  rcases hs6 with rfl | ⟨w6, rfl⟩
  · refine Go.iload (hb hby D_jdk_52_method_21_code_3) (pc' := 5) rfl rfl ?_
    refine Go.iload (hb hby D_jdk_52_method_21_code_5) (pc' := 7) rfl rfl ?_
    refine Go.icmp (hb hby D_jdk_52_method_21_code_7) (by decide) (pc' := 44) (by decide) (pc2 := 10) rfl (fun (q7 : ¬ i.toInt32 < (cs.length.toInt32)) => ?_) (fun (q7 : ¬ (¬ i.toInt32 < (cs.length.toInt32))) => ?_)
    · have hi : ¬ i < cs.length := fun z => q7 ((lt32 hi31 hn31).mpr z)
      have hi' : i = cs.length := by omega
      subst hi'
      have AI' : Ar Z hI d kd .byte ((cs.map by8).map Value.int) := by have q := AI; rw [show (cs.map by8).take cs.length ++ List.replicate ((cs.map by8).length - cs.length) 0 = cs.map by8 by simp [List.take_of_length_le]] at q; exact q
      refine Go.iload (hb hby D_jdk_52_method_21_code_44) (pc' := 46) rfl rfl ?_
      refine Go.retI hret (hb hby D_jdk_52_method_21_code_46) (by decide) (by decide) ?_
      intro vmR CR
      exact ⟨(by first | rfl | (simp only [own_nar]; done) | (congr 2; done)), ((Keep.refl h [d]).trans KI (allS (by first | (left; simp; done) | (right; omega)) all0)), AI', (Safe.to CR (by omega) SI)⟩
    · refine Go.aloadN (hb hby D_jdk_52_method_21_code_10) (pc' := 11) rfl rfl rfl ?_
      refine Go.iloadN (hb hby D_jdk_52_method_21_code_11) (pc' := 12) rfl rfl ?_
      have f1 : Ar Z hI b kb .char (cs.map Value.int) := (e0.keep KI (ninS hne nin0))
      have hi : i < cs.length := (lt32 hi31 hn31).mp (Classical.not_not.mp q7)
      obtain ⟨cx, hc⟩ : ∃ cx, cs[i] = cx := ⟨_, rfl⟩
      have hcb := hcs cx (hc ▸ List.getElem_mem hi)
      refine Go.caload f1 (v := (.int cx)) (nneg32 hi31) (by rw [clamp_nat hi31]; simp [hi, hc]) (hb hby D_jdk_52_method_21_code_12) (pc' := 13) rfl ?_
      refine Go.istore (hb hby D_jdk_52_method_21_code_13) (pc' := 15) rfl (L' := #[.val (.ref b), .val (.int i.toInt32), .val (.ref d), .val (.int i.toInt32), .val (.int (cs.length.toInt32)), .val (.int i.toInt32), .val (.int cx)]) rfl ?_
      refine Go.iload (hb hby D_jdk_52_method_21_code_15) (pc' := 17) rfl rfl ?_
      refine Go.sipush (hb hby D_jdk_52_method_21_code_17) (pc' := 20) rfl (z := (255 : Int32)) rfl ?_
      refine Go.icmpY (hb hby D_jdk_52_method_21_code_20) (by decide) (pc' := 26) (by decide) (by show ¬ (255 : Int32) < cx; rw [Int32.lt_iff_toInt_lt]; have : (255 : Int32).toInt = 255 := rfl; omega) ?_
      refine Go.aloadN (hb hby D_jdk_52_method_21_code_26) (pc' := 27) rfl rfl rfl ?_
      refine Go.iloadN (hb hby D_jdk_52_method_21_code_27) (pc' := 28) rfl rfl ?_
      refine Go.iload (hb hby D_jdk_52_method_21_code_28) (pc' := 30) rfl rfl ?_
      refine Go.i2b (hb hby D_jdk_52_method_21_code_30) (pc' := 31) rfl ?_
      refine Go.bastore AI (nneg32 hi31) (by rw [clamp_nat hi31]; simp; omega) SI (by omega) (hb hby D_jdk_52_method_21_code_31) (pc' := 32) rfl ?_
      intro h2 A3 z4 K5 S6 C7
      have A3 : Ar Z h2 d kd .byte ((((cs.map by8).take i ++ List.replicate ((cs.map by8).length - i) 0).map Value.int).set i.toInt32.toNatClampNeg (.int (nar .byte cx.toInt8.toInt32))) := A3
      refine Go.iinc (hb hby D_jdk_52_method_21_code_32) (pc' := 35) rfl rfl (L' := #[.val (.ref b), .val (.int (i.toInt32 + 1)), .val (.ref d), .val (.int i.toInt32), .val (.int (cs.length.toInt32)), .val (.int i.toInt32), .val (.int cx)]) rfl ?_
      refine Go.iinc (hb hby D_jdk_52_method_21_code_35) (pc' := 38) rfl rfl (L' := #[.val (.ref b), .val (.int (i.toInt32 + 1)), .val (.ref d), .val (.int (i.toInt32 + 1)), .val (.int (cs.length.toInt32)), .val (.int i.toInt32), .val (.int cx)]) rfl ?_
      refine Go.iinc (hb hby D_jdk_52_method_21_code_38) (pc' := 41) rfl rfl (L' := #[.val (.ref b), .val (.int (i.toInt32 + 1)), .val (.ref d), .val (.int (i.toInt32 + 1)), .val (.int (cs.length.toInt32)), .val (.int (i.toInt32 + 1)), .val (.int cx)]) rfl ?_
      refine Go.goto (hb hby D_jdk_52_method_21_code_41) (by decide) (pc' := 3) (by decide) ?_
      have hset := fill_set (cs.map by8) 0 i (by simpa using hi)
      rw [succ32 i]
      refine ih (r - 1) _ _ _ _ _ (by omega) ⟨rfl, rfl, rfl, i + 1, _, by omega, Or.inr ⟨_, rfl⟩, rfl, Keep.tr KI K5, ?_, S6⟩
      rw [nar_by8, clamp_nat hi31] at A3
      have e2 : (cs.map by8)[i]'(by simpa using hi) = by8 cx := by simp [hc]
      rw [← hset, e2, List.map_set]; exact A3
  · refine Go.iload (hb hby D_jdk_52_method_21_code_3) (pc' := 5) rfl rfl ?_
    refine Go.iload (hb hby D_jdk_52_method_21_code_5) (pc' := 7) rfl rfl ?_
    refine Go.icmp (hb hby D_jdk_52_method_21_code_7) (by decide) (pc' := 44) (by decide) (pc2 := 10) rfl (fun (q7 : ¬ i.toInt32 < (cs.length.toInt32)) => ?_) (fun (q7 : ¬ (¬ i.toInt32 < (cs.length.toInt32))) => ?_)
    · have hi : ¬ i < cs.length := fun z => q7 ((lt32 hi31 hn31).mpr z)
      have hi' : i = cs.length := by omega
      subst hi'
      have AI' : Ar Z hI d kd .byte ((cs.map by8).map Value.int) := by have q := AI; rw [show (cs.map by8).take cs.length ++ List.replicate ((cs.map by8).length - cs.length) 0 = cs.map by8 by simp [List.take_of_length_le]] at q; exact q
      refine Go.iload (hb hby D_jdk_52_method_21_code_44) (pc' := 46) rfl rfl ?_
      refine Go.retI hret (hb hby D_jdk_52_method_21_code_46) (by decide) (by decide) ?_
      intro vmR CR
      exact ⟨(by first | rfl | (simp only [own_nar]; done) | (congr 2; done)), ((Keep.refl h [d]).trans KI (allS (by first | (left; simp; done) | (right; omega)) all0)), AI', (Safe.to CR (by omega) SI)⟩
    · refine Go.aloadN (hb hby D_jdk_52_method_21_code_10) (pc' := 11) rfl rfl rfl ?_
      refine Go.iloadN (hb hby D_jdk_52_method_21_code_11) (pc' := 12) rfl rfl ?_
      have f8 : Ar Z hI b kb .char (cs.map Value.int) := (e0.keep KI (ninS hne nin0))
      have hi : i < cs.length := (lt32 hi31 hn31).mp (Classical.not_not.mp q7)
      obtain ⟨cx, hc⟩ : ∃ cx, cs[i] = cx := ⟨_, rfl⟩
      have hcb := hcs cx (hc ▸ List.getElem_mem hi)
      refine Go.caload f8 (v := (.int cx)) (nneg32 hi31) (by rw [clamp_nat hi31]; simp [hi, hc]) (hb hby D_jdk_52_method_21_code_12) (pc' := 13) rfl ?_
      refine Go.istore (hb hby D_jdk_52_method_21_code_13) (pc' := 15) rfl (L' := #[.val (.ref b), .val (.int i.toInt32), .val (.ref d), .val (.int i.toInt32), .val (.int (cs.length.toInt32)), .val (.int i.toInt32), .val (.int cx)]) rfl ?_
      refine Go.iload (hb hby D_jdk_52_method_21_code_15) (pc' := 17) rfl rfl ?_
      refine Go.sipush (hb hby D_jdk_52_method_21_code_17) (pc' := 20) rfl (z := (255 : Int32)) rfl ?_
      refine Go.icmpY (hb hby D_jdk_52_method_21_code_20) (by decide) (pc' := 26) (by decide) (by show ¬ (255 : Int32) < cx; rw [Int32.lt_iff_toInt_lt]; have : (255 : Int32).toInt = 255 := rfl; omega) ?_
      refine Go.aloadN (hb hby D_jdk_52_method_21_code_26) (pc' := 27) rfl rfl rfl ?_
      refine Go.iloadN (hb hby D_jdk_52_method_21_code_27) (pc' := 28) rfl rfl ?_
      refine Go.iload (hb hby D_jdk_52_method_21_code_28) (pc' := 30) rfl rfl ?_
      refine Go.i2b (hb hby D_jdk_52_method_21_code_30) (pc' := 31) rfl ?_
      refine Go.bastore AI (nneg32 hi31) (by rw [clamp_nat hi31]; simp; omega) SI (by omega) (hb hby D_jdk_52_method_21_code_31) (pc' := 32) rfl ?_
      intro h9 A10 z11 K12 S13 C14
      have A10 : Ar Z h9 d kd .byte ((((cs.map by8).take i ++ List.replicate ((cs.map by8).length - i) 0).map Value.int).set i.toInt32.toNatClampNeg (.int (nar .byte cx.toInt8.toInt32))) := A10
      refine Go.iinc (hb hby D_jdk_52_method_21_code_32) (pc' := 35) rfl rfl (L' := #[.val (.ref b), .val (.int (i.toInt32 + 1)), .val (.ref d), .val (.int i.toInt32), .val (.int (cs.length.toInt32)), .val (.int i.toInt32), .val (.int cx)]) rfl ?_
      refine Go.iinc (hb hby D_jdk_52_method_21_code_35) (pc' := 38) rfl rfl (L' := #[.val (.ref b), .val (.int (i.toInt32 + 1)), .val (.ref d), .val (.int (i.toInt32 + 1)), .val (.int (cs.length.toInt32)), .val (.int i.toInt32), .val (.int cx)]) rfl ?_
      refine Go.iinc (hb hby D_jdk_52_method_21_code_38) (pc' := 41) rfl rfl (L' := #[.val (.ref b), .val (.int (i.toInt32 + 1)), .val (.ref d), .val (.int (i.toInt32 + 1)), .val (.int (cs.length.toInt32)), .val (.int (i.toInt32 + 1)), .val (.int cx)]) rfl ?_
      refine Go.goto (hb hby D_jdk_52_method_21_code_41) (by decide) (pc' := 3) (by decide) ?_
      have hset := fill_set (cs.map by8) 0 i (by simpa using hi)
      rw [succ32 i]
      refine ih (r - 1) _ _ _ _ _ (by omega) ⟨rfl, rfl, rfl, i + 1, _, by omega, Or.inr ⟨_, rfl⟩, rfl, Keep.tr KI K12, ?_, S13⟩
      rw [nar_by8, clamp_nat hi31] at A10
      have e2 : (cs.map by8)[i]'(by simpa using hi) = by8 cx := by simp [hc]
      rw [← hset, e2, List.map_set]; exact A10
set_option maxRecDepth 65536 in
set_option maxHeartbeats 40000000 in
theorem c_compress3 {l : Launch} {Z : State} {a0 : Array Value} {EL : List (String × Nat)} {nw : Prop} {zc : Int32} (g : GH Z a0 EL zc) (h : Heap) (b : Addr) (kb : ClassId) (cs : List Int32) (hcs : ∀ c ∈ cs, 0 ≤ c.toInt ∧ c.toInt ≤ 255) (hl : cs.length ≤ 16) (e0 : Ar Z h b kb .char (cs.map Value.int)) (zz : Z.heap.size ≤ h.size) :
    Ct l Z EL nw [] ⟨"java/lang/StringUTF16", "compress", "([CII)[B"⟩ jdk_52_method_16_code 6 (some (.array .byte)) ({ frames := 1, cells := 1, slots := 16, locals := 18 } : Room) #[(.ref b), (.int (0 : Int32)), (.int (cs.length.toInt32))] h [] (fun res vm' h' => ∃ d : Addr, ∃ kd : ClassId, res = some (.ref d) ∧ Keep h h' [] ∧ h.size ≤ d ∧ Ar Z h' d kd .byte ((cs.map by8).map Value.int) ∧ Safe Z EL vm' h' d) := by
  have ye0 := ltN e0.lt
  refine Ct.of_go (a0 := a0) g.2.1 pn_0 (L0 := #[.val (.ref b), .val (.int (0 : Int32)), .val (.int (cs.length.toInt32)), .unset, .unset, .unset]) (fun m => by first | (simp [entryFrame, mkF, argsToLocals, Value.category, own_rep]; done) | rfl) ?_
  intro p e s m below meth c hown hby hml hret hnm hZ hC hO hsf
  refine Go.iloadN (hb hby D_jdk_52_method_16_code_0) (pc' := 1) rfl rfl ?_
  refine Go.newP (ty := .byte) rfl (wd_27 g) (hb hby D_jdk_52_method_16_code_1) (pc' := 3) rfl (nneg32 (by omega)) (cap := 16) (by rw [clamp_nat (by omega)]; exact hl) (by decide) (by decide) (by decide) ?_
  intro h1 a2 k3 g4 l5 E6 A7 S8 C9
  have KE6 := Keep.ofExt E6; have zE6 := E6.1
  have A7 : Ar Z h1 a2 k3 .byte (List.replicate (cs.length.toInt32).toNatClampNeg (.int 0)) := A7
  have A10 : Ar Z h1 a2 k3 .byte ((List.replicate cs.length (0 : Int32)).map Value.int) := by rw [clamp_nat (by omega)] at A7; rw [List.map_replicate]; exact A7
  refine Go.astoreN (hb hby D_jdk_52_method_16_code_3) (pc' := 4) rfl rfl (L' := #[.val (.ref b), .val (.int (0 : Int32)), .val (.int (cs.length.toInt32)), .val (.ref a2), .unset, .unset]) rfl ?_
  refine Go.aloadN (hb hby D_jdk_52_method_16_code_4) (pc' := 5) rfl rfl rfl ?_
  refine Go.iloadN (hb hby D_jdk_52_method_16_code_5) (pc' := 6) rfl rfl ?_
  refine Go.aloadN (hb hby D_jdk_52_method_16_code_6) (pc' := 7) rfl rfl rfl ?_
  refine Go.iconst (hb hby D_jdk_52_method_16_code_7) (pc' := 8) rfl (z := (0 : Int32)) rfl ?_
  refine Go.iloadN (hb hby D_jdk_52_method_16_code_8) (pc' := 9) rfl rfl ?_
  have f11 : Ar Z h1 b kb .char (cs.map Value.int) := (e0.keep KE6 nin0)
  refine Go.callS (c_compress5 (l := l) (nw := nw) g h1 b kb cs a2 k3 hcs (by omega) (neN (by omega)) (by omega) f11 A10 (by omega)) hown (wd_43 g) (wd_44 g) (wd_45 g) (wd_41 g) (by decide) (argsL := [(.ref b), (.int (0 : Int32)), (.ref a2), (.int (0 : Int32)), (.int (cs.length.toInt32))]) (lenOf pd_0 rfl) rfl (by rw [hml]; rfl) (W := 0) rfl (hb hby D_jdk_52_method_16_code_9) (pc' := 12) rfl (by decide) (by decide) (by decide) (by decide) (allS ⟨by omega, S8⟩ all0) ?_
  rintro _ vm12 h12 ⟨rfl, K12, o12_0, o12_1⟩ C12
  have z12 := K12.1
  have yo12_0 := ltN o12_0.lt
  -- pc 12
  refine Go.istore (hb hby D_jdk_52_method_16_code_12) (pc' := 14) rfl (L' := #[.val (.ref b), .val (.int (0 : Int32)), .val (.int (cs.length.toInt32)), .val (.ref a2), .val (.int (cs.length.toInt32)), .unset]) rfl ?_
  refine Go.iload (hb hby D_jdk_52_method_16_code_14) (pc' := 16) rfl rfl ?_
  refine Go.iloadN (hb hby D_jdk_52_method_16_code_16) (pc' := 17) rfl rfl ?_
  refine Go.icmpY (hb hby D_jdk_52_method_16_code_17) (by decide) (pc' := 57) (by decide) rfl ?_
  refine Go.aloadN (hb hby D_jdk_52_method_16_code_57) (pc' := 58) rfl rfl rfl ?_
  refine Go.retA hret rfl rfl (hb hby D_jdk_52_method_16_code_58) (by decide) (by decide) ?_
  intro vmR CR
  exact ⟨a2, k3, (by first | rfl | (simp only [own_nar]; done) | (congr 2; done)), (((Keep.refl h []).trans KE6 all0).trans K12 (allS (by first | (left; simp; done) | (right; omega)) all0)), (by omega), o12_0, (Safe.to CR (by omega) o12_1)⟩
set_option maxRecDepth 65536 in
set_option maxHeartbeats 40000000 in
theorem c_coderOf {l : Launch} {Z : State} {a0 : Array Value} {EL : List (String × Nat)} {nw : Prop} {zc : Int32} (g : GH Z a0 EL zc) (h : Heap) (d : Addr) (kd : ClassId) (bs : List Int32) (z : Int32) (hz : bs.length.toInt32 = z) (e0 : Ar Z h d kd .byte (bs.map Value.int)) (zz : Z.heap.size ≤ h.size) :
    Ct l Z EL nw [] ⟨"java/lang/StringUTF16", "coderFromArrayLen", "([BI)B"⟩ jdk_52_method_15_code 2 (some .byte) ({ frames := 0, cells := 0, slots := 0, locals := 0 } : Room) #[(.ref d), (.int z)] h [] (fun res vm' h' => res = some (.int (0 : Int32)) ∧ Keep h h' []) := by
  have ye0 := ltN e0.lt
  refine Ct.of_go (a0 := a0) g.2.1 pn_0 (L0 := #[.val (.ref d), .val (.int z)]) (fun m => by first | (simp [entryFrame, mkF, argsToLocals, Value.category, own_rep]; done) | rfl) ?_
  intro p e s m below meth c hown hby hml hret hnm hZ hC hO hsf
  refine Go.iloadN (hb hby D_jdk_52_method_15_code_0) (pc' := 1) rfl rfl ?_
  refine Go.aloadN (hb hby D_jdk_52_method_15_code_1) (pc' := 2) rfl rfl rfl ?_
  refine Go.alen e0 (z := (bs.length.toInt32)) (by rw [List.length_map]) (hb hby D_jdk_52_method_15_code_2) (pc' := 3) rfl ?_
  refine Go.isub (hb hby D_jdk_52_method_15_code_3) (pc' := 4) rfl ?_
  refine Go.bipush (hb hby D_jdk_52_method_15_code_4) (pc' := 6) rfl (z := (31 : Int32)) rfl ?_
  refine Go.iushr (hb hby D_jdk_52_method_15_code_6) (pc' := 7) rfl ?_
  refine Go.i2b (hb hby D_jdk_52_method_15_code_7) (pc' := 8) rfl ?_
  refine Go.retN (t := .byte) hret (by simp) (hb hby D_jdk_52_method_15_code_8) (by decide) (by decide) ?_
  intro vmR CR
  exact ⟨(by rw [hz, sub0]; rfl), (Keep.refl h [])⟩
set_option maxRecDepth 65536 in
set_option maxHeartbeats 40000000 in
theorem c_strinit4 {l : Launch} {Z : State} {a0 : Array Value} {EL : List (String × Nat)} {nw : Prop} {zc : Int32} (g : GH Z a0 EL zc) (h : Heap) (a : Addr) (b : Addr) (kb : ClassId) (cs : List Int32) (hcs : ∀ c ∈ cs, 0 ≤ c.toInt ∧ c.toInt ≤ 255) (h0 : 0 < cs.length) (hl : cs.length ≤ 16) (ga : Z.heap.size ≤ a) (e0 : Exa Z h a "java/lang/String") (e1 : Fld Z h a "java/lang/String" "coder" "B" (.int 0)) (e2 : Fld Z h a "java/lang/String" "value" "[B" .null) (e3 : Ar Z h b kb .char (cs.map Value.int)) (zz : Z.heap.size ≤ h.size) :
    Ct l Z EL nw [] ⟨"java/lang/String", "<init>", "([CIILjava/lang/Void;)V"⟩ jdk_42_method_149_code 6 none ({ frames := 2, cells := 1, slots := 16, locals := 35 } : Room) #[(.ref a), (.ref b), (.int (0 : Int32)), (.int (cs.length.toInt32)), .null] h [a] (fun res vm' h' => ∃ d : Addr, ∃ kd : ClassId, res = none ∧ Keep h h' [a] ∧ h.size ≤ d ∧ St Z h' a d kd (cs.map by8)) := by
  have ye0 := ltN e0.lt
  have ye1 := ltN e1.lt
  have ye2 := ltN e2.lt
  have ye3 := ltN e3.lt
  refine Ct.of_go (a0 := a0) g.2.1 pn_1 (L0 := #[.val (.ref a), .val (.ref b), .val (.int (0 : Int32)), .val (.int (cs.length.toInt32)), .val .null, .unset]) (fun m => by first | (simp [entryFrame, mkF, argsToLocals, Value.category, own_rep]; done) | rfl) ?_
  intro p e s m below meth c hown hby hml hret hnm hZ hC hO hsf
  refine Go.aloadN (hb hby D_jdk_42_method_149_code_0) (pc' := 1) rfl rfl rfl ?_
  refine Go.initO hown (wd_23 g) (wd_24 g) (wd_25 g) (by rw [hml]; rfl) (hb hby D_jdk_42_method_149_code_1) (by decide) (W := 0) rfl (by decide) (pc' := 4) rfl ?_
  refine Go.iloadN (hb hby D_jdk_42_method_149_code_4) (pc' := 5) rfl rfl ?_
  refine Go.ifY (hb hby D_jdk_42_method_149_code_5) (by decide) (pc' := 27) (by decide) (nz32 (by omega) h0) ?_
  refine Go.getS hown (wd_38 g) Via.refl g.2.2.2.2.1 (hb hby D_jdk_42_method_149_code_27) (pc' := 30) rfl ?_
  refine Go.ifN (hb hby D_jdk_42_method_149_code_30) (pc' := 33) rfl g.2.2.2.2.2.1 ?_
  refine Go.aloadN (hb hby D_jdk_42_method_149_code_33) (pc' := 34) rfl rfl rfl ?_
  refine Go.iloadN (hb hby D_jdk_42_method_149_code_34) (pc' := 35) rfl rfl ?_
  refine Go.iloadN (hb hby D_jdk_42_method_149_code_35) (pc' := 36) rfl rfl ?_
  refine Go.callS (c_compress3 (l := l) (nw := nw) g h b kb cs hcs hl e3 (by omega)) hown (wd_39 g) (wd_40 g) (wd_42 g) (wd_41 g) (by decide) (argsL := [(.ref b), (.int (0 : Int32)), (.int (cs.length.toInt32))]) (lenOf pd_1 rfl) rfl (by rw [hml]; rfl) (W := 0) rfl (hb hby D_jdk_42_method_149_code_36) (pc' := 39) rfl (by decide) (by decide) (by decide) (by decide) all0 ?_
  rintro _ vm1 h1 ⟨d_1, kd_1, rfl, K1, p1_0, o1_0, o1_1⟩ C1
  have z1 := K1.1
  have yo1_0 := ltN o1_0.lt
  -- pc 39
  refine Go.astore (hb hby D_jdk_42_method_149_code_39) (pc' := 41) rfl rfl (L' := #[.val (.ref a), .val (.ref b), .val (.int (0 : Int32)), .val (.int (cs.length.toInt32)), .val .null, .val (.ref d_1)]) rfl ?_
  refine Go.aloadN (hb hby D_jdk_42_method_149_code_41) (pc' := 42) rfl rfl rfl ?_
  refine Go.aload (hb hby D_jdk_42_method_149_code_42) (pc' := 44) rfl rfl rfl ?_
  refine Go.iloadN (hb hby D_jdk_42_method_149_code_44) (pc' := 45) rfl rfl ?_
  refine Go.callS (c_coderOf (l := l) (nw := nw) g h1 d_1 kd_1 (cs.map by8) (cs.length.toInt32) (by rw [List.length_map]) o1_0 (by omega)) hown (wd_46 g) (wd_47 g) (wd_48 g) (wd_41 g) (by decide) (argsL := [(.ref d_1), (.int (cs.length.toInt32))]) (lenOf pd_2 rfl) rfl (by rw [hml]; rfl) (W := 1) rfl (hb hby D_jdk_42_method_149_code_45) (pc' := 48) rfl (by decide) (by decide) (by decide) (by decide) all0 ?_
  rintro _ vm2 h2 ⟨rfl, K2⟩ C2
  have z2 := K2.1
  -- pc 48
  have f3 : Fld Z h2 a "java/lang/String" "coder" "B" (.int 0) := ((e1.keep K1 nin0).keep K2 nin0)
  have f4 : Exa Z h2 a "java/lang/String" := ((e0.keep K1).keep K2)
  have f5 : Safe Z EL vm2 h2 a := (Safe.to C2 (by omega) (Safe.to C1 (by omega) (hsf _ (by simp))))
  refine Go.putF hown (wd_33 g) Via.refl f3 f4 (Or.inr ⟨(wd_29 g), rfl, hnm⟩) (wd_14 g) (ty := .byte) (by decide) (v' := (.int (0 : Int32))) rfl (by first | rfl | exact fits_nar_byte _ ) (Or.inr f5) (by omega) (hb hby D_jdk_42_method_149_code_48) (pc' := 51) rfl ?_
  intro h6 W7 z9 K8 C10
  have f11 : Fld Z h2 a "java/lang/String" "value" "[B" .null := ((e2.keep K1 nin0).keep K2 nin0)
  have f12 : Fld Z h6 a "java/lang/String" "coder" "B" (.int (0 : Int32)) := (Fld.same W7 f3)
  have f13 : Fld Z h6 a "java/lang/String" "value" "[B" .null := (Fld.other W7 f11 (Or.inr (slot_ne (Or.inr (wd_28 g)) (Or.inr (wd_29 g)) (by decide) (t := (.array .byte)) (t' := .byte) (by decide) (by decide))))
  refine Go.aloadN (hb hby D_jdk_42_method_149_code_51) (pc' := 52) rfl rfl rfl ?_
  refine Go.aload (hb hby D_jdk_42_method_149_code_52) (pc' := 54) rfl rfl rfl ?_
  have f14 : Exa Z h6 a "java/lang/String" := (f4.keep K8)
  have f15 : Safe Z EL vm2 h6 a := (Safe.to C10 (by omega) f5)
  refine Go.putF hown (wd_32 g) Via.refl f13 f14 (Or.inr ⟨(wd_28 g), rfl, hnm⟩) (wd_14 g) (ty := (.array .byte)) (by decide) rfl rfl (Or.inr f15) (by omega) (hb hby D_jdk_42_method_149_code_54) (pc' := 57) rfl ?_
  intro h16 W17 z19 K18 C20
  have f21 : Fld Z h16 a "java/lang/String" "coder" "B" (.int (0 : Int32)) := (Fld.other W17 f12 (Or.inr (slot_ne (Or.inr (wd_29 g)) (Or.inr (wd_28 g)) (by decide) (t := .byte) (t' := (.array .byte)) (by decide) (by decide))))
  have f22 : Fld Z h16 a "java/lang/String" "value" "[B" (.ref d_1) := (Fld.same W17 f13)
  have f24 : Exa Z h16 a "java/lang/String" := (f14.keep K18)
  have f25 : Ar Z h16 d_1 kd_1 .byte ((cs.map by8).map Value.int) := (((o1_0.keep K2 nin0).keep K8 (ninS (Ne.symm (Ar.ne_exa (o1_0.keep K2 nin0) ((e0.keep K1).keep K2) (wd_14 g))) nin0)).keep K18 (ninS (Ne.symm (Ar.ne_exa ((o1_0.keep K2 nin0).keep K8 (ninS (Ne.symm (Ar.ne_exa (o1_0.keep K2 nin0) ((e0.keep K1).keep K2) (wd_14 g))) nin0)) (((e0.keep K1).keep K2).keep K8) (wd_14 g))) nin0))
  have f23 : St Z h16 a d_1 kd_1 (cs.map by8) := ⟨f24, f21, f22, f25, by rw [List.length_map]; omega⟩
  refine Go.ret hret (hb hby D_jdk_42_method_149_code_57) (by decide) (by decide) ?_
  intro vmR CR
  exact ⟨d_1, kd_1, rfl, (((((Keep.refl h [a]).trans K1 all0).trans K2 all0).trans K8 (allS (by first | (left; simp; done) | (right; omega)) all0)).trans K18 (allS (by first | (left; simp; done) | (right; omega)) all0)), (by omega), f23⟩
set_option maxRecDepth 65536 in
set_option maxHeartbeats 40000000 in
theorem c_strinit {l : Launch} {Z : State} {a0 : Array Value} {EL : List (String × Nat)} {nw : Prop} {zc : Int32} (g : GH Z a0 EL zc) (h : Heap) (a : Addr) (b : Addr) (kb : ClassId) (cs : List Int32) (hcs : ∀ c ∈ cs, 0 ≤ c.toInt ∧ c.toInt ≤ 255) (h0 : 0 < cs.length) (hl : cs.length ≤ 16) (ga : Z.heap.size ≤ a) (e0 : Exa Z h a "java/lang/String") (e1 : Fld Z h a "java/lang/String" "coder" "B" (.int 0)) (e2 : Fld Z h a "java/lang/String" "value" "[B" .null) (e3 : Ar Z h b kb .char (cs.map Value.int)) (zz : Z.heap.size ≤ h.size) :
    Ct l Z EL nw [] ⟨"java/lang/String", "<init>", "([C)V"⟩ jdk_42_method_3_code 2 none ({ frames := 3, cells := 1, slots := 16, locals := 52 } : Room) #[(.ref a), (.ref b)] h [a] (fun res vm' h' => ∃ d : Addr, ∃ kd : ClassId, res = none ∧ Keep h h' [a] ∧ h.size ≤ d ∧ St Z h' a d kd (cs.map by8)) := by
  have ye0 := ltN e0.lt
  have ye1 := ltN e1.lt
  have ye2 := ltN e2.lt
  have ye3 := ltN e3.lt
  refine Ct.of_go (a0 := a0) g.2.1 pn_1 (L0 := #[.val (.ref a), .val (.ref b)]) (fun m => by first | (simp [entryFrame, mkF, argsToLocals, Value.category, own_rep]; done) | rfl) ?_
  intro p e s m below meth c hown hby hml hret hnm hZ hC hO hsf
  refine Go.aloadN (hb hby D_jdk_42_method_3_code_0) (pc' := 1) rfl rfl rfl ?_
  refine Go.aloadN (hb hby D_jdk_42_method_3_code_1) (pc' := 2) rfl rfl rfl ?_
  refine Go.iconst (hb hby D_jdk_42_method_3_code_2) (pc' := 3) rfl (z := (0 : Int32)) rfl ?_
  refine Go.aloadN (hb hby D_jdk_42_method_3_code_3) (pc' := 4) rfl rfl rfl ?_
  refine Go.alen e3 (z := (cs.length.toInt32)) (by rw [List.length_map]) (hb hby D_jdk_42_method_3_code_4) (pc' := 5) rfl ?_
  refine Go.aconstNull (hb hby D_jdk_42_method_3_code_5) (pc' := 6) rfl ?_
  refine Go.callC (c_strinit4 (l := l) (nw := nw) g h a b kb cs hcs h0 hl ga e0 e1 e2 e3 (by omega)) hown rfl rfl (wd_19 g) (wd_20 g) (wd_22 g) (wd_15 g) (by decide) (argsL := [(.ref b), (.int (0 : Int32)), (.int (cs.length.toInt32)), .null]) (lenOf pd_3 rfl) rfl (by rw [hml]; rfl) (W := 0) rfl (hb hby D_jdk_42_method_3_code_6) (pc' := 9) rfl (by decide) (by decide) (by decide) (by decide) (allS ⟨by omega, (hsf _ (by simp))⟩ all0) ?_
  rintro _ vm1 h1 ⟨d_1, kd_1, rfl, K1, p1_0, o1_0⟩ C1
  have z1 := K1.1
  have yo1_0 := ltN o1_0.lt; have yo1_0' := ltN o1_0.ltb
  -- pc 9
  refine Go.ret hret (hb hby D_jdk_42_method_3_code_9) (by decide) (by decide) ?_
  intro vmR CR
  exact ⟨d_1, kd_1, rfl, ((Keep.refl h [a]).trans K1 (allS (by first | (left; simp; done) | (right; omega)) all0)), (by omega), o1_0⟩
set_option maxRecDepth 65536 in
set_option maxHeartbeats 40000000 in
theorem c_strinit40 {l : Launch} {Z : State} {a0 : Array Value} {EL : List (String × Nat)} {nw : Prop} {zc : Int32} (g : GH Z a0 EL zc) (hnw : ¬ nw) (h : Heap) (a : Addr) (b : Addr) (ga : Z.heap.size ≤ a) (e0 : Exa Z h a "java/lang/String") (e1 : Fld Z h a "java/lang/String" "coder" "B" (.int 0)) (e2 : Fld Z h a "java/lang/String" "value" "[B" .null) (zz : Z.heap.size ≤ h.size) :
    Ct l Z EL nw [] ⟨"java/lang/String", "<init>", "([CIILjava/lang/Void;)V"⟩ jdk_42_method_149_code 6 none ({ frames := 1, cells := 4, slots := 8, locals := 12 } : Room) #[(.ref a), (.ref b), (.int (0 : Int32)), (.int (0 : Int32)), .null] h [a] (fun res vm' h' => ∃ d : Addr, ∃ kd : ClassId, res = none ∧ Keep h h' [a] ∧ St Z h' a d kd []) := by
  have ye0 := ltN e0.lt
  have ye1 := ltN e1.lt
  have ye2 := ltN e2.lt
  refine Ct.of_go (a0 := a0) g.2.1 pn_1 (L0 := #[.val (.ref a), .val (.ref b), .val (.int (0 : Int32)), .val (.int (0 : Int32)), .val .null, .unset]) (fun m => by first | (simp [entryFrame, mkF, argsToLocals, Value.category, own_rep]; done) | rfl) ?_
  intro p e s m below meth c hown hby hml hret hnm hZ hC hO hsf
  refine Go.aloadN (hb hby D_jdk_42_method_149_code_0) (pc' := 1) rfl rfl rfl ?_
  refine Go.initO hown (wd_23 g) (wd_24 g) (wd_25 g) (by rw [hml]; rfl) (hb hby D_jdk_42_method_149_code_1) (by decide) (W := 0) rfl (by decide) (pc' := 4) rfl ?_
  refine Go.iloadN (hb hby D_jdk_42_method_149_code_4) (pc' := 5) rfl rfl ?_
  refine Go.ifN (hb hby D_jdk_42_method_149_code_5) (pc' := 8) rfl (show ¬ (¬ (0 : Int32) = (0 : Int32)) from by decide) ?_
  refine Go.aloadN (hb hby D_jdk_42_method_149_code_8) (pc' := 9) rfl rfl rfl ?_
  refine Go.ldcStr (n0 := 0) (vs := ([] : List Int32).map Value.int) hnw hown (wd_26 g) g.2.2.1 (g.2.2.2.1 _ (by decide)) (by decide) (hb hby D_jdk_42_method_149_code_9) (pc' := 11) rfl (by decide) (by decide) (by decide) (by decide) ?_
  intro vm1 h2 a3 b4 k5 E6 C7 X8 F9 F10 A11 l12 l13 N14
  have KE6 := Keep.ofExt E6; have zE6 := E6.1
  have f15 : St Z h2 a3 b4 k5 [] := ⟨X8, F9, F10, A11, by decide⟩
  refine Go.getF hown (wd_32 g) Via.refl f15.2.2.1 (hb hby D_jdk_42_method_149_code_11) (pc' := 14) rfl ?_
  have f16 : Fld Z h2 a "java/lang/String" "value" "[B" .null := (e2.keep KE6 nin0)
  have f17 : Exa Z h2 a "java/lang/String" := (e0.keep KE6)
  have f18 : Safe Z EL vm1 h2 a := (Safe.to C7 (by omega) (hsf _ (by simp)))
  refine Go.putF hown (wd_32 g) Via.refl f16 f17 (Or.inr ⟨(wd_28 g), rfl, hnm⟩) (wd_14 g) (ty := (.array .byte)) (by decide) rfl rfl (Or.inr f18) (by omega) (hb hby D_jdk_42_method_149_code_14) (pc' := 17) rfl ?_
  intro h19 W20 z22 K21 C23
  have f24 : Fld Z h2 a "java/lang/String" "coder" "B" (.int 0) := (e1.keep KE6 nin0)
  have f25 : Fld Z h19 a "java/lang/String" "coder" "B" (.int 0) := (Fld.other W20 f24 (Or.inr (slot_ne (Or.inr (wd_29 g)) (Or.inr (wd_28 g)) (by decide) (t := .byte) (t' := (.array .byte)) (by decide) (by decide))))
  have f26 : Fld Z h19 a "java/lang/String" "value" "[B" (.ref b4) := (Fld.same W20 f16)
  refine Go.aloadN (hb hby D_jdk_42_method_149_code_17) (pc' := 18) rfl rfl rfl ?_
  refine Go.ldcStr (n0 := 0) (vs := ([] : List Int32).map Value.int) hnw hown (wd_26 g) g.2.2.1 (g.2.2.2.1 _ (by decide)) (by decide) (hb hby D_jdk_42_method_149_code_18) (pc' := 20) rfl (by decide) (by decide) (by decide) (by decide) ?_
  intro vm27 h28 a29 b30 k31 E32 C33 X34 F35 F36 A37 l38 l39 N40
  have KE32 := Keep.ofExt E32; have zE32 := E32.1
  have f41 : St Z h28 a29 b30 k31 [] := ⟨X34, F35, F36, A37, by decide⟩
  refine Go.getF hown (wd_33 g) Via.refl f41.2.1 (hb hby D_jdk_42_method_149_code_20) (pc' := 23) rfl ?_
  have f42 : Fld Z h28 a "java/lang/String" "coder" "B" (.int 0) := (f25.keep KE32 nin0)
  have f43 : Exa Z h28 a "java/lang/String" := ((f17.keep K21).keep KE32)
  have f44 : Safe Z EL vm27 h28 a := (Safe.to C33 (by omega) (Safe.to C23 (by omega) f18))
  refine Go.putF hown (wd_33 g) Via.refl f42 f43 (Or.inr ⟨(wd_29 g), rfl, hnm⟩) (wd_14 g) (ty := .byte) (by decide) (v' := (.int (nar .byte 0))) rfl (by first | rfl | exact fits_nar_byte _ ) (Or.inr f44) (by omega) (hb hby D_jdk_42_method_149_code_23) (pc' := 26) rfl ?_
  intro h45 W46 z48 K47 C49
  have f50 : Fld Z h28 a "java/lang/String" "value" "[B" (.ref b4) := (f26.keep KE32 nin0)
  have f51 : Fld Z h45 a "java/lang/String" "coder" "B" (.int (nar .byte 0)) := (Fld.same W46 f42)
  have f52 : Fld Z h45 a "java/lang/String" "value" "[B" (.ref b4) := (Fld.other W46 f50 (Or.inr (slot_ne (Or.inr (wd_28 g)) (Or.inr (wd_29 g)) (by decide) (t := (.array .byte)) (t' := .byte) (by decide) (by decide))))
  have f54 : Exa Z h45 a "java/lang/String" := (f43.keep K47)
  have f55 : Ar Z h45 b4 k5 .byte ([].map Value.int) := (((f15.2.2.2.1.keep K21 (ninS (Ne.symm (Ar.ne_exa f15.2.2.2.1 (e0.keep KE6) (wd_14 g))) nin0)).keep KE32 nin0).keep K47 (ninS (Ne.symm (Ar.ne_exa ((f15.2.2.2.1.keep K21 (ninS (Ne.symm (Ar.ne_exa f15.2.2.2.1 (e0.keep KE6) (wd_14 g))) nin0)).keep KE32 nin0) (((e0.keep KE6).keep K21).keep KE32) (wd_14 g))) nin0))
  have f53 : St Z h45 a b4 k5 [] := ⟨f54, f51, f52, f55, by decide⟩
  refine Go.ret hret (hb hby D_jdk_42_method_149_code_26) (by decide) (by decide) ?_
  intro vmR CR
  exact ⟨b4, k5, rfl, (((((Keep.refl h [a]).trans KE6 all0).trans K21 (allS (by first | (left; simp; done) | (right; omega)) all0)).trans KE32 all0).trans K47 (allS (by first | (left; simp; done) | (right; omega)) all0)), f53⟩
set_option maxRecDepth 65536 in
set_option maxHeartbeats 40000000 in
theorem c_strinit0 {l : Launch} {Z : State} {a0 : Array Value} {EL : List (String × Nat)} {nw : Prop} {zc : Int32} (g : GH Z a0 EL zc) (hnw : ¬ nw) (h : Heap) (a : Addr) (b : Addr) (kb : ClassId) (ga : Z.heap.size ≤ a) (e0 : Exa Z h a "java/lang/String") (e1 : Fld Z h a "java/lang/String" "coder" "B" (.int 0)) (e2 : Fld Z h a "java/lang/String" "value" "[B" .null) (e3 : Ar Z h b kb .char []) (zz : Z.heap.size ≤ h.size) :
    Ct l Z EL nw [] ⟨"java/lang/String", "<init>", "([C)V"⟩ jdk_42_method_3_code 2 none ({ frames := 2, cells := 4, slots := 8, locals := 29 } : Room) #[(.ref a), (.ref b)] h [a] (fun res vm' h' => ∃ d : Addr, ∃ kd : ClassId, res = none ∧ Keep h h' [a] ∧ St Z h' a d kd []) := by
  have ye0 := ltN e0.lt
  have ye1 := ltN e1.lt
  have ye2 := ltN e2.lt
  have ye3 := ltN e3.lt
  refine Ct.of_go (a0 := a0) g.2.1 pn_1 (L0 := #[.val (.ref a), .val (.ref b)]) (fun m => by first | (simp [entryFrame, mkF, argsToLocals, Value.category, own_rep]; done) | rfl) ?_
  intro p e s m below meth c hown hby hml hret hnm hZ hC hO hsf
  refine Go.aloadN (hb hby D_jdk_42_method_3_code_0) (pc' := 1) rfl rfl rfl ?_
  refine Go.aloadN (hb hby D_jdk_42_method_3_code_1) (pc' := 2) rfl rfl rfl ?_
  refine Go.iconst (hb hby D_jdk_42_method_3_code_2) (pc' := 3) rfl (z := (0 : Int32)) rfl ?_
  refine Go.aloadN (hb hby D_jdk_42_method_3_code_3) (pc' := 4) rfl rfl rfl ?_
  refine Go.alen e3 (z := (0 : Int32)) rfl (hb hby D_jdk_42_method_3_code_4) (pc' := 5) rfl ?_
  refine Go.aconstNull (hb hby D_jdk_42_method_3_code_5) (pc' := 6) rfl ?_
  refine Go.callC (c_strinit40 (l := l) (nw := nw) g hnw h a b (by first | omega | assumption | decide) e0 e1 e2 (by omega)) hown rfl rfl (wd_19 g) (wd_20 g) (wd_22 g) (wd_15 g) (by decide) (argsL := [(.ref b), (.int (0 : Int32)), (.int (0 : Int32)), .null]) (lenOf pd_3 rfl) rfl (by rw [hml]; rfl) (W := 0) rfl (hb hby D_jdk_42_method_3_code_6) (pc' := 9) rfl (by decide) (by decide) (by decide) (by decide) (allS ⟨by omega, (hsf _ (by simp))⟩ all0) ?_
  rintro _ vm1 h1 ⟨d_1, kd_1, rfl, K1, o1_0⟩ C1
  have z1 := K1.1
  have yo1_0 := ltN o1_0.lt; have yo1_0' := ltN o1_0.ltb
  -- pc 9
  refine Go.ret hret (hb hby D_jdk_42_method_3_code_9) (by decide) (by decide) ?_
  intro vmR CR
  exact ⟨d_1, kd_1, rfl, ((Keep.refl h [a]).trans K1 (allS (by first | (left; simp; done) | (right; omega)) all0)), o1_0⟩
set_option maxRecDepth 65536 in
set_option maxHeartbeats 40000000 in
theorem c_l1eq {l : Launch} {Z : State} {a0 : Array Value} {EL : List (String × Nat)} {nw : Prop} {zc : Int32} (g : GH Z a0 EL zc) (h : Heap) (a : Addr) (ka : ClassId) (bs : List Int32) (b : Addr) (kb : ClassId) (cs : List Int32) (hl1 : bs.length < 536870912) (hl2 : cs.length < 536870912) (e0 : Ar Z h a ka .byte (bs.map Value.int)) (e1 : Ar Z h b kb .byte (cs.map Value.int)) (zz : Z.heap.size ≤ h.size) :
    Ct l Z EL nw [] ⟨"java/lang/StringLatin1", "equals", "([B[B)Z"⟩ jdk_43_method_13_code 3 (some .boolean) ({ frames := 0, cells := 0, slots := 0, locals := 0 } : Room) #[(.ref a), (.ref b)] h [] (fun res vm' h' => res = some (.int (bo (bs = cs))) ∧ Keep h h' []) := by
  have ye0 := ltN e0.lt
  have ye1 := ltN e1.lt
  refine Ct.of_go (a0 := a0) g.2.1 pn_2 (L0 := #[.val (.ref a), .val (.ref b), .unset]) (fun m => by first | (simp [entryFrame, mkF, argsToLocals, Value.category, own_rep]; done) | rfl) ?_
  intro p e s m below meth c hown hby hml hret hnm hZ hC hO hsf
  refine Go.aloadN (hb hby D_jdk_43_method_13_code_0) (pc' := 1) rfl rfl rfl ?_
  refine Go.alen e0 (z := (bs.length.toInt32)) (by rw [List.length_map]) (hb hby D_jdk_43_method_13_code_1) (pc' := 2) rfl ?_
  refine Go.aloadN (hb hby D_jdk_43_method_13_code_2) (pc' := 3) rfl rfl rfl ?_
  refine Go.alen e1 (z := (cs.length.toInt32)) (by rw [List.length_map]) (hb hby D_jdk_43_method_13_code_3) (pc' := 4) rfl ?_
  refine Go.icmp (hb hby D_jdk_43_method_13_code_4) (by decide) (pc' := 34) (by decide) (pc2 := 7) rfl (fun (q4 : ¬ (bs.length.toInt32) = (cs.length.toInt32)) => ?_) (fun (q4 : ¬ (¬ (bs.length.toInt32) = (cs.length.toInt32))) => ?_)
  · refine Go.iconst (hb hby D_jdk_43_method_13_code_34) (pc' := 35) rfl (z := (0 : Int32)) rfl ?_
    refine Go.retN (t := .boolean) hret (by simp) (hb hby D_jdk_43_method_13_code_35) (by decide) (by decide) ?_
    intro vmR CR
    exact ⟨(by rw [bo_no (fun z => q4 (by rw [z]))]; rfl), (Keep.refl h [])⟩
  · refine Go.iconst (hb hby D_jdk_43_method_13_code_7) (pc' := 8) rfl (z := (0 : Int32)) rfl ?_
    refine Go.istoreN (hb hby D_jdk_43_method_13_code_8) (pc' := 9) rfl (L' := #[.val (.ref a), .val (.ref b), .val (.int (0 : Int32))]) rfl ?_
    have hlen : bs.length = cs.length := (eq32 (by omega) (by omega)).mp (Classical.not_not.mp q4)
    refine Go.loop (Inv := fun r vmI hI kI nI LI => vmI = s.vm ∧ h = hI ∧ kI = 0 ∧ nI = 0 ∧ ∃ (i : Nat), i + r = bs.length ∧ LI = #[.val (.ref a), .val (.ref b), .val (.int i.toInt32)] ∧ ∀ j, j < i → bs[j]? = cs[j]?) ?_ bs.length _ _ _ _ _ ⟨rfl, rfl, rfl, rfl, 0, Nat.zero_add _, rfl, fun j hj => absurd hj (Nat.not_lt_zero _)⟩
    rintro r vmI hI kI nI LI ⟨rfl, rfl, rfl, rfl, i, hir, rfl, hsame⟩ ih
    have hi31 : i < 2 ^ 31 := by omega
    have hn31 : bs.length < 2 ^ 31 := by omega
    refine Go.iloadN (hb hby D_jdk_43_method_13_code_9) (pc' := 10) rfl rfl ?_
    refine Go.aloadN (hb hby D_jdk_43_method_13_code_10) (pc' := 11) rfl rfl rfl ?_
    refine Go.alen e0 (z := (bs.length.toInt32)) (by rw [List.length_map]) (hb hby D_jdk_43_method_13_code_11) (pc' := 12) rfl ?_
    refine Go.icmp (hb hby D_jdk_43_method_13_code_12) (by decide) (pc' := 32) (by decide) (pc2 := 15) rfl (fun (q12 : ¬ i.toInt32 < (bs.length.toInt32)) => ?_) (fun (q12 : ¬ (¬ i.toInt32 < (bs.length.toInt32))) => ?_)
    · refine Go.iconst (hb hby D_jdk_43_method_13_code_32) (pc' := 33) rfl (z := (1 : Int32)) rfl ?_
      refine Go.retN (t := .boolean) hret (by simp) (hb hby D_jdk_43_method_13_code_33) (by decide) (by decide) ?_
      intro vmR CR
      exact ⟨(by rw [bo_yes (List.ext_getElem? fun j => by by_cases hj : j < i; exact hsame j hj; have : ¬ i < bs.length := fun z => q12 ((lt32 hi31 hn31).mpr z); rw [List.getElem?_eq_none (by omega), List.getElem?_eq_none (by omega)])]; rfl), (Keep.refl h [])⟩
    · refine Go.aloadN (hb hby D_jdk_43_method_13_code_15) (pc' := 16) rfl rfl rfl ?_
      refine Go.iloadN (hb hby D_jdk_43_method_13_code_16) (pc' := 17) rfl rfl ?_
      have hi : i < bs.length := (lt32 hi31 hn31).mp (Classical.not_not.mp q12)
      obtain ⟨x, hx⟩ : ∃ x, bs[i] = x := ⟨_, rfl⟩
      obtain ⟨y, hy⟩ : ∃ y, cs[i]'(hlen ▸ hi) = y := ⟨_, rfl⟩
      refine Go.baload e0 (v := (.int x)) (nneg32 hi31) (by rw [clamp_nat hi31]; simp [hi, hx]) (hb hby D_jdk_43_method_13_code_17) (pc' := 18) rfl ?_
      refine Go.aloadN (hb hby D_jdk_43_method_13_code_18) (pc' := 19) rfl rfl rfl ?_
      refine Go.iloadN (hb hby D_jdk_43_method_13_code_19) (pc' := 20) rfl rfl ?_
      refine Go.baload e1 (v := (.int y)) (nneg32 hi31) (by rw [clamp_nat hi31]; simp [hlen ▸ hi, hy]) (hb hby D_jdk_43_method_13_code_20) (pc' := 21) rfl ?_
      refine Go.icmp (hb hby D_jdk_43_method_13_code_21) (by decide) (pc' := 26) (by decide) (pc2 := 24) rfl (fun (q21 : x = y) => ?_) (fun (q21 : ¬ (x = y)) => ?_)
      · refine Go.iinc (hb hby D_jdk_43_method_13_code_26) (pc' := 29) rfl rfl (L' := #[.val (.ref a), .val (.ref b), .val (.int (i.toInt32 + 1))]) rfl ?_
        refine Go.goto (hb hby D_jdk_43_method_13_code_29) (by decide) (pc' := 9) (by decide) ?_
        rw [succ32 i]
        refine ih (r - 1) _ _ _ _ _ (by omega) ⟨rfl, rfl, rfl, rfl, i + 1, by omega, rfl, fun j hj => ?_⟩
        rcases Nat.lt_succ_iff_lt_or_eq.mp hj with hj | rfl
        · exact hsame j hj
        · rw [List.getElem?_eq_getElem hi, List.getElem?_eq_getElem (hlen ▸ hi), hx, hy, q21]
      · refine Go.iconst (hb hby D_jdk_43_method_13_code_24) (pc' := 25) rfl (z := (0 : Int32)) rfl ?_
        refine Go.retN (t := .boolean) hret (by simp) (hb hby D_jdk_43_method_13_code_25) (by decide) (by decide) ?_
        intro vmR CR
        exact ⟨(by rw [bo_no (fun z => q21 (by subst z; rw [← hx, ← hy]))]; rfl), (Keep.refl h [])⟩
set_option maxRecDepth 65536 in
set_option maxHeartbeats 40000000 in
theorem c_eq {l : Launch} {Z : State} {a0 : Array Value} {EL : List (String × Nat)} {nw : Prop} {zc : Int32} (g : GH Z a0 EL zc) (h : Heap) (a : Addr) (d : Addr) (kd : ClassId) (bs : List Int32) (b : Addr) (f : Addr) (kf : ClassId) (cs : List Int32) (e0 : St Z h a d kd bs) (e1 : St Z h b f kf cs) (zz : Z.heap.size ≤ h.size) :
    Ct l Z EL nw [] ⟨"java/lang/String", "equals", "(Ljava/lang/Object;)Z"⟩ jdk_42_method_66_code 3 (some .boolean) ({ frames := 1, cells := 0, slots := 0, locals := 14 } : Room) #[(.ref a), (.ref b)] h [] (fun res vm' h' => res = some (.int (bo (bs = cs))) ∧ Keep h h' []) := by
  have ye0 := ltN e0.lt; have ye0' := ltN e0.ltb
  have ye1 := ltN e1.lt; have ye1' := ltN e1.ltb
  refine Ct.of_go (a0 := a0) g.2.1 pn_1 (L0 := #[.val (.ref a), .val (.ref b), .unset]) (fun m => by first | (simp [entryFrame, mkF, argsToLocals, Value.category, own_rep]; done) | rfl) ?_
  intro p e s m below meth c hown hby hml hret hnm hZ hC hO hsf
  by_cases hab : a = b
  · subst hab
    refine Go.aloadN (hb hby D_jdk_42_method_66_code_0) (pc' := 1) rfl rfl rfl ?_
    refine Go.aloadN (hb hby D_jdk_42_method_66_code_1) (pc' := 2) rfl rfl rfl ?_
    refine Go.acmpN (hb hby D_jdk_42_method_66_code_2) (pc' := 5) rfl rfl rfl (by simp [XT.acmp]) ?_
    refine Go.iconst (hb hby D_jdk_42_method_66_code_5) (pc' := 6) rfl (z := (1 : Int32)) rfl ?_
    refine Go.retN (t := .boolean) hret (by simp) (hb hby D_jdk_42_method_66_code_6) (by decide) (by decide) ?_
    intro vmR CR
    exact ⟨(by rw [bo_yes (St.uniq e0 e1)]; rfl), (Keep.refl h [])⟩
  · refine Go.aloadN (hb hby D_jdk_42_method_66_code_0) (pc' := 1) rfl rfl rfl ?_
    refine Go.aloadN (hb hby D_jdk_42_method_66_code_1) (pc' := 2) rfl rfl rfl ?_
    refine Go.acmpY (hb hby D_jdk_42_method_66_code_2) (by decide) (pc' := 7) (by decide) rfl rfl (by simp [XT.acmp, hab]) ?_
    refine Go.aloadN (hb hby D_jdk_42_method_66_code_7) (pc' := 8) rfl rfl rfl ?_
    refine Go.instY hown (wd_84 g) (Ins.self e1.1) (hb hby D_jdk_42_method_66_code_8) (pc' := 11) rfl ?_
    refine Go.ifN (hb hby D_jdk_42_method_66_code_11) (pc' := 14) rfl (show ¬ ((1 : Int32) = (0 : Int32)) from by decide) ?_
    refine Go.aloadN (hb hby D_jdk_42_method_66_code_14) (pc' := 15) rfl rfl rfl ?_
    refine Go.castY hown (wd_84 g) (Ins.self e1.1) (hb hby D_jdk_42_method_66_code_15) (pc' := 18) rfl ?_
    refine Go.astoreN (hb hby D_jdk_42_method_66_code_18) (pc' := 19) rfl rfl (L' := #[.val (.ref a), .val (.ref b), .val (.ref b)]) rfl ?_
    refine Go.getS hown (wd_38 g) Via.refl g.2.2.2.2.1 (hb hby D_jdk_42_method_66_code_19) (pc' := 22) rfl ?_
    refine Go.ifN (hb hby D_jdk_42_method_66_code_22) (pc' := 25) rfl g.2.2.2.2.2.1 ?_
    refine Go.aloadN (hb hby D_jdk_42_method_66_code_25) (pc' := 26) rfl rfl rfl ?_
    refine Go.getF hown (wd_33 g) Via.refl e0.2.1 (hb hby D_jdk_42_method_66_code_26) (pc' := 29) rfl ?_
    refine Go.aloadN (hb hby D_jdk_42_method_66_code_29) (pc' := 30) rfl rfl rfl ?_
    refine Go.getF hown (wd_33 g) Via.refl e1.2.1 (hb hby D_jdk_42_method_66_code_30) (pc' := 33) rfl ?_
    refine Go.icmpN (hb hby D_jdk_42_method_66_code_33) (pc' := 36) rfl (fun q => q rfl) ?_
    refine Go.aloadN (hb hby D_jdk_42_method_66_code_36) (pc' := 37) rfl rfl rfl ?_
    refine Go.getF hown (wd_32 g) Via.refl e0.2.2.1 (hb hby D_jdk_42_method_66_code_37) (pc' := 40) rfl ?_
    refine Go.aloadN (hb hby D_jdk_42_method_66_code_40) (pc' := 41) rfl rfl rfl ?_
    refine Go.getF hown (wd_32 g) Via.refl e1.2.2.1 (hb hby D_jdk_42_method_66_code_41) (pc' := 44) rfl ?_
    refine Go.callS (c_l1eq (l := l) (nw := nw) g h d kd bs f kf cs e0.2.2.2.2 e1.2.2.2.2 e0.2.2.2.1 e1.2.2.2.1 (by omega)) hown (wd_85 g) (wd_86 g) (wd_88 g) (wd_87 g) (by decide) (argsL := [(.ref d), (.ref f)]) (lenOf pd_4 rfl) rfl (by rw [hml]; rfl) (W := 0) rfl (hb hby D_jdk_42_method_66_code_44) (pc' := 47) rfl (by decide) (by decide) (by decide) (by decide) all0 ?_
    rintro _ vm1 h1 ⟨rfl, K1⟩ C1
    have z1 := K1.1
    -- pc 47
    refine Go.ifc (hb hby D_jdk_42_method_66_code_47) (by decide) (pc' := 54) (by decide) (pc2 := 50) rfl (fun (q47 : (bo (bs = cs)) = (0 : Int32)) => ?_) (fun (q47 : ¬ ((bo (bs = cs)) = (0 : Int32))) => ?_)
    · refine Go.iconst (hb hby D_jdk_42_method_66_code_54) (pc' := 55) rfl (z := (0 : Int32)) rfl ?_
      refine Go.retN (t := .boolean) hret (by simp) (hb hby D_jdk_42_method_66_code_55) (by decide) (by decide) ?_
      intro vmR CR
      exact ⟨(by first | (rw [bo_yes (bo_ne0.mp q47)]; rfl) | (rw [bo_no (fun z => (bo_ne0.mpr z) q47)]; rfl)), ((Keep.refl h []).trans K1 all0)⟩
    · refine Go.iconst (hb hby D_jdk_42_method_66_code_50) (pc' := 51) rfl (z := (1 : Int32)) rfl ?_
      refine Go.goto (hb hby D_jdk_42_method_66_code_51) (by decide) (pc' := 55) (by decide) ?_
      refine Go.retN (t := .boolean) hret (by simp) (hb hby D_jdk_42_method_66_code_55) (by decide) (by decide) ?_
      intro vmR CR
      exact ⟨(by first | (rw [bo_yes (bo_ne0.mp q47)]; rfl) | (rw [bo_no (fun z => (bo_ne0.mpr z) q47)]; rfl)), ((Keep.refl h []).trans K1 all0)⟩
set_option maxRecDepth 65536 in
set_option maxHeartbeats 40000000 in
theorem c_eqnull {l : Launch} {Z : State} {a0 : Array Value} {EL : List (String × Nat)} {nw : Prop} {zc : Int32} (g : GH Z a0 EL zc) (h : Heap) (a : Addr) (zz : Z.heap.size ≤ h.size) :
    Ct l Z EL nw [] ⟨"java/lang/String", "equals", "(Ljava/lang/Object;)Z"⟩ jdk_42_method_66_code 3 (some .boolean) ({ frames := 0, cells := 0, slots := 0, locals := 0 } : Room) #[(.ref a), .null] h [] (fun res vm' h' => res = some (.int (0 : Int32)) ∧ Keep h h' []) := by
  refine Ct.of_go (a0 := a0) g.2.1 pn_1 (L0 := #[.val (.ref a), .val .null, .unset]) (fun m => by first | (simp [entryFrame, mkF, argsToLocals, Value.category, own_rep]; done) | rfl) ?_
  intro p e s m below meth c hown hby hml hret hnm hZ hC hO hsf
  refine Go.aloadN (hb hby D_jdk_42_method_66_code_0) (pc' := 1) rfl rfl rfl ?_
  refine Go.aloadN (hb hby D_jdk_42_method_66_code_1) (pc' := 2) rfl rfl rfl ?_
  refine Go.acmpY (hb hby D_jdk_42_method_66_code_2) (by decide) (pc' := 7) (by decide) rfl rfl (by simp [XT.acmp]) ?_
  refine Go.aloadN (hb hby D_jdk_42_method_66_code_7) (pc' := 8) rfl rfl rfl ?_
  refine Go.instNull (hb hby D_jdk_42_method_66_code_8) (pc' := 11) rfl ?_
  refine Go.ifY (hb hby D_jdk_42_method_66_code_11) (by decide) (pc' := 54) (by decide) (show (0 : Int32) = (0 : Int32) from by decide) ?_
  refine Go.iconst (hb hby D_jdk_42_method_66_code_54) (pc' := 55) rfl (z := (0 : Int32)) rfl ?_
  refine Go.retN (t := .boolean) hret (by simp) (hb hby D_jdk_42_method_66_code_55) (by decide) (by decide) ?_
  intro vmR CR
  exact ⟨(by first | rfl | (simp only [own_nar]; done) | (congr 2; done)), (Keep.refl h [])⟩
set_option maxRecDepth 65536 in
set_option maxHeartbeats 40000000 in
theorem c_len {l : Launch} {Z : State} {a0 : Array Value} {EL : List (String × Nat)} {nw : Prop} {zc : Int32} (g : GH Z a0 EL zc) (h : Heap) (z : Int64) (zz : Z.heap.size ≤ h.size) :
    Ct l Z EL nw [] ⟨"com/example/kunci/kunci/PermissionEqualsPinLaw", "len", "(J)I"⟩ method_2_code 2 (some .int) ({ frames := 0, cells := 0, slots := 0, locals := 0 } : Room) #[(.long z)] h [] (fun res vm' h' => res = some (.int (lenv z)) ∧ Keep h h' []) := by
  refine Ct.of_go (a0 := a0) g.2.1 pn_3 (L0 := #[.val (.long z), .second]) (fun m => by first | (simp [entryFrame, mkF, argsToLocals, Value.category, own_rep]; done) | rfl) ?_
  intro p e s m below meth c hown hby hml hret hnm hZ hC hO hsf
  refine Go.lloadN (hb hby D_method_2_code_0) (pc' := 1) rfl rfl ?_
  refine Go.ldc2Long hown (wd_11 g) (hb hby D_method_2_code_1) (pc' := 4) rfl ?_
  refine Go.land (hb hby D_method_2_code_4) (pc' := 5) rfl ?_
  refine Go.ldc2Long hown (wd_11 g) (hb hby D_method_2_code_5) (pc' := 8) rfl ?_
  refine Go.lrem (hb hby D_method_2_code_8) (pc' := 9) rfl (by decide) ?_
  refine Go.l2i (hb hby D_method_2_code_9) (pc' := 10) rfl ?_
  refine Go.retI hret (hb hby D_method_2_code_10) (by decide) (by decide) ?_
  intro vmR CR
  exact ⟨rfl, (Keep.refl h [])⟩
set_option maxRecDepth 65536 in
set_option maxHeartbeats 40000000 in
theorem c_c0 {l : Launch} {Z : State} {a0 : Array Value} {EL : List (String × Nat)} {nw : Prop} {zc : Int32} (g : GH Z a0 EL zc) (h : Heap) (z : Int64) (zz : Z.heap.size ≤ h.size) :
    Ct l Z EL nw [] ⟨"com/example/kunci/kunci/PermissionEqualsPinLaw", "c0", "(J)C"⟩ method_3_code 2 (some .char) ({ frames := 0, cells := 0, slots := 0, locals := 0 } : Room) #[(.long z)] h [] (fun res vm' h' => res = some (.int (cv0 z)) ∧ Keep h h' []) := by
  refine Ct.of_go (a0 := a0) g.2.1 pn_3 (L0 := #[.val (.long z), .second]) (fun m => by first | (simp [entryFrame, mkF, argsToLocals, Value.category, own_rep]; done) | rfl) ?_
  intro p e s m below meth c hown hby hml hret hnm hZ hC hO hsf
  refine Go.lloadN (hb hby D_method_3_code_0) (pc' := 1) rfl rfl ?_
  refine Go.iconst (hb hby D_method_3_code_1) (pc' := 2) rfl (z := (2 : Int32)) rfl ?_
  refine Go.lushr (hb hby D_method_3_code_2) (pc' := 3) rfl ?_
  refine Go.ldc2Long hown (wd_37 g) (hb hby D_method_3_code_3) (pc' := 6) rfl ?_
  refine Go.land (hb hby D_method_3_code_6) (pc' := 7) rfl ?_
  refine Go.l2i (hb hby D_method_3_code_7) (pc' := 8) rfl ?_
  refine Go.i2c (hb hby D_method_3_code_8) (pc' := 9) rfl ?_
  refine Go.retN (t := .char) hret (by simp) (hb hby D_method_3_code_9) (by decide) (by decide) ?_
  intro vmR CR
  exact ⟨rfl, (Keep.refl h [])⟩
set_option maxRecDepth 65536 in
set_option maxHeartbeats 40000000 in
theorem c_c1 {l : Launch} {Z : State} {a0 : Array Value} {EL : List (String × Nat)} {nw : Prop} {zc : Int32} (g : GH Z a0 EL zc) (h : Heap) (z : Int64) (zz : Z.heap.size ≤ h.size) :
    Ct l Z EL nw [] ⟨"com/example/kunci/kunci/PermissionEqualsPinLaw", "c1", "(J)C"⟩ method_4_code 2 (some .char) ({ frames := 0, cells := 0, slots := 0, locals := 0 } : Room) #[(.long z)] h [] (fun res vm' h' => res = some (.int (cv1 z)) ∧ Keep h h' []) := by
  refine Ct.of_go (a0 := a0) g.2.1 pn_3 (L0 := #[.val (.long z), .second]) (fun m => by first | (simp [entryFrame, mkF, argsToLocals, Value.category, own_rep]; done) | rfl) ?_
  intro p e s m below meth c hown hby hml hret hnm hZ hC hO hsf
  refine Go.lloadN (hb hby D_method_4_code_0) (pc' := 1) rfl rfl ?_
  refine Go.bipush (hb hby D_method_4_code_1) (pc' := 3) rfl (z := (10 : Int32)) rfl ?_
  refine Go.lushr (hb hby D_method_4_code_3) (pc' := 4) rfl ?_
  refine Go.ldc2Long hown (wd_37 g) (hb hby D_method_4_code_4) (pc' := 7) rfl ?_
  refine Go.land (hb hby D_method_4_code_7) (pc' := 8) rfl ?_
  refine Go.l2i (hb hby D_method_4_code_8) (pc' := 9) rfl ?_
  refine Go.i2c (hb hby D_method_4_code_9) (pc' := 10) rfl ?_
  refine Go.retN (t := .char) hret (by simp) (hb hby D_method_4_code_10) (by decide) (by decide) ?_
  intro vmR CR
  exact ⟨rfl, (Keep.refl h [])⟩
set_option maxRecDepth 65536 in
set_option maxHeartbeats 40000000 in
theorem c_str {l : Launch} {Z : State} {a0 : Array Value} {EL : List (String × Nat)} {nw : Prop} {zc : Int32} (g : GH Z a0 EL zc) (hnw : ¬ nw) (h : Heap) (z : Int64) (zz : Z.heap.size ≤ h.size) :
    Ct l Z EL nw [] ⟨"com/example/kunci/kunci/PermissionEqualsPinLaw", "str", "(J)Ljava/lang/String;"⟩ method_5_code 4 (some (.object "java/lang/String")) ({ frames := 4, cells := 6, slots := 22, locals := 66 } : Room) #[(.long z)] h [] (fun res vm' h' => ∃ r : Addr, ∃ d : Addr, ∃ kd : ClassId, res = some (.ref r) ∧ Keep h h' [] ∧ St Z h' r d kd (sb z)) := by
  refine Ct.of_go (a0 := a0) g.2.1 pn_3 (L0 := #[.val (.long z), .second, .unset, .unset]) (fun m => by first | (simp [entryFrame, mkF, argsToLocals, Value.category, own_rep]; done) | rfl) ?_
  intro p e s m below meth c hown hby hml hret hnm hZ hC hO hsf
  refine Go.lloadN (hb hby D_method_5_code_0) (pc' := 1) rfl rfl ?_
  refine Go.callS (c_len (l := l) (nw := nw) g h z (by omega)) hown (wd_8 g) (wd_9 g) (wd_10 g) (wd_6 g) (by decide) (argsL := [(.long z)]) (lenOf pd_5 rfl) rfl (by rw [hml]; rfl) (W := 0) rfl (hb hby D_method_5_code_1) (pc' := 4) rfl (by decide) (by decide) (by decide) (by decide) all0 ?_
  rintro _ vm1 h1 ⟨rfl, K1⟩ C1
  have z1 := K1.1
  -- pc 4
  refine Go.istoreN (hb hby D_method_5_code_4) (pc' := 5) rfl (L' := #[.val (.long z), .second, .val (.int (lenv z)), .unset]) rfl ?_
  rcases lenv_cases z with hn | hn | hn
  · rw [hn]
    refine Go.iloadN (hb hby D_method_5_code_5) (pc' := 6) rfl rfl ?_
    refine Go.newP (ty := .char) rfl (wd_12 g) (hb hby D_method_5_code_6) (pc' := 8) rfl (by decide) (cap := 0) (by decide) (by decide) (by decide) (by decide) ?_
    intro h2 a3 k4 g5 l6 E7 A8 S9 C10
    have KE7 := Keep.ofExt E7; have zE7 := E7.1
    have A8 : Ar Z h2 a3 k4 .char [] := A8
    refine Go.astoreN (hb hby D_method_5_code_8) (pc' := 9) rfl rfl (L' := #[.val (.long z), .second, .val (.int (0 : Int32)), .val (.ref a3)]) rfl ?_
    refine Go.iloadN (hb hby D_method_5_code_9) (pc' := 10) rfl rfl ?_
    refine Go.ifY (hb hby D_method_5_code_10) (by decide) (pc' := 20) (by decide) (show ¬ (0 : Int32) < (0 : Int32) from by decide) ?_
    refine Go.iloadN (hb hby D_method_5_code_20) (pc' := 21) rfl rfl ?_
    refine Go.iconst (hb hby D_method_5_code_21) (pc' := 22) rfl (z := (1 : Int32)) rfl ?_
    refine Go.icmpY (hb hby D_method_5_code_22) (by decide) (pc' := 32) (by decide) (show ¬ (1 : Int32) < (0 : Int32) from by decide) ?_
    refine Go.newO hown (wd_13 g) (wd_14 g) (wd_15 g) (hb hby D_method_5_code_32) (pc' := 35) rfl (by decide) (by decide) ?_
    intro h11 a12 g13 l14 E15 X16 D17 S18 C19
    have KE15 := Keep.ofExt E15; have zE15 := E15.1
    have f20 : Fld Z h11 a12 "java/lang/String" "value" "[B" .null := D17 (Or.inr (wd_28 g)) (ty := (.array .byte)) (by decide)
    have f21 : Fld Z h11 a12 "java/lang/String" "coder" "B" (.int 0) := D17 (Or.inr (wd_29 g)) (ty := .byte) (by decide)
    refine Go.dup (hb hby D_method_5_code_35) (pc' := 36) rfl rfl ?_
    refine Go.aloadN (hb hby D_method_5_code_36) (pc' := 37) rfl rfl rfl ?_
    have f22 : Ar Z h11 a3 k4 .char [] := (A8.keep KE15 nin0)
    refine Go.callC (c_strinit0 (l := l) (nw := nw) g hnw h11 a12 a3 k4 (by first | omega | assumption | decide) X16 f21 f20 f22 (by omega)) hown rfl rfl (wd_16 g) (wd_17 g) (wd_18 g) (wd_15 g) (by decide) (argsL := [(.ref a3)]) (lenOf pd_6 rfl) rfl (by rw [hml]; rfl) (W := 1) rfl (hb hby D_method_5_code_37) (pc' := 40) rfl (by decide) (by decide) (by decide) (by decide) (allS ⟨by omega, S18⟩ all0) ?_
    rintro _ vm23 h23 ⟨d_23, kd_23, rfl, K23, o23_0⟩ C23
    have z23 := K23.1
    have yo23_0 := ltN o23_0.lt; have yo23_0' := ltN o23_0.ltb
    -- pc 40
    have f24 : St Z h23 a12 d_23 kd_23 (sb z) := (show [] = sb z by unfold sb mkS; rw [hn]; rfl) ▸ o23_0
    refine Go.retA hret rfl rfl (hb hby D_method_5_code_40) (by decide) (by decide) ?_
    intro vmR CR
    exact ⟨a12, d_23, kd_23, (by first | rfl | (simp only [own_nar]; done) | (congr 2; done)), (((((Keep.refl h []).trans K1 all0).trans KE7 all0).trans KE15 all0).trans K23 (allS (by first | (left; simp; done) | (right; omega)) all0)), f24⟩
  · rw [hn]
    refine Go.iloadN (hb hby D_method_5_code_5) (pc' := 6) rfl rfl ?_
    refine Go.newP (ty := .char) rfl (wd_12 g) (hb hby D_method_5_code_6) (pc' := 8) rfl (by decide) (cap := 1) (by decide) (by decide) (by decide) (by decide) ?_
    intro h25 a26 k27 g28 l29 E30 A31 S32 C33
    have KE30 := Keep.ofExt E30; have zE30 := E30.1
    have A31 : Ar Z h25 a26 k27 .char [(.int 0)] := A31
    refine Go.astoreN (hb hby D_method_5_code_8) (pc' := 9) rfl rfl (L' := #[.val (.long z), .second, .val (.int (1 : Int32)), .val (.ref a26)]) rfl ?_
    refine Go.iloadN (hb hby D_method_5_code_9) (pc' := 10) rfl rfl ?_
    refine Go.ifN (hb hby D_method_5_code_10) (pc' := 13) rfl (show ¬ (¬ (0 : Int32) < (1 : Int32)) from by decide) ?_
    refine Go.aloadN (hb hby D_method_5_code_13) (pc' := 14) rfl rfl rfl ?_
    refine Go.iconst (hb hby D_method_5_code_14) (pc' := 15) rfl (z := (0 : Int32)) rfl ?_
    refine Go.lloadN (hb hby D_method_5_code_15) (pc' := 16) rfl rfl ?_
    refine Go.callS (c_c0 (l := l) (nw := nw) g h25 z (by omega)) hown (wd_34 g) (wd_35 g) (wd_36 g) (wd_6 g) (by decide) (argsL := [(.long z)]) (lenOf pd_7 rfl) rfl (by rw [hml]; rfl) (W := 2) rfl (hb hby D_method_5_code_16) (pc' := 19) rfl (by decide) (by decide) (by decide) (by decide) all0 ?_
    rintro _ vm34 h34 ⟨rfl, K34⟩ C34
    have z34 := K34.1
    -- pc 19
    have f35 : Ar Z h34 a26 k27 .char [(.int 0)] := (A31.keep K34 nin0)
    refine Go.castore f35 (by decide) (Nat.lt_of_lt_of_eq (by decide : Int32.toNatClampNeg (0 : Int32) < 1) rfl) (by omega) (hb hby D_method_5_code_19) (pc' := 20) rfl ?_
    intro h36 A37 z38 K39 S40 C41
    rw [nch (cv0_b z)] at A37
    have A37 : Ar Z h36 a26 k27 .char [(.int (cv0 z))] := A37
    refine Go.iloadN (hb hby D_method_5_code_20) (pc' := 21) rfl rfl ?_
    refine Go.iconst (hb hby D_method_5_code_21) (pc' := 22) rfl (z := (1 : Int32)) rfl ?_
    refine Go.icmpY (hb hby D_method_5_code_22) (by decide) (pc' := 32) (by decide) (show ¬ (1 : Int32) < (1 : Int32) from by decide) ?_
    refine Go.newO hown (wd_13 g) (wd_14 g) (wd_15 g) (hb hby D_method_5_code_32) (pc' := 35) rfl (by decide) (by decide) ?_
    intro h42 a43 g44 l45 E46 X47 D48 S49 C50
    have KE46 := Keep.ofExt E46; have zE46 := E46.1
    have f51 : Fld Z h42 a43 "java/lang/String" "value" "[B" .null := D48 (Or.inr (wd_28 g)) (ty := (.array .byte)) (by decide)
    have f52 : Fld Z h42 a43 "java/lang/String" "coder" "B" (.int 0) := D48 (Or.inr (wd_29 g)) (ty := .byte) (by decide)
    refine Go.dup (hb hby D_method_5_code_35) (pc' := 36) rfl rfl ?_
    refine Go.aloadN (hb hby D_method_5_code_36) (pc' := 37) rfl rfl rfl ?_
    have f53 : Ar Z h42 a26 k27 .char [(.int (cv0 z))] := (A37.keep KE46 nin0)
    refine Go.callC (c_strinit (l := l) (nw := nw) g h42 a43 a26 k27 [(cv0 z)] (alS (cv0_b z) al0) (by simp) (by simp) (by first | omega | assumption | decide) X47 f52 f51 f53 (by omega)) hown rfl rfl (wd_16 g) (wd_17 g) (wd_18 g) (wd_15 g) (by decide) (argsL := [(.ref a26)]) (lenOf pd_6 rfl) rfl (by rw [hml]; rfl) (W := 1) rfl (hb hby D_method_5_code_37) (pc' := 40) rfl (by decide) (by decide) (by decide) (by decide) (allS ⟨by omega, S49⟩ all0) ?_
    rintro _ vm54 h54 ⟨d_54, kd_54, rfl, K54, p54_0, o54_0⟩ C54
    have z54 := K54.1
    have yo54_0 := ltN o54_0.lt; have yo54_0' := ltN o54_0.ltb
    -- pc 40
    have f55 : St Z h54 a43 d_54 kd_54 (sb z) := (show ([(cv0 z)].map by8) = sb z by unfold sb mkS; rw [hn]; rfl) ▸ o54_0
    refine Go.retA hret rfl rfl (hb hby D_method_5_code_40) (by decide) (by decide) ?_
    intro vmR CR
    exact ⟨a43, d_54, kd_54, (by first | rfl | (simp only [own_nar]; done) | (congr 2; done)), (((((((Keep.refl h []).trans K1 all0).trans KE30 all0).trans K34 all0).trans K39 (allS (by first | (left; simp; done) | (right; omega)) all0)).trans KE46 all0).trans K54 (allS (by first | (left; simp; done) | (right; omega)) all0)), f55⟩
  · rw [hn]
    refine Go.iloadN (hb hby D_method_5_code_5) (pc' := 6) rfl rfl ?_
    refine Go.newP (ty := .char) rfl (wd_12 g) (hb hby D_method_5_code_6) (pc' := 8) rfl (by decide) (cap := 2) (by decide) (by decide) (by decide) (by decide) ?_
    intro h56 a57 k58 g59 l60 E61 A62 S63 C64
    have KE61 := Keep.ofExt E61; have zE61 := E61.1
    have A62 : Ar Z h56 a57 k58 .char [(.int 0), (.int 0)] := A62
    refine Go.astoreN (hb hby D_method_5_code_8) (pc' := 9) rfl rfl (L' := #[.val (.long z), .second, .val (.int (2 : Int32)), .val (.ref a57)]) rfl ?_
    refine Go.iloadN (hb hby D_method_5_code_9) (pc' := 10) rfl rfl ?_
    refine Go.ifN (hb hby D_method_5_code_10) (pc' := 13) rfl (show ¬ (¬ (0 : Int32) < (2 : Int32)) from by decide) ?_
    refine Go.aloadN (hb hby D_method_5_code_13) (pc' := 14) rfl rfl rfl ?_
    refine Go.iconst (hb hby D_method_5_code_14) (pc' := 15) rfl (z := (0 : Int32)) rfl ?_
    refine Go.lloadN (hb hby D_method_5_code_15) (pc' := 16) rfl rfl ?_
    refine Go.callS (c_c0 (l := l) (nw := nw) g h56 z (by omega)) hown (wd_34 g) (wd_35 g) (wd_36 g) (wd_6 g) (by decide) (argsL := [(.long z)]) (lenOf pd_7 rfl) rfl (by rw [hml]; rfl) (W := 2) rfl (hb hby D_method_5_code_16) (pc' := 19) rfl (by decide) (by decide) (by decide) (by decide) all0 ?_
    rintro _ vm65 h65 ⟨rfl, K65⟩ C65
    have z65 := K65.1
    -- pc 19
    have f66 : Ar Z h65 a57 k58 .char [(.int 0), (.int 0)] := (A62.keep K65 nin0)
    refine Go.castore f66 (by decide) (Nat.lt_of_lt_of_eq (by decide : Int32.toNatClampNeg (0 : Int32) < 2) rfl) (by omega) (hb hby D_method_5_code_19) (pc' := 20) rfl ?_
    intro h67 A68 z69 K70 S71 C72
    rw [nch (cv0_b z)] at A68
    have A68 : Ar Z h67 a57 k58 .char [(.int (cv0 z)), (.int 0)] := A68
    refine Go.iloadN (hb hby D_method_5_code_20) (pc' := 21) rfl rfl ?_
    refine Go.iconst (hb hby D_method_5_code_21) (pc' := 22) rfl (z := (1 : Int32)) rfl ?_
    refine Go.icmpN (hb hby D_method_5_code_22) (pc' := 25) rfl (show ¬ (¬ (1 : Int32) < (2 : Int32)) from by decide) ?_
    refine Go.aloadN (hb hby D_method_5_code_25) (pc' := 26) rfl rfl rfl ?_
    refine Go.iconst (hb hby D_method_5_code_26) (pc' := 27) rfl (z := (1 : Int32)) rfl ?_
    refine Go.lloadN (hb hby D_method_5_code_27) (pc' := 28) rfl rfl ?_
    refine Go.callS (c_c1 (l := l) (nw := nw) g h67 z (by omega)) hown (wd_89 g) (wd_90 g) (wd_91 g) (wd_6 g) (by decide) (argsL := [(.long z)]) (lenOf pd_7 rfl) rfl (by rw [hml]; rfl) (W := 2) rfl (hb hby D_method_5_code_28) (pc' := 31) rfl (by decide) (by decide) (by decide) (by decide) all0 ?_
    rintro _ vm73 h73 ⟨rfl, K73⟩ C73
    have z73 := K73.1
    -- pc 31
    have f74 : Ar Z h73 a57 k58 .char [(.int (cv0 z)), (.int 0)] := (A68.keep K73 nin0)
    refine Go.castore f74 (by decide) (Nat.lt_of_lt_of_eq (by decide : Int32.toNatClampNeg (1 : Int32) < 2) rfl) (by omega) (hb hby D_method_5_code_31) (pc' := 32) rfl ?_
    intro h75 A76 z77 K78 S79 C80
    rw [nch (cv1_b z)] at A76
    have A76 : Ar Z h75 a57 k58 .char [(.int (cv0 z)), (.int (cv1 z))] := A76
    refine Go.newO hown (wd_13 g) (wd_14 g) (wd_15 g) (hb hby D_method_5_code_32) (pc' := 35) rfl (by decide) (by decide) ?_
    intro h81 a82 g83 l84 E85 X86 D87 S88 C89
    have KE85 := Keep.ofExt E85; have zE85 := E85.1
    have f90 : Fld Z h81 a82 "java/lang/String" "value" "[B" .null := D87 (Or.inr (wd_28 g)) (ty := (.array .byte)) (by decide)
    have f91 : Fld Z h81 a82 "java/lang/String" "coder" "B" (.int 0) := D87 (Or.inr (wd_29 g)) (ty := .byte) (by decide)
    refine Go.dup (hb hby D_method_5_code_35) (pc' := 36) rfl rfl ?_
    refine Go.aloadN (hb hby D_method_5_code_36) (pc' := 37) rfl rfl rfl ?_
    have f92 : Ar Z h81 a57 k58 .char [(.int (cv0 z)), (.int (cv1 z))] := (A76.keep KE85 nin0)
    refine Go.callC (c_strinit (l := l) (nw := nw) g h81 a82 a57 k58 [(cv0 z), (cv1 z)] (alS (cv0_b z) (alS (cv1_b z) al0)) (by simp) (by simp) (by first | omega | assumption | decide) X86 f91 f90 f92 (by omega)) hown rfl rfl (wd_16 g) (wd_17 g) (wd_18 g) (wd_15 g) (by decide) (argsL := [(.ref a57)]) (lenOf pd_6 rfl) rfl (by rw [hml]; rfl) (W := 1) rfl (hb hby D_method_5_code_37) (pc' := 40) rfl (by decide) (by decide) (by decide) (by decide) (allS ⟨by omega, S88⟩ all0) ?_
    rintro _ vm93 h93 ⟨d_93, kd_93, rfl, K93, p93_0, o93_0⟩ C93
    have z93 := K93.1
    have yo93_0 := ltN o93_0.lt; have yo93_0' := ltN o93_0.ltb
    -- pc 40
    have f94 : St Z h93 a82 d_93 kd_93 (sb z) := (show ([(cv0 z), (cv1 z)].map by8) = sb z by unfold sb mkS; rw [hn]; rfl) ▸ o93_0
    refine Go.retA hret rfl rfl (hb hby D_method_5_code_40) (by decide) (by decide) ?_
    intro vmR CR
    exact ⟨a82, d_93, kd_93, (by first | rfl | (simp only [own_nar]; done) | (congr 2; done)), (((((((((Keep.refl h []).trans K1 all0).trans KE61 all0).trans K65 all0).trans K70 (allS (by first | (left; simp; done) | (right; omega)) all0)).trans K73 all0).trans K78 (allS (by first | (left; simp; done) | (right; omega)) all0)).trans KE85 all0).trans K93 (allS (by first | (left; simp; done) | (right; omega)) all0)), f94⟩
set_option maxRecDepth 65536 in
set_option maxHeartbeats 40000000 in
theorem c_same {l : Launch} {Z : State} {a0 : Array Value} {EL : List (String × Nat)} {nw : Prop} {zc : Int32} (g : GH Z a0 EL zc) (h : Heap) (u : Int64) (v : Int64) (zz : Z.heap.size ≤ h.size) :
    Ct l Z EL nw [] ⟨"com/example/kunci/kunci/PermissionEqualsPinLaw", "same", "(JJ)Z"⟩ method_6_code 5 (some .boolean) ({ frames := 1, cells := 0, slots := 0, locals := 14 } : Room) #[(.long u), (.long v)] h [] (fun res vm' h' => res = some (.int (bo (sb u = sb v))) ∧ Keep h h' []) := by
  refine Ct.of_go (a0 := a0) g.2.1 pn_3 (L0 := #[.val (.long u), .second, .val (.long v), .second, .unset]) (fun m => by first | (simp [entryFrame, mkF, argsToLocals, Value.category, own_rep]; done) | rfl) ?_
  intro p e s m below meth c hown hby hml hret hnm hZ hC hO hsf
  refine Go.lloadN (hb hby D_method_6_code_0) (pc' := 1) rfl rfl ?_
  refine Go.callS (c_len (l := l) (nw := nw) g h u (by omega)) hown (wd_8 g) (wd_9 g) (wd_10 g) (wd_6 g) (by decide) (argsL := [(.long u)]) (lenOf pd_5 rfl) rfl (by rw [hml]; rfl) (W := 0) rfl (hb hby D_method_6_code_1) (pc' := 4) rfl (by decide) (by decide) (by decide) (by decide) all0 ?_
  rintro _ vm1 h1 ⟨rfl, K1⟩ C1
  have z1 := K1.1
  -- pc 4
  refine Go.istore (hb hby D_method_6_code_4) (pc' := 6) rfl (L' := #[.val (.long u), .second, .val (.long v), .second, .val (.int (lenv u))]) rfl ?_
  refine Go.iload (hb hby D_method_6_code_6) (pc' := 8) rfl rfl ?_
  refine Go.lloadN (hb hby D_method_6_code_8) (pc' := 9) rfl rfl ?_
  refine Go.callS (c_len (l := l) (nw := nw) g h1 v (by omega)) hown (wd_8 g) (wd_9 g) (wd_10 g) (wd_6 g) (by decide) (argsL := [(.long v)]) (lenOf pd_5 rfl) rfl (by rw [hml]; rfl) (W := 1) rfl (hb hby D_method_6_code_9) (pc' := 12) rfl (by decide) (by decide) (by decide) (by decide) all0 ?_
  rintro _ vm2 h2 ⟨rfl, K2⟩ C2
  have z2 := K2.1
  -- pc 12
  refine Go.icmp (hb hby D_method_6_code_12) (by decide) (pc' := 17) (by decide) (pc2 := 15) rfl (fun (q12 : (lenv u) = (lenv v)) => ?_) (fun (q12 : ¬ ((lenv u) = (lenv v))) => ?_)
  · refine Go.iload (hb hby D_method_6_code_17) (pc' := 19) rfl rfl ?_
    refine Go.ifc (hb hby D_method_6_code_19) (by decide) (pc' := 35) (by decide) (pc2 := 22) rfl (fun (q19 : ¬ (0 : Int32) < (lenv u)) => ?_) (fun (q19 : ¬ (¬ (0 : Int32) < (lenv u))) => ?_)
    · refine Go.iload (hb hby D_method_6_code_35) (pc' := 37) rfl rfl ?_
      refine Go.iconst (hb hby D_method_6_code_37) (pc' := 38) rfl (z := (1 : Int32)) rfl ?_
      refine Go.icmp (hb hby D_method_6_code_38) (by decide) (pc' := 54) (by decide) (pc2 := 41) rfl (fun (q38 : ¬ (1 : Int32) < (lenv u)) => ?_) (fun (q38 : ¬ (¬ (1 : Int32) < (lenv u))) => ?_)
      · refine Go.iconst (hb hby D_method_6_code_54) (pc' := 55) rfl (z := (1 : Int32)) rfl ?_
        refine Go.retN (t := .boolean) hret (by simp) (hb hby D_method_6_code_55) (by decide) (by decide) ?_
        intro vmR CR
        exact ⟨(by rw [bo_yes ((sb_iff u v).mpr ⟨q12, Or.inl (not0lt.mp q19), Or.inl (not1lt.mp q38)⟩)]; rfl), (((Keep.refl h []).trans K1 all0).trans K2 all0)⟩
      · refine Go.lloadN (hb hby D_method_6_code_41) (pc' := 42) rfl rfl ?_
        refine Go.callS (c_c1 (l := l) (nw := nw) g h2 u (by omega)) hown (wd_89 g) (wd_90 g) (wd_91 g) (wd_6 g) (by decide) (argsL := [(.long u)]) (lenOf pd_7 rfl) rfl (by rw [hml]; rfl) (W := 0) rfl (hb hby D_method_6_code_42) (pc' := 45) rfl (by decide) (by decide) (by decide) (by decide) all0 ?_
        rintro _ vm3 h3 ⟨rfl, K3⟩ C3
        have z3 := K3.1
        -- pc 45
        refine Go.lloadN (hb hby D_method_6_code_45) (pc' := 46) rfl rfl ?_
        refine Go.callS (c_c1 (l := l) (nw := nw) g h3 v (by omega)) hown (wd_89 g) (wd_90 g) (wd_91 g) (wd_6 g) (by decide) (argsL := [(.long v)]) (lenOf pd_7 rfl) rfl (by rw [hml]; rfl) (W := 1) rfl (hb hby D_method_6_code_46) (pc' := 49) rfl (by decide) (by decide) (by decide) (by decide) all0 ?_
        rintro _ vm4 h4 ⟨rfl, K4⟩ C4
        have z4 := K4.1
        -- pc 49
        refine Go.icmp (hb hby D_method_6_code_49) (by decide) (pc' := 54) (by decide) (pc2 := 52) rfl (fun (q49 : (cv1 u) = (cv1 v)) => ?_) (fun (q49 : ¬ ((cv1 u) = (cv1 v))) => ?_)
        · refine Go.iconst (hb hby D_method_6_code_54) (pc' := 55) rfl (z := (1 : Int32)) rfl ?_
          refine Go.retN (t := .boolean) hret (by simp) (hb hby D_method_6_code_55) (by decide) (by decide) ?_
          intro vmR CR
          exact ⟨(by rw [bo_yes ((sb_iff u v).mpr ⟨q12, Or.inl (not0lt.mp q19), Or.inr q49⟩)]; rfl), (((((Keep.refl h []).trans K1 all0).trans K2 all0).trans K3 all0).trans K4 all0)⟩
        · refine Go.iconst (hb hby D_method_6_code_52) (pc' := 53) rfl (z := (0 : Int32)) rfl ?_
          refine Go.retN (t := .boolean) hret (by simp) (hb hby D_method_6_code_53) (by decide) (by decide) ?_
          intro vmR CR
          exact ⟨(by rw [bo_no (fun z => ((sb_iff u v).mp z).2.2.elim (fun y => (not1lt.mpr y) (Classical.not_not.mp q38)) q49)]; rfl), (((((Keep.refl h []).trans K1 all0).trans K2 all0).trans K3 all0).trans K4 all0)⟩
    · refine Go.lloadN (hb hby D_method_6_code_22) (pc' := 23) rfl rfl ?_
      refine Go.callS (c_c0 (l := l) (nw := nw) g h2 u (by omega)) hown (wd_34 g) (wd_35 g) (wd_36 g) (wd_6 g) (by decide) (argsL := [(.long u)]) (lenOf pd_7 rfl) rfl (by rw [hml]; rfl) (W := 0) rfl (hb hby D_method_6_code_23) (pc' := 26) rfl (by decide) (by decide) (by decide) (by decide) all0 ?_
      rintro _ vm5 h5 ⟨rfl, K5⟩ C5
      have z5 := K5.1
      -- pc 26
      refine Go.lloadN (hb hby D_method_6_code_26) (pc' := 27) rfl rfl ?_
      refine Go.callS (c_c0 (l := l) (nw := nw) g h5 v (by omega)) hown (wd_34 g) (wd_35 g) (wd_36 g) (wd_6 g) (by decide) (argsL := [(.long v)]) (lenOf pd_7 rfl) rfl (by rw [hml]; rfl) (W := 1) rfl (hb hby D_method_6_code_27) (pc' := 30) rfl (by decide) (by decide) (by decide) (by decide) all0 ?_
      rintro _ vm6 h6 ⟨rfl, K6⟩ C6
      have z6 := K6.1
      -- pc 30
      refine Go.icmp (hb hby D_method_6_code_30) (by decide) (pc' := 35) (by decide) (pc2 := 33) rfl (fun (q30 : (cv0 u) = (cv0 v)) => ?_) (fun (q30 : ¬ ((cv0 u) = (cv0 v))) => ?_)
      · refine Go.iload (hb hby D_method_6_code_35) (pc' := 37) rfl rfl ?_
        refine Go.iconst (hb hby D_method_6_code_37) (pc' := 38) rfl (z := (1 : Int32)) rfl ?_
        refine Go.icmp (hb hby D_method_6_code_38) (by decide) (pc' := 54) (by decide) (pc2 := 41) rfl (fun (q38 : ¬ (1 : Int32) < (lenv u)) => ?_) (fun (q38 : ¬ (¬ (1 : Int32) < (lenv u))) => ?_)
        · refine Go.iconst (hb hby D_method_6_code_54) (pc' := 55) rfl (z := (1 : Int32)) rfl ?_
          refine Go.retN (t := .boolean) hret (by simp) (hb hby D_method_6_code_55) (by decide) (by decide) ?_
          intro vmR CR
          exact ⟨(by rw [bo_yes ((sb_iff u v).mpr ⟨q12, Or.inr q30, Or.inl (not1lt.mp q38)⟩)]; rfl), (((((Keep.refl h []).trans K1 all0).trans K2 all0).trans K5 all0).trans K6 all0)⟩
        · refine Go.lloadN (hb hby D_method_6_code_41) (pc' := 42) rfl rfl ?_
          refine Go.callS (c_c1 (l := l) (nw := nw) g h6 u (by omega)) hown (wd_89 g) (wd_90 g) (wd_91 g) (wd_6 g) (by decide) (argsL := [(.long u)]) (lenOf pd_7 rfl) rfl (by rw [hml]; rfl) (W := 0) rfl (hb hby D_method_6_code_42) (pc' := 45) rfl (by decide) (by decide) (by decide) (by decide) all0 ?_
          rintro _ vm7 h7 ⟨rfl, K7⟩ C7
          have z7 := K7.1
          -- pc 45
          refine Go.lloadN (hb hby D_method_6_code_45) (pc' := 46) rfl rfl ?_
          refine Go.callS (c_c1 (l := l) (nw := nw) g h7 v (by omega)) hown (wd_89 g) (wd_90 g) (wd_91 g) (wd_6 g) (by decide) (argsL := [(.long v)]) (lenOf pd_7 rfl) rfl (by rw [hml]; rfl) (W := 1) rfl (hb hby D_method_6_code_46) (pc' := 49) rfl (by decide) (by decide) (by decide) (by decide) all0 ?_
          rintro _ vm8 h8 ⟨rfl, K8⟩ C8
          have z8 := K8.1
          -- pc 49
          refine Go.icmp (hb hby D_method_6_code_49) (by decide) (pc' := 54) (by decide) (pc2 := 52) rfl (fun (q49 : (cv1 u) = (cv1 v)) => ?_) (fun (q49 : ¬ ((cv1 u) = (cv1 v))) => ?_)
          · refine Go.iconst (hb hby D_method_6_code_54) (pc' := 55) rfl (z := (1 : Int32)) rfl ?_
            refine Go.retN (t := .boolean) hret (by simp) (hb hby D_method_6_code_55) (by decide) (by decide) ?_
            intro vmR CR
            exact ⟨(by rw [bo_yes ((sb_iff u v).mpr ⟨q12, Or.inr q30, Or.inr q49⟩)]; rfl), (((((((Keep.refl h []).trans K1 all0).trans K2 all0).trans K5 all0).trans K6 all0).trans K7 all0).trans K8 all0)⟩
          · refine Go.iconst (hb hby D_method_6_code_52) (pc' := 53) rfl (z := (0 : Int32)) rfl ?_
            refine Go.retN (t := .boolean) hret (by simp) (hb hby D_method_6_code_53) (by decide) (by decide) ?_
            intro vmR CR
            exact ⟨(by rw [bo_no (fun z => ((sb_iff u v).mp z).2.2.elim (fun y => (not1lt.mpr y) (Classical.not_not.mp q38)) q49)]; rfl), (((((((Keep.refl h []).trans K1 all0).trans K2 all0).trans K5 all0).trans K6 all0).trans K7 all0).trans K8 all0)⟩
      · refine Go.iconst (hb hby D_method_6_code_33) (pc' := 34) rfl (z := (0 : Int32)) rfl ?_
        refine Go.retN (t := .boolean) hret (by simp) (hb hby D_method_6_code_34) (by decide) (by decide) ?_
        intro vmR CR
        exact ⟨(by rw [bo_no (fun z => ((sb_iff u v).mp z).2.1.elim (fun y => (not0lt.mpr y) (Classical.not_not.mp q19)) q30)]; rfl), (((((Keep.refl h []).trans K1 all0).trans K2 all0).trans K5 all0).trans K6 all0)⟩
  · refine Go.iconst (hb hby D_method_6_code_15) (pc' := 16) rfl (z := (0 : Int32)) rfl ?_
    refine Go.retN (t := .boolean) hret (by simp) (hb hby D_method_6_code_16) (by decide) (by decide) ?_
    intro vmR CR
    exact ⟨(by rw [bo_no (fun z => q12 ((sb_iff u v).mp z).1)]; rfl), (((Keep.refl h []).trans K1 all0).trans K2 all0)⟩
set_option maxRecDepth 65536 in
set_option maxHeartbeats 40000000 in
theorem c_nonnull {l : Launch} {Z : State} {a0 : Array Value} {EL : List (String × Nat)} {nw : Prop} {zc : Int32} (g : GH Z a0 EL zc) (h : Heap) (a : Addr) (b : Addr) (zz : Z.heap.size ≤ h.size) :
    Ct l Z EL nw [] ⟨"java/util/Objects", "requireNonNull", "(Ljava/lang/Object;Ljava/lang/String;)Ljava/lang/Object;"⟩ jdk_31_method_11_code 2 (some (.object "java/lang/Object")) ({ frames := 0, cells := 0, slots := 0, locals := 0 } : Room) #[(.ref a), (.ref b)] h [] (fun res vm' h' => res = some (.ref a) ∧ Keep h h' []) := by
  refine Ct.of_go (a0 := a0) g.2.1 pn_4 (L0 := #[.val (.ref a), .val (.ref b)]) (fun m => by first | (simp [entryFrame, mkF, argsToLocals, Value.category, own_rep]; done) | rfl) ?_
  intro p e s m below meth c hown hby hml hret hnm hZ hC hO hsf
  refine Go.aloadN (hb hby D_jdk_31_method_11_code_0) (pc' := 1) rfl rfl rfl ?_
  refine Go.ifnonnullY (hb hby D_jdk_31_method_11_code_1) (by decide) (pc' := 13) (by decide) ?_
  refine Go.aloadN (hb hby D_jdk_31_method_11_code_13) (pc' := 14) rfl rfl rfl ?_
  refine Go.retA hret rfl rfl (hb hby D_jdk_31_method_11_code_14) (by decide) (by decide) ?_
  intro vmR CR
  exact ⟨(by first | rfl | (simp only [own_nar]; done) | (congr 2; done)), (Keep.refl h [])⟩
set_option maxRecDepth 65536 in
set_option maxHeartbeats 40000000 in
theorem c_perm {l : Launch} {Z : State} {a0 : Array Value} {EL : List (String × Nat)} {nw : Prop} {zc : Int32} (g : GH Z a0 EL zc) (hnw : ¬ nw) (h : Heap) (a : Addr) (x1 : Addr) (x2 : Addr) (x3 : Addr) (z : Int32) (hz : z = 0 ∨ z = 1) (ga : Z.heap.size ≤ a) (e0 : Exa Z h a "com/example/kunci/kunci/Permission") (e1 : Fld Z h a "com/example/kunci/kunci/Permission" "entity" "Ljava/lang/String;" .null) (e2 : Fld Z h a "com/example/kunci/kunci/Permission" "principal" "Ljava/lang/String;" .null) (e3 : Fld Z h a "com/example/kunci/kunci/Permission" "role" "Ljava/lang/String;" .null) (e4 : Fld Z h a "com/example/kunci/kunci/Permission" "propagating" "Z" (.int 0)) (e5 : Exa Z h x1 "java/lang/String") (e6 : Exa Z h x2 "java/lang/String") (e7 : Exa Z h x3 "java/lang/String") (zz : Z.heap.size ≤ h.size) :
    Ct l Z EL nw [] ⟨"com/example/kunci/kunci/Permission", "<init>", "(Ljava/lang/String;Ljava/lang/String;Ljava/lang/String;Z)V"⟩ prog_7_method_1_code 5 none ({ frames := 1, cells := 6, slots := 88, locals := 14 } : Room) #[(.ref a), (.ref x1), (.ref x2), (.ref x3), (.int z)] h [] (fun res vm' h' => res = none ∧ Keep h h' [a] ∧ Fld Z h' a "com/example/kunci/kunci/Permission" "entity" "Ljava/lang/String;" (.ref x1) ∧ Fld Z h' a "com/example/kunci/kunci/Permission" "principal" "Ljava/lang/String;" (.ref x2) ∧ Fld Z h' a "com/example/kunci/kunci/Permission" "role" "Ljava/lang/String;" (.ref x3) ∧ Fld Z h' a "com/example/kunci/kunci/Permission" "propagating" "Z" (.int z)) := by
  have ye0 := ltN e0.lt
  have ye1 := ltN e1.lt
  have ye2 := ltN e2.lt
  have ye3 := ltN e3.lt
  have ye4 := ltN e4.lt
  have ye5 := ltN e5.lt
  have ye6 := ltN e6.lt
  have ye7 := ltN e7.lt
  refine Ct.of_go (a0 := a0) g.2.1 pn_5 (L0 := #[.val (.ref a), .val (.ref x1), .val (.ref x2), .val (.ref x3), .val (.int z)]) (fun m => by first | (simp [entryFrame, mkF, argsToLocals, Value.category, own_rep]; done) | rfl) ?_
  intro p e s m below meth c hown hby hml hret hnm hZ hC hO hsf
  refine Go.aloadN (hb hby D_prog_7_method_1_code_0) (pc' := 1) rfl rfl rfl ?_
  refine Go.initO hown (wd_52 g) (wd_24 g) (wd_25 g) (by rw [hml]; rfl) (hb hby D_prog_7_method_1_code_1) (by decide) (W := 0) rfl (by decide) (pc' := 4) rfl ?_
  refine Go.aloadN (hb hby D_prog_7_method_1_code_4) (pc' := 5) rfl rfl rfl ?_
  refine Go.aloadN (hb hby D_prog_7_method_1_code_5) (pc' := 6) rfl rfl rfl ?_
  refine Go.ldcStr (n0 := 24) (vs := ([(101 : Int32), (110 : Int32), (116 : Int32), (105 : Int32), (116 : Int32), (121 : Int32)] : List Int32).map Value.int) hnw hown (wd_53 g) g.2.2.1 (g.2.2.2.1 _ (by decide)) (by decide) (hb hby D_prog_7_method_1_code_6) (pc' := 8) rfl (by decide) (by decide) (by decide) (by decide) ?_
  intro vm1 h2 a3 b4 k5 E6 C7 X8 F9 F10 A11 l12 l13 N14
  have KE6 := Keep.ofExt E6; have zE6 := E6.1
  have f15 : St Z h2 a3 b4 k5 [(101 : Int32), (110 : Int32), (116 : Int32), (105 : Int32), (116 : Int32), (121 : Int32)] := ⟨X8, F9, F10, A11, by decide⟩
  refine Go.callS (c_nonnull (l := l) (nw := nw) g h2 x1 a3 (by omega)) hown (wd_54 g) (wd_55 g) (wd_57 g) (wd_56 g) (by decide) (argsL := [(.ref x1), (.ref a3)]) (lenOf pd_8 rfl) rfl (by rw [hml]; rfl) (W := 1) rfl (hb hby D_prog_7_method_1_code_8) (pc' := 11) rfl (by decide) (by decide) (by decide) (by decide) all0 ?_
  rintro _ vm16 h16 ⟨rfl, K16⟩ C16
  have z16 := K16.1
  -- pc 11
  have f17 : Exa Z h16 x1 "java/lang/String" := ((e5.keep KE6).keep K16)
  refine Go.castY hown (wd_58 g) (Ins.self f17) (hb hby D_prog_7_method_1_code_11) (pc' := 14) rfl ?_
  have f18 : Fld Z h16 a "com/example/kunci/kunci/Permission" "entity" "Ljava/lang/String;" .null := ((e1.keep KE6 nin0).keep K16 nin0)
  have f19 : Exa Z h16 a "com/example/kunci/kunci/Permission" := ((e0.keep KE6).keep K16)
  refine Go.putF hown (wd_59 g) Via.refl f18 f19 (Or.inr ⟨(wd_60 g), rfl, hnm⟩) (wd_2 g) (ty := (.object "java/lang/String")) (by decide) rfl rfl (Or.inl ⟨by decide, by decide⟩) (by omega) (hb hby D_prog_7_method_1_code_14) (pc' := 17) rfl ?_
  intro h20 W21 z23 K22 C24
  have f25 : Fld Z h16 a "com/example/kunci/kunci/Permission" "principal" "Ljava/lang/String;" .null := ((e2.keep KE6 nin0).keep K16 nin0)
  have f26 : Fld Z h16 a "com/example/kunci/kunci/Permission" "role" "Ljava/lang/String;" .null := ((e3.keep KE6 nin0).keep K16 nin0)
  have f27 : Fld Z h16 a "com/example/kunci/kunci/Permission" "propagating" "Z" (.int 0) := ((e4.keep KE6 nin0).keep K16 nin0)
  have f28 : Fld Z h20 a "com/example/kunci/kunci/Permission" "entity" "Ljava/lang/String;" (.ref x1) := (Fld.same W21 f18)
  have f29 : Fld Z h20 a "com/example/kunci/kunci/Permission" "principal" "Ljava/lang/String;" .null := (Fld.other W21 f25 (Or.inr (slot_ne (Or.inr (wd_63 g)) (Or.inr (wd_60 g)) (by decide) (t := (.object "java/lang/String")) (t' := (.object "java/lang/String")) (by decide) (by decide))))
  have f30 : Fld Z h20 a "com/example/kunci/kunci/Permission" "role" "Ljava/lang/String;" .null := (Fld.other W21 f26 (Or.inr (slot_ne (Or.inr (wd_66 g)) (Or.inr (wd_60 g)) (by decide) (t := (.object "java/lang/String")) (t' := (.object "java/lang/String")) (by decide) (by decide))))
  have f31 : Fld Z h20 a "com/example/kunci/kunci/Permission" "propagating" "Z" (.int 0) := (Fld.other W21 f27 (Or.inr (slot_ne (Or.inr (wd_68 g)) (Or.inr (wd_60 g)) (by decide) (t := .boolean) (t' := (.object "java/lang/String")) (by decide) (by decide))))
  refine Go.aloadN (hb hby D_prog_7_method_1_code_17) (pc' := 18) rfl rfl rfl ?_
  refine Go.aloadN (hb hby D_prog_7_method_1_code_18) (pc' := 19) rfl rfl rfl ?_
  refine Go.ldcStr (n0 := 36) (vs := ([(112 : Int32), (114 : Int32), (105 : Int32), (110 : Int32), (99 : Int32), (105 : Int32), (112 : Int32), (97 : Int32), (108 : Int32)] : List Int32).map Value.int) hnw hown (wd_61 g) g.2.2.1 (g.2.2.2.1 _ (by decide)) (by decide) (hb hby D_prog_7_method_1_code_19) (pc' := 21) rfl (by decide) (by decide) (by decide) (by decide) ?_
  intro vm32 h33 a34 b35 k36 E37 C38 X39 F40 F41 A42 l43 l44 N45
  have KE37 := Keep.ofExt E37; have zE37 := E37.1
  have f46 : St Z h33 a34 b35 k36 [(112 : Int32), (114 : Int32), (105 : Int32), (110 : Int32), (99 : Int32), (105 : Int32), (112 : Int32), (97 : Int32), (108 : Int32)] := ⟨X39, F40, F41, A42, by decide⟩
  refine Go.callS (c_nonnull (l := l) (nw := nw) g h33 x2 a34 (by omega)) hown (wd_54 g) (wd_55 g) (wd_57 g) (wd_56 g) (by decide) (argsL := [(.ref x2), (.ref a34)]) (lenOf pd_8 rfl) rfl (by rw [hml]; rfl) (W := 1) rfl (hb hby D_prog_7_method_1_code_21) (pc' := 24) rfl (by decide) (by decide) (by decide) (by decide) all0 ?_
  rintro _ vm47 h47 ⟨rfl, K47⟩ C47
  have z47 := K47.1
  -- pc 24
  have f48 : Exa Z h47 x2 "java/lang/String" := (((((e6.keep KE6).keep K16).keep K22).keep KE37).keep K47)
  refine Go.castY hown (wd_58 g) (Ins.self f48) (hb hby D_prog_7_method_1_code_24) (pc' := 27) rfl ?_
  have f49 : Fld Z h47 a "com/example/kunci/kunci/Permission" "principal" "Ljava/lang/String;" .null := ((f29.keep KE37 nin0).keep K47 nin0)
  have f50 : Exa Z h47 a "com/example/kunci/kunci/Permission" := (((f19.keep K22).keep KE37).keep K47)
  refine Go.putF hown (wd_62 g) Via.refl f49 f50 (Or.inr ⟨(wd_63 g), rfl, hnm⟩) (wd_2 g) (ty := (.object "java/lang/String")) (by decide) rfl rfl (Or.inl ⟨by decide, by decide⟩) (by omega) (hb hby D_prog_7_method_1_code_27) (pc' := 30) rfl ?_
  intro h51 W52 z54 K53 C55
  have f56 : Fld Z h47 a "com/example/kunci/kunci/Permission" "entity" "Ljava/lang/String;" (.ref x1) := ((f28.keep KE37 nin0).keep K47 nin0)
  have f57 : Fld Z h47 a "com/example/kunci/kunci/Permission" "role" "Ljava/lang/String;" .null := ((f30.keep KE37 nin0).keep K47 nin0)
  have f58 : Fld Z h47 a "com/example/kunci/kunci/Permission" "propagating" "Z" (.int 0) := ((f31.keep KE37 nin0).keep K47 nin0)
  have f59 : Fld Z h51 a "com/example/kunci/kunci/Permission" "entity" "Ljava/lang/String;" (.ref x1) := (Fld.other W52 f56 (Or.inr (slot_ne (Or.inr (wd_60 g)) (Or.inr (wd_63 g)) (by decide) (t := (.object "java/lang/String")) (t' := (.object "java/lang/String")) (by decide) (by decide))))
  have f60 : Fld Z h51 a "com/example/kunci/kunci/Permission" "principal" "Ljava/lang/String;" (.ref x2) := (Fld.same W52 f49)
  have f61 : Fld Z h51 a "com/example/kunci/kunci/Permission" "role" "Ljava/lang/String;" .null := (Fld.other W52 f57 (Or.inr (slot_ne (Or.inr (wd_66 g)) (Or.inr (wd_63 g)) (by decide) (t := (.object "java/lang/String")) (t' := (.object "java/lang/String")) (by decide) (by decide))))
  have f62 : Fld Z h51 a "com/example/kunci/kunci/Permission" "propagating" "Z" (.int 0) := (Fld.other W52 f58 (Or.inr (slot_ne (Or.inr (wd_68 g)) (Or.inr (wd_63 g)) (by decide) (t := .boolean) (t' := (.object "java/lang/String")) (by decide) (by decide))))
  refine Go.aloadN (hb hby D_prog_7_method_1_code_30) (pc' := 31) rfl rfl rfl ?_
  refine Go.aloadN (hb hby D_prog_7_method_1_code_31) (pc' := 32) rfl rfl rfl ?_
  refine Go.ldcStr (n0 := 16) (vs := ([(114 : Int32), (111 : Int32), (108 : Int32), (101 : Int32)] : List Int32).map Value.int) hnw hown (wd_64 g) g.2.2.1 (g.2.2.2.1 _ (by decide)) (by decide) (hb hby D_prog_7_method_1_code_32) (pc' := 34) rfl (by decide) (by decide) (by decide) (by decide) ?_
  intro vm63 h64 a65 b66 k67 E68 C69 X70 F71 F72 A73 l74 l75 N76
  have KE68 := Keep.ofExt E68; have zE68 := E68.1
  have f77 : St Z h64 a65 b66 k67 [(114 : Int32), (111 : Int32), (108 : Int32), (101 : Int32)] := ⟨X70, F71, F72, A73, by decide⟩
  refine Go.callS (c_nonnull (l := l) (nw := nw) g h64 x3 a65 (by omega)) hown (wd_54 g) (wd_55 g) (wd_57 g) (wd_56 g) (by decide) (argsL := [(.ref x3), (.ref a65)]) (lenOf pd_8 rfl) rfl (by rw [hml]; rfl) (W := 1) rfl (hb hby D_prog_7_method_1_code_34) (pc' := 37) rfl (by decide) (by decide) (by decide) (by decide) all0 ?_
  rintro _ vm78 h78 ⟨rfl, K78⟩ C78
  have z78 := K78.1
  -- pc 37
  have f79 : Exa Z h78 x3 "java/lang/String" := ((((((((e7.keep KE6).keep K16).keep K22).keep KE37).keep K47).keep K53).keep KE68).keep K78)
  refine Go.castY hown (wd_58 g) (Ins.self f79) (hb hby D_prog_7_method_1_code_37) (pc' := 40) rfl ?_
  have f80 : Fld Z h78 a "com/example/kunci/kunci/Permission" "role" "Ljava/lang/String;" .null := ((f61.keep KE68 nin0).keep K78 nin0)
  have f81 : Exa Z h78 a "com/example/kunci/kunci/Permission" := (((f50.keep K53).keep KE68).keep K78)
  refine Go.putF hown (wd_65 g) Via.refl f80 f81 (Or.inr ⟨(wd_66 g), rfl, hnm⟩) (wd_2 g) (ty := (.object "java/lang/String")) (by decide) rfl rfl (Or.inl ⟨by decide, by decide⟩) (by omega) (hb hby D_prog_7_method_1_code_40) (pc' := 43) rfl ?_
  intro h82 W83 z85 K84 C86
  have f87 : Fld Z h78 a "com/example/kunci/kunci/Permission" "entity" "Ljava/lang/String;" (.ref x1) := ((f59.keep KE68 nin0).keep K78 nin0)
  have f88 : Fld Z h78 a "com/example/kunci/kunci/Permission" "principal" "Ljava/lang/String;" (.ref x2) := ((f60.keep KE68 nin0).keep K78 nin0)
  have f89 : Fld Z h78 a "com/example/kunci/kunci/Permission" "propagating" "Z" (.int 0) := ((f62.keep KE68 nin0).keep K78 nin0)
  have f90 : Fld Z h82 a "com/example/kunci/kunci/Permission" "entity" "Ljava/lang/String;" (.ref x1) := (Fld.other W83 f87 (Or.inr (slot_ne (Or.inr (wd_60 g)) (Or.inr (wd_66 g)) (by decide) (t := (.object "java/lang/String")) (t' := (.object "java/lang/String")) (by decide) (by decide))))
  have f91 : Fld Z h82 a "com/example/kunci/kunci/Permission" "principal" "Ljava/lang/String;" (.ref x2) := (Fld.other W83 f88 (Or.inr (slot_ne (Or.inr (wd_63 g)) (Or.inr (wd_66 g)) (by decide) (t := (.object "java/lang/String")) (t' := (.object "java/lang/String")) (by decide) (by decide))))
  have f92 : Fld Z h82 a "com/example/kunci/kunci/Permission" "role" "Ljava/lang/String;" (.ref x3) := (Fld.same W83 f80)
  have f93 : Fld Z h82 a "com/example/kunci/kunci/Permission" "propagating" "Z" (.int 0) := (Fld.other W83 f89 (Or.inr (slot_ne (Or.inr (wd_68 g)) (Or.inr (wd_66 g)) (by decide) (t := .boolean) (t' := (.object "java/lang/String")) (by decide) (by decide))))
  refine Go.aloadN (hb hby D_prog_7_method_1_code_43) (pc' := 44) rfl rfl rfl ?_
  refine Go.iload (hb hby D_prog_7_method_1_code_44) (pc' := 46) rfl rfl ?_
  have f94 : Exa Z h82 a "com/example/kunci/kunci/Permission" := (f81.keep K84)
  refine Go.putF hown (wd_67 g) Via.refl f93 f94 (Or.inr ⟨(wd_68 g), rfl, hnm⟩) (wd_2 g) (ty := .boolean) (by decide) (v' := (.int (nar .boolean z))) rfl (by first | rfl | exact fits_nar_bool _ ) (Or.inl ⟨by decide, by decide⟩) (by omega) (hb hby D_prog_7_method_1_code_46) (pc' := 49) rfl ?_
  intro h95 W96 z98 K97 C99
  have f100 : Fld Z h95 a "com/example/kunci/kunci/Permission" "entity" "Ljava/lang/String;" (.ref x1) := (Fld.other W96 f90 (Or.inr (slot_ne (Or.inr (wd_60 g)) (Or.inr (wd_68 g)) (by decide) (t := (.object "java/lang/String")) (t' := .boolean) (by decide) (by decide))))
  have f101 : Fld Z h95 a "com/example/kunci/kunci/Permission" "principal" "Ljava/lang/String;" (.ref x2) := (Fld.other W96 f91 (Or.inr (slot_ne (Or.inr (wd_63 g)) (Or.inr (wd_68 g)) (by decide) (t := (.object "java/lang/String")) (t' := .boolean) (by decide) (by decide))))
  have f102 : Fld Z h95 a "com/example/kunci/kunci/Permission" "role" "Ljava/lang/String;" (.ref x3) := (Fld.other W96 f92 (Or.inr (slot_ne (Or.inr (wd_66 g)) (Or.inr (wd_68 g)) (by decide) (t := (.object "java/lang/String")) (t' := .boolean) (by decide) (by decide))))
  have f103 : Fld Z h95 a "com/example/kunci/kunci/Permission" "propagating" "Z" (.int (nar .boolean z)) := (Fld.same W96 f93)
  have f104 : Fld Z h95 a "com/example/kunci/kunci/Permission" "propagating" "Z" (.int z) := by have q := f103; rw [nar01 hz] at q; exact q
  refine Go.ret hret (hb hby D_prog_7_method_1_code_49) (by decide) (by decide) ?_
  intro vmR CR
  exact ⟨rfl, (((((((((((Keep.refl h [a]).trans KE6 all0).trans K16 all0).trans K22 (allS (by first | (left; simp; done) | (right; omega)) all0)).trans KE37 all0).trans K47 all0).trans K53 (allS (by first | (left; simp; done) | (right; omega)) all0)).trans KE68 all0).trans K78 all0).trans K84 (allS (by first | (left; simp; done) | (right; omega)) all0)).trans K97 (allS (by first | (left; simp; done) | (right; omega)) all0)), f100, f101, f102, f104⟩
set_option maxRecDepth 65536 in
set_option maxHeartbeats 40000000 in
theorem c_permeq {l : Launch} {Z : State} {a0 : Array Value} {EL : List (String × Nat)} {nw : Prop} {zc : Int32} (g : GH Z a0 EL zc) (h : Heap) (a : Addr) (b : Addr) (s0 : Addr) (d0 : Addr) (k0 : ClassId) (y0 : List Int32) (s1 : Addr) (d1 : Addr) (k1 : ClassId) (y1 : List Int32) (s2 : Addr) (d2 : Addr) (k2 : ClassId) (y2 : List Int32) (s3 : Addr) (d3 : Addr) (k3 : ClassId) (y3 : List Int32) (s4 : Addr) (d4 : Addr) (k4 : ClassId) (y4 : List Int32) (s5 : Addr) (d5 : Addr) (k5 : ClassId) (y5 : List Int32) (u : Int32) (v : Int32) (e0 : Exa Z h b "com/example/kunci/kunci/Permission") (e1 : Fld Z h a "com/example/kunci/kunci/Permission" "entity" "Ljava/lang/String;" (.ref s0)) (e2 : Fld Z h a "com/example/kunci/kunci/Permission" "principal" "Ljava/lang/String;" (.ref s1)) (e3 : Fld Z h a "com/example/kunci/kunci/Permission" "role" "Ljava/lang/String;" (.ref s2)) (e4 : Fld Z h a "com/example/kunci/kunci/Permission" "propagating" "Z" (.int u)) (e5 : Fld Z h b "com/example/kunci/kunci/Permission" "entity" "Ljava/lang/String;" (.ref s3)) (e6 : Fld Z h b "com/example/kunci/kunci/Permission" "principal" "Ljava/lang/String;" (.ref s4)) (e7 : Fld Z h b "com/example/kunci/kunci/Permission" "role" "Ljava/lang/String;" (.ref s5)) (e8 : Fld Z h b "com/example/kunci/kunci/Permission" "propagating" "Z" (.int v)) (e9 : St Z h s0 d0 k0 y0) (e10 : St Z h s1 d1 k1 y1) (e11 : St Z h s2 d2 k2 y2) (e12 : St Z h s3 d3 k3 y3) (e13 : St Z h s4 d4 k4 y4) (e14 : St Z h s5 d5 k5 y5) (zz : Z.heap.size ≤ h.size) :
    Ct l Z EL nw [] ⟨"com/example/kunci/kunci/Permission", "equals", "(Ljava/lang/Object;)Z"⟩ prog_7_method_6_code 3 (some .boolean) ({ frames := 2, cells := 0, slots := 0, locals := 28 } : Room) #[(.ref a), (.ref b)] h [] (fun res vm' h' => res = some (.int (bo (y0 = y3 ∧ y1 = y4 ∧ y2 = y5 ∧ u = v))) ∧ Keep h h' []) := by
  have ye0 := ltN e0.lt
  have ye1 := ltN e1.lt
  have ye2 := ltN e2.lt
  have ye3 := ltN e3.lt
  have ye4 := ltN e4.lt
  have ye5 := ltN e5.lt
  have ye6 := ltN e6.lt
  have ye7 := ltN e7.lt
  have ye8 := ltN e8.lt
  have ye9 := ltN e9.lt; have ye9' := ltN e9.ltb
  have ye10 := ltN e10.lt; have ye10' := ltN e10.ltb
  have ye11 := ltN e11.lt; have ye11' := ltN e11.ltb
  have ye12 := ltN e12.lt; have ye12' := ltN e12.ltb
  have ye13 := ltN e13.lt; have ye13' := ltN e13.ltb
  have ye14 := ltN e14.lt; have ye14' := ltN e14.ltb
  refine Ct.of_go (a0 := a0) g.2.1 pn_5 (L0 := #[.val (.ref a), .val (.ref b), .unset]) (fun m => by first | (simp [entryFrame, mkF, argsToLocals, Value.category, own_rep]; done) | rfl) ?_
  intro p e s m below meth c hown hby hml hret hnm hZ hC hO hsf
  refine Go.aloadN (hb hby D_prog_7_method_6_code_0) (pc' := 1) rfl rfl rfl ?_
  refine Go.instY hown (wd_77 g) (Ins.self e0) (hb hby D_prog_7_method_6_code_1) (pc' := 4) rfl ?_
  refine Go.ifY (hb hby D_prog_7_method_6_code_4) (by decide) (pc' := 9) (by decide) (show ¬ (1 : Int32) = (0 : Int32) from by decide) ?_
  refine Go.aloadN (hb hby D_prog_7_method_6_code_9) (pc' := 10) rfl rfl rfl ?_
  refine Go.castY hown (wd_77 g) (Ins.self e0) (hb hby D_prog_7_method_6_code_10) (pc' := 13) rfl ?_
  refine Go.astoreN (hb hby D_prog_7_method_6_code_13) (pc' := 14) rfl rfl (L' := #[.val (.ref a), .val (.ref b), .val (.ref b)]) rfl ?_
  refine Go.aloadN (hb hby D_prog_7_method_6_code_14) (pc' := 15) rfl rfl rfl ?_
  refine Go.getF hown (wd_59 g) Via.refl e1 (hb hby D_prog_7_method_6_code_15) (pc' := 18) rfl ?_
  refine Go.aloadN (hb hby D_prog_7_method_6_code_18) (pc' := 19) rfl rfl rfl ?_
  refine Go.getF hown (wd_59 g) Via.refl e5 (hb hby D_prog_7_method_6_code_19) (pc' := 22) rfl ?_
  refine Go.callV (y0 := ⟨"java/lang/String", "equals", "(Ljava/lang/Object;)Z"⟩) (c_eq (l := l) (nw := nw) g h s0 d0 k0 y0 s3 d3 k3 y3 e9 e12 (by omega)) hown (wd_79 g) (wd_80 g) (notFace_of_selects (wd_82 g)) (wd_82 g) (wd_81 g) e9.1 (wd_83 g) (wd_15 g) (by decide) (argsL := [(.ref s3)]) (lenOf pd_9 rfl) rfl (by rw [hml]; rfl) (W := 0) rfl (hb hby D_prog_7_method_6_code_22) (pc' := 25) rfl (by decide) (by decide) (by decide) (by decide) all0 ?_
  rintro _ vm1 h1 ⟨rfl, K1⟩ C1
  have z1 := K1.1
  -- pc 25
  refine Go.ifc (hb hby D_prog_7_method_6_code_25) (by decide) (pc' := 71) (by decide) (pc2 := 28) rfl (fun (q25 : (bo (y0 = y3)) = (0 : Int32)) => ?_) (fun (q25 : ¬ ((bo (y0 = y3)) = (0 : Int32))) => ?_)
  · refine Go.iconst (hb hby D_prog_7_method_6_code_71) (pc' := 72) rfl (z := (0 : Int32)) rfl ?_
    refine Go.retN (t := .boolean) hret (by simp) (hb hby D_prog_7_method_6_code_72) (by decide) (by decide) ?_
    intro vmR CR
    exact ⟨(by rw [bo_no (fun z => bo_ne0.mpr z.1 q25)]; rfl), ((Keep.refl h []).trans K1 all0)⟩
  · refine Go.aloadN (hb hby D_prog_7_method_6_code_28) (pc' := 29) rfl rfl rfl ?_
    have f2 : Fld Z h1 a "com/example/kunci/kunci/Permission" "principal" "Ljava/lang/String;" (.ref s1) := (e2.keep K1 nin0)
    refine Go.getF hown (wd_62 g) Via.refl f2 (hb hby D_prog_7_method_6_code_29) (pc' := 32) rfl ?_
    refine Go.aloadN (hb hby D_prog_7_method_6_code_32) (pc' := 33) rfl rfl rfl ?_
    have f3 : Fld Z h1 b "com/example/kunci/kunci/Permission" "principal" "Ljava/lang/String;" (.ref s4) := (e6.keep K1 nin0)
    refine Go.getF hown (wd_62 g) Via.refl f3 (hb hby D_prog_7_method_6_code_33) (pc' := 36) rfl ?_
    have f4 : St Z h1 s1 d1 k1 y1 := (e10.keep K1 nin0 nin0)
    have f5 : St Z h1 s4 d4 k4 y4 := (e13.keep K1 nin0 nin0)
    have f6 : Exa Z h1 s1 "java/lang/String" := (e10.1.keep K1)
    refine Go.callV (y0 := ⟨"java/lang/String", "equals", "(Ljava/lang/Object;)Z"⟩) (c_eq (l := l) (nw := nw) g h1 s1 d1 k1 y1 s4 d4 k4 y4 f4 f5 (by omega)) hown (wd_79 g) (wd_80 g) (notFace_of_selects (wd_82 g)) (wd_82 g) (wd_81 g) f6 (wd_83 g) (wd_15 g) (by decide) (argsL := [(.ref s4)]) (lenOf pd_9 rfl) rfl (by rw [hml]; rfl) (W := 0) rfl (hb hby D_prog_7_method_6_code_36) (pc' := 39) rfl (by decide) (by decide) (by decide) (by decide) all0 ?_
    rintro _ vm7 h7 ⟨rfl, K7⟩ C7
    have z7 := K7.1
    -- pc 39
    refine Go.ifc (hb hby D_prog_7_method_6_code_39) (by decide) (pc' := 71) (by decide) (pc2 := 42) rfl (fun (q39 : (bo (y1 = y4)) = (0 : Int32)) => ?_) (fun (q39 : ¬ ((bo (y1 = y4)) = (0 : Int32))) => ?_)
    · refine Go.iconst (hb hby D_prog_7_method_6_code_71) (pc' := 72) rfl (z := (0 : Int32)) rfl ?_
      refine Go.retN (t := .boolean) hret (by simp) (hb hby D_prog_7_method_6_code_72) (by decide) (by decide) ?_
      intro vmR CR
      exact ⟨(by rw [bo_no (fun z => bo_ne0.mpr z.2.1 q39)]; rfl), (((Keep.refl h []).trans K1 all0).trans K7 all0)⟩
    · refine Go.aloadN (hb hby D_prog_7_method_6_code_42) (pc' := 43) rfl rfl rfl ?_
      have f8 : Fld Z h7 a "com/example/kunci/kunci/Permission" "role" "Ljava/lang/String;" (.ref s2) := ((e3.keep K1 nin0).keep K7 nin0)
      refine Go.getF hown (wd_65 g) Via.refl f8 (hb hby D_prog_7_method_6_code_43) (pc' := 46) rfl ?_
      refine Go.aloadN (hb hby D_prog_7_method_6_code_46) (pc' := 47) rfl rfl rfl ?_
      have f9 : Fld Z h7 b "com/example/kunci/kunci/Permission" "role" "Ljava/lang/String;" (.ref s5) := ((e7.keep K1 nin0).keep K7 nin0)
      refine Go.getF hown (wd_65 g) Via.refl f9 (hb hby D_prog_7_method_6_code_47) (pc' := 50) rfl ?_
      have f10 : St Z h7 s2 d2 k2 y2 := ((e11.keep K1 nin0 nin0).keep K7 nin0 nin0)
      have f11 : St Z h7 s5 d5 k5 y5 := ((e14.keep K1 nin0 nin0).keep K7 nin0 nin0)
      have f12 : Exa Z h7 s2 "java/lang/String" := ((e11.1.keep K1).keep K7)
      refine Go.callV (y0 := ⟨"java/lang/String", "equals", "(Ljava/lang/Object;)Z"⟩) (c_eq (l := l) (nw := nw) g h7 s2 d2 k2 y2 s5 d5 k5 y5 f10 f11 (by omega)) hown (wd_79 g) (wd_80 g) (notFace_of_selects (wd_82 g)) (wd_82 g) (wd_81 g) f12 (wd_83 g) (wd_15 g) (by decide) (argsL := [(.ref s5)]) (lenOf pd_9 rfl) rfl (by rw [hml]; rfl) (W := 0) rfl (hb hby D_prog_7_method_6_code_50) (pc' := 53) rfl (by decide) (by decide) (by decide) (by decide) all0 ?_
      rintro _ vm13 h13 ⟨rfl, K13⟩ C13
      have z13 := K13.1
      -- pc 53
      refine Go.ifc (hb hby D_prog_7_method_6_code_53) (by decide) (pc' := 71) (by decide) (pc2 := 56) rfl (fun (q53 : (bo (y2 = y5)) = (0 : Int32)) => ?_) (fun (q53 : ¬ ((bo (y2 = y5)) = (0 : Int32))) => ?_)
      · refine Go.iconst (hb hby D_prog_7_method_6_code_71) (pc' := 72) rfl (z := (0 : Int32)) rfl ?_
        refine Go.retN (t := .boolean) hret (by simp) (hb hby D_prog_7_method_6_code_72) (by decide) (by decide) ?_
        intro vmR CR
        exact ⟨(by rw [bo_no (fun z => bo_ne0.mpr z.2.2.1 q53)]; rfl), ((((Keep.refl h []).trans K1 all0).trans K7 all0).trans K13 all0)⟩
      · refine Go.aloadN (hb hby D_prog_7_method_6_code_56) (pc' := 57) rfl rfl rfl ?_
        have f14 : Fld Z h13 a "com/example/kunci/kunci/Permission" "propagating" "Z" (.int u) := (((e4.keep K1 nin0).keep K7 nin0).keep K13 nin0)
        refine Go.getF hown (wd_67 g) Via.refl f14 (hb hby D_prog_7_method_6_code_57) (pc' := 60) rfl ?_
        refine Go.aloadN (hb hby D_prog_7_method_6_code_60) (pc' := 61) rfl rfl rfl ?_
        have f15 : Fld Z h13 b "com/example/kunci/kunci/Permission" "propagating" "Z" (.int v) := (((e8.keep K1 nin0).keep K7 nin0).keep K13 nin0)
        refine Go.getF hown (wd_67 g) Via.refl f15 (hb hby D_prog_7_method_6_code_61) (pc' := 64) rfl ?_
        refine Go.icmp (hb hby D_prog_7_method_6_code_64) (by decide) (pc' := 71) (by decide) (pc2 := 67) rfl (fun (q64 : ¬ u = v) => ?_) (fun (q64 : ¬ (¬ u = v)) => ?_)
        · refine Go.iconst (hb hby D_prog_7_method_6_code_71) (pc' := 72) rfl (z := (0 : Int32)) rfl ?_
          refine Go.retN (t := .boolean) hret (by simp) (hb hby D_prog_7_method_6_code_72) (by decide) (by decide) ?_
          intro vmR CR
          exact ⟨(by rw [bo_no (fun z => q64 z.2.2.2)]; rfl), ((((Keep.refl h []).trans K1 all0).trans K7 all0).trans K13 all0)⟩
        · refine Go.iconst (hb hby D_prog_7_method_6_code_67) (pc' := 68) rfl (z := (1 : Int32)) rfl ?_
          refine Go.goto (hb hby D_prog_7_method_6_code_68) (by decide) (pc' := 72) (by decide) ?_
          refine Go.retN (t := .boolean) hret (by simp) (hb hby D_prog_7_method_6_code_72) (by decide) (by decide) ?_
          intro vmR CR
          exact ⟨(by rw [bo_yes ⟨bo_ne0.mp q25, bo_ne0.mp q39, bo_ne0.mp q53, Classical.not_not.mp q64⟩]; rfl), ((((Keep.refl h []).trans K1 all0).trans K7 all0).trans K13 all0)⟩
set_option maxRecDepth 65536 in
set_option maxHeartbeats 40000000 in
theorem c_permnull {l : Launch} {Z : State} {a0 : Array Value} {EL : List (String × Nat)} {nw : Prop} {zc : Int32} (g : GH Z a0 EL zc) (h : Heap) (a : Addr) (zz : Z.heap.size ≤ h.size) :
    Ct l Z EL nw [] ⟨"com/example/kunci/kunci/Permission", "equals", "(Ljava/lang/Object;)Z"⟩ prog_7_method_6_code 3 (some .boolean) ({ frames := 0, cells := 0, slots := 0, locals := 0 } : Room) #[(.ref a), .null] h [] (fun res vm' h' => res = some (.int (0 : Int32)) ∧ Keep h h' []) := by
  refine Ct.of_go (a0 := a0) g.2.1 pn_5 (L0 := #[.val (.ref a), .val .null, .unset]) (fun m => by first | (simp [entryFrame, mkF, argsToLocals, Value.category, own_rep]; done) | rfl) ?_
  intro p e s m below meth c hown hby hml hret hnm hZ hC hO hsf
  refine Go.aloadN (hb hby D_prog_7_method_6_code_0) (pc' := 1) rfl rfl rfl ?_
  refine Go.instNull (hb hby D_prog_7_method_6_code_1) (pc' := 4) rfl ?_
  refine Go.ifN (hb hby D_prog_7_method_6_code_4) (pc' := 7) rfl (show ¬ (¬ (0 : Int32) = (0 : Int32)) from by decide) ?_
  refine Go.iconst (hb hby D_prog_7_method_6_code_7) (pc' := 8) rfl (z := (0 : Int32)) rfl ?_
  refine Go.retN (t := .boolean) hret (by simp) (hb hby D_prog_7_method_6_code_8) (by decide) (by decide) ?_
  intro vmR CR
  exact ⟨(by first | rfl | (simp only [own_nar]; done) | (congr 2; done)), (Keep.refl h [])⟩
set_option maxRecDepth 65536 in
set_option maxHeartbeats 40000000 in
theorem c_permstr {l : Launch} {Z : State} {a0 : Array Value} {EL : List (String × Nat)} {nw : Prop} {zc : Int32} (g : GH Z a0 EL zc) (h : Heap) (a : Addr) (b : Addr) (e0 : Exa Z h b "java/lang/String") (zz : Z.heap.size ≤ h.size) :
    Ct l Z EL nw [] ⟨"com/example/kunci/kunci/Permission", "equals", "(Ljava/lang/Object;)Z"⟩ prog_7_method_6_code 3 (some .boolean) ({ frames := 0, cells := 0, slots := 0, locals := 0 } : Room) #[(.ref a), (.ref b)] h [] (fun res vm' h' => res = some (.int (0 : Int32)) ∧ Keep h h' []) := by
  have ye0 := ltN e0.lt
  refine Ct.of_go (a0 := a0) g.2.1 pn_5 (L0 := #[.val (.ref a), .val (.ref b), .unset]) (fun m => by first | (simp [entryFrame, mkF, argsToLocals, Value.category, own_rep]; done) | rfl) ?_
  intro p e s m below meth c hown hby hml hret hnm hZ hC hO hsf
  refine Go.aloadN (hb hby D_prog_7_method_6_code_0) (pc' := 1) rfl rfl rfl ?_
  refine Go.instNo hown (wd_77 g) e0 (noInst (wd_92 g) (wd_93 g) (wd_2 g) (by decide) (by decide)) (hb hby D_prog_7_method_6_code_1) (pc' := 4) rfl ?_
  refine Go.ifN (hb hby D_prog_7_method_6_code_4) (pc' := 7) rfl (show ¬ (¬ (0 : Int32) = (0 : Int32)) from by decide) ?_
  refine Go.iconst (hb hby D_prog_7_method_6_code_7) (pc' := 8) rfl (z := (0 : Int32)) rfl ?_
  refine Go.retN (t := .boolean) hret (by simp) (hb hby D_prog_7_method_6_code_8) (by decide) (by decide) ?_
  intro vmR CR
  exact ⟨(by first | rfl | (simp only [own_nar]; done) | (congr 2; done)), (Keep.refl h [])⟩
set_option maxRecDepth 65536 in
set_option maxHeartbeats 40000000 in
theorem c_law {l : Launch} {Z : State} {a0 : Array Value} {EL : List (String × Nat)} {nw : Prop} {zc : Int32} (g : GH Z a0 EL zc) (hnw : ¬ nw) (ws : List Jvm.Cond) (h : Heap) (i0 : Int64) (i1 : Int64) (i2 : Int64) (i3 : Int32) (zz : Z.heap.size ≤ h.size) :
    Ct l Z EL nw ws x code maxLocals ret room_1 #[(.long i0), (.long i1), (.long i2), (.int i3)] h [] (fun res vm' h' => res = some (.int (1 : Int32)) ∧ Keep h h' []) := by
  refine Ct.of_go (a0 := a0) g.2.1 pn_3 (L0 := #[.val (.long i0), .second, .val (.long i1), .second, .val (.long i2), .second, .val (.int i3), .unset, .unset, .unset, .unset, .unset, .unset, .unset, .unset, .unset, .unset, .unset, .unset, .unset, .unset, .unset, .unset, .unset, .unset]) (fun m => by first | (simp [entryFrame, mkF, argsToLocals, Value.category, own_rep, maxLocals]; done) | rfl) ?_
  intro p e s m below meth c hown hby hml hret hnm hZ hC hO hsf
  refine Go.lloadN (hb hby at_0) (pc' := 1) rfl rfl ?_
  refine Go.ldc2Long hown (wd_0 g) (hb hby at_1) (pc' := 4) rfl ?_
  refine Go.land (hb hby at_4) (pc' := 5) rfl ?_
  refine Go.lstore (hb hby at_5) (pc' := 7) rfl (L' := #[.val (.long i0), .second, .val (.long i1), .second, .val (.long i2), .second, .val (.int i3), .val (.long (i0 &&& (262143 : Int64))), .second, .unset, .unset, .unset, .unset, .unset, .unset, .unset, .unset, .unset, .unset, .unset, .unset, .unset, .unset, .unset, .unset]) rfl ?_
  refine Go.iload (hb hby at_7) (pc' := 9) rfl rfl ?_
  refine Go.iconst (hb hby at_9) (pc' := 10) rfl (z := (4 : Int32)) rfl ?_
  refine Go.iand (hb hby at_10) (pc' := 11) rfl ?_
  refine Go.joinJ (pcM := 27) (P := fun x27 => True) (F := fun _ => #[.val (.long i0), .second, .val (.long i1), .second, .val (.long i2), .second, .val (.int i3), .val (.long (i0 &&& (262143 : Int64))), .second, .unset, .unset, .unset, .unset, .unset, .unset, .unset, .unset, .unset, .unset, .unset, .unset, .unset, .unset, .unset, .unset]) (S := fun x27 => [(.long x27)]) ?_ ?_
  · intro x27 hx27
    refine Go.lstore (hb hby at_27) (pc' := 29) rfl (L' := #[.val (.long i0), .second, .val (.long i1), .second, .val (.long i2), .second, .val (.int i3), .val (.long (i0 &&& (262143 : Int64))), .second, .val (.long x27), .second, .unset, .unset, .unset, .unset, .unset, .unset, .unset, .unset, .unset, .unset, .unset, .unset, .unset, .unset]) rfl ?_
    refine Go.lloadN (hb hby at_29) (pc' := 30) rfl rfl ?_
    refine Go.ldc2Long hown (wd_0 g) (hb hby at_30) (pc' := 33) rfl ?_
    refine Go.land (hb hby at_33) (pc' := 34) rfl ?_
    refine Go.lstore (hb hby at_34) (pc' := 36) rfl (L' := #[.val (.long i0), .second, .val (.long i1), .second, .val (.long i2), .second, .val (.int i3), .val (.long (i0 &&& (262143 : Int64))), .second, .val (.long x27), .second, .val (.long (i1 &&& (262143 : Int64))), .second, .unset, .unset, .unset, .unset, .unset, .unset, .unset, .unset, .unset, .unset, .unset, .unset]) rfl ?_
    refine Go.iload (hb hby at_36) (pc' := 38) rfl rfl ?_
    refine Go.bipush (hb hby at_38) (pc' := 40) rfl (z := (8 : Int32)) rfl ?_
    refine Go.iand (hb hby at_40) (pc' := 41) rfl ?_
    refine Go.joinJ (pcM := 57) (P := fun x57 => True) (F := fun _ => #[.val (.long i0), .second, .val (.long i1), .second, .val (.long i2), .second, .val (.int i3), .val (.long (i0 &&& (262143 : Int64))), .second, .val (.long x27), .second, .val (.long (i1 &&& (262143 : Int64))), .second, .unset, .unset, .unset, .unset, .unset, .unset, .unset, .unset, .unset, .unset, .unset, .unset]) (S := fun x57 => [(.long x57)]) ?_ ?_
    · intro x57 hx57
      refine Go.lstore (hb hby at_57) (pc' := 59) rfl (L' := #[.val (.long i0), .second, .val (.long i1), .second, .val (.long i2), .second, .val (.int i3), .val (.long (i0 &&& (262143 : Int64))), .second, .val (.long x27), .second, .val (.long (i1 &&& (262143 : Int64))), .second, .val (.long x57), .second, .unset, .unset, .unset, .unset, .unset, .unset, .unset, .unset, .unset, .unset]) rfl ?_
      refine Go.lload (hb hby at_59) (pc' := 61) rfl rfl ?_
      refine Go.ldc2Long hown (wd_0 g) (hb hby at_61) (pc' := 64) rfl ?_
      refine Go.land (hb hby at_64) (pc' := 65) rfl ?_
      refine Go.lstore (hb hby at_65) (pc' := 67) rfl (L' := #[.val (.long i0), .second, .val (.long i1), .second, .val (.long i2), .second, .val (.int i3), .val (.long (i0 &&& (262143 : Int64))), .second, .val (.long x27), .second, .val (.long (i1 &&& (262143 : Int64))), .second, .val (.long x57), .second, .val (.long (i2 &&& (262143 : Int64))), .second, .unset, .unset, .unset, .unset, .unset, .unset, .unset, .unset]) rfl ?_
      refine Go.iload (hb hby at_67) (pc' := 69) rfl rfl ?_
      refine Go.bipush (hb hby at_69) (pc' := 71) rfl (z := (16 : Int32)) rfl ?_
      refine Go.iand (hb hby at_71) (pc' := 72) rfl ?_
      refine Go.joinJ (pcM := 89) (P := fun x89 => True) (F := fun _ => #[.val (.long i0), .second, .val (.long i1), .second, .val (.long i2), .second, .val (.int i3), .val (.long (i0 &&& (262143 : Int64))), .second, .val (.long x27), .second, .val (.long (i1 &&& (262143 : Int64))), .second, .val (.long x57), .second, .val (.long (i2 &&& (262143 : Int64))), .second, .unset, .unset, .unset, .unset, .unset, .unset, .unset, .unset]) (S := fun x89 => [(.long x89)]) ?_ ?_
      · intro x89 hx89
        refine Go.lstore (hb hby at_89) (pc' := 91) rfl (L' := #[.val (.long i0), .second, .val (.long i1), .second, .val (.long i2), .second, .val (.int i3), .val (.long (i0 &&& (262143 : Int64))), .second, .val (.long x27), .second, .val (.long (i1 &&& (262143 : Int64))), .second, .val (.long x57), .second, .val (.long (i2 &&& (262143 : Int64))), .second, .val (.long x89), .second, .unset, .unset, .unset, .unset, .unset, .unset]) rfl ?_
        refine Go.iload (hb hby at_91) (pc' := 93) rfl rfl ?_
        refine Go.iconst (hb hby at_93) (pc' := 94) rfl (z := (1 : Int32)) rfl ?_
        refine Go.iand (hb hby at_94) (pc' := 95) rfl ?_
        refine Go.joinI (pcM := 103) (P := fun x103 => x103 = 0 ∨ x103 = 1) (F := fun _ => #[.val (.long i0), .second, .val (.long i1), .second, .val (.long i2), .second, .val (.int i3), .val (.long (i0 &&& (262143 : Int64))), .second, .val (.long x27), .second, .val (.long (i1 &&& (262143 : Int64))), .second, .val (.long x57), .second, .val (.long (i2 &&& (262143 : Int64))), .second, .val (.long x89), .second, .unset, .unset, .unset, .unset, .unset, .unset]) (S := fun x103 => [(.int x103)]) ?_ ?_
        · intro x103 hx103
          refine Go.istore (hb hby at_103) (pc' := 105) rfl (L' := #[.val (.long i0), .second, .val (.long i1), .second, .val (.long i2), .second, .val (.int i3), .val (.long (i0 &&& (262143 : Int64))), .second, .val (.long x27), .second, .val (.long (i1 &&& (262143 : Int64))), .second, .val (.long x57), .second, .val (.long (i2 &&& (262143 : Int64))), .second, .val (.long x89), .second, .val (.int x103), .unset, .unset, .unset, .unset, .unset]) rfl ?_
          refine Go.iload (hb hby at_105) (pc' := 107) rfl rfl ?_
          refine Go.iconst (hb hby at_107) (pc' := 108) rfl (z := (2 : Int32)) rfl ?_
          refine Go.iand (hb hby at_108) (pc' := 109) rfl ?_
          refine Go.joinI (pcM := 117) (P := fun x117 => x117 = 0 ∨ x117 = 1) (F := fun _ => #[.val (.long i0), .second, .val (.long i1), .second, .val (.long i2), .second, .val (.int i3), .val (.long (i0 &&& (262143 : Int64))), .second, .val (.long x27), .second, .val (.long (i1 &&& (262143 : Int64))), .second, .val (.long x57), .second, .val (.long (i2 &&& (262143 : Int64))), .second, .val (.long x89), .second, .val (.int x103), .unset, .unset, .unset, .unset, .unset]) (S := fun x117 => [(.int x117)]) ?_ ?_
          · intro x117 hx117
            refine Go.istore (hb hby at_117) (pc' := 119) rfl (L' := #[.val (.long i0), .second, .val (.long i1), .second, .val (.long i2), .second, .val (.int i3), .val (.long (i0 &&& (262143 : Int64))), .second, .val (.long x27), .second, .val (.long (i1 &&& (262143 : Int64))), .second, .val (.long x57), .second, .val (.long (i2 &&& (262143 : Int64))), .second, .val (.long x89), .second, .val (.int x103), .val (.int x117), .unset, .unset, .unset, .unset]) rfl ?_
            refine Go.iload (hb hby at_119) (pc' := 121) rfl rfl ?_
            refine Go.iconst (hb hby at_121) (pc' := 122) rfl (z := (5 : Int32)) rfl ?_
            refine Go.iushr (hb hby at_122) (pc' := 123) rfl ?_
            refine Go.iconst (hb hby at_123) (pc' := 124) rfl (z := (3 : Int32)) rfl ?_
            refine Go.iand (hb hby at_124) (pc' := 125) rfl ?_
            refine Go.istore (hb hby at_125) (pc' := 127) rfl (L' := #[.val (.long i0), .second, .val (.long i1), .second, .val (.long i2), .second, .val (.int i3), .val (.long (i0 &&& (262143 : Int64))), .second, .val (.long x27), .second, .val (.long (i1 &&& (262143 : Int64))), .second, .val (.long x57), .second, .val (.long (i2 &&& (262143 : Int64))), .second, .val (.long x89), .second, .val (.int x103), .val (.int x117), .val (.int ((XT.ushr i3 (5 : Int32)) &&& (3 : Int32))), .unset, .unset, .unset]) rfl ?_
            refine Go.newO hown (wd_1 g) (wd_2 g) (wd_3 g) (hb hby at_127) (pc' := 130) rfl (by decide) (by decide) ?_
            intro h1 a2 g3 l4 E5 X6 D7 S8 C9
            have KE5 := Keep.ofExt E5; have zE5 := E5.1
            have f10 : Fld Z h1 a2 "com/example/kunci/kunci/Permission" "entity" "Ljava/lang/String;" .null := D7 (Or.inr (wd_60 g)) (ty := (.object "java/lang/String")) (by decide)
            have f11 : Fld Z h1 a2 "com/example/kunci/kunci/Permission" "principal" "Ljava/lang/String;" .null := D7 (Or.inr (wd_63 g)) (ty := (.object "java/lang/String")) (by decide)
            have f12 : Fld Z h1 a2 "com/example/kunci/kunci/Permission" "role" "Ljava/lang/String;" .null := D7 (Or.inr (wd_66 g)) (ty := (.object "java/lang/String")) (by decide)
            have f13 : Fld Z h1 a2 "com/example/kunci/kunci/Permission" "propagating" "Z" (.int 0) := D7 (Or.inr (wd_68 g)) (ty := .boolean) (by decide)
            refine Go.dup (hb hby at_130) (pc' := 131) rfl rfl ?_
            refine Go.lload (hb hby at_131) (pc' := 133) rfl rfl ?_
            refine Go.callS (c_str (l := l) (nw := nw) g hnw h1 (i0 &&& (262143 : Int64)) (by omega)) hown (wd_4 g) (wd_5 g) (wd_7 g) (wd_6 g) (by decide) (argsL := [(.long (i0 &&& (262143 : Int64)))]) (lenOf pd_10 rfl) rfl (by rw [hml]; rfl) (W := 2) rfl (hb hby at_133) (pc' := 136) rfl (by decide) (by decide) (by decide) (by decide) all0 ?_
            rintro _ vm14 h14 ⟨r_14, d_14, kd_14, rfl, K14, o14_0⟩ C14
            have z14 := K14.1
            have yo14_0 := ltN o14_0.lt; have yo14_0' := ltN o14_0.ltb
            -- pc 136
            refine Go.lload (hb hby at_136) (pc' := 138) rfl rfl ?_
            refine Go.callS (c_str (l := l) (nw := nw) g hnw h14 (i1 &&& (262143 : Int64)) (by omega)) hown (wd_4 g) (wd_5 g) (wd_7 g) (wd_6 g) (by decide) (argsL := [(.long (i1 &&& (262143 : Int64)))]) (lenOf pd_10 rfl) rfl (by rw [hml]; rfl) (W := 3) rfl (hb hby at_138) (pc' := 141) rfl (by decide) (by decide) (by decide) (by decide) all0 ?_
            rintro _ vm15 h15 ⟨r_15, d_15, kd_15, rfl, K15, o15_0⟩ C15
            have z15 := K15.1
            have yo15_0 := ltN o15_0.lt; have yo15_0' := ltN o15_0.ltb
            -- pc 141
            refine Go.lload (hb hby at_141) (pc' := 143) rfl rfl ?_
            refine Go.callS (c_str (l := l) (nw := nw) g hnw h15 (i2 &&& (262143 : Int64)) (by omega)) hown (wd_4 g) (wd_5 g) (wd_7 g) (wd_6 g) (by decide) (argsL := [(.long (i2 &&& (262143 : Int64)))]) (lenOf pd_10 rfl) rfl (by rw [hml]; rfl) (W := 4) rfl (hb hby at_143) (pc' := 146) rfl (by decide) (by decide) (by decide) (by decide) all0 ?_
            rintro _ vm16 h16 ⟨r_16, d_16, kd_16, rfl, K16, o16_0⟩ C16
            have z16 := K16.1
            have yo16_0 := ltN o16_0.lt; have yo16_0' := ltN o16_0.ltb
            -- pc 146
            refine Go.iload (hb hby at_146) (pc' := 148) rfl rfl ?_
            have f17 : Exa Z h16 a2 "com/example/kunci/kunci/Permission" := (((X6.keep K14).keep K15).keep K16)
            have f18 : Fld Z h16 a2 "com/example/kunci/kunci/Permission" "entity" "Ljava/lang/String;" .null := (((f10.keep K14 nin0).keep K15 nin0).keep K16 nin0)
            have f19 : Fld Z h16 a2 "com/example/kunci/kunci/Permission" "principal" "Ljava/lang/String;" .null := (((f11.keep K14 nin0).keep K15 nin0).keep K16 nin0)
            have f20 : Fld Z h16 a2 "com/example/kunci/kunci/Permission" "role" "Ljava/lang/String;" .null := (((f12.keep K14 nin0).keep K15 nin0).keep K16 nin0)
            have f21 : Fld Z h16 a2 "com/example/kunci/kunci/Permission" "propagating" "Z" (.int 0) := (((f13.keep K14 nin0).keep K15 nin0).keep K16 nin0)
            have f22 : Exa Z h16 r_14 "java/lang/String" := ((o14_0.1.keep K15).keep K16)
            have f23 : Exa Z h16 r_15 "java/lang/String" := (o15_0.1.keep K16)
            refine Go.callC (c_perm (l := l) (nw := nw) g hnw h16 a2 r_14 r_15 r_16 x103 hx103 (by first | omega | assumption | decide) f17 f18 f19 f20 f21 f22 f23 o16_0.1 (by omega)) hown rfl rfl (wd_49 g) (wd_50 g) (wd_51 g) (wd_3 g) (by decide) (argsL := [(.ref r_14), (.ref r_15), (.ref r_16), (.int x103)]) (lenOf pd_11 rfl) rfl (by rw [hml]; rfl) (W := 1) rfl (hb hby at_148) (pc' := 151) rfl (by decide) (by decide) (by decide) (by decide) all0 ?_
            rintro _ vm24 h24 ⟨rfl, K24, o24_0, o24_1, o24_2, o24_3⟩ C24
            have z24 := K24.1
            -- pc 151
            refine Go.astore (hb hby at_151) (pc' := 153) rfl rfl (L' := #[.val (.long i0), .second, .val (.long i1), .second, .val (.long i2), .second, .val (.int i3), .val (.long (i0 &&& (262143 : Int64))), .second, .val (.long x27), .second, .val (.long (i1 &&& (262143 : Int64))), .second, .val (.long x57), .second, .val (.long (i2 &&& (262143 : Int64))), .second, .val (.long x89), .second, .val (.int x103), .val (.int x117), .val (.int ((XT.ushr i3 (5 : Int32)) &&& (3 : Int32))), .val (.ref a2), .unset, .unset]) rfl ?_
            refine Go.iload (hb hby at_153) (pc' := 155) rfl rfl ?_
            refine Go.iconst (hb hby at_155) (pc' := 156) rfl (z := (2 : Int32)) rfl ?_
            refine Go.icmp (hb hby at_156) (by decide) (pc' := 188) (by decide) (pc2 := 159) rfl (fun (q156 : ¬ ((XT.ushr i3 (5 : Int32)) &&& (3 : Int32)) < (2 : Int32)) => ?_) (fun (q156 : ¬ (¬ ((XT.ushr i3 (5 : Int32)) &&& (3 : Int32)) < (2 : Int32))) => ?_)
            · refine Go.iload (hb hby at_188) (pc' := 190) rfl rfl ?_
              refine Go.iconst (hb hby at_190) (pc' := 191) rfl (z := (2 : Int32)) rfl ?_
              refine Go.icmp (hb hby at_191) (by decide) (pc' := 200) (by decide) (pc2 := 194) rfl (fun (q191 : ¬ ((XT.ushr i3 (5 : Int32)) &&& (3 : Int32)) = (2 : Int32)) => ?_) (fun (q191 : ¬ (¬ ((XT.ushr i3 (5 : Int32)) &&& (3 : Int32)) = (2 : Int32))) => ?_)
              · refine Go.lload (hb hby at_200) (pc' := 202) rfl rfl ?_
                refine Go.callS (c_str (l := l) (nw := nw) g hnw h24 (i0 &&& (262143 : Int64)) (by omega)) hown (wd_4 g) (wd_5 g) (wd_7 g) (wd_6 g) (by decide) (argsL := [(.long (i0 &&& (262143 : Int64)))]) (lenOf pd_10 rfl) rfl (by rw [hml]; rfl) (W := 0) rfl (hb hby at_202) (pc' := 205) rfl (by decide) (by decide) (by decide) (by decide) all0 ?_
                rintro _ vm25 h25 ⟨r_25, d_25, kd_25, rfl, K25, o25_0⟩ C25
                have z25 := K25.1
                have yo25_0 := ltN o25_0.lt; have yo25_0' := ltN o25_0.ltb
                -- pc 205
                refine Go.astore (hb hby at_205) (pc' := 207) rfl rfl (L' := #[.val (.long i0), .second, .val (.long i1), .second, .val (.long i2), .second, .val (.int i3), .val (.long (i0 &&& (262143 : Int64))), .second, .val (.long x27), .second, .val (.long (i1 &&& (262143 : Int64))), .second, .val (.long x57), .second, .val (.long (i2 &&& (262143 : Int64))), .second, .val (.long x89), .second, .val (.int x103), .val (.int x117), .val (.int ((XT.ushr i3 (5 : Int32)) &&& (3 : Int32))), .val (.ref a2), .val (.ref r_25), .unset]) rfl ?_
                refine Go.iload (hb hby at_207) (pc' := 209) rfl rfl ?_
                refine Go.iconst (hb hby at_209) (pc' := 210) rfl (z := (2 : Int32)) rfl ?_
                refine Go.icmpY (hb hby at_210) (by decide) (pc' := 254) (by decide) q156 ?_
                refine Go.iconst (hb hby at_254) (pc' := 255) rfl (z := (0 : Int32)) rfl ?_
                refine Go.istore (hb hby at_255) (pc' := 257) rfl (L' := #[.val (.long i0), .second, .val (.long i1), .second, .val (.long i2), .second, .val (.int i3), .val (.long (i0 &&& (262143 : Int64))), .second, .val (.long x27), .second, .val (.long (i1 &&& (262143 : Int64))), .second, .val (.long x57), .second, .val (.long (i2 &&& (262143 : Int64))), .second, .val (.long x89), .second, .val (.int x103), .val (.int x117), .val (.int ((XT.ushr i3 (5 : Int32)) &&& (3 : Int32))), .val (.ref a2), .val (.ref r_25), .val (.int (0 : Int32))]) rfl ?_
                refine Go.aload (hb hby at_257) (pc' := 259) rfl rfl rfl ?_
                refine Go.aload (hb hby at_259) (pc' := 261) rfl rfl rfl ?_
                have f26 : Exa Z h25 a2 "com/example/kunci/kunci/Permission" := ((f17.keep K24).keep K25)
                refine Go.callV (y0 := ⟨"com/example/kunci/kunci/Permission", "equals", "(Ljava/lang/Object;)Z"⟩) (c_permstr (l := l) (nw := nw) g h25 a2 r_25 o25_0.1 (by omega)) hown (wd_72 g) (wd_73 g) (notFace_of_selects (wd_75 g)) (wd_75 g) (wd_74 g) f26 (wd_76 g) (wd_3 g) (by decide) (argsL := [(.ref r_25)]) (lenOf pd_9 rfl) rfl (by rw [hml]; rfl) (W := 0) rfl (hb hby at_261) (pc' := 264) rfl (by decide) (by decide) (by decide) (by decide) all0 ?_
                rintro _ vm27 h27 ⟨rfl, K27⟩ C27
                have z27 := K27.1
                -- pc 264
                refine Go.iload (hb hby at_264) (pc' := 266) rfl rfl ?_
                refine Go.icmpN (hb hby at_266) (pc' := 269) rfl (show ¬ (¬ (0 : Int32) = (0 : Int32)) from by decide) ?_
                refine Go.iconst (hb hby at_269) (pc' := 270) rfl (z := (1 : Int32)) rfl ?_
                refine Go.goto (hb hby at_270) (by decide) (pc' := 274) (by decide) ?_
                refine Go.retN (t := .boolean) hret (by simp) (hb hby at_274) (by decide) (by decide) ?_
                intro vmR CR
                exact ⟨(by first | rfl | (simp only [own_nar]; done) | (congr 2; done)), ((((((((Keep.refl h []).trans KE5 all0).trans K14 all0).trans K15 all0).trans K16 all0).trans K24 (allS (by first | (left; simp; done) | (right; omega)) all0)).trans K25 all0).trans K27 all0)⟩
              · refine Go.aconstNull (hb hby at_194) (pc' := 195) rfl ?_
                refine Go.astore (hb hby at_195) (pc' := 197) rfl rfl (L' := #[.val (.long i0), .second, .val (.long i1), .second, .val (.long i2), .second, .val (.int i3), .val (.long (i0 &&& (262143 : Int64))), .second, .val (.long x27), .second, .val (.long (i1 &&& (262143 : Int64))), .second, .val (.long x57), .second, .val (.long (i2 &&& (262143 : Int64))), .second, .val (.long x89), .second, .val (.int x103), .val (.int x117), .val (.int ((XT.ushr i3 (5 : Int32)) &&& (3 : Int32))), .val (.ref a2), .val .null, .unset]) rfl ?_
                refine Go.goto (hb hby at_197) (by decide) (pc' := 207) (by decide) ?_
                refine Go.iload (hb hby at_207) (pc' := 209) rfl rfl ?_
                refine Go.iconst (hb hby at_209) (pc' := 210) rfl (z := (2 : Int32)) rfl ?_
                refine Go.icmpY (hb hby at_210) (by decide) (pc' := 254) (by decide) q156 ?_
                refine Go.iconst (hb hby at_254) (pc' := 255) rfl (z := (0 : Int32)) rfl ?_
                refine Go.istore (hb hby at_255) (pc' := 257) rfl (L' := #[.val (.long i0), .second, .val (.long i1), .second, .val (.long i2), .second, .val (.int i3), .val (.long (i0 &&& (262143 : Int64))), .second, .val (.long x27), .second, .val (.long (i1 &&& (262143 : Int64))), .second, .val (.long x57), .second, .val (.long (i2 &&& (262143 : Int64))), .second, .val (.long x89), .second, .val (.int x103), .val (.int x117), .val (.int ((XT.ushr i3 (5 : Int32)) &&& (3 : Int32))), .val (.ref a2), .val .null, .val (.int (0 : Int32))]) rfl ?_
                refine Go.aload (hb hby at_257) (pc' := 259) rfl rfl rfl ?_
                refine Go.aload (hb hby at_259) (pc' := 261) rfl rfl rfl ?_
                have f28 : Exa Z h24 a2 "com/example/kunci/kunci/Permission" := (f17.keep K24)
                refine Go.callV (y0 := ⟨"com/example/kunci/kunci/Permission", "equals", "(Ljava/lang/Object;)Z"⟩) (c_permnull (l := l) (nw := nw) g h24 a2 (by omega)) hown (wd_72 g) (wd_73 g) (notFace_of_selects (wd_75 g)) (wd_75 g) (wd_74 g) f28 (wd_76 g) (wd_3 g) (by decide) (argsL := [.null]) (lenOf pd_9 rfl) rfl (by rw [hml]; rfl) (W := 0) rfl (hb hby at_261) (pc' := 264) rfl (by decide) (by decide) (by decide) (by decide) all0 ?_
                rintro _ vm29 h29 ⟨rfl, K29⟩ C29
                have z29 := K29.1
                -- pc 264
                refine Go.iload (hb hby at_264) (pc' := 266) rfl rfl ?_
                refine Go.icmpN (hb hby at_266) (pc' := 269) rfl (show ¬ (¬ (0 : Int32) = (0 : Int32)) from by decide) ?_
                refine Go.iconst (hb hby at_269) (pc' := 270) rfl (z := (1 : Int32)) rfl ?_
                refine Go.goto (hb hby at_270) (by decide) (pc' := 274) (by decide) ?_
                refine Go.retN (t := .boolean) hret (by simp) (hb hby at_274) (by decide) (by decide) ?_
                intro vmR CR
                exact ⟨(by first | rfl | (simp only [own_nar]; done) | (congr 2; done)), (((((((Keep.refl h []).trans KE5 all0).trans K14 all0).trans K15 all0).trans K16 all0).trans K24 (allS (by first | (left; simp; done) | (right; omega)) all0)).trans K29 all0)⟩
            · refine Go.newO hown (wd_1 g) (wd_2 g) (wd_3 g) (hb hby at_159) (pc' := 162) rfl (by decide) (by decide) ?_
              intro h30 a31 g32 l33 E34 X35 D36 S37 C38
              have KE34 := Keep.ofExt E34; have zE34 := E34.1
              have f39 : Fld Z h30 a31 "com/example/kunci/kunci/Permission" "entity" "Ljava/lang/String;" .null := D36 (Or.inr (wd_60 g)) (ty := (.object "java/lang/String")) (by decide)
              have f40 : Fld Z h30 a31 "com/example/kunci/kunci/Permission" "principal" "Ljava/lang/String;" .null := D36 (Or.inr (wd_63 g)) (ty := (.object "java/lang/String")) (by decide)
              have f41 : Fld Z h30 a31 "com/example/kunci/kunci/Permission" "role" "Ljava/lang/String;" .null := D36 (Or.inr (wd_66 g)) (ty := (.object "java/lang/String")) (by decide)
              have f42 : Fld Z h30 a31 "com/example/kunci/kunci/Permission" "propagating" "Z" (.int 0) := D36 (Or.inr (wd_68 g)) (ty := .boolean) (by decide)
              refine Go.dup (hb hby at_162) (pc' := 163) rfl rfl ?_
              refine Go.lload (hb hby at_163) (pc' := 165) rfl rfl ?_
              refine Go.callS (c_str (l := l) (nw := nw) g hnw h30 x27 (by omega)) hown (wd_4 g) (wd_5 g) (wd_7 g) (wd_6 g) (by decide) (argsL := [(.long x27)]) (lenOf pd_10 rfl) rfl (by rw [hml]; rfl) (W := 2) rfl (hb hby at_165) (pc' := 168) rfl (by decide) (by decide) (by decide) (by decide) all0 ?_
              rintro _ vm43 h43 ⟨r_43, d_43, kd_43, rfl, K43, o43_0⟩ C43
              have z43 := K43.1
              have yo43_0 := ltN o43_0.lt; have yo43_0' := ltN o43_0.ltb
              -- pc 168
              refine Go.lload (hb hby at_168) (pc' := 170) rfl rfl ?_
              refine Go.callS (c_str (l := l) (nw := nw) g hnw h43 x57 (by omega)) hown (wd_4 g) (wd_5 g) (wd_7 g) (wd_6 g) (by decide) (argsL := [(.long x57)]) (lenOf pd_10 rfl) rfl (by rw [hml]; rfl) (W := 3) rfl (hb hby at_170) (pc' := 173) rfl (by decide) (by decide) (by decide) (by decide) all0 ?_
              rintro _ vm44 h44 ⟨r_44, d_44, kd_44, rfl, K44, o44_0⟩ C44
              have z44 := K44.1
              have yo44_0 := ltN o44_0.lt; have yo44_0' := ltN o44_0.ltb
              -- pc 173
              refine Go.lload (hb hby at_173) (pc' := 175) rfl rfl ?_
              refine Go.callS (c_str (l := l) (nw := nw) g hnw h44 x89 (by omega)) hown (wd_4 g) (wd_5 g) (wd_7 g) (wd_6 g) (by decide) (argsL := [(.long x89)]) (lenOf pd_10 rfl) rfl (by rw [hml]; rfl) (W := 4) rfl (hb hby at_175) (pc' := 178) rfl (by decide) (by decide) (by decide) (by decide) all0 ?_
              rintro _ vm45 h45 ⟨r_45, d_45, kd_45, rfl, K45, o45_0⟩ C45
              have z45 := K45.1
              have yo45_0 := ltN o45_0.lt; have yo45_0' := ltN o45_0.ltb
              -- pc 178
              refine Go.iload (hb hby at_178) (pc' := 180) rfl rfl ?_
              have f46 : Exa Z h45 a31 "com/example/kunci/kunci/Permission" := (((X35.keep K43).keep K44).keep K45)
              have f47 : Fld Z h45 a31 "com/example/kunci/kunci/Permission" "entity" "Ljava/lang/String;" .null := (((f39.keep K43 nin0).keep K44 nin0).keep K45 nin0)
              have f48 : Fld Z h45 a31 "com/example/kunci/kunci/Permission" "principal" "Ljava/lang/String;" .null := (((f40.keep K43 nin0).keep K44 nin0).keep K45 nin0)
              have f49 : Fld Z h45 a31 "com/example/kunci/kunci/Permission" "role" "Ljava/lang/String;" .null := (((f41.keep K43 nin0).keep K44 nin0).keep K45 nin0)
              have f50 : Fld Z h45 a31 "com/example/kunci/kunci/Permission" "propagating" "Z" (.int 0) := (((f42.keep K43 nin0).keep K44 nin0).keep K45 nin0)
              have f51 : Exa Z h45 r_43 "java/lang/String" := ((o43_0.1.keep K44).keep K45)
              have f52 : Exa Z h45 r_44 "java/lang/String" := (o44_0.1.keep K45)
              refine Go.callC (c_perm (l := l) (nw := nw) g hnw h45 a31 r_43 r_44 r_45 x117 hx117 (by first | omega | assumption | decide) f46 f47 f48 f49 f50 f51 f52 o45_0.1 (by omega)) hown rfl rfl (wd_49 g) (wd_50 g) (wd_51 g) (wd_3 g) (by decide) (argsL := [(.ref r_43), (.ref r_44), (.ref r_45), (.int x117)]) (lenOf pd_11 rfl) rfl (by rw [hml]; rfl) (W := 1) rfl (hb hby at_180) (pc' := 183) rfl (by decide) (by decide) (by decide) (by decide) all0 ?_
              rintro _ vm53 h53 ⟨rfl, K53, o53_0, o53_1, o53_2, o53_3⟩ C53
              have z53 := K53.1
              -- pc 183
              refine Go.astore (hb hby at_183) (pc' := 185) rfl rfl (L' := #[.val (.long i0), .second, .val (.long i1), .second, .val (.long i2), .second, .val (.int i3), .val (.long (i0 &&& (262143 : Int64))), .second, .val (.long x27), .second, .val (.long (i1 &&& (262143 : Int64))), .second, .val (.long x57), .second, .val (.long (i2 &&& (262143 : Int64))), .second, .val (.long x89), .second, .val (.int x103), .val (.int x117), .val (.int ((XT.ushr i3 (5 : Int32)) &&& (3 : Int32))), .val (.ref a2), .val (.ref a31), .unset]) rfl ?_
              refine Go.goto (hb hby at_185) (by decide) (pc' := 207) (by decide) ?_
              refine Go.iload (hb hby at_207) (pc' := 209) rfl rfl ?_
              refine Go.iconst (hb hby at_209) (pc' := 210) rfl (z := (2 : Int32)) rfl ?_
              refine Go.icmpN (hb hby at_210) (pc' := 213) rfl q156 ?_
              refine Go.lload (hb hby at_213) (pc' := 215) rfl rfl ?_
              refine Go.lload (hb hby at_215) (pc' := 217) rfl rfl ?_
              refine Go.callS (c_same (l := l) (nw := nw) g h53 (i0 &&& (262143 : Int64)) x27 (by omega)) hown (wd_69 g) (wd_70 g) (wd_71 g) (wd_6 g) (by decide) (argsL := [(.long (i0 &&& (262143 : Int64))), (.long x27)]) (lenOf pd_12 rfl) rfl (by rw [hml]; rfl) (W := 0) rfl (hb hby at_217) (pc' := 220) rfl (by decide) (by decide) (by decide) (by decide) all0 ?_
              rintro _ vm54 h54 ⟨rfl, K54⟩ C54
              have z54 := K54.1
              -- pc 220
              refine Go.ifc (hb hby at_220) (by decide) (pc' := 254) (by decide) (pc2 := 223) rfl (fun (q220 : (bo (sb (i0 &&& (262143 : Int64)) = sb x27)) = (0 : Int32)) => ?_) (fun (q220 : ¬ ((bo (sb (i0 &&& (262143 : Int64)) = sb x27)) = (0 : Int32))) => ?_)
              · refine Go.iconst (hb hby at_254) (pc' := 255) rfl (z := (0 : Int32)) rfl ?_
                refine Go.istore (hb hby at_255) (pc' := 257) rfl (L' := #[.val (.long i0), .second, .val (.long i1), .second, .val (.long i2), .second, .val (.int i3), .val (.long (i0 &&& (262143 : Int64))), .second, .val (.long x27), .second, .val (.long (i1 &&& (262143 : Int64))), .second, .val (.long x57), .second, .val (.long (i2 &&& (262143 : Int64))), .second, .val (.long x89), .second, .val (.int x103), .val (.int x117), .val (.int ((XT.ushr i3 (5 : Int32)) &&& (3 : Int32))), .val (.ref a2), .val (.ref a31), .val (.int (0 : Int32))]) rfl ?_
                refine Go.aload (hb hby at_257) (pc' := 259) rfl rfl rfl ?_
                refine Go.aload (hb hby at_259) (pc' := 261) rfl rfl rfl ?_
                have f55 : Exa Z h54 a31 "com/example/kunci/kunci/Permission" := ((f46.keep K53).keep K54)
                have f56 : Fld Z h54 a2 "com/example/kunci/kunci/Permission" "entity" "Ljava/lang/String;" (.ref r_14) := ((((((o24_0.keep KE34 nin0).keep K43 nin0).keep K44 nin0).keep K45 nin0).keep K53 (ninS (neN (by omega)) nin0)).keep K54 nin0)
                have f57 : Fld Z h54 a2 "com/example/kunci/kunci/Permission" "principal" "Ljava/lang/String;" (.ref r_15) := ((((((o24_1.keep KE34 nin0).keep K43 nin0).keep K44 nin0).keep K45 nin0).keep K53 (ninS (neN (by omega)) nin0)).keep K54 nin0)
                have f58 : Fld Z h54 a2 "com/example/kunci/kunci/Permission" "role" "Ljava/lang/String;" (.ref r_16) := ((((((o24_2.keep KE34 nin0).keep K43 nin0).keep K44 nin0).keep K45 nin0).keep K53 (ninS (neN (by omega)) nin0)).keep K54 nin0)
                have f59 : Fld Z h54 a2 "com/example/kunci/kunci/Permission" "propagating" "Z" (.int x103) := ((((((o24_3.keep KE34 nin0).keep K43 nin0).keep K44 nin0).keep K45 nin0).keep K53 (ninS (neN (by omega)) nin0)).keep K54 nin0)
                have f60 : Fld Z h54 a31 "com/example/kunci/kunci/Permission" "entity" "Ljava/lang/String;" (.ref r_43) := (o53_0.keep K54 nin0)
                have f61 : Fld Z h54 a31 "com/example/kunci/kunci/Permission" "principal" "Ljava/lang/String;" (.ref r_44) := (o53_1.keep K54 nin0)
                have f62 : Fld Z h54 a31 "com/example/kunci/kunci/Permission" "role" "Ljava/lang/String;" (.ref r_45) := (o53_2.keep K54 nin0)
                have f63 : Fld Z h54 a31 "com/example/kunci/kunci/Permission" "propagating" "Z" (.int x117) := (o53_3.keep K54 nin0)
                have f64 : St Z h54 r_14 d_14 kd_14 (sb (i0 &&& (262143 : Int64))) := (((((((((o14_0.keep K15 nin0 nin0).keep K16 nin0 nin0).keep K24 (ninS (Exa.ne ((o14_0.keep K15 nin0 nin0).keep K16 nin0 nin0).1 (((X6.keep K14).keep K15).keep K16) (by decide)) nin0) (ninS (Ne.symm (Ar.ne_exa ((o14_0.keep K15 nin0 nin0).keep K16 nin0 nin0).2.2.2.1 (((X6.keep K14).keep K15).keep K16) (wd_2 g))) nin0)).keep KE34 nin0 nin0).keep K43 nin0 nin0).keep K44 nin0 nin0).keep K45 nin0 nin0).keep K53 (ninS (Exa.ne (((((((o14_0.keep K15 nin0 nin0).keep K16 nin0 nin0).keep K24 (ninS (Exa.ne ((o14_0.keep K15 nin0 nin0).keep K16 nin0 nin0).1 (((X6.keep K14).keep K15).keep K16) (by decide)) nin0) (ninS (Ne.symm (Ar.ne_exa ((o14_0.keep K15 nin0 nin0).keep K16 nin0 nin0).2.2.2.1 (((X6.keep K14).keep K15).keep K16) (wd_2 g))) nin0)).keep KE34 nin0 nin0).keep K43 nin0 nin0).keep K44 nin0 nin0).keep K45 nin0 nin0).1 (((X35.keep K43).keep K44).keep K45) (by decide)) nin0) (ninS (Ne.symm (Ar.ne_exa (((((((o14_0.keep K15 nin0 nin0).keep K16 nin0 nin0).keep K24 (ninS (Exa.ne ((o14_0.keep K15 nin0 nin0).keep K16 nin0 nin0).1 (((X6.keep K14).keep K15).keep K16) (by decide)) nin0) (ninS (Ne.symm (Ar.ne_exa ((o14_0.keep K15 nin0 nin0).keep K16 nin0 nin0).2.2.2.1 (((X6.keep K14).keep K15).keep K16) (wd_2 g))) nin0)).keep KE34 nin0 nin0).keep K43 nin0 nin0).keep K44 nin0 nin0).keep K45 nin0 nin0).2.2.2.1 (((X35.keep K43).keep K44).keep K45) (wd_2 g))) nin0)).keep K54 nin0 nin0)
                have f65 : St Z h54 r_15 d_15 kd_15 (sb (i1 &&& (262143 : Int64))) := ((((((((o15_0.keep K16 nin0 nin0).keep K24 (ninS (Exa.ne (o15_0.keep K16 nin0 nin0).1 (((X6.keep K14).keep K15).keep K16) (by decide)) nin0) (ninS (Ne.symm (Ar.ne_exa (o15_0.keep K16 nin0 nin0).2.2.2.1 (((X6.keep K14).keep K15).keep K16) (wd_2 g))) nin0)).keep KE34 nin0 nin0).keep K43 nin0 nin0).keep K44 nin0 nin0).keep K45 nin0 nin0).keep K53 (ninS (Exa.ne ((((((o15_0.keep K16 nin0 nin0).keep K24 (ninS (Exa.ne (o15_0.keep K16 nin0 nin0).1 (((X6.keep K14).keep K15).keep K16) (by decide)) nin0) (ninS (Ne.symm (Ar.ne_exa (o15_0.keep K16 nin0 nin0).2.2.2.1 (((X6.keep K14).keep K15).keep K16) (wd_2 g))) nin0)).keep KE34 nin0 nin0).keep K43 nin0 nin0).keep K44 nin0 nin0).keep K45 nin0 nin0).1 (((X35.keep K43).keep K44).keep K45) (by decide)) nin0) (ninS (Ne.symm (Ar.ne_exa ((((((o15_0.keep K16 nin0 nin0).keep K24 (ninS (Exa.ne (o15_0.keep K16 nin0 nin0).1 (((X6.keep K14).keep K15).keep K16) (by decide)) nin0) (ninS (Ne.symm (Ar.ne_exa (o15_0.keep K16 nin0 nin0).2.2.2.1 (((X6.keep K14).keep K15).keep K16) (wd_2 g))) nin0)).keep KE34 nin0 nin0).keep K43 nin0 nin0).keep K44 nin0 nin0).keep K45 nin0 nin0).2.2.2.1 (((X35.keep K43).keep K44).keep K45) (wd_2 g))) nin0)).keep K54 nin0 nin0)
                have f66 : St Z h54 r_16 d_16 kd_16 (sb (i2 &&& (262143 : Int64))) := (((((((o16_0.keep K24 (ninS (Exa.ne o16_0.1 (((X6.keep K14).keep K15).keep K16) (by decide)) nin0) (ninS (Ne.symm (Ar.ne_exa o16_0.2.2.2.1 (((X6.keep K14).keep K15).keep K16) (wd_2 g))) nin0)).keep KE34 nin0 nin0).keep K43 nin0 nin0).keep K44 nin0 nin0).keep K45 nin0 nin0).keep K53 (ninS (Exa.ne (((((o16_0.keep K24 (ninS (Exa.ne o16_0.1 (((X6.keep K14).keep K15).keep K16) (by decide)) nin0) (ninS (Ne.symm (Ar.ne_exa o16_0.2.2.2.1 (((X6.keep K14).keep K15).keep K16) (wd_2 g))) nin0)).keep KE34 nin0 nin0).keep K43 nin0 nin0).keep K44 nin0 nin0).keep K45 nin0 nin0).1 (((X35.keep K43).keep K44).keep K45) (by decide)) nin0) (ninS (Ne.symm (Ar.ne_exa (((((o16_0.keep K24 (ninS (Exa.ne o16_0.1 (((X6.keep K14).keep K15).keep K16) (by decide)) nin0) (ninS (Ne.symm (Ar.ne_exa o16_0.2.2.2.1 (((X6.keep K14).keep K15).keep K16) (wd_2 g))) nin0)).keep KE34 nin0 nin0).keep K43 nin0 nin0).keep K44 nin0 nin0).keep K45 nin0 nin0).2.2.2.1 (((X35.keep K43).keep K44).keep K45) (wd_2 g))) nin0)).keep K54 nin0 nin0)
                have f67 : St Z h54 r_43 d_43 kd_43 (sb x27) := ((((o43_0.keep K44 nin0 nin0).keep K45 nin0 nin0).keep K53 (ninS (Exa.ne ((o43_0.keep K44 nin0 nin0).keep K45 nin0 nin0).1 (((X35.keep K43).keep K44).keep K45) (by decide)) nin0) (ninS (Ne.symm (Ar.ne_exa ((o43_0.keep K44 nin0 nin0).keep K45 nin0 nin0).2.2.2.1 (((X35.keep K43).keep K44).keep K45) (wd_2 g))) nin0)).keep K54 nin0 nin0)
                have f68 : St Z h54 r_44 d_44 kd_44 (sb x57) := (((o44_0.keep K45 nin0 nin0).keep K53 (ninS (Exa.ne (o44_0.keep K45 nin0 nin0).1 (((X35.keep K43).keep K44).keep K45) (by decide)) nin0) (ninS (Ne.symm (Ar.ne_exa (o44_0.keep K45 nin0 nin0).2.2.2.1 (((X35.keep K43).keep K44).keep K45) (wd_2 g))) nin0)).keep K54 nin0 nin0)
                have f69 : St Z h54 r_45 d_45 kd_45 (sb x89) := ((o45_0.keep K53 (ninS (Exa.ne o45_0.1 (((X35.keep K43).keep K44).keep K45) (by decide)) nin0) (ninS (Ne.symm (Ar.ne_exa o45_0.2.2.2.1 (((X35.keep K43).keep K44).keep K45) (wd_2 g))) nin0)).keep K54 nin0 nin0)
                have f70 : Exa Z h54 a2 "com/example/kunci/kunci/Permission" := (((((((f17.keep K24).keep KE34).keep K43).keep K44).keep K45).keep K53).keep K54)
                refine Go.callV (y0 := ⟨"com/example/kunci/kunci/Permission", "equals", "(Ljava/lang/Object;)Z"⟩) (c_permeq (l := l) (nw := nw) g h54 a2 a31 r_14 d_14 kd_14 (sb (i0 &&& (262143 : Int64))) r_15 d_15 kd_15 (sb (i1 &&& (262143 : Int64))) r_16 d_16 kd_16 (sb (i2 &&& (262143 : Int64))) r_43 d_43 kd_43 (sb x27) r_44 d_44 kd_44 (sb x57) r_45 d_45 kd_45 (sb x89) x103 x117 f55 f56 f57 f58 f59 f60 f61 f62 f63 f64 f65 f66 f67 f68 f69 (by omega)) hown (wd_72 g) (wd_73 g) (notFace_of_selects (wd_75 g)) (wd_75 g) (wd_74 g) f70 (wd_76 g) (wd_3 g) (by decide) (argsL := [(.ref a31)]) (lenOf pd_9 rfl) rfl (by rw [hml]; rfl) (W := 0) rfl (hb hby at_261) (pc' := 264) rfl (by decide) (by decide) (by decide) (by decide) all0 ?_
                rintro _ vm71 h71 ⟨rfl, K71⟩ C71
                have z71 := K71.1
                -- pc 264
                refine Go.iload (hb hby at_264) (pc' := 266) rfl rfl ?_
                refine Go.icmpN (hb hby at_266) (pc' := 269) rfl (fun q => q (bo_no (fun z => bo_ne0.mpr z.1 q220))) ?_
                refine Go.iconst (hb hby at_269) (pc' := 270) rfl (z := (1 : Int32)) rfl ?_
                refine Go.goto (hb hby at_270) (by decide) (pc' := 274) (by decide) ?_
                refine Go.retN (t := .boolean) hret (by simp) (hb hby at_274) (by decide) (by decide) ?_
                intro vmR CR
                exact ⟨(by first | rfl | (simp only [own_nar]; done) | (congr 2; done)), (((((((((((((Keep.refl h []).trans KE5 all0).trans K14 all0).trans K15 all0).trans K16 all0).trans K24 (allS (by first | (left; simp; done) | (right; omega)) all0)).trans KE34 all0).trans K43 all0).trans K44 all0).trans K45 all0).trans K53 (allS (by first | (left; simp; done) | (right; omega)) all0)).trans K54 all0).trans K71 all0)⟩
              · refine Go.lload (hb hby at_223) (pc' := 225) rfl rfl ?_
                refine Go.lload (hb hby at_225) (pc' := 227) rfl rfl ?_
                refine Go.callS (c_same (l := l) (nw := nw) g h54 (i1 &&& (262143 : Int64)) x57 (by omega)) hown (wd_69 g) (wd_70 g) (wd_71 g) (wd_6 g) (by decide) (argsL := [(.long (i1 &&& (262143 : Int64))), (.long x57)]) (lenOf pd_12 rfl) rfl (by rw [hml]; rfl) (W := 0) rfl (hb hby at_227) (pc' := 230) rfl (by decide) (by decide) (by decide) (by decide) all0 ?_
                rintro _ vm72 h72 ⟨rfl, K72⟩ C72
                have z72 := K72.1
                -- pc 230
                refine Go.ifc (hb hby at_230) (by decide) (pc' := 254) (by decide) (pc2 := 233) rfl (fun (q230 : (bo (sb (i1 &&& (262143 : Int64)) = sb x57)) = (0 : Int32)) => ?_) (fun (q230 : ¬ ((bo (sb (i1 &&& (262143 : Int64)) = sb x57)) = (0 : Int32))) => ?_)
                · refine Go.iconst (hb hby at_254) (pc' := 255) rfl (z := (0 : Int32)) rfl ?_
                  refine Go.istore (hb hby at_255) (pc' := 257) rfl (L' := #[.val (.long i0), .second, .val (.long i1), .second, .val (.long i2), .second, .val (.int i3), .val (.long (i0 &&& (262143 : Int64))), .second, .val (.long x27), .second, .val (.long (i1 &&& (262143 : Int64))), .second, .val (.long x57), .second, .val (.long (i2 &&& (262143 : Int64))), .second, .val (.long x89), .second, .val (.int x103), .val (.int x117), .val (.int ((XT.ushr i3 (5 : Int32)) &&& (3 : Int32))), .val (.ref a2), .val (.ref a31), .val (.int (0 : Int32))]) rfl ?_
                  refine Go.aload (hb hby at_257) (pc' := 259) rfl rfl rfl ?_
                  refine Go.aload (hb hby at_259) (pc' := 261) rfl rfl rfl ?_
                  have f73 : Exa Z h72 a31 "com/example/kunci/kunci/Permission" := (((f46.keep K53).keep K54).keep K72)
                  have f74 : Fld Z h72 a2 "com/example/kunci/kunci/Permission" "entity" "Ljava/lang/String;" (.ref r_14) := (((((((o24_0.keep KE34 nin0).keep K43 nin0).keep K44 nin0).keep K45 nin0).keep K53 (ninS (neN (by omega)) nin0)).keep K54 nin0).keep K72 nin0)
                  have f75 : Fld Z h72 a2 "com/example/kunci/kunci/Permission" "principal" "Ljava/lang/String;" (.ref r_15) := (((((((o24_1.keep KE34 nin0).keep K43 nin0).keep K44 nin0).keep K45 nin0).keep K53 (ninS (neN (by omega)) nin0)).keep K54 nin0).keep K72 nin0)
                  have f76 : Fld Z h72 a2 "com/example/kunci/kunci/Permission" "role" "Ljava/lang/String;" (.ref r_16) := (((((((o24_2.keep KE34 nin0).keep K43 nin0).keep K44 nin0).keep K45 nin0).keep K53 (ninS (neN (by omega)) nin0)).keep K54 nin0).keep K72 nin0)
                  have f77 : Fld Z h72 a2 "com/example/kunci/kunci/Permission" "propagating" "Z" (.int x103) := (((((((o24_3.keep KE34 nin0).keep K43 nin0).keep K44 nin0).keep K45 nin0).keep K53 (ninS (neN (by omega)) nin0)).keep K54 nin0).keep K72 nin0)
                  have f78 : Fld Z h72 a31 "com/example/kunci/kunci/Permission" "entity" "Ljava/lang/String;" (.ref r_43) := ((o53_0.keep K54 nin0).keep K72 nin0)
                  have f79 : Fld Z h72 a31 "com/example/kunci/kunci/Permission" "principal" "Ljava/lang/String;" (.ref r_44) := ((o53_1.keep K54 nin0).keep K72 nin0)
                  have f80 : Fld Z h72 a31 "com/example/kunci/kunci/Permission" "role" "Ljava/lang/String;" (.ref r_45) := ((o53_2.keep K54 nin0).keep K72 nin0)
                  have f81 : Fld Z h72 a31 "com/example/kunci/kunci/Permission" "propagating" "Z" (.int x117) := ((o53_3.keep K54 nin0).keep K72 nin0)
                  have f82 : St Z h72 r_14 d_14 kd_14 (sb (i0 &&& (262143 : Int64))) := ((((((((((o14_0.keep K15 nin0 nin0).keep K16 nin0 nin0).keep K24 (ninS (Exa.ne ((o14_0.keep K15 nin0 nin0).keep K16 nin0 nin0).1 (((X6.keep K14).keep K15).keep K16) (by decide)) nin0) (ninS (Ne.symm (Ar.ne_exa ((o14_0.keep K15 nin0 nin0).keep K16 nin0 nin0).2.2.2.1 (((X6.keep K14).keep K15).keep K16) (wd_2 g))) nin0)).keep KE34 nin0 nin0).keep K43 nin0 nin0).keep K44 nin0 nin0).keep K45 nin0 nin0).keep K53 (ninS (Exa.ne (((((((o14_0.keep K15 nin0 nin0).keep K16 nin0 nin0).keep K24 (ninS (Exa.ne ((o14_0.keep K15 nin0 nin0).keep K16 nin0 nin0).1 (((X6.keep K14).keep K15).keep K16) (by decide)) nin0) (ninS (Ne.symm (Ar.ne_exa ((o14_0.keep K15 nin0 nin0).keep K16 nin0 nin0).2.2.2.1 (((X6.keep K14).keep K15).keep K16) (wd_2 g))) nin0)).keep KE34 nin0 nin0).keep K43 nin0 nin0).keep K44 nin0 nin0).keep K45 nin0 nin0).1 (((X35.keep K43).keep K44).keep K45) (by decide)) nin0) (ninS (Ne.symm (Ar.ne_exa (((((((o14_0.keep K15 nin0 nin0).keep K16 nin0 nin0).keep K24 (ninS (Exa.ne ((o14_0.keep K15 nin0 nin0).keep K16 nin0 nin0).1 (((X6.keep K14).keep K15).keep K16) (by decide)) nin0) (ninS (Ne.symm (Ar.ne_exa ((o14_0.keep K15 nin0 nin0).keep K16 nin0 nin0).2.2.2.1 (((X6.keep K14).keep K15).keep K16) (wd_2 g))) nin0)).keep KE34 nin0 nin0).keep K43 nin0 nin0).keep K44 nin0 nin0).keep K45 nin0 nin0).2.2.2.1 (((X35.keep K43).keep K44).keep K45) (wd_2 g))) nin0)).keep K54 nin0 nin0).keep K72 nin0 nin0)
                  have f83 : St Z h72 r_15 d_15 kd_15 (sb (i1 &&& (262143 : Int64))) := (((((((((o15_0.keep K16 nin0 nin0).keep K24 (ninS (Exa.ne (o15_0.keep K16 nin0 nin0).1 (((X6.keep K14).keep K15).keep K16) (by decide)) nin0) (ninS (Ne.symm (Ar.ne_exa (o15_0.keep K16 nin0 nin0).2.2.2.1 (((X6.keep K14).keep K15).keep K16) (wd_2 g))) nin0)).keep KE34 nin0 nin0).keep K43 nin0 nin0).keep K44 nin0 nin0).keep K45 nin0 nin0).keep K53 (ninS (Exa.ne ((((((o15_0.keep K16 nin0 nin0).keep K24 (ninS (Exa.ne (o15_0.keep K16 nin0 nin0).1 (((X6.keep K14).keep K15).keep K16) (by decide)) nin0) (ninS (Ne.symm (Ar.ne_exa (o15_0.keep K16 nin0 nin0).2.2.2.1 (((X6.keep K14).keep K15).keep K16) (wd_2 g))) nin0)).keep KE34 nin0 nin0).keep K43 nin0 nin0).keep K44 nin0 nin0).keep K45 nin0 nin0).1 (((X35.keep K43).keep K44).keep K45) (by decide)) nin0) (ninS (Ne.symm (Ar.ne_exa ((((((o15_0.keep K16 nin0 nin0).keep K24 (ninS (Exa.ne (o15_0.keep K16 nin0 nin0).1 (((X6.keep K14).keep K15).keep K16) (by decide)) nin0) (ninS (Ne.symm (Ar.ne_exa (o15_0.keep K16 nin0 nin0).2.2.2.1 (((X6.keep K14).keep K15).keep K16) (wd_2 g))) nin0)).keep KE34 nin0 nin0).keep K43 nin0 nin0).keep K44 nin0 nin0).keep K45 nin0 nin0).2.2.2.1 (((X35.keep K43).keep K44).keep K45) (wd_2 g))) nin0)).keep K54 nin0 nin0).keep K72 nin0 nin0)
                  have f84 : St Z h72 r_16 d_16 kd_16 (sb (i2 &&& (262143 : Int64))) := ((((((((o16_0.keep K24 (ninS (Exa.ne o16_0.1 (((X6.keep K14).keep K15).keep K16) (by decide)) nin0) (ninS (Ne.symm (Ar.ne_exa o16_0.2.2.2.1 (((X6.keep K14).keep K15).keep K16) (wd_2 g))) nin0)).keep KE34 nin0 nin0).keep K43 nin0 nin0).keep K44 nin0 nin0).keep K45 nin0 nin0).keep K53 (ninS (Exa.ne (((((o16_0.keep K24 (ninS (Exa.ne o16_0.1 (((X6.keep K14).keep K15).keep K16) (by decide)) nin0) (ninS (Ne.symm (Ar.ne_exa o16_0.2.2.2.1 (((X6.keep K14).keep K15).keep K16) (wd_2 g))) nin0)).keep KE34 nin0 nin0).keep K43 nin0 nin0).keep K44 nin0 nin0).keep K45 nin0 nin0).1 (((X35.keep K43).keep K44).keep K45) (by decide)) nin0) (ninS (Ne.symm (Ar.ne_exa (((((o16_0.keep K24 (ninS (Exa.ne o16_0.1 (((X6.keep K14).keep K15).keep K16) (by decide)) nin0) (ninS (Ne.symm (Ar.ne_exa o16_0.2.2.2.1 (((X6.keep K14).keep K15).keep K16) (wd_2 g))) nin0)).keep KE34 nin0 nin0).keep K43 nin0 nin0).keep K44 nin0 nin0).keep K45 nin0 nin0).2.2.2.1 (((X35.keep K43).keep K44).keep K45) (wd_2 g))) nin0)).keep K54 nin0 nin0).keep K72 nin0 nin0)
                  have f85 : St Z h72 r_43 d_43 kd_43 (sb x27) := (((((o43_0.keep K44 nin0 nin0).keep K45 nin0 nin0).keep K53 (ninS (Exa.ne ((o43_0.keep K44 nin0 nin0).keep K45 nin0 nin0).1 (((X35.keep K43).keep K44).keep K45) (by decide)) nin0) (ninS (Ne.symm (Ar.ne_exa ((o43_0.keep K44 nin0 nin0).keep K45 nin0 nin0).2.2.2.1 (((X35.keep K43).keep K44).keep K45) (wd_2 g))) nin0)).keep K54 nin0 nin0).keep K72 nin0 nin0)
                  have f86 : St Z h72 r_44 d_44 kd_44 (sb x57) := ((((o44_0.keep K45 nin0 nin0).keep K53 (ninS (Exa.ne (o44_0.keep K45 nin0 nin0).1 (((X35.keep K43).keep K44).keep K45) (by decide)) nin0) (ninS (Ne.symm (Ar.ne_exa (o44_0.keep K45 nin0 nin0).2.2.2.1 (((X35.keep K43).keep K44).keep K45) (wd_2 g))) nin0)).keep K54 nin0 nin0).keep K72 nin0 nin0)
                  have f87 : St Z h72 r_45 d_45 kd_45 (sb x89) := (((o45_0.keep K53 (ninS (Exa.ne o45_0.1 (((X35.keep K43).keep K44).keep K45) (by decide)) nin0) (ninS (Ne.symm (Ar.ne_exa o45_0.2.2.2.1 (((X35.keep K43).keep K44).keep K45) (wd_2 g))) nin0)).keep K54 nin0 nin0).keep K72 nin0 nin0)
                  have f88 : Exa Z h72 a2 "com/example/kunci/kunci/Permission" := ((((((((f17.keep K24).keep KE34).keep K43).keep K44).keep K45).keep K53).keep K54).keep K72)
                  refine Go.callV (y0 := ⟨"com/example/kunci/kunci/Permission", "equals", "(Ljava/lang/Object;)Z"⟩) (c_permeq (l := l) (nw := nw) g h72 a2 a31 r_14 d_14 kd_14 (sb (i0 &&& (262143 : Int64))) r_15 d_15 kd_15 (sb (i1 &&& (262143 : Int64))) r_16 d_16 kd_16 (sb (i2 &&& (262143 : Int64))) r_43 d_43 kd_43 (sb x27) r_44 d_44 kd_44 (sb x57) r_45 d_45 kd_45 (sb x89) x103 x117 f73 f74 f75 f76 f77 f78 f79 f80 f81 f82 f83 f84 f85 f86 f87 (by omega)) hown (wd_72 g) (wd_73 g) (notFace_of_selects (wd_75 g)) (wd_75 g) (wd_74 g) f88 (wd_76 g) (wd_3 g) (by decide) (argsL := [(.ref a31)]) (lenOf pd_9 rfl) rfl (by rw [hml]; rfl) (W := 0) rfl (hb hby at_261) (pc' := 264) rfl (by decide) (by decide) (by decide) (by decide) all0 ?_
                  rintro _ vm89 h89 ⟨rfl, K89⟩ C89
                  have z89 := K89.1
                  -- pc 264
                  refine Go.iload (hb hby at_264) (pc' := 266) rfl rfl ?_
                  refine Go.icmpN (hb hby at_266) (pc' := 269) rfl (fun q => q (bo_no (fun z => bo_ne0.mpr z.2.1 q230))) ?_
                  refine Go.iconst (hb hby at_269) (pc' := 270) rfl (z := (1 : Int32)) rfl ?_
                  refine Go.goto (hb hby at_270) (by decide) (pc' := 274) (by decide) ?_
                  refine Go.retN (t := .boolean) hret (by simp) (hb hby at_274) (by decide) (by decide) ?_
                  intro vmR CR
                  exact ⟨(by first | rfl | (simp only [own_nar]; done) | (congr 2; done)), ((((((((((((((Keep.refl h []).trans KE5 all0).trans K14 all0).trans K15 all0).trans K16 all0).trans K24 (allS (by first | (left; simp; done) | (right; omega)) all0)).trans KE34 all0).trans K43 all0).trans K44 all0).trans K45 all0).trans K53 (allS (by first | (left; simp; done) | (right; omega)) all0)).trans K54 all0).trans K72 all0).trans K89 all0)⟩
                · refine Go.lload (hb hby at_233) (pc' := 235) rfl rfl ?_
                  refine Go.lload (hb hby at_235) (pc' := 237) rfl rfl ?_
                  refine Go.callS (c_same (l := l) (nw := nw) g h72 (i2 &&& (262143 : Int64)) x89 (by omega)) hown (wd_69 g) (wd_70 g) (wd_71 g) (wd_6 g) (by decide) (argsL := [(.long (i2 &&& (262143 : Int64))), (.long x89)]) (lenOf pd_12 rfl) rfl (by rw [hml]; rfl) (W := 0) rfl (hb hby at_237) (pc' := 240) rfl (by decide) (by decide) (by decide) (by decide) all0 ?_
                  rintro _ vm90 h90 ⟨rfl, K90⟩ C90
                  have z90 := K90.1
                  -- pc 240
                  refine Go.ifc (hb hby at_240) (by decide) (pc' := 254) (by decide) (pc2 := 243) rfl (fun (q240 : (bo (sb (i2 &&& (262143 : Int64)) = sb x89)) = (0 : Int32)) => ?_) (fun (q240 : ¬ ((bo (sb (i2 &&& (262143 : Int64)) = sb x89)) = (0 : Int32))) => ?_)
                  · refine Go.iconst (hb hby at_254) (pc' := 255) rfl (z := (0 : Int32)) rfl ?_
                    refine Go.istore (hb hby at_255) (pc' := 257) rfl (L' := #[.val (.long i0), .second, .val (.long i1), .second, .val (.long i2), .second, .val (.int i3), .val (.long (i0 &&& (262143 : Int64))), .second, .val (.long x27), .second, .val (.long (i1 &&& (262143 : Int64))), .second, .val (.long x57), .second, .val (.long (i2 &&& (262143 : Int64))), .second, .val (.long x89), .second, .val (.int x103), .val (.int x117), .val (.int ((XT.ushr i3 (5 : Int32)) &&& (3 : Int32))), .val (.ref a2), .val (.ref a31), .val (.int (0 : Int32))]) rfl ?_
                    refine Go.aload (hb hby at_257) (pc' := 259) rfl rfl rfl ?_
                    refine Go.aload (hb hby at_259) (pc' := 261) rfl rfl rfl ?_
                    have f91 : Exa Z h90 a31 "com/example/kunci/kunci/Permission" := ((((f46.keep K53).keep K54).keep K72).keep K90)
                    have f92 : Fld Z h90 a2 "com/example/kunci/kunci/Permission" "entity" "Ljava/lang/String;" (.ref r_14) := ((((((((o24_0.keep KE34 nin0).keep K43 nin0).keep K44 nin0).keep K45 nin0).keep K53 (ninS (neN (by omega)) nin0)).keep K54 nin0).keep K72 nin0).keep K90 nin0)
                    have f93 : Fld Z h90 a2 "com/example/kunci/kunci/Permission" "principal" "Ljava/lang/String;" (.ref r_15) := ((((((((o24_1.keep KE34 nin0).keep K43 nin0).keep K44 nin0).keep K45 nin0).keep K53 (ninS (neN (by omega)) nin0)).keep K54 nin0).keep K72 nin0).keep K90 nin0)
                    have f94 : Fld Z h90 a2 "com/example/kunci/kunci/Permission" "role" "Ljava/lang/String;" (.ref r_16) := ((((((((o24_2.keep KE34 nin0).keep K43 nin0).keep K44 nin0).keep K45 nin0).keep K53 (ninS (neN (by omega)) nin0)).keep K54 nin0).keep K72 nin0).keep K90 nin0)
                    have f95 : Fld Z h90 a2 "com/example/kunci/kunci/Permission" "propagating" "Z" (.int x103) := ((((((((o24_3.keep KE34 nin0).keep K43 nin0).keep K44 nin0).keep K45 nin0).keep K53 (ninS (neN (by omega)) nin0)).keep K54 nin0).keep K72 nin0).keep K90 nin0)
                    have f96 : Fld Z h90 a31 "com/example/kunci/kunci/Permission" "entity" "Ljava/lang/String;" (.ref r_43) := (((o53_0.keep K54 nin0).keep K72 nin0).keep K90 nin0)
                    have f97 : Fld Z h90 a31 "com/example/kunci/kunci/Permission" "principal" "Ljava/lang/String;" (.ref r_44) := (((o53_1.keep K54 nin0).keep K72 nin0).keep K90 nin0)
                    have f98 : Fld Z h90 a31 "com/example/kunci/kunci/Permission" "role" "Ljava/lang/String;" (.ref r_45) := (((o53_2.keep K54 nin0).keep K72 nin0).keep K90 nin0)
                    have f99 : Fld Z h90 a31 "com/example/kunci/kunci/Permission" "propagating" "Z" (.int x117) := (((o53_3.keep K54 nin0).keep K72 nin0).keep K90 nin0)
                    have f100 : St Z h90 r_14 d_14 kd_14 (sb (i0 &&& (262143 : Int64))) := (((((((((((o14_0.keep K15 nin0 nin0).keep K16 nin0 nin0).keep K24 (ninS (Exa.ne ((o14_0.keep K15 nin0 nin0).keep K16 nin0 nin0).1 (((X6.keep K14).keep K15).keep K16) (by decide)) nin0) (ninS (Ne.symm (Ar.ne_exa ((o14_0.keep K15 nin0 nin0).keep K16 nin0 nin0).2.2.2.1 (((X6.keep K14).keep K15).keep K16) (wd_2 g))) nin0)).keep KE34 nin0 nin0).keep K43 nin0 nin0).keep K44 nin0 nin0).keep K45 nin0 nin0).keep K53 (ninS (Exa.ne (((((((o14_0.keep K15 nin0 nin0).keep K16 nin0 nin0).keep K24 (ninS (Exa.ne ((o14_0.keep K15 nin0 nin0).keep K16 nin0 nin0).1 (((X6.keep K14).keep K15).keep K16) (by decide)) nin0) (ninS (Ne.symm (Ar.ne_exa ((o14_0.keep K15 nin0 nin0).keep K16 nin0 nin0).2.2.2.1 (((X6.keep K14).keep K15).keep K16) (wd_2 g))) nin0)).keep KE34 nin0 nin0).keep K43 nin0 nin0).keep K44 nin0 nin0).keep K45 nin0 nin0).1 (((X35.keep K43).keep K44).keep K45) (by decide)) nin0) (ninS (Ne.symm (Ar.ne_exa (((((((o14_0.keep K15 nin0 nin0).keep K16 nin0 nin0).keep K24 (ninS (Exa.ne ((o14_0.keep K15 nin0 nin0).keep K16 nin0 nin0).1 (((X6.keep K14).keep K15).keep K16) (by decide)) nin0) (ninS (Ne.symm (Ar.ne_exa ((o14_0.keep K15 nin0 nin0).keep K16 nin0 nin0).2.2.2.1 (((X6.keep K14).keep K15).keep K16) (wd_2 g))) nin0)).keep KE34 nin0 nin0).keep K43 nin0 nin0).keep K44 nin0 nin0).keep K45 nin0 nin0).2.2.2.1 (((X35.keep K43).keep K44).keep K45) (wd_2 g))) nin0)).keep K54 nin0 nin0).keep K72 nin0 nin0).keep K90 nin0 nin0)
                    have f101 : St Z h90 r_15 d_15 kd_15 (sb (i1 &&& (262143 : Int64))) := ((((((((((o15_0.keep K16 nin0 nin0).keep K24 (ninS (Exa.ne (o15_0.keep K16 nin0 nin0).1 (((X6.keep K14).keep K15).keep K16) (by decide)) nin0) (ninS (Ne.symm (Ar.ne_exa (o15_0.keep K16 nin0 nin0).2.2.2.1 (((X6.keep K14).keep K15).keep K16) (wd_2 g))) nin0)).keep KE34 nin0 nin0).keep K43 nin0 nin0).keep K44 nin0 nin0).keep K45 nin0 nin0).keep K53 (ninS (Exa.ne ((((((o15_0.keep K16 nin0 nin0).keep K24 (ninS (Exa.ne (o15_0.keep K16 nin0 nin0).1 (((X6.keep K14).keep K15).keep K16) (by decide)) nin0) (ninS (Ne.symm (Ar.ne_exa (o15_0.keep K16 nin0 nin0).2.2.2.1 (((X6.keep K14).keep K15).keep K16) (wd_2 g))) nin0)).keep KE34 nin0 nin0).keep K43 nin0 nin0).keep K44 nin0 nin0).keep K45 nin0 nin0).1 (((X35.keep K43).keep K44).keep K45) (by decide)) nin0) (ninS (Ne.symm (Ar.ne_exa ((((((o15_0.keep K16 nin0 nin0).keep K24 (ninS (Exa.ne (o15_0.keep K16 nin0 nin0).1 (((X6.keep K14).keep K15).keep K16) (by decide)) nin0) (ninS (Ne.symm (Ar.ne_exa (o15_0.keep K16 nin0 nin0).2.2.2.1 (((X6.keep K14).keep K15).keep K16) (wd_2 g))) nin0)).keep KE34 nin0 nin0).keep K43 nin0 nin0).keep K44 nin0 nin0).keep K45 nin0 nin0).2.2.2.1 (((X35.keep K43).keep K44).keep K45) (wd_2 g))) nin0)).keep K54 nin0 nin0).keep K72 nin0 nin0).keep K90 nin0 nin0)
                    have f102 : St Z h90 r_16 d_16 kd_16 (sb (i2 &&& (262143 : Int64))) := (((((((((o16_0.keep K24 (ninS (Exa.ne o16_0.1 (((X6.keep K14).keep K15).keep K16) (by decide)) nin0) (ninS (Ne.symm (Ar.ne_exa o16_0.2.2.2.1 (((X6.keep K14).keep K15).keep K16) (wd_2 g))) nin0)).keep KE34 nin0 nin0).keep K43 nin0 nin0).keep K44 nin0 nin0).keep K45 nin0 nin0).keep K53 (ninS (Exa.ne (((((o16_0.keep K24 (ninS (Exa.ne o16_0.1 (((X6.keep K14).keep K15).keep K16) (by decide)) nin0) (ninS (Ne.symm (Ar.ne_exa o16_0.2.2.2.1 (((X6.keep K14).keep K15).keep K16) (wd_2 g))) nin0)).keep KE34 nin0 nin0).keep K43 nin0 nin0).keep K44 nin0 nin0).keep K45 nin0 nin0).1 (((X35.keep K43).keep K44).keep K45) (by decide)) nin0) (ninS (Ne.symm (Ar.ne_exa (((((o16_0.keep K24 (ninS (Exa.ne o16_0.1 (((X6.keep K14).keep K15).keep K16) (by decide)) nin0) (ninS (Ne.symm (Ar.ne_exa o16_0.2.2.2.1 (((X6.keep K14).keep K15).keep K16) (wd_2 g))) nin0)).keep KE34 nin0 nin0).keep K43 nin0 nin0).keep K44 nin0 nin0).keep K45 nin0 nin0).2.2.2.1 (((X35.keep K43).keep K44).keep K45) (wd_2 g))) nin0)).keep K54 nin0 nin0).keep K72 nin0 nin0).keep K90 nin0 nin0)
                    have f103 : St Z h90 r_43 d_43 kd_43 (sb x27) := ((((((o43_0.keep K44 nin0 nin0).keep K45 nin0 nin0).keep K53 (ninS (Exa.ne ((o43_0.keep K44 nin0 nin0).keep K45 nin0 nin0).1 (((X35.keep K43).keep K44).keep K45) (by decide)) nin0) (ninS (Ne.symm (Ar.ne_exa ((o43_0.keep K44 nin0 nin0).keep K45 nin0 nin0).2.2.2.1 (((X35.keep K43).keep K44).keep K45) (wd_2 g))) nin0)).keep K54 nin0 nin0).keep K72 nin0 nin0).keep K90 nin0 nin0)
                    have f104 : St Z h90 r_44 d_44 kd_44 (sb x57) := (((((o44_0.keep K45 nin0 nin0).keep K53 (ninS (Exa.ne (o44_0.keep K45 nin0 nin0).1 (((X35.keep K43).keep K44).keep K45) (by decide)) nin0) (ninS (Ne.symm (Ar.ne_exa (o44_0.keep K45 nin0 nin0).2.2.2.1 (((X35.keep K43).keep K44).keep K45) (wd_2 g))) nin0)).keep K54 nin0 nin0).keep K72 nin0 nin0).keep K90 nin0 nin0)
                    have f105 : St Z h90 r_45 d_45 kd_45 (sb x89) := ((((o45_0.keep K53 (ninS (Exa.ne o45_0.1 (((X35.keep K43).keep K44).keep K45) (by decide)) nin0) (ninS (Ne.symm (Ar.ne_exa o45_0.2.2.2.1 (((X35.keep K43).keep K44).keep K45) (wd_2 g))) nin0)).keep K54 nin0 nin0).keep K72 nin0 nin0).keep K90 nin0 nin0)
                    have f106 : Exa Z h90 a2 "com/example/kunci/kunci/Permission" := (((((((((f17.keep K24).keep KE34).keep K43).keep K44).keep K45).keep K53).keep K54).keep K72).keep K90)
                    refine Go.callV (y0 := ⟨"com/example/kunci/kunci/Permission", "equals", "(Ljava/lang/Object;)Z"⟩) (c_permeq (l := l) (nw := nw) g h90 a2 a31 r_14 d_14 kd_14 (sb (i0 &&& (262143 : Int64))) r_15 d_15 kd_15 (sb (i1 &&& (262143 : Int64))) r_16 d_16 kd_16 (sb (i2 &&& (262143 : Int64))) r_43 d_43 kd_43 (sb x27) r_44 d_44 kd_44 (sb x57) r_45 d_45 kd_45 (sb x89) x103 x117 f91 f92 f93 f94 f95 f96 f97 f98 f99 f100 f101 f102 f103 f104 f105 (by omega)) hown (wd_72 g) (wd_73 g) (notFace_of_selects (wd_75 g)) (wd_75 g) (wd_74 g) f106 (wd_76 g) (wd_3 g) (by decide) (argsL := [(.ref a31)]) (lenOf pd_9 rfl) rfl (by rw [hml]; rfl) (W := 0) rfl (hb hby at_261) (pc' := 264) rfl (by decide) (by decide) (by decide) (by decide) all0 ?_
                    rintro _ vm107 h107 ⟨rfl, K107⟩ C107
                    have z107 := K107.1
                    -- pc 264
                    refine Go.iload (hb hby at_264) (pc' := 266) rfl rfl ?_
                    refine Go.icmpN (hb hby at_266) (pc' := 269) rfl (fun q => q (bo_no (fun z => bo_ne0.mpr z.2.2.1 q240))) ?_
                    refine Go.iconst (hb hby at_269) (pc' := 270) rfl (z := (1 : Int32)) rfl ?_
                    refine Go.goto (hb hby at_270) (by decide) (pc' := 274) (by decide) ?_
                    refine Go.retN (t := .boolean) hret (by simp) (hb hby at_274) (by decide) (by decide) ?_
                    intro vmR CR
                    exact ⟨(by first | rfl | (simp only [own_nar]; done) | (congr 2; done)), (((((((((((((((Keep.refl h []).trans KE5 all0).trans K14 all0).trans K15 all0).trans K16 all0).trans K24 (allS (by first | (left; simp; done) | (right; omega)) all0)).trans KE34 all0).trans K43 all0).trans K44 all0).trans K45 all0).trans K53 (allS (by first | (left; simp; done) | (right; omega)) all0)).trans K54 all0).trans K72 all0).trans K90 all0).trans K107 all0)⟩
                  · refine Go.iload (hb hby at_243) (pc' := 245) rfl rfl ?_
                    refine Go.iload (hb hby at_245) (pc' := 247) rfl rfl ?_
                    refine Go.icmp (hb hby at_247) (by decide) (pc' := 254) (by decide) (pc2 := 250) rfl (fun (q247 : ¬ x103 = x117) => ?_) (fun (q247 : ¬ (¬ x103 = x117)) => ?_)
                    · refine Go.iconst (hb hby at_254) (pc' := 255) rfl (z := (0 : Int32)) rfl ?_
                      refine Go.istore (hb hby at_255) (pc' := 257) rfl (L' := #[.val (.long i0), .second, .val (.long i1), .second, .val (.long i2), .second, .val (.int i3), .val (.long (i0 &&& (262143 : Int64))), .second, .val (.long x27), .second, .val (.long (i1 &&& (262143 : Int64))), .second, .val (.long x57), .second, .val (.long (i2 &&& (262143 : Int64))), .second, .val (.long x89), .second, .val (.int x103), .val (.int x117), .val (.int ((XT.ushr i3 (5 : Int32)) &&& (3 : Int32))), .val (.ref a2), .val (.ref a31), .val (.int (0 : Int32))]) rfl ?_
                      refine Go.aload (hb hby at_257) (pc' := 259) rfl rfl rfl ?_
                      refine Go.aload (hb hby at_259) (pc' := 261) rfl rfl rfl ?_
                      have f108 : Exa Z h90 a31 "com/example/kunci/kunci/Permission" := ((((f46.keep K53).keep K54).keep K72).keep K90)
                      have f109 : Fld Z h90 a2 "com/example/kunci/kunci/Permission" "entity" "Ljava/lang/String;" (.ref r_14) := ((((((((o24_0.keep KE34 nin0).keep K43 nin0).keep K44 nin0).keep K45 nin0).keep K53 (ninS (neN (by omega)) nin0)).keep K54 nin0).keep K72 nin0).keep K90 nin0)
                      have f110 : Fld Z h90 a2 "com/example/kunci/kunci/Permission" "principal" "Ljava/lang/String;" (.ref r_15) := ((((((((o24_1.keep KE34 nin0).keep K43 nin0).keep K44 nin0).keep K45 nin0).keep K53 (ninS (neN (by omega)) nin0)).keep K54 nin0).keep K72 nin0).keep K90 nin0)
                      have f111 : Fld Z h90 a2 "com/example/kunci/kunci/Permission" "role" "Ljava/lang/String;" (.ref r_16) := ((((((((o24_2.keep KE34 nin0).keep K43 nin0).keep K44 nin0).keep K45 nin0).keep K53 (ninS (neN (by omega)) nin0)).keep K54 nin0).keep K72 nin0).keep K90 nin0)
                      have f112 : Fld Z h90 a2 "com/example/kunci/kunci/Permission" "propagating" "Z" (.int x103) := ((((((((o24_3.keep KE34 nin0).keep K43 nin0).keep K44 nin0).keep K45 nin0).keep K53 (ninS (neN (by omega)) nin0)).keep K54 nin0).keep K72 nin0).keep K90 nin0)
                      have f113 : Fld Z h90 a31 "com/example/kunci/kunci/Permission" "entity" "Ljava/lang/String;" (.ref r_43) := (((o53_0.keep K54 nin0).keep K72 nin0).keep K90 nin0)
                      have f114 : Fld Z h90 a31 "com/example/kunci/kunci/Permission" "principal" "Ljava/lang/String;" (.ref r_44) := (((o53_1.keep K54 nin0).keep K72 nin0).keep K90 nin0)
                      have f115 : Fld Z h90 a31 "com/example/kunci/kunci/Permission" "role" "Ljava/lang/String;" (.ref r_45) := (((o53_2.keep K54 nin0).keep K72 nin0).keep K90 nin0)
                      have f116 : Fld Z h90 a31 "com/example/kunci/kunci/Permission" "propagating" "Z" (.int x117) := (((o53_3.keep K54 nin0).keep K72 nin0).keep K90 nin0)
                      have f117 : St Z h90 r_14 d_14 kd_14 (sb (i0 &&& (262143 : Int64))) := (((((((((((o14_0.keep K15 nin0 nin0).keep K16 nin0 nin0).keep K24 (ninS (Exa.ne ((o14_0.keep K15 nin0 nin0).keep K16 nin0 nin0).1 (((X6.keep K14).keep K15).keep K16) (by decide)) nin0) (ninS (Ne.symm (Ar.ne_exa ((o14_0.keep K15 nin0 nin0).keep K16 nin0 nin0).2.2.2.1 (((X6.keep K14).keep K15).keep K16) (wd_2 g))) nin0)).keep KE34 nin0 nin0).keep K43 nin0 nin0).keep K44 nin0 nin0).keep K45 nin0 nin0).keep K53 (ninS (Exa.ne (((((((o14_0.keep K15 nin0 nin0).keep K16 nin0 nin0).keep K24 (ninS (Exa.ne ((o14_0.keep K15 nin0 nin0).keep K16 nin0 nin0).1 (((X6.keep K14).keep K15).keep K16) (by decide)) nin0) (ninS (Ne.symm (Ar.ne_exa ((o14_0.keep K15 nin0 nin0).keep K16 nin0 nin0).2.2.2.1 (((X6.keep K14).keep K15).keep K16) (wd_2 g))) nin0)).keep KE34 nin0 nin0).keep K43 nin0 nin0).keep K44 nin0 nin0).keep K45 nin0 nin0).1 (((X35.keep K43).keep K44).keep K45) (by decide)) nin0) (ninS (Ne.symm (Ar.ne_exa (((((((o14_0.keep K15 nin0 nin0).keep K16 nin0 nin0).keep K24 (ninS (Exa.ne ((o14_0.keep K15 nin0 nin0).keep K16 nin0 nin0).1 (((X6.keep K14).keep K15).keep K16) (by decide)) nin0) (ninS (Ne.symm (Ar.ne_exa ((o14_0.keep K15 nin0 nin0).keep K16 nin0 nin0).2.2.2.1 (((X6.keep K14).keep K15).keep K16) (wd_2 g))) nin0)).keep KE34 nin0 nin0).keep K43 nin0 nin0).keep K44 nin0 nin0).keep K45 nin0 nin0).2.2.2.1 (((X35.keep K43).keep K44).keep K45) (wd_2 g))) nin0)).keep K54 nin0 nin0).keep K72 nin0 nin0).keep K90 nin0 nin0)
                      have f118 : St Z h90 r_15 d_15 kd_15 (sb (i1 &&& (262143 : Int64))) := ((((((((((o15_0.keep K16 nin0 nin0).keep K24 (ninS (Exa.ne (o15_0.keep K16 nin0 nin0).1 (((X6.keep K14).keep K15).keep K16) (by decide)) nin0) (ninS (Ne.symm (Ar.ne_exa (o15_0.keep K16 nin0 nin0).2.2.2.1 (((X6.keep K14).keep K15).keep K16) (wd_2 g))) nin0)).keep KE34 nin0 nin0).keep K43 nin0 nin0).keep K44 nin0 nin0).keep K45 nin0 nin0).keep K53 (ninS (Exa.ne ((((((o15_0.keep K16 nin0 nin0).keep K24 (ninS (Exa.ne (o15_0.keep K16 nin0 nin0).1 (((X6.keep K14).keep K15).keep K16) (by decide)) nin0) (ninS (Ne.symm (Ar.ne_exa (o15_0.keep K16 nin0 nin0).2.2.2.1 (((X6.keep K14).keep K15).keep K16) (wd_2 g))) nin0)).keep KE34 nin0 nin0).keep K43 nin0 nin0).keep K44 nin0 nin0).keep K45 nin0 nin0).1 (((X35.keep K43).keep K44).keep K45) (by decide)) nin0) (ninS (Ne.symm (Ar.ne_exa ((((((o15_0.keep K16 nin0 nin0).keep K24 (ninS (Exa.ne (o15_0.keep K16 nin0 nin0).1 (((X6.keep K14).keep K15).keep K16) (by decide)) nin0) (ninS (Ne.symm (Ar.ne_exa (o15_0.keep K16 nin0 nin0).2.2.2.1 (((X6.keep K14).keep K15).keep K16) (wd_2 g))) nin0)).keep KE34 nin0 nin0).keep K43 nin0 nin0).keep K44 nin0 nin0).keep K45 nin0 nin0).2.2.2.1 (((X35.keep K43).keep K44).keep K45) (wd_2 g))) nin0)).keep K54 nin0 nin0).keep K72 nin0 nin0).keep K90 nin0 nin0)
                      have f119 : St Z h90 r_16 d_16 kd_16 (sb (i2 &&& (262143 : Int64))) := (((((((((o16_0.keep K24 (ninS (Exa.ne o16_0.1 (((X6.keep K14).keep K15).keep K16) (by decide)) nin0) (ninS (Ne.symm (Ar.ne_exa o16_0.2.2.2.1 (((X6.keep K14).keep K15).keep K16) (wd_2 g))) nin0)).keep KE34 nin0 nin0).keep K43 nin0 nin0).keep K44 nin0 nin0).keep K45 nin0 nin0).keep K53 (ninS (Exa.ne (((((o16_0.keep K24 (ninS (Exa.ne o16_0.1 (((X6.keep K14).keep K15).keep K16) (by decide)) nin0) (ninS (Ne.symm (Ar.ne_exa o16_0.2.2.2.1 (((X6.keep K14).keep K15).keep K16) (wd_2 g))) nin0)).keep KE34 nin0 nin0).keep K43 nin0 nin0).keep K44 nin0 nin0).keep K45 nin0 nin0).1 (((X35.keep K43).keep K44).keep K45) (by decide)) nin0) (ninS (Ne.symm (Ar.ne_exa (((((o16_0.keep K24 (ninS (Exa.ne o16_0.1 (((X6.keep K14).keep K15).keep K16) (by decide)) nin0) (ninS (Ne.symm (Ar.ne_exa o16_0.2.2.2.1 (((X6.keep K14).keep K15).keep K16) (wd_2 g))) nin0)).keep KE34 nin0 nin0).keep K43 nin0 nin0).keep K44 nin0 nin0).keep K45 nin0 nin0).2.2.2.1 (((X35.keep K43).keep K44).keep K45) (wd_2 g))) nin0)).keep K54 nin0 nin0).keep K72 nin0 nin0).keep K90 nin0 nin0)
                      have f120 : St Z h90 r_43 d_43 kd_43 (sb x27) := ((((((o43_0.keep K44 nin0 nin0).keep K45 nin0 nin0).keep K53 (ninS (Exa.ne ((o43_0.keep K44 nin0 nin0).keep K45 nin0 nin0).1 (((X35.keep K43).keep K44).keep K45) (by decide)) nin0) (ninS (Ne.symm (Ar.ne_exa ((o43_0.keep K44 nin0 nin0).keep K45 nin0 nin0).2.2.2.1 (((X35.keep K43).keep K44).keep K45) (wd_2 g))) nin0)).keep K54 nin0 nin0).keep K72 nin0 nin0).keep K90 nin0 nin0)
                      have f121 : St Z h90 r_44 d_44 kd_44 (sb x57) := (((((o44_0.keep K45 nin0 nin0).keep K53 (ninS (Exa.ne (o44_0.keep K45 nin0 nin0).1 (((X35.keep K43).keep K44).keep K45) (by decide)) nin0) (ninS (Ne.symm (Ar.ne_exa (o44_0.keep K45 nin0 nin0).2.2.2.1 (((X35.keep K43).keep K44).keep K45) (wd_2 g))) nin0)).keep K54 nin0 nin0).keep K72 nin0 nin0).keep K90 nin0 nin0)
                      have f122 : St Z h90 r_45 d_45 kd_45 (sb x89) := ((((o45_0.keep K53 (ninS (Exa.ne o45_0.1 (((X35.keep K43).keep K44).keep K45) (by decide)) nin0) (ninS (Ne.symm (Ar.ne_exa o45_0.2.2.2.1 (((X35.keep K43).keep K44).keep K45) (wd_2 g))) nin0)).keep K54 nin0 nin0).keep K72 nin0 nin0).keep K90 nin0 nin0)
                      have f123 : Exa Z h90 a2 "com/example/kunci/kunci/Permission" := (((((((((f17.keep K24).keep KE34).keep K43).keep K44).keep K45).keep K53).keep K54).keep K72).keep K90)
                      refine Go.callV (y0 := ⟨"com/example/kunci/kunci/Permission", "equals", "(Ljava/lang/Object;)Z"⟩) (c_permeq (l := l) (nw := nw) g h90 a2 a31 r_14 d_14 kd_14 (sb (i0 &&& (262143 : Int64))) r_15 d_15 kd_15 (sb (i1 &&& (262143 : Int64))) r_16 d_16 kd_16 (sb (i2 &&& (262143 : Int64))) r_43 d_43 kd_43 (sb x27) r_44 d_44 kd_44 (sb x57) r_45 d_45 kd_45 (sb x89) x103 x117 f108 f109 f110 f111 f112 f113 f114 f115 f116 f117 f118 f119 f120 f121 f122 (by omega)) hown (wd_72 g) (wd_73 g) (notFace_of_selects (wd_75 g)) (wd_75 g) (wd_74 g) f123 (wd_76 g) (wd_3 g) (by decide) (argsL := [(.ref a31)]) (lenOf pd_9 rfl) rfl (by rw [hml]; rfl) (W := 0) rfl (hb hby at_261) (pc' := 264) rfl (by decide) (by decide) (by decide) (by decide) all0 ?_
                      rintro _ vm124 h124 ⟨rfl, K124⟩ C124
                      have z124 := K124.1
                      -- pc 264
                      refine Go.iload (hb hby at_264) (pc' := 266) rfl rfl ?_
                      refine Go.icmpN (hb hby at_266) (pc' := 269) rfl (fun q => q (bo_no (fun z => q247 z.2.2.2))) ?_
                      refine Go.iconst (hb hby at_269) (pc' := 270) rfl (z := (1 : Int32)) rfl ?_
                      refine Go.goto (hb hby at_270) (by decide) (pc' := 274) (by decide) ?_
                      refine Go.retN (t := .boolean) hret (by simp) (hb hby at_274) (by decide) (by decide) ?_
                      intro vmR CR
                      exact ⟨(by first | rfl | (simp only [own_nar]; done) | (congr 2; done)), (((((((((((((((Keep.refl h []).trans KE5 all0).trans K14 all0).trans K15 all0).trans K16 all0).trans K24 (allS (by first | (left; simp; done) | (right; omega)) all0)).trans KE34 all0).trans K43 all0).trans K44 all0).trans K45 all0).trans K53 (allS (by first | (left; simp; done) | (right; omega)) all0)).trans K54 all0).trans K72 all0).trans K90 all0).trans K124 all0)⟩
                    · refine Go.iconst (hb hby at_250) (pc' := 251) rfl (z := (1 : Int32)) rfl ?_
                      refine Go.goto (hb hby at_251) (by decide) (pc' := 255) (by decide) ?_
                      refine Go.istore (hb hby at_255) (pc' := 257) rfl (L' := #[.val (.long i0), .second, .val (.long i1), .second, .val (.long i2), .second, .val (.int i3), .val (.long (i0 &&& (262143 : Int64))), .second, .val (.long x27), .second, .val (.long (i1 &&& (262143 : Int64))), .second, .val (.long x57), .second, .val (.long (i2 &&& (262143 : Int64))), .second, .val (.long x89), .second, .val (.int x103), .val (.int x117), .val (.int ((XT.ushr i3 (5 : Int32)) &&& (3 : Int32))), .val (.ref a2), .val (.ref a31), .val (.int (1 : Int32))]) rfl ?_
                      refine Go.aload (hb hby at_257) (pc' := 259) rfl rfl rfl ?_
                      refine Go.aload (hb hby at_259) (pc' := 261) rfl rfl rfl ?_
                      have f125 : Exa Z h90 a31 "com/example/kunci/kunci/Permission" := ((((f46.keep K53).keep K54).keep K72).keep K90)
                      have f126 : Fld Z h90 a2 "com/example/kunci/kunci/Permission" "entity" "Ljava/lang/String;" (.ref r_14) := ((((((((o24_0.keep KE34 nin0).keep K43 nin0).keep K44 nin0).keep K45 nin0).keep K53 (ninS (neN (by omega)) nin0)).keep K54 nin0).keep K72 nin0).keep K90 nin0)
                      have f127 : Fld Z h90 a2 "com/example/kunci/kunci/Permission" "principal" "Ljava/lang/String;" (.ref r_15) := ((((((((o24_1.keep KE34 nin0).keep K43 nin0).keep K44 nin0).keep K45 nin0).keep K53 (ninS (neN (by omega)) nin0)).keep K54 nin0).keep K72 nin0).keep K90 nin0)
                      have f128 : Fld Z h90 a2 "com/example/kunci/kunci/Permission" "role" "Ljava/lang/String;" (.ref r_16) := ((((((((o24_2.keep KE34 nin0).keep K43 nin0).keep K44 nin0).keep K45 nin0).keep K53 (ninS (neN (by omega)) nin0)).keep K54 nin0).keep K72 nin0).keep K90 nin0)
                      have f129 : Fld Z h90 a2 "com/example/kunci/kunci/Permission" "propagating" "Z" (.int x103) := ((((((((o24_3.keep KE34 nin0).keep K43 nin0).keep K44 nin0).keep K45 nin0).keep K53 (ninS (neN (by omega)) nin0)).keep K54 nin0).keep K72 nin0).keep K90 nin0)
                      have f130 : Fld Z h90 a31 "com/example/kunci/kunci/Permission" "entity" "Ljava/lang/String;" (.ref r_43) := (((o53_0.keep K54 nin0).keep K72 nin0).keep K90 nin0)
                      have f131 : Fld Z h90 a31 "com/example/kunci/kunci/Permission" "principal" "Ljava/lang/String;" (.ref r_44) := (((o53_1.keep K54 nin0).keep K72 nin0).keep K90 nin0)
                      have f132 : Fld Z h90 a31 "com/example/kunci/kunci/Permission" "role" "Ljava/lang/String;" (.ref r_45) := (((o53_2.keep K54 nin0).keep K72 nin0).keep K90 nin0)
                      have f133 : Fld Z h90 a31 "com/example/kunci/kunci/Permission" "propagating" "Z" (.int x117) := (((o53_3.keep K54 nin0).keep K72 nin0).keep K90 nin0)
                      have f134 : St Z h90 r_14 d_14 kd_14 (sb (i0 &&& (262143 : Int64))) := (((((((((((o14_0.keep K15 nin0 nin0).keep K16 nin0 nin0).keep K24 (ninS (Exa.ne ((o14_0.keep K15 nin0 nin0).keep K16 nin0 nin0).1 (((X6.keep K14).keep K15).keep K16) (by decide)) nin0) (ninS (Ne.symm (Ar.ne_exa ((o14_0.keep K15 nin0 nin0).keep K16 nin0 nin0).2.2.2.1 (((X6.keep K14).keep K15).keep K16) (wd_2 g))) nin0)).keep KE34 nin0 nin0).keep K43 nin0 nin0).keep K44 nin0 nin0).keep K45 nin0 nin0).keep K53 (ninS (Exa.ne (((((((o14_0.keep K15 nin0 nin0).keep K16 nin0 nin0).keep K24 (ninS (Exa.ne ((o14_0.keep K15 nin0 nin0).keep K16 nin0 nin0).1 (((X6.keep K14).keep K15).keep K16) (by decide)) nin0) (ninS (Ne.symm (Ar.ne_exa ((o14_0.keep K15 nin0 nin0).keep K16 nin0 nin0).2.2.2.1 (((X6.keep K14).keep K15).keep K16) (wd_2 g))) nin0)).keep KE34 nin0 nin0).keep K43 nin0 nin0).keep K44 nin0 nin0).keep K45 nin0 nin0).1 (((X35.keep K43).keep K44).keep K45) (by decide)) nin0) (ninS (Ne.symm (Ar.ne_exa (((((((o14_0.keep K15 nin0 nin0).keep K16 nin0 nin0).keep K24 (ninS (Exa.ne ((o14_0.keep K15 nin0 nin0).keep K16 nin0 nin0).1 (((X6.keep K14).keep K15).keep K16) (by decide)) nin0) (ninS (Ne.symm (Ar.ne_exa ((o14_0.keep K15 nin0 nin0).keep K16 nin0 nin0).2.2.2.1 (((X6.keep K14).keep K15).keep K16) (wd_2 g))) nin0)).keep KE34 nin0 nin0).keep K43 nin0 nin0).keep K44 nin0 nin0).keep K45 nin0 nin0).2.2.2.1 (((X35.keep K43).keep K44).keep K45) (wd_2 g))) nin0)).keep K54 nin0 nin0).keep K72 nin0 nin0).keep K90 nin0 nin0)
                      have f135 : St Z h90 r_15 d_15 kd_15 (sb (i1 &&& (262143 : Int64))) := ((((((((((o15_0.keep K16 nin0 nin0).keep K24 (ninS (Exa.ne (o15_0.keep K16 nin0 nin0).1 (((X6.keep K14).keep K15).keep K16) (by decide)) nin0) (ninS (Ne.symm (Ar.ne_exa (o15_0.keep K16 nin0 nin0).2.2.2.1 (((X6.keep K14).keep K15).keep K16) (wd_2 g))) nin0)).keep KE34 nin0 nin0).keep K43 nin0 nin0).keep K44 nin0 nin0).keep K45 nin0 nin0).keep K53 (ninS (Exa.ne ((((((o15_0.keep K16 nin0 nin0).keep K24 (ninS (Exa.ne (o15_0.keep K16 nin0 nin0).1 (((X6.keep K14).keep K15).keep K16) (by decide)) nin0) (ninS (Ne.symm (Ar.ne_exa (o15_0.keep K16 nin0 nin0).2.2.2.1 (((X6.keep K14).keep K15).keep K16) (wd_2 g))) nin0)).keep KE34 nin0 nin0).keep K43 nin0 nin0).keep K44 nin0 nin0).keep K45 nin0 nin0).1 (((X35.keep K43).keep K44).keep K45) (by decide)) nin0) (ninS (Ne.symm (Ar.ne_exa ((((((o15_0.keep K16 nin0 nin0).keep K24 (ninS (Exa.ne (o15_0.keep K16 nin0 nin0).1 (((X6.keep K14).keep K15).keep K16) (by decide)) nin0) (ninS (Ne.symm (Ar.ne_exa (o15_0.keep K16 nin0 nin0).2.2.2.1 (((X6.keep K14).keep K15).keep K16) (wd_2 g))) nin0)).keep KE34 nin0 nin0).keep K43 nin0 nin0).keep K44 nin0 nin0).keep K45 nin0 nin0).2.2.2.1 (((X35.keep K43).keep K44).keep K45) (wd_2 g))) nin0)).keep K54 nin0 nin0).keep K72 nin0 nin0).keep K90 nin0 nin0)
                      have f136 : St Z h90 r_16 d_16 kd_16 (sb (i2 &&& (262143 : Int64))) := (((((((((o16_0.keep K24 (ninS (Exa.ne o16_0.1 (((X6.keep K14).keep K15).keep K16) (by decide)) nin0) (ninS (Ne.symm (Ar.ne_exa o16_0.2.2.2.1 (((X6.keep K14).keep K15).keep K16) (wd_2 g))) nin0)).keep KE34 nin0 nin0).keep K43 nin0 nin0).keep K44 nin0 nin0).keep K45 nin0 nin0).keep K53 (ninS (Exa.ne (((((o16_0.keep K24 (ninS (Exa.ne o16_0.1 (((X6.keep K14).keep K15).keep K16) (by decide)) nin0) (ninS (Ne.symm (Ar.ne_exa o16_0.2.2.2.1 (((X6.keep K14).keep K15).keep K16) (wd_2 g))) nin0)).keep KE34 nin0 nin0).keep K43 nin0 nin0).keep K44 nin0 nin0).keep K45 nin0 nin0).1 (((X35.keep K43).keep K44).keep K45) (by decide)) nin0) (ninS (Ne.symm (Ar.ne_exa (((((o16_0.keep K24 (ninS (Exa.ne o16_0.1 (((X6.keep K14).keep K15).keep K16) (by decide)) nin0) (ninS (Ne.symm (Ar.ne_exa o16_0.2.2.2.1 (((X6.keep K14).keep K15).keep K16) (wd_2 g))) nin0)).keep KE34 nin0 nin0).keep K43 nin0 nin0).keep K44 nin0 nin0).keep K45 nin0 nin0).2.2.2.1 (((X35.keep K43).keep K44).keep K45) (wd_2 g))) nin0)).keep K54 nin0 nin0).keep K72 nin0 nin0).keep K90 nin0 nin0)
                      have f137 : St Z h90 r_43 d_43 kd_43 (sb x27) := ((((((o43_0.keep K44 nin0 nin0).keep K45 nin0 nin0).keep K53 (ninS (Exa.ne ((o43_0.keep K44 nin0 nin0).keep K45 nin0 nin0).1 (((X35.keep K43).keep K44).keep K45) (by decide)) nin0) (ninS (Ne.symm (Ar.ne_exa ((o43_0.keep K44 nin0 nin0).keep K45 nin0 nin0).2.2.2.1 (((X35.keep K43).keep K44).keep K45) (wd_2 g))) nin0)).keep K54 nin0 nin0).keep K72 nin0 nin0).keep K90 nin0 nin0)
                      have f138 : St Z h90 r_44 d_44 kd_44 (sb x57) := (((((o44_0.keep K45 nin0 nin0).keep K53 (ninS (Exa.ne (o44_0.keep K45 nin0 nin0).1 (((X35.keep K43).keep K44).keep K45) (by decide)) nin0) (ninS (Ne.symm (Ar.ne_exa (o44_0.keep K45 nin0 nin0).2.2.2.1 (((X35.keep K43).keep K44).keep K45) (wd_2 g))) nin0)).keep K54 nin0 nin0).keep K72 nin0 nin0).keep K90 nin0 nin0)
                      have f139 : St Z h90 r_45 d_45 kd_45 (sb x89) := ((((o45_0.keep K53 (ninS (Exa.ne o45_0.1 (((X35.keep K43).keep K44).keep K45) (by decide)) nin0) (ninS (Ne.symm (Ar.ne_exa o45_0.2.2.2.1 (((X35.keep K43).keep K44).keep K45) (wd_2 g))) nin0)).keep K54 nin0 nin0).keep K72 nin0 nin0).keep K90 nin0 nin0)
                      have f140 : Exa Z h90 a2 "com/example/kunci/kunci/Permission" := (((((((((f17.keep K24).keep KE34).keep K43).keep K44).keep K45).keep K53).keep K54).keep K72).keep K90)
                      refine Go.callV (y0 := ⟨"com/example/kunci/kunci/Permission", "equals", "(Ljava/lang/Object;)Z"⟩) (c_permeq (l := l) (nw := nw) g h90 a2 a31 r_14 d_14 kd_14 (sb (i0 &&& (262143 : Int64))) r_15 d_15 kd_15 (sb (i1 &&& (262143 : Int64))) r_16 d_16 kd_16 (sb (i2 &&& (262143 : Int64))) r_43 d_43 kd_43 (sb x27) r_44 d_44 kd_44 (sb x57) r_45 d_45 kd_45 (sb x89) x103 x117 f125 f126 f127 f128 f129 f130 f131 f132 f133 f134 f135 f136 f137 f138 f139 (by omega)) hown (wd_72 g) (wd_73 g) (notFace_of_selects (wd_75 g)) (wd_75 g) (wd_74 g) f140 (wd_76 g) (wd_3 g) (by decide) (argsL := [(.ref a31)]) (lenOf pd_9 rfl) rfl (by rw [hml]; rfl) (W := 0) rfl (hb hby at_261) (pc' := 264) rfl (by decide) (by decide) (by decide) (by decide) all0 ?_
                      rintro _ vm141 h141 ⟨rfl, K141⟩ C141
                      have z141 := K141.1
                      -- pc 264
                      refine Go.iload (hb hby at_264) (pc' := 266) rfl rfl ?_
                      refine Go.icmpN (hb hby at_266) (pc' := 269) rfl (fun q => q (bo_yes ⟨bo_ne0.mp q220, bo_ne0.mp q230, bo_ne0.mp q240, Classical.not_not.mp q247⟩)) ?_
                      refine Go.iconst (hb hby at_269) (pc' := 270) rfl (z := (1 : Int32)) rfl ?_
                      refine Go.goto (hb hby at_270) (by decide) (pc' := 274) (by decide) ?_
                      refine Go.retN (t := .boolean) hret (by simp) (hb hby at_274) (by decide) (by decide) ?_
                      intro vmR CR
                      exact ⟨(by first | rfl | (simp only [own_nar]; done) | (congr 2; done)), (((((((((((((((Keep.refl h []).trans KE5 all0).trans K14 all0).trans K15 all0).trans K16 all0).trans K24 (allS (by first | (left; simp; done) | (right; omega)) all0)).trans KE34 all0).trans K43 all0).trans K44 all0).trans K45 all0).trans K53 (allS (by first | (left; simp; done) | (right; omega)) all0)).trans K54 all0).trans K72 all0).trans K90 all0).trans K141 all0)⟩
          · intro J117
            refine Go.ifc (hb hby at_109) (by decide) (pc' := 116) (by decide) (pc2 := 112) rfl (fun (q109 : (i3 &&& (2 : Int32)) = (0 : Int32)) => ?_) (fun (q109 : ¬ ((i3 &&& (2 : Int32)) = (0 : Int32))) => ?_)
            · refine Go.iconst (hb hby at_116) (pc' := 117) rfl (z := (0 : Int32)) rfl ?_
              exact J117 _ (by first | exact Or.inl rfl | exact Or.inr rfl)
            · refine Go.iconst (hb hby at_112) (pc' := 113) rfl (z := (1 : Int32)) rfl ?_
              refine Go.goto (hb hby at_113) (by decide) (pc' := 117) (by decide) ?_
              exact J117 _ (by first | exact Or.inl rfl | exact Or.inr rfl)
        · intro J103
          refine Go.ifc (hb hby at_95) (by decide) (pc' := 102) (by decide) (pc2 := 98) rfl (fun (q95 : (i3 &&& (1 : Int32)) = (0 : Int32)) => ?_) (fun (q95 : ¬ ((i3 &&& (1 : Int32)) = (0 : Int32))) => ?_)
          · refine Go.iconst (hb hby at_102) (pc' := 103) rfl (z := (0 : Int32)) rfl ?_
            exact J103 _ (by first | exact Or.inl rfl | exact Or.inr rfl)
          · refine Go.iconst (hb hby at_98) (pc' := 99) rfl (z := (1 : Int32)) rfl ?_
            refine Go.goto (hb hby at_99) (by decide) (pc' := 103) (by decide) ?_
            exact J103 _ (by first | exact Or.inl rfl | exact Or.inr rfl)
      · intro J89
        refine Go.ifc (hb hby at_72) (by decide) (pc' := 80) (by decide) (pc2 := 75) rfl (fun (q72 : (i3 &&& (16 : Int32)) = (0 : Int32)) => ?_) (fun (q72 : ¬ ((i3 &&& (16 : Int32)) = (0 : Int32))) => ?_)
        · refine Go.lload (hb hby at_80) (pc' := 82) rfl rfl ?_
          refine Go.bipush (hb hby at_82) (pc' := 84) rfl (z := (18 : Int32)) rfl ?_
          refine Go.lushr (hb hby at_84) (pc' := 85) rfl ?_
          refine Go.ldc2Long hown (wd_0 g) (hb hby at_85) (pc' := 88) rfl ?_
          refine Go.land (hb hby at_88) (pc' := 89) rfl ?_
          exact J89 _ trivial
        · refine Go.lload (hb hby at_75) (pc' := 77) rfl rfl ?_
          refine Go.goto (hb hby at_77) (by decide) (pc' := 89) (by decide) ?_
          exact J89 _ trivial
    · intro J57
      refine Go.ifc (hb hby at_41) (by decide) (pc' := 49) (by decide) (pc2 := 44) rfl (fun (q41 : (i3 &&& (8 : Int32)) = (0 : Int32)) => ?_) (fun (q41 : ¬ ((i3 &&& (8 : Int32)) = (0 : Int32))) => ?_)
      · refine Go.lloadN (hb hby at_49) (pc' := 50) rfl rfl ?_
        refine Go.bipush (hb hby at_50) (pc' := 52) rfl (z := (18 : Int32)) rfl ?_
        refine Go.lushr (hb hby at_52) (pc' := 53) rfl ?_
        refine Go.ldc2Long hown (wd_0 g) (hb hby at_53) (pc' := 56) rfl ?_
        refine Go.land (hb hby at_56) (pc' := 57) rfl ?_
        exact J57 _ trivial
      · refine Go.lload (hb hby at_44) (pc' := 46) rfl rfl ?_
        refine Go.goto (hb hby at_46) (by decide) (pc' := 57) (by decide) ?_
        exact J57 _ trivial
  · intro J27
    refine Go.ifc (hb hby at_11) (by decide) (pc' := 19) (by decide) (pc2 := 14) rfl (fun (q11 : (i3 &&& (4 : Int32)) = (0 : Int32)) => ?_) (fun (q11 : ¬ ((i3 &&& (4 : Int32)) = (0 : Int32))) => ?_)
    · refine Go.lloadN (hb hby at_19) (pc' := 20) rfl rfl ?_
      refine Go.bipush (hb hby at_20) (pc' := 22) rfl (z := (18 : Int32)) rfl ?_
      refine Go.lushr (hb hby at_22) (pc' := 23) rfl ?_
      refine Go.ldc2Long hown (wd_0 g) (hb hby at_23) (pc' := 26) rfl ?_
      refine Go.land (hb hby at_26) (pc' := 27) rfl ?_
      exact J27 _ trivial
    · refine Go.lload (hb hby at_14) (pc' := 16) rfl rfl ?_
      refine Go.goto (hb hby at_16) (by decide) (pc' := 27) (by decide) ?_
      exact J27 _ trivial
set_option maxRecDepth 65536 in
set_option maxHeartbeats 40000000 in
theorem comes_1 {Post : Tables → Env → Array Value → State → Outcome → State → Prop} (hpost : ∀ tb e args s v u, (limb_1_1.after args s (.returned v) u = true ∧ limb_1_2.after args s (.returned v) u = true ∧ True) → Jvm.D.FramedW s (.returned v) u (Jvm.fieldLocs frame_1_writes args s ++ Jvm.arrayLocs frame_1_arrays args s ++ Jvm.staticLocs frame_1_statics s) 56 4288 → Post tb e args s (.returned v) u) :
    ArmFor flags0 classFile x code maxLocals ret World_1 tables_1 room_1 Calls_1 rest_1 Pre_1 Post := by
  intro l hfl _ _ p e ha hc hk s m args below hf hA hF happ hP
  obtain ⟨hcalls, hrest, hpre⟩ := hP
  obtain ⟨-, -, -, hnamed, -, -, -, hat⟩ := (Spec.applies_iff hf).mp happ
  obtain ⟨hg, hn⟩ := and_e (Cond.before_iff.mp (show (Jvm.Cond.and given_1 narrow_1).before args s = true from hpre))
  obtain ⟨h1, g0⟩ := and_e hg
  obtain ⟨k0, g1⟩ := and_e g0
  obtain ⟨k1, g2⟩ := and_e g1
  obtain ⟨k2, g3⟩ := and_e g2
  have k3 := g3
  obtain ⟨w0, w1, w2, w3, rfl⟩ : ∃ w0 w1 w2 w3 : Value, args = #[w0, w1, w2, w3] := by
    have hs : args.size = 4 := by simpa [Cond.value, given_1] using h1
    obtain ⟨L⟩ := args
    match L, hs with
    | [w0, w1, w2, w3], _ => exact ⟨w0, w1, w2, w3, rfl⟩
  have hw := fun d (hd : d ∈ tables_1) => atoms_spec (ws := Jvm.Cond.code x code maxLocals ret :: tables_1) hat d (List.mem_cons_of_mem _ hd)
  obtain ⟨hsets, hown0⟩ := atoms_of _ (rest_1_c_eq ▸ (show rest_1_c.before _ s = true from hrest))
  have hfit : Fit s := fun {y c} hc i hi => by
    obtain ⟨ha, rfl⟩ := Array.getElem?_eq_some_iff.mp hc
    have q := List.all_eq_true.mp ((Array.all_eq_true_iff_forall_mem.mp hF) _ (Array.getElem_mem ha)) i (List.mem_range.mpr hi)
    simpa [Array.getElem?_eq_getElem hi] using q
  obtain ⟨i0, r0⟩ := isL_v k0
  obtain rfl : w0 = (.long i0) := Option.some.inj r0
  obtain ⟨i1, r1⟩ := isL_v k1
  obtain rfl : w1 = (.long i1) := Option.some.inj r1
  obtain ⟨i2, r2⟩ := isL_v k2
  obtain rfl : w2 = (.long i2) := Option.some.inj r2
  obtain ⟨i3, r3⟩ := is_v k3
  obtain rfl : w3 = (.int i3) := Option.some.inj r3
  have n5 := not_v (Cond.before_iff.mp (hsets _ (List.mem_of_getElem? (i := 2) rfl)))
  obtain ⟨zc, e10⟩ := is_v (Cond.before_iff.mp (hsets _ (List.mem_of_getElem? (i := 1) rfl)))
  have S12 : Sta s s.heap "java/lang/String" "COMPACT_STRINGS" "Z" (.int zc) := Sta.start e10 (Or.inl (hsets _ (List.mem_of_getElem? (i := 0) rfl)))
  have c17 : ¬ (zc = (0 : Int32)) := gotF (Cond.eq_ints e10 (Term.int_eval (0))) n5
  have hEL : EW s #[(.long i0), (.long i1), (.long i2), (.int i3)] consts_1 := show EW s #[(.long i0), (.long i1), (.long i2), (.int i3)] [("com/example/kunci/kunci/Permission", 7), ("com/example/kunci/kunci/Permission", 22), ("com/example/kunci/kunci/Permission", 26), ("java/lang/String", 7)] from (EW.cons (hw _ (List.mem_of_getElem? (i := 53) rfl)) (by decide) (EW.cons (hw _ (List.mem_of_getElem? (i := 61) rfl)) (by decide) (EW.cons (hw _ (List.mem_of_getElem? (i := 64) rfl)) (by decide) (EW.cons (hw _ (List.mem_of_getElem? (i := 26) rfl)) (by decide) EW.nil))))
  have hCH : CHv s consts_1 s.vm s.heap := CHv.start hEL hcalls.1 (hsets _ (List.mem_of_getElem? (i := 2) rfl)) (hw _ (List.mem_of_getElem? (i := 27) rfl)) (hw _ (List.mem_of_getElem? (i := 14) rfl))
  have hAt : ∀ a ∈ Bundle.stringAtoms, a.before #[(.long i0), (.long i1), (.long i2), (.int i3)] s = true := by
    intro a ha
    simp only [Bundle.stringAtoms, List.mem_cons, List.not_mem_nil, or_false] at ha
    rcases ha with rfl | rfl | rfl | rfl | rfl | rfl | rfl
    · exact (hw _ (List.mem_of_getElem? (i := 15) rfl))
    · exact (hw _ (List.mem_of_getElem? (i := 14) rfl))
    · exact (hw _ (List.mem_of_getElem? (i := 27) rfl))
    · exact (hw _ (List.mem_of_getElem? (i := 28) rfl))
    · exact (hw _ (List.mem_of_getElem? (i := 29) rfl))
    · exact (hw _ (List.mem_of_getElem? (i := 30) rfl))
    · exact (hw _ (List.mem_of_getElem? (i := 31) rfl))
  obtain ⟨n, o, h1, h2, h3, v, L, rfl, N, ⟨rfl, -⟩, -, -, hH, hq⟩ := c_law (l := l) (nw := False) (EL := consts_1) (zc := zc) ⟨hw, hEL, hAt, fun _ q => q, S12, c17, trivial⟩ id tables_1 s.heap i0 i1 i2 i3 (Nat.le_refl _) p e ha hc hk s m _ below hf ((Spec.applies_iff_loose hf).mp happ).1 ⟨rfl, State.Warmed39.refl s, rfl, hCH, ⟨Nat.le_refl _, fun _ _ q => q⟩, all0⟩ trivial
  refine ⟨n, _, h1, h2, h3, hpost _ _ _ _ _ _ ⟨Cond.after_iff.mpr rfl, Cond.after_iff.mpr (eq_i res_at (Term.int_eval (1)) rfl), trivial⟩ ?_⟩
  exact ⟨⟨_, rfl⟩, hq.2.1, hq.2.2.1, (hq.2.2.2.sift fun y hy => Or.inr (N y hy)).mono (by decide) (by decide)⟩
theorem main_1_1 : Claimed_1_1 := comes_1 fun _ _ _ _ _ _ h hF => ⟨h.1, hF⟩
theorem main_1_2 : Claimed_1_2 := comes_1 fun _ _ _ _ _ _ h hF => ⟨h.2.1, hF⟩
end Jvm.Pilot.@@N@@
namespace Jvm.Pilot.@@N@@
open Jvm Jvm.ClassFile Sem Op Lib Jvm.Free Jvm.Stand Jvm.Pilot.@@N@@.Jvm.D
/-! MADE BY PROGRAM (witnessworld.py) out of the Statement's table words and the real class files: 21 classes; the members and pool entries that the words name. The judged class is class 1, her method 6. -/
namespace start1
open Jvm.ClassFile
def u (s : String) : CpInfo := .utf8 (stringToUtf16 s)
/-- a pool by its gaps: so many unusable entries, then the entry; so many at the end -/
def gap : Nat → List CpInfo → List CpInfo
  | 0, r => r
  | n + 1, r => .unusable :: gap n r
def poolList (es : List (Nat × CpInfo)) (last : Nat) : List CpInfo := es.foldr (fun e r => gap e.1 (e.2 :: r)) (gap last [])
def pool (es : List (Nat × CpInfo)) (last : Nat) : Array CpInfo := ⟨poolList es last⟩
def fileOf (pool : Array CpInfo) (this : Nat) (attrs : Array Attribute := #[]) (ms : Array MethodInfo := #[]) (fl : Nat := 33) (sup : Nat := 0) (ifs : Array Nat := #[]) (fds : Array FieldInfo := #[]) : ClassFile where
  minorVersion := 0
  majorVersion := 65
  constantPool := pool
  accessFlags := fl
  thisClass := this
  superClass := sup
  interfaces := ifs
  fields := fds
  methods := ms
  attributes := attrs
def plain (name : String) (sup : Option ClassId) : Class where
  name := name
  kind := .ordinary
  loader := none
  accessFlags := 33
  super := sup
  interfaces := #[]
  cf := none
  fields := #[]
  methods := #[]
  instanceTypes := #[]
  staticTypes := #[]
  resolved := #[]
  callSites := []
  init := .initialized
  statics := none
  mirror := none

def pool0 : Array CpInfo := pool [(5, u "<init>"), (0, u "()V"), (1, .class_ 10), (1, u "java/lang/Object")] 113

def k0c0 : Code := { maxStack := 0, maxLocals := 1, code := object_method_1_code, exceptionTable := #[], attributes := #[] }
def k0m0 : Method := { name := "<init>", desc := "()V", sig := { parameters := [], returnType := none }, accessFlags := 1, code := some k0c0 }
/-- java/lang/Object -/
def k0 : Class := { plain "java/lang/Object" none with
  accessFlags := 33
  interfaces := #[]
  cf := some (fileOf pool0 8 #[] #[{ accessFlags := 1, nameIndex := 5, descriptorIndex := 6, attributes := #[] }] 33 0 #[] #[])
  fields := #[]
  methods := #[k0m0]
  instanceTypes := #[]
  staticTypes := #[]
  resolved := Array.replicate 124 none
  statics := none }

def pool1 : Array CpInfo := pool [(2, .class_ 4), (1, u "java/lang/Object"), (0, u "<init>"), (0, u "()V"), (0, .long 3), (1, .long 255), (1, .methodref 12 13), (0, .class_ 14), (0, .nameAndType 15 16), (0, u "com/example/kunci/kunci/PermissionEqualsPinLaw"), (0, u "len"), (0, u "(J)I"), (0, .methodref 12 18), (0, .nameAndType 19 20), (0, u "c0"), (0, u "(J)C"), (0, .methodref 12 22), (0, .nameAndType 23 20), (0, u "c1"), (0, .class_ 25), (0, u "java/lang/String"), (0, .methodref 24 27), (0, .nameAndType 5 28), (0, u "([C)V"), (0, .long 262143), (1, .class_ 32), (0, u "com/example/kunci/kunci/Permission"), (0, .methodref 12 34), (0, .nameAndType 35 36), (0, u "str"), (0, u "(J)Ljava/lang/String;"), (0, .methodref 31 38), (0, .nameAndType 5 39), (0, u "(Ljava/lang/String;Ljava/lang/String;Ljava/lang/String;Z)V"), (0, .methodref 12 41), (0, .nameAndType 42 43), (0, u "same"), (0, u "(JJ)Z"), (0, .methodref 31 45), (0, .nameAndType 46 47), (0, u "equals"), (0, u "(Ljava/lang/Object;)Z"), (5, u "law"), (0, u "(JJJI)Z")] 2

def k1m0 : Method := { name := "<init>", desc := "()V", sig := { parameters := [], returnType := none }, accessFlags := 1, code := none }
def k1c1 : Code := { maxStack := 4, maxLocals := 2, code := method_2_code, exceptionTable := #[], attributes := #[] }
def k1m1 : Method := { name := "len", desc := "(J)I", sig := { parameters := [.long], returnType := some .int }, accessFlags := 10, code := some k1c1 }
def k1c2 : Code := { maxStack := 4, maxLocals := 2, code := method_3_code, exceptionTable := #[], attributes := #[] }
def k1m2 : Method := { name := "c0", desc := "(J)C", sig := { parameters := [.long], returnType := some .char }, accessFlags := 10, code := some k1c2 }
def k1c3 : Code := { maxStack := 4, maxLocals := 2, code := method_4_code, exceptionTable := #[], attributes := #[] }
def k1m3 : Method := { name := "c1", desc := "(J)C", sig := { parameters := [.long], returnType := some .char }, accessFlags := 10, code := some k1c3 }
def k1c4 : Code := { maxStack := 4, maxLocals := 4, code := method_5_code, exceptionTable := #[], attributes := #[] }
def k1m4 : Method := { name := "str", desc := "(J)Ljava/lang/String;", sig := { parameters := [.long], returnType := some (.object "java/lang/String") }, accessFlags := 10, code := some k1c4 }
def k1c5 : Code := { maxStack := 3, maxLocals := 5, code := method_6_code, exceptionTable := #[], attributes := #[] }
def k1m5 : Method := { name := "same", desc := "(JJ)Z", sig := { parameters := [.long, .long], returnType := some .boolean }, accessFlags := 10, code := some k1c5 }
def k1c6 : Code := { maxStack := 6, maxLocals := 25, code := code, exceptionTable := #[], attributes := #[] }
def k1m6 : Method := { name := "law", desc := "(JJJI)Z", sig := { parameters := [.long, .long, .long, .int], returnType := some .boolean }, accessFlags := 9, code := some k1c6 }
/-- com/example/kunci/kunci/PermissionEqualsPinLaw -/
def k1 : Class := { plain "com/example/kunci/kunci/PermissionEqualsPinLaw" (some 0) with
  accessFlags := 49
  interfaces := #[]
  cf := some (fileOf pool1 12 #[] #[{ accessFlags := 1, nameIndex := 5, descriptorIndex := 6, attributes := #[] }, { accessFlags := 10, nameIndex := 15, descriptorIndex := 16, attributes := #[] }, { accessFlags := 10, nameIndex := 19, descriptorIndex := 20, attributes := #[] }, { accessFlags := 10, nameIndex := 23, descriptorIndex := 20, attributes := #[] }, { accessFlags := 10, nameIndex := 35, descriptorIndex := 36, attributes := #[] }, { accessFlags := 10, nameIndex := 42, descriptorIndex := 43, attributes := #[] }, { accessFlags := 9, nameIndex := 53, descriptorIndex := 54, attributes := #[] }] 49 2 #[] #[])
  fields := #[]
  methods := #[k1m0, k1m1, k1m2, k1m3, k1m4, k1m5, k1m6]
  instanceTypes := #[]
  staticTypes := #[]
  resolved := Array.replicate 57 none
  statics := none }

def pool2 : Array CpInfo := pool [(1, .methodref 2 3), (0, .class_ 4), (0, .nameAndType 5 6), (0, u "java/lang/Object"), (0, u "<init>"), (0, u "()V"), (0, .string 8), (0, u "entity"), (0, .methodref 10 11), (0, .class_ 12), (0, .nameAndType 13 14), (0, u "java/util/Objects"), (0, u "requireNonNull"), (0, u "(Ljava/lang/Object;Ljava/lang/String;)Ljava/lang/Object;"), (0, .class_ 16), (0, u "java/lang/String"), (0, .fieldref 18 19), (0, .class_ 20), (0, .nameAndType 8 21), (0, u "com/example/kunci/kunci/Permission"), (0, u "Ljava/lang/String;"), (0, .string 23), (0, u "principal"), (0, .fieldref 18 25), (0, .nameAndType 23 21), (0, .string 27), (0, u "role"), (0, .fieldref 18 29), (0, .nameAndType 27 21), (0, .fieldref 18 31), (0, .nameAndType 32 33), (0, u "propagating"), (0, u "Z"), (0, .methodref 15 35), (0, .nameAndType 36 37), (0, u "equals"), (0, u "(Ljava/lang/Object;)Z"), (34, u "ORDER"), (0, u "Ljava/util/Comparator;"), (2, u "(Ljava/lang/String;Ljava/lang/String;Ljava/lang/String;Z)V")] 47

def k2c0 : Code := { maxStack := 3, maxLocals := 5, code := prog_7_method_1_code, exceptionTable := #[], attributes := #[] }
def k2m0 : Method := { name := "<init>", desc := "(Ljava/lang/String;Ljava/lang/String;Ljava/lang/String;Z)V", sig := { parameters := [(.object "java/lang/String"), (.object "java/lang/String"), (.object "java/lang/String"), .boolean], returnType := none }, accessFlags := 1, code := some k2c0 }
def k2c1 : Code := { maxStack := 2, maxLocals := 3, code := prog_7_method_6_code, exceptionTable := #[], attributes := #[] }
def k2m1 : Method := { name := "equals", desc := "(Ljava/lang/Object;)Z", sig := { parameters := [(.object "java/lang/Object")], returnType := some .boolean }, accessFlags := 1, code := some k2c1 }
/-- com/example/kunci/kunci/Permission -/
def k2 : Class := { plain "com/example/kunci/kunci/Permission" (some 0) with
  accessFlags := 49
  interfaces := #[]
  cf := some (fileOf pool2 18 #[] #[{ accessFlags := 1, nameIndex := 5, descriptorIndex := 76, attributes := #[] }, { accessFlags := 1, nameIndex := 36, descriptorIndex := 37, attributes := #[] }] 49 2 #[] #[{ accessFlags := 24, nameIndex := 72, descriptorIndex := 73, attributes := #[] }, { accessFlags := 18, nameIndex := 8, descriptorIndex := 21, attributes := #[] }, { accessFlags := 18, nameIndex := 23, descriptorIndex := 21, attributes := #[] }, { accessFlags := 18, nameIndex := 27, descriptorIndex := 21, attributes := #[] }, { accessFlags := 18, nameIndex := 32, descriptorIndex := 33, attributes := #[] }])
  fields := #[{ name := "ORDER", type := (.object "java/util/Comparator"), accessFlags := 24, slot := 0, constantValue := 0 }, { name := "entity", type := (.object "java/lang/String"), accessFlags := 18, slot := 0, constantValue := 0 }, { name := "principal", type := (.object "java/lang/String"), accessFlags := 18, slot := 1, constantValue := 0 }, { name := "role", type := (.object "java/lang/String"), accessFlags := 18, slot := 2, constantValue := 0 }, { name := "propagating", type := .boolean, accessFlags := 18, slot := 3, constantValue := 0 }]
  methods := #[k2m0, k2m1]
  instanceTypes := #[(.object "java/lang/String"), (.object "java/lang/String"), (.object "java/lang/String"), .boolean]
  staticTypes := #[(.object "java/util/Comparator")]
  resolved := Array.replicate 124 none
  statics := none }

def pool3 : Array CpInfo := pool [(1, .class_ 2), (0, u "java/io/Serializable"), (0, .class_ 4), (0, u "java/lang/Object")] 2

/-- java/io/Serializable -/
def k3 : Class := { plain "java/io/Serializable" (some 0) with
  accessFlags := 1537
  interfaces := #[]
  cf := some (fileOf pool3 1 #[] #[] 1537 3 #[] #[])
  fields := #[]
  methods := #[]
  instanceTypes := #[]
  staticTypes := #[]
  resolved := Array.replicate 7 none
  statics := none }

def pool4 : Array CpInfo := pool [(1, .class_ 2), (0, u "java/lang/Comparable"), (0, .class_ 4), (0, u "java/lang/Object")] 7

/-- java/lang/Comparable -/
def k4 : Class := { plain "java/lang/Comparable" (some 0) with
  accessFlags := 1537
  interfaces := #[]
  cf := some (fileOf pool4 1 #[] #[] 1537 3 #[] #[])
  fields := #[]
  methods := #[]
  instanceTypes := #[]
  staticTypes := #[]
  resolved := Array.replicate 12 none
  statics := none }

def pool5 : Array CpInfo := pool [(2, .class_ 4), (1, u "java/lang/CharSequence"), (42, .class_ 48), (0, u "java/lang/CharSequence$1CodePointIterator"), (10, .class_ 60), (0, u "java/lang/CharSequence$1CharIterator"), (5, .class_ 67), (0, u "java/lang/Object")] 63

/-- java/lang/CharSequence -/
def k5 : Class := { plain "java/lang/CharSequence" (some 0) with
  accessFlags := 1537
  interfaces := #[]
  cf := some (fileOf pool5 2 #[.nestMembers #[47, 59]] #[] 1537 66 #[] #[])
  fields := #[]
  methods := #[]
  instanceTypes := #[]
  staticTypes := #[]
  resolved := Array.replicate 131 none
  statics := none }

def pool6 : Array CpInfo := pool [(1, .class_ 2), (0, u "java/lang/constant/Constable"), (0, .class_ 4), (0, u "java/lang/Object")] 6

/-- java/lang/constant/Constable -/
def k6 : Class := { plain "java/lang/constant/Constable" (some 0) with
  accessFlags := 1537
  interfaces := #[]
  cf := some (fileOf pool6 1 #[] #[] 1537 3 #[] #[])
  fields := #[]
  methods := #[]
  instanceTypes := #[]
  staticTypes := #[]
  resolved := Array.replicate 11 none
  statics := none }

def pool7 : Array CpInfo := pool [(1, .class_ 2), (0, u "java/lang/constant/ConstantDesc"), (0, .class_ 4), (0, u "java/lang/Object")] 32

/-- java/lang/constant/ConstantDesc -/
def k7 : Class := { plain "java/lang/constant/ConstantDesc" (some 0) with
  accessFlags := 1537
  interfaces := #[]
  cf := some (fileOf pool7 1 #[] #[] 1537 3 #[] #[])
  fields := #[]
  methods := #[]
  instanceTypes := #[]
  staticTypes := #[]
  resolved := Array.replicate 37 none
  statics := none }

def pool8 : Array CpInfo := pool [(1, .methodref 2 3), (0, .class_ 4), (0, .nameAndType 5 6), (0, u "java/lang/Object"), (0, u "<init>"), (0, u "()V"), (0, .string 8), (0, u ""), (0, .fieldref 10 11), (0, .class_ 12), (0, .nameAndType 13 14), (0, u "java/lang/String"), (0, u "value"), (0, u "[B"), (0, .fieldref 10 16), (0, .nameAndType 17 18), (0, u "coder"), (0, u "B"), (2, u "hash"), (0, u "I"), (2, u "hashIsZero"), (0, u "Z"), (0, .methodref 10 28), (0, .nameAndType 5 29), (0, u "([CIILjava/lang/Void;)V"), (8, .fieldref 10 39), (0, .nameAndType 40 26), (0, u "COMPACT_STRINGS"), (1, .class_ 44), (1, u "java/lang/StringUTF16"), (0, u "compress"), (1, .methodref 42 48), (0, .nameAndType 49 50), (0, u "coderFromArrayLen"), (0, u "([BI)B"), (56, .class_ 109), (1, u "java/lang/StringLatin1"), (67, .methodref 42 178), (0, .nameAndType 45 179), (0, u "([CII)[B"), (361, .methodref 107 542), (0, .nameAndType 543 544), (0, u "equals"), (0, u "([B[B)Z"), (28, u "(Ljava/lang/Object;)Z"), (1, .class_ 576), (0, u "java/lang/CharSequence"), (22, u "CASE_INSENSITIVE_ORDER"), (0, u "Ljava/util/Comparator;"), (409, u "([C)V"), (90, u "serialPersistentFields"), (0, u "[Ljava/io/ObjectStreamField;"), (0, .class_ 1104), (0, u "java/lang/String$CaseInsensitiveComparator"), (1, .class_ 1107), (0, u "java/io/Serializable"), (0, .class_ 1109), (0, u "java/lang/Comparable"), (0, .class_ 1111), (0, u "java/lang/constant/Constable"), (0, .class_ 1113), (0, u "java/lang/constant/ConstantDesc"), (2, u "serialVersionUID"), (0, u "J"), (3, u "REPL"), (0, u "C"), (2, u "LATIN1"), (1, u "UTF16")] 323

def k8m0 : Method := { name := "<init>", desc := "()V", sig := { parameters := [], returnType := none }, accessFlags := 1, code := none }
def k8c1 : Code := { maxStack := 5, maxLocals := 2, code := jdk_42_method_3_code, exceptionTable := #[], attributes := #[] }
def k8m1 : Method := { name := "<init>", desc := "([C)V", sig := { parameters := [(.array .char)], returnType := none }, accessFlags := 1, code := some k8c1 }
def k8c2 : Code := { maxStack := 2, maxLocals := 3, code := jdk_42_method_66_code, exceptionTable := #[], attributes := #[] }
def k8m2 : Method := { name := "equals", desc := "(Ljava/lang/Object;)Z", sig := { parameters := [(.object "java/lang/Object")], returnType := some .boolean }, accessFlags := 1, code := some k8c2 }
def k8c3 : Code := { maxStack := 4, maxLocals := 6, code := jdk_42_method_149_code, exceptionTable := #[], attributes := #[] }
def k8m3 : Method := { name := "<init>", desc := "([CIILjava/lang/Void;)V", sig := { parameters := [(.array .char), .int, .int, (.object "java/lang/Void")], returnType := none }, accessFlags := 2, code := some k8c3 }
/-- java/lang/String -/
def k8 : Class := { plain "java/lang/String" (some 0) with
  accessFlags := 49
  interfaces := #[3, 4, 5, 6, 7]
  cf := some (fileOf pool8 10 #[.nestMembers #[1103]] #[{ accessFlags := 1, nameIndex := 5, descriptorIndex := 6, attributes := #[] }, { accessFlags := 1, nameIndex := 5, descriptorIndex := 1010, attributes := #[] }, { accessFlags := 1, nameIndex := 543, descriptorIndex := 573, attributes := #[] }, { accessFlags := 2, nameIndex := 5, descriptorIndex := 29, attributes := #[] }] 49 2 #[1106, 1108, 575, 1110, 1112] #[{ accessFlags := 18, nameIndex := 13, descriptorIndex := 14, attributes := #[] }, { accessFlags := 18, nameIndex := 17, descriptorIndex := 18, attributes := #[] }, { accessFlags := 2, nameIndex := 21, descriptorIndex := 22, attributes := #[] }, { accessFlags := 2, nameIndex := 25, descriptorIndex := 26, attributes := #[] }, { accessFlags := 26, nameIndex := 1116, descriptorIndex := 1117, attributes := #[] }, { accessFlags := 24, nameIndex := 40, descriptorIndex := 26, attributes := #[] }, { accessFlags := 26, nameIndex := 1101, descriptorIndex := 1102, attributes := #[] }, { accessFlags := 26, nameIndex := 1121, descriptorIndex := 1122, attributes := #[] }, { accessFlags := 25, nameIndex := 599, descriptorIndex := 600, attributes := #[] }, { accessFlags := 24, nameIndex := 1125, descriptorIndex := 18, attributes := #[] }, { accessFlags := 24, nameIndex := 1127, descriptorIndex := 18, attributes := #[] }])
  fields := #[{ name := "value", type := (.array .byte), accessFlags := 18, slot := 0, constantValue := 0 }, { name := "coder", type := .byte, accessFlags := 18, slot := 1, constantValue := 0 }, { name := "hash", type := .int, accessFlags := 2, slot := 2, constantValue := 0 }, { name := "hashIsZero", type := .boolean, accessFlags := 2, slot := 3, constantValue := 0 }, { name := "serialVersionUID", type := .long, accessFlags := 26, slot := 0, constantValue := 0 }, { name := "COMPACT_STRINGS", type := .boolean, accessFlags := 24, slot := 1, constantValue := 0 }, { name := "serialPersistentFields", type := (.array (.object "java/io/ObjectStreamField")), accessFlags := 26, slot := 2, constantValue := 0 }, { name := "REPL", type := .char, accessFlags := 26, slot := 3, constantValue := 0 }, { name := "CASE_INSENSITIVE_ORDER", type := (.object "java/util/Comparator"), accessFlags := 25, slot := 4, constantValue := 0 }, { name := "LATIN1", type := .byte, accessFlags := 24, slot := 5, constantValue := 0 }, { name := "UTF16", type := .byte, accessFlags := 24, slot := 6, constantValue := 0 }]
  methods := #[k8m0, k8m1, k8m2, k8m3]
  instanceTypes := #[(.array .byte), .byte, .int, .boolean]
  staticTypes := #[.long, .boolean, (.array (.object "java/io/ObjectStreamField")), .char, (.object "java/util/Comparator"), .byte, .byte]
  resolved := Array.replicate 1451 none
  statics := some 0 }

def pool9 : Array CpInfo := pool [(6, .class_ 8), (1, u "java/lang/Object"), (0, u "<init>"), (0, u "()V"), (1, .class_ 14), (1, u "java/lang/StringUTF16"), (31, u "$assertionsDisabled"), (0, u "Z"), (13, u "HI_BYTE_SHIFT"), (0, u "I"), (2, u "LO_BYTE_SHIFT"), (49, .methodref 12 116), (0, .nameAndType 117 118), (0, u "compress"), (0, u "([CI[BII)I"), (3, u "([CII)[B"), (138, u "coderFromArrayLen"), (0, u "([BI)B"), (106, .class_ 371), (1, u "java/lang/StringUTF16$LinesSpliterator"), (58, u "MAX_LENGTH"), (196, .class_ 628), (0, u "java/lang/StringUTF16$CodePointsSpliterator"), (0, .class_ 630), (0, u "java/lang/StringUTF16$CharsSpliterator")] 4

def k9m0 : Method := { name := "<init>", desc := "()V", sig := { parameters := [], returnType := none }, accessFlags := 0, code := none }
def k9c1 : Code := { maxStack := 2, maxLocals := 2, code := jdk_52_method_15_code, exceptionTable := #[], attributes := #[] }
def k9m1 : Method := { name := "coderFromArrayLen", desc := "([BI)B", sig := { parameters := [(.array .byte), .int], returnType := some .byte }, accessFlags := 8, code := some k9c1 }
def k9c2 : Code := { maxStack := 5, maxLocals := 6, code := jdk_52_method_16_code, exceptionTable := #[], attributes := #[] }
def k9m2 : Method := { name := "compress", desc := "([CII)[B", sig := { parameters := [(.array .char), .int, .int], returnType := some (.array .byte) }, accessFlags := 9, code := some k9c2 }
def k9c3 : Code := { maxStack := 3, maxLocals := 7, code := jdk_52_method_21_code, exceptionTable := #[], attributes := #[] }
def k9m3 : Method := { name := "compress", desc := "([CI[BII)I", sig := { parameters := [(.array .char), .int, (.array .byte), .int, .int], returnType := some .int }, accessFlags := 9, code := some k9c3 }
/-- java/lang/StringUTF16 -/
def k9 : Class := { plain "java/lang/StringUTF16" (some 0) with
  accessFlags := 48
  interfaces := #[]
  cf := some (fileOf pool9 12 #[.nestMembers #[627, 629, 369]] #[{ accessFlags := 0, nameIndex := 9, descriptorIndex := 10, attributes := #[] }, { accessFlags := 8, nameIndex := 261, descriptorIndex := 262, attributes := #[] }, { accessFlags := 9, nameIndex := 117, descriptorIndex := 122, attributes := #[] }, { accessFlags := 9, nameIndex := 117, descriptorIndex := 118, attributes := #[] }] 48 6 #[] #[{ accessFlags := 26, nameIndex := 61, descriptorIndex := 62, attributes := #[] }, { accessFlags := 26, nameIndex := 65, descriptorIndex := 62, attributes := #[] }, { accessFlags := 24, nameIndex := 430, descriptorIndex := 62, attributes := #[] }, { accessFlags := 4120, nameIndex := 46, descriptorIndex := 47, attributes := #[] }])
  fields := #[{ name := "HI_BYTE_SHIFT", type := .int, accessFlags := 26, slot := 0, constantValue := 0 }, { name := "LO_BYTE_SHIFT", type := .int, accessFlags := 26, slot := 1, constantValue := 0 }, { name := "MAX_LENGTH", type := .int, accessFlags := 24, slot := 2, constantValue := 0 }, { name := "$assertionsDisabled", type := .boolean, accessFlags := 4120, slot := 3, constantValue := 0 }]
  methods := #[k9m0, k9m1, k9m2, k9m3]
  instanceTypes := #[]
  staticTypes := #[.int, .int, .int, .boolean]
  resolved := Array.replicate 635 none
  statics := none }

def pool10 : Array CpInfo := pool [(2, .class_ 4), (1, u "java/lang/Object"), (0, u "<init>"), (0, u "()V"), (35, .class_ 44), (1, u "java/util/Objects"), (0, u "requireNonNull"), (48, u "(Ljava/lang/Object;Ljava/lang/String;)Ljava/lang/Object;")] 89

def k10m0 : Method := { name := "<init>", desc := "()V", sig := { parameters := [], returnType := none }, accessFlags := 2, code := none }
def k10c1 : Code := { maxStack := 3, maxLocals := 2, code := jdk_31_method_11_code, exceptionTable := #[], attributes := #[] }
def k10m1 : Method := { name := "requireNonNull", desc := "(Ljava/lang/Object;Ljava/lang/String;)Ljava/lang/Object;", sig := { parameters := [(.object "java/lang/Object"), (.object "java/lang/String")], returnType := some (.object "java/lang/Object") }, accessFlags := 9, code := some k10c1 }
/-- java/util/Objects -/
def k10 : Class := { plain "java/util/Objects" (some 0) with
  accessFlags := 49
  interfaces := #[]
  cf := some (fileOf pool10 42 #[] #[{ accessFlags := 2, nameIndex := 5, descriptorIndex := 6, attributes := #[] }, { accessFlags := 9, nameIndex := 45, descriptorIndex := 94, attributes := #[] }] 49 2 #[] #[])
  fields := #[]
  methods := #[k10m0, k10m1]
  instanceTypes := #[]
  staticTypes := #[]
  resolved := Array.replicate 184 none
  statics := none }

def pool11 : Array CpInfo := pool [(4, .class_ 6), (1, u "java/lang/Object"), (0, u "<init>"), (0, u "()V"), (5, .class_ 16), (1, u "java/lang/StringLatin1"), (104, u "$assertionsDisabled"), (0, u "Z"), (98, .class_ 223), (1, u "java/lang/StringLatin1$LinesSpliterator"), (57, u "equals"), (0, u "([B[B)Z"), (107, .class_ 391), (0, u "java/lang/StringLatin1$CharsSpliterator")] 3

def k11m0 : Method := { name := "<init>", desc := "()V", sig := { parameters := [], returnType := none }, accessFlags := 0, code := none }
def k11c1 : Code := { maxStack := 3, maxLocals := 3, code := jdk_43_method_13_code, exceptionTable := #[], attributes := #[] }
def k11m1 : Method := { name := "equals", desc := "([B[B)Z", sig := { parameters := [(.array .byte), (.array .byte)], returnType := some .boolean }, accessFlags := 9, code := some k11c1 }
/-- java/lang/StringLatin1 -/
def k11 : Class := { plain "java/lang/StringLatin1" (some 0) with
  accessFlags := 48
  interfaces := #[]
  cf := some (fileOf pool11 14 #[.nestMembers #[390, 221]] #[{ accessFlags := 0, nameIndex := 7, descriptorIndex := 8, attributes := #[] }, { accessFlags := 9, nameIndex := 281, descriptorIndex := 282, attributes := #[] }] 48 4 #[] #[{ accessFlags := 4120, nameIndex := 121, descriptorIndex := 122, attributes := #[] }])
  fields := #[{ name := "$assertionsDisabled", type := .boolean, accessFlags := 4120, slot := 0, constantValue := 0 }]
  methods := #[k11m0, k11m1]
  instanceTypes := #[]
  staticTypes := #[.boolean]
  resolved := Array.replicate 395 none
  statics := none }

def pool12 : Array CpInfo := pool [(2, .class_ 4), (1, u "java/lang/Object"), (0, u "<init>"), (0, u "()V"), (17, .class_ 26), (1, u "jdk/internal/util/Preconditions"), (28, .class_ 56), (0, u "jdk/internal/util/Preconditions$4"), (57, .class_ 115), (0, u "jdk/internal/util/Preconditions$1"), (7, u "SIOOBE_FORMATTER"), (0, u "Ljava/util/function/BiFunction;"), (0, .class_ 126), (0, u "jdk/internal/util/Preconditions$2"), (3, u "AIOOBE_FORMATTER"), (0, .class_ 132), (0, u "jdk/internal/util/Preconditions$3"), (3, u "IOOBE_FORMATTER")] 57

def k12m0 : Method := { name := "<init>", desc := "()V", sig := { parameters := [], returnType := none }, accessFlags := 1, code := none }
/-- jdk/internal/util/Preconditions -/
def k12 : Class := { plain "jdk/internal/util/Preconditions" (some 0) with
  accessFlags := 33
  interfaces := #[]
  cf := some (fileOf pool12 24 #[.nestMembers #[55, 131, 125, 114]] #[{ accessFlags := 1, nameIndex := 5, descriptorIndex := 6, attributes := #[] }] 33 2 #[] #[{ accessFlags := 25, nameIndex := 123, descriptorIndex := 124, attributes := #[] }, { accessFlags := 25, nameIndex := 130, descriptorIndex := 124, attributes := #[] }, { accessFlags := 25, nameIndex := 136, descriptorIndex := 124, attributes := #[] }])
  fields := #[{ name := "SIOOBE_FORMATTER", type := (.object "java/util/function/BiFunction"), accessFlags := 25, slot := 0, constantValue := 0 }, { name := "AIOOBE_FORMATTER", type := (.object "java/util/function/BiFunction"), accessFlags := 25, slot := 1, constantValue := 0 }, { name := "IOOBE_FORMATTER", type := (.object "java/util/function/BiFunction"), accessFlags := 25, slot := 2, constantValue := 0 }]
  methods := #[k12m0]
  instanceTypes := #[]
  staticTypes := #[(.object "java/util/function/BiFunction"), (.object "java/util/function/BiFunction"), (.object "java/util/function/BiFunction")]
  resolved := Array.replicate 194 none
  statics := some 1 }

def pool13 : Array CpInfo := pool [(9, u "<init>"), (6, .class_ 18), (1, u "java/lang/Object"), (0, u "()V"), (1, .class_ 23), (1, u "jdk/internal/util/ArraysSupport"), (0, u "LOG2_ARRAY_LONG_INDEX_SCALE"), (0, u "I"), (2, u "U"), (0, u "Ljdk/internal/misc/Unsafe;"), (8, u "BIG_ENDIAN"), (0, u "Z"), (8, u "LOG2_BYTE_BIT_SIZE"), (4, u "LOG2_ARRAY_INT_INDEX_SCALE"), (54, u "JLA"), (0, u "Ljdk/internal/access/JavaLangAccess;"), (11, u "LOG2_ARRAY_BOOLEAN_INDEX_SCALE"), (9, u "LOG2_ARRAY_BYTE_INDEX_SCALE"), (5, u "LOG2_ARRAY_CHAR_INDEX_SCALE"), (5, u "LOG2_ARRAY_SHORT_INDEX_SCALE"), (18, u "LOG2_ARRAY_FLOAT_INDEX_SCALE"), (24, u "LOG2_ARRAY_DOUBLE_INDEX_SCALE"), (89, u "T_BOOLEAN"), (2, u "T_CHAR"), (1, u "T_FLOAT"), (1, u "T_DOUBLE"), (1, u "T_BYTE"), (1, u "T_SHORT"), (1, u "T_INT"), (1, u "T_LONG"), (1, u "SOFT_MAX_ARRAY_LENGTH")] 83

def k13m0 : Method := { name := "<init>", desc := "()V", sig := { parameters := [], returnType := none }, accessFlags := 2, code := none }
/-- jdk/internal/util/ArraysSupport -/
def k13 : Class := { plain "jdk/internal/util/ArraysSupport" (some 0) with
  accessFlags := 33
  interfaces := #[]
  cf := some (fileOf pool13 21 #[] #[{ accessFlags := 2, nameIndex := 9, descriptorIndex := 19, attributes := #[] }] 33 16 #[] #[{ accessFlags := 24, nameIndex := 28, descriptorIndex := 29, attributes := #[] }, { accessFlags := 26, nameIndex := 38, descriptorIndex := 39, attributes := #[] }, { accessFlags := 25, nameIndex := 121, descriptorIndex := 25, attributes := #[] }, { accessFlags := 25, nameIndex := 131, descriptorIndex := 25, attributes := #[] }, { accessFlags := 25, nameIndex := 137, descriptorIndex := 25, attributes := #[] }, { accessFlags := 25, nameIndex := 143, descriptorIndex := 25, attributes := #[] }, { accessFlags := 25, nameIndex := 53, descriptorIndex := 25, attributes := #[] }, { accessFlags := 25, nameIndex := 24, descriptorIndex := 25, attributes := #[] }, { accessFlags := 25, nameIndex := 162, descriptorIndex := 25, attributes := #[] }, { accessFlags := 25, nameIndex := 187, descriptorIndex := 25, attributes := #[] }, { accessFlags := 26, nameIndex := 48, descriptorIndex := 25, attributes := #[] }, { accessFlags := 25, nameIndex := 277, descriptorIndex := 25, attributes := #[] }, { accessFlags := 25, nameIndex := 280, descriptorIndex := 25, attributes := #[] }, { accessFlags := 25, nameIndex := 282, descriptorIndex := 25, attributes := #[] }, { accessFlags := 25, nameIndex := 284, descriptorIndex := 25, attributes := #[] }, { accessFlags := 25, nameIndex := 286, descriptorIndex := 25, attributes := #[] }, { accessFlags := 25, nameIndex := 288, descriptorIndex := 25, attributes := #[] }, { accessFlags := 25, nameIndex := 290, descriptorIndex := 25, attributes := #[] }, { accessFlags := 25, nameIndex := 292, descriptorIndex := 25, attributes := #[] }, { accessFlags := 26, nameIndex := 108, descriptorIndex := 109, attributes := #[] }, { accessFlags := 25, nameIndex := 294, descriptorIndex := 25, attributes := #[] }])
  fields := #[{ name := "U", type := (.object "jdk/internal/misc/Unsafe"), accessFlags := 24, slot := 0, constantValue := 0 }, { name := "BIG_ENDIAN", type := .boolean, accessFlags := 26, slot := 1, constantValue := 0 }, { name := "LOG2_ARRAY_BOOLEAN_INDEX_SCALE", type := .int, accessFlags := 25, slot := 2, constantValue := 0 }, { name := "LOG2_ARRAY_BYTE_INDEX_SCALE", type := .int, accessFlags := 25, slot := 3, constantValue := 0 }, { name := "LOG2_ARRAY_CHAR_INDEX_SCALE", type := .int, accessFlags := 25, slot := 4, constantValue := 0 }, { name := "LOG2_ARRAY_SHORT_INDEX_SCALE", type := .int, accessFlags := 25, slot := 5, constantValue := 0 }, { name := "LOG2_ARRAY_INT_INDEX_SCALE", type := .int, accessFlags := 25, slot := 6, constantValue := 0 }, { name := "LOG2_ARRAY_LONG_INDEX_SCALE", type := .int, accessFlags := 25, slot := 7, constantValue := 0 }, { name := "LOG2_ARRAY_FLOAT_INDEX_SCALE", type := .int, accessFlags := 25, slot := 8, constantValue := 0 }, { name := "LOG2_ARRAY_DOUBLE_INDEX_SCALE", type := .int, accessFlags := 25, slot := 9, constantValue := 0 }, { name := "LOG2_BYTE_BIT_SIZE", type := .int, accessFlags := 26, slot := 10, constantValue := 0 }, { name := "T_BOOLEAN", type := .int, accessFlags := 25, slot := 11, constantValue := 0 }, { name := "T_CHAR", type := .int, accessFlags := 25, slot := 12, constantValue := 0 }, { name := "T_FLOAT", type := .int, accessFlags := 25, slot := 13, constantValue := 0 }, { name := "T_DOUBLE", type := .int, accessFlags := 25, slot := 14, constantValue := 0 }, { name := "T_BYTE", type := .int, accessFlags := 25, slot := 15, constantValue := 0 }, { name := "T_SHORT", type := .int, accessFlags := 25, slot := 16, constantValue := 0 }, { name := "T_INT", type := .int, accessFlags := 25, slot := 17, constantValue := 0 }, { name := "T_LONG", type := .int, accessFlags := 25, slot := 18, constantValue := 0 }, { name := "JLA", type := (.object "jdk/internal/access/JavaLangAccess"), accessFlags := 26, slot := 19, constantValue := 0 }, { name := "SOFT_MAX_ARRAY_LENGTH", type := .int, accessFlags := 25, slot := 20, constantValue := 0 }]
  methods := #[k13m0]
  instanceTypes := #[]
  staticTypes := #[(.object "jdk/internal/misc/Unsafe"), .boolean, .int, .int, .int, .int, .int, .int, .int, .int, .int, .int, .int, .int, .int, .int, .int, .int, .int, (.object "jdk/internal/access/JavaLangAccess"), .int]
  resolved := Array.replicate 378 none
  statics := none }

def pool14 : Array CpInfo := pool [(1, u "java/lang/Cloneable"), (0, .class_ 1), (0, u "java/lang/Object"), (0, .class_ 3)] 3

/-- java/lang/Cloneable -/
def k14 : Class := { plain "java/lang/Cloneable" (some 0) with
  accessFlags := 1537
  interfaces := #[]
  cf := some (fileOf pool14 2 #[] #[] 1537 4 #[] #[])
  fields := #[]
  methods := #[]
  instanceTypes := #[]
  staticTypes := #[]
  resolved := Array.replicate 8 none
  statics := none }

/-- the primitive byte -/
def k15 : Class := { plain "byte" none with kind := .primitive 'B', accessFlags := 0x411 }
/-- [B -/
def k16 : Class := { plain "[B" (some 0) with kind := .array 15 .byte, interfaces := #[14, 3], accessFlags := 1041 }

/-- the primitive char -/
def k17 : Class := { plain "char" none with kind := .primitive 'C', accessFlags := 0x411 }
/-- [C -/
def k18 : Class := { plain "[C" (some 0) with kind := .array 17 .char, interfaces := #[14, 3], accessFlags := 1041 }

/-- the primitive int -/
def k19 : Class := { plain "int" none with kind := .primitive 'I', accessFlags := 0x411 }
/-- [I -/
def k20 : Class := { plain "[I" (some 0) with kind := .array 19 .int, interfaces := #[14, 3], accessFlags := 1041 }

def heap : Heap := #[{ cls := 8, slots := #[.long 0, .int 1, .null, .int 0, .null, .int 0, .int 0], vm := .statics 8 },
  { cls := 12, slots := #[.null, .null, .null], vm := .statics 12 }]
def classes : Array Class := #[k0, k1, k2, k3, k4, k5, k6, k7, k8, k9, k10, k11, k12, k13, k14, k15, k16, k17, k18, k19, k20]
def interned : List (Array UInt16 × Addr) := []
def slotsUsed : Nat := 10
def theMethod : MethodId := ⟨1, 6⟩
def args0 : Array Value := #[.long 5, .long 6, .long 7, .int 1]
def aboutOver (below : List Frame) : State where
  vm := { classes := classes, interned := interned.toArray }
  heap := heap
  slotsUsed := slotsUsed
  threads := #[{ frames := .invoking theMethod args0 :: below }]
def below0 : List Frame := [.native { method := ⟨0, 0⟩, args := #[] }]
def about1 : State := aboutOver below0
def p0 : Program := .bare "" "" ""
def e0 : Env := launch0.env 0 0 0
theorem w_frames : about1.frames = Frame.invoking theMethod args0 :: below0 := rfl
set_option maxRecDepth 65536 in
theorem w_args : argsFit about1.vm theMethod args0 = true := by decide +kernel
set_option maxRecDepth 65536 in
theorem w_heap : heapFits about1 = true := by decide +kernel
set_option maxRecDepth 65536 in
theorem w_runnable : about1.curStatus? = some .runnable := by decide +kernel
set_option maxRecDepth 65536 in
theorem w_alone : about1.alone = true := by decide +kernel
set_option maxRecDepth 65536 in
theorem w_named : about1.methodNamed? x = some theMethod := by decide +kernel
set_option maxRecDepth 65536 in
theorem w_hears : about1.hears theMethod below0 = true := by decide +kernel
set_option maxRecDepth 65536 in
theorem w_ripe : about1.ripe theMethod args0 below0 = true := by decide +kernel
theorem w_running : about1.status = .running := rfl
set_option maxRecDepth 65536 in
theorem w_room : about1.hasRoom e0.platform room_1 = true :=
  launch0.hasRoom_least _ room_1 (by decide +kernel) (by decide +kernel) (by decide +kernel) (by decide +kernel) (by decide +kernel) (by decide +kernel)
theorem allAtoms_all (ts : List Jvm.Cond) (a : Array Jvm.Value) (st : Jvm.State) : (allAtoms ts).before a st = ts.all (fun c => c.before a st) := by
  induction ts with
  | nil => rfl
  | cons c t ih =>
    show (Jvm.Cond.and c (allAtoms t)).before a st = _
    rw [Jvm.Cond.before_and, ih, List.all_cons]
def words1 : List Jvm.Cond := Jvm.Cond.code x code maxLocals ret :: tables_1
/-- a 'code' word, met by the world's own term for the bytes: nothing is compared byte by byte -/
theorem code_word {y : MethodName} {bytes : ByteArray} {mx : Nat} {rt : Option FieldType} {a : Array Value} {s : State} {m : MethodId} {meth : Method} {c : Code} (h1 : s.methodNamed? y = some m) (h2 : s.vm.method? m = some meth) (h3 : meth.code = some c) (h4 : c.code = bytes)
    (h5 : (c.maxLocals == mx && c.exceptionTable.isEmpty && decide (c.maxStack ≤ mostOperands) && decide (meth.sig.returnType = rt) && !meth.locks && decide (parseMethodDescriptor y.desc = some meth.sig)) = true) : (Jvm.Cond.code y bytes mx rt).before a s = true := by
  simp only [Bool.and_eq_true, beq_iff_eq, Bool.not_eq_true', decide_eq_true_eq] at h5
  obtain ⟨⟨⟨⟨⟨g1, g2⟩, g3⟩, g4⟩, g5⟩, g6⟩ := h5
  simp [Cond.before, Cond.holds, Cond.value, h1, h2, h3, h4, g1, g2, g3, g4, g5, g6]
def isCode : Jvm.Cond → Bool
  | .code _ _ _ _ => true
  | _ => false
theorem all_split {L : List Jvm.Cond} {P : Jvm.Cond → Bool} (h1 : L.all (fun c => isCode c || P c) = true) (h2 : ∀ c ∈ L.filter isCode, P c = true) : L.all P = true := by
  refine List.all_eq_true.mpr fun c hc => ?_
  have h := List.all_eq_true.mp h1 c hc
  rcases Bool.eq_false_or_eq_true (isCode c) with hi | hi
  · exact h2 c (List.mem_filter.mpr ⟨hc, hi⟩)
  · simpa [hi] using h
set_option maxRecDepth 65536 in
theorem w_c0 : (Jvm.Cond.code x code maxLocals ret).before args0 about1 = true := code_word (m := ⟨1, 6⟩) (meth := k1m6) (c := k1c6) (by decide +kernel) rfl rfl rfl (by decide +kernel)
set_option maxRecDepth 65536 in
theorem w_c1 : (Jvm.Cond.code ({ cls := "com/example/kunci/kunci/PermissionEqualsPinLaw", name := "str", desc := "(J)Ljava/lang/String;" } : Jvm.MethodName) method_5_code (4 : Nat) (Option.some (Jvm.ClassFile.FieldType.object "java/lang/String"))).before args0 about1 = true := code_word (m := ⟨1, 4⟩) (meth := k1m4) (c := k1c4) (by decide +kernel) rfl rfl rfl (by decide +kernel)
set_option maxRecDepth 65536 in
theorem w_c2 : (Jvm.Cond.code ({ cls := "com/example/kunci/kunci/PermissionEqualsPinLaw", name := "len", desc := "(J)I" } : Jvm.MethodName) method_2_code (2 : Nat) (Option.some Jvm.ClassFile.FieldType.int)).before args0 about1 = true := code_word (m := ⟨1, 1⟩) (meth := k1m1) (c := k1c1) (by decide +kernel) rfl rfl rfl (by decide +kernel)
set_option maxRecDepth 65536 in
theorem w_c3 : (Jvm.Cond.code ({ cls := "java/lang/String", name := "<init>", desc := "([C)V" } : Jvm.MethodName) jdk_42_method_3_code (2 : Nat) (Option.none : Option Jvm.ClassFile.FieldType)).before args0 about1 = true := code_word (m := ⟨8, 1⟩) (meth := k8m1) (c := k8c1) (by decide +kernel) rfl rfl rfl (by decide +kernel)
set_option maxRecDepth 65536 in
theorem w_c4 : (Jvm.Cond.code ({ cls := "java/lang/String", name := "<init>", desc := "([CIILjava/lang/Void;)V" } : Jvm.MethodName) jdk_42_method_149_code (6 : Nat) (Option.none : Option Jvm.ClassFile.FieldType)).before args0 about1 = true := code_word (m := ⟨8, 3⟩) (meth := k8m3) (c := k8c3) (by decide +kernel) rfl rfl rfl (by decide +kernel)
set_option maxRecDepth 65536 in
theorem w_c5 : (Jvm.Cond.code ({ cls := "java/lang/Object", name := "<init>", desc := "()V" } : Jvm.MethodName) object_method_1_code (1 : Nat) (Option.none : Option Jvm.ClassFile.FieldType)).before args0 about1 = true := code_word (m := ⟨0, 0⟩) (meth := k0m0) (c := k0c0) (by decide +kernel) rfl rfl rfl (by decide +kernel)
set_option maxRecDepth 65536 in
theorem w_c6 : (Jvm.Cond.code ({ cls := "com/example/kunci/kunci/PermissionEqualsPinLaw", name := "c0", desc := "(J)C" } : Jvm.MethodName) method_3_code (2 : Nat) (Option.some Jvm.ClassFile.FieldType.char)).before args0 about1 = true := code_word (m := ⟨1, 2⟩) (meth := k1m2) (c := k1c2) (by decide +kernel) rfl rfl rfl (by decide +kernel)
set_option maxRecDepth 65536 in
theorem w_c7 : (Jvm.Cond.code ({ cls := "java/lang/StringUTF16", name := "compress", desc := "([CII)[B" } : Jvm.MethodName) jdk_52_method_16_code (6 : Nat) (Option.some (Jvm.ClassFile.FieldType.array Jvm.ClassFile.FieldType.byte))).before args0 about1 = true := code_word (m := ⟨9, 2⟩) (meth := k9m2) (c := k9c2) (by decide +kernel) rfl rfl rfl (by decide +kernel)
set_option maxRecDepth 65536 in
theorem w_c8 : (Jvm.Cond.code ({ cls := "java/lang/StringUTF16", name := "compress", desc := "([CI[BII)I" } : Jvm.MethodName) jdk_52_method_21_code (7 : Nat) (Option.some Jvm.ClassFile.FieldType.int)).before args0 about1 = true := code_word (m := ⟨9, 3⟩) (meth := k9m3) (c := k9c3) (by decide +kernel) rfl rfl rfl (by decide +kernel)
set_option maxRecDepth 65536 in
theorem w_c9 : (Jvm.Cond.code ({ cls := "java/lang/StringUTF16", name := "coderFromArrayLen", desc := "([BI)B" } : Jvm.MethodName) jdk_52_method_15_code (2 : Nat) (Option.some Jvm.ClassFile.FieldType.byte)).before args0 about1 = true := code_word (m := ⟨9, 1⟩) (meth := k9m1) (c := k9c1) (by decide +kernel) rfl rfl rfl (by decide +kernel)
set_option maxRecDepth 65536 in
theorem w_c10 : (Jvm.Cond.code ({ cls := "com/example/kunci/kunci/Permission", name := "<init>", desc := "(Ljava/lang/String;Ljava/lang/String;Ljava/lang/String;Z)V" } : Jvm.MethodName) prog_7_method_1_code (5 : Nat) (Option.none : Option Jvm.ClassFile.FieldType)).before args0 about1 = true := code_word (m := ⟨2, 0⟩) (meth := k2m0) (c := k2c0) (by decide +kernel) rfl rfl rfl (by decide +kernel)
set_option maxRecDepth 65536 in
theorem w_c11 : (Jvm.Cond.code ({ cls := "java/util/Objects", name := "requireNonNull", desc := "(Ljava/lang/Object;Ljava/lang/String;)Ljava/lang/Object;" } : Jvm.MethodName) jdk_31_method_11_code (2 : Nat) (Option.some (Jvm.ClassFile.FieldType.object "java/lang/Object"))).before args0 about1 = true := code_word (m := ⟨10, 1⟩) (meth := k10m1) (c := k10c1) (by decide +kernel) rfl rfl rfl (by decide +kernel)
set_option maxRecDepth 65536 in
theorem w_c12 : (Jvm.Cond.code ({ cls := "com/example/kunci/kunci/PermissionEqualsPinLaw", name := "same", desc := "(JJ)Z" } : Jvm.MethodName) method_6_code (5 : Nat) (Option.some Jvm.ClassFile.FieldType.boolean)).before args0 about1 = true := code_word (m := ⟨1, 5⟩) (meth := k1m5) (c := k1c5) (by decide +kernel) rfl rfl rfl (by decide +kernel)
set_option maxRecDepth 65536 in
theorem w_c13 : (Jvm.Cond.code ({ cls := "com/example/kunci/kunci/Permission", name := "equals", desc := "(Ljava/lang/Object;)Z" } : Jvm.MethodName) prog_7_method_6_code (3 : Nat) (Option.some Jvm.ClassFile.FieldType.boolean)).before args0 about1 = true := code_word (m := ⟨2, 1⟩) (meth := k2m1) (c := k2c1) (by decide +kernel) rfl rfl rfl (by decide +kernel)
set_option maxRecDepth 65536 in
theorem w_c14 : (Jvm.Cond.code ({ cls := "java/lang/String", name := "equals", desc := "(Ljava/lang/Object;)Z" } : Jvm.MethodName) jdk_42_method_66_code (3 : Nat) (Option.some Jvm.ClassFile.FieldType.boolean)).before args0 about1 = true := code_word (m := ⟨8, 2⟩) (meth := k8m2) (c := k8c2) (by decide +kernel) rfl rfl rfl (by decide +kernel)
set_option maxRecDepth 65536 in
theorem w_c15 : (Jvm.Cond.code ({ cls := "java/lang/StringLatin1", name := "equals", desc := "([B[B)Z" } : Jvm.MethodName) jdk_43_method_13_code (3 : Nat) (Option.some Jvm.ClassFile.FieldType.boolean)).before args0 about1 = true := code_word (m := ⟨11, 1⟩) (meth := k11m1) (c := k11c1) (by decide +kernel) rfl rfl rfl (by decide +kernel)
set_option maxRecDepth 65536 in
theorem w_c16 : (Jvm.Cond.code ({ cls := "com/example/kunci/kunci/PermissionEqualsPinLaw", name := "c1", desc := "(J)C" } : Jvm.MethodName) method_4_code (2 : Nat) (Option.some Jvm.ClassFile.FieldType.char)).before args0 about1 = true := code_word (m := ⟨1, 3⟩) (meth := k1m3) (c := k1c3) (by decide +kernel) rfl rfl rfl (by decide +kernel)
def codes1 : List Jvm.Cond := [Jvm.Cond.code x code maxLocals ret, Jvm.Cond.code ({ cls := "com/example/kunci/kunci/PermissionEqualsPinLaw", name := "str", desc := "(J)Ljava/lang/String;" } : Jvm.MethodName) method_5_code (4 : Nat) (Option.some (Jvm.ClassFile.FieldType.object "java/lang/String")), Jvm.Cond.code ({ cls := "com/example/kunci/kunci/PermissionEqualsPinLaw", name := "len", desc := "(J)I" } : Jvm.MethodName) method_2_code (2 : Nat) (Option.some Jvm.ClassFile.FieldType.int), Jvm.Cond.code ({ cls := "java/lang/String", name := "<init>", desc := "([C)V" } : Jvm.MethodName) jdk_42_method_3_code (2 : Nat) (Option.none : Option Jvm.ClassFile.FieldType), Jvm.Cond.code ({ cls := "java/lang/String", name := "<init>", desc := "([CIILjava/lang/Void;)V" } : Jvm.MethodName) jdk_42_method_149_code (6 : Nat) (Option.none : Option Jvm.ClassFile.FieldType), Jvm.Cond.code ({ cls := "java/lang/Object", name := "<init>", desc := "()V" } : Jvm.MethodName) object_method_1_code (1 : Nat) (Option.none : Option Jvm.ClassFile.FieldType), Jvm.Cond.code ({ cls := "com/example/kunci/kunci/PermissionEqualsPinLaw", name := "c0", desc := "(J)C" } : Jvm.MethodName) method_3_code (2 : Nat) (Option.some Jvm.ClassFile.FieldType.char), Jvm.Cond.code ({ cls := "java/lang/StringUTF16", name := "compress", desc := "([CII)[B" } : Jvm.MethodName) jdk_52_method_16_code (6 : Nat) (Option.some (Jvm.ClassFile.FieldType.array Jvm.ClassFile.FieldType.byte)), Jvm.Cond.code ({ cls := "java/lang/StringUTF16", name := "compress", desc := "([CI[BII)I" } : Jvm.MethodName) jdk_52_method_21_code (7 : Nat) (Option.some Jvm.ClassFile.FieldType.int), Jvm.Cond.code ({ cls := "java/lang/StringUTF16", name := "coderFromArrayLen", desc := "([BI)B" } : Jvm.MethodName) jdk_52_method_15_code (2 : Nat) (Option.some Jvm.ClassFile.FieldType.byte), Jvm.Cond.code ({ cls := "com/example/kunci/kunci/Permission", name := "<init>", desc := "(Ljava/lang/String;Ljava/lang/String;Ljava/lang/String;Z)V" } : Jvm.MethodName) prog_7_method_1_code (5 : Nat) (Option.none : Option Jvm.ClassFile.FieldType), Jvm.Cond.code ({ cls := "java/util/Objects", name := "requireNonNull", desc := "(Ljava/lang/Object;Ljava/lang/String;)Ljava/lang/Object;" } : Jvm.MethodName) jdk_31_method_11_code (2 : Nat) (Option.some (Jvm.ClassFile.FieldType.object "java/lang/Object")), Jvm.Cond.code ({ cls := "com/example/kunci/kunci/PermissionEqualsPinLaw", name := "same", desc := "(JJ)Z" } : Jvm.MethodName) method_6_code (5 : Nat) (Option.some Jvm.ClassFile.FieldType.boolean), Jvm.Cond.code ({ cls := "com/example/kunci/kunci/Permission", name := "equals", desc := "(Ljava/lang/Object;)Z" } : Jvm.MethodName) prog_7_method_6_code (3 : Nat) (Option.some Jvm.ClassFile.FieldType.boolean), Jvm.Cond.code ({ cls := "java/lang/String", name := "equals", desc := "(Ljava/lang/Object;)Z" } : Jvm.MethodName) jdk_42_method_66_code (3 : Nat) (Option.some Jvm.ClassFile.FieldType.boolean), Jvm.Cond.code ({ cls := "java/lang/StringLatin1", name := "equals", desc := "([B[B)Z" } : Jvm.MethodName) jdk_43_method_13_code (3 : Nat) (Option.some Jvm.ClassFile.FieldType.boolean), Jvm.Cond.code ({ cls := "com/example/kunci/kunci/PermissionEqualsPinLaw", name := "c1", desc := "(J)C" } : Jvm.MethodName) method_4_code (2 : Nat) (Option.some Jvm.ClassFile.FieldType.char)]
set_option maxRecDepth 65536 in
theorem codes_eq : words1.filter isCode = codes1 := rfl
theorem w_codes : ∀ c ∈ words1.filter isCode, c.before args0 about1 = true := by
  rw [codes_eq]
  intro c hc
  simp only [codes1, List.mem_cons, List.not_mem_nil, or_false] at hc
  rcases hc with rfl | rfl | rfl | rfl | rfl | rfl | rfl | rfl | rfl | rfl | rfl | rfl | rfl | rfl | rfl | rfl | rfl
  · exact w_c0
  · exact w_c1
  · exact w_c2
  · exact w_c3
  · exact w_c4
  · exact w_c5
  · exact w_c6
  · exact w_c7
  · exact w_c8
  · exact w_c9
  · exact w_c10
  · exact w_c11
  · exact w_c12
  · exact w_c13
  · exact w_c14
  · exact w_c15
  · exact w_c16
set_option maxRecDepth 65536 in
theorem w_t1 : (words1.take 24).all (fun c => isCode c || c.before args0 about1) = true := by decide +kernel
set_option maxRecDepth 65536 in
theorem w_t2 : ((words1.drop 24).take 24).all (fun c => isCode c || c.before args0 about1) = true := by decide +kernel
set_option maxRecDepth 65536 in
theorem w_t3 : (((words1.drop 24).drop 24).take 24).all (fun c => isCode c || c.before args0 about1) = true := by decide +kernel
set_option maxRecDepth 65536 in
theorem w_t4 : (((words1.drop 24).drop 24).drop 24).all (fun c => isCode c || c.before args0 about1) = true := by decide +kernel
theorem w_tables : (allAtoms (Jvm.Cond.code x code maxLocals ret :: tables_1)).before args0 about1 = true := by
  rw [allAtoms_all]
  show words1.all (fun c => c.before args0 about1) = true
  refine all_split ?_ w_codes
  rw [← List.take_append_drop 24 words1, List.all_append, w_t1, ← List.take_append_drop 24 (words1.drop 24), List.all_append, w_t2, ← List.take_append_drop 24 ((words1.drop 24).drop 24), List.all_append, w_t3, w_t4]
  rfl
set_option maxRecDepth 65536 in
theorem w_rest : rest_1_c.before args0 about1 = true := by decide +kernel
set_option maxRecDepth 65536 in
theorem w_case : (Jvm.Cond.and given_1 narrow_1).before args0 about1 = true := by decide +kernel
set_option maxRecDepth 65536 in
theorem w_consts : constsHeld consts_1 about1 := Jvm.Lit.constsHeldB_iff.mp (by decide +kernel)
theorem w_applies : (headSpec (Jvm.Cond.code x code maxLocals ret :: tables_1) room_1).applies x e0.platform about1 = true :=
  (Spec.applies_iff w_frames).mpr ⟨w_running, w_runnable, w_alone, w_named, w_hears, w_ripe, w_room, w_tables⟩
theorem atStart : AtStart classFile x code maxLocals ret World_1 tables_1 room_1 Calls_1 rest_1 Pre_1 launch0 p0 e0 about1 theMethod args0 below0 :=
  ⟨lists_1, trivial, launch0.admits_env _ _ _, launch0.least_env, fairChoices_fair.cas, fairChoices_fair.clock, w_frames, w_args, w_heap, w_applies, ⟨w_consts, trivial⟩, w_rest, w_case⟩
end start1
theorem witness_1 : WitnessClaimed_1 := ⟨start1.p0, start1.e0, start1.about1, start1.theMethod, start1.args0, start1.below0, start1.atStart⟩
end Jvm.Pilot.@@N@@
