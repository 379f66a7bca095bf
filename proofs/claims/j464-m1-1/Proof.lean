import JvmDerived
import JvmDerived.Pilot.@@N@@Statement
import JvmDerived.Pilot.@@N@@Code
set_option linter.unusedVariables false
set_option linter.unusedSimpArgs false
namespace Jvm.Own
open Sem ClassFile Op Lib Jvm.Free Jvm.Stand Jvm.LawKit Jvm.RoadKit Bundle
/-- the walk of a method's body from one point on: it ends in a return that answers Q -/
def Go (p : Program) (l : Launch) (e : Env) (R : Room) (s : State) (m : MethodId) (args : Array Value) (below : List Frame) (meth : Method) (c : Code) (Z : State) (a0 : Array Value) (EL : List (String × Nat)) (nw : Prop) (Q : Option Value → Vm → Heap → Prop)
    (vm : Vm) (h : Heap) (k n pc : Nat) (L : Array Slot) (st : List Value) : Prop :=
  ∀ (T : State) (locs : List Loc) (k0 : Nat), p.tables.exec = Jvm.exec → meth.locks = false → EW Z a0 EL →
    Stand p l e R (s.setVm vm) m args below meth c T locs k n → T.heap = h → s.Since vm k0 → k0 ≤ h.size → Fr Z.heap.size locs → Z.Warmed39 vm → (nw → s.WarmedH vm) → CHr Z EL s.vm s.heap vm h → Ext Z.heap h →
    ∃ (t : State) (v : Option Value) (L' : List Loc), Steps p.tables e below (T.setTop (mkF m pc L st)) t ∧ t.status = .running ∧ Ended t below (.returned v) ∧ Fr Z.heap.size L' ∧ Q v t.vm t.heap ∧ CHr Z EL s.vm s.heap t.vm t.heap ∧ Ext Z.heap t.heap ∧ ReturnedEndW s (.returned v) t L' R.cells R.slots ∧ (nw → s.WarmedH t.vm)
/-- a method's contract at one call: these arguments, this heap; sf: what it may write of Strings and byte arrays -/
def Ct (l : Launch) (Z : State) (EL : List (String × Nat)) (nw : Prop) (ws : List Jvm.Cond) (y : MethodName) (bytes : ByteArray) (maxL : Nat) (ret : Option FieldType) (rm : Room) (as : Array Value) (h : Heap) (sf : List Addr) (Q : Option Value → Vm → Heap → Prop) : Prop :=
  MetFree l y (head1 (Jvm.Cond.code y bytes maxL ret :: ws) rm) (fun a U => a = as ∧ Z.Warmed39 U.vm ∧ U.heap = h ∧ CHv Z EL U.vm h ∧ Ext Z.heap h ∧ ∀ x ∈ sf, Safe Z EL U.vm h x) (fun _ _ _ _ _ => True)
    (fun _ U o U' => ∃ v L, o = .returned v ∧ Fr Z.heap.size L ∧ Q v U'.vm U'.heap ∧ CHr Z EL U.vm U.heap U'.vm U'.heap ∧ Ext Z.heap U'.heap ∧ (nw → U.WarmedH U'.vm) ∧ ReturnedEndW U o U' L rm.cells rm.slots)
/-- an array, by its components -/
def Ar (Z : State) (h : Heap) (a : Addr) (k : ClassId) (ty : FieldType) (vs : List Value) : Prop := ∃ c : Cell, Arr Z h a c ty ∧ c.cls = k ∧ c.slots.toList = vs
/-- a String of Latin-1 bytes -/
def St (Z : State) (h : Heap) (a b : Addr) (k : ClassId) (bs : List Int32) : Prop := Exa Z h a "java/lang/String" ∧ Fld Z h a "java/lang/String" "coder" "B" (.int 0) ∧ Fld Z h a "java/lang/String" "value" "[B" (.ref b) ∧ Ar Z h b k .byte (bs.map Value.int) ∧ bs.length < 536870912
section Facts
variable {Z : State} {h h' h0 : Heap} {a b w : Addr} {k : ClassId} {ty : FieldType} {vs : List Value} {bs : List Int32} {ws : List Addr} {sl : Nat} {v : Value} {EL : List (String × Nat)} {vm vm' : Vm}
theorem ext_trans {h1 h2 h3 : Heap} (E : Ext h1 h2) (F : Ext h2 h3) : Ext h1 h3 := ⟨Nat.le_trans E.1 F.1, fun a c q => F.2 a c (E.2 a c q)⟩
theorem ext_keep (O : Ext Z.heap h) (K : Keep h h' ws) (q : ∀ x ∈ ws, Z.heap.size ≤ x) : Ext Z.heap h' := (Old.keep (n0 := Z.heap.size) ⟨rfl, O⟩ K q).2
theorem ext_wr (O : Ext Z.heap h) (W : Wr h h' a sl v) (q : Z.heap.size ≤ a) : Ext Z.heap h' := (Old.wr (n0 := Z.heap.size) ⟨rfl, O⟩ W q).2
theorem Ar.lt (F : Ar Z h a k ty vs) : a < h.size := by obtain ⟨c, A, -⟩ := F; exact A.lt
theorem Ar.ext (F : Ar Z h a k ty vs) (E : Ext h h') : Ar Z h' a k ty vs := by obtain ⟨c, A, r⟩ := F; exact ⟨c, A.ext E, r⟩
theorem Ar.other (F : Ar Z h a k ty vs) (W : Wr h h' b sl v) (q : a ≠ b) : Ar Z h' a k ty vs := by obtain ⟨c, A, r⟩ := F; exact ⟨c, A.other W q, r⟩
theorem Ar.keep (F : Ar Z h a k ty vs) (K : Keep h h' ws) (q : a ∉ ws) : Ar Z h' a k ty vs := by obtain ⟨c, A, r⟩ := F; exact ⟨c, ⟨K.2.1 a c A.1 q, A.2⟩, r⟩
theorem Ar.set (F : Ar Z h a k ty vs) (W : Wr h h' a sl v) : Ar Z h' a k ty (vs.set sl v) := by
  obtain ⟨c, A, r1, r2⟩ := F
  refine ⟨_, A.same W, r1, ?_⟩
  simp [Cell.setSlot, r2]
theorem Ar.of_arv {z : Int32} {d : Value} (F : Arv Z h a k ty z vs d) (hl : z.toNatClampNeg = vs.length) : Ar Z h a k ty vs := by
  obtain ⟨c, A, r1, r2, r3, H, -⟩ := F
  refine ⟨c, A, r1, List.ext_getElem? fun i => ?_⟩
  by_cases hi : i < c.slots.size
  · have q := H i hi
    rw [Array.getElem?_toList, q]
    have : i < vs.length := by omega
    simp [List.getD, this]
  · rw [Array.getElem?_toList, Array.getElem?_eq_none (by omega), List.getElem?_eq_none (by omega)]
theorem Ar.safe (hal : Z.vm.Alike vm) (F : Ar Z h a k ty vs) (ht : ty ≠ .byte) : Safe Z EL vm h a := by obtain ⟨c, A, -⟩ := F; exact Safe.arr hal A ht
theorem Ar.ne_exa {C : String} {a0 : Array Value} {kk : Nat} (F : Ar Z h a k ty vs) (E : Exa Z h b C) (wi : (Jvm.Cond.instantiable C kk).before a0 Z = true) : b ≠ a := by obtain ⟨c, A, -⟩ := F; exact ne_arr E wi A
theorem Ar.ne_ty {ty' : FieldType} {k' : ClassId} {vs' : List Value} (F : Ar Z h a k ty vs) (G : Ar Z h b k' ty' vs') (hn : ty ≠ ty') : a ≠ b := by
  rintro rfl
  obtain ⟨c, A, -⟩ := F
  obtain ⟨c', B, -⟩ := G
  cases A.1.symm.trans B.1
  obtain ⟨-, k1, h1, c1, h2⟩ := A.2.1
  obtain ⟨-, k2, g1, c2, g2⟩ := B.2.1
  cases h1.symm.trans g1
  have q := h2.symm.trans g2
  injection q with _ e
  exact hn e
theorem St.lt (F : St Z h a b k bs) : a < h.size := F.1.lt
theorem St.ltb (F : St Z h a b k bs) : b < h.size := F.2.2.2.1.lt
theorem Fld.uniq {C n d : String} {v w : Value} (F : Fld Z h a C n d v) (G : Fld Z h a C n d w) : v = w := Classical.byContradiction fun q => Fld.ne F G q rfl
theorem Ar.uniq {k' : ClassId} {ty' : FieldType} {vs' : List Value} (F : Ar Z h a k ty vs) (G : Ar Z h a k' ty' vs') : vs = vs' := by
  obtain ⟨c, A, -, rfl⟩ := F
  obtain ⟨c', B, -, rfl⟩ := G
  cases A.1.symm.trans B.1; rfl
theorem map_int_inj {xs ys : List Int32} (q : xs.map Value.int = ys.map Value.int) : xs = ys := by
  induction xs generalizing ys with
  | nil => cases ys with | nil => rfl | cons y ys => cases q
  | cons x xs ih => cases ys with
    | nil => cases q
    | cons y ys => simp only [List.map_cons, List.cons.injEq, Value.int.injEq] at q; rw [q.1, ih q.2]
theorem St.uniq {b' : Addr} {k' : ClassId} {bs' : List Int32} (F : St Z h a b k bs) (G : St Z h a b' k' bs') : bs = bs' := by
  cases Value.ref.inj (Fld.uniq F.2.2.1 G.2.2.1)
  exact map_int_inj (Ar.uniq F.2.2.2.1 G.2.2.2.1)
theorem St.ext (F : St Z h a b k bs) (E : Ext h h') : St Z h' a b k bs := ⟨F.1.ext E, F.2.1.ext E, F.2.2.1.ext E, F.2.2.2.1.ext E, F.2.2.2.2⟩
theorem St.keep (F : St Z h a b k bs) (K : Keep h h' ws) (q : a ∉ ws) (q' : b ∉ ws) : St Z h' a b k bs := ⟨F.1.keep K, F.2.1.keep K q, F.2.2.1.keep K q, F.2.2.2.1.keep K q', F.2.2.2.2⟩
theorem St.wr (F : St Z h a b k bs) (W : Wr h h' w sl v) (q : a ≠ w) (q' : b ≠ w) : St Z h' a b k bs := F.keep (Keep.of_wr W) (by simpa using q) (by simpa using q')
theorem Keep.ofExt (E : Ext h h') : Keep h h' [] := (Keep.refl h []).ext E
theorem Keep.tr (K : Keep h0 h ws) (K' : Keep h h' ws) : Keep h0 h' ws := K.trans K' fun x hx => Or.inl hx
theorem Keep.more {ws' : List Addr} (K : Keep h h' ws) (q : ∀ x ∈ ws, x ∈ ws' ∨ h.size ≤ x) : Keep h h' ws' := (Keep.refl h ws').trans K q
theorem ltN {x : Addr} {n : Nat} (q : x < n) : n > x := q
theorem neN {x y : Addr} (q : @Eq Nat x y → False) : x ≠ y := q
theorem Safe.to (C : CHr Z EL vm h vm' h') (lt : h.size > a) (S : Safe Z EL vm h a) : Safe Z EL vm' h' a := C.safe lt S
theorem tr0 (E : Ext h h') : h.size ≤ h'.size := E.1
theorem cat1 {v : Value} (q : v.isRef = true) : v.category = 1 := by cases v <;> simp [Value.isRef] at q <;> rfl
theorem narU {v : Value} {ty : FieldType} (q : v.isRef = true) : narrow ty v = v := by cases v <;> simp [Value.isRef] at q <;> cases ty <;> rfl
theorem fitsU {v : Value} {ty : FieldType} (r : ty.isReference = true) (q : v.isRef = true) : fits ty v = true := by cases ty <;> simp [FieldType.isReference] at r <;> cases v <;> simp [Value.isRef] at q <;> rfl
theorem Wr.sz (W : Wr h h' a sl v) : h'.size = h.size := W.size
end Facts
section Walk
variable {p : Program} {l : Launch} {e : Env} {R : Room} {s : State} {m : MethodId} {args : Array Value} {below : List Frame} {meth : Method} {c : Code} {Z : State} {a0 : Array Value} {EL : List (String × Nat)} {nw : Prop} {Q : Option Value → Vm → Heap → Prop} {vm : Vm} {h : Heap} {k n pc pc' : Nat} {L : Array Slot} {st : List Value}
theorem Go.plain {pc2 : Nat} {L2 : Array Slot} {st2 : List Value} (hstep : ∀ (T : State) (locs : List Loc), p.tables.exec = Jvm.exec → Stand p l e R (s.setVm vm) m args below meth c T locs k n → ∀ target, Steps p.tables e below (T.setTop (mkF m pc2 L2 st2)) target → Steps p.tables e below (T.setTop (mkF m pc L st)) target)
    (K : Go p l e R s m args below meth c Z a0 EL nw Q vm h k n pc2 L2 st2) : Go p l e R s m args below meth c Z a0 EL nw Q vm h k n pc L st := fun T locs k0 hx hk hE X eT hS hk0 hF hZ hN hC hO => by
  obtain ⟨t, v, L', r1, r2⟩ := K T locs k0 hx hk hE X eT hS hk0 hF hZ hN hC hO
  exact ⟨t, v, L', hstep T locs hx X _ r1, r2⟩
theorem Go.mono {k' n' : Nat} (K : Go p l e R s m args below meth c Z a0 EL nw Q vm h k' n' pc L st) (hk : k ≤ k') (hn : n ≤ n') : Go p l e R s m args below meth c Z a0 EL nw Q vm h k n pc L st := fun T locs k0 hx hl hE X eT hS hk0 hF hZ hN hC hO =>
  K T locs k0 hx hl hE ⟨X.admits, X.cas, X.clock, X.frames, X.room, X.hears, X.method, X.code, X.here, X.tail, X.warmed, X.limits, X.bytes, X.same.mono hk hn⟩ eT hS hk0 hF hZ hN hC hO
theorem Go.aloadN {q : Fin 4} {v : Value} (hd : decode c.code pc = .ok (.aload_n q, 1)) (hp : pc + 1 = pc') (hl : L[q.val]? = some (.val v)) (hv : v.isRef = true) (K : Go p l e R s m args below meth c Z a0 EL nw Q vm h k n pc' L (v :: st)) : Go p l e R s m args below meth c Z a0 EL nw Q vm h k n pc L st := by
  subst hp
  exact Go.plain (fun T _ hx X _ r => XS.aloadN X.here hx rfl hd hl hv r) K
theorem Go.aload {q : Nat} {v : Value} (hd : decode c.code pc = .ok (.aload q, 2)) (hp : pc + 2 = pc') (hl : L[q]? = some (.val v)) (hv : v.isRef = true) (K : Go p l e R s m args below meth c Z a0 EL nw Q vm h k n pc' L (v :: st)) : Go p l e R s m args below meth c Z a0 EL nw Q vm h k n pc L st := by
  subst hp
  exact Go.plain (fun T _ hx X _ r => XS.aload X.here hx rfl hd hl hv r) K
theorem Go.iloadN {q : Fin 4} {z : Int32} (hd : decode c.code pc = .ok (.iload_n q, 1)) (hp : pc + 1 = pc') (hl : L[q.val]? = some (.val (.int z))) (K : Go p l e R s m args below meth c Z a0 EL nw Q vm h k n pc' L (.int z :: st)) : Go p l e R s m args below meth c Z a0 EL nw Q vm h k n pc L st := by
  subst hp
  exact Go.plain (fun T _ hx X _ r => XS.iloadN X.here hx rfl hd hl r) K
theorem Go.iload {q : Nat} {z : Int32} (hd : decode c.code pc = .ok (.iload q, 2)) (hp : pc + 2 = pc') (hl : L[q]? = some (.val (.int z))) (K : Go p l e R s m args below meth c Z a0 EL nw Q vm h k n pc' L (.int z :: st)) : Go p l e R s m args below meth c Z a0 EL nw Q vm h k n pc L st := by
  subst hp
  exact Go.plain (fun T _ hx X _ r => XS.iload X.here hx rfl hd hl r) K
theorem Go.lloadN {q : Fin 4} {z : Int64} (hd : decode c.code pc = .ok (.lload_n q, 1)) (hp : pc + 1 = pc') (hl : L[q.val]? = some (.val (.long z))) (K : Go p l e R s m args below meth c Z a0 EL nw Q vm h k n pc' L (.long z :: st)) : Go p l e R s m args below meth c Z a0 EL nw Q vm h k n pc L st := by
  subst hp
  exact Go.plain (fun T _ hx X _ r => XT.lloadN X.here hx rfl hd hl r) K
theorem Go.lload {q : Nat} {z : Int64} (hd : decode c.code pc = .ok (.lload q, 2)) (hp : pc + 2 = pc') (hl : L[q]? = some (.val (.long z))) (K : Go p l e R s m args below meth c Z a0 EL nw Q vm h k n pc' L (.long z :: st)) : Go p l e R s m args below meth c Z a0 EL nw Q vm h k n pc L st := by
  subst hp
  exact Go.plain (fun T _ hx X _ r => XT.lload X.here hx rfl hd hl r) K
theorem Go.iconst {i : Int} {z : Int32} (hd : decode c.code pc = .ok (.iconst i, 1)) (hp : pc + 1 = pc') (hz : Int32.ofInt i = z) (K : Go p l e R s m args below meth c Z a0 EL nw Q vm h k n pc' L (.int z :: st)) : Go p l e R s m args below meth c Z a0 EL nw Q vm h k n pc L st := by
  subst hp
  exact Go.plain (fun T _ hx X _ r => XS.iconst X.here hx rfl hd (by rw [hz]; exact r)) K
theorem Go.bipush {i : Int} {z : Int32} (hd : decode c.code pc = .ok (.bipush i, 2)) (hp : pc + 2 = pc') (hz : (Int8.ofInt i).toInt32 = z) (K : Go p l e R s m args below meth c Z a0 EL nw Q vm h k n pc' L (.int z :: st)) : Go p l e R s m args below meth c Z a0 EL nw Q vm h k n pc L st := by
  subst hp
  exact Go.plain (fun T _ hx X _ r => XS.bipush X.here hx rfl hd (by rw [hz]; exact r)) K
theorem Go.sipush {i : Int} {z : Int32} (hd : decode c.code pc = .ok (.sipush i, 3)) (hp : pc + 3 = pc') (hz : (Int16.ofInt i).toInt32 = z) (K : Go p l e R s m args below meth c Z a0 EL nw Q vm h k n pc' L (.int z :: st)) : Go p l e R s m args below meth c Z a0 EL nw Q vm h k n pc L st := by
  subst hp
  exact Go.plain (fun T _ hx X _ r => XS.sipush X.here hx rfl hd (by rw [hz]; exact r)) K
theorem Go.lconst {q : Fin 2} (hd : decode c.code pc = .ok (.lconst q, 1)) (hp : pc + 1 = pc') (K : Go p l e R s m args below meth c Z a0 EL nw Q vm h k n pc' L (.long (Int64.ofNat q) :: st)) : Go p l e R s m args below meth c Z a0 EL nw Q vm h k n pc L st := by
  subst hp
  exact Go.plain (fun T _ hx X _ r => XT.lconst X.here hx rfl hd r) K
theorem Go.aconstNull (hd : decode c.code pc = .ok (.aconst_null, 1)) (hp : pc + 1 = pc') (K : Go p l e R s m args below meth c Z a0 EL nw Q vm h k n pc' L (.null :: st)) : Go p l e R s m args below meth c Z a0 EL nw Q vm h k n pc L st := by
  subst hp
  exact Go.plain (fun T _ hx X _ r => XS.aconstNull X.here hx rfl hd r) K
theorem Go.iadd {x y : Int32} (hd : decode c.code pc = .ok (.iadd, 1)) (hp : pc + 1 = pc') (K : Go p l e R s m args below meth c Z a0 EL nw Q vm h k n pc' L (.int (x + y) :: st)) : Go p l e R s m args below meth c Z a0 EL nw Q vm h k n pc L (.int y :: .int x :: st) := by
  subst hp
  exact Go.plain (fun T _ hx X _ r => XS.iadd X.here hx rfl hd rfl r) K
theorem Go.isub {x y : Int32} (hd : decode c.code pc = .ok (.isub, 1)) (hp : pc + 1 = pc') (K : Go p l e R s m args below meth c Z a0 EL nw Q vm h k n pc' L (.int (x - y) :: st)) : Go p l e R s m args below meth c Z a0 EL nw Q vm h k n pc L (.int y :: .int x :: st) := by
  subst hp
  exact Go.plain (fun T _ hx X _ r => XS.isub X.here hx rfl hd rfl r) K
theorem Go.iand {x y : Int32} (hd : decode c.code pc = .ok (.iand, 1)) (hp : pc + 1 = pc') (K : Go p l e R s m args below meth c Z a0 EL nw Q vm h k n pc' L (.int (x &&& y) :: st)) : Go p l e R s m args below meth c Z a0 EL nw Q vm h k n pc L (.int y :: .int x :: st) := by
  subst hp
  exact Go.plain (fun T _ hx X _ r => XS.iand X.here hx rfl hd rfl r) K
theorem Go.imul {x y : Int32} (hd : decode c.code pc = .ok (.imul, 1)) (hp : pc + 1 = pc') (K : Go p l e R s m args below meth c Z a0 EL nw Q vm h k n pc' L (.int (x * y) :: st)) : Go p l e R s m args below meth c Z a0 EL nw Q vm h k n pc L (.int y :: .int x :: st) := by
  subst hp
  exact Go.plain (fun T _ hx X _ r => XS.imul X.here hx rfl hd rfl r) K
theorem Go.ineg {x : Int32} (hd : decode c.code pc = .ok (.ineg, 1)) (hp : pc + 1 = pc') (K : Go p l e R s m args below meth c Z a0 EL nw Q vm h k n pc' L (.int (-x) :: st)) : Go p l e R s m args below meth c Z a0 EL nw Q vm h k n pc L (.int x :: st) := by
  subst hp
  exact Go.plain (fun T _ hx X _ r => XS.ineg X.here hx rfl hd rfl r) K
theorem Go.idiv {x y : Int32} (hd : decode c.code pc = .ok (.idiv, 1)) (hp : pc + 1 = pc') (hy : y ≠ 0) (K : Go p l e R s m args below meth c Z a0 EL nw Q vm h k n pc' L (.int (x / y) :: st)) : Go p l e R s m args below meth c Z a0 EL nw Q vm h k n pc L (.int y :: .int x :: st) := by
  subst hp
  exact Go.plain (fun T _ hx X _ r => XS.idiv X.here hx rfl hd rfl hy r) K
theorem Go.ixor {x y : Int32} (hd : decode c.code pc = .ok (.ixor, 1)) (hp : pc + 1 = pc') (K : Go p l e R s m args below meth c Z a0 EL nw Q vm h k n pc' L (.int (x ^^^ y) :: st)) : Go p l e R s m args below meth c Z a0 EL nw Q vm h k n pc L (.int y :: .int x :: st) := by
  subst hp
  exact Go.plain (fun T _ hx X _ r => XT.ixor X.here hx rfl hd rfl r) K
theorem Go.ior {x y : Int32} (hd : decode c.code pc = .ok (.ior, 1)) (hp : pc + 1 = pc') (K : Go p l e R s m args below meth c Z a0 EL nw Q vm h k n pc' L (.int (x ||| y) :: st)) : Go p l e R s m args below meth c Z a0 EL nw Q vm h k n pc L (.int y :: .int x :: st) := by
  subst hp
  exact Go.plain (fun T _ hx X _ r => XT.ior X.here hx rfl hd rfl r) K
theorem Go.ishl {x y : Int32} (hd : decode c.code pc = .ok (.ishl, 1)) (hp : pc + 1 = pc') (K : Go p l e R s m args below meth c Z a0 EL nw Q vm h k n pc' L (.int (x <<< (y &&& 31)) :: st)) : Go p l e R s m args below meth c Z a0 EL nw Q vm h k n pc L (.int y :: .int x :: st) := by
  subst hp
  exact Go.plain (fun T _ hx X _ r => XT.ishl X.here hx rfl hd rfl r) K
theorem Go.ishr {x y : Int32} (hd : decode c.code pc = .ok (.ishr, 1)) (hp : pc + 1 = pc') (K : Go p l e R s m args below meth c Z a0 EL nw Q vm h k n pc' L (.int (x >>> (y &&& 31)) :: st)) : Go p l e R s m args below meth c Z a0 EL nw Q vm h k n pc L (.int y :: .int x :: st) := by
  subst hp
  exact Go.plain (fun T _ hx X _ r => XT.ishr X.here hx rfl hd rfl r) K
theorem Go.iushr {x y : Int32} (hd : decode c.code pc = .ok (.iushr, 1)) (hp : pc + 1 = pc') (K : Go p l e R s m args below meth c Z a0 EL nw Q vm h k n pc' L (.int (XT.ushr x y) :: st)) : Go p l e R s m args below meth c Z a0 EL nw Q vm h k n pc L (.int y :: .int x :: st) := by
  subst hp
  exact Go.plain (fun T _ hx X _ r => XT.iushr X.here hx rfl hd rfl r) K
theorem Go.ladd {x y : Int64} (hd : decode c.code pc = .ok (.ladd, 1)) (hp : pc + 1 = pc') (K : Go p l e R s m args below meth c Z a0 EL nw Q vm h k n pc' L (.long (x + y) :: st)) : Go p l e R s m args below meth c Z a0 EL nw Q vm h k n pc L (.long y :: .long x :: st) := by
  subst hp
  exact Go.plain (fun T _ hx X _ r => XT.ladd X.here hx rfl hd rfl r) K
theorem Go.lsub {x y : Int64} (hd : decode c.code pc = .ok (.lsub, 1)) (hp : pc + 1 = pc') (K : Go p l e R s m args below meth c Z a0 EL nw Q vm h k n pc' L (.long (x - y) :: st)) : Go p l e R s m args below meth c Z a0 EL nw Q vm h k n pc L (.long y :: .long x :: st) := by
  subst hp
  exact Go.plain (fun T _ hx X _ r => XT.lsub X.here hx rfl hd rfl r) K
theorem Go.lmul {x y : Int64} (hd : decode c.code pc = .ok (.lmul, 1)) (hp : pc + 1 = pc') (K : Go p l e R s m args below meth c Z a0 EL nw Q vm h k n pc' L (.long (x * y) :: st)) : Go p l e R s m args below meth c Z a0 EL nw Q vm h k n pc L (.long y :: .long x :: st) := by
  subst hp
  exact Go.plain (fun T _ hx X _ r => XT.lmul X.here hx rfl hd rfl r) K
theorem Go.land {x y : Int64} (hd : decode c.code pc = .ok (.land, 1)) (hp : pc + 1 = pc') (K : Go p l e R s m args below meth c Z a0 EL nw Q vm h k n pc' L (.long (x &&& y) :: st)) : Go p l e R s m args below meth c Z a0 EL nw Q vm h k n pc L (.long y :: .long x :: st) := by
  subst hp
  exact Go.plain (fun T _ hx X _ r => XT.land X.here hx rfl hd rfl r) K
theorem Go.lor {x y : Int64} (hd : decode c.code pc = .ok (.lor, 1)) (hp : pc + 1 = pc') (K : Go p l e R s m args below meth c Z a0 EL nw Q vm h k n pc' L (.long (x ||| y) :: st)) : Go p l e R s m args below meth c Z a0 EL nw Q vm h k n pc L (.long y :: .long x :: st) := by
  subst hp
  exact Go.plain (fun T _ hx X _ r => XT.lor X.here hx rfl hd rfl r) K
theorem Go.lxor {x y : Int64} (hd : decode c.code pc = .ok (.lxor, 1)) (hp : pc + 1 = pc') (K : Go p l e R s m args below meth c Z a0 EL nw Q vm h k n pc' L (.long (x ^^^ y) :: st)) : Go p l e R s m args below meth c Z a0 EL nw Q vm h k n pc L (.long y :: .long x :: st) := by
  subst hp
  exact Go.plain (fun T _ hx X _ r => XT.lxor X.here hx rfl hd rfl r) K
theorem Go.lshl {x : Int64} {y : Int32} (hd : decode c.code pc = .ok (.lshl, 1)) (hp : pc + 1 = pc') (K : Go p l e R s m args below meth c Z a0 EL nw Q vm h k n pc' L (.long (x <<< (y.toInt64 &&& 63)) :: st)) : Go p l e R s m args below meth c Z a0 EL nw Q vm h k n pc L (.int y :: .long x :: st) := by
  subst hp
  exact Go.plain (fun T _ hx X _ r => XT.lshl X.here hx rfl hd rfl r) K
theorem Go.lshr {x : Int64} {y : Int32} (hd : decode c.code pc = .ok (.lshr, 1)) (hp : pc + 1 = pc') (K : Go p l e R s m args below meth c Z a0 EL nw Q vm h k n pc' L (.long (x >>> (y.toInt64 &&& 63)) :: st)) : Go p l e R s m args below meth c Z a0 EL nw Q vm h k n pc L (.int y :: .long x :: st) := by
  subst hp
  exact Go.plain (fun T _ hx X _ r => XT.lshr X.here hx rfl hd rfl r) K
theorem Go.lushr {x : Int64} {y : Int32} (hd : decode c.code pc = .ok (.lushr, 1)) (hp : pc + 1 = pc') (K : Go p l e R s m args below meth c Z a0 EL nw Q vm h k n pc' L (.long (XT.ushrL x y) :: st)) : Go p l e R s m args below meth c Z a0 EL nw Q vm h k n pc L (.int y :: .long x :: st) := by
  subst hp
  exact Go.plain (fun T _ hx X _ r => XT.lushr X.here hx rfl hd rfl r) K
theorem Go.ldiv {x y : Int64} (hd : decode c.code pc = .ok (.ldiv, 1)) (hp : pc + 1 = pc') (hy : y ≠ 0) (K : Go p l e R s m args below meth c Z a0 EL nw Q vm h k n pc' L (.long (x / y) :: st)) : Go p l e R s m args below meth c Z a0 EL nw Q vm h k n pc L (.long y :: .long x :: st) := by
  subst hp
  exact Go.plain (fun T _ hx X _ r => XT.ldiv X.here hx rfl hd rfl hy r) K
theorem Go.lrem {x y : Int64} (hd : decode c.code pc = .ok (.lrem, 1)) (hp : pc + 1 = pc') (hy : y ≠ 0) (K : Go p l e R s m args below meth c Z a0 EL nw Q vm h k n pc' L (.long (x - (x / y) * y) :: st)) : Go p l e R s m args below meth c Z a0 EL nw Q vm h k n pc L (.long y :: .long x :: st) := by
  subst hp
  exact Go.plain (fun T _ hx X _ r => XT.lrem X.here hx rfl hd rfl hy r) K
theorem Go.lneg {x : Int64} (hd : decode c.code pc = .ok (.lneg, 1)) (hp : pc + 1 = pc') (K : Go p l e R s m args below meth c Z a0 EL nw Q vm h k n pc' L (.long (-x) :: st)) : Go p l e R s m args below meth c Z a0 EL nw Q vm h k n pc L (.long x :: st) := by
  subst hp
  exact Go.plain (fun T _ hx X _ r => XT.lneg X.here hx rfl hd rfl r) K
theorem Go.i2l {x : Int32} (hd : decode c.code pc = .ok (.i2l, 1)) (hp : pc + 1 = pc') (K : Go p l e R s m args below meth c Z a0 EL nw Q vm h k n pc' L (.long x.toInt64 :: st)) : Go p l e R s m args below meth c Z a0 EL nw Q vm h k n pc L (.int x :: st) := by
  subst hp
  exact Go.plain (fun T _ hx X _ r => XT.i2l X.here hx rfl hd rfl r) K
theorem Go.l2i {x : Int64} (hd : decode c.code pc = .ok (.l2i, 1)) (hp : pc + 1 = pc') (K : Go p l e R s m args below meth c Z a0 EL nw Q vm h k n pc' L (.int x.toInt32 :: st)) : Go p l e R s m args below meth c Z a0 EL nw Q vm h k n pc L (.long x :: st) := by
  subst hp
  exact Go.plain (fun T _ hx X _ r => XT.l2i X.here hx rfl hd rfl r) K
theorem Go.i2b {x : Int32} (hd : decode c.code pc = .ok (.i2b, 1)) (hp : pc + 1 = pc') (K : Go p l e R s m args below meth c Z a0 EL nw Q vm h k n pc' L (.int x.toInt8.toInt32 :: st)) : Go p l e R s m args below meth c Z a0 EL nw Q vm h k n pc L (.int x :: st) := by
  subst hp
  exact Go.plain (fun T _ hx X _ r => XT.i2b X.here hx rfl hd rfl r) K
theorem Go.i2c {x : Int32} (hd : decode c.code pc = .ok (.i2c, 1)) (hp : pc + 1 = pc') (K : Go p l e R s m args below meth c Z a0 EL nw Q vm h k n pc' L (.int (nar .char x) :: st)) : Go p l e R s m args below meth c Z a0 EL nw Q vm h k n pc L (.int x :: st) := by
  subst hp
  exact Go.plain (fun T _ hx X _ r => XT.i2c X.here hx rfl hd rfl r) K
theorem Go.i2s {x : Int32} (hd : decode c.code pc = .ok (.i2s, 1)) (hp : pc + 1 = pc') (K : Go p l e R s m args below meth c Z a0 EL nw Q vm h k n pc' L (.int x.toInt16.toInt32 :: st)) : Go p l e R s m args below meth c Z a0 EL nw Q vm h k n pc L (.int x :: st) := by
  subst hp
  exact Go.plain (fun T _ hx X _ r => XT.i2s X.here hx rfl hd rfl r) K
theorem Go.lcmp {x y : Int64} (hd : decode c.code pc = .ok (.lcmp, 1)) (hp : pc + 1 = pc') (K : Go p l e R s m args below meth c Z a0 EL nw Q vm h k n pc' L (.int (XT.cmpL x y) :: st)) : Go p l e R s m args below meth c Z a0 EL nw Q vm h k n pc L (.long y :: .long x :: st) := by
  subst hp
  exact Go.plain (fun T _ hx X _ r => XT.lcmp X.here hx rfl hd rfl r) K
theorem Go.dup {v : Value} (hd : decode c.code pc = .ok (.dup, 1)) (hp : pc + 1 = pc') (hc : v.category = 1) (K : Go p l e R s m args below meth c Z a0 EL nw Q vm h k n pc' L (v :: v :: st)) : Go p l e R s m args below meth c Z a0 EL nw Q vm h k n pc L (v :: st) := by
  subst hp
  exact Go.plain (fun T _ hx X _ r => XS.dup X.here hx rfl hd rfl hc r) K
theorem Go.pop {v : Value} (hd : decode c.code pc = .ok (.pop, 1)) (hp : pc + 1 = pc') (hc : v.category = 1) (K : Go p l e R s m args below meth c Z a0 EL nw Q vm h k n pc' L st) : Go p l e R s m args below meth c Z a0 EL nw Q vm h k n pc L (v :: st) := by
  subst hp
  exact Go.plain (fun T _ hx X _ r => XT.pop X.here hx rfl hd rfl hc r) K
theorem Go.dupX1 {v w : Value} (hd : decode c.code pc = .ok (.dup_x1, 1)) (hp : pc + 1 = pc') (hc : v.category = 1) (hc' : w.category = 1) (K : Go p l e R s m args below meth c Z a0 EL nw Q vm h k n pc' L (v :: w :: v :: st)) : Go p l e R s m args below meth c Z a0 EL nw Q vm h k n pc L (v :: w :: st) := by
  subst hp
  exact Go.plain (fun T _ hx X _ r => XT.dupX1 X.here hx rfl hd rfl hc hc' r) K
theorem Go.dup2 {v w : Value} (hd : decode c.code pc = .ok (.dup2, 1)) (hp : pc + 1 = pc') (hc : v.category = 1) (hc' : w.category = 1) (K : Go p l e R s m args below meth c Z a0 EL nw Q vm h k n pc' L (v :: w :: v :: w :: st)) : Go p l e R s m args below meth c Z a0 EL nw Q vm h k n pc L (v :: w :: st) := by
  subst hp
  exact Go.plain (fun T _ hx X _ r => XT.dup2 X.here hx rfl hd rfl hc hc' r) K
theorem Go.istoreN {q : Fin 4} {z : Int32} {L' : Array Slot} (hd : decode c.code pc = .ok (.istore_n q, 1)) (hp : pc + 1 = pc') (hl : storeLocals L q.val (.int z) = some L') (K : Go p l e R s m args below meth c Z a0 EL nw Q vm h k n pc' L' st) : Go p l e R s m args below meth c Z a0 EL nw Q vm h k n pc L (.int z :: st) := by
  subst hp
  exact Go.plain (fun T _ hx X _ r => XS.istoreN X.here hx rfl hd rfl hl r) K
theorem Go.istore {q : Nat} {z : Int32} {L' : Array Slot} (hd : decode c.code pc = .ok (.istore q, 2)) (hp : pc + 2 = pc') (hl : storeLocals L q (.int z) = some L') (K : Go p l e R s m args below meth c Z a0 EL nw Q vm h k n pc' L' st) : Go p l e R s m args below meth c Z a0 EL nw Q vm h k n pc L (.int z :: st) := by
  subst hp
  exact Go.plain (fun T _ hx X _ r => XS.istore X.here hx rfl hd rfl hl r) K
theorem Go.lstoreN {q : Fin 4} {z : Int64} {L' : Array Slot} (hd : decode c.code pc = .ok (.lstore_n q, 1)) (hp : pc + 1 = pc') (hl : storeLocals L q.val (.long z) = some L') (K : Go p l e R s m args below meth c Z a0 EL nw Q vm h k n pc' L' st) : Go p l e R s m args below meth c Z a0 EL nw Q vm h k n pc L (.long z :: st) := by
  subst hp
  exact Go.plain (fun T _ hx X _ r => XT.lstoreN X.here hx rfl hd rfl hl r) K
theorem Go.lstore {q : Nat} {z : Int64} {L' : Array Slot} (hd : decode c.code pc = .ok (.lstore q, 2)) (hp : pc + 2 = pc') (hl : storeLocals L q (.long z) = some L') (K : Go p l e R s m args below meth c Z a0 EL nw Q vm h k n pc' L' st) : Go p l e R s m args below meth c Z a0 EL nw Q vm h k n pc L (.long z :: st) := by
  subst hp
  exact Go.plain (fun T _ hx X _ r => XT.lstore X.here hx rfl hd rfl hl r) K
theorem Go.astoreN {q : Fin 4} {v : Value} {L' : Array Slot} (hd : decode c.code pc = .ok (.astore_n q, 1)) (hp : pc + 1 = pc') (hv : v.isRef = true) (hl : storeLocals L q.val v = some L') (K : Go p l e R s m args below meth c Z a0 EL nw Q vm h k n pc' L' st) : Go p l e R s m args below meth c Z a0 EL nw Q vm h k n pc L (v :: st) := by
  subst hp
  exact Go.plain (fun T _ hx X _ r => XS.astoreN X.here hx rfl hd rfl hv hl r) K
theorem Go.astore {q : Nat} {v : Value} {L' : Array Slot} (hd : decode c.code pc = .ok (.astore q, 2)) (hp : pc + 2 = pc') (hv : v.isRef = true) (hl : storeLocals L q v = some L') (K : Go p l e R s m args below meth c Z a0 EL nw Q vm h k n pc' L' st) : Go p l e R s m args below meth c Z a0 EL nw Q vm h k n pc L (v :: st) := by
  subst hp
  exact Go.plain (fun T _ hx X _ r => XS.astore X.here hx rfl hd rfl hv hl r) K
theorem Go.iinc {q : Nat} {i : Int} {x : Int32} {L' : Array Slot} (hd : decode c.code pc = .ok (.iinc q i, 3)) (hp : pc + 3 = pc') (hl : L[q]? = some (.val (.int x))) (hl' : storeLocals L q (.int (x + Int32.ofInt i)) = some L') (K : Go p l e R s m args below meth c Z a0 EL nw Q vm h k n pc' L' st) : Go p l e R s m args below meth c Z a0 EL nw Q vm h k n pc L st := by
  subst hp
  exact Go.plain (fun T _ hx X _ r => XS.iinc X.here hx rfl hd hl hl' r) K
theorem Go.irem {x y : Int32} (hd : decode c.code pc = .ok (.irem, 1)) (hp : pc + 1 = pc') (hy : y ≠ 0) (K : Go p l e R s m args below meth c Z a0 EL nw Q vm h k n pc' L (.int (x % y) :: st)) : Go p l e R s m args below meth c Z a0 EL nw Q vm h k n pc L (.int y :: .int x :: st) := by
  subst hp
  exact Go.plain (fun T _ hx X _ r => iremM X hx (g := mkF m pc L (.int y :: .int x :: st)) rfl hd rfl hy r) K
theorem Go.goto {o : Int} (hd : decode c.code pc = .ok (.goto o, 3)) (ho : 0 ≤ (pc : Int) + o) (hp : ((pc : Int) + o).toNat = pc') (K : Go p l e R s m args below meth c Z a0 EL nw Q vm h k n pc' L st) : Go p l e R s m args below meth c Z a0 EL nw Q vm h k n pc L st :=
  Go.plain (fun T _ hx X _ r => XS.goto X.here hx rfl rfl hd ho hp r) K
/-- what a comparison of ints asks -/
def cP : ClassFile.Cond → Int32 → Int32 → Prop
  | .eq, x, y => x = y
  | .ne, x, y => ¬ x = y
  | .lt, x, y => x < y
  | .ge, x, y => ¬ x < y
  | .gt, x, y => y < x
  | .le, x, y => ¬ y < x
theorem cP_t {cd : ClassFile.Cond} {x y : Int32} (q : cP cd x y) : if_icmp.holds cd x y = true := by
  cases cd
  · exact (teq q).1
  · exact (feq q).2
  · exact (tlt q).1
  · exact (flt q).2.1
  · exact (tlt q).2.2.1
  · exact (flt q).2.2.2
theorem cP_f {cd : ClassFile.Cond} {x y : Int32} (q : ¬ cP cd x y) : if_icmp.holds cd x y = false := by
  cases cd
  · exact (feq q).1
  · exact (teq (Classical.not_not.mp q)).2
  · exact (flt q).1
  · exact (tlt (Classical.not_not.mp q)).2.1
  · exact (flt q).2.2.1
  · exact (tlt (Classical.not_not.mp q)).2.2.2
theorem Go.icmp {cd : ClassFile.Cond} {x y : Int32} {o : Int} {pc2 : Nat} (hd : decode c.code pc = .ok (.if_icmp cd o, 3)) (ho : 0 ≤ (pc : Int) + o) (hp : ((pc : Int) + o).toNat = pc') (hp2 : pc + 3 = pc2) (Kt : cP cd x y → Go p l e R s m args below meth c Z a0 EL nw Q vm h k n pc' L st) (Kf : ¬ cP cd x y → Go p l e R s m args below meth c Z a0 EL nw Q vm h k n pc2 L st) : Go p l e R s m args below meth c Z a0 EL nw Q vm h k n pc L (.int y :: .int x :: st) := by
  subst hp2
  by_cases q : cP cd x y
  · exact Go.plain (fun T _ hx X _ r => XS.icmpYes X.here hx rfl rfl hd rfl (cP_t q) ho hp r) (Kt q)
  · exact Go.plain (fun T _ hx X _ r => XS.icmpNo X.here hx rfl hd rfl (cP_f q) r) (Kf q)
theorem Go.icmpY {cd : ClassFile.Cond} {x y : Int32} {o : Int} (hd : decode c.code pc = .ok (.if_icmp cd o, 3)) (ho : 0 ≤ (pc : Int) + o) (hp : ((pc : Int) + o).toNat = pc') (q : cP cd x y) (K : Go p l e R s m args below meth c Z a0 EL nw Q vm h k n pc' L st) : Go p l e R s m args below meth c Z a0 EL nw Q vm h k n pc L (.int y :: .int x :: st) :=
  Go.plain (fun T _ hx X _ r => XS.icmpYes X.here hx rfl rfl hd rfl (cP_t q) ho hp r) K
theorem Go.icmpN {cd : ClassFile.Cond} {x y : Int32} {o : Int} (hd : decode c.code pc = .ok (.if_icmp cd o, 3)) (hp : pc + 3 = pc') (q : ¬ cP cd x y) (K : Go p l e R s m args below meth c Z a0 EL nw Q vm h k n pc' L st) : Go p l e R s m args below meth c Z a0 EL nw Q vm h k n pc L (.int y :: .int x :: st) := by
  subst hp
  exact Go.plain (fun T _ hx X _ r => XS.icmpNo X.here hx rfl hd rfl (cP_f q) r) K
theorem Go.ifc {cd : ClassFile.Cond} {x : Int32} {o : Int} {pc2 : Nat} (hd : decode c.code pc = .ok (.ifCond cd o, 3)) (ho : 0 ≤ (pc : Int) + o) (hp : ((pc : Int) + o).toNat = pc') (hp2 : pc + 3 = pc2) (Kt : cP cd x 0 → Go p l e R s m args below meth c Z a0 EL nw Q vm h k n pc' L st) (Kf : ¬ cP cd x 0 → Go p l e R s m args below meth c Z a0 EL nw Q vm h k n pc2 L st) : Go p l e R s m args below meth c Z a0 EL nw Q vm h k n pc L (.int x :: st) := by
  subst hp2
  by_cases q : cP cd x 0
  · exact Go.plain (fun T _ hx X _ r => XS.ifYes X.here hx rfl rfl hd rfl ((if0 cd x).trans (cP_t q)) ho hp r) (Kt q)
  · exact Go.plain (fun T _ hx X _ r => XS.ifNo X.here hx rfl hd rfl ((if0 cd x).trans (cP_f q)) r) (Kf q)
theorem Go.ifY {cd : ClassFile.Cond} {x : Int32} {o : Int} (hd : decode c.code pc = .ok (.ifCond cd o, 3)) (ho : 0 ≤ (pc : Int) + o) (hp : ((pc : Int) + o).toNat = pc') (q : cP cd x 0) (K : Go p l e R s m args below meth c Z a0 EL nw Q vm h k n pc' L st) : Go p l e R s m args below meth c Z a0 EL nw Q vm h k n pc L (.int x :: st) :=
  Go.plain (fun T _ hx X _ r => XS.ifYes X.here hx rfl rfl hd rfl ((if0 cd x).trans (cP_t q)) ho hp r) K
theorem Go.ifN {cd : ClassFile.Cond} {x : Int32} {o : Int} (hd : decode c.code pc = .ok (.ifCond cd o, 3)) (hp : pc + 3 = pc') (q : ¬ cP cd x 0) (K : Go p l e R s m args below meth c Z a0 EL nw Q vm h k n pc' L st) : Go p l e R s m args below meth c Z a0 EL nw Q vm h k n pc L (.int x :: st) := by
  subst hp
  exact Go.plain (fun T _ hx X _ r => XS.ifNo X.here hx rfl hd rfl ((if0 cd x).trans (cP_f q)) r) K
theorem Go.ifnullY {o : Int} (hd : decode c.code pc = .ok (.ifnull o, 3)) (ho : 0 ≤ (pc : Int) + o) (hp : ((pc : Int) + o).toNat = pc') (K : Go p l e R s m args below meth c Z a0 EL nw Q vm h k n pc' L st) : Go p l e R s m args below meth c Z a0 EL nw Q vm h k n pc L (.null :: st) :=
  Go.plain (fun T _ hx X _ r => XS.ifnullYes X.here hx rfl rfl hd rfl ho hp r) K
theorem Go.ifnullN {o : Int} {b : Addr} (hd : decode c.code pc = .ok (.ifnull o, 3)) (hp : pc + 3 = pc') (K : Go p l e R s m args below meth c Z a0 EL nw Q vm h k n pc' L st) : Go p l e R s m args below meth c Z a0 EL nw Q vm h k n pc L (.ref b :: st) := by
  subst hp
  exact Go.plain (fun T _ hx X _ r => XS.ifnullNo X.here hx rfl hd rfl r) K
theorem Go.ifnonnullY {o : Int} {b : Addr} (hd : decode c.code pc = .ok (.ifnonnull o, 3)) (ho : 0 ≤ (pc : Int) + o) (hp : ((pc : Int) + o).toNat = pc') (K : Go p l e R s m args below meth c Z a0 EL nw Q vm h k n pc' L st) : Go p l e R s m args below meth c Z a0 EL nw Q vm h k n pc L (.ref b :: st) :=
  Go.plain (fun T _ hx X _ r => XT.ifnonnullYes X.here hx rfl rfl hd rfl ho hp r) K
theorem Go.ifnonnullN {o : Int} (hd : decode c.code pc = .ok (.ifnonnull o, 3)) (hp : pc + 3 = pc') (K : Go p l e R s m args below meth c Z a0 EL nw Q vm h k n pc' L st) : Go p l e R s m args below meth c Z a0 EL nw Q vm h k n pc L (.null :: st) := by
  subst hp
  exact Go.plain (fun T _ hx X _ r => XT.ifnonnullNo X.here hx rfl hd rfl r) K
theorem Go.acmpY {cd : ClassFile.ACond} {x y : Value} {o : Int} (hd : decode c.code pc = .ok (.if_acmp cd o, 3)) (ho : 0 ≤ (pc : Int) + o) (hp : ((pc : Int) + o).toNat = pc') (h1 : x.isRef = true) (h2 : y.isRef = true) (q : XT.acmp cd x y = true) (K : Go p l e R s m args below meth c Z a0 EL nw Q vm h k n pc' L st) : Go p l e R s m args below meth c Z a0 EL nw Q vm h k n pc L (y :: x :: st) :=
  Go.plain (fun T _ hx X _ r => XT.acmpYes X.here hx rfl rfl hd rfl h1 h2 q ho hp r) K
theorem Go.acmpN {cd : ClassFile.ACond} {x y : Value} {o : Int} (hd : decode c.code pc = .ok (.if_acmp cd o, 3)) (hp : pc + 3 = pc') (h1 : x.isRef = true) (h2 : y.isRef = true) (q : XT.acmp cd x y = false) (K : Go p l e R s m args below meth c Z a0 EL nw Q vm h k n pc' L st) : Go p l e R s m args below meth c Z a0 EL nw Q vm h k n pc L (y :: x :: st) := by
  subst hp
  exact Go.plain (fun T _ hx X _ r => XT.acmpNo X.here hx rfl hd rfl h1 h2 q r) K
theorem Go.getF {own R0 O nm d : String} {index : Nat} {a : Addr} {v : Value} (hown : Z.vm.findClass own = some m.cls) (w : (Jvm.Cond.fieldLink own index R0 nm d).before a0 Z = true) (via : Via Z R0 O nm d) (F : Fld Z h a O nm d v) (hd : decode c.code pc = .ok (.getfield index, 3)) (hp : pc + 3 = pc') (K : Go p l e R s m args below meth c Z a0 EL nw Q vm h k n pc' L (v :: st)) : Go p l e R s m args below meth c Z a0 EL nw Q vm h k n pc L (.ref a :: st) := fun T locs k0 hx hk hE X eT hS hk0 hF hZ hN hC hO => by
  subst hp
  have hown' : (s.setVm vm).vm.findClass own = some m.cls := by
    show vm.findClass own = _
    rw [hZ.alike.findClass]; exact hown
  obtain ⟨T', X', e', st'⟩ := RoadKit.getF X hx (s := s.setVm vm) hZ hown' (host := "") (Or.inl w) via eT F (g := mkF m pc L (.ref a :: st)) rfl rfl hd
  obtain ⟨t, v, L', r1, r2⟩ := K T' locs k0 hx hk hE X' e' hS hk0 hF hZ hN hC hO
  exact ⟨t, v, L', st' _ r1, r2⟩
theorem Go.getFN {own R0 O nm d host : String} {index : Nat} {a : Addr} {v : Value} (hown : Z.vm.findClass own = some m.cls) (w : (Jvm.Cond.fieldLinkNest own index R0 nm d host).before a0 Z = true) (via : Via Z R0 O nm d) (F : Fld Z h a O nm d v) (hd : decode c.code pc = .ok (.getfield index, 3)) (hp : pc + 3 = pc') (K : Go p l e R s m args below meth c Z a0 EL nw Q vm h k n pc' L (v :: st)) : Go p l e R s m args below meth c Z a0 EL nw Q vm h k n pc L (.ref a :: st) := fun T locs k0 hx hk hE X eT hS hk0 hF hZ hN hC hO => by
  subst hp
  have hown' : (s.setVm vm).vm.findClass own = some m.cls := by
    show vm.findClass own = _
    rw [hZ.alike.findClass]; exact hown
  obtain ⟨T', X', e', st'⟩ := RoadKit.getF X hx (s := s.setVm vm) hZ hown' (Or.inr w) via eT F (g := mkF m pc L (.ref a :: st)) rfl rfl hd
  obtain ⟨t, v, L', r1, r2⟩ := K T' locs k0 hx hk hE X' e' hS hk0 hF hZ hN hC hO
  exact ⟨t, v, L', st' _ r1, r2⟩
theorem Go.getS {own R0 O nm d : String} {index : Nat} {v : Value} (hown : Z.vm.findClass own = some m.cls) (w : (Jvm.Cond.fieldLink own index R0 nm d).before a0 Z = true) (via : Via Z R0 O nm d) (F : Sta Z Z.heap O nm d v) (hd : decode c.code pc = .ok (.getstatic index, 3)) (hp : pc + 3 = pc') (K : Go p l e R s m args below meth c Z a0 EL nw Q vm h k n pc' L (v :: st)) : Go p l e R s m args below meth c Z a0 EL nw Q vm h k n pc L st := fun T locs k0 hx hk hE X eT hS hk0 hF hZ hN hC hO => by
  subst hp
  have hown' : (s.setVm vm).vm.findClass own = some m.cls := by
    show vm.findClass own = _
    rw [hZ.alike.findClass]; exact hown
  obtain ⟨T', X', e', st'⟩ := RoadKit.getS X hx (s := s.setVm vm) hZ (host := "") hown' w via eT (F.ext hO) (g := mkF m pc L st) rfl hd
  obtain ⟨t, v, L', r1, r2⟩ := K T' locs k0 hx hk hE X' e' hS hk0 hF hZ hN hC hO
  exact ⟨t, v, L', st' _ r1, r2⟩
theorem Go.getSN {own R0 O nm d host : String} {index : Nat} {v : Value} (hown : Z.vm.findClass own = some m.cls) (w : (Jvm.Cond.fieldLinkNest own index R0 nm d host).before a0 Z = true) (via : Via Z R0 O nm d) (F : Sta Z Z.heap O nm d v) (hd : decode c.code pc = .ok (.getstatic index, 3)) (hp : pc + 3 = pc') (K : Go p l e R s m args below meth c Z a0 EL nw Q vm h k n pc' L (v :: st)) : Go p l e R s m args below meth c Z a0 EL nw Q vm h k n pc L st := fun T locs k0 hx hk hE X eT hS hk0 hF hZ hN hC hO => by
  subst hp
  have hown' : (s.setVm vm).vm.findClass own = some m.cls := by
    show vm.findClass own = _
    rw [hZ.alike.findClass]; exact hown
  obtain ⟨T', X', e', st'⟩ := RoadKit.getS2 X hx (s := s.setVm vm) hZ hown' (Or.inr w) via eT (F.ext hO) (g := mkF m pc L st) rfl hd
  obtain ⟨t, v, L', r1, r2⟩ := K T' locs k0 hx hk hE X' e' hS hk0 hF hZ hN hC hO
  exact ⟨t, v, L', st' _ r1, r2⟩
theorem Go.castY {own K0 : String} {index : Nat} {a : Addr} (hown : Z.vm.findClass own = some m.cls) (w : (Jvm.Cond.classLink own index K0).before a0 Z = true) (F : Ins Z h a K0 true) (hd : decode c.code pc = .ok (.checkcast index, 3)) (hp : pc + 3 = pc') (K : Go p l e R s m args below meth c Z a0 EL nw Q vm h k n pc' L (.ref a :: st)) : Go p l e R s m args below meth c Z a0 EL nw Q vm h k n pc L (.ref a :: st) := fun T locs k0 hx hk hE X eT hS hk0 hF hZ hN hC hO => by
  subst hp
  have hown' : (s.setVm vm).vm.findClass own = some m.cls := by
    show vm.findClass own = _
    rw [hZ.alike.findClass]; exact hown
  obtain ⟨T', X', e', st'⟩ := RoadKit.castY X hx (s := s.setVm vm) hZ hown' w eT F (g := mkF m pc L (.ref a :: st)) rfl rfl hd
  obtain ⟨t, v, L', r1, r2⟩ := K T' locs k0 hx hk hE X' e' hS hk0 hF hZ hN hC hO
  exact ⟨t, v, L', st' _ r1, r2⟩
theorem Go.instY {own K0 : String} {index : Nat} {a : Addr} (hown : Z.vm.findClass own = some m.cls) (w : (Jvm.Cond.classLink own index K0).before a0 Z = true) (F : Ins Z h a K0 true) (hd : decode c.code pc = .ok (.instanceof index, 3)) (hp : pc + 3 = pc') (K : Go p l e R s m args below meth c Z a0 EL nw Q vm h k n pc' L (.int 1 :: st)) : Go p l e R s m args below meth c Z a0 EL nw Q vm h k n pc L (.ref a :: st) := fun T locs k0 hx hk hE X eT hS hk0 hF hZ hN hC hO => by
  subst hp
  have hown' : (s.setVm vm).vm.findClass own = some m.cls := by
    show vm.findClass own = _
    rw [hZ.alike.findClass]; exact hown
  obtain ⟨T', X', e', st'⟩ := RoadKit.instY X hx (s := s.setVm vm) hZ hown' w eT F (g := mkF m pc L (.ref a :: st)) rfl rfl hd
  obtain ⟨t, v, L', r1, r2⟩ := K T' locs k0 hx hk hE X' e' hS hk0 hF hZ hN hC hO
  exact ⟨t, v, L', st' _ r1, r2⟩
theorem Go.instNo {own K0 C : String} {index : Nat} {a : Addr} (hown : Z.vm.findClass own = some m.cls) (w : (Jvm.Cond.classLink own index K0).before a0 Z = true) (E : Exa Z h a C) (F : ∃ c t, Z.vm.findClass C = some c ∧ Z.vm.findClass K0 = some t ∧ Z.vm.assignable c t = false) (hd : decode c.code pc = .ok (.instanceof index, 3)) (hp : pc + 3 = pc') (K : Go p l e R s m args below meth c Z a0 EL nw Q vm h k n pc' L (.int 0 :: st)) : Go p l e R s m args below meth c Z a0 EL nw Q vm h k n pc L (.ref a :: st) := fun T locs k0 hx hk hE X eT hS hk0 hF hZ hN hC hO => by
  subst hp
  have hown' : (s.setVm vm).vm.findClass own = some m.cls := by
    show vm.findClass own = _
    rw [hZ.alike.findClass]; exact hown
  obtain ⟨T', X', e', st'⟩ := RoadKit.instNo X hx (s := s.setVm vm) hZ hown' w eT E F (g := mkF m pc L (.ref a :: st)) rfl rfl hd
  obtain ⟨t, v, L', r1, r2⟩ := K T' locs k0 hx hk hE X' e' hS hk0 hF hZ hN hC hO
  exact ⟨t, v, L', st' _ r1, r2⟩
theorem Go.initO {own : String} {index W : Nat} {a : Addr} (hown : Z.vm.findClass own = some m.cls) (w1 : (Jvm.Cond.methodLink own index Lib.objectInit).before a0 Z = true) (w2 : (Jvm.Cond.instanceMethod Lib.objectInit).before a0 Z = true) (w3 : (Jvm.Cond.code Lib.objectInit ⟨#[0xb1]⟩ 1 none).before a0 Z = true) (hL : L.size = c.maxLocals) (hd : decode c.code pc = .ok (.invokespecial index, 3)) (hf : 1 ≤ R.frames) (hW : (st.map fun v => v.category).sum = W) (hl : W + 12 ≤ R.locals) (hp : pc + 3 = pc') (K : Go p l e R s m args below meth c Z a0 EL nw Q vm h k n pc' L st) : Go p l e R s m args below meth c Z a0 EL nw Q vm h k n pc L (.ref a :: st) := fun T locs k0 hx hk hE X eT hS hk0 hF hZ hN hC hO => by
  subst hp
  have hown' : (s.setVm vm).vm.findClass own = some m.cls := by
    show vm.findClass own = _
    rw [hZ.alike.findClass]; exact hown
  obtain ⟨T', X', e', st'⟩ := RoadKit.initO X hx (s := s.setVm vm) hZ hown' w1 w2 w3 eT (g := mkF m pc L (.ref a :: st)) rfl hL rfl hd hf (W := W) (by show 2 * 0 + _ ≤ _; rw [Nat.mul_zero, Nat.zero_add]; exact Nat.le_of_eq hW) hl
  obtain ⟨t, v, L', r1, r2⟩ := K T' locs k0 hx hk hE X' e' hS hk0 hF hZ hN hC hO
  exact ⟨t, v, L', st' _ r1, r2⟩
theorem Go.ldcInt {own : String} {index : Nat} {z : Int32} (hown : Z.vm.findClass own = some m.cls) (w : (Jvm.Cond.constant own index z).before a0 Z = true) (hd : decode c.code pc = .ok (.ldc index, 2)) (hp : pc + 2 = pc') (K : Go p l e R s m args below meth c Z a0 EL nw Q vm h k n pc' L (.int z :: st)) : Go p l e R s m args below meth c Z a0 EL nw Q vm h k n pc L st := fun T locs k0 hx hk hE X eT hS hk0 hF hZ hN hC hO => by
  subst hp
  have hown' : (s.setVm vm).vm.findClass own = some m.cls := by
    show vm.findClass own = _
    rw [hZ.alike.findClass]; exact hown
  obtain ⟨t, v, L', r1, r2⟩ := K T locs k0 hx hk hE X eT hS hk0 hF hZ hN hC hO
  exact ⟨t, v, L', X.ldcInt hx hown' (mv (s := s.setVm vm) hZ w) (g := mkF m pc L st) rfl hd _ r1, r2⟩
theorem Go.ldc2Long {own : String} {index : Nat} {z : Int64} (hown : Z.vm.findClass own = some m.cls) (w : (Jvm.Cond.constantLong own index z).before a0 Z = true) (hd : decode c.code pc = .ok (.ldc2_w index, 3)) (hp : pc + 3 = pc') (K : Go p l e R s m args below meth c Z a0 EL nw Q vm h k n pc' L (.long z :: st)) : Go p l e R s m args below meth c Z a0 EL nw Q vm h k n pc L st := fun T locs k0 hx hk hE X eT hS hk0 hF hZ hN hC hO => by
  subst hp
  have hown' : (s.setVm vm).vm.findClass own = some m.cls := by
    show vm.findClass own = _
    rw [hZ.alike.findClass]; exact hown
  obtain ⟨t, v, L', r1, r2⟩ := K T locs k0 hx hk hE X eT hS hk0 hF hZ hN hC hO
  exact ⟨t, v, L', X.ldc2Long hx hown' (mv (s := s.setVm vm) hZ w) (g := mkF m pc L st) rfl hd _ r1, r2⟩
theorem Go.alen {a : Addr} {kA : ClassId} {ty : FieldType} {vs : List Value} {z : Int32} (A : Ar Z h a kA ty vs) (hz : vs.length.toInt32 = z) (hd : decode c.code pc = .ok (.arraylength, 1)) (hp : pc + 1 = pc') (K : Go p l e R s m args below meth c Z a0 EL nw Q vm h k n pc' L (.int z :: st)) : Go p l e R s m args below meth c Z a0 EL nw Q vm h k n pc L (.ref a :: st) := fun T locs k0 hx hk hE X eT hS hk0 hF hZ hN hC hO => by
  subst hp
  obtain ⟨t, v, L', r1, r2⟩ := K T locs k0 hx hk hE X eT hS hk0 hF hZ hN hC hO
  obtain ⟨cl, A, -, rfl⟩ := A
  refine ⟨t, v, L', X.arraylength hx (cell := cl) (by rw [eT]; exact A.1) (State.isArrayOf_alike (s := Z) (T := s.setVm vm) hZ.alike A.2.1) (g := mkF m pc L (.ref a :: st)) rfl rfl hd _ ?_, r2⟩
  have q : cl.slots.size.toInt32 = z := by rw [← hz]; simp
  rw [q]; exact r1
theorem Go.caload {a : Addr} {kA : ClassId} {vs : List Value} {j : Int32} {v : Value} (A : Ar Z h a kA .char vs) (hj : ¬ j < 0) (hv : vs[j.toNatClampNeg]? = some v) (hd : decode c.code pc = .ok (.caload, 1)) (hp : pc + 1 = pc') (K : Go p l e R s m args below meth c Z a0 EL nw Q vm h k n pc' L (v :: st)) : Go p l e R s m args below meth c Z a0 EL nw Q vm h k n pc L (.int j :: .ref a :: st) := fun T locs k0 hx hk hE X eT hS hk0 hF hZ hN hC hO => by
  subst hp
  obtain ⟨t, v', L', r1, r2⟩ := K T locs k0 hx hk hE X eT hS hk0 hF hZ hN hC hO
  obtain ⟨cl, A, -, rfl⟩ := A
  rw [Array.getElem?_toList] at hv
  exact ⟨t, v', L', X.caload hx (cell := cl) (by rw [eT]; exact A.1) (State.isArrayOf_alike (s := Z) (T := s.setVm vm) hZ.alike A.2.1) A.2.2 (fun q => q.elim hj fun q => absurd (Array.getElem?_eq_some_iff.mp hv).1 (Nat.not_lt.mpr q)) hv (g := mkF m pc L (.int j :: .ref a :: st)) rfl rfl hd _ r1, r2⟩
theorem Go.baload {a : Addr} {kA : ClassId} {vs : List Value} {j : Int32} {v : Value} (A : Ar Z h a kA .byte vs) (hj : ¬ j < 0) (hv : vs[j.toNatClampNeg]? = some v) (hd : decode c.code pc = .ok (.baload, 1)) (hp : pc + 1 = pc') (K : Go p l e R s m args below meth c Z a0 EL nw Q vm h k n pc' L (v :: st)) : Go p l e R s m args below meth c Z a0 EL nw Q vm h k n pc L (.int j :: .ref a :: st) := fun T locs k0 hx hk hE X eT hS hk0 hF hZ hN hC hO => by
  subst hp
  obtain ⟨t, v', L', r1, r2⟩ := K T locs k0 hx hk hE X eT hS hk0 hF hZ hN hC hO
  obtain ⟨cl, A, -, rfl⟩ := A
  rw [Array.getElem?_toList] at hv
  exact ⟨t, v', L', X.baloadBytes hx (cell := cl) (by rw [eT]; exact A.1) (State.isArrayOf_alike (s := Z) (T := s.setVm vm) hZ.alike A.2.1) A.2.2 (fun q => q.elim hj fun q => absurd (Array.getElem?_eq_some_iff.mp hv).1 (Nat.not_lt.mpr q)) hv (g := mkF m pc L (.int j :: .ref a :: st)) rfl rfl hd _ r1, r2⟩
theorem Go.iaload {a : Addr} {kA : ClassId} {vs : List Value} {j : Int32} {v : Value} (A : Ar Z h a kA .int vs) (hj : ¬ j < 0) (hv : vs[j.toNatClampNeg]? = some v) (hd : decode c.code pc = .ok (.iaload, 1)) (hp : pc + 1 = pc') (K : Go p l e R s m args below meth c Z a0 EL nw Q vm h k n pc' L (v :: st)) : Go p l e R s m args below meth c Z a0 EL nw Q vm h k n pc L (.int j :: .ref a :: st) := fun T locs k0 hx hk hE X eT hS hk0 hF hZ hN hC hO => by
  subst hp
  obtain ⟨t, v', L', r1, r2⟩ := K T locs k0 hx hk hE X eT hS hk0 hF hZ hN hC hO
  obtain ⟨cl, A, -, rfl⟩ := A
  rw [Array.getElem?_toList] at hv
  exact ⟨t, v', L', X.iaload hx (cell := cl) (by rw [eT]; exact A.1) (State.isArrayOf_alike (s := Z) (T := s.setVm vm) hZ.alike A.2.1) A.2.2 (fun q => q.elim hj fun q => absurd (Array.getElem?_eq_some_iff.mp hv).1 (Nat.not_lt.mpr q)) hv (g := mkF m pc L (.int j :: .ref a :: st)) rfl rfl hd _ r1, r2⟩
theorem Go.laload {a : Addr} {kA : ClassId} {vs : List Value} {j : Int32} {v : Value} (A : Ar Z h a kA .long vs) (hj : ¬ j < 0) (hv : vs[j.toNatClampNeg]? = some v) (hd : decode c.code pc = .ok (.laload, 1)) (hp : pc + 1 = pc') (K : Go p l e R s m args below meth c Z a0 EL nw Q vm h k n pc' L (v :: st)) : Go p l e R s m args below meth c Z a0 EL nw Q vm h k n pc L (.int j :: .ref a :: st) := fun T locs k0 hx hk hE X eT hS hk0 hF hZ hN hC hO => by
  subst hp
  obtain ⟨t, v', L', r1, r2⟩ := K T locs k0 hx hk hE X eT hS hk0 hF hZ hN hC hO
  obtain ⟨cl, A, -, rfl⟩ := A
  rw [Array.getElem?_toList] at hv
  exact ⟨t, v', L', X.laload hx (cell := cl) (by rw [eT]; exact A.1) (State.isArrayOf_alike (s := Z) (T := s.setVm vm) hZ.alike A.2.1) A.2.2 (fun q => q.elim hj fun q => absurd (Array.getElem?_eq_some_iff.mp hv).1 (Nat.not_lt.mpr q)) hv (g := mkF m pc L (.int j :: .ref a :: st)) rfl rfl hd _ r1, r2⟩
theorem Go.aaload {a : Addr} {kA : ClassId} {ty : FieldType} {vs : List Value} {j : Int32} {v : Value} (A : Ar Z h a kA ty vs) (hty : ty.isReference = true) (hj : ¬ j < 0) (hv : vs[j.toNatClampNeg]? = some v) (hd : decode c.code pc = .ok (.aaload, 1)) (hp : pc + 1 = pc') (K : Go p l e R s m args below meth c Z a0 EL nw Q vm h k n pc' L (v :: st)) : Go p l e R s m args below meth c Z a0 EL nw Q vm h k n pc L (.int j :: .ref a :: st) := fun T locs k0 hx hk hE X eT hS hk0 hF hZ hN hC hO => by
  subst hp
  obtain ⟨t, v', L', r1, r2⟩ := K T locs k0 hx hk hE X eT hS hk0 hF hZ hN hC hO
  obtain ⟨cl, A, -, rfl⟩ := A
  rw [Array.getElem?_toList] at hv
  exact ⟨t, v', L', X.aaload hx (cell := cl) (by rw [eT]; exact A.1) (State.isArrayOf_alike (s := Z) (T := s.setVm vm) hZ.alike A.2.1) hty A.2.2 (fun q => q.elim hj fun q => absurd (Array.getElem?_eq_some_iff.mp hv).1 (Nat.not_lt.mpr q)) hv (g := mkF m pc L (.int j :: .ref a :: st)) rfl rfl hd _ r1, r2⟩
theorem Go.newO {own C : String} {index nn : Nat} (hown : Z.vm.findClass own = some m.cls) (w : (Jvm.Cond.classLink own index C).before a0 Z = true) (wi : (Jvm.Cond.instantiable C nn).before a0 Z = true) (wz : (Jvm.Cond.initialized C).before a0 Z = true) (hd : decode c.code pc = .ok (.new index, 3)) (hp : pc + 3 = pc') (hc : k + 1 ≤ R.cells) (hl : n + nn ≤ R.slots)
    (K : ∀ (h' : Heap) (a : Addr), h.size ≤ a → h'.size > a → Ext h h' → Exa Z h' a C → (∀ {O nm d : String} {ty : FieldType}, Laid Z a0 C O nm d → parseFieldDescriptor d = some ty → Fld Z h' a O nm d (defaultValue ty)) → Safe Z EL vm h' a → CHr Z EL vm h vm h' → Go p l e R s m args below meth c Z a0 EL nw Q vm h' (k + 1) (n + nn) pc' L (.ref a :: st)) : Go p l e R s m args below meth c Z a0 EL nw Q vm h k n pc L st := fun T locs k0 hx hk hE X eT hS hk0 hF hZ hN hC hO => by
  subst hp
  have hown' : (s.setVm vm).vm.findClass own = some m.cls := by
    show vm.findClass own = _
    rw [hZ.alike.findClass]; exact hown
  obtain ⟨T', h', X', e', E', A', D', -, st'⟩ := RoadKit.newO X hx (s := s.setVm vm) hZ hown' w wi wz eT (g := mkF m pc L st) rfl hd hc hl
  obtain ⟨t, v, L', r1, r2⟩ := K h' h.size (Nat.le_refl _) A'.lt E' A' D' (Safe.ext E' hC.1 (Safe.new (Nat.le_refl _))) (CHr.ext E' hC.1) T' locs k0 hx hk hE X' e' hS (Nat.le_trans hk0 E'.1) hF hZ hN (hC.trans (CHr.ext E' hC.1)) (ext_trans hO E')
  exact ⟨t, v, L', st' _ r1, r2⟩
theorem Go.newP {aty : ArrayType} {ty : FieldType} {z : Int32} {cap : Nat} (hty : newarray.typeOf aty = ty) (w : (Jvm.Cond.arrayClass ty).before a0 Z = true) (hd : decode c.code pc = .ok (.newarray aty, 2)) (hp : pc + 2 = pc') (hz : ¬ z < 0) (hcap : z.toNatClampNeg ≤ cap) (hb : cap * 8 ≤ 536870912) (hc : k + 1 ≤ R.cells) (hl : n + cap ≤ R.slots)
    (K : ∀ (h' : Heap) (a : Addr) (kA : ClassId), h.size ≤ a → h'.size > a → Ext h h' → Ar Z h' a kA ty (List.replicate z.toNatClampNeg (defaultValue ty)) → Safe Z EL vm h' a → CHr Z EL vm h vm h' → Go p l e R s m args below meth c Z a0 EL nw Q vm h' (k + 1) (n + cap) pc' L (.ref a :: st)) : Go p l e R s m args below meth c Z a0 EL nw Q vm h k n pc L (.int z :: st) := fun T locs k0 hx hk hE X eT hS hk0 hF hZ hN hC hO => by
  subst hp hty
  obtain ⟨T', h', cA, X', e', E', A', st'⟩ := RoadKit.newP X hx (s := s.setVm vm) hZ w eT (g := mkF m pc L (.int z :: st)) rfl hd rfl hz hcap hb hc hl
  obtain ⟨t, v, L', r1, r2⟩ := K h' h.size cA (Nat.le_refl _) A'.lt E' ⟨_, A', rfl, by simp [newA]⟩ (Safe.ext E' hC.1 (Safe.new (Nat.le_refl _))) (CHr.ext E' hC.1) T' locs k0 hx hk hE X' e' hS (Nat.le_trans hk0 E'.1) hF hZ hN (hC.trans (CHr.ext E' hC.1)) (ext_trans hO E')
  exact ⟨t, v, L', st' _ r1, r2⟩
theorem Go.newR {own C : String} {index : Nat} {z : Int32} {cap : Nat} (hown : Z.vm.findClass own = some m.cls) (w1 : (Jvm.Cond.classLink own index C).before a0 Z = true) (w2 : (Jvm.Cond.arrayOver (.object C)).before a0 Z = true) (hd : decode c.code pc = .ok (.anewarray index, 3)) (hp : pc + 3 = pc') (hz : ¬ z < 0) (hcap : z.toNatClampNeg ≤ cap) (hb : cap * 8 ≤ 536870912) (hc : k + 1 ≤ R.cells) (hl : n + cap ≤ R.slots)
    (K : ∀ (h' : Heap) (a : Addr) (kA : ClassId), h.size ≤ a → h'.size > a → Ext h h' → Ar Z h' a kA (.object C) (List.replicate z.toNatClampNeg .null) → Ovr Z kA C → CHr Z EL vm h vm h' → Go p l e R s m args below meth c Z a0 EL nw Q vm h' (k + 1) (n + cap) pc' L (.ref a :: st)) : Go p l e R s m args below meth c Z a0 EL nw Q vm h k n pc L (.int z :: st) := fun T locs k0 hx hk hE X eT hS hk0 hF hZ hN hC hO => by
  subst hp
  have hown' : (s.setVm vm).vm.findClass own = some m.cls := by
    show vm.findClass own = _
    rw [hZ.alike.findClass]; exact hown
  obtain ⟨T', h', cA, X', e', E', A', O', st'⟩ := RoadKit.newR X hx (s := s.setVm vm) hZ hown' w1 w2 eT (g := mkF m pc L (.int z :: st)) rfl hd rfl hz hcap hb hc hl
  obtain ⟨t, v, L', r1, r2⟩ := K h' h.size cA (Nat.le_refl _) A'.lt E' ⟨_, A', rfl, by simp [newA, defaultValue]⟩ O' (CHr.ext E' hC.1) T' locs k0 hx hk hE X' e' hS (Nat.le_trans hk0 E'.1) hF hZ hN (hC.trans (CHr.ext E' hC.1)) (ext_trans hO E')
  exact ⟨t, v, L', st' _ r1, r2⟩
theorem Go.putF {own R0 O nm d C : String} {index kk : Nat} {ty : FieldType} {a : Addr} {v v' old : Value} (hown : Z.vm.findClass own = some m.cls) (w : (Jvm.Cond.fieldLink own index R0 nm d).before a0 Z = true) (via : Via Z R0 O nm d) (F : Fld Z h a O nm d old) (E : Exa Z h a C)
    (Ly : (Jvm.Cond.lays C O nm d).before a0 Z = true ∨ ((Jvm.Cond.laysFinal C O nm d).before a0 Z = true ∧ own = O ∧ meth.name = "<init>")) (wi : (Jvm.Cond.instantiable C kk).before a0 Z = true) (hty : parseFieldDescriptor d = some ty) (hn : narrow ty v = v') (hf : fits ty v' = true) (hs0 : (C ≠ "java/lang/String" ∧ C ≠ "[B") ∨ Safe Z EL vm h a) (hge : Z.heap.size ≤ a) (hd : decode c.code pc = .ok (.putfield index, 3)) (hp : pc + 3 = pc')
    (K : ∀ (h' : Heap), Wr h h' a (RoadKit.slotOf Z O nm d) v' → h'.size = h.size → Keep h h' [a] → CHr Z EL vm h vm h' → Go p l e R s m args below meth c Z a0 EL nw Q vm h' k n pc' L st) : Go p l e R s m args below meth c Z a0 EL nw Q vm h k n pc L (v :: .ref a :: st) := fun T locs k0 hx hk hE X eT hS hk0 hF hZ hN hC hO => by
  subst hp
  have hown' : (s.setVm vm).vm.findClass own = some m.cls := by
    show vm.findClass own = _
    rw [hZ.alike.findClass]; exact hown
  have hs : Safe Z EL vm h a := hs0.elim (fun q => Safe.exa hZ.alike E q.1 q.2) id
  obtain ⟨T', h', X', e', W', st'⟩ := RoadKit.putFN X hx (s := s.setVm vm) hZ hown' w via eT F E Ly wi hty hn hf (g := mkF m pc L (v :: .ref a :: st)) rfl rfl hd
  obtain ⟨t, v, L', r1, r2⟩ := K h' W' W'.size (Keep.of_wr W') (CHr.wr W' hs hC.1) T' _ k0 hx hk hE X' e' hS (by rw [W'.size]; exact hk0) (Fr.snoc X' hF hge) hZ hN (hC.trans (CHr.wr W' hs hC.1)) (ext_wr hO W' hge)
  exact ⟨t, v, L', st' _ r1, r2⟩
theorem Go.putFN {own R0 O nm d C host : String} {index kk : Nat} {ty : FieldType} {a : Addr} {v old : Value} (hown : Z.vm.findClass own = some m.cls) (w : (Jvm.Cond.fieldLinkNest own index R0 nm d host).before a0 Z = true) (via : Via Z R0 O nm d) (F : Fld Z h a O nm d old) (E : Exa Z h a C)
    (Ly : (Jvm.Cond.lays C O nm d).before a0 Z = true ∨ ((Jvm.Cond.laysFinal C O nm d).before a0 Z = true ∧ own = O ∧ meth.name = "<init>")) (wi : (Jvm.Cond.instantiable C kk).before a0 Z = true) (hty : parseFieldDescriptor d = some ty) (hn : narrow ty v = v) (hf : fits ty v = true) (hs0 : (C ≠ "java/lang/String" ∧ C ≠ "[B") ∨ Safe Z EL vm h a) (hge : Z.heap.size ≤ a) (hd : decode c.code pc = .ok (.putfield index, 3)) (hp : pc + 3 = pc')
    (K : ∀ (h' : Heap), Wr h h' a (RoadKit.slotOf Z O nm d) v → h'.size = h.size → Keep h h' [a] → CHr Z EL vm h vm h' → Go p l e R s m args below meth c Z a0 EL nw Q vm h' k n pc' L st) : Go p l e R s m args below meth c Z a0 EL nw Q vm h k n pc L (v :: .ref a :: st) := fun T locs k0 hx hk hE X eT hS hk0 hF hZ hN hC hO => by
  subst hp
  have hown' : (s.setVm vm).vm.findClass own = some m.cls := by
    show vm.findClass own = _
    rw [hZ.alike.findClass]; exact hown
  have hs : Safe Z EL vm h a := hs0.elim (fun q => Safe.exa hZ.alike E q.1 q.2) id
  obtain ⟨T', h', X', e', W', st'⟩ := RoadKit.putF X hx (s := s.setVm vm) hZ hown' (Or.inr w) via eT F E Ly wi hty hn hf (g := mkF m pc L (v :: .ref a :: st)) rfl rfl hd
  obtain ⟨t, v, L', r1, r2⟩ := K h' W' W'.size (Keep.of_wr W') (CHr.wr W' hs hC.1) T' _ k0 hx hk hE X' e' hS (by rw [W'.size]; exact hk0) (Fr.snoc X' hF hge) hZ hN (hC.trans (CHr.wr W' hs hC.1)) (ext_wr hO W' hge)
  exact ⟨t, v, L', st' _ r1, r2⟩
theorem Go.castore {a : Addr} {kA : ClassId} {vs : List Value} {j x : Int32} (A : Ar Z h a kA .char vs) (hj : ¬ j < 0) (hlt : j.toNatClampNeg < vs.length) (hge : Z.heap.size ≤ a) (hd : decode c.code pc = .ok (.castore, 1)) (hp : pc + 1 = pc')
    (K : ∀ (h' : Heap), Ar Z h' a kA .char (vs.set j.toNatClampNeg (.int (nar .char x))) → h'.size = h.size → Keep h h' [a] → Safe Z EL vm h' a → CHr Z EL vm h vm h' → Go p l e R s m args below meth c Z a0 EL nw Q vm h' k n pc' L st) : Go p l e R s m args below meth c Z a0 EL nw Q vm h k n pc L (.int x :: .int j :: .ref a :: st) := fun T locs k0 hx hk hE X eT hS hk0 hF hZ hN hC hO => by
  subst hp
  have A0 := A
  have hs : Safe Z EL vm h a := A.safe hZ.alike (by intro q; cases q)
  obtain ⟨cl, A, -, e2⟩ := A
  have hin : ¬ (j < 0 ∨ cl.slots.size ≤ j.toNatClampNeg) := fun q => q.elim hj fun q => by rw [← e2] at hlt; simp at hlt; omega
  obtain ⟨T', h', X', e', W', st'⟩ := RoadKit.stC X hx (s := s.setVm vm) hZ eT A hin (g := mkF m pc L (.int x :: .int j :: .ref a :: st)) rfl rfl hd
  obtain ⟨t, v, L', r1, r2⟩ := K h' (A0.set W') W'.size (Keep.of_wr W') (Safe.wr W' hs hC.1 hs) (CHr.wr W' hs hC.1) T' _ k0 hx hk hE X' e' hS (by rw [W'.size]; exact hk0) (Fr.snoc X' hF hge) hZ hN (hC.trans (CHr.wr W' hs hC.1)) (ext_wr hO W' hge)
  exact ⟨t, v, L', st' _ r1, r2⟩
theorem Go.bastore {a : Addr} {kA : ClassId} {vs : List Value} {j x : Int32} (A : Ar Z h a kA .byte vs) (hj : ¬ j < 0) (hlt : j.toNatClampNeg < vs.length) (hs : Safe Z EL vm h a) (hge : Z.heap.size ≤ a) (hd : decode c.code pc = .ok (.bastore, 1)) (hp : pc + 1 = pc')
    (K : ∀ (h' : Heap), Ar Z h' a kA .byte (vs.set j.toNatClampNeg (.int (nar .byte x))) → h'.size = h.size → Keep h h' [a] → Safe Z EL vm h' a → CHr Z EL vm h vm h' → Go p l e R s m args below meth c Z a0 EL nw Q vm h' k n pc' L st) : Go p l e R s m args below meth c Z a0 EL nw Q vm h k n pc L (.int x :: .int j :: .ref a :: st) := fun T locs k0 hx hk hE X eT hS hk0 hF hZ hN hC hO => by
  subst hp
  have A0 := A
  obtain ⟨cl, A, -, e2⟩ := A
  have hin : ¬ (j < 0 ∨ cl.slots.size ≤ j.toNatClampNeg) := fun q => q.elim hj fun q => by rw [← e2] at hlt; simp at hlt; omega
  obtain ⟨T', h', X', e', W', st'⟩ := RoadKit.stB X hx (s := s.setVm vm) hZ eT A hin (g := mkF m pc L (.int x :: .int j :: .ref a :: st)) rfl rfl hd
  obtain ⟨t, v, L', r1, r2⟩ := K h' (A0.set W') W'.size (Keep.of_wr W') (Safe.wr W' hs hC.1 hs) (CHr.wr W' hs hC.1) T' _ k0 hx hk hE X' e' hS (by rw [W'.size]; exact hk0) (Fr.snoc X' hF hge) hZ hN (hC.trans (CHr.wr W' hs hC.1)) (ext_wr hO W' hge)
  exact ⟨t, v, L', st' _ r1, r2⟩
theorem Go.zastore {a : Addr} {kA : ClassId} {vs : List Value} {j x : Int32} (A : Ar Z h a kA .boolean vs) (hj : ¬ j < 0) (hlt : j.toNatClampNeg < vs.length) (hge : Z.heap.size ≤ a) (hd : decode c.code pc = .ok (.bastore, 1)) (hp : pc + 1 = pc')
    (K : ∀ (h' : Heap), Ar Z h' a kA .boolean (vs.set j.toNatClampNeg (.int (nar .boolean x))) → h'.size = h.size → Keep h h' [a] → Safe Z EL vm h' a → CHr Z EL vm h vm h' → Go p l e R s m args below meth c Z a0 EL nw Q vm h' k n pc' L st) : Go p l e R s m args below meth c Z a0 EL nw Q vm h k n pc L (.int x :: .int j :: .ref a :: st) := fun T locs k0 hx hk hE X eT hS hk0 hF hZ hN hC hO => by
  subst hp
  have A0 := A
  have hs : Safe Z EL vm h a := A.safe hZ.alike (by intro q; cases q)
  obtain ⟨cl, A, -, e2⟩ := A
  have hin : ¬ (j < 0 ∨ cl.slots.size ≤ j.toNatClampNeg) := fun q => q.elim hj fun q => by rw [← e2] at hlt; simp at hlt; omega
  obtain ⟨T', h', X', e', W', st'⟩ := RoadKit.stZ X hx (s := s.setVm vm) hZ eT A hin (g := mkF m pc L (.int x :: .int j :: .ref a :: st)) rfl rfl hd
  obtain ⟨t, v, L', r1, r2⟩ := K h' (A0.set W') W'.size (Keep.of_wr W') (Safe.wr W' hs hC.1 hs) (CHr.wr W' hs hC.1) T' _ k0 hx hk hE X' e' hS (by rw [W'.size]; exact hk0) (Fr.snoc X' hF hge) hZ hN (hC.trans (CHr.wr W' hs hC.1)) (ext_wr hO W' hge)
  exact ⟨t, v, L', st' _ r1, r2⟩
theorem Go.iastore {a : Addr} {kA : ClassId} {vs : List Value} {j x : Int32} (A : Ar Z h a kA .int vs) (hj : ¬ j < 0) (hlt : j.toNatClampNeg < vs.length) (hge : Z.heap.size ≤ a) (hd : decode c.code pc = .ok (.iastore, 1)) (hp : pc + 1 = pc')
    (K : ∀ (h' : Heap), Ar Z h' a kA .int (vs.set j.toNatClampNeg (.int x)) → h'.size = h.size → Keep h h' [a] → Safe Z EL vm h' a → CHr Z EL vm h vm h' → Go p l e R s m args below meth c Z a0 EL nw Q vm h' k n pc' L st) : Go p l e R s m args below meth c Z a0 EL nw Q vm h k n pc L (.int x :: .int j :: .ref a :: st) := fun T locs k0 hx hk hE X eT hS hk0 hF hZ hN hC hO => by
  subst hp
  have A0 := A
  have hs : Safe Z EL vm h a := A.safe hZ.alike (by intro q; cases q)
  obtain ⟨cl, A, -, e2⟩ := A
  have hin : ¬ (j < 0 ∨ cl.slots.size ≤ j.toNatClampNeg) := fun q => q.elim hj fun q => by rw [← e2] at hlt; simp at hlt; omega
  obtain ⟨T', h', X', e', W', st'⟩ := RoadKit.stI X hx (s := s.setVm vm) hZ eT A hin (g := mkF m pc L (.int x :: .int j :: .ref a :: st)) rfl rfl hd
  obtain ⟨t, v, L', r1, r2⟩ := K h' (A0.set W') W'.size (Keep.of_wr W') (Safe.wr W' hs hC.1 hs) (CHr.wr W' hs hC.1) T' _ k0 hx hk hE X' e' hS (by rw [W'.size]; exact hk0) (Fr.snoc X' hF hge) hZ hN (hC.trans (CHr.wr W' hs hC.1)) (ext_wr hO W' hge)
  exact ⟨t, v, L', st' _ r1, r2⟩
theorem Go.aastore {a : Addr} {kA : ClassId} {ty : FieldType} {vs : List Value} {j : Int32} {v : Value} (A : Ar Z h a kA ty vs) (hty : ty.isReference = true) (hj : ¬ j < 0) (hlt : j.toNatClampNeg < vs.length) (F : Sto Z h a v) (hge : Z.heap.size ≤ a) (hd : decode c.code pc = .ok (.aastore, 1)) (hp : pc + 1 = pc')
    (K : ∀ (h' : Heap), Ar Z h' a kA ty (vs.set j.toNatClampNeg v) → h'.size = h.size → Keep h h' [a] → CHr Z EL vm h vm h' → Go p l e R s m args below meth c Z a0 EL nw Q vm h' k n pc' L st) : Go p l e R s m args below meth c Z a0 EL nw Q vm h k n pc L (v :: .int j :: .ref a :: st) := fun T locs k0 hx hk hE X eT hS hk0 hF hZ hN hC hO => by
  subst hp
  have A0 := A
  have hs : Safe Z EL vm h a := A.safe hZ.alike (by rintro rfl; cases hty)
  obtain ⟨cl, A, -, e2⟩ := A
  have hin : ¬ (j < 0 ∨ cl.slots.size ≤ j.toNatClampNeg) := fun q => q.elim hj fun q => by rw [← e2] at hlt; simp at hlt; omega
  obtain ⟨T', h', X', e', W', st'⟩ := RoadKit.stR X hx (s := s.setVm vm) hZ eT A hin hty F (g := mkF m pc L (v :: .int j :: .ref a :: st)) rfl rfl hd
  obtain ⟨t, v, L', r1, r2⟩ := K h' (A0.set W') W'.size (Keep.of_wr W') (CHr.wr W' hs hC.1) T' _ k0 hx hk hE X' e' hS (by rw [W'.size]; exact hk0) (Fr.snoc X' hF hge) hZ hN (hC.trans (CHr.wr W' hs hC.1)) (ext_wr hO W' hge)
  exact ⟨t, v, L', st' _ r1, r2⟩
theorem Go.know {P : Prop} (q : Z.Warmed39 vm → CHv Z EL vm h → Ext Z.heap h → P) (K : P → Go p l e R s m args below meth c Z a0 EL nw Q vm h k n pc L st) : Go p l e R s m args below meth c Z a0 EL nw Q vm h k n pc L st := fun T locs k0 hx hk hE X eT hS hk0 hF hZ hN hC hO => K (q hZ hC.1 hO) T locs k0 hx hk hE X eT hS hk0 hF hZ hN hC hO
theorem Go.joinH {pcM k1 n1 : Nat} {P : Vm → Heap → Value → Prop} {F : Value → Array Slot} {S : Value → List Value} (J : ∀ vm' h' v, P vm' h' v → Go p l e R s m args below meth c Z a0 EL nw Q vm' h' k1 n1 pcM (F v) (S v)) (K : (∀ vm' h' v, P vm' h' v → Go p l e R s m args below meth c Z a0 EL nw Q vm' h' k1 n1 pcM (F v) (S v)) → Go p l e R s m args below meth c Z a0 EL nw Q vm h k n pc L st) : Go p l e R s m args below meth c Z a0 EL nw Q vm h k n pc L st := K J
theorem Go.joinI {pcM : Nat} {P : Int32 → Prop} {F : Int32 → Array Slot} {S : Int32 → List Value} (J : ∀ x, P x → Go p l e R s m args below meth c Z a0 EL nw Q vm h k n pcM (F x) (S x)) (K : (∀ x, P x → Go p l e R s m args below meth c Z a0 EL nw Q vm h k n pcM (F x) (S x)) → Go p l e R s m args below meth c Z a0 EL nw Q vm h k n pc L st) : Go p l e R s m args below meth c Z a0 EL nw Q vm h k n pc L st := K J
theorem Go.joinJ {pcM : Nat} {P : Int64 → Prop} {F : Int64 → Array Slot} {S : Int64 → List Value} (J : ∀ x, P x → Go p l e R s m args below meth c Z a0 EL nw Q vm h k n pcM (F x) (S x)) (K : (∀ x, P x → Go p l e R s m args below meth c Z a0 EL nw Q vm h k n pcM (F x) (S x)) → Go p l e R s m args below meth c Z a0 EL nw Q vm h k n pc L st) : Go p l e R s m args below meth c Z a0 EL nw Q vm h k n pc L st := K J
theorem Go.loop {pcH : Nat} {st0 : List Value} {Inv : Nat → Vm → Heap → Nat → Nat → Array Slot → Prop} (step : ∀ r vm h k n L, Inv r vm h k n L → (∀ r' vm' h' k' n' L', r' < r → Inv r' vm' h' k' n' L' → Go p l e R s m args below meth c Z a0 EL nw Q vm' h' k' n' pcH L' st0) → Go p l e R s m args below meth c Z a0 EL nw Q vm h k n pcH L st0) : ∀ r vm h k n L, Inv r vm h k n L → Go p l e R s m args below meth c Z a0 EL nw Q vm h k n pcH L st0 := by
  intro r
  induction r using Nat.strongRecOn with
  | ind r ih => intro vm h k n L hI; exact step r vm h k n L hI fun r' vm' h' k' n' L' hr hI' => ih r' hr vm' h' k' n' L' hI'
theorem Go.castNull {index : Nat} (hd : decode c.code pc = .ok (.checkcast index, 3)) (hp : pc + 3 = pc') (K : Go p l e R s m args below meth c Z a0 EL nw Q vm h k n pc' L (.null :: st)) : Go p l e R s m args below meth c Z a0 EL nw Q vm h k n pc L (.null :: st) := by
  subst hp
  exact Go.plain (fun T _ hx X _ r => Stand.checkcastNull X hx (g := mkF m pc L (.null :: st)) rfl (rest := st) rfl hd _ r) K
theorem Go.instNull {index : Nat} (hd : decode c.code pc = .ok (.instanceof index, 3)) (hp : pc + 3 = pc') (K : Go p l e R s m args below meth c Z a0 EL nw Q vm h k n pc' L (.int 0 :: st)) : Go p l e R s m args below meth c Z a0 EL nw Q vm h k n pc L (.null :: st) := by
  subst hp
  exact Go.plain (fun T _ hx X _ r => Stand.instanceofNull X hx (g := mkF m pc L (.null :: st)) rfl (rest := st) rfl hd _ r) K
theorem Go.ldcStr {own text : String} {index n0 : Nat} {vs : List Value} (hnw : ¬ nw) (hown : Z.vm.findClass own = some m.cls) (w : (Jvm.Cond.stringLink own index text).before a0 Z = true) (wS : ∀ a ∈ Bundle.stringAtoms, a.before a0 Z = true) (hmem : (own, index) ∈ EL)
    (ht : (∀ c ∈ text.toList, c.toNat < 256) ∧ text.toList.map (fun c => Value.int (Jvm.Lit.byteI c.toNat.toUInt16)) = vs) (hd : decode c.code pc = .ok (.ldc index, 2)) (hp : pc + 2 = pc') (hn : 4 * text.toList.length ≤ n0) (hbig : n0 ≤ 536870912) (hc : k + 2 ≤ R.cells) (hl : n + (n0 + 4) ≤ R.slots)
    (K : ∀ (vm' : Vm) (h' : Heap) (a b : Addr) (kA : ClassId), Ext h h' → CHr Z EL vm h vm' h' → Exa Z h' a "java/lang/String" → Fld Z h' a "java/lang/String" "coder" "B" (.int 0) → Fld Z h' a "java/lang/String" "value" "[B" (.ref b) → Ar Z h' b kA .byte vs → h'.size > a → h'.size > b → (∀ x, Safe Z EL vm' h' x → x ≠ a ∧ x ≠ b) → Go p l e R s m args below meth c Z a0 EL nw Q vm' h' (k + 2) (n + (n0 + 4)) pc' L (.ref a :: st)) : Go p l e R s m args below meth c Z a0 EL nw Q vm h k n pc L st := fun T locs k0 hx hk hE X eT hS hk0 hF hZ hN hC hO => by
  subst hp
  have hown' : (s.setVm vm).vm.findClass own = some m.cls := by
    show vm.findClass own = _
    rw [hZ.alike.findClass]; exact hown
  have hlen : vs.length = text.toList.length := by rw [← ht.2, List.length_map]
  have hz : ¬ (vs.length.toInt32 < 0) := by
    have q : vs.length < 2 ^ 31 := by omega
    have := Int32.toInt_ofNat_small q
    intro z
    have := Int32.lt_iff_toInt_lt.mp z
    have e0 : (0 : Int32).toInt = 0 := rfl
    have e1 : vs.length.toInt32.toInt = vs.length := Int32.toInt_ofNat_small q
    omega
  have hlz : vs.length.toInt32.toNatClampNeg = vs.length := by
    have q : vs.length < 2 ^ 31 := by omega
    have e1 : vs.length.toInt32.toInt = vs.length := Int32.toInt_ofNat_small q
    rw [← Int32.toNat_toInt, e1]; rfl
  obtain ⟨a, T', h', k1, b, kA, X', e', E', hS', hk', hZ', hown2, x1, x2, x3, x4, x5, x6, hC', -, hsafe, st'⟩ := ldcCH X hx hZ hown' w wS eT hS hk0 hE hmem hC.1 ht hz hlz (g := mkF m pc L st) rfl hd hn hbig hc hl
  obtain ⟨t, v, L', r1, r2⟩ := K T'.vm h' a b kA E' hC' x1 x2 x3 (Ar.of_arv x4 hlz) x5 x6 hsafe T' locs k1 hx hk hE X' e' hS' hk' hF hZ' (fun q => absurd q hnw) (hC.trans hC') (ext_trans hO E')
  exact ⟨t, v, L', st' _ r1, r2⟩
theorem Go.ldcRef {own text : String} {index n0 : Nat} (hnw : ¬ nw) (hown : Z.vm.findClass own = some m.cls) (w : (Jvm.Cond.stringLink own index text).before a0 Z = true) (wS : ∀ a ∈ Bundle.stringAtoms, a.before a0 Z = true)
    (hd : decode c.code pc = .ok (.ldc index, 2)) (hp : pc + 2 = pc') (hn : 4 * text.toList.length ≤ n0) (hbig : n0 ≤ 536870912) (hc : k + 2 ≤ R.cells) (hl : n + (n0 + 4) ≤ R.slots)
    (K : ∀ (vm' : Vm) (h' : Heap) (a : Addr), Ext h h' → CHr Z EL vm h vm' h' → Go p l e R s m args below meth c Z a0 EL nw Q vm' h' (k + 2) (n + (n0 + 4)) pc' L (.ref a :: st)) : Go p l e R s m args below meth c Z a0 EL nw Q vm h k n pc L st := fun T locs k0 hx hk hE X eT hS hk0 hF hZ hN hC hO => by
  subst hp
  have hown' : (s.setVm vm).vm.findClass own = some m.cls := by
    show vm.findClass own = _
    rw [hZ.alike.findClass]; exact hown
  obtain ⟨a, T', h', k1, X', e', E', hS', hk', hZ', hown2, hC', -, st'⟩ := ldcOH X hx hZ hown' w wS eT hS hk0 hE hC.1 (g := mkF m pc L st) rfl hd hn hbig hc hl
  obtain ⟨t, v, L', r1, r2⟩ := K T'.vm h' a E' hC' T' locs k1 hx hk hE X' e' hS' hk' hF hZ' (fun q => absurd q hnw) (hC.trans hC') (ext_trans hO E')
  exact ⟨t, v, L', st' _ r1, r2⟩
theorem Go.ret (hret : meth.sig.returnType = none) (hd : decode c.code pc = .ok (.return_, 1)) (hk1 : k ≤ R.cells) (hn1 : n ≤ R.slots) (q : ∀ vm', CHr Z EL vm h vm' h → Q none vm' h) : Go p l e R s m args below meth c Z a0 EL nw Q vm h k n pc L [] := fun T locs k0 hx hk hE X eT hS hk0 hF hZ hN hC hO => by
  subst eT
  obtain ⟨fs, h1, h2, h3, h4⟩ := X.leaveW hS hk0 (v := none) (fun _ => rfl) hk
  have hA := CHv.at X hZ hE hC.1
  refine ⟨_, none, locs, X.returnOut hx hret hd h1, h2, h3, hF, q _ hA, hC.trans hA, hO, ?_, fun z => State.WarmedH.trans (t := s.setVm vm) (hN z) X.warmed⟩
  exact ⟨h4.1, h4.2.1, h4.2.2.1, h4.2.2.2.mono hk1 hn1⟩
theorem Go.retV {w : Value} {t : FieldType} {i : Instr} (hret : meth.sig.returnType = some t) (hn : narrow t w = w)
    (hi : (i = .ireturn ∧ (t = .int ∨ t = .boolean ∨ t = .byte ∨ t = .char ∨ t = .short) ∧ ∃ z, w = .int z) ∨ (i = .lreturn ∧ t = .long ∧ ∃ z, w = .long z) ∨ (i = .dreturn ∧ t = .double ∧ ∃ z, w = .double z) ∨ (i = .freturn ∧ t = .float ∧ ∃ z, w = .float z) ∨ (i = .areturn ∧ t.isReference = true ∧ w.isRef = true))
    (hd : decode c.code pc = .ok (i, 1)) (hk1 : k ≤ R.cells) (hn1 : n ≤ R.slots) (q : ∀ vm', CHr Z EL vm h vm' h → Q (some w) vm' h) : Go p l e R s m args below meth c Z a0 EL nw Q vm h k n pc L (w :: st) := fun T locs k0 hx hk hE X eT hS hk0 hF hZ hN hC hO => by
  subst eT
  obtain ⟨fs, h1, h2, h3, h4⟩ := X.leaveW hS hk0 (v := some w) (fun z => by rw [hret] at z; cases z) hk
  have hA := CHv.at X hZ hE hC.1
  refine ⟨_, some w, locs, retOut X hx hret hn hi hd h1, h2, h3, hF, q _ hA, hC.trans hA, hO, ?_, fun z => State.WarmedH.trans (t := s.setVm vm) (hN z) X.warmed⟩
  exact ⟨h4.1, h4.2.1, h4.2.2.1, h4.2.2.2.mono hk1 hn1⟩
theorem Go.retA {w : Value} {t : FieldType} (hret : meth.sig.returnType = some t) (ht : t.isReference = true) (hw : w.isRef = true) (hd : decode c.code pc = .ok (.areturn, 1)) (hk1 : k ≤ R.cells) (hn1 : n ≤ R.slots) (q : ∀ vm', CHr Z EL vm h vm' h → Q (some w) vm' h) : Go p l e R s m args below meth c Z a0 EL nw Q vm h k n pc L (w :: st) :=
  Go.retV hret (by cases t <;> simp [FieldType.isReference] at ht <;> cases w <;> simp [Value.isRef] at hw <;> rfl) (Or.inr (Or.inr (Or.inr (Or.inr ⟨rfl, ht, hw⟩)))) hd hk1 hn1 q
theorem Go.retI {z : Int32} (hret : meth.sig.returnType = some .int) (hd : decode c.code pc = .ok (.ireturn, 1)) (hk1 : k ≤ R.cells) (hn1 : n ≤ R.slots) (q : ∀ vm', CHr Z EL vm h vm' h → Q (some (.int z)) vm' h) : Go p l e R s m args below meth c Z a0 EL nw Q vm h k n pc L (.int z :: st) :=
  Go.retV hret rfl (Or.inl ⟨rfl, Or.inl rfl, _, rfl⟩) hd hk1 hn1 q
theorem Go.retJ {z : Int64} (hret : meth.sig.returnType = some .long) (hd : decode c.code pc = .ok (.lreturn, 1)) (hk1 : k ≤ R.cells) (hn1 : n ≤ R.slots) (q : ∀ vm', CHr Z EL vm h vm' h → Q (some (.long z)) vm' h) : Go p l e R s m args below meth c Z a0 EL nw Q vm h k n pc L (.long z :: st) :=
  Go.retV hret rfl (Or.inr (Or.inl ⟨rfl, rfl, _, rfl⟩)) hd hk1 hn1 q
theorem Go.retN {z : Int32} {t : FieldType} (hret : meth.sig.returnType = some t) (ht : t = .boolean ∨ t = .byte ∨ t = .char ∨ t = .short) (hd : decode c.code pc = .ok (.ireturn, 1)) (hk1 : k ≤ R.cells) (hn1 : n ≤ R.slots) (q : ∀ vm', CHr Z EL vm h vm' h → Q (some (.int (nar t z))) vm' h) : Go p l e R s m args below meth c Z a0 EL nw Q vm h k n pc L (.int z :: st) := fun T locs k0 hx hk hE X eT hS hk0 hF hZ hN hC hO => by
  subst eT
  obtain ⟨fs, h1, h2, h3, h4⟩ := X.leaveW hS hk0 (v := some (.int (nar t z))) (fun z => by rw [hret] at z; cases z) hk
  have hA := CHv.at X hZ hE hC.1
  refine ⟨_, some (.int (nar t z)), locs, RoadKit.retN X hx hret ht hd h1, h2, h3, hF, q _ hA, hC.trans hA, hO, ?_, fun z => State.WarmedH.trans (t := s.setVm vm) (hN z) X.warmed⟩
  exact ⟨h4.1, h4.2.1, h4.2.2.1, h4.2.2.2.mono hk1 hn1⟩
theorem Ct.of_go {ws : List Jvm.Cond} {y : MethodName} {bytes : ByteArray} {maxL : Nat} {ret : Option FieldType} {rm : Room} {as : Array Value} {sf : List Addr} {L0 : Array Slot} (hEL : EW Z a0 EL) (pn : plainName y.cls = true) (hL : ∀ m, entryFrame m as maxL = mkF m 0 L0 [])
    (body : ∀ (p : Program) (e : Env) (s : State) (m : MethodId) (below : List Frame) (meth : Method) (c : Code), Z.vm.findClass y.cls = some m.cls → c.code = bytes → c.maxLocals = maxL → meth.sig.returnType = ret → meth.name = y.name → Z.Warmed39 s.vm → CHv Z EL s.vm h → Ext Z.heap h → (∀ x ∈ sf, Safe Z EL s.vm h x) →
      Go p l e rm s m as below meth c Z a0 EL nw Q s.vm h 0 0 0 L0 []) : Ct l Z EL nw ws y bytes maxL ret rm as h sf Q := by
  refine MetFree.of_bodySF (plainFor_of_name pn) hisR ?_
  intro p e s m args below meth c s₁ Bd hml hP hK
  obtain ⟨rfl, hZ, hh, hC, hO, hsf⟩ := hP
  have hown : s.vm.findClass y.cls = some m.cls := findClass_of_methodNamed Bd.named
  have hnm := (name_of_methodNamed Bd.named Bd.method).1
  have X0 : Stand p l e rm (s.setVm s.vm) m args below meth c s₁ [] 0 0 := Stand.of_body Bd
  have e0 : s₁.heap = h := by rw [← hh, Bd.state]; rfl
  have hC0 : CHr Z EL s.vm s.heap s.vm h := by rw [hh]; exact CHr.refl hC
  obtain ⟨t, v, L', r1, r2, r3, r4, r5, r6, r7, r8, r9⟩ := body p e s m below meth c (by rw [← hZ.alike.findClass]; exact hown) Bd.bytes hml Bd.returns hnm hZ hC hO hsf s₁ [] 0 Bd.exec Bd.notSynchronized hEL X0 e0 ((State.WarmedH.refl s).since 0) (Nat.zero_le _) (Fr.nil _) hZ (fun _ => State.WarmedH.refl s) hC0 hO
  exact ⟨t, .returned v, castTop (hL m) r1, r2, r3, v, L', rfl, r4, r5, r6, r7, r9, r8⟩
theorem Ct.back {y : MethodName} {bytes : ByteArray} {maxL : Nat} {ret : Option FieldType} {rm : Room} {len W : Nat} {as : Array Value} {sf : List Addr} {Q' : Option Value → Vm → Heap → Prop} (hM : Ct l Z EL nw [] y bytes maxL ret rm as h sf Q')
    (hZ : Z.Warmed39 vm) (wc : (Jvm.Cond.code y bytes maxL ret).before a0 Z = true) (wz : (Jvm.Cond.initialized y.cls).before a0 Z = true) (hf : rm.frames + 1 ≤ R.frames) (hl : W + (maxL + 11) + rm.locals ≤ R.locals) (hEL : EW Z a0 EL) (H : CHv Z EL vm h) (hO : Ext Z.heap h) (hsf : ∀ x ∈ sf, h.size > x ∧ Safe Z EL vm h x) :
    BackS l R p e below (s.setVm vm) args y len W (fun A a => a = as ∧ A.U.heap = h ∧ A.cells + rm.cells ≤ R.cells ∧ A.slots + rm.slots ≤ R.slots)
      (fun A _ v B => ∃ L, B.locs = A.locs ++ L ∧ B.cells = A.cells + rm.cells ∧ B.slots = A.slots + rm.slots ∧ Fr Z.heap.size L ∧ Q' v B.U.vm B.U.heap ∧ CHr Z EL vm h B.U.vm B.U.heap ∧ Ext Z.heap B.U.heap ∧ (nw → (s.setVm vm).WarmedH B.U.vm)) :=
  BackS.of_freeW (bytes := bytes) (maxL := maxL) (ret := ret) (E := fun _ first o t L k n => k = rm.cells ∧ n = rm.slots ∧ ∃ v, o = .returned v ∧ Fr Z.heap.size L ∧ Q' v t.vm t.heap ∧ CHr Z EL first.vm first.heap t.vm t.heap ∧ Ext Z.heap t.heap ∧ (nw → first.WarmedH t.vm)) hM hf hl
    (fun m meth c A a Y hp => have hU : Z.Warmed39 A.U.vm := wtrans (s := s.setVm vm) hZ Y.warmed
      ⟨by show (Jvm.Cond.and _ .tt).before a A.U = true; rw [Cond.before_and, mv hU wc]; rfl, mv hU wc, mv hU wz, hp.2.2.1, hp.2.2.2⟩)
    (fun m meth c A a g mk Y hp => ⟨hp.1, wtrans (s := s.setVm vm) hZ Y.warmed, hp.2.1, (CHv.at Y hZ hEL H).1, hO, fun x hx => (CHv.at Y hZ hEL H).safe (hsf x hx).1 (hsf x hx).2⟩) (fun _ _ _ _ _ _ _ _ _ => trivial)
    (fun _ _ _ _ ⟨v, L, h1, h2, h3, h4, h5, h6, h7⟩ => ⟨L, _, _, h7, rfl, rfl, v, h1, h2, h3, h4, h5, h6⟩)
    (fun m meth c A a g mk v t L k n Y hp _ _ ⟨e1, e2, v', e3, e4, e5, e6, e7, e8⟩ => by
      cases e3; subst e1 e2
      refine ⟨L, rfl, rfl, rfl, e4, e5, (CHv.at Y hZ hEL H).trans ?_, e7, fun z => State.WarmedH.trans Y.warmed (e8 z)⟩
      rw [← hp.2.1]; exact e6)
theorem nf_warm {y : MethodName} (hZ : Z.Warmed39 vm) (nf : NotFace Z y) : NotFace (s.setVm vm) y := fun r0 hr => by
  have q : Z.methodNamed? y = some r0 := by
    have := State.methodNamed?_setVm (s := Z) (vm' := vm) hZ.alike y
    rw [← this]; exact hr
  obtain ⟨kr, h1, h2⟩ := nf r0 q
  obtain ⟨kr', g1, g2⟩ := hZ.alike.2.2 _ _ h1
  exact ⟨kr', g1, by rw [g2]; exact h2⟩
theorem Go.callS {own : String} {y : MethodName} {bytes : ByteArray} {maxL : Nat} {ret : Option FieldType} {rm : Room} {W index : Nat} {argsL : List Value} {as : Array Value} {sf : List Addr} {Q' : Option Value → Vm → Heap → Prop} (hM : Ct l Z EL nw [] y bytes maxL ret rm as h sf Q') (hown : Z.vm.findClass own = some m.cls) (w1 : (Jvm.Cond.methodLink own index y).before a0 Z = true) (w2 : (Jvm.Cond.static y).before a0 Z = true) (wc : (Jvm.Cond.code y bytes maxL ret).before a0 Z = true) (wz : (Jvm.Cond.initialized y.cls).before a0 Z = true)
    (hy : y.cls ≠ "java/lang/invoke/MethodHandle" ∧ y.cls ≠ "java/lang/invoke/VarHandle") (hlen : ∀ sig, parseMethodDescriptor y.desc = some sig → argsL.length = sig.parameters.length) (has : as = argsL.toArray) (hL : L.size = c.maxLocals) (hW : (st.map fun v => v.category).sum = W) (hd : decode c.code pc = .ok (.invokestatic index, 3)) (hp : pc + 3 = pc') (hf : rm.frames + 1 ≤ R.frames) (hl : W + (maxL + 11) + rm.locals ≤ R.locals) (hc1 : k + rm.cells ≤ R.cells) (hc2 : n + rm.slots ≤ R.slots) (hsf : ∀ x ∈ sf, h.size > x ∧ Safe Z EL vm h x)
    (K : ∀ (v : Option Value) (vm' : Vm) (h' : Heap), Q' v vm' h' → CHr Z EL vm h vm' h' → Go p l e R s m args below meth c Z a0 EL nw Q vm' h' (k + rm.cells) (n + rm.slots) pc' L (v.toList ++ st)) : Go p l e R s m args below meth c Z a0 EL nw Q vm h k n pc L (argsL.reverse ++ st) := fun T locs k0 hx hk hE X eT hS hk0 hF hZ hN hC hO => by
  subst hp has
  have hown' : (s.setVm vm).vm.findClass own = some m.cls := by
    show vm.findClass own = _
    rw [hZ.alike.findClass]; exact hown
  have hWW : 2 * (mkF m pc L (argsL.reverse ++ st)).monitorRoom + (st.map fun v => v.category).sum ≤ W := by show 2 * 0 + _ ≤ _; rw [Nat.mul_zero, Nat.zero_add]; exact Nat.le_of_eq hW
  have hB := fun len => Ct.back (p := p) (e := e) (below := below) (s := s) (args := args) (len := len) hM hZ wc wz hf hl hE hC.1 hO hsf
  obtain ⟨v, vm1, ⟨T', L1, k1, n1⟩, -, X', hS', hg', hP', st'⟩ := callSS X hx hown' (mv (s := s.setVm vm) hZ w1) (mv (s := s.setVm vm) hZ w2) (mv (s := s.setVm vm) hZ wz) (mv (s := s.setVm vm) hZ wc) hy (hB 3) (g := mkF m pc L (argsL.reverse ++ st)) rfl hL hlen rfl hWW hd (fun _ _ => ⟨rfl, eT, hc1, hc2⟩)
  dsimp only [Pt.U, Pt.locs, Pt.cells, Pt.slots] at X' hS' hg' hP' st'
  obtain ⟨L2, rfl, rfl, rfl, q1, q2, q3, q4, q5⟩ := hP'
  obtain ⟨t, v', L', r1, r2⟩ := K v T'.vm T'.heap q2 q3 T' _ _ hx hk hE X' rfl (hS.trans hS' (Nat.le_trans hk0 (by rw [← eT]; exact hg'))) (Nat.le_refl _) (Fr.app hF q1) (State.Warmed39.trans (t := s.setVm vm) hZ hS'.1) (fun z => State.WarmedH.trans (t := s.setVm vm) (hN z) (q5 z)) (hC.trans q3) q4
  exact ⟨t, v', L', st'.trans r1, r2⟩
theorem Go.callSN {own host : String} {y : MethodName} {bytes : ByteArray} {maxL : Nat} {ret : Option FieldType} {rm : Room} {W index : Nat} {argsL : List Value} {as : Array Value} {sf : List Addr} {Q' : Option Value → Vm → Heap → Prop} (hM : Ct l Z EL nw [] y bytes maxL ret rm as h sf Q') (hown : Z.vm.findClass own = some m.cls) (w1 : (Jvm.Cond.methodLinkNest own index y host).before a0 Z = true) (w2 : (Jvm.Cond.static y).before a0 Z = true) (wc : (Jvm.Cond.code y bytes maxL ret).before a0 Z = true) (wz : (Jvm.Cond.initialized y.cls).before a0 Z = true)
    (hy : y.cls ≠ "java/lang/invoke/MethodHandle" ∧ y.cls ≠ "java/lang/invoke/VarHandle") (hlen : ∀ sig, parseMethodDescriptor y.desc = some sig → argsL.length = sig.parameters.length) (has : as = argsL.toArray) (hL : L.size = c.maxLocals) (hW : (st.map fun v => v.category).sum = W) (hd : decode c.code pc = .ok (.invokestatic index, 3)) (hp : pc + 3 = pc') (hf : rm.frames + 1 ≤ R.frames) (hl : W + (maxL + 11) + rm.locals ≤ R.locals) (hc1 : k + rm.cells ≤ R.cells) (hc2 : n + rm.slots ≤ R.slots) (hsf : ∀ x ∈ sf, h.size > x ∧ Safe Z EL vm h x)
    (K : ∀ (v : Option Value) (vm' : Vm) (h' : Heap), Q' v vm' h' → CHr Z EL vm h vm' h' → Go p l e R s m args below meth c Z a0 EL nw Q vm' h' (k + rm.cells) (n + rm.slots) pc' L (v.toList ++ st)) : Go p l e R s m args below meth c Z a0 EL nw Q vm h k n pc L (argsL.reverse ++ st) := fun T locs k0 hx hk hE X eT hS hk0 hF hZ hN hC hO => by
  subst hp has
  have hown' : (s.setVm vm).vm.findClass own = some m.cls := by
    show vm.findClass own = _
    rw [hZ.alike.findClass]; exact hown
  have hWW : 2 * (mkF m pc L (argsL.reverse ++ st)).monitorRoom + (st.map fun v => v.category).sum ≤ W := by show 2 * 0 + _ ≤ _; rw [Nat.mul_zero, Nat.zero_add]; exact Nat.le_of_eq hW
  have hB := fun len => Ct.back (p := p) (e := e) (below := below) (s := s) (args := args) (len := len) hM hZ wc wz hf hl hE hC.1 hO hsf
  obtain ⟨v, vm1, ⟨T', L1, k1, n1⟩, -, X', hS', hg', hP', st'⟩ := callSNS X hx hown' (Cond.methodLinkNest_wide hZ w1 :) (mv (s := s.setVm vm) hZ w2) (mv (s := s.setVm vm) hZ wz) (mv (s := s.setVm vm) hZ wc) hy (hB 3) (g := mkF m pc L (argsL.reverse ++ st)) rfl hL hlen rfl hWW hd (fun _ _ => ⟨rfl, eT, hc1, hc2⟩)
  dsimp only [Pt.U, Pt.locs, Pt.cells, Pt.slots] at X' hS' hg' hP' st'
  obtain ⟨L2, rfl, rfl, rfl, q1, q2, q3, q4, q5⟩ := hP'
  obtain ⟨t, v', L', r1, r2⟩ := K v T'.vm T'.heap q2 q3 T' _ _ hx hk hE X' rfl (hS.trans hS' (Nat.le_trans hk0 (by rw [← eT]; exact hg'))) (Nat.le_refl _) (Fr.app hF q1) (State.Warmed39.trans (t := s.setVm vm) hZ hS'.1) (fun z => State.WarmedH.trans (t := s.setVm vm) (hN z) (q5 z)) (hC.trans q3) q4
  exact ⟨t, v', L', st'.trans r1, r2⟩
theorem Go.callC {own : String} {a : Addr} {y : MethodName} {bytes : ByteArray} {maxL : Nat} {ret : Option FieldType} {rm : Room} {W index : Nat} {argsL : List Value} {as : Array Value} {sf : List Addr} {Q' : Option Value → Vm → Heap → Prop} (hM : Ct l Z EL nw [] y bytes maxL ret rm as h sf Q') (hown : Z.vm.findClass own = some m.cls) (hret0 : ret = none) (hinit : y.name = "<init>") (w1 : (Jvm.Cond.methodLink own index y).before a0 Z = true) (w2 : (Jvm.Cond.instanceMethod y).before a0 Z = true) (wc : (Jvm.Cond.code y bytes maxL ret).before a0 Z = true) (wz : (Jvm.Cond.initialized y.cls).before a0 Z = true)
    (hy : y.cls ≠ "java/lang/invoke/MethodHandle" ∧ y.cls ≠ "java/lang/invoke/VarHandle") (hlen : ∀ sig, parseMethodDescriptor y.desc = some sig → argsL.length = sig.parameters.length) (has : as = (.ref a :: argsL).toArray) (hL : L.size = c.maxLocals) (hW : (st.map fun v => v.category).sum = W) (hd : decode c.code pc = .ok (.invokespecial index, 3)) (hp : pc + 3 = pc') (hf : rm.frames + 1 ≤ R.frames) (hl : W + (maxL + 11) + rm.locals ≤ R.locals) (hc1 : k + rm.cells ≤ R.cells) (hc2 : n + rm.slots ≤ R.slots) (hsf : ∀ x ∈ sf, h.size > x ∧ Safe Z EL vm h x)
    (K : ∀ (v : Option Value) (vm' : Vm) (h' : Heap), Q' v vm' h' → CHr Z EL vm h vm' h' → Go p l e R s m args below meth c Z a0 EL nw Q vm' h' (k + rm.cells) (n + rm.slots) pc' L (v.toList ++ st)) : Go p l e R s m args below meth c Z a0 EL nw Q vm h k n pc L (argsL.reverse ++ .ref a :: st) := fun T locs k0 hx hk hE X eT hS hk0 hF hZ hN hC hO => by
  subst hp has
  have hown' : (s.setVm vm).vm.findClass own = some m.cls := by
    show vm.findClass own = _
    rw [hZ.alike.findClass]; exact hown
  have hWW : 2 * (mkF m pc L (argsL.reverse ++ .ref a :: st)).monitorRoom + (st.map fun v => v.category).sum ≤ W := by show 2 * 0 + _ ≤ _; rw [Nat.mul_zero, Nat.zero_add]; exact Nat.le_of_eq hW
  have hB := fun len => Ct.back (p := p) (e := e) (below := below) (s := s) (args := args) (len := len) hM hZ wc wz hf hl hE hC.1 hO hsf
  subst hret0
  obtain ⟨v, vm1, ⟨T', L1, k1, n1⟩, -, X', hS', hg', hP', st'⟩ := X.specialBackS hx hinit hown' (mv (s := s.setVm vm) hZ w1) (mv (s := s.setVm vm) hZ w2) (mv (s := s.setVm vm) hZ wc) hy (hB 3) (g := mkF m pc L (argsL.reverse ++ .ref a :: st)) rfl hL (Steps.refl _) (a := a) (argsL := argsL) (rest := st) hlen rfl hWW hd (fun _ _ => ⟨rfl, eT, hc1, hc2⟩)
  dsimp only [Pt.U, Pt.locs, Pt.cells, Pt.slots] at X' hS' hg' hP' st'
  obtain ⟨L2, rfl, rfl, rfl, q1, q2, q3, q4, q5⟩ := hP'
  obtain ⟨t, v', L', r1, r2⟩ := K v T'.vm T'.heap q2 q3 T' _ _ hx hk hE X' rfl (hS.trans hS' (Nat.le_trans hk0 (by rw [← eT]; exact hg'))) (Nat.le_refl _) (Fr.app hF q1) (State.Warmed39.trans (t := s.setVm vm) hZ hS'.1) (fun z => State.WarmedH.trans (t := s.setVm vm) (hN z) (q5 z)) (hC.trans q3) q4
  exact ⟨t, v', L', st'.trans r1, r2⟩
theorem Go.callCN {own host : String} {a : Addr} {y : MethodName} {bytes : ByteArray} {maxL : Nat} {ret : Option FieldType} {rm : Room} {W index : Nat} {argsL : List Value} {as : Array Value} {sf : List Addr} {Q' : Option Value → Vm → Heap → Prop} (hM : Ct l Z EL nw [] y bytes maxL ret rm as h sf Q') (hown : Z.vm.findClass own = some m.cls) (hret0 : ret = none) (hinit : y.name = "<init>") (w1 : (Jvm.Cond.methodLinkNest own index y host).before a0 Z = true) (w2 : (Jvm.Cond.instanceMethod y).before a0 Z = true) (wc : (Jvm.Cond.code y bytes maxL ret).before a0 Z = true) (wz : (Jvm.Cond.initialized y.cls).before a0 Z = true)
    (hy : y.cls ≠ "java/lang/invoke/MethodHandle" ∧ y.cls ≠ "java/lang/invoke/VarHandle") (hlen : ∀ sig, parseMethodDescriptor y.desc = some sig → argsL.length = sig.parameters.length) (has : as = (.ref a :: argsL).toArray) (hL : L.size = c.maxLocals) (hW : (st.map fun v => v.category).sum = W) (hd : decode c.code pc = .ok (.invokespecial index, 3)) (hp : pc + 3 = pc') (hf : rm.frames + 1 ≤ R.frames) (hl : W + (maxL + 11) + rm.locals ≤ R.locals) (hc1 : k + rm.cells ≤ R.cells) (hc2 : n + rm.slots ≤ R.slots) (hsf : ∀ x ∈ sf, h.size > x ∧ Safe Z EL vm h x)
    (K : ∀ (v : Option Value) (vm' : Vm) (h' : Heap), Q' v vm' h' → CHr Z EL vm h vm' h' → Go p l e R s m args below meth c Z a0 EL nw Q vm' h' (k + rm.cells) (n + rm.slots) pc' L (v.toList ++ st)) : Go p l e R s m args below meth c Z a0 EL nw Q vm h k n pc L (argsL.reverse ++ .ref a :: st) := fun T locs k0 hx hk hE X eT hS hk0 hF hZ hN hC hO => by
  subst hp has
  have hown' : (s.setVm vm).vm.findClass own = some m.cls := by
    show vm.findClass own = _
    rw [hZ.alike.findClass]; exact hown
  have hWW : 2 * (mkF m pc L (argsL.reverse ++ .ref a :: st)).monitorRoom + (st.map fun v => v.category).sum ≤ W := by show 2 * 0 + _ ≤ _; rw [Nat.mul_zero, Nat.zero_add]; exact Nat.le_of_eq hW
  have hB := fun len => Ct.back (p := p) (e := e) (below := below) (s := s) (args := args) (len := len) hM hZ wc wz hf hl hE hC.1 hO hsf
  subst hret0
  obtain ⟨v, vm1, ⟨T', L1, k1, n1⟩, -, X', hS', hg', hP', st'⟩ := X.specialBackNestS hx hinit hown' (Cond.methodLinkNest_wide hZ w1 :) (mv (s := s.setVm vm) hZ w2) (mv (s := s.setVm vm) hZ wc) hy (hB 3) (g := mkF m pc L (argsL.reverse ++ .ref a :: st)) rfl hL (Steps.refl _) (a := a) (argsL := argsL) (rest := st) hlen rfl hWW hd (fun _ _ => ⟨rfl, eT, hc1, hc2⟩)
  dsimp only [Pt.U, Pt.locs, Pt.cells, Pt.slots] at X' hS' hg' hP' st'
  obtain ⟨L2, rfl, rfl, rfl, q1, q2, q3, q4, q5⟩ := hP'
  obtain ⟨t, v', L', r1, r2⟩ := K v T'.vm T'.heap q2 q3 T' _ _ hx hk hE X' rfl (hS.trans hS' (Nat.le_trans hk0 (by rw [← eT]; exact hg'))) (Nat.le_refl _) (Fr.app hF q1) (State.Warmed39.trans (t := s.setVm vm) hZ hS'.1) (fun z => State.WarmedH.trans (t := s.setVm vm) (hN z) (q5 z)) (hC.trans q3) q4
  exact ⟨t, v', L', st'.trans r1, r2⟩
theorem Go.callV {own C : String} {a : Addr} {y0 : MethodName} {y : MethodName} {bytes : ByteArray} {maxL : Nat} {ret : Option FieldType} {rm : Room} {W index : Nat} {argsL : List Value} {as : Array Value} {sf : List Addr} {Q' : Option Value → Vm → Heap → Prop} (hM : Ct l Z EL nw [] y bytes maxL ret rm as h sf Q') (hown : Z.vm.findClass own = some m.cls) (w1 : (Jvm.Cond.methodLink own index y0).before a0 Z = true) (w2 : (Jvm.Cond.declares y0).before a0 Z = true) (nf : NotFace Z y0) (w3 : (Jvm.Cond.selects C y0 y).before a0 Z = true) (w4 : (Jvm.Cond.instanceMethod y).before a0 Z = true) (E : Exa Z h a C) (wc : (Jvm.Cond.code y bytes maxL ret).before a0 Z = true) (wz : (Jvm.Cond.initialized y.cls).before a0 Z = true)
    (hy : y0.cls ≠ "java/lang/invoke/MethodHandle" ∧ y0.cls ≠ "java/lang/invoke/VarHandle") (hlen : ∀ sig, parseMethodDescriptor y0.desc = some sig → argsL.length = sig.parameters.length) (has : as = (.ref a :: argsL).toArray) (hL : L.size = c.maxLocals) (hW : (st.map fun v => v.category).sum = W) (hd : decode c.code pc = .ok (.invokevirtual index, 3)) (hp : pc + 3 = pc') (hf : rm.frames + 1 ≤ R.frames) (hl : W + (maxL + 11) + rm.locals ≤ R.locals) (hc1 : k + rm.cells ≤ R.cells) (hc2 : n + rm.slots ≤ R.slots) (hsf : ∀ x ∈ sf, h.size > x ∧ Safe Z EL vm h x)
    (K : ∀ (v : Option Value) (vm' : Vm) (h' : Heap), Q' v vm' h' → CHr Z EL vm h vm' h' → Go p l e R s m args below meth c Z a0 EL nw Q vm' h' (k + rm.cells) (n + rm.slots) pc' L (v.toList ++ st)) : Go p l e R s m args below meth c Z a0 EL nw Q vm h k n pc L (argsL.reverse ++ .ref a :: st) := fun T locs k0 hx hk hE X eT hS hk0 hF hZ hN hC hO => by
  subst hp has
  have hown' : (s.setVm vm).vm.findClass own = some m.cls := by
    show vm.findClass own = _
    rw [hZ.alike.findClass]; exact hown
  have hWW : 2 * (mkF m pc L (argsL.reverse ++ .ref a :: st)).monitorRoom + (st.map fun v => v.category).sum ≤ W := by show 2 * 0 + _ ≤ _; rw [Nat.mul_zero, Nat.zero_add]; exact Nat.le_of_eq hW
  have hB := fun len => Ct.back (p := p) (e := e) (below := below) (s := s) (args := args) (len := len) hM hZ wc wz hf hl hE hC.1 hO hsf
  obtain ⟨cB, kB, qa, qb, qc⟩ := isOf (s := s.setVm vm) (T := T) hZ eT E
  obtain ⟨v, vm1, ⟨T', L1, k1, n1⟩, -, X', hS', hg', hP', st'⟩ := X.virtualBackS hx hown' (mv (s := s.setVm vm) hZ w1) (mv (s := s.setVm vm) hZ w2) (nf_warm hZ nf) (mv (s := s.setVm vm) hZ w3) (mv (s := s.setVm vm) hZ w4) hy (hB 3) qa qc (g := mkF m pc L (argsL.reverse ++ .ref a :: st)) rfl hL (Steps.refl _) (argsL := argsL) (rest := st) hlen rfl hWW hd (fun _ _ => ⟨rfl, eT, hc1, hc2⟩)
  dsimp only [Pt.U, Pt.locs, Pt.cells, Pt.slots] at X' hS' hg' hP' st'
  obtain ⟨L2, rfl, rfl, rfl, q1, q2, q3, q4, q5⟩ := hP'
  obtain ⟨t, v', L', r1, r2⟩ := K v T'.vm T'.heap q2 q3 T' _ _ hx hk hE X' rfl (hS.trans hS' (Nat.le_trans hk0 (by rw [← eT]; exact hg'))) (Nat.le_refl _) (Fr.app hF q1) (State.Warmed39.trans (t := s.setVm vm) hZ hS'.1) (fun z => State.WarmedH.trans (t := s.setVm vm) (hN z) (q5 z)) (hC.trans q3) q4
  exact ⟨t, v', L', st'.trans r1, r2⟩
theorem Go.callVU {own C owner : String} {a : Addr} {y0 : MethodName} {y : MethodName} {bytes : ByteArray} {maxL : Nat} {ret : Option FieldType} {rm : Room} {W index : Nat} {argsL : List Value} {as : Array Value} {sf : List Addr} {Q' : Option Value → Vm → Heap → Prop} (hM : Ct l Z EL nw [] y bytes maxL ret rm as h sf Q') (hown : Z.vm.findClass own = some m.cls) (w1 : (Jvm.Cond.methodLink own index y0).before a0 Z = true) (w2 : (Jvm.Cond.sameMethod y0.cls owner y0.name y0.desc).before a0 Z = true) (w5 : (Jvm.Cond.declares ⟨owner, y0.name, y0.desc⟩).before a0 Z = true) (w3 : (Jvm.Cond.selects C y0 y).before a0 Z = true) (w4 : (Jvm.Cond.instanceMethod y).before a0 Z = true) (E : Exa Z h a C) (wc : (Jvm.Cond.code y bytes maxL ret).before a0 Z = true) (wz : (Jvm.Cond.initialized y.cls).before a0 Z = true)
    (hy : owner ≠ "java/lang/invoke/MethodHandle" ∧ owner ≠ "java/lang/invoke/VarHandle") (hlen : ∀ sig, parseMethodDescriptor y0.desc = some sig → argsL.length = sig.parameters.length) (has : as = (.ref a :: argsL).toArray) (hL : L.size = c.maxLocals) (hW : (st.map fun v => v.category).sum = W) (hd : decode c.code pc = .ok (.invokevirtual index, 3)) (hp : pc + 3 = pc') (hf : rm.frames + 1 ≤ R.frames) (hl : W + (maxL + 11) + rm.locals ≤ R.locals) (hc1 : k + rm.cells ≤ R.cells) (hc2 : n + rm.slots ≤ R.slots) (hsf : ∀ x ∈ sf, h.size > x ∧ Safe Z EL vm h x)
    (K : ∀ (v : Option Value) (vm' : Vm) (h' : Heap), Q' v vm' h' → CHr Z EL vm h vm' h' → Go p l e R s m args below meth c Z a0 EL nw Q vm' h' (k + rm.cells) (n + rm.slots) pc' L (v.toList ++ st)) : Go p l e R s m args below meth c Z a0 EL nw Q vm h k n pc L (argsL.reverse ++ .ref a :: st) := fun T locs k0 hx hk hE X eT hS hk0 hF hZ hN hC hO => by
  subst hp has
  have hown' : (s.setVm vm).vm.findClass own = some m.cls := by
    show vm.findClass own = _
    rw [hZ.alike.findClass]; exact hown
  have hWW : 2 * (mkF m pc L (argsL.reverse ++ .ref a :: st)).monitorRoom + (st.map fun v => v.category).sum ≤ W := by show 2 * 0 + _ ≤ _; rw [Nat.mul_zero, Nat.zero_add]; exact Nat.le_of_eq hW
  have hB := fun len => Ct.back (p := p) (e := e) (below := below) (s := s) (args := args) (len := len) hM hZ wc wz hf hl hE hC.1 hO hsf
  obtain ⟨cB, kB, qa, qb, qc⟩ := isOf (s := s.setVm vm) (T := T) hZ eT E
  obtain ⟨v, vm1, ⟨T', L1, k1, n1⟩, -, X', hS', hg', hP', st'⟩ := X.virtualBackUpS hx hown' (mv (s := s.setVm vm) hZ w1) (mv (s := s.setVm vm) hZ w2) (mv (s := s.setVm vm) hZ w5) hy (mv (s := s.setVm vm) hZ w3) (mv (s := s.setVm vm) hZ w4) (hB 3) qa qc (g := mkF m pc L (argsL.reverse ++ .ref a :: st)) rfl hL (Steps.refl _) (argsL := argsL) (rest := st) hlen rfl hWW hd (fun _ _ => ⟨rfl, eT, hc1, hc2⟩)
  dsimp only [Pt.U, Pt.locs, Pt.cells, Pt.slots] at X' hS' hg' hP' st'
  obtain ⟨L2, rfl, rfl, rfl, q1, q2, q3, q4, q5⟩ := hP'
  obtain ⟨t, v', L', r1, r2⟩ := K v T'.vm T'.heap q2 q3 T' _ _ hx hk hE X' rfl (hS.trans hS' (Nat.le_trans hk0 (by rw [← eT]; exact hg'))) (Nat.le_refl _) (Fr.app hF q1) (State.Warmed39.trans (t := s.setVm vm) hZ hS'.1) (fun z => State.WarmedH.trans (t := s.setVm vm) (hN z) (q5 z)) (hC.trans q3) q4
  exact ⟨t, v', L', st'.trans r1, r2⟩
theorem Go.callI {own C : String} {a : Addr} {count : Nat} {y0 : MethodName} {y : MethodName} {bytes : ByteArray} {maxL : Nat} {ret : Option FieldType} {rm : Room} {W index : Nat} {argsL : List Value} {as : Array Value} {sf : List Addr} {Q' : Option Value → Vm → Heap → Prop} (hM : Ct l Z EL nw [] y bytes maxL ret rm as h sf Q') (hown : Z.vm.findClass own = some m.cls) (w1 : (Jvm.Cond.methodLink own index y0).before a0 Z = true) (w2 : (Jvm.Cond.declares y0).before a0 Z = true) (w5 : (Jvm.Cond.interfaceMethod y0.cls y0.cls y0.name y0.desc).before a0 Z = true) (w3 : (Jvm.Cond.selects C y0 y).before a0 Z = true) (w4 : (Jvm.Cond.instanceMethod y).before a0 Z = true) (w6 : (Jvm.Cond.publicMethod y).before a0 Z = true) (w7 : (Jvm.Cond.unhidden C y0.name y0.desc).before a0 Z = true) (w8 : (Jvm.Cond.castable C y0.cls).before a0 Z = true) (h5 : ((Jvm.Cond.interfaceMethod y0.cls y0.cls y0.name y0.desc).onTables && (Jvm.Cond.interfaceMethod y0.cls y0.cls y0.name y0.desc).keepsFace) = true) (E : Exa Z h a C) (wc : (Jvm.Cond.code y bytes maxL ret).before a0 Z = true) (wz : (Jvm.Cond.initialized y.cls).before a0 Z = true)
    (hy : y0.cls ≠ "java/lang/invoke/MethodHandle" ∧ y0.cls ≠ "java/lang/invoke/VarHandle") (hlen : ∀ sig, parseMethodDescriptor y0.desc = some sig → argsL.length = sig.parameters.length) (has : as = (.ref a :: argsL).toArray) (hL : L.size = c.maxLocals) (hW : (st.map fun v => v.category).sum = W) (hd : decode c.code pc = .ok (.invokeinterface index count, 5)) (hp : pc + 5 = pc') (hf : rm.frames + 1 ≤ R.frames) (hl : W + (maxL + 11) + rm.locals ≤ R.locals) (hc1 : k + rm.cells ≤ R.cells) (hc2 : n + rm.slots ≤ R.slots) (hsf : ∀ x ∈ sf, h.size > x ∧ Safe Z EL vm h x)
    (K : ∀ (v : Option Value) (vm' : Vm) (h' : Heap), Q' v vm' h' → CHr Z EL vm h vm' h' → Go p l e R s m args below meth c Z a0 EL nw Q vm' h' (k + rm.cells) (n + rm.slots) pc' L (v.toList ++ st)) : Go p l e R s m args below meth c Z a0 EL nw Q vm h k n pc L (argsL.reverse ++ .ref a :: st) := fun T locs k0 hx hk hE X eT hS hk0 hF hZ hN hC hO => by
  subst hp has
  have hown' : (s.setVm vm).vm.findClass own = some m.cls := by
    show vm.findClass own = _
    rw [hZ.alike.findClass]; exact hown
  have hWW : 2 * (mkF m pc L (argsL.reverse ++ .ref a :: st)).monitorRoom + (st.map fun v => v.category).sum ≤ W := by show 2 * 0 + _ ≤ _; rw [Nat.mul_zero, Nat.zero_add]; exact Nat.le_of_eq hW
  have hB := fun len => Ct.back (p := p) (e := e) (below := below) (s := s) (args := args) (len := len) hM hZ wc wz hf hl hE hC.1 hO hsf
  obtain ⟨cB, kB, qa, qb, qc⟩ := isOf (s := s.setVm vm) (T := T) hZ eT E
  obtain ⟨v, vm1, ⟨T', L1, k1, n1⟩, -, X', hS', hg', hP', st'⟩ := X.interfaceBackS hx hown' (mv (s := s.setVm vm) hZ w1) (mv (s := s.setVm vm) hZ w2) (mv (s := s.setVm vm) hZ w5 h5) (mv (s := s.setVm vm) hZ w3) (mv (s := s.setVm vm) hZ w4) (mv (s := s.setVm vm) hZ w6) (mv (s := s.setVm vm) hZ w7) (mv (s := s.setVm vm) hZ w8) hy (hB 5) qa qb qc (g := mkF m pc L (argsL.reverse ++ .ref a :: st)) rfl hL (Steps.refl _) (argsL := argsL) (rest := st) hlen rfl hWW hd (fun _ _ => ⟨rfl, eT, hc1, hc2⟩)
  dsimp only [Pt.U, Pt.locs, Pt.cells, Pt.slots] at X' hS' hg' hP' st'
  obtain ⟨L2, rfl, rfl, rfl, q1, q2, q3, q4, q5⟩ := hP'
  obtain ⟨t, v', L', r1, r2⟩ := K v T'.vm T'.heap q2 q3 T' _ _ hx hk hE X' rfl (hS.trans hS' (Nat.le_trans hk0 (by rw [← eT]; exact hg'))) (Nat.le_refl _) (Fr.app hF q1) (State.Warmed39.trans (t := s.setVm vm) hZ hS'.1) (fun z => State.WarmedH.trans (t := s.setVm vm) (hN z) (q5 z)) (hC.trans q3) q4
  exact ⟨t, v', L', st'.trans r1, r2⟩
theorem Go.callP {own C : String} {a : Addr} {y : MethodName} {bytes : ByteArray} {maxL : Nat} {ret : Option FieldType} {rm : Room} {W index : Nat} {argsL : List Value} {as : Array Value} {sf : List Addr} {Q' : Option Value → Vm → Heap → Prop} (hM : Ct l Z EL nw [] y bytes maxL ret rm as h sf Q') (hown : Z.vm.findClass own = some m.cls) (w1 : (Jvm.Cond.methodLink own index y).before a0 Z = true) (w2 : (Jvm.Cond.instanceMethod y).before a0 Z = true) (w3 : (Jvm.Cond.selects y.cls y y).before a0 Z = true) (w4 : (Jvm.Cond.privateMethod y).before a0 Z = true) (E : Exa Z h a C) (wc : (Jvm.Cond.code y bytes maxL ret).before a0 Z = true) (wz : (Jvm.Cond.initialized y.cls).before a0 Z = true)
    (hy : y.cls ≠ "java/lang/invoke/MethodHandle" ∧ y.cls ≠ "java/lang/invoke/VarHandle") (hlen : ∀ sig, parseMethodDescriptor y.desc = some sig → argsL.length = sig.parameters.length) (has : as = (.ref a :: argsL).toArray) (hL : L.size = c.maxLocals) (hW : (st.map fun v => v.category).sum = W) (hd : decode c.code pc = .ok (.invokevirtual index, 3)) (hp : pc + 3 = pc') (hf : rm.frames + 1 ≤ R.frames) (hl : W + (maxL + 11) + rm.locals ≤ R.locals) (hc1 : k + rm.cells ≤ R.cells) (hc2 : n + rm.slots ≤ R.slots) (hsf : ∀ x ∈ sf, h.size > x ∧ Safe Z EL vm h x)
    (K : ∀ (v : Option Value) (vm' : Vm) (h' : Heap), Q' v vm' h' → CHr Z EL vm h vm' h' → Go p l e R s m args below meth c Z a0 EL nw Q vm' h' (k + rm.cells) (n + rm.slots) pc' L (v.toList ++ st)) : Go p l e R s m args below meth c Z a0 EL nw Q vm h k n pc L (argsL.reverse ++ .ref a :: st) := fun T locs k0 hx hk hE X eT hS hk0 hF hZ hN hC hO => by
  subst hp has
  have hown' : (s.setVm vm).vm.findClass own = some m.cls := by
    show vm.findClass own = _
    rw [hZ.alike.findClass]; exact hown
  have hWW : 2 * (mkF m pc L (argsL.reverse ++ .ref a :: st)).monitorRoom + (st.map fun v => v.category).sum ≤ W := by show 2 * 0 + _ ≤ _; rw [Nat.mul_zero, Nat.zero_add]; exact Nat.le_of_eq hW
  have hB := fun len => Ct.back (p := p) (e := e) (below := below) (s := s) (args := args) (len := len) hM hZ wc wz hf hl hE hC.1 hO hsf
  obtain ⟨cq, q1', q2'⟩ := E.cell
  obtain ⟨v, vm1, ⟨T', L1, k1, n1⟩, -, X', hS', hg', hP', st'⟩ := X.privateBackS hx hown' (mv (s := s.setVm vm) hZ w1) (mv (s := s.setVm vm) hZ w2) (mv (s := s.setVm vm) hZ w3) (Cond.privateMethod_at (mvP (s := s.setVm vm) hZ w4 (args := #[]))) (mv (s := s.setVm vm) hZ wc) hy (hB 3) (g := mkF m pc L (argsL.reverse ++ .ref a :: st)) rfl hL (Steps.refl _) (a := a) (cell := cq) (by rw [eT]; exact q1') q2' (argsL := argsL) (rest := st) hlen rfl hWW hd (fun _ _ => ⟨rfl, eT, hc1, hc2⟩)
  dsimp only [Pt.U, Pt.locs, Pt.cells, Pt.slots] at X' hS' hg' hP' st'
  obtain ⟨L2, rfl, rfl, rfl, q1, q2, q3, q4, q5⟩ := hP'
  obtain ⟨t, v', L', r1, r2⟩ := K v T'.vm T'.heap q2 q3 T' _ _ hx hk hE X' rfl (hS.trans hS' (Nat.le_trans hk0 (by rw [← eT]; exact hg'))) (Nat.le_refl _) (Fr.app hF q1) (State.Warmed39.trans (t := s.setVm vm) hZ hS'.1) (fun z => State.WarmedH.trans (t := s.setVm vm) (hN z) (q5 z)) (hC.trans q3) q4
  exact ⟨t, v', L', st'.trans r1, r2⟩
end Walk
end Jvm.Own
namespace Jvm.Own
open Sem ClassFile Op Lib Jvm.Free Jvm.Stand Jvm.LawKit Jvm.RoadKit Bundle
theorem nc255 (x : Int32) : nar .char (x &&& 255) = x &&& 255 := i2c_mask x
theorem and_toInt (x : Int32) (m : Nat) (hm : m < 2 ^ 31) : 0 ≤ (x &&& Int32.ofNat m).toInt ∧ (x &&& Int32.ofNat m).toInt ≤ m := by
  have e : (x &&& Int32.ofNat m).toInt = (x.toBitVec &&& BitVec.ofNat 32 m).toInt := rfl
  have h1 : (x.toBitVec &&& BitVec.ofNat 32 m).toNat ≤ m := by
    rw [BitVec.toNat_and]
    refine Nat.le_trans Nat.and_le_right ?_
    rw [BitVec.toNat_ofNat]; exact Nat.mod_le _ _
  rw [e, BitVec.toInt_eq_toNat_of_lt (by omega)]
  omega
theorem m255 (x : Int32) : 0 ≤ (x &&& 255).toInt ∧ (x &&& 255).toInt ≤ 255 := and_toInt x 255 (by decide)
theorem al0 {P : Int32 → Prop} : ∀ x ∈ ([] : List Int32), P x := fun _ h => nomatch h
theorem alS {P : Int32 → Prop} {y : Int32} {L : List Int32} (q : P y) (r : ∀ x ∈ L, P x) : ∀ x ∈ y :: L, P x := fun x hx => (List.mem_cons.mp hx).elim (fun e => e ▸ q) (r x)
/-- the byte that a char becomes -/
def by8 (c : Int32) : Int32 := c.toInt8.toInt32
theorem toInt_nat {n : Nat} (h : n < 2 ^ 31) : n.toInt32.toInt = n := Int32.toInt_ofNat_small h
theorem clamp_nat {n : Nat} (h : n < 2 ^ 31) : n.toInt32.toNatClampNeg = n := by
  rw [← Int32.toNat_toInt, toInt_nat h]; rfl
theorem lt32 {i n : Nat} (hi : i < 2 ^ 31) (hn : n < 2 ^ 31) : i.toInt32 < n.toInt32 ↔ i < n := by
  rw [Int32.lt_iff_toInt_lt, toInt_nat hi, toInt_nat hn]; omega
theorem nneg32 {n : Nat} (h : n < 2 ^ 31) : ¬ n.toInt32 < 0 := by
  rw [Int32.lt_iff_toInt_lt, toInt_nat h]
  have e0 : (0 : Int32).toInt = 0 := rfl
  omega
theorem succ32 (i : Nat) : i.toInt32 + 1 = (i + 1).toInt32 := (Int32.ofNat_add i 1).symm
theorem eq32 {i n : Nat} (hi : i < 2 ^ 31) (hn : n < 2 ^ 31) : i.toInt32 = n.toInt32 ↔ i = n := by
  constructor
  · intro q
    have := congrArg Int32.toInt q
    rw [toInt_nat hi, toInt_nat hn] at this; omega
  · rintro rfl; rfl
theorem nz32 {n : Nat} (h : n < 2 ^ 31) (h0 : 0 < n) : ¬ n.toInt32 = 0 := fun q => by
  have := (eq32 (n := 0) h (by decide)).mp q; omega
theorem nar_by8 (c : Int32) : nar .byte (c.toInt8.toInt32) = by8 c := by
  show (c.toInt8.toInt32).toInt8.toInt32 = _
  simp [by8]
theorem sub0 (x : Int32) : x - x = 0 := by simp
theorem cache_ix {z : Int32} (h1 : ¬ z < -128) (h2 : ¬ (127 : Int32) < z) : ¬ (z + 128) < 0 ∧ (z + 128).toNatClampNeg < 256 := by
  rw [Int32.lt_iff_toInt_lt] at h1 h2
  have e1 : (-128 : Int32).toInt = -128 := rfl
  have e2 : (127 : Int32).toInt = 127 := rfl
  have e3 : (128 : Int32).toInt = 128 := rfl
  have e0 : (0 : Int32).toInt = 0 := rfl
  have q : (z + 128).toInt = z.toInt + 128 := by
    rw [Int32.toInt_add, e3]
    exact Int.bmod_eq_of_le (by omega) (by omega)
  refine ⟨?_, ?_⟩
  · rw [Int32.lt_iff_toInt_lt, q]; omega
  · rw [← Int32.toNat_toInt, q]; omega
/-- true and false as ints -/
def bo (q : Prop) [Decidable q] : Int32 := if q then 1 else 0
theorem bo_yes {q : Prop} [Decidable q] (h : q) : bo q = 1 := if_pos h
theorem bo_no {q : Prop} [Decidable q] (h : ¬ q) : bo q = 0 := if_neg h
theorem bo_nar {q : Prop} [Decidable q] : nar .boolean (bo q) = bo q := by unfold bo; split <;> rfl
theorem bo_ne0 {q : Prop} [Decidable q] : (¬ bo q = 0) ↔ q := by unfold bo; split <;> simp_all
theorem bo_cases {q : Prop} [Decidable q] : q ∧ bo q = 1 ∨ ¬ q ∧ bo q = 0 := by by_cases h : q <;> simp [bo, h]
theorem bo_congr {p q : Prop} [Decidable p] [Decidable q] (h : p ↔ q) : bo p = bo q := by unfold bo; simp [h]
theorem toInt_eq {x : Int32} {n : Int} (h : x.toInt = n) : x = Int32.ofInt n := by rw [← h, Int32.ofInt_toInt]
theorem and3 (x : Int32) : x &&& 3 = 0 ∨ x &&& 3 = 1 ∨ x &&& 3 = 2 ∨ x &&& 3 = 3 := by
  have h := and_toInt x 3 (by decide)
  have e : (x &&& Int32.ofNat 3) = x &&& 3 := rfl
  rw [e] at h
  have : (x &&& 3).toInt = 0 ∨ (x &&& 3).toInt = 1 ∨ (x &&& 3).toInt = 2 ∨ (x &&& 3).toInt = 3 := by omega
  rcases this with q | q | q | q
  · exact Or.inl (toInt_eq q)
  · exact Or.inr (Or.inl (toInt_eq q))
  · exact Or.inr (Or.inr (Or.inl (toInt_eq q)))
  · exact Or.inr (Or.inr (Or.inr (toInt_eq q)))
theorem rem3 (x : Int32) : (x &&& 3) % 3 = 0 ∨ (x &&& 3) % 3 = 1 ∨ (x &&& 3) % 3 = 2 := by
  rcases and3 x with q | q | q | q <;> rw [q] <;> decide
theorem by8_toInt (c : Int32) : (by8 c).toInt = c.toInt.bmod 256 := by
  show (c.toInt8.toInt32).toInt = _
  rw [Int8.toInt_toInt32, Int32.toInt_toInt8]
theorem by8_inj {x y : Int32} (hx : 0 ≤ x.toInt ∧ x.toInt ≤ 255) (hy : 0 ≤ y.toInt ∧ y.toInt ≤ 255) (h : by8 x = by8 y) : x = y := by
  have q := congrArg Int32.toInt h
  rw [by8_toInt, by8_toInt] at q
  apply Int32.toInt_inj.mp
  have h1 : (x.toInt.bmod 256) % 256 = x.toInt % 256 := Int.bmod_emod
  have h2 : (y.toInt.bmod 256) % 256 = y.toInt % 256 := Int.bmod_emod
  rw [q] at h1
  omega
theorem nch {x : Int32} (h : 0 ≤ x.toInt ∧ x.toInt ≤ 255) : nar .char x = x := by
  have e : x &&& 255 = x := by
    apply Int32.toBitVec_inj.mp
    show x.toBitVec &&& 255#32 = x.toBitVec
    apply BitVec.eq_of_toNat_eq
    have hn : x.toBitVec.toNat ≤ 255 := by
      have h2 : x.toInt = x.toBitVec.toInt := rfl
      rw [h2, BitVec.toInt_eq_toNat_cond] at h
      have := x.toBitVec.isLt
      split at h <;> omega
    rw [BitVec.toNat_and]
    show x.toBitVec.toNat &&& (2 ^ 8 - 1) = _
    rw [Nat.and_two_pow_sub_one_eq_mod]; omega
  rw [← e]; exact nc255 x
theorem le255 {x : Int32} (h : 0 ≤ x.toInt ∧ x.toInt ≤ 255) : ¬ (255 : Int32) < x := by
  rw [Int32.lt_iff_toInt_lt]
  have : (255 : Int32).toInt = 255 := rfl
  omega
theorem fill_set {α : Type} (xs : List α) (z : α) (i : Nat) (hi : i < xs.length) : (xs.take i ++ List.replicate (xs.length - i) z).set i xs[i] = xs.take (i + 1) ++ List.replicate (xs.length - (i + 1)) z := by
  have h1 : (xs.take i).length = i := by simp; omega
  have h2 : xs.length - i = (xs.length - (i + 1)) + 1 := by omega
  rw [List.set_append_right _ _ (by omega), h1, Nat.sub_self, h2, List.replicate_succ, List.set_cons_zero, List.take_succ_eq_append_getElem hi, List.append_assoc]; rfl
end Jvm.Own
namespace Jvm.Pilot.@@N@@
open Jvm Jvm.ClassFile Sem Op Lib Jvm.Free Jvm.Stand Jvm.LawKit Jvm.RoadKit Bundle Jvm.Own Jvm.Pilot.@@N@@.Jvm.D
def GH (Z : State) (a0 : Array Value) (EL : List (String × Nat)) (zc : Int32) (un ca : Addr) (kc : ClassId) (vs : List Value) : Prop :=
  (∀ d ∈ tables_1, d.before a0 Z = true) ∧ EW Z a0 EL ∧ True ∧ True ∧ Sta Z Z.heap "java/lang/String" "COMPACT_STRINGS" "Z" (.int zc) ∧ ¬ zc = 0 ∧ Sta Z Z.heap "com/example/bindery/bindery/Globals$Variable" "UNDEFINED" "Ljava/lang/Object;" (.ref un) ∧ Exa Z Z.heap un "java/lang/Object" ∧
    Sta Z Z.heap "java/lang/Integer$IntegerCache" "high" "I" (.int 127) ∧ Sta Z Z.heap "java/lang/Integer$IntegerCache" "cache" "[Ljava/lang/Integer;" (.ref ca) ∧ Ar Z Z.heap ca kc (.object "java/lang/Integer") vs ∧ ∀ i, i < 256 → ∃ x, vs[i]? = some (.ref x) ∧ Exa Z Z.heap x "java/lang/Integer"
theorem wd_0 {Z : State} {a0 : Array Value} {EL : List (String × Nat)} {zc : Int32} {un : Addr} {ca : Addr} {kc : ClassId} {vs : List Value} (g : GH Z a0 EL zc un ca kc vs) : (Jvm.Cond.arrayClass Jvm.ClassFile.FieldType.char).before a0 Z = true := g.1 _ (List.mem_of_getElem? (i := 0) rfl)
theorem wd_1 {Z : State} {a0 : Array Value} {EL : List (String × Nat)} {zc : Int32} {un : Addr} {ca : Addr} {kc : ClassId} {vs : List Value} (g : GH Z a0 EL zc un ca kc vs) : (Jvm.Cond.classLink "com/example/bindery/bindery/VariableAssignPinLaw" (7 : Nat) "com/example/bindery/bindery/Expr$Variable").before a0 Z = true := g.1 _ (List.mem_of_getElem? (i := 1) rfl)
theorem wd_2 {Z : State} {a0 : Array Value} {EL : List (String × Nat)} {zc : Int32} {un : Addr} {ca : Addr} {kc : ClassId} {vs : List Value} (g : GH Z a0 EL zc un ca kc vs) : (Jvm.Cond.instantiable "com/example/bindery/bindery/Expr$Variable" (5 : Nat)).before a0 Z = true := g.1 _ (List.mem_of_getElem? (i := 2) rfl)
theorem wd_3 {Z : State} {a0 : Array Value} {EL : List (String × Nat)} {zc : Int32} {un : Addr} {ca : Addr} {kc : ClassId} {vs : List Value} (g : GH Z a0 EL zc un ca kc vs) : (Jvm.Cond.initialized "com/example/bindery/bindery/Expr$Variable").before a0 Z = true := g.1 _ (List.mem_of_getElem? (i := 3) rfl)
theorem wd_4 {Z : State} {a0 : Array Value} {EL : List (String × Nat)} {zc : Int32} {un : Addr} {ca : Addr} {kc : ClassId} {vs : List Value} (g : GH Z a0 EL zc un ca kc vs) : (Jvm.Cond.classLink "com/example/bindery/bindery/VariableAssignPinLaw" (9 : Nat) "java/lang/String").before a0 Z = true := g.1 _ (List.mem_of_getElem? (i := 4) rfl)
theorem wd_5 {Z : State} {a0 : Array Value} {EL : List (String × Nat)} {zc : Int32} {un : Addr} {ca : Addr} {kc : ClassId} {vs : List Value} (g : GH Z a0 EL zc un ca kc vs) : (Jvm.Cond.instantiable "java/lang/String" (4 : Nat)).before a0 Z = true := g.1 _ (List.mem_of_getElem? (i := 5) rfl)
theorem wd_6 {Z : State} {a0 : Array Value} {EL : List (String × Nat)} {zc : Int32} {un : Addr} {ca : Addr} {kc : ClassId} {vs : List Value} (g : GH Z a0 EL zc un ca kc vs) : (Jvm.Cond.initialized "java/lang/String").before a0 Z = true := g.1 _ (List.mem_of_getElem? (i := 6) rfl)
theorem wd_7 {Z : State} {a0 : Array Value} {EL : List (String × Nat)} {zc : Int32} {un : Addr} {ca : Addr} {kc : ClassId} {vs : List Value} (g : GH Z a0 EL zc un ca kc vs) : (Jvm.Cond.methodLink "com/example/bindery/bindery/VariableAssignPinLaw" (11 : Nat) ({ cls := "java/lang/String", name := "<init>", desc := "([C)V" } : Jvm.MethodName)).before a0 Z = true := g.1 _ (List.mem_of_getElem? (i := 7) rfl)
theorem wd_8 {Z : State} {a0 : Array Value} {EL : List (String × Nat)} {zc : Int32} {un : Addr} {ca : Addr} {kc : ClassId} {vs : List Value} (g : GH Z a0 EL zc un ca kc vs) : (Jvm.Cond.instanceMethod ({ cls := "java/lang/String", name := "<init>", desc := "([C)V" } : Jvm.MethodName)).before a0 Z = true := g.1 _ (List.mem_of_getElem? (i := 8) rfl)
theorem wd_9 {Z : State} {a0 : Array Value} {EL : List (String × Nat)} {zc : Int32} {un : Addr} {ca : Addr} {kc : ClassId} {vs : List Value} (g : GH Z a0 EL zc un ca kc vs) : (Jvm.Cond.code ({ cls := "java/lang/String", name := "<init>", desc := "([C)V" } : Jvm.MethodName) jdk_42_method_3_code (2 : Nat) (Option.none : Option Jvm.ClassFile.FieldType)).before a0 Z = true := g.1 _ (List.mem_of_getElem? (i := 9) rfl)
theorem wd_10 {Z : State} {a0 : Array Value} {EL : List (String × Nat)} {zc : Int32} {un : Addr} {ca : Addr} {kc : ClassId} {vs : List Value} (g : GH Z a0 EL zc un ca kc vs) : (Jvm.Cond.methodLink "java/lang/String" (27 : Nat) ({ cls := "java/lang/String", name := "<init>", desc := "([CIILjava/lang/Void;)V" } : Jvm.MethodName)).before a0 Z = true := g.1 _ (List.mem_of_getElem? (i := 10) rfl)
theorem wd_11 {Z : State} {a0 : Array Value} {EL : List (String × Nat)} {zc : Int32} {un : Addr} {ca : Addr} {kc : ClassId} {vs : List Value} (g : GH Z a0 EL zc un ca kc vs) : (Jvm.Cond.instanceMethod ({ cls := "java/lang/String", name := "<init>", desc := "([CIILjava/lang/Void;)V" } : Jvm.MethodName)).before a0 Z = true := g.1 _ (List.mem_of_getElem? (i := 11) rfl)
theorem wd_13 {Z : State} {a0 : Array Value} {EL : List (String × Nat)} {zc : Int32} {un : Addr} {ca : Addr} {kc : ClassId} {vs : List Value} (g : GH Z a0 EL zc un ca kc vs) : (Jvm.Cond.code ({ cls := "java/lang/String", name := "<init>", desc := "([CIILjava/lang/Void;)V" } : Jvm.MethodName) jdk_42_method_149_code (6 : Nat) (Option.none : Option Jvm.ClassFile.FieldType)).before a0 Z = true := g.1 _ (List.mem_of_getElem? (i := 13) rfl)
theorem wd_14 {Z : State} {a0 : Array Value} {EL : List (String × Nat)} {zc : Int32} {un : Addr} {ca : Addr} {kc : ClassId} {vs : List Value} (g : GH Z a0 EL zc un ca kc vs) : (Jvm.Cond.methodLink "java/lang/String" (1 : Nat) ({ cls := "java/lang/Object", name := "<init>", desc := "()V" } : Jvm.MethodName)).before a0 Z = true := g.1 _ (List.mem_of_getElem? (i := 14) rfl)
theorem wd_15 {Z : State} {a0 : Array Value} {EL : List (String × Nat)} {zc : Int32} {un : Addr} {ca : Addr} {kc : ClassId} {vs : List Value} (g : GH Z a0 EL zc un ca kc vs) : (Jvm.Cond.instanceMethod ({ cls := "java/lang/Object", name := "<init>", desc := "()V" } : Jvm.MethodName)).before a0 Z = true := g.1 _ (List.mem_of_getElem? (i := 15) rfl)
theorem wd_16 {Z : State} {a0 : Array Value} {EL : List (String × Nat)} {zc : Int32} {un : Addr} {ca : Addr} {kc : ClassId} {vs : List Value} (g : GH Z a0 EL zc un ca kc vs) : (Jvm.Cond.code ({ cls := "java/lang/Object", name := "<init>", desc := "()V" } : Jvm.MethodName) object_method_1_code (1 : Nat) (Option.none : Option Jvm.ClassFile.FieldType)).before a0 Z = true := g.1 _ (List.mem_of_getElem? (i := 16) rfl)
theorem wd_17 {Z : State} {a0 : Array Value} {EL : List (String × Nat)} {zc : Int32} {un : Addr} {ca : Addr} {kc : ClassId} {vs : List Value} (g : GH Z a0 EL zc un ca kc vs) : (Jvm.Cond.fieldLink "java/lang/String" (38 : Nat) "java/lang/String" "COMPACT_STRINGS" "Z").before a0 Z = true := g.1 _ (List.mem_of_getElem? (i := 17) rfl)
theorem wd_18 {Z : State} {a0 : Array Value} {EL : List (String × Nat)} {zc : Int32} {un : Addr} {ca : Addr} {kc : ClassId} {vs : List Value} (g : GH Z a0 EL zc un ca kc vs) : (Jvm.Cond.methodLink "java/lang/String" (177 : Nat) ({ cls := "java/lang/StringUTF16", name := "compress", desc := "([CII)[B" } : Jvm.MethodName)).before a0 Z = true := g.1 _ (List.mem_of_getElem? (i := 18) rfl)
theorem wd_19 {Z : State} {a0 : Array Value} {EL : List (String × Nat)} {zc : Int32} {un : Addr} {ca : Addr} {kc : ClassId} {vs : List Value} (g : GH Z a0 EL zc un ca kc vs) : (Jvm.Cond.static ({ cls := "java/lang/StringUTF16", name := "compress", desc := "([CII)[B" } : Jvm.MethodName)).before a0 Z = true := g.1 _ (List.mem_of_getElem? (i := 19) rfl)
theorem wd_20 {Z : State} {a0 : Array Value} {EL : List (String × Nat)} {zc : Int32} {un : Addr} {ca : Addr} {kc : ClassId} {vs : List Value} (g : GH Z a0 EL zc un ca kc vs) : (Jvm.Cond.initialized "java/lang/StringUTF16").before a0 Z = true := g.1 _ (List.mem_of_getElem? (i := 20) rfl)
theorem wd_21 {Z : State} {a0 : Array Value} {EL : List (String × Nat)} {zc : Int32} {un : Addr} {ca : Addr} {kc : ClassId} {vs : List Value} (g : GH Z a0 EL zc un ca kc vs) : (Jvm.Cond.code ({ cls := "java/lang/StringUTF16", name := "compress", desc := "([CII)[B" } : Jvm.MethodName) jdk_52_method_16_code (6 : Nat) (Option.some (Jvm.ClassFile.FieldType.array Jvm.ClassFile.FieldType.byte))).before a0 Z = true := g.1 _ (List.mem_of_getElem? (i := 21) rfl)
theorem wd_22 {Z : State} {a0 : Array Value} {EL : List (String × Nat)} {zc : Int32} {un : Addr} {ca : Addr} {kc : ClassId} {vs : List Value} (g : GH Z a0 EL zc un ca kc vs) : (Jvm.Cond.arrayClass Jvm.ClassFile.FieldType.byte).before a0 Z = true := g.1 _ (List.mem_of_getElem? (i := 22) rfl)
theorem wd_23 {Z : State} {a0 : Array Value} {EL : List (String × Nat)} {zc : Int32} {un : Addr} {ca : Addr} {kc : ClassId} {vs : List Value} (g : GH Z a0 EL zc un ca kc vs) : (Jvm.Cond.methodLink "java/lang/StringUTF16" (115 : Nat) ({ cls := "java/lang/StringUTF16", name := "compress", desc := "([CI[BII)I" } : Jvm.MethodName)).before a0 Z = true := g.1 _ (List.mem_of_getElem? (i := 23) rfl)
theorem wd_24 {Z : State} {a0 : Array Value} {EL : List (String × Nat)} {zc : Int32} {un : Addr} {ca : Addr} {kc : ClassId} {vs : List Value} (g : GH Z a0 EL zc un ca kc vs) : (Jvm.Cond.static ({ cls := "java/lang/StringUTF16", name := "compress", desc := "([CI[BII)I" } : Jvm.MethodName)).before a0 Z = true := g.1 _ (List.mem_of_getElem? (i := 24) rfl)
theorem wd_25 {Z : State} {a0 : Array Value} {EL : List (String × Nat)} {zc : Int32} {un : Addr} {ca : Addr} {kc : ClassId} {vs : List Value} (g : GH Z a0 EL zc un ca kc vs) : (Jvm.Cond.code ({ cls := "java/lang/StringUTF16", name := "compress", desc := "([CI[BII)I" } : Jvm.MethodName) jdk_52_method_21_code (7 : Nat) (Option.some Jvm.ClassFile.FieldType.int)).before a0 Z = true := g.1 _ (List.mem_of_getElem? (i := 25) rfl)
theorem wd_26 {Z : State} {a0 : Array Value} {EL : List (String × Nat)} {zc : Int32} {un : Addr} {ca : Addr} {kc : ClassId} {vs : List Value} (g : GH Z a0 EL zc un ca kc vs) : (Jvm.Cond.methodLink "java/lang/String" (47 : Nat) ({ cls := "java/lang/StringUTF16", name := "coderFromArrayLen", desc := "([BI)B" } : Jvm.MethodName)).before a0 Z = true := g.1 _ (List.mem_of_getElem? (i := 26) rfl)
theorem wd_27 {Z : State} {a0 : Array Value} {EL : List (String × Nat)} {zc : Int32} {un : Addr} {ca : Addr} {kc : ClassId} {vs : List Value} (g : GH Z a0 EL zc un ca kc vs) : (Jvm.Cond.static ({ cls := "java/lang/StringUTF16", name := "coderFromArrayLen", desc := "([BI)B" } : Jvm.MethodName)).before a0 Z = true := g.1 _ (List.mem_of_getElem? (i := 27) rfl)
theorem wd_28 {Z : State} {a0 : Array Value} {EL : List (String × Nat)} {zc : Int32} {un : Addr} {ca : Addr} {kc : ClassId} {vs : List Value} (g : GH Z a0 EL zc un ca kc vs) : (Jvm.Cond.code ({ cls := "java/lang/StringUTF16", name := "coderFromArrayLen", desc := "([BI)B" } : Jvm.MethodName) jdk_52_method_15_code (2 : Nat) (Option.some Jvm.ClassFile.FieldType.byte)).before a0 Z = true := g.1 _ (List.mem_of_getElem? (i := 28) rfl)
theorem wd_29 {Z : State} {a0 : Array Value} {EL : List (String × Nat)} {zc : Int32} {un : Addr} {ca : Addr} {kc : ClassId} {vs : List Value} (g : GH Z a0 EL zc un ca kc vs) : (Jvm.Cond.fieldLink "java/lang/String" (15 : Nat) "java/lang/String" "coder" "B").before a0 Z = true := g.1 _ (List.mem_of_getElem? (i := 29) rfl)
theorem wd_30 {Z : State} {a0 : Array Value} {EL : List (String × Nat)} {zc : Int32} {un : Addr} {ca : Addr} {kc : ClassId} {vs : List Value} (g : GH Z a0 EL zc un ca kc vs) : (Jvm.Cond.laysFinal "java/lang/String" "java/lang/String" "coder" "B").before a0 Z = true := g.1 _ (List.mem_of_getElem? (i := 30) rfl)
theorem wd_31 {Z : State} {a0 : Array Value} {EL : List (String × Nat)} {zc : Int32} {un : Addr} {ca : Addr} {kc : ClassId} {vs : List Value} (g : GH Z a0 EL zc un ca kc vs) : (Jvm.Cond.fieldLink "java/lang/String" (9 : Nat) "java/lang/String" "value" "[B").before a0 Z = true := g.1 _ (List.mem_of_getElem? (i := 31) rfl)
theorem wd_32 {Z : State} {a0 : Array Value} {EL : List (String × Nat)} {zc : Int32} {un : Addr} {ca : Addr} {kc : ClassId} {vs : List Value} (g : GH Z a0 EL zc un ca kc vs) : (Jvm.Cond.laysFinal "java/lang/String" "java/lang/String" "value" "[B").before a0 Z = true := g.1 _ (List.mem_of_getElem? (i := 32) rfl)
theorem wd_33 {Z : State} {a0 : Array Value} {EL : List (String × Nat)} {zc : Int32} {un : Addr} {ca : Addr} {kc : ClassId} {vs : List Value} (g : GH Z a0 EL zc un ca kc vs) : (Jvm.Cond.methodLink "com/example/bindery/bindery/VariableAssignPinLaw" (14 : Nat) ({ cls := "com/example/bindery/bindery/Expr$Variable", name := "<init>", desc := "(Ljava/lang/String;I)V" } : Jvm.MethodName)).before a0 Z = true := g.1 _ (List.mem_of_getElem? (i := 33) rfl)
theorem wd_34 {Z : State} {a0 : Array Value} {EL : List (String × Nat)} {zc : Int32} {un : Addr} {ca : Addr} {kc : ClassId} {vs : List Value} (g : GH Z a0 EL zc un ca kc vs) : (Jvm.Cond.instanceMethod ({ cls := "com/example/bindery/bindery/Expr$Variable", name := "<init>", desc := "(Ljava/lang/String;I)V" } : Jvm.MethodName)).before a0 Z = true := g.1 _ (List.mem_of_getElem? (i := 34) rfl)
theorem wd_35 {Z : State} {a0 : Array Value} {EL : List (String × Nat)} {zc : Int32} {un : Addr} {ca : Addr} {kc : ClassId} {vs : List Value} (g : GH Z a0 EL zc un ca kc vs) : (Jvm.Cond.code ({ cls := "com/example/bindery/bindery/Expr$Variable", name := "<init>", desc := "(Ljava/lang/String;I)V" } : Jvm.MethodName) prog_14_method_1_code (3 : Nat) (Option.none : Option Jvm.ClassFile.FieldType)).before a0 Z = true := g.1 _ (List.mem_of_getElem? (i := 35) rfl)
theorem wd_36 {Z : State} {a0 : Array Value} {EL : List (String × Nat)} {zc : Int32} {un : Addr} {ca : Addr} {kc : ClassId} {vs : List Value} (g : GH Z a0 EL zc un ca kc vs) : (Jvm.Cond.methodLink "com/example/bindery/bindery/Expr$Variable" (1 : Nat) ({ cls := "com/example/bindery/bindery/Named", name := "<init>", desc := "(Ljava/lang/String;I)V" } : Jvm.MethodName)).before a0 Z = true := g.1 _ (List.mem_of_getElem? (i := 36) rfl)
theorem wd_37 {Z : State} {a0 : Array Value} {EL : List (String × Nat)} {zc : Int32} {un : Addr} {ca : Addr} {kc : ClassId} {vs : List Value} (g : GH Z a0 EL zc un ca kc vs) : (Jvm.Cond.instanceMethod ({ cls := "com/example/bindery/bindery/Named", name := "<init>", desc := "(Ljava/lang/String;I)V" } : Jvm.MethodName)).before a0 Z = true := g.1 _ (List.mem_of_getElem? (i := 37) rfl)
theorem wd_39 {Z : State} {a0 : Array Value} {EL : List (String × Nat)} {zc : Int32} {un : Addr} {ca : Addr} {kc : ClassId} {vs : List Value} (g : GH Z a0 EL zc un ca kc vs) : (Jvm.Cond.initialized "com/example/bindery/bindery/Named").before a0 Z = true := g.1 _ (List.mem_of_getElem? (i := 39) rfl)
theorem wd_40 {Z : State} {a0 : Array Value} {EL : List (String × Nat)} {zc : Int32} {un : Addr} {ca : Addr} {kc : ClassId} {vs : List Value} (g : GH Z a0 EL zc un ca kc vs) : (Jvm.Cond.code ({ cls := "com/example/bindery/bindery/Named", name := "<init>", desc := "(Ljava/lang/String;I)V" } : Jvm.MethodName) prog_25_method_1_code (3 : Nat) (Option.none : Option Jvm.ClassFile.FieldType)).before a0 Z = true := g.1 _ (List.mem_of_getElem? (i := 40) rfl)
theorem wd_41 {Z : State} {a0 : Array Value} {EL : List (String × Nat)} {zc : Int32} {un : Addr} {ca : Addr} {kc : ClassId} {vs : List Value} (g : GH Z a0 EL zc un ca kc vs) : (Jvm.Cond.methodLink "com/example/bindery/bindery/Named" (1 : Nat) ({ cls := "java/lang/Object", name := "<init>", desc := "()V" } : Jvm.MethodName)).before a0 Z = true := g.1 _ (List.mem_of_getElem? (i := 41) rfl)
theorem wd_42 {Z : State} {a0 : Array Value} {EL : List (String × Nat)} {zc : Int32} {un : Addr} {ca : Addr} {kc : ClassId} {vs : List Value} (g : GH Z a0 EL zc un ca kc vs) : (Jvm.Cond.fieldLink "com/example/bindery/bindery/Named" (7 : Nat) "com/example/bindery/bindery/Named" "lexeme" "Ljava/lang/String;").before a0 Z = true := g.1 _ (List.mem_of_getElem? (i := 42) rfl)
theorem wd_43 {Z : State} {a0 : Array Value} {EL : List (String × Nat)} {zc : Int32} {un : Addr} {ca : Addr} {kc : ClassId} {vs : List Value} (g : GH Z a0 EL zc un ca kc vs) : (Jvm.Cond.laysFinal "com/example/bindery/bindery/Expr$Variable" "com/example/bindery/bindery/Named" "lexeme" "Ljava/lang/String;").before a0 Z = true := g.1 _ (List.mem_of_getElem? (i := 43) rfl)
theorem wd_44 {Z : State} {a0 : Array Value} {EL : List (String × Nat)} {zc : Int32} {un : Addr} {ca : Addr} {kc : ClassId} {vs : List Value} (g : GH Z a0 EL zc un ca kc vs) : (Jvm.Cond.fieldLink "com/example/bindery/bindery/Named" (13 : Nat) "com/example/bindery/bindery/Named" "line" "I").before a0 Z = true := g.1 _ (List.mem_of_getElem? (i := 44) rfl)
theorem wd_45 {Z : State} {a0 : Array Value} {EL : List (String × Nat)} {zc : Int32} {un : Addr} {ca : Addr} {kc : ClassId} {vs : List Value} (g : GH Z a0 EL zc un ca kc vs) : (Jvm.Cond.laysFinal "com/example/bindery/bindery/Expr$Variable" "com/example/bindery/bindery/Named" "line" "I").before a0 Z = true := g.1 _ (List.mem_of_getElem? (i := 45) rfl)
theorem wd_46 {Z : State} {a0 : Array Value} {EL : List (String × Nat)} {zc : Int32} {un : Addr} {ca : Addr} {kc : ClassId} {vs : List Value} (g : GH Z a0 EL zc un ca kc vs) : (Jvm.Cond.classLink "com/example/bindery/bindery/VariableAssignPinLaw" (17 : Nat) "com/example/bindery/bindery/Globals$Variable").before a0 Z = true := g.1 _ (List.mem_of_getElem? (i := 46) rfl)
theorem wd_47 {Z : State} {a0 : Array Value} {EL : List (String × Nat)} {zc : Int32} {un : Addr} {ca : Addr} {kc : ClassId} {vs : List Value} (g : GH Z a0 EL zc un ca kc vs) : (Jvm.Cond.instantiable "com/example/bindery/bindery/Globals$Variable" (1 : Nat)).before a0 Z = true := g.1 _ (List.mem_of_getElem? (i := 47) rfl)
theorem wd_48 {Z : State} {a0 : Array Value} {EL : List (String × Nat)} {zc : Int32} {un : Addr} {ca : Addr} {kc : ClassId} {vs : List Value} (g : GH Z a0 EL zc un ca kc vs) : (Jvm.Cond.initialized "com/example/bindery/bindery/Globals$Variable").before a0 Z = true := g.1 _ (List.mem_of_getElem? (i := 48) rfl)
theorem wd_49 {Z : State} {a0 : Array Value} {EL : List (String × Nat)} {zc : Int32} {un : Addr} {ca : Addr} {kc : ClassId} {vs : List Value} (g : GH Z a0 EL zc un ca kc vs) : (Jvm.Cond.methodLink "com/example/bindery/bindery/VariableAssignPinLaw" (19 : Nat) ({ cls := "com/example/bindery/bindery/Globals$Variable", name := "<init>", desc := "()V" } : Jvm.MethodName)).before a0 Z = true := g.1 _ (List.mem_of_getElem? (i := 49) rfl)
theorem wd_50 {Z : State} {a0 : Array Value} {EL : List (String × Nat)} {zc : Int32} {un : Addr} {ca : Addr} {kc : ClassId} {vs : List Value} (g : GH Z a0 EL zc un ca kc vs) : (Jvm.Cond.instanceMethod ({ cls := "com/example/bindery/bindery/Globals$Variable", name := "<init>", desc := "()V" } : Jvm.MethodName)).before a0 Z = true := g.1 _ (List.mem_of_getElem? (i := 50) rfl)
theorem wd_51 {Z : State} {a0 : Array Value} {EL : List (String × Nat)} {zc : Int32} {un : Addr} {ca : Addr} {kc : ClassId} {vs : List Value} (g : GH Z a0 EL zc un ca kc vs) : (Jvm.Cond.code ({ cls := "com/example/bindery/bindery/Globals$Variable", name := "<init>", desc := "()V" } : Jvm.MethodName) prog_17_method_1_code (1 : Nat) (Option.none : Option Jvm.ClassFile.FieldType)).before a0 Z = true := g.1 _ (List.mem_of_getElem? (i := 51) rfl)
theorem wd_52 {Z : State} {a0 : Array Value} {EL : List (String × Nat)} {zc : Int32} {un : Addr} {ca : Addr} {kc : ClassId} {vs : List Value} (g : GH Z a0 EL zc un ca kc vs) : (Jvm.Cond.methodLink "com/example/bindery/bindery/Globals$Variable" (1 : Nat) ({ cls := "java/lang/Object", name := "<init>", desc := "()V" } : Jvm.MethodName)).before a0 Z = true := g.1 _ (List.mem_of_getElem? (i := 52) rfl)
theorem wd_53 {Z : State} {a0 : Array Value} {EL : List (String × Nat)} {zc : Int32} {un : Addr} {ca : Addr} {kc : ClassId} {vs : List Value} (g : GH Z a0 EL zc un ca kc vs) : (Jvm.Cond.fieldLink "com/example/bindery/bindery/Globals$Variable" (7 : Nat) "com/example/bindery/bindery/Globals$Variable" "UNDEFINED" "Ljava/lang/Object;").before a0 Z = true := g.1 _ (List.mem_of_getElem? (i := 53) rfl)
theorem wd_55 {Z : State} {a0 : Array Value} {EL : List (String × Nat)} {zc : Int32} {un : Addr} {ca : Addr} {kc : ClassId} {vs : List Value} (g : GH Z a0 EL zc un ca kc vs) : (Jvm.Cond.fieldLink "com/example/bindery/bindery/Globals$Variable" (13 : Nat) "com/example/bindery/bindery/Globals$Variable" "value" "Ljava/lang/Object;").before a0 Z = true := g.1 _ (List.mem_of_getElem? (i := 55) rfl)
theorem wd_56 {Z : State} {a0 : Array Value} {EL : List (String × Nat)} {zc : Int32} {un : Addr} {ca : Addr} {kc : ClassId} {vs : List Value} (g : GH Z a0 EL zc un ca kc vs) : (Jvm.Cond.lays "com/example/bindery/bindery/Globals$Variable" "com/example/bindery/bindery/Globals$Variable" "value" "Ljava/lang/Object;").before a0 Z = true := g.1 _ (List.mem_of_getElem? (i := 56) rfl)
theorem wd_57 {Z : State} {a0 : Array Value} {EL : List (String × Nat)} {zc : Int32} {un : Addr} {ca : Addr} {kc : ClassId} {vs : List Value} (g : GH Z a0 EL zc un ca kc vs) : (Jvm.Cond.methodLink "com/example/bindery/bindery/VariableAssignPinLaw" (20 : Nat) ({ cls := "java/lang/Integer", name := "valueOf", desc := "(I)Ljava/lang/Integer;" } : Jvm.MethodName)).before a0 Z = true := g.1 _ (List.mem_of_getElem? (i := 57) rfl)
theorem wd_58 {Z : State} {a0 : Array Value} {EL : List (String × Nat)} {zc : Int32} {un : Addr} {ca : Addr} {kc : ClassId} {vs : List Value} (g : GH Z a0 EL zc un ca kc vs) : (Jvm.Cond.static ({ cls := "java/lang/Integer", name := "valueOf", desc := "(I)Ljava/lang/Integer;" } : Jvm.MethodName)).before a0 Z = true := g.1 _ (List.mem_of_getElem? (i := 58) rfl)
theorem wd_59 {Z : State} {a0 : Array Value} {EL : List (String × Nat)} {zc : Int32} {un : Addr} {ca : Addr} {kc : ClassId} {vs : List Value} (g : GH Z a0 EL zc un ca kc vs) : (Jvm.Cond.initialized "java/lang/Integer").before a0 Z = true := g.1 _ (List.mem_of_getElem? (i := 59) rfl)
theorem wd_60 {Z : State} {a0 : Array Value} {EL : List (String × Nat)} {zc : Int32} {un : Addr} {ca : Addr} {kc : ClassId} {vs : List Value} (g : GH Z a0 EL zc un ca kc vs) : (Jvm.Cond.code ({ cls := "java/lang/Integer", name := "valueOf", desc := "(I)Ljava/lang/Integer;" } : Jvm.MethodName) jdk_33_method_22_code (1 : Nat) (Option.some (Jvm.ClassFile.FieldType.object "java/lang/Integer"))).before a0 Z = true := g.1 _ (List.mem_of_getElem? (i := 60) rfl)
theorem wd_61 {Z : State} {a0 : Array Value} {EL : List (String × Nat)} {zc : Int32} {un : Addr} {ca : Addr} {kc : ClassId} {vs : List Value} (g : GH Z a0 EL zc un ca kc vs) : (Jvm.Cond.fieldLink "java/lang/Integer" (191 : Nat) "java/lang/Integer$IntegerCache" "high" "I").before a0 Z = true := g.1 _ (List.mem_of_getElem? (i := 61) rfl)
theorem wd_63 {Z : State} {a0 : Array Value} {EL : List (String × Nat)} {zc : Int32} {un : Addr} {ca : Addr} {kc : ClassId} {vs : List Value} (g : GH Z a0 EL zc un ca kc vs) : (Jvm.Cond.fieldLink "java/lang/Integer" (195 : Nat) "java/lang/Integer$IntegerCache" "cache" "[Ljava/lang/Integer;").before a0 Z = true := g.1 _ (List.mem_of_getElem? (i := 63) rfl)
theorem wd_64 {Z : State} {a0 : Array Value} {EL : List (String × Nat)} {zc : Int32} {un : Addr} {ca : Addr} {kc : ClassId} {vs : List Value} (g : GH Z a0 EL zc un ca kc vs) : (Jvm.Cond.methodLink "com/example/bindery/bindery/VariableAssignPinLaw" (26 : Nat) ({ cls := "com/example/bindery/bindery/Globals$Variable", name := "define", desc := "(Ljava/lang/Object;)V" } : Jvm.MethodName)).before a0 Z = true := g.1 _ (List.mem_of_getElem? (i := 64) rfl)
theorem wd_65 {Z : State} {a0 : Array Value} {EL : List (String × Nat)} {zc : Int32} {un : Addr} {ca : Addr} {kc : ClassId} {vs : List Value} (g : GH Z a0 EL zc un ca kc vs) : (Jvm.Cond.declares ({ cls := "com/example/bindery/bindery/Globals$Variable", name := "define", desc := "(Ljava/lang/Object;)V" } : Jvm.MethodName)).before a0 Z = true := g.1 _ (List.mem_of_getElem? (i := 65) rfl)
theorem wd_66 {Z : State} {a0 : Array Value} {EL : List (String × Nat)} {zc : Int32} {un : Addr} {ca : Addr} {kc : ClassId} {vs : List Value} (g : GH Z a0 EL zc un ca kc vs) : (Jvm.Cond.instanceMethod ({ cls := "com/example/bindery/bindery/Globals$Variable", name := "define", desc := "(Ljava/lang/Object;)V" } : Jvm.MethodName)).before a0 Z = true := g.1 _ (List.mem_of_getElem? (i := 66) rfl)
theorem wd_67 {Z : State} {a0 : Array Value} {EL : List (String × Nat)} {zc : Int32} {un : Addr} {ca : Addr} {kc : ClassId} {vs : List Value} (g : GH Z a0 EL zc un ca kc vs) : (Jvm.Cond.selects "com/example/bindery/bindery/Globals$Variable" ({ cls := "com/example/bindery/bindery/Globals$Variable", name := "define", desc := "(Ljava/lang/Object;)V" } : Jvm.MethodName) ({ cls := "com/example/bindery/bindery/Globals$Variable", name := "define", desc := "(Ljava/lang/Object;)V" } : Jvm.MethodName)).before a0 Z = true := g.1 _ (List.mem_of_getElem? (i := 67) rfl)
theorem wd_68 {Z : State} {a0 : Array Value} {EL : List (String × Nat)} {zc : Int32} {un : Addr} {ca : Addr} {kc : ClassId} {vs : List Value} (g : GH Z a0 EL zc un ca kc vs) : (Jvm.Cond.code ({ cls := "com/example/bindery/bindery/Globals$Variable", name := "define", desc := "(Ljava/lang/Object;)V" } : Jvm.MethodName) prog_17_method_4_code (2 : Nat) (Option.none : Option Jvm.ClassFile.FieldType)).before a0 Z = true := g.1 _ (List.mem_of_getElem? (i := 68) rfl)
theorem wd_69 {Z : State} {a0 : Array Value} {EL : List (String × Nat)} {zc : Int32} {un : Addr} {ca : Addr} {kc : ClassId} {vs : List Value} (g : GH Z a0 EL zc un ca kc vs) : (Jvm.Cond.methodLink "com/example/bindery/bindery/VariableAssignPinLaw" (30 : Nat) ({ cls := "com/example/bindery/bindery/Globals$Variable", name := "assign", desc := "(Lcom/example/bindery/bindery/Named;Ljava/lang/Object;)V" } : Jvm.MethodName)).before a0 Z = true := g.1 _ (List.mem_of_getElem? (i := 69) rfl)
theorem wd_70 {Z : State} {a0 : Array Value} {EL : List (String × Nat)} {zc : Int32} {un : Addr} {ca : Addr} {kc : ClassId} {vs : List Value} (g : GH Z a0 EL zc un ca kc vs) : (Jvm.Cond.declares ({ cls := "com/example/bindery/bindery/Globals$Variable", name := "assign", desc := "(Lcom/example/bindery/bindery/Named;Ljava/lang/Object;)V" } : Jvm.MethodName)).before a0 Z = true := g.1 _ (List.mem_of_getElem? (i := 70) rfl)
theorem wd_71 {Z : State} {a0 : Array Value} {EL : List (String × Nat)} {zc : Int32} {un : Addr} {ca : Addr} {kc : ClassId} {vs : List Value} (g : GH Z a0 EL zc un ca kc vs) : (Jvm.Cond.instanceMethod ({ cls := "com/example/bindery/bindery/Globals$Variable", name := "assign", desc := "(Lcom/example/bindery/bindery/Named;Ljava/lang/Object;)V" } : Jvm.MethodName)).before a0 Z = true := g.1 _ (List.mem_of_getElem? (i := 71) rfl)
theorem wd_72 {Z : State} {a0 : Array Value} {EL : List (String × Nat)} {zc : Int32} {un : Addr} {ca : Addr} {kc : ClassId} {vs : List Value} (g : GH Z a0 EL zc un ca kc vs) : (Jvm.Cond.selects "com/example/bindery/bindery/Globals$Variable" ({ cls := "com/example/bindery/bindery/Globals$Variable", name := "assign", desc := "(Lcom/example/bindery/bindery/Named;Ljava/lang/Object;)V" } : Jvm.MethodName) ({ cls := "com/example/bindery/bindery/Globals$Variable", name := "assign", desc := "(Lcom/example/bindery/bindery/Named;Ljava/lang/Object;)V" } : Jvm.MethodName)).before a0 Z = true := g.1 _ (List.mem_of_getElem? (i := 72) rfl)
theorem wd_73 {Z : State} {a0 : Array Value} {EL : List (String × Nat)} {zc : Int32} {un : Addr} {ca : Addr} {kc : ClassId} {vs : List Value} (g : GH Z a0 EL zc un ca kc vs) : (Jvm.Cond.code ({ cls := "com/example/bindery/bindery/Globals$Variable", name := "assign", desc := "(Lcom/example/bindery/bindery/Named;Ljava/lang/Object;)V" } : Jvm.MethodName) prog_17_method_3_code (3 : Nat) (Option.none : Option Jvm.ClassFile.FieldType)).before a0 Z = true := g.1 _ (List.mem_of_getElem? (i := 73) rfl)
theorem wd_74 {Z : State} {a0 : Array Value} {EL : List (String × Nat)} {zc : Int32} {un : Addr} {ca : Addr} {kc : ClassId} {vs : List Value} (g : GH Z a0 EL zc un ca kc vs) : (Jvm.Cond.methodLink "com/example/bindery/bindery/VariableAssignPinLaw" (34 : Nat) ({ cls := "com/example/bindery/bindery/Globals$Variable", name := "get", desc := "(Lcom/example/bindery/bindery/Named;)Ljava/lang/Object;" } : Jvm.MethodName)).before a0 Z = true := g.1 _ (List.mem_of_getElem? (i := 74) rfl)
theorem wd_75 {Z : State} {a0 : Array Value} {EL : List (String × Nat)} {zc : Int32} {un : Addr} {ca : Addr} {kc : ClassId} {vs : List Value} (g : GH Z a0 EL zc un ca kc vs) : (Jvm.Cond.declares ({ cls := "com/example/bindery/bindery/Globals$Variable", name := "get", desc := "(Lcom/example/bindery/bindery/Named;)Ljava/lang/Object;" } : Jvm.MethodName)).before a0 Z = true := g.1 _ (List.mem_of_getElem? (i := 75) rfl)
theorem wd_76 {Z : State} {a0 : Array Value} {EL : List (String × Nat)} {zc : Int32} {un : Addr} {ca : Addr} {kc : ClassId} {vs : List Value} (g : GH Z a0 EL zc un ca kc vs) : (Jvm.Cond.instanceMethod ({ cls := "com/example/bindery/bindery/Globals$Variable", name := "get", desc := "(Lcom/example/bindery/bindery/Named;)Ljava/lang/Object;" } : Jvm.MethodName)).before a0 Z = true := g.1 _ (List.mem_of_getElem? (i := 76) rfl)
theorem wd_77 {Z : State} {a0 : Array Value} {EL : List (String × Nat)} {zc : Int32} {un : Addr} {ca : Addr} {kc : ClassId} {vs : List Value} (g : GH Z a0 EL zc un ca kc vs) : (Jvm.Cond.selects "com/example/bindery/bindery/Globals$Variable" ({ cls := "com/example/bindery/bindery/Globals$Variable", name := "get", desc := "(Lcom/example/bindery/bindery/Named;)Ljava/lang/Object;" } : Jvm.MethodName) ({ cls := "com/example/bindery/bindery/Globals$Variable", name := "get", desc := "(Lcom/example/bindery/bindery/Named;)Ljava/lang/Object;" } : Jvm.MethodName)).before a0 Z = true := g.1 _ (List.mem_of_getElem? (i := 77) rfl)
theorem wd_78 {Z : State} {a0 : Array Value} {EL : List (String × Nat)} {zc : Int32} {un : Addr} {ca : Addr} {kc : ClassId} {vs : List Value} (g : GH Z a0 EL zc un ca kc vs) : (Jvm.Cond.code ({ cls := "com/example/bindery/bindery/Globals$Variable", name := "get", desc := "(Lcom/example/bindery/bindery/Named;)Ljava/lang/Object;" } : Jvm.MethodName) prog_17_method_2_code (2 : Nat) (Option.some (Jvm.ClassFile.FieldType.object "java/lang/Object"))).before a0 Z = true := g.1 _ (List.mem_of_getElem? (i := 78) rfl)
theorem wd_79 {Z : State} {a0 : Array Value} {EL : List (String × Nat)} {zc : Int32} {un : Addr} {ca : Addr} {kc : ClassId} {vs : List Value} (g : GH Z a0 EL zc un ca kc vs) : (Jvm.Cond.classLink "java/lang/Integer" (1 : Nat) "java/lang/Integer").before a0 Z = true := g.1 _ (List.mem_of_getElem? (i := 79) rfl)
theorem wd_80 {Z : State} {a0 : Array Value} {EL : List (String × Nat)} {zc : Int32} {un : Addr} {ca : Addr} {kc : ClassId} {vs : List Value} (g : GH Z a0 EL zc un ca kc vs) : (Jvm.Cond.instantiable "java/lang/Integer" (1 : Nat)).before a0 Z = true := g.1 _ (List.mem_of_getElem? (i := 80) rfl)
theorem wd_81 {Z : State} {a0 : Array Value} {EL : List (String × Nat)} {zc : Int32} {un : Addr} {ca : Addr} {kc : ClassId} {vs : List Value} (g : GH Z a0 EL zc un ca kc vs) : (Jvm.Cond.methodLink "java/lang/Integer" (199 : Nat) ({ cls := "java/lang/Integer", name := "<init>", desc := "(I)V" } : Jvm.MethodName)).before a0 Z = true := g.1 _ (List.mem_of_getElem? (i := 81) rfl)
theorem wd_82 {Z : State} {a0 : Array Value} {EL : List (String × Nat)} {zc : Int32} {un : Addr} {ca : Addr} {kc : ClassId} {vs : List Value} (g : GH Z a0 EL zc un ca kc vs) : (Jvm.Cond.instanceMethod ({ cls := "java/lang/Integer", name := "<init>", desc := "(I)V" } : Jvm.MethodName)).before a0 Z = true := g.1 _ (List.mem_of_getElem? (i := 82) rfl)
theorem wd_84 {Z : State} {a0 : Array Value} {EL : List (String × Nat)} {zc : Int32} {un : Addr} {ca : Addr} {kc : ClassId} {vs : List Value} (g : GH Z a0 EL zc un ca kc vs) : (Jvm.Cond.code ({ cls := "java/lang/Integer", name := "<init>", desc := "(I)V" } : Jvm.MethodName) jdk_33_method_23_code (2 : Nat) (Option.none : Option Jvm.ClassFile.FieldType)).before a0 Z = true := g.1 _ (List.mem_of_getElem? (i := 84) rfl)
theorem wd_85 {Z : State} {a0 : Array Value} {EL : List (String × Nat)} {zc : Int32} {un : Addr} {ca : Addr} {kc : ClassId} {vs : List Value} (g : GH Z a0 EL zc un ca kc vs) : (Jvm.Cond.methodLink "java/lang/Integer" (202 : Nat) ({ cls := "java/lang/Number", name := "<init>", desc := "()V" } : Jvm.MethodName)).before a0 Z = true := g.1 _ (List.mem_of_getElem? (i := 85) rfl)
theorem wd_86 {Z : State} {a0 : Array Value} {EL : List (String × Nat)} {zc : Int32} {un : Addr} {ca : Addr} {kc : ClassId} {vs : List Value} (g : GH Z a0 EL zc un ca kc vs) : (Jvm.Cond.instanceMethod ({ cls := "java/lang/Number", name := "<init>", desc := "()V" } : Jvm.MethodName)).before a0 Z = true := g.1 _ (List.mem_of_getElem? (i := 86) rfl)
theorem wd_89 {Z : State} {a0 : Array Value} {EL : List (String × Nat)} {zc : Int32} {un : Addr} {ca : Addr} {kc : ClassId} {vs : List Value} (g : GH Z a0 EL zc un ca kc vs) : (Jvm.Cond.initialized "java/lang/Number").before a0 Z = true := g.1 _ (List.mem_of_getElem? (i := 89) rfl)
theorem wd_90 {Z : State} {a0 : Array Value} {EL : List (String × Nat)} {zc : Int32} {un : Addr} {ca : Addr} {kc : ClassId} {vs : List Value} (g : GH Z a0 EL zc un ca kc vs) : (Jvm.Cond.code ({ cls := "java/lang/Number", name := "<init>", desc := "()V" } : Jvm.MethodName) jdk_18_method_1_code (1 : Nat) (Option.none : Option Jvm.ClassFile.FieldType)).before a0 Z = true := g.1 _ (List.mem_of_getElem? (i := 90) rfl)
theorem wd_91 {Z : State} {a0 : Array Value} {EL : List (String × Nat)} {zc : Int32} {un : Addr} {ca : Addr} {kc : ClassId} {vs : List Value} (g : GH Z a0 EL zc un ca kc vs) : (Jvm.Cond.methodLink "java/lang/Number" (1 : Nat) ({ cls := "java/lang/Object", name := "<init>", desc := "()V" } : Jvm.MethodName)).before a0 Z = true := g.1 _ (List.mem_of_getElem? (i := 91) rfl)
theorem wd_92 {Z : State} {a0 : Array Value} {EL : List (String × Nat)} {zc : Int32} {un : Addr} {ca : Addr} {kc : ClassId} {vs : List Value} (g : GH Z a0 EL zc un ca kc vs) : (Jvm.Cond.fieldLink "java/lang/Integer" (205 : Nat) "java/lang/Integer" "value" "I").before a0 Z = true := g.1 _ (List.mem_of_getElem? (i := 92) rfl)
theorem wd_93 {Z : State} {a0 : Array Value} {EL : List (String × Nat)} {zc : Int32} {un : Addr} {ca : Addr} {kc : ClassId} {vs : List Value} (g : GH Z a0 EL zc un ca kc vs) : (Jvm.Cond.laysFinal "java/lang/Integer" "java/lang/Integer" "value" "I").before a0 Z = true := g.1 _ (List.mem_of_getElem? (i := 93) rfl)
theorem D_prog_14_method_1_code_0 : decode prog_14_method_1_code 0 = .ok (.aload_n 0, 1) := by decide +kernel
theorem D_prog_14_method_1_code_1 : decode prog_14_method_1_code 1 = .ok (.aload_n 1, 1) := by decide +kernel
theorem D_prog_14_method_1_code_2 : decode prog_14_method_1_code 2 = .ok (.iload_n 2, 1) := by decide +kernel
theorem D_prog_14_method_1_code_3 : decode prog_14_method_1_code 3 = .ok (.invokespecial 1, 3) := by decide +kernel
theorem D_prog_14_method_1_code_6 : decode prog_14_method_1_code 6 = .ok (.return_, 1) := by decide +kernel
theorem D_prog_17_method_1_code_0 : decode prog_17_method_1_code 0 = .ok (.aload_n 0, 1) := by decide +kernel
theorem D_prog_17_method_1_code_1 : decode prog_17_method_1_code 1 = .ok (.invokespecial 1, 3) := by decide +kernel
theorem D_prog_17_method_1_code_11 : decode prog_17_method_1_code 11 = .ok (.return_, 1) := by decide +kernel
theorem D_prog_17_method_1_code_4 : decode prog_17_method_1_code 4 = .ok (.aload_n 0, 1) := by decide +kernel
theorem D_prog_17_method_1_code_5 : decode prog_17_method_1_code 5 = .ok (.getstatic 7, 3) := by decide +kernel
theorem D_prog_17_method_1_code_8 : decode prog_17_method_1_code 8 = .ok (.putfield 13, 3) := by decide +kernel
theorem D_prog_17_method_3_code_0 : decode prog_17_method_3_code 0 = .ok (.aload_n 0, 1) := by decide +kernel
theorem D_prog_17_method_3_code_1 : decode prog_17_method_3_code 1 = .ok (.getfield 13, 3) := by decide +kernel
theorem D_prog_17_method_3_code_15 : decode prog_17_method_3_code 15 = .ok (.aload_n 0, 1) := by decide +kernel
theorem D_prog_17_method_3_code_16 : decode prog_17_method_3_code 16 = .ok (.aload_n 2, 1) := by decide +kernel
theorem D_prog_17_method_3_code_17 : decode prog_17_method_3_code 17 = .ok (.putfield 13, 3) := by decide +kernel
theorem D_prog_17_method_3_code_20 : decode prog_17_method_3_code 20 = .ok (.return_, 1) := by decide +kernel
theorem D_prog_17_method_3_code_4 : decode prog_17_method_3_code 4 = .ok (.getstatic 7, 3) := by decide +kernel
theorem D_prog_17_method_3_code_7 : decode prog_17_method_3_code 7 = .ok (.if_acmp .ne 8, 3) := by decide +kernel
theorem D_prog_17_method_4_code_0 : decode prog_17_method_4_code 0 = .ok (.aload_n 0, 1) := by decide +kernel
theorem D_prog_17_method_4_code_1 : decode prog_17_method_4_code 1 = .ok (.aload_n 1, 1) := by decide +kernel
theorem D_prog_17_method_4_code_2 : decode prog_17_method_4_code 2 = .ok (.putfield 13, 3) := by decide +kernel
theorem D_prog_17_method_4_code_5 : decode prog_17_method_4_code 5 = .ok (.return_, 1) := by decide +kernel
theorem D_prog_17_method_2_code_0 : decode prog_17_method_2_code 0 = .ok (.aload_n 0, 1) := by decide +kernel
theorem D_prog_17_method_2_code_1 : decode prog_17_method_2_code 1 = .ok (.getfield 13, 3) := by decide +kernel
theorem D_prog_17_method_2_code_15 : decode prog_17_method_2_code 15 = .ok (.aload_n 0, 1) := by decide +kernel
theorem D_prog_17_method_2_code_16 : decode prog_17_method_2_code 16 = .ok (.getfield 13, 3) := by decide +kernel
theorem D_prog_17_method_2_code_19 : decode prog_17_method_2_code 19 = .ok (.areturn, 1) := by decide +kernel
theorem D_prog_17_method_2_code_4 : decode prog_17_method_2_code 4 = .ok (.getstatic 7, 3) := by decide +kernel
theorem D_prog_17_method_2_code_7 : decode prog_17_method_2_code 7 = .ok (.if_acmp .ne 8, 3) := by decide +kernel
theorem D_prog_25_method_1_code_0 : decode prog_25_method_1_code 0 = .ok (.aload_n 0, 1) := by decide +kernel
theorem D_prog_25_method_1_code_1 : decode prog_25_method_1_code 1 = .ok (.invokespecial 1, 3) := by decide +kernel
theorem D_prog_25_method_1_code_10 : decode prog_25_method_1_code 10 = .ok (.iload_n 2, 1) := by decide +kernel
theorem D_prog_25_method_1_code_11 : decode prog_25_method_1_code 11 = .ok (.putfield 13, 3) := by decide +kernel
theorem D_prog_25_method_1_code_14 : decode prog_25_method_1_code 14 = .ok (.return_, 1) := by decide +kernel
theorem D_prog_25_method_1_code_4 : decode prog_25_method_1_code 4 = .ok (.aload_n 0, 1) := by decide +kernel
theorem D_prog_25_method_1_code_5 : decode prog_25_method_1_code 5 = .ok (.aload_n 1, 1) := by decide +kernel
theorem D_prog_25_method_1_code_6 : decode prog_25_method_1_code 6 = .ok (.putfield 7, 3) := by decide +kernel
theorem D_prog_25_method_1_code_9 : decode prog_25_method_1_code 9 = .ok (.aload_n 0, 1) := by decide +kernel
theorem D_jdk_33_method_23_code_0 : decode jdk_33_method_23_code 0 = .ok (.aload_n 0, 1) := by decide +kernel
theorem D_jdk_33_method_23_code_1 : decode jdk_33_method_23_code 1 = .ok (.invokespecial 202, 3) := by decide +kernel
theorem D_jdk_33_method_23_code_4 : decode jdk_33_method_23_code 4 = .ok (.aload_n 0, 1) := by decide +kernel
theorem D_jdk_33_method_23_code_5 : decode jdk_33_method_23_code 5 = .ok (.iload_n 1, 1) := by decide +kernel
theorem D_jdk_33_method_23_code_6 : decode jdk_33_method_23_code 6 = .ok (.putfield 205, 3) := by decide +kernel
theorem D_jdk_33_method_23_code_9 : decode jdk_33_method_23_code 9 = .ok (.return_, 1) := by decide +kernel
theorem D_jdk_33_method_22_code_0 : decode jdk_33_method_22_code 0 = .ok (.iload_n 0, 1) := by decide +kernel
theorem D_jdk_33_method_22_code_1 : decode jdk_33_method_22_code 1 = .ok (.bipush (-128), 2) := by decide +kernel
theorem D_jdk_33_method_22_code_10 : decode jdk_33_method_22_code 10 = .ok (.if_icmp .gt 13, 3) := by decide +kernel
theorem D_jdk_33_method_22_code_13 : decode jdk_33_method_22_code 13 = .ok (.getstatic 195, 3) := by decide +kernel
theorem D_jdk_33_method_22_code_16 : decode jdk_33_method_22_code 16 = .ok (.iload_n 0, 1) := by decide +kernel
theorem D_jdk_33_method_22_code_17 : decode jdk_33_method_22_code 17 = .ok (.sipush 128, 3) := by decide +kernel
theorem D_jdk_33_method_22_code_20 : decode jdk_33_method_22_code 20 = .ok (.iadd, 1) := by decide +kernel
theorem D_jdk_33_method_22_code_21 : decode jdk_33_method_22_code 21 = .ok (.aaload, 1) := by decide +kernel
theorem D_jdk_33_method_22_code_22 : decode jdk_33_method_22_code 22 = .ok (.areturn, 1) := by decide +kernel
theorem D_jdk_33_method_22_code_23 : decode jdk_33_method_22_code 23 = .ok (.new 1, 3) := by decide +kernel
theorem D_jdk_33_method_22_code_26 : decode jdk_33_method_22_code 26 = .ok (.dup, 1) := by decide +kernel
theorem D_jdk_33_method_22_code_27 : decode jdk_33_method_22_code 27 = .ok (.iload_n 0, 1) := by decide +kernel
theorem D_jdk_33_method_22_code_28 : decode jdk_33_method_22_code 28 = .ok (.invokespecial 199, 3) := by decide +kernel
theorem D_jdk_33_method_22_code_3 : decode jdk_33_method_22_code 3 = .ok (.if_icmp .lt 20, 3) := by decide +kernel
theorem D_jdk_33_method_22_code_31 : decode jdk_33_method_22_code 31 = .ok (.areturn, 1) := by decide +kernel
theorem D_jdk_33_method_22_code_6 : decode jdk_33_method_22_code 6 = .ok (.iload_n 0, 1) := by decide +kernel
theorem D_jdk_33_method_22_code_7 : decode jdk_33_method_22_code 7 = .ok (.getstatic 191, 3) := by decide +kernel
theorem D_jdk_18_method_1_code_0 : decode jdk_18_method_1_code 0 = .ok (.aload_n 0, 1) := by decide +kernel
theorem D_jdk_18_method_1_code_1 : decode jdk_18_method_1_code 1 = .ok (.invokespecial 1, 3) := by decide +kernel
theorem D_jdk_18_method_1_code_4 : decode jdk_18_method_1_code 4 = .ok (.return_, 1) := by decide +kernel
theorem D_jdk_42_method_3_code_0 : decode jdk_42_method_3_code 0 = .ok (.aload_n 0, 1) := by decide +kernel
theorem D_jdk_42_method_3_code_1 : decode jdk_42_method_3_code 1 = .ok (.aload_n 1, 1) := by decide +kernel
theorem D_jdk_42_method_3_code_2 : decode jdk_42_method_3_code 2 = .ok (.iconst 0, 1) := by decide +kernel
theorem D_jdk_42_method_3_code_3 : decode jdk_42_method_3_code 3 = .ok (.aload_n 1, 1) := by decide +kernel
theorem D_jdk_42_method_3_code_4 : decode jdk_42_method_3_code 4 = .ok (.arraylength, 1) := by decide +kernel
theorem D_jdk_42_method_3_code_5 : decode jdk_42_method_3_code 5 = .ok (.aconst_null, 1) := by decide +kernel
theorem D_jdk_42_method_3_code_6 : decode jdk_42_method_3_code 6 = .ok (.invokespecial 27, 3) := by decide +kernel
theorem D_jdk_42_method_3_code_9 : decode jdk_42_method_3_code 9 = .ok (.return_, 1) := by decide +kernel
theorem D_jdk_42_method_149_code_0 : decode jdk_42_method_149_code 0 = .ok (.aload_n 0, 1) := by decide +kernel
theorem D_jdk_42_method_149_code_1 : decode jdk_42_method_149_code 1 = .ok (.invokespecial 1, 3) := by decide +kernel
theorem D_jdk_42_method_149_code_27 : decode jdk_42_method_149_code 27 = .ok (.getstatic 38, 3) := by decide +kernel
theorem D_jdk_42_method_149_code_30 : decode jdk_42_method_149_code 30 = .ok (.ifCond .eq 28, 3) := by decide +kernel
theorem D_jdk_42_method_149_code_33 : decode jdk_42_method_149_code 33 = .ok (.aload_n 1, 1) := by decide +kernel
theorem D_jdk_42_method_149_code_34 : decode jdk_42_method_149_code 34 = .ok (.iload_n 2, 1) := by decide +kernel
theorem D_jdk_42_method_149_code_35 : decode jdk_42_method_149_code 35 = .ok (.iload_n 3, 1) := by decide +kernel
theorem D_jdk_42_method_149_code_36 : decode jdk_42_method_149_code 36 = .ok (.invokestatic 177, 3) := by decide +kernel
theorem D_jdk_42_method_149_code_39 : decode jdk_42_method_149_code 39 = .ok (.astore 5, 2) := by decide +kernel
theorem D_jdk_42_method_149_code_4 : decode jdk_42_method_149_code 4 = .ok (.iload_n 3, 1) := by decide +kernel
theorem D_jdk_42_method_149_code_41 : decode jdk_42_method_149_code 41 = .ok (.aload_n 0, 1) := by decide +kernel
theorem D_jdk_42_method_149_code_42 : decode jdk_42_method_149_code 42 = .ok (.aload 5, 2) := by decide +kernel
theorem D_jdk_42_method_149_code_44 : decode jdk_42_method_149_code 44 = .ok (.iload_n 3, 1) := by decide +kernel
theorem D_jdk_42_method_149_code_45 : decode jdk_42_method_149_code 45 = .ok (.invokestatic 47, 3) := by decide +kernel
theorem D_jdk_42_method_149_code_48 : decode jdk_42_method_149_code 48 = .ok (.putfield 15, 3) := by decide +kernel
theorem D_jdk_42_method_149_code_5 : decode jdk_42_method_149_code 5 = .ok (.ifCond .ne 22, 3) := by decide +kernel
theorem D_jdk_42_method_149_code_51 : decode jdk_42_method_149_code 51 = .ok (.aload_n 0, 1) := by decide +kernel
theorem D_jdk_42_method_149_code_52 : decode jdk_42_method_149_code 52 = .ok (.aload 5, 2) := by decide +kernel
theorem D_jdk_42_method_149_code_54 : decode jdk_42_method_149_code 54 = .ok (.putfield 9, 3) := by decide +kernel
theorem D_jdk_42_method_149_code_57 : decode jdk_42_method_149_code 57 = .ok (.return_, 1) := by decide +kernel
theorem D_jdk_52_method_15_code_0 : decode jdk_52_method_15_code 0 = .ok (.iload_n 1, 1) := by decide +kernel
theorem D_jdk_52_method_15_code_1 : decode jdk_52_method_15_code 1 = .ok (.aload_n 0, 1) := by decide +kernel
theorem D_jdk_52_method_15_code_2 : decode jdk_52_method_15_code 2 = .ok (.arraylength, 1) := by decide +kernel
theorem D_jdk_52_method_15_code_3 : decode jdk_52_method_15_code 3 = .ok (.isub, 1) := by decide +kernel
theorem D_jdk_52_method_15_code_4 : decode jdk_52_method_15_code 4 = .ok (.bipush 31, 2) := by decide +kernel
theorem D_jdk_52_method_15_code_6 : decode jdk_52_method_15_code 6 = .ok (.iushr, 1) := by decide +kernel
theorem D_jdk_52_method_15_code_7 : decode jdk_52_method_15_code 7 = .ok (.i2b, 1) := by decide +kernel
theorem D_jdk_52_method_15_code_8 : decode jdk_52_method_15_code 8 = .ok (.ireturn, 1) := by decide +kernel
theorem D_jdk_52_method_16_code_0 : decode jdk_52_method_16_code 0 = .ok (.iload_n 2, 1) := by decide +kernel
theorem D_jdk_52_method_16_code_1 : decode jdk_52_method_16_code 1 = .ok (.newarray .byte, 2) := by decide +kernel
theorem D_jdk_52_method_16_code_12 : decode jdk_52_method_16_code 12 = .ok (.istore 4, 2) := by decide +kernel
theorem D_jdk_52_method_16_code_14 : decode jdk_52_method_16_code 14 = .ok (.iload 4, 2) := by decide +kernel
theorem D_jdk_52_method_16_code_16 : decode jdk_52_method_16_code 16 = .ok (.iload_n 2, 1) := by decide +kernel
theorem D_jdk_52_method_16_code_17 : decode jdk_52_method_16_code 17 = .ok (.if_icmp .eq 40, 3) := by decide +kernel
theorem D_jdk_52_method_16_code_3 : decode jdk_52_method_16_code 3 = .ok (.astore_n 3, 1) := by decide +kernel
theorem D_jdk_52_method_16_code_4 : decode jdk_52_method_16_code 4 = .ok (.aload_n 0, 1) := by decide +kernel
theorem D_jdk_52_method_16_code_5 : decode jdk_52_method_16_code 5 = .ok (.iload_n 1, 1) := by decide +kernel
theorem D_jdk_52_method_16_code_57 : decode jdk_52_method_16_code 57 = .ok (.aload_n 3, 1) := by decide +kernel
theorem D_jdk_52_method_16_code_58 : decode jdk_52_method_16_code 58 = .ok (.areturn, 1) := by decide +kernel
theorem D_jdk_52_method_16_code_6 : decode jdk_52_method_16_code 6 = .ok (.aload_n 3, 1) := by decide +kernel
theorem D_jdk_52_method_16_code_7 : decode jdk_52_method_16_code 7 = .ok (.iconst 0, 1) := by decide +kernel
theorem D_jdk_52_method_16_code_8 : decode jdk_52_method_16_code 8 = .ok (.iload_n 2, 1) := by decide +kernel
theorem D_jdk_52_method_16_code_9 : decode jdk_52_method_16_code 9 = .ok (.invokestatic 115, 3) := by decide +kernel
theorem D_jdk_52_method_21_code_0 : decode jdk_52_method_21_code 0 = .ok (.iconst 0, 1) := by decide +kernel
theorem D_jdk_52_method_21_code_1 : decode jdk_52_method_21_code 1 = .ok (.istore 5, 2) := by decide +kernel
theorem D_jdk_52_method_21_code_10 : decode jdk_52_method_21_code 10 = .ok (.aload_n 0, 1) := by decide +kernel
theorem D_jdk_52_method_21_code_11 : decode jdk_52_method_21_code 11 = .ok (.iload_n 1, 1) := by decide +kernel
theorem D_jdk_52_method_21_code_12 : decode jdk_52_method_21_code 12 = .ok (.caload, 1) := by decide +kernel
theorem D_jdk_52_method_21_code_13 : decode jdk_52_method_21_code 13 = .ok (.istore 6, 2) := by decide +kernel
theorem D_jdk_52_method_21_code_15 : decode jdk_52_method_21_code 15 = .ok (.iload 6, 2) := by decide +kernel
theorem D_jdk_52_method_21_code_17 : decode jdk_52_method_21_code 17 = .ok (.sipush 255, 3) := by decide +kernel
theorem D_jdk_52_method_21_code_20 : decode jdk_52_method_21_code 20 = .ok (.if_icmp .le 6, 3) := by decide +kernel
theorem D_jdk_52_method_21_code_26 : decode jdk_52_method_21_code 26 = .ok (.aload_n 2, 1) := by decide +kernel
theorem D_jdk_52_method_21_code_27 : decode jdk_52_method_21_code 27 = .ok (.iload_n 3, 1) := by decide +kernel
theorem D_jdk_52_method_21_code_28 : decode jdk_52_method_21_code 28 = .ok (.iload 6, 2) := by decide +kernel
theorem D_jdk_52_method_21_code_3 : decode jdk_52_method_21_code 3 = .ok (.iload 5, 2) := by decide +kernel
theorem D_jdk_52_method_21_code_30 : decode jdk_52_method_21_code 30 = .ok (.i2b, 1) := by decide +kernel
theorem D_jdk_52_method_21_code_31 : decode jdk_52_method_21_code 31 = .ok (.bastore, 1) := by decide +kernel
theorem D_jdk_52_method_21_code_32 : decode jdk_52_method_21_code 32 = .ok (.iinc 1 1, 3) := by decide +kernel
theorem D_jdk_52_method_21_code_35 : decode jdk_52_method_21_code 35 = .ok (.iinc 3 1, 3) := by decide +kernel
theorem D_jdk_52_method_21_code_38 : decode jdk_52_method_21_code 38 = .ok (.iinc 5 1, 3) := by decide +kernel
theorem D_jdk_52_method_21_code_41 : decode jdk_52_method_21_code 41 = .ok (.goto (-38), 3) := by decide +kernel
theorem D_jdk_52_method_21_code_44 : decode jdk_52_method_21_code 44 = .ok (.iload 4, 2) := by decide +kernel
theorem D_jdk_52_method_21_code_46 : decode jdk_52_method_21_code 46 = .ok (.ireturn, 1) := by decide +kernel
theorem D_jdk_52_method_21_code_5 : decode jdk_52_method_21_code 5 = .ok (.iload 4, 2) := by decide +kernel
theorem D_jdk_52_method_21_code_7 : decode jdk_52_method_21_code 7 = .ok (.if_icmp .ge 37, 3) := by decide +kernel
theorem pd_0 : parseMethodDescriptor "([CI[BII)I" = some ⟨[(.array .char), .int, (.array .byte), .int, .int], some .int⟩ := by decide +kernel
theorem pd_1 : parseMethodDescriptor "([CII)[B" = some ⟨[(.array .char), .int, .int], some (.array .byte)⟩ := by decide +kernel
theorem pd_2 : parseMethodDescriptor "([BI)B" = some ⟨[(.array .byte), .int], some .byte⟩ := by decide +kernel
theorem pd_3 : parseMethodDescriptor "([CIILjava/lang/Void;)V" = some ⟨[(.array .char), .int, .int, (.object "java/lang/Void")], none⟩ := by decide +kernel
theorem pd_4 : parseMethodDescriptor "()V" = some ⟨[], none⟩ := by decide +kernel
theorem pd_5 : parseMethodDescriptor "(I)V" = some ⟨[.int], none⟩ := by decide +kernel
theorem pd_6 : parseMethodDescriptor "(Ljava/lang/String;I)V" = some ⟨[(.object "java/lang/String"), .int], none⟩ := by decide +kernel
theorem pd_7 : parseMethodDescriptor "([C)V" = some ⟨[(.array .char)], none⟩ := by decide +kernel
theorem pd_8 : parseMethodDescriptor "(I)Ljava/lang/Integer;" = some ⟨[.int], some (.object "java/lang/Integer")⟩ := by decide +kernel
theorem pd_9 : parseMethodDescriptor "(Ljava/lang/Object;)V" = some ⟨[(.object "java/lang/Object")], none⟩ := by decide +kernel
theorem pd_10 : parseMethodDescriptor "(Lcom/example/bindery/bindery/Named;Ljava/lang/Object;)V" = some ⟨[(.object "com/example/bindery/bindery/Named"), (.object "java/lang/Object")], none⟩ := by decide +kernel
theorem pd_11 : parseMethodDescriptor "(Lcom/example/bindery/bindery/Named;)Ljava/lang/Object;" = some ⟨[(.object "com/example/bindery/bindery/Named")], some (.object "java/lang/Object")⟩ := by decide +kernel
theorem pn_0 : plainName "java/lang/StringUTF16" = true := by first | (simp [plainName, overriddenIn]; done) | decide +kernel
theorem pn_1 : plainName "java/lang/String" = true := by first | (simp [plainName, overriddenIn]; done) | decide +kernel
theorem pn_2 : plainName "java/lang/Number" = true := by first | (simp [plainName, overriddenIn]; done) | decide +kernel
theorem pn_3 : plainName "java/lang/Integer" = true := by first | (simp [plainName, overriddenIn]; done) | decide +kernel
theorem pn_4 : plainName "com/example/bindery/bindery/Named" = true := by first | (simp [plainName, overriddenIn]; done) | decide +kernel
theorem pn_5 : plainName "com/example/bindery/bindery/Expr$Variable" = true := by first | (simp [plainName, overriddenIn]; done) | decide +kernel
theorem pn_6 : plainName "com/example/bindery/bindery/Globals$Variable" = true := by first | (simp [plainName, overriddenIn]; done) | decide +kernel
theorem pn_7 : plainName "com/example/bindery/bindery/VariableAssignPinLaw" = true := by first | (simp [plainName, overriddenIn]; done) | decide +kernel
set_option maxRecDepth 65536 in
set_option maxHeartbeats 40000000 in
theorem c_compress5 {l : Launch} {Z : State} {a0 : Array Value} {EL : List (String × Nat)} {nw : Prop} {zc : Int32} {un : Addr} {ca : Addr} {kc : ClassId} {vs : List Value} (g : GH Z a0 EL zc un ca kc vs) (h : Heap) (b : Addr) (kb : ClassId) (cs : List Int32) (d : Addr) (kd : ClassId) (hcs : ∀ c ∈ cs, 0 ≤ c.toInt ∧ c.toInt ≤ 255) (hl : cs.length ≤ 4000) (hne : ¬ b = d) (gd : Z.heap.size ≤ d) (e0 : Ar Z h b kb .char (cs.map Value.int)) (e1 : Ar Z h d kd .byte ((List.replicate cs.length (0 : Int32)).map Value.int)) (zz : Z.heap.size ≤ h.size) :
    Ct l Z EL nw [] ⟨"java/lang/StringUTF16", "compress", "([CI[BII)I"⟩ jdk_52_method_21_code 7 (some .int) ({ frames := 0, cells := 0, slots := 0, locals := 0 } : Room) #[(.ref b), (.int (0 : Int32)), (.ref d), (.int (0 : Int32)), (.int (cs.length.toInt32))] h [d] (fun res vm' h' => res = some (.int (cs.length.toInt32)) ∧ Keep h h' [d] ∧ Ar Z h' d kd .byte ((cs.map by8).map Value.int) ∧ Safe Z EL vm' h' d) := by
  have ye0 := ltN e0.lt
  have ye1 := ltN e1.lt
  refine Ct.of_go (a0 := a0) g.2.1 pn_0 (L0 := #[.val (.ref b), .val (.int (0 : Int32)), .val (.ref d), .val (.int (0 : Int32)), .val (.int (cs.length.toInt32)), .unset, .unset]) (fun m => by first | rfl | (simp [entryFrame, mkF, argsToLocals, Value.category, maxLocals]; done)) ?_
  intro p e s m below meth c hown hby hml hret hnm hZ hC hO hsf
  refine Go.iconst (hb hby D_jdk_52_method_21_code_0) (pc' := 1) rfl (z := (0 : Int32)) rfl ?_
  refine Go.istore (hb hby D_jdk_52_method_21_code_1) (pc' := 3) rfl (L' := #[.val (.ref b), .val (.int (0 : Int32)), .val (.ref d), .val (.int (0 : Int32)), .val (.int (cs.length.toInt32)), .val (.int (0 : Int32)), .unset]) rfl ?_
  refine Go.loop (Inv := fun r vmI hI kI nI LI => vmI = s.vm ∧ kI = 0 ∧ nI = 0 ∧ ∃ (i : Nat) (s6 : Slot), i + r = cs.length ∧ (s6 = .unset ∨ ∃ w, s6 = .val (.int w)) ∧ LI = #[.val (.ref b), .val (.int i.toInt32), .val (.ref d), .val (.int i.toInt32), .val (.int (cs.length.toInt32)), .val (.int i.toInt32), s6] ∧ Keep h hI [d] ∧ Ar Z hI d kd .byte (((cs.map by8).take i ++ List.replicate ((cs.map by8).length - i) 0).map Value.int) ∧ Safe Z EL s.vm hI d) ?_ cs.length _ _ _ _ _ ⟨rfl, rfl, rfl, 0, .unset, Nat.zero_add _, Or.inl rfl, rfl, Keep.refl _ _, by simpa using e1, hsf _ (by simp)⟩
  rintro r vmI hI kI nI LI ⟨rfl, rfl, rfl, i, s6, hir, hs6, rfl, KI, AI, SI⟩ ih
  have yI := KI.1
  have hi31 : i < 2 ^ 31 := by omega
  have hn31 : cs.length < 2 ^ 31 := by omega
  rcases hs6 with rfl | ⟨w6, rfl⟩
  · refine Go.iload (hb hby D_jdk_52_method_21_code_3) (pc' := 5) rfl rfl ?_
    refine Go.iload (hb hby D_jdk_52_method_21_code_5) (pc' := 7) rfl rfl ?_
    refine Go.icmp (hb hby D_jdk_52_method_21_code_7) (by decide) (pc' := 44) (by decide) (pc2 := 10) rfl (fun (q7 : ¬ i.toInt32 < (cs.length.toInt32)) => ?_) (fun (q7 : ¬ (¬ i.toInt32 < (cs.length.toInt32))) => ?_)
    · have hi : ¬ i < cs.length := fun z => q7 ((lt32 hi31 hn31).mpr z)
      have hi' : i = cs.length := by omega
      subst hi'
      have AI' : Ar Z hI d kd .byte ((cs.map by8).map Value.int) := by have q := AI; rw [show (cs.map by8).take cs.length ++ List.replicate ((cs.map by8).length - cs.length) 0 = cs.map by8 by simp [List.take_of_length_le]] at q; exact q
      refine Go.iload (hb hby D_jdk_52_method_21_code_44) (pc' := 46) rfl rfl ?_
      refine Go.retI hret (hb hby D_jdk_52_method_21_code_46) (by decide) (by decide) ?_
      intro vmR CR
      exact ⟨(by first | rfl | (simp only [own_nar]; done) | (congr 2; done)), ((Keep.refl h [d]).trans KI (allS (by first | (left; simp; done) | (right; omega)) all0)), AI', (Safe.to CR (by omega) SI)⟩
    · refine Go.aloadN (hb hby D_jdk_52_method_21_code_10) (pc' := 11) rfl rfl rfl ?_
      refine Go.iloadN (hb hby D_jdk_52_method_21_code_11) (pc' := 12) rfl rfl ?_
      have f1 : Ar Z hI b kb .char (cs.map Value.int) := (e0.keep KI (ninS hne nin0))
      have hi : i < cs.length := (lt32 hi31 hn31).mp (Classical.not_not.mp q7)
      obtain ⟨cx, hc⟩ : ∃ cx, cs[i] = cx := ⟨_, rfl⟩
      have hcb := hcs cx (hc ▸ List.getElem_mem hi)
      refine Go.caload f1 (v := (.int cx)) (nneg32 hi31) (by rw [clamp_nat hi31]; simp [hi, hc]) (hb hby D_jdk_52_method_21_code_12) (pc' := 13) rfl ?_
      refine Go.istore (hb hby D_jdk_52_method_21_code_13) (pc' := 15) rfl (L' := #[.val (.ref b), .val (.int i.toInt32), .val (.ref d), .val (.int i.toInt32), .val (.int (cs.length.toInt32)), .val (.int i.toInt32), .val (.int cx)]) rfl ?_
      refine Go.iload (hb hby D_jdk_52_method_21_code_15) (pc' := 17) rfl rfl ?_
      refine Go.sipush (hb hby D_jdk_52_method_21_code_17) (pc' := 20) rfl (z := (255 : Int32)) rfl ?_
      refine Go.icmpY (hb hby D_jdk_52_method_21_code_20) (by decide) (pc' := 26) (by decide) (by show ¬ (255 : Int32) < cx; rw [Int32.lt_iff_toInt_lt]; have : (255 : Int32).toInt = 255 := rfl; omega) ?_
      refine Go.aloadN (hb hby D_jdk_52_method_21_code_26) (pc' := 27) rfl rfl rfl ?_
      refine Go.iloadN (hb hby D_jdk_52_method_21_code_27) (pc' := 28) rfl rfl ?_
      refine Go.iload (hb hby D_jdk_52_method_21_code_28) (pc' := 30) rfl rfl ?_
      refine Go.i2b (hb hby D_jdk_52_method_21_code_30) (pc' := 31) rfl ?_
      refine Go.bastore AI (nneg32 hi31) (by rw [clamp_nat hi31]; simp; omega) SI (by omega) (hb hby D_jdk_52_method_21_code_31) (pc' := 32) rfl ?_
      intro h2 A3 z4 K5 S6 C7
      have A3 : Ar Z h2 d kd .byte ((((cs.map by8).take i ++ List.replicate ((cs.map by8).length - i) 0).map Value.int).set i.toInt32.toNatClampNeg (.int (nar .byte cx.toInt8.toInt32))) := A3
      refine Go.iinc (hb hby D_jdk_52_method_21_code_32) (pc' := 35) rfl rfl (L' := #[.val (.ref b), .val (.int (i.toInt32 + 1)), .val (.ref d), .val (.int i.toInt32), .val (.int (cs.length.toInt32)), .val (.int i.toInt32), .val (.int cx)]) rfl ?_
      refine Go.iinc (hb hby D_jdk_52_method_21_code_35) (pc' := 38) rfl rfl (L' := #[.val (.ref b), .val (.int (i.toInt32 + 1)), .val (.ref d), .val (.int (i.toInt32 + 1)), .val (.int (cs.length.toInt32)), .val (.int i.toInt32), .val (.int cx)]) rfl ?_
      refine Go.iinc (hb hby D_jdk_52_method_21_code_38) (pc' := 41) rfl rfl (L' := #[.val (.ref b), .val (.int (i.toInt32 + 1)), .val (.ref d), .val (.int (i.toInt32 + 1)), .val (.int (cs.length.toInt32)), .val (.int (i.toInt32 + 1)), .val (.int cx)]) rfl ?_
      refine Go.goto (hb hby D_jdk_52_method_21_code_41) (by decide) (pc' := 3) (by decide) ?_
      have hset := fill_set (cs.map by8) 0 i (by simpa using hi)
      rw [succ32 i]
      refine ih (r - 1) _ _ _ _ _ (by omega) ⟨rfl, rfl, rfl, i + 1, _, by omega, Or.inr ⟨_, rfl⟩, rfl, Keep.tr KI K5, ?_, S6⟩
      rw [nar_by8, clamp_nat hi31] at A3
      have e2 : (cs.map by8)[i]'(by simpa using hi) = by8 cx := by simp [hc]
      rw [← hset, e2, List.map_set]; exact A3
  · refine Go.iload (hb hby D_jdk_52_method_21_code_3) (pc' := 5) rfl rfl ?_
    refine Go.iload (hb hby D_jdk_52_method_21_code_5) (pc' := 7) rfl rfl ?_
    refine Go.icmp (hb hby D_jdk_52_method_21_code_7) (by decide) (pc' := 44) (by decide) (pc2 := 10) rfl (fun (q7 : ¬ i.toInt32 < (cs.length.toInt32)) => ?_) (fun (q7 : ¬ (¬ i.toInt32 < (cs.length.toInt32))) => ?_)
    · have hi : ¬ i < cs.length := fun z => q7 ((lt32 hi31 hn31).mpr z)
      have hi' : i = cs.length := by omega
      subst hi'
      have AI' : Ar Z hI d kd .byte ((cs.map by8).map Value.int) := by have q := AI; rw [show (cs.map by8).take cs.length ++ List.replicate ((cs.map by8).length - cs.length) 0 = cs.map by8 by simp [List.take_of_length_le]] at q; exact q
      refine Go.iload (hb hby D_jdk_52_method_21_code_44) (pc' := 46) rfl rfl ?_
      refine Go.retI hret (hb hby D_jdk_52_method_21_code_46) (by decide) (by decide) ?_
      intro vmR CR
      exact ⟨(by first | rfl | (simp only [own_nar]; done) | (congr 2; done)), ((Keep.refl h [d]).trans KI (allS (by first | (left; simp; done) | (right; omega)) all0)), AI', (Safe.to CR (by omega) SI)⟩
    · refine Go.aloadN (hb hby D_jdk_52_method_21_code_10) (pc' := 11) rfl rfl rfl ?_
      refine Go.iloadN (hb hby D_jdk_52_method_21_code_11) (pc' := 12) rfl rfl ?_
      have f8 : Ar Z hI b kb .char (cs.map Value.int) := (e0.keep KI (ninS hne nin0))
      have hi : i < cs.length := (lt32 hi31 hn31).mp (Classical.not_not.mp q7)
      obtain ⟨cx, hc⟩ : ∃ cx, cs[i] = cx := ⟨_, rfl⟩
      have hcb := hcs cx (hc ▸ List.getElem_mem hi)
      refine Go.caload f8 (v := (.int cx)) (nneg32 hi31) (by rw [clamp_nat hi31]; simp [hi, hc]) (hb hby D_jdk_52_method_21_code_12) (pc' := 13) rfl ?_
      refine Go.istore (hb hby D_jdk_52_method_21_code_13) (pc' := 15) rfl (L' := #[.val (.ref b), .val (.int i.toInt32), .val (.ref d), .val (.int i.toInt32), .val (.int (cs.length.toInt32)), .val (.int i.toInt32), .val (.int cx)]) rfl ?_
      refine Go.iload (hb hby D_jdk_52_method_21_code_15) (pc' := 17) rfl rfl ?_
      refine Go.sipush (hb hby D_jdk_52_method_21_code_17) (pc' := 20) rfl (z := (255 : Int32)) rfl ?_
      refine Go.icmpY (hb hby D_jdk_52_method_21_code_20) (by decide) (pc' := 26) (by decide) (by show ¬ (255 : Int32) < cx; rw [Int32.lt_iff_toInt_lt]; have : (255 : Int32).toInt = 255 := rfl; omega) ?_
      refine Go.aloadN (hb hby D_jdk_52_method_21_code_26) (pc' := 27) rfl rfl rfl ?_
      refine Go.iloadN (hb hby D_jdk_52_method_21_code_27) (pc' := 28) rfl rfl ?_
      refine Go.iload (hb hby D_jdk_52_method_21_code_28) (pc' := 30) rfl rfl ?_
      refine Go.i2b (hb hby D_jdk_52_method_21_code_30) (pc' := 31) rfl ?_
      refine Go.bastore AI (nneg32 hi31) (by rw [clamp_nat hi31]; simp; omega) SI (by omega) (hb hby D_jdk_52_method_21_code_31) (pc' := 32) rfl ?_
      intro h9 A10 z11 K12 S13 C14
      have A10 : Ar Z h9 d kd .byte ((((cs.map by8).take i ++ List.replicate ((cs.map by8).length - i) 0).map Value.int).set i.toInt32.toNatClampNeg (.int (nar .byte cx.toInt8.toInt32))) := A10
      refine Go.iinc (hb hby D_jdk_52_method_21_code_32) (pc' := 35) rfl rfl (L' := #[.val (.ref b), .val (.int (i.toInt32 + 1)), .val (.ref d), .val (.int i.toInt32), .val (.int (cs.length.toInt32)), .val (.int i.toInt32), .val (.int cx)]) rfl ?_
      refine Go.iinc (hb hby D_jdk_52_method_21_code_35) (pc' := 38) rfl rfl (L' := #[.val (.ref b), .val (.int (i.toInt32 + 1)), .val (.ref d), .val (.int (i.toInt32 + 1)), .val (.int (cs.length.toInt32)), .val (.int i.toInt32), .val (.int cx)]) rfl ?_
      refine Go.iinc (hb hby D_jdk_52_method_21_code_38) (pc' := 41) rfl rfl (L' := #[.val (.ref b), .val (.int (i.toInt32 + 1)), .val (.ref d), .val (.int (i.toInt32 + 1)), .val (.int (cs.length.toInt32)), .val (.int (i.toInt32 + 1)), .val (.int cx)]) rfl ?_
      refine Go.goto (hb hby D_jdk_52_method_21_code_41) (by decide) (pc' := 3) (by decide) ?_
      have hset := fill_set (cs.map by8) 0 i (by simpa using hi)
      rw [succ32 i]
      refine ih (r - 1) _ _ _ _ _ (by omega) ⟨rfl, rfl, rfl, i + 1, _, by omega, Or.inr ⟨_, rfl⟩, rfl, Keep.tr KI K12, ?_, S13⟩
      rw [nar_by8, clamp_nat hi31] at A10
      have e2 : (cs.map by8)[i]'(by simpa using hi) = by8 cx := by simp [hc]
      rw [← hset, e2, List.map_set]; exact A10
set_option maxRecDepth 65536 in
set_option maxHeartbeats 40000000 in
theorem c_compress3 {l : Launch} {Z : State} {a0 : Array Value} {EL : List (String × Nat)} {nw : Prop} {zc : Int32} {un : Addr} {ca : Addr} {kc : ClassId} {vs : List Value} (g : GH Z a0 EL zc un ca kc vs) (h : Heap) (b : Addr) (kb : ClassId) (cs : List Int32) (hcs : ∀ c ∈ cs, 0 ≤ c.toInt ∧ c.toInt ≤ 255) (hl : cs.length ≤ 16) (e0 : Ar Z h b kb .char (cs.map Value.int)) (zz : Z.heap.size ≤ h.size) :
    Ct l Z EL nw [] ⟨"java/lang/StringUTF16", "compress", "([CII)[B"⟩ jdk_52_method_16_code 6 (some (.array .byte)) ({ frames := 1, cells := 1, slots := 16, locals := 18 } : Room) #[(.ref b), (.int (0 : Int32)), (.int (cs.length.toInt32))] h [] (fun res vm' h' => ∃ d : Addr, ∃ kd : ClassId, res = some (.ref d) ∧ Keep h h' [] ∧ h.size ≤ d ∧ Ar Z h' d kd .byte ((cs.map by8).map Value.int) ∧ Safe Z EL vm' h' d) := by
  have ye0 := ltN e0.lt
  refine Ct.of_go (a0 := a0) g.2.1 pn_0 (L0 := #[.val (.ref b), .val (.int (0 : Int32)), .val (.int (cs.length.toInt32)), .unset, .unset, .unset]) (fun m => by first | rfl | (simp [entryFrame, mkF, argsToLocals, Value.category, maxLocals]; done)) ?_
  intro p e s m below meth c hown hby hml hret hnm hZ hC hO hsf
  refine Go.iloadN (hb hby D_jdk_52_method_16_code_0) (pc' := 1) rfl rfl ?_
  refine Go.newP (ty := .byte) rfl (wd_22 g) (hb hby D_jdk_52_method_16_code_1) (pc' := 3) rfl (nneg32 (by omega)) (cap := 16) (by rw [clamp_nat (by omega)]; exact hl) (by decide) (by decide) (by decide) ?_
  intro h1 a2 k3 g4 l5 E6 A7 S8 C9
  have KE6 := Keep.ofExt E6; have zE6 := E6.1
  have A7 : Ar Z h1 a2 k3 .byte (List.replicate (cs.length.toInt32).toNatClampNeg (.int 0)) := A7
  have A10 : Ar Z h1 a2 k3 .byte ((List.replicate cs.length (0 : Int32)).map Value.int) := by rw [clamp_nat (by omega)] at A7; rw [List.map_replicate]; exact A7
  refine Go.astoreN (hb hby D_jdk_52_method_16_code_3) (pc' := 4) rfl rfl (L' := #[.val (.ref b), .val (.int (0 : Int32)), .val (.int (cs.length.toInt32)), .val (.ref a2), .unset, .unset]) rfl ?_
  refine Go.aloadN (hb hby D_jdk_52_method_16_code_4) (pc' := 5) rfl rfl rfl ?_
  refine Go.iloadN (hb hby D_jdk_52_method_16_code_5) (pc' := 6) rfl rfl ?_
  refine Go.aloadN (hb hby D_jdk_52_method_16_code_6) (pc' := 7) rfl rfl rfl ?_
  refine Go.iconst (hb hby D_jdk_52_method_16_code_7) (pc' := 8) rfl (z := (0 : Int32)) rfl ?_
  refine Go.iloadN (hb hby D_jdk_52_method_16_code_8) (pc' := 9) rfl rfl ?_
  have f11 : Ar Z h1 b kb .char (cs.map Value.int) := (e0.keep KE6 nin0)
  refine Go.callS (c_compress5 (l := l) (nw := nw) g h1 b kb cs a2 k3 hcs (by omega) (neN (by omega)) (by omega) f11 A10 (by omega)) hown (wd_23 g) (wd_24 g) (wd_25 g) (wd_20 g) (by decide) (argsL := [(.ref b), (.int (0 : Int32)), (.ref a2), (.int (0 : Int32)), (.int (cs.length.toInt32))]) (lenOf pd_0 rfl) rfl (by rw [hml]; rfl) (W := 0) rfl (hb hby D_jdk_52_method_16_code_9) (pc' := 12) rfl (by decide) (by decide) (by decide) (by decide) (allS ⟨by omega, S8⟩ all0) ?_
  rintro _ vm12 h12 ⟨rfl, K12, o12_0, o12_1⟩ C12
  have z12 := K12.1
  have yo12_0 := ltN o12_0.lt
  -- pc 12
  refine Go.istore (hb hby D_jdk_52_method_16_code_12) (pc' := 14) rfl (L' := #[.val (.ref b), .val (.int (0 : Int32)), .val (.int (cs.length.toInt32)), .val (.ref a2), .val (.int (cs.length.toInt32)), .unset]) rfl ?_
  refine Go.iload (hb hby D_jdk_52_method_16_code_14) (pc' := 16) rfl rfl ?_
  refine Go.iloadN (hb hby D_jdk_52_method_16_code_16) (pc' := 17) rfl rfl ?_
  refine Go.icmpY (hb hby D_jdk_52_method_16_code_17) (by decide) (pc' := 57) (by decide) rfl ?_
  refine Go.aloadN (hb hby D_jdk_52_method_16_code_57) (pc' := 58) rfl rfl rfl ?_
  refine Go.retA hret rfl rfl (hb hby D_jdk_52_method_16_code_58) (by decide) (by decide) ?_
  intro vmR CR
  exact ⟨a2, k3, (by first | rfl | (simp only [own_nar]; done) | (congr 2; done)), (((Keep.refl h []).trans KE6 all0).trans K12 (allS (by first | (left; simp; done) | (right; omega)) all0)), (by omega), o12_0, (Safe.to CR (by omega) o12_1)⟩
set_option maxRecDepth 65536 in
set_option maxHeartbeats 40000000 in
theorem c_coderOf {l : Launch} {Z : State} {a0 : Array Value} {EL : List (String × Nat)} {nw : Prop} {zc : Int32} {un : Addr} {ca : Addr} {kc : ClassId} {vs : List Value} (g : GH Z a0 EL zc un ca kc vs) (h : Heap) (d : Addr) (kd : ClassId) (bs : List Int32) (z : Int32) (hz : bs.length.toInt32 = z) (e0 : Ar Z h d kd .byte (bs.map Value.int)) (zz : Z.heap.size ≤ h.size) :
    Ct l Z EL nw [] ⟨"java/lang/StringUTF16", "coderFromArrayLen", "([BI)B"⟩ jdk_52_method_15_code 2 (some .byte) ({ frames := 0, cells := 0, slots := 0, locals := 0 } : Room) #[(.ref d), (.int z)] h [] (fun res vm' h' => res = some (.int (0 : Int32)) ∧ Keep h h' []) := by
  have ye0 := ltN e0.lt
  refine Ct.of_go (a0 := a0) g.2.1 pn_0 (L0 := #[.val (.ref d), .val (.int z)]) (fun m => by first | rfl | (simp [entryFrame, mkF, argsToLocals, Value.category, maxLocals]; done)) ?_
  intro p e s m below meth c hown hby hml hret hnm hZ hC hO hsf
  refine Go.iloadN (hb hby D_jdk_52_method_15_code_0) (pc' := 1) rfl rfl ?_
  refine Go.aloadN (hb hby D_jdk_52_method_15_code_1) (pc' := 2) rfl rfl rfl ?_
  refine Go.alen e0 (z := (bs.length.toInt32)) (by rw [List.length_map]) (hb hby D_jdk_52_method_15_code_2) (pc' := 3) rfl ?_
  refine Go.isub (hb hby D_jdk_52_method_15_code_3) (pc' := 4) rfl ?_
  refine Go.bipush (hb hby D_jdk_52_method_15_code_4) (pc' := 6) rfl (z := (31 : Int32)) rfl ?_
  refine Go.iushr (hb hby D_jdk_52_method_15_code_6) (pc' := 7) rfl ?_
  refine Go.i2b (hb hby D_jdk_52_method_15_code_7) (pc' := 8) rfl ?_
  refine Go.retN (t := .byte) hret (by simp) (hb hby D_jdk_52_method_15_code_8) (by decide) (by decide) ?_
  intro vmR CR
  exact ⟨(by rw [hz, sub0]; rfl), (Keep.refl h [])⟩
set_option maxRecDepth 65536 in
set_option maxHeartbeats 40000000 in
theorem c_strinit4 {l : Launch} {Z : State} {a0 : Array Value} {EL : List (String × Nat)} {nw : Prop} {zc : Int32} {un : Addr} {ca : Addr} {kc : ClassId} {vs : List Value} (g : GH Z a0 EL zc un ca kc vs) (h : Heap) (a : Addr) (b : Addr) (kb : ClassId) (cs : List Int32) (hcs : ∀ c ∈ cs, 0 ≤ c.toInt ∧ c.toInt ≤ 255) (h0 : 0 < cs.length) (hl : cs.length ≤ 16) (ga : Z.heap.size ≤ a) (e0 : Exa Z h a "java/lang/String") (e1 : Fld Z h a "java/lang/String" "coder" "B" (.int 0)) (e2 : Fld Z h a "java/lang/String" "value" "[B" .null) (e3 : Ar Z h b kb .char (cs.map Value.int)) (zz : Z.heap.size ≤ h.size) :
    Ct l Z EL nw [] ⟨"java/lang/String", "<init>", "([CIILjava/lang/Void;)V"⟩ jdk_42_method_149_code 6 none ({ frames := 2, cells := 1, slots := 16, locals := 35 } : Room) #[(.ref a), (.ref b), (.int (0 : Int32)), (.int (cs.length.toInt32)), .null] h [a] (fun res vm' h' => ∃ d : Addr, ∃ kd : ClassId, res = none ∧ Keep h h' [a] ∧ h.size ≤ d ∧ St Z h' a d kd (cs.map by8)) := by
  have ye0 := ltN e0.lt
  have ye1 := ltN e1.lt
  have ye2 := ltN e2.lt
  have ye3 := ltN e3.lt
  refine Ct.of_go (a0 := a0) g.2.1 pn_1 (L0 := #[.val (.ref a), .val (.ref b), .val (.int (0 : Int32)), .val (.int (cs.length.toInt32)), .val .null, .unset]) (fun m => by first | rfl | (simp [entryFrame, mkF, argsToLocals, Value.category, maxLocals]; done)) ?_
  intro p e s m below meth c hown hby hml hret hnm hZ hC hO hsf
  refine Go.aloadN (hb hby D_jdk_42_method_149_code_0) (pc' := 1) rfl rfl rfl ?_
  refine Go.initO hown (wd_14 g) (wd_15 g) (wd_16 g) (by rw [hml]; rfl) (hb hby D_jdk_42_method_149_code_1) (by decide) (W := 0) rfl (by decide) (pc' := 4) rfl ?_
  refine Go.iloadN (hb hby D_jdk_42_method_149_code_4) (pc' := 5) rfl rfl ?_
  refine Go.ifY (hb hby D_jdk_42_method_149_code_5) (by decide) (pc' := 27) (by decide) (nz32 (by omega) h0) ?_
  refine Go.getS hown (wd_17 g) Via.refl g.2.2.2.2.1 (hb hby D_jdk_42_method_149_code_27) (pc' := 30) rfl ?_
  refine Go.ifN (hb hby D_jdk_42_method_149_code_30) (pc' := 33) rfl g.2.2.2.2.2.1 ?_
  refine Go.aloadN (hb hby D_jdk_42_method_149_code_33) (pc' := 34) rfl rfl rfl ?_
  refine Go.iloadN (hb hby D_jdk_42_method_149_code_34) (pc' := 35) rfl rfl ?_
  refine Go.iloadN (hb hby D_jdk_42_method_149_code_35) (pc' := 36) rfl rfl ?_
  refine Go.callS (c_compress3 (l := l) (nw := nw) g h b kb cs hcs hl e3 (by omega)) hown (wd_18 g) (wd_19 g) (wd_21 g) (wd_20 g) (by decide) (argsL := [(.ref b), (.int (0 : Int32)), (.int (cs.length.toInt32))]) (lenOf pd_1 rfl) rfl (by rw [hml]; rfl) (W := 0) rfl (hb hby D_jdk_42_method_149_code_36) (pc' := 39) rfl (by decide) (by decide) (by decide) (by decide) all0 ?_
  rintro _ vm1 h1 ⟨d_1, kd_1, rfl, K1, p1_0, o1_0, o1_1⟩ C1
  have z1 := K1.1
  have yo1_0 := ltN o1_0.lt
  -- pc 39
  refine Go.astore (hb hby D_jdk_42_method_149_code_39) (pc' := 41) rfl rfl (L' := #[.val (.ref a), .val (.ref b), .val (.int (0 : Int32)), .val (.int (cs.length.toInt32)), .val .null, .val (.ref d_1)]) rfl ?_
  refine Go.aloadN (hb hby D_jdk_42_method_149_code_41) (pc' := 42) rfl rfl rfl ?_
  refine Go.aload (hb hby D_jdk_42_method_149_code_42) (pc' := 44) rfl rfl rfl ?_
  refine Go.iloadN (hb hby D_jdk_42_method_149_code_44) (pc' := 45) rfl rfl ?_
  refine Go.callS (c_coderOf (l := l) (nw := nw) g h1 d_1 kd_1 (cs.map by8) (cs.length.toInt32) (by rw [List.length_map]) o1_0 (by omega)) hown (wd_26 g) (wd_27 g) (wd_28 g) (wd_20 g) (by decide) (argsL := [(.ref d_1), (.int (cs.length.toInt32))]) (lenOf pd_2 rfl) rfl (by rw [hml]; rfl) (W := 1) rfl (hb hby D_jdk_42_method_149_code_45) (pc' := 48) rfl (by decide) (by decide) (by decide) (by decide) all0 ?_
  rintro _ vm2 h2 ⟨rfl, K2⟩ C2
  have z2 := K2.1
  -- pc 48
  have f3 : Fld Z h2 a "java/lang/String" "coder" "B" (.int 0) := ((e1.keep K1 nin0).keep K2 nin0)
  have f4 : Exa Z h2 a "java/lang/String" := ((e0.keep K1).keep K2)
  have f5 : Safe Z EL vm2 h2 a := (Safe.to C2 (by omega) (Safe.to C1 (by omega) (hsf _ (by simp))))
  refine Go.putF hown (wd_29 g) Via.refl f3 f4 (Or.inr ⟨(wd_30 g), rfl, hnm⟩) (wd_5 g) (ty := .byte) (by decide) (v' := (.int (0 : Int32))) rfl (by first | rfl | exact fits_nar_byte _ ) (Or.inr f5) (by omega) (hb hby D_jdk_42_method_149_code_48) (pc' := 51) rfl ?_
  intro h6 W7 z9 K8 C10
  have f11 : Fld Z h2 a "java/lang/String" "value" "[B" .null := ((e2.keep K1 nin0).keep K2 nin0)
  have f12 : Fld Z h6 a "java/lang/String" "coder" "B" (.int (0 : Int32)) := (Fld.same W7 f3)
  have f13 : Fld Z h6 a "java/lang/String" "value" "[B" .null := (Fld.other W7 f11 (Or.inr (slot_ne (Or.inr (wd_32 g)) (Or.inr (wd_30 g)) (by decide) (t := (.array .byte)) (t' := .byte) (by decide) (by decide))))
  refine Go.aloadN (hb hby D_jdk_42_method_149_code_51) (pc' := 52) rfl rfl rfl ?_
  refine Go.aload (hb hby D_jdk_42_method_149_code_52) (pc' := 54) rfl rfl rfl ?_
  have f14 : Exa Z h6 a "java/lang/String" := (f4.keep K8)
  have f15 : Safe Z EL vm2 h6 a := (Safe.to C10 (by omega) f5)
  refine Go.putF hown (wd_31 g) Via.refl f13 f14 (Or.inr ⟨(wd_32 g), rfl, hnm⟩) (wd_5 g) (ty := (.array .byte)) (by decide) rfl rfl (Or.inr f15) (by omega) (hb hby D_jdk_42_method_149_code_54) (pc' := 57) rfl ?_
  intro h16 W17 z19 K18 C20
  have f21 : Fld Z h16 a "java/lang/String" "coder" "B" (.int (0 : Int32)) := (Fld.other W17 f12 (Or.inr (slot_ne (Or.inr (wd_30 g)) (Or.inr (wd_32 g)) (by decide) (t := .byte) (t' := (.array .byte)) (by decide) (by decide))))
  have f22 : Fld Z h16 a "java/lang/String" "value" "[B" (.ref d_1) := (Fld.same W17 f13)
  have f24 : Exa Z h16 a "java/lang/String" := (f14.keep K18)
  have f25 : Ar Z h16 d_1 kd_1 .byte ((cs.map by8).map Value.int) := (((o1_0.keep K2 nin0).keep K8 (ninS (Ne.symm (Ar.ne_exa (o1_0.keep K2 nin0) ((e0.keep K1).keep K2) (wd_5 g))) nin0)).keep K18 (ninS (Ne.symm (Ar.ne_exa ((o1_0.keep K2 nin0).keep K8 (ninS (Ne.symm (Ar.ne_exa (o1_0.keep K2 nin0) ((e0.keep K1).keep K2) (wd_5 g))) nin0)) (((e0.keep K1).keep K2).keep K8) (wd_5 g))) nin0))
  have f23 : St Z h16 a d_1 kd_1 (cs.map by8) := ⟨f24, f21, f22, f25, by rw [List.length_map]; omega⟩
  refine Go.ret hret (hb hby D_jdk_42_method_149_code_57) (by decide) (by decide) ?_
  intro vmR CR
  exact ⟨d_1, kd_1, rfl, (((((Keep.refl h [a]).trans K1 all0).trans K2 all0).trans K8 (allS (by first | (left; simp; done) | (right; omega)) all0)).trans K18 (allS (by first | (left; simp; done) | (right; omega)) all0)), (by omega), f23⟩
set_option maxRecDepth 65536 in
set_option maxHeartbeats 40000000 in
theorem c_strinit {l : Launch} {Z : State} {a0 : Array Value} {EL : List (String × Nat)} {nw : Prop} {zc : Int32} {un : Addr} {ca : Addr} {kc : ClassId} {vs : List Value} (g : GH Z a0 EL zc un ca kc vs) (h : Heap) (a : Addr) (b : Addr) (kb : ClassId) (cs : List Int32) (hcs : ∀ c ∈ cs, 0 ≤ c.toInt ∧ c.toInt ≤ 255) (h0 : 0 < cs.length) (hl : cs.length ≤ 16) (ga : Z.heap.size ≤ a) (e0 : Exa Z h a "java/lang/String") (e1 : Fld Z h a "java/lang/String" "coder" "B" (.int 0)) (e2 : Fld Z h a "java/lang/String" "value" "[B" .null) (e3 : Ar Z h b kb .char (cs.map Value.int)) (zz : Z.heap.size ≤ h.size) :
    Ct l Z EL nw [] ⟨"java/lang/String", "<init>", "([C)V"⟩ jdk_42_method_3_code 2 none ({ frames := 3, cells := 1, slots := 16, locals := 52 } : Room) #[(.ref a), (.ref b)] h [a] (fun res vm' h' => ∃ d : Addr, ∃ kd : ClassId, res = none ∧ Keep h h' [a] ∧ h.size ≤ d ∧ St Z h' a d kd (cs.map by8)) := by
  have ye0 := ltN e0.lt
  have ye1 := ltN e1.lt
  have ye2 := ltN e2.lt
  have ye3 := ltN e3.lt
  refine Ct.of_go (a0 := a0) g.2.1 pn_1 (L0 := #[.val (.ref a), .val (.ref b)]) (fun m => by first | rfl | (simp [entryFrame, mkF, argsToLocals, Value.category, maxLocals]; done)) ?_
  intro p e s m below meth c hown hby hml hret hnm hZ hC hO hsf
  refine Go.aloadN (hb hby D_jdk_42_method_3_code_0) (pc' := 1) rfl rfl rfl ?_
  refine Go.aloadN (hb hby D_jdk_42_method_3_code_1) (pc' := 2) rfl rfl rfl ?_
  refine Go.iconst (hb hby D_jdk_42_method_3_code_2) (pc' := 3) rfl (z := (0 : Int32)) rfl ?_
  refine Go.aloadN (hb hby D_jdk_42_method_3_code_3) (pc' := 4) rfl rfl rfl ?_
  refine Go.alen e3 (z := (cs.length.toInt32)) (by rw [List.length_map]) (hb hby D_jdk_42_method_3_code_4) (pc' := 5) rfl ?_
  refine Go.aconstNull (hb hby D_jdk_42_method_3_code_5) (pc' := 6) rfl ?_
  refine Go.callC (c_strinit4 (l := l) (nw := nw) g h a b kb cs hcs h0 hl ga e0 e1 e2 e3 (by omega)) hown rfl rfl (wd_10 g) (wd_11 g) (wd_13 g) (wd_6 g) (by decide) (argsL := [(.ref b), (.int (0 : Int32)), (.int (cs.length.toInt32)), .null]) (lenOf pd_3 rfl) rfl (by rw [hml]; rfl) (W := 0) rfl (hb hby D_jdk_42_method_3_code_6) (pc' := 9) rfl (by decide) (by decide) (by decide) (by decide) (allS ⟨by omega, (hsf _ (by simp))⟩ all0) ?_
  rintro _ vm1 h1 ⟨d_1, kd_1, rfl, K1, p1_0, o1_0⟩ C1
  have z1 := K1.1
  have yo1_0 := ltN o1_0.lt; have yo1_0' := ltN o1_0.ltb
  -- pc 9
  refine Go.ret hret (hb hby D_jdk_42_method_3_code_9) (by decide) (by decide) ?_
  intro vmR CR
  exact ⟨d_1, kd_1, rfl, ((Keep.refl h [a]).trans K1 (allS (by first | (left; simp; done) | (right; omega)) all0)), (by omega), o1_0⟩
set_option maxRecDepth 65536 in
set_option maxHeartbeats 40000000 in
theorem c_number {l : Launch} {Z : State} {a0 : Array Value} {EL : List (String × Nat)} {nw : Prop} {zc : Int32} {un : Addr} {ca : Addr} {kc : ClassId} {vs : List Value} (g : GH Z a0 EL zc un ca kc vs) (h : Heap) (a : Addr) (zz : Z.heap.size ≤ h.size) :
    Ct l Z EL nw [] ⟨"java/lang/Number", "<init>", "()V"⟩ jdk_18_method_1_code 1 none ({ frames := 1, cells := 0, slots := 0, locals := 12 } : Room) #[(.ref a)] h [] (fun res vm' h' => res = none ∧ Keep h h' []) := by
  refine Ct.of_go (a0 := a0) g.2.1 pn_2 (L0 := #[.val (.ref a)]) (fun m => by first | rfl | (simp [entryFrame, mkF, argsToLocals, Value.category, maxLocals]; done)) ?_
  intro p e s m below meth c hown hby hml hret hnm hZ hC hO hsf
  refine Go.aloadN (hb hby D_jdk_18_method_1_code_0) (pc' := 1) rfl rfl rfl ?_
  refine Go.initO hown (wd_91 g) (wd_15 g) (wd_16 g) (by rw [hml]; rfl) (hb hby D_jdk_18_method_1_code_1) (by decide) (W := 0) rfl (by decide) (pc' := 4) rfl ?_
  refine Go.ret hret (hb hby D_jdk_18_method_1_code_4) (by decide) (by decide) ?_
  intro vmR CR
  exact ⟨rfl, (Keep.refl h [])⟩
set_option maxRecDepth 65536 in
set_option maxHeartbeats 40000000 in
theorem c_intinit {l : Launch} {Z : State} {a0 : Array Value} {EL : List (String × Nat)} {nw : Prop} {zc : Int32} {un : Addr} {ca : Addr} {kc : ClassId} {vs : List Value} (g : GH Z a0 EL zc un ca kc vs) (h : Heap) (a : Addr) (z : Int32) (ga : Z.heap.size ≤ a) (e0 : Exa Z h a "java/lang/Integer") (e1 : Fld Z h a "java/lang/Integer" "value" "I" (.int 0)) (zz : Z.heap.size ≤ h.size) :
    Ct l Z EL nw [] ⟨"java/lang/Integer", "<init>", "(I)V"⟩ jdk_33_method_23_code 2 none ({ frames := 2, cells := 0, slots := 0, locals := 24 } : Room) #[(.ref a), (.int z)] h [] (fun res vm' h' => res = none ∧ Keep h h' [a] ∧ Fld Z h' a "java/lang/Integer" "value" "I" (.int z)) := by
  have ye0 := ltN e0.lt
  have ye1 := ltN e1.lt
  refine Ct.of_go (a0 := a0) g.2.1 pn_3 (L0 := #[.val (.ref a), .val (.int z)]) (fun m => by first | rfl | (simp [entryFrame, mkF, argsToLocals, Value.category, maxLocals]; done)) ?_
  intro p e s m below meth c hown hby hml hret hnm hZ hC hO hsf
  refine Go.aloadN (hb hby D_jdk_33_method_23_code_0) (pc' := 1) rfl rfl rfl ?_
  refine Go.callC (c_number (l := l) (nw := nw) g h a (by omega)) hown rfl rfl (wd_85 g) (wd_86 g) (wd_90 g) (wd_89 g) (by decide) (argsL := []) (lenOf pd_4 rfl) rfl (by rw [hml]; rfl) (W := 0) rfl (hb hby D_jdk_33_method_23_code_1) (pc' := 4) rfl (by decide) (by decide) (by decide) (by decide) all0 ?_
  rintro _ vm1 h1 ⟨rfl, K1⟩ C1
  have z1 := K1.1
  -- pc 4
  refine Go.aloadN (hb hby D_jdk_33_method_23_code_4) (pc' := 5) rfl rfl rfl ?_
  refine Go.iloadN (hb hby D_jdk_33_method_23_code_5) (pc' := 6) rfl rfl ?_
  have f2 : Fld Z h1 a "java/lang/Integer" "value" "I" (.int 0) := (e1.keep K1 nin0)
  have f3 : Exa Z h1 a "java/lang/Integer" := (e0.keep K1)
  refine Go.putF hown (wd_92 g) Via.refl f2 f3 (Or.inr ⟨(wd_93 g), rfl, hnm⟩) (wd_80 g) (ty := .int) (by decide) rfl rfl (Or.inl ⟨by decide, by decide⟩) (by omega) (hb hby D_jdk_33_method_23_code_6) (pc' := 9) rfl ?_
  intro h4 W5 z7 K6 C8
  have f9 : Fld Z h4 a "java/lang/Integer" "value" "I" (.int z) := (Fld.same W5 f2)
  refine Go.ret hret (hb hby D_jdk_33_method_23_code_9) (by decide) (by decide) ?_
  intro vmR CR
  exact ⟨rfl, (((Keep.refl h [a]).trans K1 all0).trans K6 (allS (by first | (left; simp; done) | (right; omega)) all0)), f9⟩
set_option maxRecDepth 65536 in
set_option maxHeartbeats 40000000 in
theorem c_intof {l : Launch} {Z : State} {a0 : Array Value} {EL : List (String × Nat)} {nw : Prop} {zc : Int32} {un : Addr} {ca : Addr} {kc : ClassId} {vs : List Value} (g : GH Z a0 EL zc un ca kc vs) (h : Heap) (z : Int32) (zz : Z.heap.size ≤ h.size) :
    Ct l Z EL nw [] ⟨"java/lang/Integer", "valueOf", "(I)Ljava/lang/Integer;"⟩ jdk_33_method_22_code 1 (some (.object "java/lang/Integer")) ({ frames := 3, cells := 1, slots := 1, locals := 38 } : Room) #[(.int z)] h [] (fun res vm' h' => ∃ r : Addr, res = some (.ref r) ∧ Keep h h' [] ∧ Exa Z h' r "java/lang/Integer") := by
  refine Ct.of_go (a0 := a0) g.2.1 pn_3 (L0 := #[.val (.int z)]) (fun m => by first | rfl | (simp [entryFrame, mkF, argsToLocals, Value.category, maxLocals]; done)) ?_
  intro p e s m below meth c hown hby hml hret hnm hZ hC hO hsf
  refine Go.iloadN (hb hby D_jdk_33_method_22_code_0) (pc' := 1) rfl rfl ?_
  refine Go.bipush (hb hby D_jdk_33_method_22_code_1) (pc' := 3) rfl (z := (-128 : Int32)) rfl ?_
  refine Go.icmp (hb hby D_jdk_33_method_22_code_3) (by decide) (pc' := 23) (by decide) (pc2 := 6) rfl (fun (q3 : z < (-128 : Int32)) => ?_) (fun (q3 : ¬ (z < (-128 : Int32))) => ?_)
  · refine Go.newO hown (wd_79 g) (wd_80 g) (wd_59 g) (hb hby D_jdk_33_method_22_code_23) (pc' := 26) rfl (by decide) (by decide) ?_
    intro h1 a2 g3 l4 E5 X6 D7 S8 C9
    have KE5 := Keep.ofExt E5; have zE5 := E5.1
    have f10 : Fld Z h1 a2 "java/lang/Integer" "value" "I" (.int 0) := D7 (Or.inr (wd_93 g)) (ty := .int) (by decide)
    refine Go.dup (hb hby D_jdk_33_method_22_code_26) (pc' := 27) rfl rfl ?_
    refine Go.iloadN (hb hby D_jdk_33_method_22_code_27) (pc' := 28) rfl rfl ?_
    refine Go.callC (c_intinit (l := l) (nw := nw) g h1 a2 z (by first | omega | assumption | decide) X6 f10 (by omega)) hown rfl rfl (wd_81 g) (wd_82 g) (wd_84 g) (wd_59 g) (by decide) (argsL := [(.int z)]) (lenOf pd_5 rfl) rfl (by rw [hml]; rfl) (W := 1) rfl (hb hby D_jdk_33_method_22_code_28) (pc' := 31) rfl (by decide) (by decide) (by decide) (by decide) all0 ?_
    rintro _ vm11 h11 ⟨rfl, K11, o11_0⟩ C11
    have z11 := K11.1
    -- pc 31
    have f12 : Exa Z h11 a2 "java/lang/Integer" := (X6.keep K11)
    refine Go.retA hret rfl rfl (hb hby D_jdk_33_method_22_code_31) (by decide) (by decide) ?_
    intro vmR CR
    exact ⟨a2, (by first | rfl | (simp only [own_nar]; done) | (congr 2; done)), (((Keep.refl h []).trans KE5 all0).trans K11 (allS (by first | (left; simp; done) | (right; omega)) all0)), f12⟩
  · refine Go.iloadN (hb hby D_jdk_33_method_22_code_6) (pc' := 7) rfl rfl ?_
    refine Go.getS hown (wd_61 g) Via.refl g.2.2.2.2.2.2.2.2.1 (hb hby D_jdk_33_method_22_code_7) (pc' := 10) rfl ?_
    refine Go.icmp (hb hby D_jdk_33_method_22_code_10) (by decide) (pc' := 23) (by decide) (pc2 := 13) rfl (fun (q10 : (127 : Int32) < z) => ?_) (fun (q10 : ¬ ((127 : Int32) < z)) => ?_)
    · refine Go.newO hown (wd_79 g) (wd_80 g) (wd_59 g) (hb hby D_jdk_33_method_22_code_23) (pc' := 26) rfl (by decide) (by decide) ?_
      intro h13 a14 g15 l16 E17 X18 D19 S20 C21
      have KE17 := Keep.ofExt E17; have zE17 := E17.1
      have f22 : Fld Z h13 a14 "java/lang/Integer" "value" "I" (.int 0) := D19 (Or.inr (wd_93 g)) (ty := .int) (by decide)
      refine Go.dup (hb hby D_jdk_33_method_22_code_26) (pc' := 27) rfl rfl ?_
      refine Go.iloadN (hb hby D_jdk_33_method_22_code_27) (pc' := 28) rfl rfl ?_
      refine Go.callC (c_intinit (l := l) (nw := nw) g h13 a14 z (by first | omega | assumption | decide) X18 f22 (by omega)) hown rfl rfl (wd_81 g) (wd_82 g) (wd_84 g) (wd_59 g) (by decide) (argsL := [(.int z)]) (lenOf pd_5 rfl) rfl (by rw [hml]; rfl) (W := 1) rfl (hb hby D_jdk_33_method_22_code_28) (pc' := 31) rfl (by decide) (by decide) (by decide) (by decide) all0 ?_
      rintro _ vm23 h23 ⟨rfl, K23, o23_0⟩ C23
      have z23 := K23.1
      -- pc 31
      have f24 : Exa Z h23 a14 "java/lang/Integer" := (X18.keep K23)
      refine Go.retA hret rfl rfl (hb hby D_jdk_33_method_22_code_31) (by decide) (by decide) ?_
      intro vmR CR
      exact ⟨a14, (by first | rfl | (simp only [own_nar]; done) | (congr 2; done)), (((Keep.refl h []).trans KE17 all0).trans K23 (allS (by first | (left; simp; done) | (right; omega)) all0)), f24⟩
    · refine Go.getS hown (wd_63 g) Via.refl g.2.2.2.2.2.2.2.2.2.1 (hb hby D_jdk_33_method_22_code_13) (pc' := 16) rfl ?_
      refine Go.iloadN (hb hby D_jdk_33_method_22_code_16) (pc' := 17) rfl rfl ?_
      refine Go.sipush (hb hby D_jdk_33_method_22_code_17) (pc' := 20) rfl (z := (128 : Int32)) rfl ?_
      refine Go.iadd (hb hby D_jdk_33_method_22_code_20) (pc' := 21) rfl ?_
      obtain ⟨hj1, hj2⟩ := cache_ix q3 q10
      obtain ⟨xr, hx1, hx2⟩ := g.2.2.2.2.2.2.2.2.2.2.2 _ hj2
      refine Go.aaload (g.2.2.2.2.2.2.2.2.2.2.1.ext hO) rfl (v := (.ref xr)) hj1 hx1 (hb hby D_jdk_33_method_22_code_21) (pc' := 22) rfl ?_
      refine Go.retA hret rfl rfl (hb hby D_jdk_33_method_22_code_22) (by decide) (by decide) ?_
      intro vmR CR
      exact ⟨xr, (by first | rfl | (simp only [own_nar]; done) | (congr 2; done)), (Keep.refl h []), (hx2.ext hO)⟩
set_option maxRecDepth 65536 in
set_option maxHeartbeats 40000000 in
theorem c_named {l : Launch} {Z : State} {a0 : Array Value} {EL : List (String × Nat)} {nw : Prop} {zc : Int32} {un : Addr} {ca : Addr} {kc : ClassId} {vs : List Value} (g : GH Z a0 EL zc un ca kc vs) (h : Heap) (a : Addr) (v : Value) (z : Int32) (hv : v.isRef = true) (ga : Z.heap.size ≤ a) (e0 : Exa Z h a "com/example/bindery/bindery/Expr$Variable") (e1 : Fld Z h a "com/example/bindery/bindery/Named" "lexeme" "Ljava/lang/String;" .null) (e2 : Fld Z h a "com/example/bindery/bindery/Named" "line" "I" (.int 0)) (zz : Z.heap.size ≤ h.size) :
    Ct l Z EL nw [] ⟨"com/example/bindery/bindery/Named", "<init>", "(Ljava/lang/String;I)V"⟩ prog_25_method_1_code 3 none ({ frames := 1, cells := 0, slots := 0, locals := 12 } : Room) #[(.ref a), v, (.int z)] h [] (fun res vm' h' => res = none ∧ Keep h h' [a] ∧ Fld Z h' a "com/example/bindery/bindery/Named" "lexeme" "Ljava/lang/String;" v ∧ Fld Z h' a "com/example/bindery/bindery/Named" "line" "I" (.int z)) := by
  have ye0 := ltN e0.lt
  have ye1 := ltN e1.lt
  have ye2 := ltN e2.lt
  refine Ct.of_go (a0 := a0) g.2.1 pn_4 (L0 := #[.val (.ref a), .val v, .val (.int z)]) (fun m => by rcases ref_cases hv with rfl | ⟨_, rfl⟩ <;> first | rfl | (simp [entryFrame, mkF, argsToLocals, Value.category, maxLocals]; done)) ?_
  intro p e s m below meth c hown hby hml hret hnm hZ hC hO hsf
  refine Go.aloadN (hb hby D_prog_25_method_1_code_0) (pc' := 1) rfl rfl rfl ?_
  refine Go.initO hown (wd_41 g) (wd_15 g) (wd_16 g) (by rw [hml]; rfl) (hb hby D_prog_25_method_1_code_1) (by decide) (W := 0) rfl (by decide) (pc' := 4) rfl ?_
  refine Go.aloadN (hb hby D_prog_25_method_1_code_4) (pc' := 5) rfl rfl rfl ?_
  refine Go.aloadN (hb hby D_prog_25_method_1_code_5) (pc' := 6) rfl rfl hv ?_
  refine Go.putF hown (wd_42 g) Via.refl e1 e0 (Or.inr ⟨(wd_43 g), rfl, hnm⟩) (wd_2 g) (ty := (.object "java/lang/String")) (by decide) (narU hv) (fitsU rfl hv) (Or.inl ⟨by decide, by decide⟩) (by omega) (hb hby D_prog_25_method_1_code_6) (pc' := 9) rfl ?_
  intro h1 W2 z4 K3 C5
  have f6 : Fld Z h1 a "com/example/bindery/bindery/Named" "lexeme" "Ljava/lang/String;" v := (Fld.same W2 e1)
  have f7 : Fld Z h1 a "com/example/bindery/bindery/Named" "line" "I" (.int 0) := (Fld.other W2 e2 (Or.inr (slot_ne (Or.inr (wd_45 g)) (Or.inr (wd_43 g)) (by decide) (t := .int) (t' := (.object "java/lang/String")) (by decide) (by decide))))
  refine Go.aloadN (hb hby D_prog_25_method_1_code_9) (pc' := 10) rfl rfl rfl ?_
  refine Go.iloadN (hb hby D_prog_25_method_1_code_10) (pc' := 11) rfl rfl ?_
  have f8 : Exa Z h1 a "com/example/bindery/bindery/Expr$Variable" := (e0.keep K3)
  refine Go.putF hown (wd_44 g) Via.refl f7 f8 (Or.inr ⟨(wd_45 g), rfl, hnm⟩) (wd_2 g) (ty := .int) (by decide) rfl rfl (Or.inl ⟨by decide, by decide⟩) (by omega) (hb hby D_prog_25_method_1_code_11) (pc' := 14) rfl ?_
  intro h9 W10 z12 K11 C13
  have f14 : Fld Z h9 a "com/example/bindery/bindery/Named" "lexeme" "Ljava/lang/String;" v := (Fld.other W10 f6 (Or.inr (slot_ne (Or.inr (wd_43 g)) (Or.inr (wd_45 g)) (by decide) (t := (.object "java/lang/String")) (t' := .int) (by decide) (by decide))))
  have f15 : Fld Z h9 a "com/example/bindery/bindery/Named" "line" "I" (.int z) := (Fld.same W10 f7)
  refine Go.ret hret (hb hby D_prog_25_method_1_code_14) (by decide) (by decide) ?_
  intro vmR CR
  exact ⟨rfl, (((Keep.refl h [a]).trans K3 (allS (by first | (left; simp; done) | (right; omega)) all0)).trans K11 (allS (by first | (left; simp; done) | (right; omega)) all0)), f14, f15⟩
set_option maxRecDepth 65536 in
set_option maxHeartbeats 40000000 in
theorem c_exprvar {l : Launch} {Z : State} {a0 : Array Value} {EL : List (String × Nat)} {nw : Prop} {zc : Int32} {un : Addr} {ca : Addr} {kc : ClassId} {vs : List Value} (g : GH Z a0 EL zc un ca kc vs) (h : Heap) (a : Addr) (v : Value) (z : Int32) (hv : v.isRef = true) (ga : Z.heap.size ≤ a) (e0 : Exa Z h a "com/example/bindery/bindery/Expr$Variable") (e1 : Fld Z h a "com/example/bindery/bindery/Named" "lexeme" "Ljava/lang/String;" .null) (e2 : Fld Z h a "com/example/bindery/bindery/Named" "line" "I" (.int 0)) (zz : Z.heap.size ≤ h.size) :
    Ct l Z EL nw [] ⟨"com/example/bindery/bindery/Expr$Variable", "<init>", "(Ljava/lang/String;I)V"⟩ prog_14_method_1_code 3 none ({ frames := 2, cells := 0, slots := 0, locals := 26 } : Room) #[(.ref a), v, (.int z)] h [] (fun res vm' h' => res = none ∧ Keep h h' [a] ∧ Fld Z h' a "com/example/bindery/bindery/Named" "lexeme" "Ljava/lang/String;" v ∧ Fld Z h' a "com/example/bindery/bindery/Named" "line" "I" (.int z)) := by
  have ye0 := ltN e0.lt
  have ye1 := ltN e1.lt
  have ye2 := ltN e2.lt
  refine Ct.of_go (a0 := a0) g.2.1 pn_5 (L0 := #[.val (.ref a), .val v, .val (.int z)]) (fun m => by rcases ref_cases hv with rfl | ⟨_, rfl⟩ <;> first | rfl | (simp [entryFrame, mkF, argsToLocals, Value.category, maxLocals]; done)) ?_
  intro p e s m below meth c hown hby hml hret hnm hZ hC hO hsf
  refine Go.aloadN (hb hby D_prog_14_method_1_code_0) (pc' := 1) rfl rfl rfl ?_
  refine Go.aloadN (hb hby D_prog_14_method_1_code_1) (pc' := 2) rfl rfl hv ?_
  refine Go.iloadN (hb hby D_prog_14_method_1_code_2) (pc' := 3) rfl rfl ?_
  refine Go.callC (c_named (l := l) (nw := nw) g h a v z hv (by first | omega | assumption | decide) e0 e1 e2 (by omega)) hown rfl rfl (wd_36 g) (wd_37 g) (wd_40 g) (wd_39 g) (by decide) (argsL := [v, (.int z)]) (lenOf pd_6 rfl) rfl (by rw [hml]; rfl) (W := 0) rfl (hb hby D_prog_14_method_1_code_3) (pc' := 6) rfl (by decide) (by decide) (by decide) (by decide) all0 ?_
  rintro _ vm1 h1 ⟨rfl, K1, o1_0, o1_1⟩ C1
  have z1 := K1.1
  -- pc 6
  refine Go.ret hret (hb hby D_prog_14_method_1_code_6) (by decide) (by decide) ?_
  intro vmR CR
  exact ⟨rfl, ((Keep.refl h [a]).trans K1 (allS (by first | (left; simp; done) | (right; omega)) all0)), o1_0, o1_1⟩
set_option maxRecDepth 65536 in
set_option maxHeartbeats 40000000 in
theorem c_gvar {l : Launch} {Z : State} {a0 : Array Value} {EL : List (String × Nat)} {nw : Prop} {zc : Int32} {un : Addr} {ca : Addr} {kc : ClassId} {vs : List Value} (g : GH Z a0 EL zc un ca kc vs) (h : Heap) (a : Addr) (ga : Z.heap.size ≤ a) (e0 : Exa Z h a "com/example/bindery/bindery/Globals$Variable") (e1 : Fld Z h a "com/example/bindery/bindery/Globals$Variable" "value" "Ljava/lang/Object;" .null) (zz : Z.heap.size ≤ h.size) :
    Ct l Z EL nw [] ⟨"com/example/bindery/bindery/Globals$Variable", "<init>", "()V"⟩ prog_17_method_1_code 1 none ({ frames := 1, cells := 0, slots := 0, locals := 12 } : Room) #[(.ref a)] h [] (fun res vm' h' => res = none ∧ Keep h h' [a] ∧ Fld Z h' a "com/example/bindery/bindery/Globals$Variable" "value" "Ljava/lang/Object;" (.ref un)) := by
  have ye0 := ltN e0.lt
  have ye1 := ltN e1.lt
  refine Ct.of_go (a0 := a0) g.2.1 pn_6 (L0 := #[.val (.ref a)]) (fun m => by first | rfl | (simp [entryFrame, mkF, argsToLocals, Value.category, maxLocals]; done)) ?_
  intro p e s m below meth c hown hby hml hret hnm hZ hC hO hsf
  refine Go.aloadN (hb hby D_prog_17_method_1_code_0) (pc' := 1) rfl rfl rfl ?_
  refine Go.initO hown (wd_52 g) (wd_15 g) (wd_16 g) (by rw [hml]; rfl) (hb hby D_prog_17_method_1_code_1) (by decide) (W := 0) rfl (by decide) (pc' := 4) rfl ?_
  refine Go.aloadN (hb hby D_prog_17_method_1_code_4) (pc' := 5) rfl rfl rfl ?_
  refine Go.getS hown (wd_53 g) Via.refl g.2.2.2.2.2.2.1 (hb hby D_prog_17_method_1_code_5) (pc' := 8) rfl ?_
  refine Go.putF hown (wd_55 g) Via.refl e1 e0 (Or.inl (wd_56 g)) (wd_47 g) (ty := (.object "java/lang/Object")) (by decide) rfl rfl (Or.inl ⟨by decide, by decide⟩) (by omega) (hb hby D_prog_17_method_1_code_8) (pc' := 11) rfl ?_
  intro h1 W2 z4 K3 C5
  have f6 : Fld Z h1 a "com/example/bindery/bindery/Globals$Variable" "value" "Ljava/lang/Object;" (.ref un) := (Fld.same W2 e1)
  refine Go.ret hret (hb hby D_prog_17_method_1_code_11) (by decide) (by decide) ?_
  intro vmR CR
  exact ⟨rfl, ((Keep.refl h [a]).trans K3 (allS (by first | (left; simp; done) | (right; omega)) all0)), f6⟩
set_option maxRecDepth 65536 in
set_option maxHeartbeats 40000000 in
theorem c_define {l : Launch} {Z : State} {a0 : Array Value} {EL : List (String × Nat)} {nw : Prop} {zc : Int32} {un : Addr} {ca : Addr} {kc : ClassId} {vs : List Value} (g : GH Z a0 EL zc un ca kc vs) (h : Heap) (a : Addr) (v : Value) (o : Value) (hv : v.isRef = true) (ga : Z.heap.size ≤ a) (e0 : Exa Z h a "com/example/bindery/bindery/Globals$Variable") (e1 : Fld Z h a "com/example/bindery/bindery/Globals$Variable" "value" "Ljava/lang/Object;" o) (zz : Z.heap.size ≤ h.size) :
    Ct l Z EL nw [] ⟨"com/example/bindery/bindery/Globals$Variable", "define", "(Ljava/lang/Object;)V"⟩ prog_17_method_4_code 2 none ({ frames := 0, cells := 0, slots := 0, locals := 0 } : Room) #[(.ref a), v] h [] (fun res vm' h' => res = none ∧ Keep h h' [a] ∧ Fld Z h' a "com/example/bindery/bindery/Globals$Variable" "value" "Ljava/lang/Object;" v) := by
  have ye0 := ltN e0.lt
  have ye1 := ltN e1.lt
  refine Ct.of_go (a0 := a0) g.2.1 pn_6 (L0 := #[.val (.ref a), .val v]) (fun m => by rcases ref_cases hv with rfl | ⟨_, rfl⟩ <;> first | rfl | (simp [entryFrame, mkF, argsToLocals, Value.category, maxLocals]; done)) ?_
  intro p e s m below meth c hown hby hml hret hnm hZ hC hO hsf
  refine Go.aloadN (hb hby D_prog_17_method_4_code_0) (pc' := 1) rfl rfl rfl ?_
  refine Go.aloadN (hb hby D_prog_17_method_4_code_1) (pc' := 2) rfl rfl hv ?_
  refine Go.putF hown (wd_55 g) Via.refl e1 e0 (Or.inl (wd_56 g)) (wd_47 g) (ty := (.object "java/lang/Object")) (by decide) (narU hv) (fitsU rfl hv) (Or.inl ⟨by decide, by decide⟩) (by omega) (hb hby D_prog_17_method_4_code_2) (pc' := 5) rfl ?_
  intro h1 W2 z4 K3 C5
  have f6 : Fld Z h1 a "com/example/bindery/bindery/Globals$Variable" "value" "Ljava/lang/Object;" v := (Fld.same W2 e1)
  refine Go.ret hret (hb hby D_prog_17_method_4_code_5) (by decide) (by decide) ?_
  intro vmR CR
  exact ⟨rfl, ((Keep.refl h [a]).trans K3 (allS (by first | (left; simp; done) | (right; omega)) all0)), f6⟩
set_option maxRecDepth 65536 in
set_option maxHeartbeats 40000000 in
theorem c_assign {l : Launch} {Z : State} {a0 : Array Value} {EL : List (String × Nat)} {nw : Prop} {zc : Int32} {un : Addr} {ca : Addr} {kc : ClassId} {vs : List Value} (g : GH Z a0 EL zc un ca kc vs) (h : Heap) (a : Addr) (w : Value) (v : Value) (o : Value) (hw : w.isRef = true) (hv : v.isRef = true) (ga : Z.heap.size ≤ a) (ho : o.isRef = true) (hn : ¬ o = .ref un) (e0 : Exa Z h a "com/example/bindery/bindery/Globals$Variable") (e1 : Fld Z h a "com/example/bindery/bindery/Globals$Variable" "value" "Ljava/lang/Object;" o) (zz : Z.heap.size ≤ h.size) :
    Ct l Z EL nw [] ⟨"com/example/bindery/bindery/Globals$Variable", "assign", "(Lcom/example/bindery/bindery/Named;Ljava/lang/Object;)V"⟩ prog_17_method_3_code 3 none ({ frames := 0, cells := 0, slots := 0, locals := 0 } : Room) #[(.ref a), w, v] h [] (fun res vm' h' => res = none ∧ Keep h h' [a] ∧ Fld Z h' a "com/example/bindery/bindery/Globals$Variable" "value" "Ljava/lang/Object;" v) := by
  have ye0 := ltN e0.lt
  have ye1 := ltN e1.lt
  refine Ct.of_go (a0 := a0) g.2.1 pn_6 (L0 := #[.val (.ref a), .val w, .val v]) (fun m => by rcases ref_cases hw with rfl | ⟨_, rfl⟩ <;> rcases ref_cases hv with rfl | ⟨_, rfl⟩ <;> first | rfl | (simp [entryFrame, mkF, argsToLocals, Value.category, maxLocals]; done)) ?_
  intro p e s m below meth c hown hby hml hret hnm hZ hC hO hsf
  refine Go.aloadN (hb hby D_prog_17_method_3_code_0) (pc' := 1) rfl rfl rfl ?_
  refine Go.getF hown (wd_55 g) Via.refl e1 (hb hby D_prog_17_method_3_code_1) (pc' := 4) rfl ?_
  refine Go.getS hown (wd_53 g) Via.refl g.2.2.2.2.2.2.1 (hb hby D_prog_17_method_3_code_4) (pc' := 7) rfl ?_
  refine Go.acmpY (hb hby D_prog_17_method_3_code_7) (by decide) (pc' := 15) (by decide) (by assumption) rfl (by simp [XT.acmp, hn]) ?_
  refine Go.aloadN (hb hby D_prog_17_method_3_code_15) (pc' := 16) rfl rfl rfl ?_
  refine Go.aloadN (hb hby D_prog_17_method_3_code_16) (pc' := 17) rfl rfl hv ?_
  refine Go.putF hown (wd_55 g) Via.refl e1 e0 (Or.inl (wd_56 g)) (wd_47 g) (ty := (.object "java/lang/Object")) (by decide) (narU hv) (fitsU rfl hv) (Or.inl ⟨by decide, by decide⟩) (by omega) (hb hby D_prog_17_method_3_code_17) (pc' := 20) rfl ?_
  intro h1 W2 z4 K3 C5
  have f6 : Fld Z h1 a "com/example/bindery/bindery/Globals$Variable" "value" "Ljava/lang/Object;" v := (Fld.same W2 e1)
  refine Go.ret hret (hb hby D_prog_17_method_3_code_20) (by decide) (by decide) ?_
  intro vmR CR
  exact ⟨rfl, ((Keep.refl h [a]).trans K3 (allS (by first | (left; simp; done) | (right; omega)) all0)), f6⟩
set_option maxRecDepth 65536 in
set_option maxHeartbeats 40000000 in
theorem c_get {l : Launch} {Z : State} {a0 : Array Value} {EL : List (String × Nat)} {nw : Prop} {zc : Int32} {un : Addr} {ca : Addr} {kc : ClassId} {vs : List Value} (g : GH Z a0 EL zc un ca kc vs) (h : Heap) (a : Addr) (w : Value) (o : Value) (hw : w.isRef = true) (ho : o.isRef = true) (hn : ¬ o = .ref un) (e0 : Exa Z h a "com/example/bindery/bindery/Globals$Variable") (e1 : Fld Z h a "com/example/bindery/bindery/Globals$Variable" "value" "Ljava/lang/Object;" o) (zz : Z.heap.size ≤ h.size) :
    Ct l Z EL nw [] ⟨"com/example/bindery/bindery/Globals$Variable", "get", "(Lcom/example/bindery/bindery/Named;)Ljava/lang/Object;"⟩ prog_17_method_2_code 2 (some (.object "java/lang/Object")) ({ frames := 0, cells := 0, slots := 0, locals := 0 } : Room) #[(.ref a), w] h [] (fun res vm' h' => res = some o ∧ Keep h h' []) := by
  have ye0 := ltN e0.lt
  have ye1 := ltN e1.lt
  refine Ct.of_go (a0 := a0) g.2.1 pn_6 (L0 := #[.val (.ref a), .val w]) (fun m => by rcases ref_cases hw with rfl | ⟨_, rfl⟩ <;> first | rfl | (simp [entryFrame, mkF, argsToLocals, Value.category, maxLocals]; done)) ?_
  intro p e s m below meth c hown hby hml hret hnm hZ hC hO hsf
  refine Go.aloadN (hb hby D_prog_17_method_2_code_0) (pc' := 1) rfl rfl rfl ?_
  refine Go.getF hown (wd_55 g) Via.refl e1 (hb hby D_prog_17_method_2_code_1) (pc' := 4) rfl ?_
  refine Go.getS hown (wd_53 g) Via.refl g.2.2.2.2.2.2.1 (hb hby D_prog_17_method_2_code_4) (pc' := 7) rfl ?_
  refine Go.acmpY (hb hby D_prog_17_method_2_code_7) (by decide) (pc' := 15) (by decide) (by assumption) rfl (by simp [XT.acmp, hn]) ?_
  refine Go.aloadN (hb hby D_prog_17_method_2_code_15) (pc' := 16) rfl rfl rfl ?_
  refine Go.getF hown (wd_55 g) Via.refl e1 (hb hby D_prog_17_method_2_code_16) (pc' := 19) rfl ?_
  refine Go.retA hret rfl (by assumption) (hb hby D_prog_17_method_2_code_19) (by decide) (by decide) ?_
  intro vmR CR
  exact ⟨(by first | rfl | (simp only [own_nar]; done) | (congr 2; done)), (Keep.refl h [])⟩
set_option maxRecDepth 65536 in
set_option maxHeartbeats 40000000 in
theorem c_law {l : Launch} {Z : State} {a0 : Array Value} {EL : List (String × Nat)} {nw : Prop} {zc : Int32} {un : Addr} {ca : Addr} {kc : ClassId} {vs : List Value} (g : GH Z a0 EL zc un ca kc vs) (ws : List Jvm.Cond) (h : Heap) (i0 : Int32) (i1 : Int32) (i2 : Int32) (i3 : Int32) (i4 : Int32) (zz : Z.heap.size ≤ h.size) :
    Ct l Z EL nw ws x code maxLocals ret room_1 #[(.int i0), (.int i1), (.int i2), (.int i3), (.int i4)] h [] (fun res vm' h' => res = some (.int (1 : Int32)) ∧ Keep h h' []) := by
  refine Ct.of_go (a0 := a0) g.2.1 pn_7 (L0 := #[.val (.int i0), .val (.int i1), .val (.int i2), .val (.int i3), .val (.int i4), .unset, .unset, .unset, .unset, .unset, .unset, .unset, .unset, .unset]) (fun m => by first | rfl | (simp [entryFrame, mkF, argsToLocals, Value.category, maxLocals]; done)) ?_
  intro p e s m below meth c hown hby hml hret hnm hZ hC hO hsf
  refine Go.iconst (hb hby at_0) (pc' := 1) rfl (z := (1 : Int32)) rfl ?_
  refine Go.newP (ty := .char) rfl (wd_0 g) (hb hby at_1) (pc' := 3) rfl (by decide) (cap := 1) (by decide) (by decide) (by decide) (by decide) ?_
  intro h1 a2 k3 g4 l5 E6 A7 S8 C9
  have KE6 := Keep.ofExt E6; have zE6 := E6.1
  have A7 : Ar Z h1 a2 k3 .char [(.int 0)] := A7
  refine Go.dup (hb hby at_3) (pc' := 4) rfl rfl ?_
  refine Go.iconst (hb hby at_4) (pc' := 5) rfl (z := (0 : Int32)) rfl ?_
  refine Go.iloadN (hb hby at_5) (pc' := 6) rfl rfl ?_
  refine Go.sipush (hb hby at_6) (pc' := 9) rfl (z := (255 : Int32)) rfl ?_
  refine Go.iand (hb hby at_9) (pc' := 10) rfl ?_
  refine Go.i2c (hb hby at_10) (pc' := 11) rfl ?_
  rw [nch (m255 i2)]
  refine Go.castore A7 (by decide) (by decide) (by omega) (hb hby at_11) (pc' := 12) rfl ?_
  intro h10 A11 z12 K13 S14 C15
  rw [nch (m255 i2)] at A11
  have A11 : Ar Z h10 a2 k3 .char [(.int (i2 &&& (255 : Int32)))] := A11
  refine Go.astore (hb hby at_12) (pc' := 14) rfl rfl (L' := #[.val (.int i0), .val (.int i1), .val (.int i2), .val (.int i3), .val (.int i4), .val (.ref a2), .unset, .unset, .unset, .unset, .unset, .unset, .unset, .unset]) rfl ?_
  refine Go.newO hown (wd_1 g) (wd_2 g) (wd_3 g) (hb hby at_14) (pc' := 17) rfl (by decide) (by decide) ?_
  intro h16 a17 g18 l19 E20 X21 D22 S23 C24
  have KE20 := Keep.ofExt E20; have zE20 := E20.1
  have f25 : Fld Z h16 a17 "com/example/bindery/bindery/Named" "lexeme" "Ljava/lang/String;" .null := D22 (Or.inr (wd_43 g)) (ty := (.object "java/lang/String")) (by decide)
  have f26 : Fld Z h16 a17 "com/example/bindery/bindery/Named" "line" "I" (.int 0) := D22 (Or.inr (wd_45 g)) (ty := .int) (by decide)
  refine Go.dup (hb hby at_17) (pc' := 18) rfl rfl ?_
  refine Go.newO hown (wd_4 g) (wd_5 g) (wd_6 g) (hb hby at_18) (pc' := 21) rfl (by decide) (by decide) ?_
  intro h27 a28 g29 l30 E31 X32 D33 S34 C35
  have KE31 := Keep.ofExt E31; have zE31 := E31.1
  have f36 : Fld Z h27 a28 "java/lang/String" "coder" "B" (.int 0) := D33 (Or.inr (wd_30 g)) (ty := .byte) (by decide)
  have f37 : Fld Z h27 a28 "java/lang/String" "value" "[B" .null := D33 (Or.inr (wd_32 g)) (ty := (.array .byte)) (by decide)
  refine Go.dup (hb hby at_21) (pc' := 22) rfl rfl ?_
  refine Go.aload (hb hby at_22) (pc' := 24) rfl rfl rfl ?_
  have f38 : Ar Z h27 a2 k3 .char [(.int (i2 &&& (255 : Int32)))] := ((A11.keep KE20 nin0).keep KE31 nin0)
  refine Go.callC (c_strinit (l := l) (nw := nw) g h27 a28 a2 k3 [(i2 &&& (255 : Int32))] (alS (m255 _) al0) (by simp) (by simp) (by first | omega | assumption | decide) X32 f36 f37 f38 (by omega)) hown rfl rfl (wd_7 g) (wd_8 g) (wd_9 g) (wd_6 g) (by decide) (argsL := [(.ref a2)]) (lenOf pd_7 rfl) rfl (by rw [hml]; rfl) (W := 3) rfl (hb hby at_24) (pc' := 27) rfl (by decide) (by decide) (by decide) (by decide) (allS ⟨by omega, S34⟩ all0) ?_
  rintro _ vm39 h39 ⟨d_39, kd_39, rfl, K39, p39_0, o39_0⟩ C39
  have z39 := K39.1
  have yo39_0 := ltN o39_0.lt; have yo39_0' := ltN o39_0.ltb
  -- pc 27
  refine Go.iloadN (hb hby at_27) (pc' := 28) rfl rfl ?_
  have f40 : Exa Z h39 a17 "com/example/bindery/bindery/Expr$Variable" := ((X21.keep KE31).keep K39)
  have f41 : Fld Z h39 a17 "com/example/bindery/bindery/Named" "lexeme" "Ljava/lang/String;" .null := ((f25.keep KE31 nin0).keep K39 (ninS (neN (by omega)) nin0))
  have f42 : Fld Z h39 a17 "com/example/bindery/bindery/Named" "line" "I" (.int 0) := ((f26.keep KE31 nin0).keep K39 (ninS (neN (by omega)) nin0))
  refine Go.callC (c_exprvar (l := l) (nw := nw) g h39 a17 (.ref a28) i3 rfl (by first | omega | assumption | decide) f40 f41 f42 (by omega)) hown rfl rfl (wd_33 g) (wd_34 g) (wd_35 g) (wd_3 g) (by decide) (argsL := [(.ref a28), (.int i3)]) (lenOf pd_6 rfl) rfl (by rw [hml]; rfl) (W := 1) rfl (hb hby at_28) (pc' := 31) rfl (by decide) (by decide) (by decide) (by decide) all0 ?_
  rintro _ vm43 h43 ⟨rfl, K43, o43_0, o43_1⟩ C43
  have z43 := K43.1
  -- pc 31
  refine Go.astore (hb hby at_31) (pc' := 33) rfl rfl (L' := #[.val (.int i0), .val (.int i1), .val (.int i2), .val (.int i3), .val (.int i4), .val (.ref a2), .val (.ref a17), .unset, .unset, .unset, .unset, .unset, .unset, .unset]) rfl ?_
  refine Go.newO hown (wd_46 g) (wd_47 g) (wd_48 g) (hb hby at_33) (pc' := 36) rfl (by decide) (by decide) ?_
  intro h44 a45 g46 l47 E48 X49 D50 S51 C52
  have KE48 := Keep.ofExt E48; have zE48 := E48.1
  have f53 : Fld Z h44 a45 "com/example/bindery/bindery/Globals$Variable" "value" "Ljava/lang/Object;" .null := D50 (Or.inl (wd_56 g)) (ty := (.object "java/lang/Object")) (by decide)
  refine Go.dup (hb hby at_36) (pc' := 37) rfl rfl ?_
  refine Go.callC (c_gvar (l := l) (nw := nw) g h44 a45 (by first | omega | assumption | decide) X49 f53 (by omega)) hown rfl rfl (wd_49 g) (wd_50 g) (wd_51 g) (wd_48 g) (by decide) (argsL := []) (lenOf pd_4 rfl) rfl (by rw [hml]; rfl) (W := 1) rfl (hb hby at_37) (pc' := 40) rfl (by decide) (by decide) (by decide) (by decide) all0 ?_
  rintro _ vm54 h54 ⟨rfl, K54, o54_0⟩ C54
  have z54 := K54.1
  -- pc 40
  refine Go.astore (hb hby at_40) (pc' := 42) rfl rfl (L' := #[.val (.int i0), .val (.int i1), .val (.int i2), .val (.int i3), .val (.int i4), .val (.ref a2), .val (.ref a17), .val (.ref a45), .unset, .unset, .unset, .unset, .unset, .unset]) rfl ?_
  refine Go.newO hown (wd_46 g) (wd_47 g) (wd_48 g) (hb hby at_42) (pc' := 45) rfl (by decide) (by decide) ?_
  intro h55 a56 g57 l58 E59 X60 D61 S62 C63
  have KE59 := Keep.ofExt E59; have zE59 := E59.1
  have f64 : Fld Z h55 a56 "com/example/bindery/bindery/Globals$Variable" "value" "Ljava/lang/Object;" .null := D61 (Or.inl (wd_56 g)) (ty := (.object "java/lang/Object")) (by decide)
  refine Go.dup (hb hby at_45) (pc' := 46) rfl rfl ?_
  refine Go.callC (c_gvar (l := l) (nw := nw) g h55 a56 (by first | omega | assumption | decide) X60 f64 (by omega)) hown rfl rfl (wd_49 g) (wd_50 g) (wd_51 g) (wd_48 g) (by decide) (argsL := []) (lenOf pd_4 rfl) rfl (by rw [hml]; rfl) (W := 1) rfl (hb hby at_46) (pc' := 49) rfl (by decide) (by decide) (by decide) (by decide) all0 ?_
  rintro _ vm65 h65 ⟨rfl, K65, o65_0⟩ C65
  have z65 := K65.1
  -- pc 49
  refine Go.astore (hb hby at_49) (pc' := 51) rfl rfl (L' := #[.val (.int i0), .val (.int i1), .val (.int i2), .val (.int i3), .val (.int i4), .val (.ref a2), .val (.ref a17), .val (.ref a45), .val (.ref a56), .unset, .unset, .unset, .unset, .unset]) rfl ?_
  refine Go.iload (hb hby at_51) (pc' := 53) rfl rfl ?_
  refine Go.iconst (hb hby at_53) (pc' := 54) rfl (z := (1 : Int32)) rfl ?_
  refine Go.iand (hb hby at_54) (pc' := 55) rfl ?_
  refine Go.ifc (hb hby at_55) (by decide) (pc' := 62) (by decide) (pc2 := 58) rfl (fun (q55 : (i4 &&& (1 : Int32)) = (0 : Int32)) => ?_) (fun (q55 : ¬ ((i4 &&& (1 : Int32)) = (0 : Int32))) => ?_)
  · refine Go.iloadN (hb hby at_62) (pc' := 63) rfl rfl ?_
    refine Go.callS (c_intof (l := l) (nw := nw) g h65 i0 (by omega)) hown (wd_57 g) (wd_58 g) (wd_60 g) (wd_59 g) (by decide) (argsL := [(.int i0)]) (lenOf pd_8 rfl) rfl (by rw [hml]; rfl) (W := 0) rfl (hb hby at_63) (pc' := 66) rfl (by decide) (by decide) (by decide) (by decide) all0 ?_
    rintro _ vm66 h66 ⟨r_66, rfl, K66, o66_0⟩ C66
    have z66 := K66.1
    have yo66_0 := ltN o66_0.lt
    -- pc 66
    refine Go.astore (hb hby at_66) (pc' := 68) rfl rfl (L' := #[.val (.int i0), .val (.int i1), .val (.int i2), .val (.int i3), .val (.int i4), .val (.ref a2), .val (.ref a17), .val (.ref a45), .val (.ref a56), .val (.ref r_66), .unset, .unset, .unset, .unset]) rfl ?_
    refine Go.iload (hb hby at_68) (pc' := 70) rfl rfl ?_
    refine Go.iconst (hb hby at_70) (pc' := 71) rfl (z := (2 : Int32)) rfl ?_
    refine Go.iand (hb hby at_71) (pc' := 72) rfl ?_
    refine Go.ifc (hb hby at_72) (by decide) (pc' := 79) (by decide) (pc2 := 75) rfl (fun (q72 : (i4 &&& (2 : Int32)) = (0 : Int32)) => ?_) (fun (q72 : ¬ ((i4 &&& (2 : Int32)) = (0 : Int32))) => ?_)
    · refine Go.iloadN (hb hby at_79) (pc' := 80) rfl rfl ?_
      refine Go.callS (c_intof (l := l) (nw := nw) g h66 i1 (by omega)) hown (wd_57 g) (wd_58 g) (wd_60 g) (wd_59 g) (by decide) (argsL := [(.int i1)]) (lenOf pd_8 rfl) rfl (by rw [hml]; rfl) (W := 0) rfl (hb hby at_80) (pc' := 83) rfl (by decide) (by decide) (by decide) (by decide) all0 ?_
      rintro _ vm67 h67 ⟨r_67, rfl, K67, o67_0⟩ C67
      have z67 := K67.1
      have yo67_0 := ltN o67_0.lt
      -- pc 83
      refine Go.astore (hb hby at_83) (pc' := 85) rfl rfl (L' := #[.val (.int i0), .val (.int i1), .val (.int i2), .val (.int i3), .val (.int i4), .val (.ref a2), .val (.ref a17), .val (.ref a45), .val (.ref a56), .val (.ref r_66), .val (.ref r_67), .unset, .unset, .unset]) rfl ?_
      refine Go.iloadN (hb hby at_85) (pc' := 86) rfl rfl ?_
      refine Go.callS (c_intof (l := l) (nw := nw) g h67 i2 (by omega)) hown (wd_57 g) (wd_58 g) (wd_60 g) (wd_59 g) (by decide) (argsL := [(.int i2)]) (lenOf pd_8 rfl) rfl (by rw [hml]; rfl) (W := 0) rfl (hb hby at_86) (pc' := 89) rfl (by decide) (by decide) (by decide) (by decide) all0 ?_
      rintro _ vm68 h68 ⟨r_68, rfl, K68, o68_0⟩ C68
      have z68 := K68.1
      have yo68_0 := ltN o68_0.lt
      -- pc 89
      refine Go.astore (hb hby at_89) (pc' := 91) rfl rfl (L' := #[.val (.int i0), .val (.int i1), .val (.int i2), .val (.int i3), .val (.int i4), .val (.ref a2), .val (.ref a17), .val (.ref a45), .val (.ref a56), .val (.ref r_66), .val (.ref r_67), .val (.ref r_68), .unset, .unset]) rfl ?_
      refine Go.iload (hb hby at_91) (pc' := 93) rfl rfl ?_
      refine Go.bipush (hb hby at_93) (pc' := 95) rfl (z := (8 : Int32)) rfl ?_
      refine Go.iand (hb hby at_95) (pc' := 96) rfl ?_
      refine Go.ifc (hb hby at_96) (by decide) (pc' := 103) (by decide) (pc2 := 99) rfl (fun (q96 : (i4 &&& (8 : Int32)) = (0 : Int32)) => ?_) (fun (q96 : ¬ ((i4 &&& (8 : Int32)) = (0 : Int32))) => ?_)
      · refine Go.iloadN (hb hby at_103) (pc' := 104) rfl rfl ?_
        refine Go.iloadN (hb hby at_104) (pc' := 105) rfl rfl ?_
        refine Go.ixor (hb hby at_105) (pc' := 106) rfl ?_
        refine Go.callS (c_intof (l := l) (nw := nw) g h68 (i0 ^^^ i1) (by omega)) hown (wd_57 g) (wd_58 g) (wd_60 g) (wd_59 g) (by decide) (argsL := [(.int (i0 ^^^ i1))]) (lenOf pd_8 rfl) rfl (by rw [hml]; rfl) (W := 0) rfl (hb hby at_106) (pc' := 109) rfl (by decide) (by decide) (by decide) (by decide) all0 ?_
        rintro _ vm69 h69 ⟨r_69, rfl, K69, o69_0⟩ C69
        have z69 := K69.1
        have yo69_0 := ltN o69_0.lt
        -- pc 109
        refine Go.astore (hb hby at_109) (pc' := 111) rfl rfl (L' := #[.val (.int i0), .val (.int i1), .val (.int i2), .val (.int i3), .val (.int i4), .val (.ref a2), .val (.ref a17), .val (.ref a45), .val (.ref a56), .val (.ref r_66), .val (.ref r_67), .val (.ref r_68), .val (.ref r_69), .unset]) rfl ?_
        refine Go.aload (hb hby at_111) (pc' := 113) rfl rfl rfl ?_
        refine Go.aload (hb hby at_113) (pc' := 115) rfl rfl rfl ?_
        have f70 : Exa Z h69 a45 "com/example/bindery/bindery/Globals$Variable" := (((((((X49.keep K54).keep KE59).keep K65).keep K66).keep K67).keep K68).keep K69)
        have f71 : Fld Z h69 a45 "com/example/bindery/bindery/Globals$Variable" "value" "Ljava/lang/Object;" (.ref un) := ((((((o54_0.keep KE59 nin0).keep K65 (ninS (neN (by omega)) nin0)).keep K66 nin0).keep K67 nin0).keep K68 nin0).keep K69 nin0)
        refine Go.callV (y0 := ⟨"com/example/bindery/bindery/Globals$Variable", "define", "(Ljava/lang/Object;)V"⟩) (c_define (l := l) (nw := nw) g h69 a45 (.ref r_66) (.ref un) rfl (by first | omega | assumption | decide) f70 f71 (by omega)) hown (wd_64 g) (wd_65 g) (notFace_of_selects (wd_67 g)) (wd_67 g) (wd_66 g) f70 (wd_68 g) (wd_48 g) (by decide) (argsL := [(.ref r_66)]) (lenOf pd_9 rfl) rfl (by rw [hml]; rfl) (W := 0) rfl (hb hby at_115) (pc' := 118) rfl (by decide) (by decide) (by decide) (by decide) all0 ?_
        rintro _ vm72 h72 ⟨rfl, K72, o72_0⟩ C72
        have z72 := K72.1
        -- pc 118
        refine Go.aload (hb hby at_118) (pc' := 120) rfl rfl rfl ?_
        refine Go.aload (hb hby at_120) (pc' := 122) rfl rfl rfl ?_
        have f73 : Exa Z h72 a56 "com/example/bindery/bindery/Globals$Variable" := ((((((X60.keep K65).keep K66).keep K67).keep K68).keep K69).keep K72)
        have f74 : Fld Z h72 a56 "com/example/bindery/bindery/Globals$Variable" "value" "Ljava/lang/Object;" (.ref un) := (((((o65_0.keep K66 nin0).keep K67 nin0).keep K68 nin0).keep K69 nin0).keep K72 (ninS (neN (by omega)) nin0))
        refine Go.callV (y0 := ⟨"com/example/bindery/bindery/Globals$Variable", "define", "(Ljava/lang/Object;)V"⟩) (c_define (l := l) (nw := nw) g h72 a56 (.ref r_68) (.ref un) rfl (by first | omega | assumption | decide) f73 f74 (by omega)) hown (wd_64 g) (wd_65 g) (notFace_of_selects (wd_67 g)) (wd_67 g) (wd_66 g) f73 (wd_68 g) (wd_48 g) (by decide) (argsL := [(.ref r_68)]) (lenOf pd_9 rfl) rfl (by rw [hml]; rfl) (W := 0) rfl (hb hby at_122) (pc' := 125) rfl (by decide) (by decide) (by decide) (by decide) all0 ?_
        rintro _ vm75 h75 ⟨rfl, K75, o75_0⟩ C75
        have z75 := K75.1
        -- pc 125
        refine Go.aload (hb hby at_125) (pc' := 127) rfl rfl rfl ?_
        refine Go.aload (hb hby at_127) (pc' := 129) rfl rfl rfl ?_
        refine Go.aload (hb hby at_129) (pc' := 131) rfl rfl rfl ?_
        have f76 : Exa Z h75 r_66 "java/lang/Integer" := (((((o66_0.keep K67).keep K68).keep K69).keep K72).keep K75)
        have f77 : Exa Z h75 un "java/lang/Object" := (((((((((((((((((g.2.2.2.2.2.2.2.1.ext hO).keep KE6).keep K13).keep KE20).keep KE31).keep K39).keep K43).keep KE48).keep K54).keep KE59).keep K65).keep K66).keep K67).keep K68).keep K69).keep K72).keep K75)
        have f78 : Exa Z h75 a45 "com/example/bindery/bindery/Globals$Variable" := ((f70.keep K72).keep K75)
        have f79 : Fld Z h75 a45 "com/example/bindery/bindery/Globals$Variable" "value" "Ljava/lang/Object;" (.ref r_66) := (o72_0.keep K75 (ninS (neN (by omega)) nin0))
        refine Go.callV (y0 := ⟨"com/example/bindery/bindery/Globals$Variable", "assign", "(Lcom/example/bindery/bindery/Named;Ljava/lang/Object;)V"⟩) (c_assign (l := l) (nw := nw) g h75 a45 (.ref a17) (.ref r_67) (.ref r_66) rfl rfl (by first | omega | assumption | decide) rfl (fun q => Exa.ne f76 f77 (by decide) (Value.ref.inj q)) f78 f79 (by omega)) hown (wd_69 g) (wd_70 g) (notFace_of_selects (wd_72 g)) (wd_72 g) (wd_71 g) f78 (wd_73 g) (wd_48 g) (by decide) (argsL := [(.ref a17), (.ref r_67)]) (lenOf pd_10 rfl) rfl (by rw [hml]; rfl) (W := 0) rfl (hb hby at_131) (pc' := 134) rfl (by decide) (by decide) (by decide) (by decide) all0 ?_
        rintro _ vm80 h80 ⟨rfl, K80, o80_0⟩ C80
        have z80 := K80.1
        -- pc 134
        refine Go.aload (hb hby at_134) (pc' := 136) rfl rfl rfl ?_
        refine Go.aload (hb hby at_136) (pc' := 138) rfl rfl rfl ?_
        have f81 : Exa Z h80 r_67 "java/lang/Integer" := (((((o67_0.keep K68).keep K69).keep K72).keep K75).keep K80)
        have f82 : Exa Z h80 un "java/lang/Object" := (f77.keep K80)
        have f83 : Exa Z h80 a45 "com/example/bindery/bindery/Globals$Variable" := (f78.keep K80)
        refine Go.callV (y0 := ⟨"com/example/bindery/bindery/Globals$Variable", "get", "(Lcom/example/bindery/bindery/Named;)Ljava/lang/Object;"⟩) (c_get (l := l) (nw := nw) g h80 a45 (.ref a17) (.ref r_67) rfl rfl (fun q => Exa.ne f81 f82 (by decide) (Value.ref.inj q)) f83 o80_0 (by omega)) hown (wd_74 g) (wd_75 g) (notFace_of_selects (wd_77 g)) (wd_77 g) (wd_76 g) f83 (wd_78 g) (wd_48 g) (by decide) (argsL := [(.ref a17)]) (lenOf pd_11 rfl) rfl (by rw [hml]; rfl) (W := 0) rfl (hb hby at_138) (pc' := 141) rfl (by decide) (by decide) (by decide) (by decide) all0 ?_
        rintro _ vm84 h84 ⟨rfl, K84⟩ C84
        have z84 := K84.1
        -- pc 141
        refine Go.aload (hb hby at_141) (pc' := 143) rfl rfl rfl ?_
        refine Go.acmpN (hb hby at_143) (pc' := 146) rfl rfl rfl (by simp [XT.acmp]) ?_
        refine Go.aload (hb hby at_146) (pc' := 148) rfl rfl rfl ?_
        refine Go.aload (hb hby at_148) (pc' := 150) rfl rfl rfl ?_
        have f85 : Exa Z h84 r_68 "java/lang/Integer" := (((((o68_0.keep K69).keep K72).keep K75).keep K80).keep K84)
        have f86 : Exa Z h84 un "java/lang/Object" := (f82.keep K84)
        have f87 : Exa Z h84 a56 "com/example/bindery/bindery/Globals$Variable" := (((f73.keep K75).keep K80).keep K84)
        have f88 : Fld Z h84 a56 "com/example/bindery/bindery/Globals$Variable" "value" "Ljava/lang/Object;" (.ref r_68) := ((o75_0.keep K80 (ninS (neN (by omega)) nin0)).keep K84 nin0)
        refine Go.callV (y0 := ⟨"com/example/bindery/bindery/Globals$Variable", "get", "(Lcom/example/bindery/bindery/Named;)Ljava/lang/Object;"⟩) (c_get (l := l) (nw := nw) g h84 a56 (.ref a17) (.ref r_68) rfl rfl (fun q => Exa.ne f85 f86 (by decide) (Value.ref.inj q)) f87 f88 (by omega)) hown (wd_74 g) (wd_75 g) (notFace_of_selects (wd_77 g)) (wd_77 g) (wd_76 g) f87 (wd_78 g) (wd_48 g) (by decide) (argsL := [(.ref a17)]) (lenOf pd_11 rfl) rfl (by rw [hml]; rfl) (W := 0) rfl (hb hby at_150) (pc' := 153) rfl (by decide) (by decide) (by decide) (by decide) all0 ?_
        rintro _ vm89 h89 ⟨rfl, K89⟩ C89
        have z89 := K89.1
        -- pc 153
        refine Go.aload (hb hby at_153) (pc' := 155) rfl rfl rfl ?_
        refine Go.acmpN (hb hby at_155) (pc' := 158) rfl rfl rfl (by simp [XT.acmp]) ?_
        refine Go.iconst (hb hby at_158) (pc' := 159) rfl (z := (1 : Int32)) rfl ?_
        refine Go.goto (hb hby at_159) (by decide) (pc' := 163) (by decide) ?_
        refine Go.istore (hb hby at_163) (pc' := 165) rfl (L' := #[.val (.int i0), .val (.int i1), .val (.int i2), .val (.int i3), .val (.int i4), .val (.ref a2), .val (.ref a17), .val (.ref a45), .val (.ref a56), .val (.ref r_66), .val (.ref r_67), .val (.ref r_68), .val (.ref r_69), .val (.int (1 : Int32))]) rfl ?_
        refine Go.iload (hb hby at_165) (pc' := 167) rfl rfl ?_
        refine Go.iconst (hb hby at_167) (pc' := 168) rfl (z := (4 : Int32)) rfl ?_
        refine Go.iand (hb hby at_168) (pc' := 169) rfl ?_
        refine Go.ifc (hb hby at_169) (by decide) (pc' := 205) (by decide) (pc2 := 172) rfl (fun (q169 : (i4 &&& (4 : Int32)) = (0 : Int32)) => ?_) (fun (q169 : ¬ ((i4 &&& (4 : Int32)) = (0 : Int32))) => ?_)
        · refine Go.iload (hb hby at_205) (pc' := 207) rfl rfl ?_
          refine Go.retN (t := .boolean) hret (by simp) (hb hby at_207) (by decide) (by decide) ?_
          intro vmR CR
          exact ⟨(by first | rfl | (simp only [own_nar]; done) | (congr 2; done)), ((((((((((((((((((((Keep.refl h []).trans KE6 all0).trans K13 (allS (by first | (left; simp; done) | (right; omega)) all0)).trans KE20 all0).trans KE31 all0).trans K39 (allS (by first | (left; simp; done) | (right; omega)) all0)).trans K43 (allS (by first | (left; simp; done) | (right; omega)) all0)).trans KE48 all0).trans K54 (allS (by first | (left; simp; done) | (right; omega)) all0)).trans KE59 all0).trans K65 (allS (by first | (left; simp; done) | (right; omega)) all0)).trans K66 all0).trans K67 all0).trans K68 all0).trans K69 all0).trans K72 (allS (by first | (left; simp; done) | (right; omega)) all0)).trans K75 (allS (by first | (left; simp; done) | (right; omega)) all0)).trans K80 (allS (by first | (left; simp; done) | (right; omega)) all0)).trans K84 all0).trans K89 all0)⟩
        · refine Go.aload (hb hby at_172) (pc' := 174) rfl rfl rfl ?_
          refine Go.aload (hb hby at_174) (pc' := 176) rfl rfl rfl ?_
          refine Go.aload (hb hby at_176) (pc' := 178) rfl rfl rfl ?_
          have f90 : Exa Z h89 r_67 "java/lang/Integer" := ((f81.keep K84).keep K89)
          have f91 : Exa Z h89 un "java/lang/Object" := (f86.keep K89)
          have f92 : Exa Z h89 a45 "com/example/bindery/bindery/Globals$Variable" := ((f83.keep K84).keep K89)
          have f93 : Fld Z h89 a45 "com/example/bindery/bindery/Globals$Variable" "value" "Ljava/lang/Object;" (.ref r_67) := ((o80_0.keep K84 nin0).keep K89 nin0)
          refine Go.callV (y0 := ⟨"com/example/bindery/bindery/Globals$Variable", "assign", "(Lcom/example/bindery/bindery/Named;Ljava/lang/Object;)V"⟩) (c_assign (l := l) (nw := nw) g h89 a45 (.ref a17) (.ref r_69) (.ref r_67) rfl rfl (by first | omega | assumption | decide) rfl (fun q => Exa.ne f90 f91 (by decide) (Value.ref.inj q)) f92 f93 (by omega)) hown (wd_69 g) (wd_70 g) (notFace_of_selects (wd_72 g)) (wd_72 g) (wd_71 g) f92 (wd_73 g) (wd_48 g) (by decide) (argsL := [(.ref a17), (.ref r_69)]) (lenOf pd_10 rfl) rfl (by rw [hml]; rfl) (W := 0) rfl (hb hby at_178) (pc' := 181) rfl (by decide) (by decide) (by decide) (by decide) all0 ?_
          rintro _ vm94 h94 ⟨rfl, K94, o94_0⟩ C94
          have z94 := K94.1
          -- pc 181
          refine Go.iload (hb hby at_181) (pc' := 183) rfl rfl ?_
          refine Go.ifN (hb hby at_183) (pc' := 186) rfl (show ¬ ((1 : Int32) = (0 : Int32)) from by decide) ?_
          refine Go.aload (hb hby at_186) (pc' := 188) rfl rfl rfl ?_
          refine Go.aload (hb hby at_188) (pc' := 190) rfl rfl rfl ?_
          have f95 : Exa Z h94 r_69 "java/lang/Integer" := ((((((o69_0.keep K72).keep K75).keep K80).keep K84).keep K89).keep K94)
          have f96 : Exa Z h94 un "java/lang/Object" := (f91.keep K94)
          have f97 : Exa Z h94 a45 "com/example/bindery/bindery/Globals$Variable" := (f92.keep K94)
          refine Go.callV (y0 := ⟨"com/example/bindery/bindery/Globals$Variable", "get", "(Lcom/example/bindery/bindery/Named;)Ljava/lang/Object;"⟩) (c_get (l := l) (nw := nw) g h94 a45 (.ref a17) (.ref r_69) rfl rfl (fun q => Exa.ne f95 f96 (by decide) (Value.ref.inj q)) f97 o94_0 (by omega)) hown (wd_74 g) (wd_75 g) (notFace_of_selects (wd_77 g)) (wd_77 g) (wd_76 g) f97 (wd_78 g) (wd_48 g) (by decide) (argsL := [(.ref a17)]) (lenOf pd_11 rfl) rfl (by rw [hml]; rfl) (W := 0) rfl (hb hby at_190) (pc' := 193) rfl (by decide) (by decide) (by decide) (by decide) all0 ?_
          rintro _ vm98 h98 ⟨rfl, K98⟩ C98
          have z98 := K98.1
          -- pc 193
          refine Go.aload (hb hby at_193) (pc' := 195) rfl rfl rfl ?_
          refine Go.acmpN (hb hby at_195) (pc' := 198) rfl rfl rfl (by simp [XT.acmp]) ?_
          refine Go.iconst (hb hby at_198) (pc' := 199) rfl (z := (1 : Int32)) rfl ?_
          refine Go.goto (hb hby at_199) (by decide) (pc' := 203) (by decide) ?_
          refine Go.istore (hb hby at_203) (pc' := 205) rfl (L' := #[.val (.int i0), .val (.int i1), .val (.int i2), .val (.int i3), .val (.int i4), .val (.ref a2), .val (.ref a17), .val (.ref a45), .val (.ref a56), .val (.ref r_66), .val (.ref r_67), .val (.ref r_68), .val (.ref r_69), .val (.int (1 : Int32))]) rfl ?_
          refine Go.iload (hb hby at_205) (pc' := 207) rfl rfl ?_
          refine Go.retN (t := .boolean) hret (by simp) (hb hby at_207) (by decide) (by decide) ?_
          intro vmR CR
          exact ⟨(by first | rfl | (simp only [own_nar]; done) | (congr 2; done)), ((((((((((((((((((((((Keep.refl h []).trans KE6 all0).trans K13 (allS (by first | (left; simp; done) | (right; omega)) all0)).trans KE20 all0).trans KE31 all0).trans K39 (allS (by first | (left; simp; done) | (right; omega)) all0)).trans K43 (allS (by first | (left; simp; done) | (right; omega)) all0)).trans KE48 all0).trans K54 (allS (by first | (left; simp; done) | (right; omega)) all0)).trans KE59 all0).trans K65 (allS (by first | (left; simp; done) | (right; omega)) all0)).trans K66 all0).trans K67 all0).trans K68 all0).trans K69 all0).trans K72 (allS (by first | (left; simp; done) | (right; omega)) all0)).trans K75 (allS (by first | (left; simp; done) | (right; omega)) all0)).trans K80 (allS (by first | (left; simp; done) | (right; omega)) all0)).trans K84 all0).trans K89 all0).trans K94 (allS (by first | (left; simp; done) | (right; omega)) all0)).trans K98 all0)⟩
      · refine Go.aconstNull (hb hby at_99) (pc' := 100) rfl ?_
        refine Go.goto (hb hby at_100) (by decide) (pc' := 109) (by decide) ?_
        refine Go.astore (hb hby at_109) (pc' := 111) rfl rfl (L' := #[.val (.int i0), .val (.int i1), .val (.int i2), .val (.int i3), .val (.int i4), .val (.ref a2), .val (.ref a17), .val (.ref a45), .val (.ref a56), .val (.ref r_66), .val (.ref r_67), .val (.ref r_68), .val .null, .unset]) rfl ?_
        refine Go.aload (hb hby at_111) (pc' := 113) rfl rfl rfl ?_
        refine Go.aload (hb hby at_113) (pc' := 115) rfl rfl rfl ?_
        have f99 : Exa Z h68 a45 "com/example/bindery/bindery/Globals$Variable" := ((((((X49.keep K54).keep KE59).keep K65).keep K66).keep K67).keep K68)
        have f100 : Fld Z h68 a45 "com/example/bindery/bindery/Globals$Variable" "value" "Ljava/lang/Object;" (.ref un) := (((((o54_0.keep KE59 nin0).keep K65 (ninS (neN (by omega)) nin0)).keep K66 nin0).keep K67 nin0).keep K68 nin0)
        refine Go.callV (y0 := ⟨"com/example/bindery/bindery/Globals$Variable", "define", "(Ljava/lang/Object;)V"⟩) (c_define (l := l) (nw := nw) g h68 a45 (.ref r_66) (.ref un) rfl (by first | omega | assumption | decide) f99 f100 (by omega)) hown (wd_64 g) (wd_65 g) (notFace_of_selects (wd_67 g)) (wd_67 g) (wd_66 g) f99 (wd_68 g) (wd_48 g) (by decide) (argsL := [(.ref r_66)]) (lenOf pd_9 rfl) rfl (by rw [hml]; rfl) (W := 0) rfl (hb hby at_115) (pc' := 118) rfl (by decide) (by decide) (by decide) (by decide) all0 ?_
        rintro _ vm101 h101 ⟨rfl, K101, o101_0⟩ C101
        have z101 := K101.1
        -- pc 118
        refine Go.aload (hb hby at_118) (pc' := 120) rfl rfl rfl ?_
        refine Go.aload (hb hby at_120) (pc' := 122) rfl rfl rfl ?_
        have f102 : Exa Z h101 a56 "com/example/bindery/bindery/Globals$Variable" := (((((X60.keep K65).keep K66).keep K67).keep K68).keep K101)
        have f103 : Fld Z h101 a56 "com/example/bindery/bindery/Globals$Variable" "value" "Ljava/lang/Object;" (.ref un) := ((((o65_0.keep K66 nin0).keep K67 nin0).keep K68 nin0).keep K101 (ninS (neN (by omega)) nin0))
        refine Go.callV (y0 := ⟨"com/example/bindery/bindery/Globals$Variable", "define", "(Ljava/lang/Object;)V"⟩) (c_define (l := l) (nw := nw) g h101 a56 (.ref r_68) (.ref un) rfl (by first | omega | assumption | decide) f102 f103 (by omega)) hown (wd_64 g) (wd_65 g) (notFace_of_selects (wd_67 g)) (wd_67 g) (wd_66 g) f102 (wd_68 g) (wd_48 g) (by decide) (argsL := [(.ref r_68)]) (lenOf pd_9 rfl) rfl (by rw [hml]; rfl) (W := 0) rfl (hb hby at_122) (pc' := 125) rfl (by decide) (by decide) (by decide) (by decide) all0 ?_
        rintro _ vm104 h104 ⟨rfl, K104, o104_0⟩ C104
        have z104 := K104.1
        -- pc 125
        refine Go.aload (hb hby at_125) (pc' := 127) rfl rfl rfl ?_
        refine Go.aload (hb hby at_127) (pc' := 129) rfl rfl rfl ?_
        refine Go.aload (hb hby at_129) (pc' := 131) rfl rfl rfl ?_
        have f105 : Exa Z h104 r_66 "java/lang/Integer" := ((((o66_0.keep K67).keep K68).keep K101).keep K104)
        have f106 : Exa Z h104 un "java/lang/Object" := ((((((((((((((((g.2.2.2.2.2.2.2.1.ext hO).keep KE6).keep K13).keep KE20).keep KE31).keep K39).keep K43).keep KE48).keep K54).keep KE59).keep K65).keep K66).keep K67).keep K68).keep K101).keep K104)
        have f107 : Exa Z h104 a45 "com/example/bindery/bindery/Globals$Variable" := ((f99.keep K101).keep K104)
        have f108 : Fld Z h104 a45 "com/example/bindery/bindery/Globals$Variable" "value" "Ljava/lang/Object;" (.ref r_66) := (o101_0.keep K104 (ninS (neN (by omega)) nin0))
        refine Go.callV (y0 := ⟨"com/example/bindery/bindery/Globals$Variable", "assign", "(Lcom/example/bindery/bindery/Named;Ljava/lang/Object;)V"⟩) (c_assign (l := l) (nw := nw) g h104 a45 (.ref a17) (.ref r_67) (.ref r_66) rfl rfl (by first | omega | assumption | decide) rfl (fun q => Exa.ne f105 f106 (by decide) (Value.ref.inj q)) f107 f108 (by omega)) hown (wd_69 g) (wd_70 g) (notFace_of_selects (wd_72 g)) (wd_72 g) (wd_71 g) f107 (wd_73 g) (wd_48 g) (by decide) (argsL := [(.ref a17), (.ref r_67)]) (lenOf pd_10 rfl) rfl (by rw [hml]; rfl) (W := 0) rfl (hb hby at_131) (pc' := 134) rfl (by decide) (by decide) (by decide) (by decide) all0 ?_
        rintro _ vm109 h109 ⟨rfl, K109, o109_0⟩ C109
        have z109 := K109.1
        -- pc 134
        refine Go.aload (hb hby at_134) (pc' := 136) rfl rfl rfl ?_
        refine Go.aload (hb hby at_136) (pc' := 138) rfl rfl rfl ?_
        have f110 : Exa Z h109 r_67 "java/lang/Integer" := ((((o67_0.keep K68).keep K101).keep K104).keep K109)
        have f111 : Exa Z h109 un "java/lang/Object" := (f106.keep K109)
        have f112 : Exa Z h109 a45 "com/example/bindery/bindery/Globals$Variable" := (f107.keep K109)
        refine Go.callV (y0 := ⟨"com/example/bindery/bindery/Globals$Variable", "get", "(Lcom/example/bindery/bindery/Named;)Ljava/lang/Object;"⟩) (c_get (l := l) (nw := nw) g h109 a45 (.ref a17) (.ref r_67) rfl rfl (fun q => Exa.ne f110 f111 (by decide) (Value.ref.inj q)) f112 o109_0 (by omega)) hown (wd_74 g) (wd_75 g) (notFace_of_selects (wd_77 g)) (wd_77 g) (wd_76 g) f112 (wd_78 g) (wd_48 g) (by decide) (argsL := [(.ref a17)]) (lenOf pd_11 rfl) rfl (by rw [hml]; rfl) (W := 0) rfl (hb hby at_138) (pc' := 141) rfl (by decide) (by decide) (by decide) (by decide) all0 ?_
        rintro _ vm113 h113 ⟨rfl, K113⟩ C113
        have z113 := K113.1
        -- pc 141
        refine Go.aload (hb hby at_141) (pc' := 143) rfl rfl rfl ?_
        refine Go.acmpN (hb hby at_143) (pc' := 146) rfl rfl rfl (by simp [XT.acmp]) ?_
        refine Go.aload (hb hby at_146) (pc' := 148) rfl rfl rfl ?_
        refine Go.aload (hb hby at_148) (pc' := 150) rfl rfl rfl ?_
        have f114 : Exa Z h113 r_68 "java/lang/Integer" := ((((o68_0.keep K101).keep K104).keep K109).keep K113)
        have f115 : Exa Z h113 un "java/lang/Object" := (f111.keep K113)
        have f116 : Exa Z h113 a56 "com/example/bindery/bindery/Globals$Variable" := (((f102.keep K104).keep K109).keep K113)
        have f117 : Fld Z h113 a56 "com/example/bindery/bindery/Globals$Variable" "value" "Ljava/lang/Object;" (.ref r_68) := ((o104_0.keep K109 (ninS (neN (by omega)) nin0)).keep K113 nin0)
        refine Go.callV (y0 := ⟨"com/example/bindery/bindery/Globals$Variable", "get", "(Lcom/example/bindery/bindery/Named;)Ljava/lang/Object;"⟩) (c_get (l := l) (nw := nw) g h113 a56 (.ref a17) (.ref r_68) rfl rfl (fun q => Exa.ne f114 f115 (by decide) (Value.ref.inj q)) f116 f117 (by omega)) hown (wd_74 g) (wd_75 g) (notFace_of_selects (wd_77 g)) (wd_77 g) (wd_76 g) f116 (wd_78 g) (wd_48 g) (by decide) (argsL := [(.ref a17)]) (lenOf pd_11 rfl) rfl (by rw [hml]; rfl) (W := 0) rfl (hb hby at_150) (pc' := 153) rfl (by decide) (by decide) (by decide) (by decide) all0 ?_
        rintro _ vm118 h118 ⟨rfl, K118⟩ C118
        have z118 := K118.1
        -- pc 153
        refine Go.aload (hb hby at_153) (pc' := 155) rfl rfl rfl ?_
        refine Go.acmpN (hb hby at_155) (pc' := 158) rfl rfl rfl (by simp [XT.acmp]) ?_
        refine Go.iconst (hb hby at_158) (pc' := 159) rfl (z := (1 : Int32)) rfl ?_
        refine Go.goto (hb hby at_159) (by decide) (pc' := 163) (by decide) ?_
        refine Go.istore (hb hby at_163) (pc' := 165) rfl (L' := #[.val (.int i0), .val (.int i1), .val (.int i2), .val (.int i3), .val (.int i4), .val (.ref a2), .val (.ref a17), .val (.ref a45), .val (.ref a56), .val (.ref r_66), .val (.ref r_67), .val (.ref r_68), .val .null, .val (.int (1 : Int32))]) rfl ?_
        refine Go.iload (hb hby at_165) (pc' := 167) rfl rfl ?_
        refine Go.iconst (hb hby at_167) (pc' := 168) rfl (z := (4 : Int32)) rfl ?_
        refine Go.iand (hb hby at_168) (pc' := 169) rfl ?_
        refine Go.ifc (hb hby at_169) (by decide) (pc' := 205) (by decide) (pc2 := 172) rfl (fun (q169 : (i4 &&& (4 : Int32)) = (0 : Int32)) => ?_) (fun (q169 : ¬ ((i4 &&& (4 : Int32)) = (0 : Int32))) => ?_)
        · refine Go.iload (hb hby at_205) (pc' := 207) rfl rfl ?_
          refine Go.retN (t := .boolean) hret (by simp) (hb hby at_207) (by decide) (by decide) ?_
          intro vmR CR
          exact ⟨(by first | rfl | (simp only [own_nar]; done) | (congr 2; done)), (((((((((((((((((((Keep.refl h []).trans KE6 all0).trans K13 (allS (by first | (left; simp; done) | (right; omega)) all0)).trans KE20 all0).trans KE31 all0).trans K39 (allS (by first | (left; simp; done) | (right; omega)) all0)).trans K43 (allS (by first | (left; simp; done) | (right; omega)) all0)).trans KE48 all0).trans K54 (allS (by first | (left; simp; done) | (right; omega)) all0)).trans KE59 all0).trans K65 (allS (by first | (left; simp; done) | (right; omega)) all0)).trans K66 all0).trans K67 all0).trans K68 all0).trans K101 (allS (by first | (left; simp; done) | (right; omega)) all0)).trans K104 (allS (by first | (left; simp; done) | (right; omega)) all0)).trans K109 (allS (by first | (left; simp; done) | (right; omega)) all0)).trans K113 all0).trans K118 all0)⟩
        · refine Go.aload (hb hby at_172) (pc' := 174) rfl rfl rfl ?_
          refine Go.aload (hb hby at_174) (pc' := 176) rfl rfl rfl ?_
          refine Go.aload (hb hby at_176) (pc' := 178) rfl rfl rfl ?_
          have f119 : Exa Z h118 r_67 "java/lang/Integer" := ((f110.keep K113).keep K118)
          have f120 : Exa Z h118 un "java/lang/Object" := (f115.keep K118)
          have f121 : Exa Z h118 a45 "com/example/bindery/bindery/Globals$Variable" := ((f112.keep K113).keep K118)
          have f122 : Fld Z h118 a45 "com/example/bindery/bindery/Globals$Variable" "value" "Ljava/lang/Object;" (.ref r_67) := ((o109_0.keep K113 nin0).keep K118 nin0)
          refine Go.callV (y0 := ⟨"com/example/bindery/bindery/Globals$Variable", "assign", "(Lcom/example/bindery/bindery/Named;Ljava/lang/Object;)V"⟩) (c_assign (l := l) (nw := nw) g h118 a45 (.ref a17) .null (.ref r_67) rfl rfl (by first | omega | assumption | decide) rfl (fun q => Exa.ne f119 f120 (by decide) (Value.ref.inj q)) f121 f122 (by omega)) hown (wd_69 g) (wd_70 g) (notFace_of_selects (wd_72 g)) (wd_72 g) (wd_71 g) f121 (wd_73 g) (wd_48 g) (by decide) (argsL := [(.ref a17), .null]) (lenOf pd_10 rfl) rfl (by rw [hml]; rfl) (W := 0) rfl (hb hby at_178) (pc' := 181) rfl (by decide) (by decide) (by decide) (by decide) all0 ?_
          rintro _ vm123 h123 ⟨rfl, K123, o123_0⟩ C123
          have z123 := K123.1
          -- pc 181
          refine Go.iload (hb hby at_181) (pc' := 183) rfl rfl ?_
          refine Go.ifN (hb hby at_183) (pc' := 186) rfl (show ¬ ((1 : Int32) = (0 : Int32)) from by decide) ?_
          refine Go.aload (hb hby at_186) (pc' := 188) rfl rfl rfl ?_
          refine Go.aload (hb hby at_188) (pc' := 190) rfl rfl rfl ?_
          have f124 : Exa Z h123 a45 "com/example/bindery/bindery/Globals$Variable" := (f121.keep K123)
          refine Go.callV (y0 := ⟨"com/example/bindery/bindery/Globals$Variable", "get", "(Lcom/example/bindery/bindery/Named;)Ljava/lang/Object;"⟩) (c_get (l := l) (nw := nw) g h123 a45 (.ref a17) .null rfl rfl (by simp) f124 o123_0 (by omega)) hown (wd_74 g) (wd_75 g) (notFace_of_selects (wd_77 g)) (wd_77 g) (wd_76 g) f124 (wd_78 g) (wd_48 g) (by decide) (argsL := [(.ref a17)]) (lenOf pd_11 rfl) rfl (by rw [hml]; rfl) (W := 0) rfl (hb hby at_190) (pc' := 193) rfl (by decide) (by decide) (by decide) (by decide) all0 ?_
          rintro _ vm125 h125 ⟨rfl, K125⟩ C125
          have z125 := K125.1
          -- pc 193
          refine Go.aload (hb hby at_193) (pc' := 195) rfl rfl rfl ?_
          refine Go.acmpN (hb hby at_195) (pc' := 198) rfl rfl rfl (by simp [XT.acmp]) ?_
          refine Go.iconst (hb hby at_198) (pc' := 199) rfl (z := (1 : Int32)) rfl ?_
          refine Go.goto (hb hby at_199) (by decide) (pc' := 203) (by decide) ?_
          refine Go.istore (hb hby at_203) (pc' := 205) rfl (L' := #[.val (.int i0), .val (.int i1), .val (.int i2), .val (.int i3), .val (.int i4), .val (.ref a2), .val (.ref a17), .val (.ref a45), .val (.ref a56), .val (.ref r_66), .val (.ref r_67), .val (.ref r_68), .val .null, .val (.int (1 : Int32))]) rfl ?_
          refine Go.iload (hb hby at_205) (pc' := 207) rfl rfl ?_
          refine Go.retN (t := .boolean) hret (by simp) (hb hby at_207) (by decide) (by decide) ?_
          intro vmR CR
          exact ⟨(by first | rfl | (simp only [own_nar]; done) | (congr 2; done)), (((((((((((((((((((((Keep.refl h []).trans KE6 all0).trans K13 (allS (by first | (left; simp; done) | (right; omega)) all0)).trans KE20 all0).trans KE31 all0).trans K39 (allS (by first | (left; simp; done) | (right; omega)) all0)).trans K43 (allS (by first | (left; simp; done) | (right; omega)) all0)).trans KE48 all0).trans K54 (allS (by first | (left; simp; done) | (right; omega)) all0)).trans KE59 all0).trans K65 (allS (by first | (left; simp; done) | (right; omega)) all0)).trans K66 all0).trans K67 all0).trans K68 all0).trans K101 (allS (by first | (left; simp; done) | (right; omega)) all0)).trans K104 (allS (by first | (left; simp; done) | (right; omega)) all0)).trans K109 (allS (by first | (left; simp; done) | (right; omega)) all0)).trans K113 all0).trans K118 all0).trans K123 (allS (by first | (left; simp; done) | (right; omega)) all0)).trans K125 all0)⟩
    · refine Go.aconstNull (hb hby at_75) (pc' := 76) rfl ?_
      refine Go.goto (hb hby at_76) (by decide) (pc' := 83) (by decide) ?_
      refine Go.astore (hb hby at_83) (pc' := 85) rfl rfl (L' := #[.val (.int i0), .val (.int i1), .val (.int i2), .val (.int i3), .val (.int i4), .val (.ref a2), .val (.ref a17), .val (.ref a45), .val (.ref a56), .val (.ref r_66), .val .null, .unset, .unset, .unset]) rfl ?_
      refine Go.iloadN (hb hby at_85) (pc' := 86) rfl rfl ?_
      refine Go.callS (c_intof (l := l) (nw := nw) g h66 i2 (by omega)) hown (wd_57 g) (wd_58 g) (wd_60 g) (wd_59 g) (by decide) (argsL := [(.int i2)]) (lenOf pd_8 rfl) rfl (by rw [hml]; rfl) (W := 0) rfl (hb hby at_86) (pc' := 89) rfl (by decide) (by decide) (by decide) (by decide) all0 ?_
      rintro _ vm126 h126 ⟨r_126, rfl, K126, o126_0⟩ C126
      have z126 := K126.1
      have yo126_0 := ltN o126_0.lt
      -- pc 89
      refine Go.astore (hb hby at_89) (pc' := 91) rfl rfl (L' := #[.val (.int i0), .val (.int i1), .val (.int i2), .val (.int i3), .val (.int i4), .val (.ref a2), .val (.ref a17), .val (.ref a45), .val (.ref a56), .val (.ref r_66), .val .null, .val (.ref r_126), .unset, .unset]) rfl ?_
      refine Go.iload (hb hby at_91) (pc' := 93) rfl rfl ?_
      refine Go.bipush (hb hby at_93) (pc' := 95) rfl (z := (8 : Int32)) rfl ?_
      refine Go.iand (hb hby at_95) (pc' := 96) rfl ?_
      refine Go.ifc (hb hby at_96) (by decide) (pc' := 103) (by decide) (pc2 := 99) rfl (fun (q96 : (i4 &&& (8 : Int32)) = (0 : Int32)) => ?_) (fun (q96 : ¬ ((i4 &&& (8 : Int32)) = (0 : Int32))) => ?_)
      · refine Go.iloadN (hb hby at_103) (pc' := 104) rfl rfl ?_
        refine Go.iloadN (hb hby at_104) (pc' := 105) rfl rfl ?_
        refine Go.ixor (hb hby at_105) (pc' := 106) rfl ?_
        refine Go.callS (c_intof (l := l) (nw := nw) g h126 (i0 ^^^ i1) (by omega)) hown (wd_57 g) (wd_58 g) (wd_60 g) (wd_59 g) (by decide) (argsL := [(.int (i0 ^^^ i1))]) (lenOf pd_8 rfl) rfl (by rw [hml]; rfl) (W := 0) rfl (hb hby at_106) (pc' := 109) rfl (by decide) (by decide) (by decide) (by decide) all0 ?_
        rintro _ vm127 h127 ⟨r_127, rfl, K127, o127_0⟩ C127
        have z127 := K127.1
        have yo127_0 := ltN o127_0.lt
        -- pc 109
        refine Go.astore (hb hby at_109) (pc' := 111) rfl rfl (L' := #[.val (.int i0), .val (.int i1), .val (.int i2), .val (.int i3), .val (.int i4), .val (.ref a2), .val (.ref a17), .val (.ref a45), .val (.ref a56), .val (.ref r_66), .val .null, .val (.ref r_126), .val (.ref r_127), .unset]) rfl ?_
        refine Go.aload (hb hby at_111) (pc' := 113) rfl rfl rfl ?_
        refine Go.aload (hb hby at_113) (pc' := 115) rfl rfl rfl ?_
        have f128 : Exa Z h127 a45 "com/example/bindery/bindery/Globals$Variable" := ((((((X49.keep K54).keep KE59).keep K65).keep K66).keep K126).keep K127)
        have f129 : Fld Z h127 a45 "com/example/bindery/bindery/Globals$Variable" "value" "Ljava/lang/Object;" (.ref un) := (((((o54_0.keep KE59 nin0).keep K65 (ninS (neN (by omega)) nin0)).keep K66 nin0).keep K126 nin0).keep K127 nin0)
        refine Go.callV (y0 := ⟨"com/example/bindery/bindery/Globals$Variable", "define", "(Ljava/lang/Object;)V"⟩) (c_define (l := l) (nw := nw) g h127 a45 (.ref r_66) (.ref un) rfl (by first | omega | assumption | decide) f128 f129 (by omega)) hown (wd_64 g) (wd_65 g) (notFace_of_selects (wd_67 g)) (wd_67 g) (wd_66 g) f128 (wd_68 g) (wd_48 g) (by decide) (argsL := [(.ref r_66)]) (lenOf pd_9 rfl) rfl (by rw [hml]; rfl) (W := 0) rfl (hb hby at_115) (pc' := 118) rfl (by decide) (by decide) (by decide) (by decide) all0 ?_
        rintro _ vm130 h130 ⟨rfl, K130, o130_0⟩ C130
        have z130 := K130.1
        -- pc 118
        refine Go.aload (hb hby at_118) (pc' := 120) rfl rfl rfl ?_
        refine Go.aload (hb hby at_120) (pc' := 122) rfl rfl rfl ?_
        have f131 : Exa Z h130 a56 "com/example/bindery/bindery/Globals$Variable" := (((((X60.keep K65).keep K66).keep K126).keep K127).keep K130)
        have f132 : Fld Z h130 a56 "com/example/bindery/bindery/Globals$Variable" "value" "Ljava/lang/Object;" (.ref un) := ((((o65_0.keep K66 nin0).keep K126 nin0).keep K127 nin0).keep K130 (ninS (neN (by omega)) nin0))
        refine Go.callV (y0 := ⟨"com/example/bindery/bindery/Globals$Variable", "define", "(Ljava/lang/Object;)V"⟩) (c_define (l := l) (nw := nw) g h130 a56 (.ref r_126) (.ref un) rfl (by first | omega | assumption | decide) f131 f132 (by omega)) hown (wd_64 g) (wd_65 g) (notFace_of_selects (wd_67 g)) (wd_67 g) (wd_66 g) f131 (wd_68 g) (wd_48 g) (by decide) (argsL := [(.ref r_126)]) (lenOf pd_9 rfl) rfl (by rw [hml]; rfl) (W := 0) rfl (hb hby at_122) (pc' := 125) rfl (by decide) (by decide) (by decide) (by decide) all0 ?_
        rintro _ vm133 h133 ⟨rfl, K133, o133_0⟩ C133
        have z133 := K133.1
        -- pc 125
        refine Go.aload (hb hby at_125) (pc' := 127) rfl rfl rfl ?_
        refine Go.aload (hb hby at_127) (pc' := 129) rfl rfl rfl ?_
        refine Go.aload (hb hby at_129) (pc' := 131) rfl rfl rfl ?_
        have f134 : Exa Z h133 r_66 "java/lang/Integer" := ((((o66_0.keep K126).keep K127).keep K130).keep K133)
        have f135 : Exa Z h133 un "java/lang/Object" := ((((((((((((((((g.2.2.2.2.2.2.2.1.ext hO).keep KE6).keep K13).keep KE20).keep KE31).keep K39).keep K43).keep KE48).keep K54).keep KE59).keep K65).keep K66).keep K126).keep K127).keep K130).keep K133)
        have f136 : Exa Z h133 a45 "com/example/bindery/bindery/Globals$Variable" := ((f128.keep K130).keep K133)
        have f137 : Fld Z h133 a45 "com/example/bindery/bindery/Globals$Variable" "value" "Ljava/lang/Object;" (.ref r_66) := (o130_0.keep K133 (ninS (neN (by omega)) nin0))
        refine Go.callV (y0 := ⟨"com/example/bindery/bindery/Globals$Variable", "assign", "(Lcom/example/bindery/bindery/Named;Ljava/lang/Object;)V"⟩) (c_assign (l := l) (nw := nw) g h133 a45 (.ref a17) .null (.ref r_66) rfl rfl (by first | omega | assumption | decide) rfl (fun q => Exa.ne f134 f135 (by decide) (Value.ref.inj q)) f136 f137 (by omega)) hown (wd_69 g) (wd_70 g) (notFace_of_selects (wd_72 g)) (wd_72 g) (wd_71 g) f136 (wd_73 g) (wd_48 g) (by decide) (argsL := [(.ref a17), .null]) (lenOf pd_10 rfl) rfl (by rw [hml]; rfl) (W := 0) rfl (hb hby at_131) (pc' := 134) rfl (by decide) (by decide) (by decide) (by decide) all0 ?_
        rintro _ vm138 h138 ⟨rfl, K138, o138_0⟩ C138
        have z138 := K138.1
        -- pc 134
        refine Go.aload (hb hby at_134) (pc' := 136) rfl rfl rfl ?_
        refine Go.aload (hb hby at_136) (pc' := 138) rfl rfl rfl ?_
        have f139 : Exa Z h138 a45 "com/example/bindery/bindery/Globals$Variable" := (f136.keep K138)
        refine Go.callV (y0 := ⟨"com/example/bindery/bindery/Globals$Variable", "get", "(Lcom/example/bindery/bindery/Named;)Ljava/lang/Object;"⟩) (c_get (l := l) (nw := nw) g h138 a45 (.ref a17) .null rfl rfl (by simp) f139 o138_0 (by omega)) hown (wd_74 g) (wd_75 g) (notFace_of_selects (wd_77 g)) (wd_77 g) (wd_76 g) f139 (wd_78 g) (wd_48 g) (by decide) (argsL := [(.ref a17)]) (lenOf pd_11 rfl) rfl (by rw [hml]; rfl) (W := 0) rfl (hb hby at_138) (pc' := 141) rfl (by decide) (by decide) (by decide) (by decide) all0 ?_
        rintro _ vm140 h140 ⟨rfl, K140⟩ C140
        have z140 := K140.1
        -- pc 141
        refine Go.aload (hb hby at_141) (pc' := 143) rfl rfl rfl ?_
        refine Go.acmpN (hb hby at_143) (pc' := 146) rfl rfl rfl (by simp [XT.acmp]) ?_
        refine Go.aload (hb hby at_146) (pc' := 148) rfl rfl rfl ?_
        refine Go.aload (hb hby at_148) (pc' := 150) rfl rfl rfl ?_
        have f141 : Exa Z h140 r_126 "java/lang/Integer" := (((((o126_0.keep K127).keep K130).keep K133).keep K138).keep K140)
        have f142 : Exa Z h140 un "java/lang/Object" := ((f135.keep K138).keep K140)
        have f143 : Exa Z h140 a56 "com/example/bindery/bindery/Globals$Variable" := (((f131.keep K133).keep K138).keep K140)
        have f144 : Fld Z h140 a56 "com/example/bindery/bindery/Globals$Variable" "value" "Ljava/lang/Object;" (.ref r_126) := ((o133_0.keep K138 (ninS (neN (by omega)) nin0)).keep K140 nin0)
        refine Go.callV (y0 := ⟨"com/example/bindery/bindery/Globals$Variable", "get", "(Lcom/example/bindery/bindery/Named;)Ljava/lang/Object;"⟩) (c_get (l := l) (nw := nw) g h140 a56 (.ref a17) (.ref r_126) rfl rfl (fun q => Exa.ne f141 f142 (by decide) (Value.ref.inj q)) f143 f144 (by omega)) hown (wd_74 g) (wd_75 g) (notFace_of_selects (wd_77 g)) (wd_77 g) (wd_76 g) f143 (wd_78 g) (wd_48 g) (by decide) (argsL := [(.ref a17)]) (lenOf pd_11 rfl) rfl (by rw [hml]; rfl) (W := 0) rfl (hb hby at_150) (pc' := 153) rfl (by decide) (by decide) (by decide) (by decide) all0 ?_
        rintro _ vm145 h145 ⟨rfl, K145⟩ C145
        have z145 := K145.1
        -- pc 153
        refine Go.aload (hb hby at_153) (pc' := 155) rfl rfl rfl ?_
        refine Go.acmpN (hb hby at_155) (pc' := 158) rfl rfl rfl (by simp [XT.acmp]) ?_
        refine Go.iconst (hb hby at_158) (pc' := 159) rfl (z := (1 : Int32)) rfl ?_
        refine Go.goto (hb hby at_159) (by decide) (pc' := 163) (by decide) ?_
        refine Go.istore (hb hby at_163) (pc' := 165) rfl (L' := #[.val (.int i0), .val (.int i1), .val (.int i2), .val (.int i3), .val (.int i4), .val (.ref a2), .val (.ref a17), .val (.ref a45), .val (.ref a56), .val (.ref r_66), .val .null, .val (.ref r_126), .val (.ref r_127), .val (.int (1 : Int32))]) rfl ?_
        refine Go.iload (hb hby at_165) (pc' := 167) rfl rfl ?_
        refine Go.iconst (hb hby at_167) (pc' := 168) rfl (z := (4 : Int32)) rfl ?_
        refine Go.iand (hb hby at_168) (pc' := 169) rfl ?_
        refine Go.ifc (hb hby at_169) (by decide) (pc' := 205) (by decide) (pc2 := 172) rfl (fun (q169 : (i4 &&& (4 : Int32)) = (0 : Int32)) => ?_) (fun (q169 : ¬ ((i4 &&& (4 : Int32)) = (0 : Int32))) => ?_)
        · refine Go.iload (hb hby at_205) (pc' := 207) rfl rfl ?_
          refine Go.retN (t := .boolean) hret (by simp) (hb hby at_207) (by decide) (by decide) ?_
          intro vmR CR
          exact ⟨(by first | rfl | (simp only [own_nar]; done) | (congr 2; done)), (((((((((((((((((((Keep.refl h []).trans KE6 all0).trans K13 (allS (by first | (left; simp; done) | (right; omega)) all0)).trans KE20 all0).trans KE31 all0).trans K39 (allS (by first | (left; simp; done) | (right; omega)) all0)).trans K43 (allS (by first | (left; simp; done) | (right; omega)) all0)).trans KE48 all0).trans K54 (allS (by first | (left; simp; done) | (right; omega)) all0)).trans KE59 all0).trans K65 (allS (by first | (left; simp; done) | (right; omega)) all0)).trans K66 all0).trans K126 all0).trans K127 all0).trans K130 (allS (by first | (left; simp; done) | (right; omega)) all0)).trans K133 (allS (by first | (left; simp; done) | (right; omega)) all0)).trans K138 (allS (by first | (left; simp; done) | (right; omega)) all0)).trans K140 all0).trans K145 all0)⟩
        · refine Go.aload (hb hby at_172) (pc' := 174) rfl rfl rfl ?_
          refine Go.aload (hb hby at_174) (pc' := 176) rfl rfl rfl ?_
          refine Go.aload (hb hby at_176) (pc' := 178) rfl rfl rfl ?_
          have f146 : Exa Z h145 a45 "com/example/bindery/bindery/Globals$Variable" := ((f139.keep K140).keep K145)
          have f147 : Fld Z h145 a45 "com/example/bindery/bindery/Globals$Variable" "value" "Ljava/lang/Object;" .null := ((o138_0.keep K140 nin0).keep K145 nin0)
          refine Go.callV (y0 := ⟨"com/example/bindery/bindery/Globals$Variable", "assign", "(Lcom/example/bindery/bindery/Named;Ljava/lang/Object;)V"⟩) (c_assign (l := l) (nw := nw) g h145 a45 (.ref a17) (.ref r_127) .null rfl rfl (by first | omega | assumption | decide) rfl (by simp) f146 f147 (by omega)) hown (wd_69 g) (wd_70 g) (notFace_of_selects (wd_72 g)) (wd_72 g) (wd_71 g) f146 (wd_73 g) (wd_48 g) (by decide) (argsL := [(.ref a17), (.ref r_127)]) (lenOf pd_10 rfl) rfl (by rw [hml]; rfl) (W := 0) rfl (hb hby at_178) (pc' := 181) rfl (by decide) (by decide) (by decide) (by decide) all0 ?_
          rintro _ vm148 h148 ⟨rfl, K148, o148_0⟩ C148
          have z148 := K148.1
          -- pc 181
          refine Go.iload (hb hby at_181) (pc' := 183) rfl rfl ?_
          refine Go.ifN (hb hby at_183) (pc' := 186) rfl (show ¬ ((1 : Int32) = (0 : Int32)) from by decide) ?_
          refine Go.aload (hb hby at_186) (pc' := 188) rfl rfl rfl ?_
          refine Go.aload (hb hby at_188) (pc' := 190) rfl rfl rfl ?_
          have f149 : Exa Z h148 r_127 "java/lang/Integer" := ((((((o127_0.keep K130).keep K133).keep K138).keep K140).keep K145).keep K148)
          have f150 : Exa Z h148 un "java/lang/Object" := ((f142.keep K145).keep K148)
          have f151 : Exa Z h148 a45 "com/example/bindery/bindery/Globals$Variable" := (f146.keep K148)
          refine Go.callV (y0 := ⟨"com/example/bindery/bindery/Globals$Variable", "get", "(Lcom/example/bindery/bindery/Named;)Ljava/lang/Object;"⟩) (c_get (l := l) (nw := nw) g h148 a45 (.ref a17) (.ref r_127) rfl rfl (fun q => Exa.ne f149 f150 (by decide) (Value.ref.inj q)) f151 o148_0 (by omega)) hown (wd_74 g) (wd_75 g) (notFace_of_selects (wd_77 g)) (wd_77 g) (wd_76 g) f151 (wd_78 g) (wd_48 g) (by decide) (argsL := [(.ref a17)]) (lenOf pd_11 rfl) rfl (by rw [hml]; rfl) (W := 0) rfl (hb hby at_190) (pc' := 193) rfl (by decide) (by decide) (by decide) (by decide) all0 ?_
          rintro _ vm152 h152 ⟨rfl, K152⟩ C152
          have z152 := K152.1
          -- pc 193
          refine Go.aload (hb hby at_193) (pc' := 195) rfl rfl rfl ?_
          refine Go.acmpN (hb hby at_195) (pc' := 198) rfl rfl rfl (by simp [XT.acmp]) ?_
          refine Go.iconst (hb hby at_198) (pc' := 199) rfl (z := (1 : Int32)) rfl ?_
          refine Go.goto (hb hby at_199) (by decide) (pc' := 203) (by decide) ?_
          refine Go.istore (hb hby at_203) (pc' := 205) rfl (L' := #[.val (.int i0), .val (.int i1), .val (.int i2), .val (.int i3), .val (.int i4), .val (.ref a2), .val (.ref a17), .val (.ref a45), .val (.ref a56), .val (.ref r_66), .val .null, .val (.ref r_126), .val (.ref r_127), .val (.int (1 : Int32))]) rfl ?_
          refine Go.iload (hb hby at_205) (pc' := 207) rfl rfl ?_
          refine Go.retN (t := .boolean) hret (by simp) (hb hby at_207) (by decide) (by decide) ?_
          intro vmR CR
          exact ⟨(by first | rfl | (simp only [own_nar]; done) | (congr 2; done)), (((((((((((((((((((((Keep.refl h []).trans KE6 all0).trans K13 (allS (by first | (left; simp; done) | (right; omega)) all0)).trans KE20 all0).trans KE31 all0).trans K39 (allS (by first | (left; simp; done) | (right; omega)) all0)).trans K43 (allS (by first | (left; simp; done) | (right; omega)) all0)).trans KE48 all0).trans K54 (allS (by first | (left; simp; done) | (right; omega)) all0)).trans KE59 all0).trans K65 (allS (by first | (left; simp; done) | (right; omega)) all0)).trans K66 all0).trans K126 all0).trans K127 all0).trans K130 (allS (by first | (left; simp; done) | (right; omega)) all0)).trans K133 (allS (by first | (left; simp; done) | (right; omega)) all0)).trans K138 (allS (by first | (left; simp; done) | (right; omega)) all0)).trans K140 all0).trans K145 all0).trans K148 (allS (by first | (left; simp; done) | (right; omega)) all0)).trans K152 all0)⟩
      · refine Go.aconstNull (hb hby at_99) (pc' := 100) rfl ?_
        refine Go.goto (hb hby at_100) (by decide) (pc' := 109) (by decide) ?_
        refine Go.astore (hb hby at_109) (pc' := 111) rfl rfl (L' := #[.val (.int i0), .val (.int i1), .val (.int i2), .val (.int i3), .val (.int i4), .val (.ref a2), .val (.ref a17), .val (.ref a45), .val (.ref a56), .val (.ref r_66), .val .null, .val (.ref r_126), .val .null, .unset]) rfl ?_
        refine Go.aload (hb hby at_111) (pc' := 113) rfl rfl rfl ?_
        refine Go.aload (hb hby at_113) (pc' := 115) rfl rfl rfl ?_
        have f153 : Exa Z h126 a45 "com/example/bindery/bindery/Globals$Variable" := (((((X49.keep K54).keep KE59).keep K65).keep K66).keep K126)
        have f154 : Fld Z h126 a45 "com/example/bindery/bindery/Globals$Variable" "value" "Ljava/lang/Object;" (.ref un) := ((((o54_0.keep KE59 nin0).keep K65 (ninS (neN (by omega)) nin0)).keep K66 nin0).keep K126 nin0)
        refine Go.callV (y0 := ⟨"com/example/bindery/bindery/Globals$Variable", "define", "(Ljava/lang/Object;)V"⟩) (c_define (l := l) (nw := nw) g h126 a45 (.ref r_66) (.ref un) rfl (by first | omega | assumption | decide) f153 f154 (by omega)) hown (wd_64 g) (wd_65 g) (notFace_of_selects (wd_67 g)) (wd_67 g) (wd_66 g) f153 (wd_68 g) (wd_48 g) (by decide) (argsL := [(.ref r_66)]) (lenOf pd_9 rfl) rfl (by rw [hml]; rfl) (W := 0) rfl (hb hby at_115) (pc' := 118) rfl (by decide) (by decide) (by decide) (by decide) all0 ?_
        rintro _ vm155 h155 ⟨rfl, K155, o155_0⟩ C155
        have z155 := K155.1
        -- pc 118
        refine Go.aload (hb hby at_118) (pc' := 120) rfl rfl rfl ?_
        refine Go.aload (hb hby at_120) (pc' := 122) rfl rfl rfl ?_
        have f156 : Exa Z h155 a56 "com/example/bindery/bindery/Globals$Variable" := ((((X60.keep K65).keep K66).keep K126).keep K155)
        have f157 : Fld Z h155 a56 "com/example/bindery/bindery/Globals$Variable" "value" "Ljava/lang/Object;" (.ref un) := (((o65_0.keep K66 nin0).keep K126 nin0).keep K155 (ninS (neN (by omega)) nin0))
        refine Go.callV (y0 := ⟨"com/example/bindery/bindery/Globals$Variable", "define", "(Ljava/lang/Object;)V"⟩) (c_define (l := l) (nw := nw) g h155 a56 (.ref r_126) (.ref un) rfl (by first | omega | assumption | decide) f156 f157 (by omega)) hown (wd_64 g) (wd_65 g) (notFace_of_selects (wd_67 g)) (wd_67 g) (wd_66 g) f156 (wd_68 g) (wd_48 g) (by decide) (argsL := [(.ref r_126)]) (lenOf pd_9 rfl) rfl (by rw [hml]; rfl) (W := 0) rfl (hb hby at_122) (pc' := 125) rfl (by decide) (by decide) (by decide) (by decide) all0 ?_
        rintro _ vm158 h158 ⟨rfl, K158, o158_0⟩ C158
        have z158 := K158.1
        -- pc 125
        refine Go.aload (hb hby at_125) (pc' := 127) rfl rfl rfl ?_
        refine Go.aload (hb hby at_127) (pc' := 129) rfl rfl rfl ?_
        refine Go.aload (hb hby at_129) (pc' := 131) rfl rfl rfl ?_
        have f159 : Exa Z h158 r_66 "java/lang/Integer" := (((o66_0.keep K126).keep K155).keep K158)
        have f160 : Exa Z h158 un "java/lang/Object" := (((((((((((((((g.2.2.2.2.2.2.2.1.ext hO).keep KE6).keep K13).keep KE20).keep KE31).keep K39).keep K43).keep KE48).keep K54).keep KE59).keep K65).keep K66).keep K126).keep K155).keep K158)
        have f161 : Exa Z h158 a45 "com/example/bindery/bindery/Globals$Variable" := ((f153.keep K155).keep K158)
        have f162 : Fld Z h158 a45 "com/example/bindery/bindery/Globals$Variable" "value" "Ljava/lang/Object;" (.ref r_66) := (o155_0.keep K158 (ninS (neN (by omega)) nin0))
        refine Go.callV (y0 := ⟨"com/example/bindery/bindery/Globals$Variable", "assign", "(Lcom/example/bindery/bindery/Named;Ljava/lang/Object;)V"⟩) (c_assign (l := l) (nw := nw) g h158 a45 (.ref a17) .null (.ref r_66) rfl rfl (by first | omega | assumption | decide) rfl (fun q => Exa.ne f159 f160 (by decide) (Value.ref.inj q)) f161 f162 (by omega)) hown (wd_69 g) (wd_70 g) (notFace_of_selects (wd_72 g)) (wd_72 g) (wd_71 g) f161 (wd_73 g) (wd_48 g) (by decide) (argsL := [(.ref a17), .null]) (lenOf pd_10 rfl) rfl (by rw [hml]; rfl) (W := 0) rfl (hb hby at_131) (pc' := 134) rfl (by decide) (by decide) (by decide) (by decide) all0 ?_
        rintro _ vm163 h163 ⟨rfl, K163, o163_0⟩ C163
        have z163 := K163.1
        -- pc 134
        refine Go.aload (hb hby at_134) (pc' := 136) rfl rfl rfl ?_
        refine Go.aload (hb hby at_136) (pc' := 138) rfl rfl rfl ?_
        have f164 : Exa Z h163 a45 "com/example/bindery/bindery/Globals$Variable" := (f161.keep K163)
        refine Go.callV (y0 := ⟨"com/example/bindery/bindery/Globals$Variable", "get", "(Lcom/example/bindery/bindery/Named;)Ljava/lang/Object;"⟩) (c_get (l := l) (nw := nw) g h163 a45 (.ref a17) .null rfl rfl (by simp) f164 o163_0 (by omega)) hown (wd_74 g) (wd_75 g) (notFace_of_selects (wd_77 g)) (wd_77 g) (wd_76 g) f164 (wd_78 g) (wd_48 g) (by decide) (argsL := [(.ref a17)]) (lenOf pd_11 rfl) rfl (by rw [hml]; rfl) (W := 0) rfl (hb hby at_138) (pc' := 141) rfl (by decide) (by decide) (by decide) (by decide) all0 ?_
        rintro _ vm165 h165 ⟨rfl, K165⟩ C165
        have z165 := K165.1
        -- pc 141
        refine Go.aload (hb hby at_141) (pc' := 143) rfl rfl rfl ?_
        refine Go.acmpN (hb hby at_143) (pc' := 146) rfl rfl rfl (by simp [XT.acmp]) ?_
        refine Go.aload (hb hby at_146) (pc' := 148) rfl rfl rfl ?_
        refine Go.aload (hb hby at_148) (pc' := 150) rfl rfl rfl ?_
        have f166 : Exa Z h165 r_126 "java/lang/Integer" := ((((o126_0.keep K155).keep K158).keep K163).keep K165)
        have f167 : Exa Z h165 un "java/lang/Object" := ((f160.keep K163).keep K165)
        have f168 : Exa Z h165 a56 "com/example/bindery/bindery/Globals$Variable" := (((f156.keep K158).keep K163).keep K165)
        have f169 : Fld Z h165 a56 "com/example/bindery/bindery/Globals$Variable" "value" "Ljava/lang/Object;" (.ref r_126) := ((o158_0.keep K163 (ninS (neN (by omega)) nin0)).keep K165 nin0)
        refine Go.callV (y0 := ⟨"com/example/bindery/bindery/Globals$Variable", "get", "(Lcom/example/bindery/bindery/Named;)Ljava/lang/Object;"⟩) (c_get (l := l) (nw := nw) g h165 a56 (.ref a17) (.ref r_126) rfl rfl (fun q => Exa.ne f166 f167 (by decide) (Value.ref.inj q)) f168 f169 (by omega)) hown (wd_74 g) (wd_75 g) (notFace_of_selects (wd_77 g)) (wd_77 g) (wd_76 g) f168 (wd_78 g) (wd_48 g) (by decide) (argsL := [(.ref a17)]) (lenOf pd_11 rfl) rfl (by rw [hml]; rfl) (W := 0) rfl (hb hby at_150) (pc' := 153) rfl (by decide) (by decide) (by decide) (by decide) all0 ?_
        rintro _ vm170 h170 ⟨rfl, K170⟩ C170
        have z170 := K170.1
        -- pc 153
        refine Go.aload (hb hby at_153) (pc' := 155) rfl rfl rfl ?_
        refine Go.acmpN (hb hby at_155) (pc' := 158) rfl rfl rfl (by simp [XT.acmp]) ?_
        refine Go.iconst (hb hby at_158) (pc' := 159) rfl (z := (1 : Int32)) rfl ?_
        refine Go.goto (hb hby at_159) (by decide) (pc' := 163) (by decide) ?_
        refine Go.istore (hb hby at_163) (pc' := 165) rfl (L' := #[.val (.int i0), .val (.int i1), .val (.int i2), .val (.int i3), .val (.int i4), .val (.ref a2), .val (.ref a17), .val (.ref a45), .val (.ref a56), .val (.ref r_66), .val .null, .val (.ref r_126), .val .null, .val (.int (1 : Int32))]) rfl ?_
        refine Go.iload (hb hby at_165) (pc' := 167) rfl rfl ?_
        refine Go.iconst (hb hby at_167) (pc' := 168) rfl (z := (4 : Int32)) rfl ?_
        refine Go.iand (hb hby at_168) (pc' := 169) rfl ?_
        refine Go.ifc (hb hby at_169) (by decide) (pc' := 205) (by decide) (pc2 := 172) rfl (fun (q169 : (i4 &&& (4 : Int32)) = (0 : Int32)) => ?_) (fun (q169 : ¬ ((i4 &&& (4 : Int32)) = (0 : Int32))) => ?_)
        · refine Go.iload (hb hby at_205) (pc' := 207) rfl rfl ?_
          refine Go.retN (t := .boolean) hret (by simp) (hb hby at_207) (by decide) (by decide) ?_
          intro vmR CR
          exact ⟨(by first | rfl | (simp only [own_nar]; done) | (congr 2; done)), ((((((((((((((((((Keep.refl h []).trans KE6 all0).trans K13 (allS (by first | (left; simp; done) | (right; omega)) all0)).trans KE20 all0).trans KE31 all0).trans K39 (allS (by first | (left; simp; done) | (right; omega)) all0)).trans K43 (allS (by first | (left; simp; done) | (right; omega)) all0)).trans KE48 all0).trans K54 (allS (by first | (left; simp; done) | (right; omega)) all0)).trans KE59 all0).trans K65 (allS (by first | (left; simp; done) | (right; omega)) all0)).trans K66 all0).trans K126 all0).trans K155 (allS (by first | (left; simp; done) | (right; omega)) all0)).trans K158 (allS (by first | (left; simp; done) | (right; omega)) all0)).trans K163 (allS (by first | (left; simp; done) | (right; omega)) all0)).trans K165 all0).trans K170 all0)⟩
        · refine Go.aload (hb hby at_172) (pc' := 174) rfl rfl rfl ?_
          refine Go.aload (hb hby at_174) (pc' := 176) rfl rfl rfl ?_
          refine Go.aload (hb hby at_176) (pc' := 178) rfl rfl rfl ?_
          have f171 : Exa Z h170 a45 "com/example/bindery/bindery/Globals$Variable" := ((f164.keep K165).keep K170)
          have f172 : Fld Z h170 a45 "com/example/bindery/bindery/Globals$Variable" "value" "Ljava/lang/Object;" .null := ((o163_0.keep K165 nin0).keep K170 nin0)
          refine Go.callV (y0 := ⟨"com/example/bindery/bindery/Globals$Variable", "assign", "(Lcom/example/bindery/bindery/Named;Ljava/lang/Object;)V"⟩) (c_assign (l := l) (nw := nw) g h170 a45 (.ref a17) .null .null rfl rfl (by first | omega | assumption | decide) rfl (by simp) f171 f172 (by omega)) hown (wd_69 g) (wd_70 g) (notFace_of_selects (wd_72 g)) (wd_72 g) (wd_71 g) f171 (wd_73 g) (wd_48 g) (by decide) (argsL := [(.ref a17), .null]) (lenOf pd_10 rfl) rfl (by rw [hml]; rfl) (W := 0) rfl (hb hby at_178) (pc' := 181) rfl (by decide) (by decide) (by decide) (by decide) all0 ?_
          rintro _ vm173 h173 ⟨rfl, K173, o173_0⟩ C173
          have z173 := K173.1
          -- pc 181
          refine Go.iload (hb hby at_181) (pc' := 183) rfl rfl ?_
          refine Go.ifN (hb hby at_183) (pc' := 186) rfl (show ¬ ((1 : Int32) = (0 : Int32)) from by decide) ?_
          refine Go.aload (hb hby at_186) (pc' := 188) rfl rfl rfl ?_
          refine Go.aload (hb hby at_188) (pc' := 190) rfl rfl rfl ?_
          have f174 : Exa Z h173 a45 "com/example/bindery/bindery/Globals$Variable" := (f171.keep K173)
          refine Go.callV (y0 := ⟨"com/example/bindery/bindery/Globals$Variable", "get", "(Lcom/example/bindery/bindery/Named;)Ljava/lang/Object;"⟩) (c_get (l := l) (nw := nw) g h173 a45 (.ref a17) .null rfl rfl (by simp) f174 o173_0 (by omega)) hown (wd_74 g) (wd_75 g) (notFace_of_selects (wd_77 g)) (wd_77 g) (wd_76 g) f174 (wd_78 g) (wd_48 g) (by decide) (argsL := [(.ref a17)]) (lenOf pd_11 rfl) rfl (by rw [hml]; rfl) (W := 0) rfl (hb hby at_190) (pc' := 193) rfl (by decide) (by decide) (by decide) (by decide) all0 ?_
          rintro _ vm175 h175 ⟨rfl, K175⟩ C175
          have z175 := K175.1
          -- pc 193
          refine Go.aload (hb hby at_193) (pc' := 195) rfl rfl rfl ?_
          refine Go.acmpN (hb hby at_195) (pc' := 198) rfl rfl rfl (by simp [XT.acmp]) ?_
          refine Go.iconst (hb hby at_198) (pc' := 199) rfl (z := (1 : Int32)) rfl ?_
          refine Go.goto (hb hby at_199) (by decide) (pc' := 203) (by decide) ?_
          refine Go.istore (hb hby at_203) (pc' := 205) rfl (L' := #[.val (.int i0), .val (.int i1), .val (.int i2), .val (.int i3), .val (.int i4), .val (.ref a2), .val (.ref a17), .val (.ref a45), .val (.ref a56), .val (.ref r_66), .val .null, .val (.ref r_126), .val .null, .val (.int (1 : Int32))]) rfl ?_
          refine Go.iload (hb hby at_205) (pc' := 207) rfl rfl ?_
          refine Go.retN (t := .boolean) hret (by simp) (hb hby at_207) (by decide) (by decide) ?_
          intro vmR CR
          exact ⟨(by first | rfl | (simp only [own_nar]; done) | (congr 2; done)), ((((((((((((((((((((Keep.refl h []).trans KE6 all0).trans K13 (allS (by first | (left; simp; done) | (right; omega)) all0)).trans KE20 all0).trans KE31 all0).trans K39 (allS (by first | (left; simp; done) | (right; omega)) all0)).trans K43 (allS (by first | (left; simp; done) | (right; omega)) all0)).trans KE48 all0).trans K54 (allS (by first | (left; simp; done) | (right; omega)) all0)).trans KE59 all0).trans K65 (allS (by first | (left; simp; done) | (right; omega)) all0)).trans K66 all0).trans K126 all0).trans K155 (allS (by first | (left; simp; done) | (right; omega)) all0)).trans K158 (allS (by first | (left; simp; done) | (right; omega)) all0)).trans K163 (allS (by first | (left; simp; done) | (right; omega)) all0)).trans K165 all0).trans K170 all0).trans K173 (allS (by first | (left; simp; done) | (right; omega)) all0)).trans K175 all0)⟩
  · refine Go.aconstNull (hb hby at_58) (pc' := 59) rfl ?_
    refine Go.goto (hb hby at_59) (by decide) (pc' := 66) (by decide) ?_
    refine Go.astore (hb hby at_66) (pc' := 68) rfl rfl (L' := #[.val (.int i0), .val (.int i1), .val (.int i2), .val (.int i3), .val (.int i4), .val (.ref a2), .val (.ref a17), .val (.ref a45), .val (.ref a56), .val .null, .unset, .unset, .unset, .unset]) rfl ?_
    refine Go.iload (hb hby at_68) (pc' := 70) rfl rfl ?_
    refine Go.iconst (hb hby at_70) (pc' := 71) rfl (z := (2 : Int32)) rfl ?_
    refine Go.iand (hb hby at_71) (pc' := 72) rfl ?_
    refine Go.ifc (hb hby at_72) (by decide) (pc' := 79) (by decide) (pc2 := 75) rfl (fun (q72 : (i4 &&& (2 : Int32)) = (0 : Int32)) => ?_) (fun (q72 : ¬ ((i4 &&& (2 : Int32)) = (0 : Int32))) => ?_)
    · refine Go.iloadN (hb hby at_79) (pc' := 80) rfl rfl ?_
      refine Go.callS (c_intof (l := l) (nw := nw) g h65 i1 (by omega)) hown (wd_57 g) (wd_58 g) (wd_60 g) (wd_59 g) (by decide) (argsL := [(.int i1)]) (lenOf pd_8 rfl) rfl (by rw [hml]; rfl) (W := 0) rfl (hb hby at_80) (pc' := 83) rfl (by decide) (by decide) (by decide) (by decide) all0 ?_
      rintro _ vm176 h176 ⟨r_176, rfl, K176, o176_0⟩ C176
      have z176 := K176.1
      have yo176_0 := ltN o176_0.lt
      -- pc 83
      refine Go.astore (hb hby at_83) (pc' := 85) rfl rfl (L' := #[.val (.int i0), .val (.int i1), .val (.int i2), .val (.int i3), .val (.int i4), .val (.ref a2), .val (.ref a17), .val (.ref a45), .val (.ref a56), .val .null, .val (.ref r_176), .unset, .unset, .unset]) rfl ?_
      refine Go.iloadN (hb hby at_85) (pc' := 86) rfl rfl ?_
      refine Go.callS (c_intof (l := l) (nw := nw) g h176 i2 (by omega)) hown (wd_57 g) (wd_58 g) (wd_60 g) (wd_59 g) (by decide) (argsL := [(.int i2)]) (lenOf pd_8 rfl) rfl (by rw [hml]; rfl) (W := 0) rfl (hb hby at_86) (pc' := 89) rfl (by decide) (by decide) (by decide) (by decide) all0 ?_
      rintro _ vm177 h177 ⟨r_177, rfl, K177, o177_0⟩ C177
      have z177 := K177.1
      have yo177_0 := ltN o177_0.lt
      -- pc 89
      refine Go.astore (hb hby at_89) (pc' := 91) rfl rfl (L' := #[.val (.int i0), .val (.int i1), .val (.int i2), .val (.int i3), .val (.int i4), .val (.ref a2), .val (.ref a17), .val (.ref a45), .val (.ref a56), .val .null, .val (.ref r_176), .val (.ref r_177), .unset, .unset]) rfl ?_
      refine Go.iload (hb hby at_91) (pc' := 93) rfl rfl ?_
      refine Go.bipush (hb hby at_93) (pc' := 95) rfl (z := (8 : Int32)) rfl ?_
      refine Go.iand (hb hby at_95) (pc' := 96) rfl ?_
      refine Go.ifc (hb hby at_96) (by decide) (pc' := 103) (by decide) (pc2 := 99) rfl (fun (q96 : (i4 &&& (8 : Int32)) = (0 : Int32)) => ?_) (fun (q96 : ¬ ((i4 &&& (8 : Int32)) = (0 : Int32))) => ?_)
      · refine Go.iloadN (hb hby at_103) (pc' := 104) rfl rfl ?_
        refine Go.iloadN (hb hby at_104) (pc' := 105) rfl rfl ?_
        refine Go.ixor (hb hby at_105) (pc' := 106) rfl ?_
        refine Go.callS (c_intof (l := l) (nw := nw) g h177 (i0 ^^^ i1) (by omega)) hown (wd_57 g) (wd_58 g) (wd_60 g) (wd_59 g) (by decide) (argsL := [(.int (i0 ^^^ i1))]) (lenOf pd_8 rfl) rfl (by rw [hml]; rfl) (W := 0) rfl (hb hby at_106) (pc' := 109) rfl (by decide) (by decide) (by decide) (by decide) all0 ?_
        rintro _ vm178 h178 ⟨r_178, rfl, K178, o178_0⟩ C178
        have z178 := K178.1
        have yo178_0 := ltN o178_0.lt
        -- pc 109
        refine Go.astore (hb hby at_109) (pc' := 111) rfl rfl (L' := #[.val (.int i0), .val (.int i1), .val (.int i2), .val (.int i3), .val (.int i4), .val (.ref a2), .val (.ref a17), .val (.ref a45), .val (.ref a56), .val .null, .val (.ref r_176), .val (.ref r_177), .val (.ref r_178), .unset]) rfl ?_
        refine Go.aload (hb hby at_111) (pc' := 113) rfl rfl rfl ?_
        refine Go.aload (hb hby at_113) (pc' := 115) rfl rfl rfl ?_
        have f179 : Exa Z h178 a45 "com/example/bindery/bindery/Globals$Variable" := ((((((X49.keep K54).keep KE59).keep K65).keep K176).keep K177).keep K178)
        have f180 : Fld Z h178 a45 "com/example/bindery/bindery/Globals$Variable" "value" "Ljava/lang/Object;" (.ref un) := (((((o54_0.keep KE59 nin0).keep K65 (ninS (neN (by omega)) nin0)).keep K176 nin0).keep K177 nin0).keep K178 nin0)
        refine Go.callV (y0 := ⟨"com/example/bindery/bindery/Globals$Variable", "define", "(Ljava/lang/Object;)V"⟩) (c_define (l := l) (nw := nw) g h178 a45 .null (.ref un) rfl (by first | omega | assumption | decide) f179 f180 (by omega)) hown (wd_64 g) (wd_65 g) (notFace_of_selects (wd_67 g)) (wd_67 g) (wd_66 g) f179 (wd_68 g) (wd_48 g) (by decide) (argsL := [.null]) (lenOf pd_9 rfl) rfl (by rw [hml]; rfl) (W := 0) rfl (hb hby at_115) (pc' := 118) rfl (by decide) (by decide) (by decide) (by decide) all0 ?_
        rintro _ vm181 h181 ⟨rfl, K181, o181_0⟩ C181
        have z181 := K181.1
        -- pc 118
        refine Go.aload (hb hby at_118) (pc' := 120) rfl rfl rfl ?_
        refine Go.aload (hb hby at_120) (pc' := 122) rfl rfl rfl ?_
        have f182 : Exa Z h181 a56 "com/example/bindery/bindery/Globals$Variable" := (((((X60.keep K65).keep K176).keep K177).keep K178).keep K181)
        have f183 : Fld Z h181 a56 "com/example/bindery/bindery/Globals$Variable" "value" "Ljava/lang/Object;" (.ref un) := ((((o65_0.keep K176 nin0).keep K177 nin0).keep K178 nin0).keep K181 (ninS (neN (by omega)) nin0))
        refine Go.callV (y0 := ⟨"com/example/bindery/bindery/Globals$Variable", "define", "(Ljava/lang/Object;)V"⟩) (c_define (l := l) (nw := nw) g h181 a56 (.ref r_177) (.ref un) rfl (by first | omega | assumption | decide) f182 f183 (by omega)) hown (wd_64 g) (wd_65 g) (notFace_of_selects (wd_67 g)) (wd_67 g) (wd_66 g) f182 (wd_68 g) (wd_48 g) (by decide) (argsL := [(.ref r_177)]) (lenOf pd_9 rfl) rfl (by rw [hml]; rfl) (W := 0) rfl (hb hby at_122) (pc' := 125) rfl (by decide) (by decide) (by decide) (by decide) all0 ?_
        rintro _ vm184 h184 ⟨rfl, K184, o184_0⟩ C184
        have z184 := K184.1
        -- pc 125
        refine Go.aload (hb hby at_125) (pc' := 127) rfl rfl rfl ?_
        refine Go.aload (hb hby at_127) (pc' := 129) rfl rfl rfl ?_
        refine Go.aload (hb hby at_129) (pc' := 131) rfl rfl rfl ?_
        have f185 : Exa Z h184 a45 "com/example/bindery/bindery/Globals$Variable" := ((f179.keep K181).keep K184)
        have f186 : Fld Z h184 a45 "com/example/bindery/bindery/Globals$Variable" "value" "Ljava/lang/Object;" .null := (o181_0.keep K184 (ninS (neN (by omega)) nin0))
        refine Go.callV (y0 := ⟨"com/example/bindery/bindery/Globals$Variable", "assign", "(Lcom/example/bindery/bindery/Named;Ljava/lang/Object;)V"⟩) (c_assign (l := l) (nw := nw) g h184 a45 (.ref a17) (.ref r_176) .null rfl rfl (by first | omega | assumption | decide) rfl (by simp) f185 f186 (by omega)) hown (wd_69 g) (wd_70 g) (notFace_of_selects (wd_72 g)) (wd_72 g) (wd_71 g) f185 (wd_73 g) (wd_48 g) (by decide) (argsL := [(.ref a17), (.ref r_176)]) (lenOf pd_10 rfl) rfl (by rw [hml]; rfl) (W := 0) rfl (hb hby at_131) (pc' := 134) rfl (by decide) (by decide) (by decide) (by decide) all0 ?_
        rintro _ vm187 h187 ⟨rfl, K187, o187_0⟩ C187
        have z187 := K187.1
        -- pc 134
        refine Go.aload (hb hby at_134) (pc' := 136) rfl rfl rfl ?_
        refine Go.aload (hb hby at_136) (pc' := 138) rfl rfl rfl ?_
        have f188 : Exa Z h187 r_176 "java/lang/Integer" := (((((o176_0.keep K177).keep K178).keep K181).keep K184).keep K187)
        have f189 : Exa Z h187 un "java/lang/Object" := (((((((((((((((((g.2.2.2.2.2.2.2.1.ext hO).keep KE6).keep K13).keep KE20).keep KE31).keep K39).keep K43).keep KE48).keep K54).keep KE59).keep K65).keep K176).keep K177).keep K178).keep K181).keep K184).keep K187)
        have f190 : Exa Z h187 a45 "com/example/bindery/bindery/Globals$Variable" := (f185.keep K187)
        refine Go.callV (y0 := ⟨"com/example/bindery/bindery/Globals$Variable", "get", "(Lcom/example/bindery/bindery/Named;)Ljava/lang/Object;"⟩) (c_get (l := l) (nw := nw) g h187 a45 (.ref a17) (.ref r_176) rfl rfl (fun q => Exa.ne f188 f189 (by decide) (Value.ref.inj q)) f190 o187_0 (by omega)) hown (wd_74 g) (wd_75 g) (notFace_of_selects (wd_77 g)) (wd_77 g) (wd_76 g) f190 (wd_78 g) (wd_48 g) (by decide) (argsL := [(.ref a17)]) (lenOf pd_11 rfl) rfl (by rw [hml]; rfl) (W := 0) rfl (hb hby at_138) (pc' := 141) rfl (by decide) (by decide) (by decide) (by decide) all0 ?_
        rintro _ vm191 h191 ⟨rfl, K191⟩ C191
        have z191 := K191.1
        -- pc 141
        refine Go.aload (hb hby at_141) (pc' := 143) rfl rfl rfl ?_
        refine Go.acmpN (hb hby at_143) (pc' := 146) rfl rfl rfl (by simp [XT.acmp]) ?_
        refine Go.aload (hb hby at_146) (pc' := 148) rfl rfl rfl ?_
        refine Go.aload (hb hby at_148) (pc' := 150) rfl rfl rfl ?_
        have f192 : Exa Z h191 r_177 "java/lang/Integer" := (((((o177_0.keep K178).keep K181).keep K184).keep K187).keep K191)
        have f193 : Exa Z h191 un "java/lang/Object" := (f189.keep K191)
        have f194 : Exa Z h191 a56 "com/example/bindery/bindery/Globals$Variable" := (((f182.keep K184).keep K187).keep K191)
        have f195 : Fld Z h191 a56 "com/example/bindery/bindery/Globals$Variable" "value" "Ljava/lang/Object;" (.ref r_177) := ((o184_0.keep K187 (ninS (neN (by omega)) nin0)).keep K191 nin0)
        refine Go.callV (y0 := ⟨"com/example/bindery/bindery/Globals$Variable", "get", "(Lcom/example/bindery/bindery/Named;)Ljava/lang/Object;"⟩) (c_get (l := l) (nw := nw) g h191 a56 (.ref a17) (.ref r_177) rfl rfl (fun q => Exa.ne f192 f193 (by decide) (Value.ref.inj q)) f194 f195 (by omega)) hown (wd_74 g) (wd_75 g) (notFace_of_selects (wd_77 g)) (wd_77 g) (wd_76 g) f194 (wd_78 g) (wd_48 g) (by decide) (argsL := [(.ref a17)]) (lenOf pd_11 rfl) rfl (by rw [hml]; rfl) (W := 0) rfl (hb hby at_150) (pc' := 153) rfl (by decide) (by decide) (by decide) (by decide) all0 ?_
        rintro _ vm196 h196 ⟨rfl, K196⟩ C196
        have z196 := K196.1
        -- pc 153
        refine Go.aload (hb hby at_153) (pc' := 155) rfl rfl rfl ?_
        refine Go.acmpN (hb hby at_155) (pc' := 158) rfl rfl rfl (by simp [XT.acmp]) ?_
        refine Go.iconst (hb hby at_158) (pc' := 159) rfl (z := (1 : Int32)) rfl ?_
        refine Go.goto (hb hby at_159) (by decide) (pc' := 163) (by decide) ?_
        refine Go.istore (hb hby at_163) (pc' := 165) rfl (L' := #[.val (.int i0), .val (.int i1), .val (.int i2), .val (.int i3), .val (.int i4), .val (.ref a2), .val (.ref a17), .val (.ref a45), .val (.ref a56), .val .null, .val (.ref r_176), .val (.ref r_177), .val (.ref r_178), .val (.int (1 : Int32))]) rfl ?_
        refine Go.iload (hb hby at_165) (pc' := 167) rfl rfl ?_
        refine Go.iconst (hb hby at_167) (pc' := 168) rfl (z := (4 : Int32)) rfl ?_
        refine Go.iand (hb hby at_168) (pc' := 169) rfl ?_
        refine Go.ifc (hb hby at_169) (by decide) (pc' := 205) (by decide) (pc2 := 172) rfl (fun (q169 : (i4 &&& (4 : Int32)) = (0 : Int32)) => ?_) (fun (q169 : ¬ ((i4 &&& (4 : Int32)) = (0 : Int32))) => ?_)
        · refine Go.iload (hb hby at_205) (pc' := 207) rfl rfl ?_
          refine Go.retN (t := .boolean) hret (by simp) (hb hby at_207) (by decide) (by decide) ?_
          intro vmR CR
          exact ⟨(by first | rfl | (simp only [own_nar]; done) | (congr 2; done)), (((((((((((((((((((Keep.refl h []).trans KE6 all0).trans K13 (allS (by first | (left; simp; done) | (right; omega)) all0)).trans KE20 all0).trans KE31 all0).trans K39 (allS (by first | (left; simp; done) | (right; omega)) all0)).trans K43 (allS (by first | (left; simp; done) | (right; omega)) all0)).trans KE48 all0).trans K54 (allS (by first | (left; simp; done) | (right; omega)) all0)).trans KE59 all0).trans K65 (allS (by first | (left; simp; done) | (right; omega)) all0)).trans K176 all0).trans K177 all0).trans K178 all0).trans K181 (allS (by first | (left; simp; done) | (right; omega)) all0)).trans K184 (allS (by first | (left; simp; done) | (right; omega)) all0)).trans K187 (allS (by first | (left; simp; done) | (right; omega)) all0)).trans K191 all0).trans K196 all0)⟩
        · refine Go.aload (hb hby at_172) (pc' := 174) rfl rfl rfl ?_
          refine Go.aload (hb hby at_174) (pc' := 176) rfl rfl rfl ?_
          refine Go.aload (hb hby at_176) (pc' := 178) rfl rfl rfl ?_
          have f197 : Exa Z h196 r_176 "java/lang/Integer" := ((f188.keep K191).keep K196)
          have f198 : Exa Z h196 un "java/lang/Object" := (f193.keep K196)
          have f199 : Exa Z h196 a45 "com/example/bindery/bindery/Globals$Variable" := ((f190.keep K191).keep K196)
          have f200 : Fld Z h196 a45 "com/example/bindery/bindery/Globals$Variable" "value" "Ljava/lang/Object;" (.ref r_176) := ((o187_0.keep K191 nin0).keep K196 nin0)
          refine Go.callV (y0 := ⟨"com/example/bindery/bindery/Globals$Variable", "assign", "(Lcom/example/bindery/bindery/Named;Ljava/lang/Object;)V"⟩) (c_assign (l := l) (nw := nw) g h196 a45 (.ref a17) (.ref r_178) (.ref r_176) rfl rfl (by first | omega | assumption | decide) rfl (fun q => Exa.ne f197 f198 (by decide) (Value.ref.inj q)) f199 f200 (by omega)) hown (wd_69 g) (wd_70 g) (notFace_of_selects (wd_72 g)) (wd_72 g) (wd_71 g) f199 (wd_73 g) (wd_48 g) (by decide) (argsL := [(.ref a17), (.ref r_178)]) (lenOf pd_10 rfl) rfl (by rw [hml]; rfl) (W := 0) rfl (hb hby at_178) (pc' := 181) rfl (by decide) (by decide) (by decide) (by decide) all0 ?_
          rintro _ vm201 h201 ⟨rfl, K201, o201_0⟩ C201
          have z201 := K201.1
          -- pc 181
          refine Go.iload (hb hby at_181) (pc' := 183) rfl rfl ?_
          refine Go.ifN (hb hby at_183) (pc' := 186) rfl (show ¬ ((1 : Int32) = (0 : Int32)) from by decide) ?_
          refine Go.aload (hb hby at_186) (pc' := 188) rfl rfl rfl ?_
          refine Go.aload (hb hby at_188) (pc' := 190) rfl rfl rfl ?_
          have f202 : Exa Z h201 r_178 "java/lang/Integer" := ((((((o178_0.keep K181).keep K184).keep K187).keep K191).keep K196).keep K201)
          have f203 : Exa Z h201 un "java/lang/Object" := (f198.keep K201)
          have f204 : Exa Z h201 a45 "com/example/bindery/bindery/Globals$Variable" := (f199.keep K201)
          refine Go.callV (y0 := ⟨"com/example/bindery/bindery/Globals$Variable", "get", "(Lcom/example/bindery/bindery/Named;)Ljava/lang/Object;"⟩) (c_get (l := l) (nw := nw) g h201 a45 (.ref a17) (.ref r_178) rfl rfl (fun q => Exa.ne f202 f203 (by decide) (Value.ref.inj q)) f204 o201_0 (by omega)) hown (wd_74 g) (wd_75 g) (notFace_of_selects (wd_77 g)) (wd_77 g) (wd_76 g) f204 (wd_78 g) (wd_48 g) (by decide) (argsL := [(.ref a17)]) (lenOf pd_11 rfl) rfl (by rw [hml]; rfl) (W := 0) rfl (hb hby at_190) (pc' := 193) rfl (by decide) (by decide) (by decide) (by decide) all0 ?_
          rintro _ vm205 h205 ⟨rfl, K205⟩ C205
          have z205 := K205.1
          -- pc 193
          refine Go.aload (hb hby at_193) (pc' := 195) rfl rfl rfl ?_
          refine Go.acmpN (hb hby at_195) (pc' := 198) rfl rfl rfl (by simp [XT.acmp]) ?_
          refine Go.iconst (hb hby at_198) (pc' := 199) rfl (z := (1 : Int32)) rfl ?_
          refine Go.goto (hb hby at_199) (by decide) (pc' := 203) (by decide) ?_
          refine Go.istore (hb hby at_203) (pc' := 205) rfl (L' := #[.val (.int i0), .val (.int i1), .val (.int i2), .val (.int i3), .val (.int i4), .val (.ref a2), .val (.ref a17), .val (.ref a45), .val (.ref a56), .val .null, .val (.ref r_176), .val (.ref r_177), .val (.ref r_178), .val (.int (1 : Int32))]) rfl ?_
          refine Go.iload (hb hby at_205) (pc' := 207) rfl rfl ?_
          refine Go.retN (t := .boolean) hret (by simp) (hb hby at_207) (by decide) (by decide) ?_
          intro vmR CR
          exact ⟨(by first | rfl | (simp only [own_nar]; done) | (congr 2; done)), (((((((((((((((((((((Keep.refl h []).trans KE6 all0).trans K13 (allS (by first | (left; simp; done) | (right; omega)) all0)).trans KE20 all0).trans KE31 all0).trans K39 (allS (by first | (left; simp; done) | (right; omega)) all0)).trans K43 (allS (by first | (left; simp; done) | (right; omega)) all0)).trans KE48 all0).trans K54 (allS (by first | (left; simp; done) | (right; omega)) all0)).trans KE59 all0).trans K65 (allS (by first | (left; simp; done) | (right; omega)) all0)).trans K176 all0).trans K177 all0).trans K178 all0).trans K181 (allS (by first | (left; simp; done) | (right; omega)) all0)).trans K184 (allS (by first | (left; simp; done) | (right; omega)) all0)).trans K187 (allS (by first | (left; simp; done) | (right; omega)) all0)).trans K191 all0).trans K196 all0).trans K201 (allS (by first | (left; simp; done) | (right; omega)) all0)).trans K205 all0)⟩
      · refine Go.aconstNull (hb hby at_99) (pc' := 100) rfl ?_
        refine Go.goto (hb hby at_100) (by decide) (pc' := 109) (by decide) ?_
        refine Go.astore (hb hby at_109) (pc' := 111) rfl rfl (L' := #[.val (.int i0), .val (.int i1), .val (.int i2), .val (.int i3), .val (.int i4), .val (.ref a2), .val (.ref a17), .val (.ref a45), .val (.ref a56), .val .null, .val (.ref r_176), .val (.ref r_177), .val .null, .unset]) rfl ?_
        refine Go.aload (hb hby at_111) (pc' := 113) rfl rfl rfl ?_
        refine Go.aload (hb hby at_113) (pc' := 115) rfl rfl rfl ?_
        have f206 : Exa Z h177 a45 "com/example/bindery/bindery/Globals$Variable" := (((((X49.keep K54).keep KE59).keep K65).keep K176).keep K177)
        have f207 : Fld Z h177 a45 "com/example/bindery/bindery/Globals$Variable" "value" "Ljava/lang/Object;" (.ref un) := ((((o54_0.keep KE59 nin0).keep K65 (ninS (neN (by omega)) nin0)).keep K176 nin0).keep K177 nin0)
        refine Go.callV (y0 := ⟨"com/example/bindery/bindery/Globals$Variable", "define", "(Ljava/lang/Object;)V"⟩) (c_define (l := l) (nw := nw) g h177 a45 .null (.ref un) rfl (by first | omega | assumption | decide) f206 f207 (by omega)) hown (wd_64 g) (wd_65 g) (notFace_of_selects (wd_67 g)) (wd_67 g) (wd_66 g) f206 (wd_68 g) (wd_48 g) (by decide) (argsL := [.null]) (lenOf pd_9 rfl) rfl (by rw [hml]; rfl) (W := 0) rfl (hb hby at_115) (pc' := 118) rfl (by decide) (by decide) (by decide) (by decide) all0 ?_
        rintro _ vm208 h208 ⟨rfl, K208, o208_0⟩ C208
        have z208 := K208.1
        -- pc 118
        refine Go.aload (hb hby at_118) (pc' := 120) rfl rfl rfl ?_
        refine Go.aload (hb hby at_120) (pc' := 122) rfl rfl rfl ?_
        have f209 : Exa Z h208 a56 "com/example/bindery/bindery/Globals$Variable" := ((((X60.keep K65).keep K176).keep K177).keep K208)
        have f210 : Fld Z h208 a56 "com/example/bindery/bindery/Globals$Variable" "value" "Ljava/lang/Object;" (.ref un) := (((o65_0.keep K176 nin0).keep K177 nin0).keep K208 (ninS (neN (by omega)) nin0))
        refine Go.callV (y0 := ⟨"com/example/bindery/bindery/Globals$Variable", "define", "(Ljava/lang/Object;)V"⟩) (c_define (l := l) (nw := nw) g h208 a56 (.ref r_177) (.ref un) rfl (by first | omega | assumption | decide) f209 f210 (by omega)) hown (wd_64 g) (wd_65 g) (notFace_of_selects (wd_67 g)) (wd_67 g) (wd_66 g) f209 (wd_68 g) (wd_48 g) (by decide) (argsL := [(.ref r_177)]) (lenOf pd_9 rfl) rfl (by rw [hml]; rfl) (W := 0) rfl (hb hby at_122) (pc' := 125) rfl (by decide) (by decide) (by decide) (by decide) all0 ?_
        rintro _ vm211 h211 ⟨rfl, K211, o211_0⟩ C211
        have z211 := K211.1
        -- pc 125
        refine Go.aload (hb hby at_125) (pc' := 127) rfl rfl rfl ?_
        refine Go.aload (hb hby at_127) (pc' := 129) rfl rfl rfl ?_
        refine Go.aload (hb hby at_129) (pc' := 131) rfl rfl rfl ?_
        have f212 : Exa Z h211 a45 "com/example/bindery/bindery/Globals$Variable" := ((f206.keep K208).keep K211)
        have f213 : Fld Z h211 a45 "com/example/bindery/bindery/Globals$Variable" "value" "Ljava/lang/Object;" .null := (o208_0.keep K211 (ninS (neN (by omega)) nin0))
        refine Go.callV (y0 := ⟨"com/example/bindery/bindery/Globals$Variable", "assign", "(Lcom/example/bindery/bindery/Named;Ljava/lang/Object;)V"⟩) (c_assign (l := l) (nw := nw) g h211 a45 (.ref a17) (.ref r_176) .null rfl rfl (by first | omega | assumption | decide) rfl (by simp) f212 f213 (by omega)) hown (wd_69 g) (wd_70 g) (notFace_of_selects (wd_72 g)) (wd_72 g) (wd_71 g) f212 (wd_73 g) (wd_48 g) (by decide) (argsL := [(.ref a17), (.ref r_176)]) (lenOf pd_10 rfl) rfl (by rw [hml]; rfl) (W := 0) rfl (hb hby at_131) (pc' := 134) rfl (by decide) (by decide) (by decide) (by decide) all0 ?_
        rintro _ vm214 h214 ⟨rfl, K214, o214_0⟩ C214
        have z214 := K214.1
        -- pc 134
        refine Go.aload (hb hby at_134) (pc' := 136) rfl rfl rfl ?_
        refine Go.aload (hb hby at_136) (pc' := 138) rfl rfl rfl ?_
        have f215 : Exa Z h214 r_176 "java/lang/Integer" := ((((o176_0.keep K177).keep K208).keep K211).keep K214)
        have f216 : Exa Z h214 un "java/lang/Object" := ((((((((((((((((g.2.2.2.2.2.2.2.1.ext hO).keep KE6).keep K13).keep KE20).keep KE31).keep K39).keep K43).keep KE48).keep K54).keep KE59).keep K65).keep K176).keep K177).keep K208).keep K211).keep K214)
        have f217 : Exa Z h214 a45 "com/example/bindery/bindery/Globals$Variable" := (f212.keep K214)
        refine Go.callV (y0 := ⟨"com/example/bindery/bindery/Globals$Variable", "get", "(Lcom/example/bindery/bindery/Named;)Ljava/lang/Object;"⟩) (c_get (l := l) (nw := nw) g h214 a45 (.ref a17) (.ref r_176) rfl rfl (fun q => Exa.ne f215 f216 (by decide) (Value.ref.inj q)) f217 o214_0 (by omega)) hown (wd_74 g) (wd_75 g) (notFace_of_selects (wd_77 g)) (wd_77 g) (wd_76 g) f217 (wd_78 g) (wd_48 g) (by decide) (argsL := [(.ref a17)]) (lenOf pd_11 rfl) rfl (by rw [hml]; rfl) (W := 0) rfl (hb hby at_138) (pc' := 141) rfl (by decide) (by decide) (by decide) (by decide) all0 ?_
        rintro _ vm218 h218 ⟨rfl, K218⟩ C218
        have z218 := K218.1
        -- pc 141
        refine Go.aload (hb hby at_141) (pc' := 143) rfl rfl rfl ?_
        refine Go.acmpN (hb hby at_143) (pc' := 146) rfl rfl rfl (by simp [XT.acmp]) ?_
        refine Go.aload (hb hby at_146) (pc' := 148) rfl rfl rfl ?_
        refine Go.aload (hb hby at_148) (pc' := 150) rfl rfl rfl ?_
        have f219 : Exa Z h218 r_177 "java/lang/Integer" := ((((o177_0.keep K208).keep K211).keep K214).keep K218)
        have f220 : Exa Z h218 un "java/lang/Object" := (f216.keep K218)
        have f221 : Exa Z h218 a56 "com/example/bindery/bindery/Globals$Variable" := (((f209.keep K211).keep K214).keep K218)
        have f222 : Fld Z h218 a56 "com/example/bindery/bindery/Globals$Variable" "value" "Ljava/lang/Object;" (.ref r_177) := ((o211_0.keep K214 (ninS (neN (by omega)) nin0)).keep K218 nin0)
        refine Go.callV (y0 := ⟨"com/example/bindery/bindery/Globals$Variable", "get", "(Lcom/example/bindery/bindery/Named;)Ljava/lang/Object;"⟩) (c_get (l := l) (nw := nw) g h218 a56 (.ref a17) (.ref r_177) rfl rfl (fun q => Exa.ne f219 f220 (by decide) (Value.ref.inj q)) f221 f222 (by omega)) hown (wd_74 g) (wd_75 g) (notFace_of_selects (wd_77 g)) (wd_77 g) (wd_76 g) f221 (wd_78 g) (wd_48 g) (by decide) (argsL := [(.ref a17)]) (lenOf pd_11 rfl) rfl (by rw [hml]; rfl) (W := 0) rfl (hb hby at_150) (pc' := 153) rfl (by decide) (by decide) (by decide) (by decide) all0 ?_
        rintro _ vm223 h223 ⟨rfl, K223⟩ C223
        have z223 := K223.1
        -- pc 153
        refine Go.aload (hb hby at_153) (pc' := 155) rfl rfl rfl ?_
        refine Go.acmpN (hb hby at_155) (pc' := 158) rfl rfl rfl (by simp [XT.acmp]) ?_
        refine Go.iconst (hb hby at_158) (pc' := 159) rfl (z := (1 : Int32)) rfl ?_
        refine Go.goto (hb hby at_159) (by decide) (pc' := 163) (by decide) ?_
        refine Go.istore (hb hby at_163) (pc' := 165) rfl (L' := #[.val (.int i0), .val (.int i1), .val (.int i2), .val (.int i3), .val (.int i4), .val (.ref a2), .val (.ref a17), .val (.ref a45), .val (.ref a56), .val .null, .val (.ref r_176), .val (.ref r_177), .val .null, .val (.int (1 : Int32))]) rfl ?_
        refine Go.iload (hb hby at_165) (pc' := 167) rfl rfl ?_
        refine Go.iconst (hb hby at_167) (pc' := 168) rfl (z := (4 : Int32)) rfl ?_
        refine Go.iand (hb hby at_168) (pc' := 169) rfl ?_
        refine Go.ifc (hb hby at_169) (by decide) (pc' := 205) (by decide) (pc2 := 172) rfl (fun (q169 : (i4 &&& (4 : Int32)) = (0 : Int32)) => ?_) (fun (q169 : ¬ ((i4 &&& (4 : Int32)) = (0 : Int32))) => ?_)
        · refine Go.iload (hb hby at_205) (pc' := 207) rfl rfl ?_
          refine Go.retN (t := .boolean) hret (by simp) (hb hby at_207) (by decide) (by decide) ?_
          intro vmR CR
          exact ⟨(by first | rfl | (simp only [own_nar]; done) | (congr 2; done)), ((((((((((((((((((Keep.refl h []).trans KE6 all0).trans K13 (allS (by first | (left; simp; done) | (right; omega)) all0)).trans KE20 all0).trans KE31 all0).trans K39 (allS (by first | (left; simp; done) | (right; omega)) all0)).trans K43 (allS (by first | (left; simp; done) | (right; omega)) all0)).trans KE48 all0).trans K54 (allS (by first | (left; simp; done) | (right; omega)) all0)).trans KE59 all0).trans K65 (allS (by first | (left; simp; done) | (right; omega)) all0)).trans K176 all0).trans K177 all0).trans K208 (allS (by first | (left; simp; done) | (right; omega)) all0)).trans K211 (allS (by first | (left; simp; done) | (right; omega)) all0)).trans K214 (allS (by first | (left; simp; done) | (right; omega)) all0)).trans K218 all0).trans K223 all0)⟩
        · refine Go.aload (hb hby at_172) (pc' := 174) rfl rfl rfl ?_
          refine Go.aload (hb hby at_174) (pc' := 176) rfl rfl rfl ?_
          refine Go.aload (hb hby at_176) (pc' := 178) rfl rfl rfl ?_
          have f224 : Exa Z h223 r_176 "java/lang/Integer" := ((f215.keep K218).keep K223)
          have f225 : Exa Z h223 un "java/lang/Object" := (f220.keep K223)
          have f226 : Exa Z h223 a45 "com/example/bindery/bindery/Globals$Variable" := ((f217.keep K218).keep K223)
          have f227 : Fld Z h223 a45 "com/example/bindery/bindery/Globals$Variable" "value" "Ljava/lang/Object;" (.ref r_176) := ((o214_0.keep K218 nin0).keep K223 nin0)
          refine Go.callV (y0 := ⟨"com/example/bindery/bindery/Globals$Variable", "assign", "(Lcom/example/bindery/bindery/Named;Ljava/lang/Object;)V"⟩) (c_assign (l := l) (nw := nw) g h223 a45 (.ref a17) .null (.ref r_176) rfl rfl (by first | omega | assumption | decide) rfl (fun q => Exa.ne f224 f225 (by decide) (Value.ref.inj q)) f226 f227 (by omega)) hown (wd_69 g) (wd_70 g) (notFace_of_selects (wd_72 g)) (wd_72 g) (wd_71 g) f226 (wd_73 g) (wd_48 g) (by decide) (argsL := [(.ref a17), .null]) (lenOf pd_10 rfl) rfl (by rw [hml]; rfl) (W := 0) rfl (hb hby at_178) (pc' := 181) rfl (by decide) (by decide) (by decide) (by decide) all0 ?_
          rintro _ vm228 h228 ⟨rfl, K228, o228_0⟩ C228
          have z228 := K228.1
          -- pc 181
          refine Go.iload (hb hby at_181) (pc' := 183) rfl rfl ?_
          refine Go.ifN (hb hby at_183) (pc' := 186) rfl (show ¬ ((1 : Int32) = (0 : Int32)) from by decide) ?_
          refine Go.aload (hb hby at_186) (pc' := 188) rfl rfl rfl ?_
          refine Go.aload (hb hby at_188) (pc' := 190) rfl rfl rfl ?_
          have f229 : Exa Z h228 a45 "com/example/bindery/bindery/Globals$Variable" := (f226.keep K228)
          refine Go.callV (y0 := ⟨"com/example/bindery/bindery/Globals$Variable", "get", "(Lcom/example/bindery/bindery/Named;)Ljava/lang/Object;"⟩) (c_get (l := l) (nw := nw) g h228 a45 (.ref a17) .null rfl rfl (by simp) f229 o228_0 (by omega)) hown (wd_74 g) (wd_75 g) (notFace_of_selects (wd_77 g)) (wd_77 g) (wd_76 g) f229 (wd_78 g) (wd_48 g) (by decide) (argsL := [(.ref a17)]) (lenOf pd_11 rfl) rfl (by rw [hml]; rfl) (W := 0) rfl (hb hby at_190) (pc' := 193) rfl (by decide) (by decide) (by decide) (by decide) all0 ?_
          rintro _ vm230 h230 ⟨rfl, K230⟩ C230
          have z230 := K230.1
          -- pc 193
          refine Go.aload (hb hby at_193) (pc' := 195) rfl rfl rfl ?_
          refine Go.acmpN (hb hby at_195) (pc' := 198) rfl rfl rfl (by simp [XT.acmp]) ?_
          refine Go.iconst (hb hby at_198) (pc' := 199) rfl (z := (1 : Int32)) rfl ?_
          refine Go.goto (hb hby at_199) (by decide) (pc' := 203) (by decide) ?_
          refine Go.istore (hb hby at_203) (pc' := 205) rfl (L' := #[.val (.int i0), .val (.int i1), .val (.int i2), .val (.int i3), .val (.int i4), .val (.ref a2), .val (.ref a17), .val (.ref a45), .val (.ref a56), .val .null, .val (.ref r_176), .val (.ref r_177), .val .null, .val (.int (1 : Int32))]) rfl ?_
          refine Go.iload (hb hby at_205) (pc' := 207) rfl rfl ?_
          refine Go.retN (t := .boolean) hret (by simp) (hb hby at_207) (by decide) (by decide) ?_
          intro vmR CR
          exact ⟨(by first | rfl | (simp only [own_nar]; done) | (congr 2; done)), ((((((((((((((((((((Keep.refl h []).trans KE6 all0).trans K13 (allS (by first | (left; simp; done) | (right; omega)) all0)).trans KE20 all0).trans KE31 all0).trans K39 (allS (by first | (left; simp; done) | (right; omega)) all0)).trans K43 (allS (by first | (left; simp; done) | (right; omega)) all0)).trans KE48 all0).trans K54 (allS (by first | (left; simp; done) | (right; omega)) all0)).trans KE59 all0).trans K65 (allS (by first | (left; simp; done) | (right; omega)) all0)).trans K176 all0).trans K177 all0).trans K208 (allS (by first | (left; simp; done) | (right; omega)) all0)).trans K211 (allS (by first | (left; simp; done) | (right; omega)) all0)).trans K214 (allS (by first | (left; simp; done) | (right; omega)) all0)).trans K218 all0).trans K223 all0).trans K228 (allS (by first | (left; simp; done) | (right; omega)) all0)).trans K230 all0)⟩
    · refine Go.aconstNull (hb hby at_75) (pc' := 76) rfl ?_
      refine Go.goto (hb hby at_76) (by decide) (pc' := 83) (by decide) ?_
      refine Go.astore (hb hby at_83) (pc' := 85) rfl rfl (L' := #[.val (.int i0), .val (.int i1), .val (.int i2), .val (.int i3), .val (.int i4), .val (.ref a2), .val (.ref a17), .val (.ref a45), .val (.ref a56), .val .null, .val .null, .unset, .unset, .unset]) rfl ?_
      refine Go.iloadN (hb hby at_85) (pc' := 86) rfl rfl ?_
      refine Go.callS (c_intof (l := l) (nw := nw) g h65 i2 (by omega)) hown (wd_57 g) (wd_58 g) (wd_60 g) (wd_59 g) (by decide) (argsL := [(.int i2)]) (lenOf pd_8 rfl) rfl (by rw [hml]; rfl) (W := 0) rfl (hb hby at_86) (pc' := 89) rfl (by decide) (by decide) (by decide) (by decide) all0 ?_
      rintro _ vm231 h231 ⟨r_231, rfl, K231, o231_0⟩ C231
      have z231 := K231.1
      have yo231_0 := ltN o231_0.lt
      -- pc 89
      refine Go.astore (hb hby at_89) (pc' := 91) rfl rfl (L' := #[.val (.int i0), .val (.int i1), .val (.int i2), .val (.int i3), .val (.int i4), .val (.ref a2), .val (.ref a17), .val (.ref a45), .val (.ref a56), .val .null, .val .null, .val (.ref r_231), .unset, .unset]) rfl ?_
      refine Go.iload (hb hby at_91) (pc' := 93) rfl rfl ?_
      refine Go.bipush (hb hby at_93) (pc' := 95) rfl (z := (8 : Int32)) rfl ?_
      refine Go.iand (hb hby at_95) (pc' := 96) rfl ?_
      refine Go.ifc (hb hby at_96) (by decide) (pc' := 103) (by decide) (pc2 := 99) rfl (fun (q96 : (i4 &&& (8 : Int32)) = (0 : Int32)) => ?_) (fun (q96 : ¬ ((i4 &&& (8 : Int32)) = (0 : Int32))) => ?_)
      · refine Go.iloadN (hb hby at_103) (pc' := 104) rfl rfl ?_
        refine Go.iloadN (hb hby at_104) (pc' := 105) rfl rfl ?_
        refine Go.ixor (hb hby at_105) (pc' := 106) rfl ?_
        refine Go.callS (c_intof (l := l) (nw := nw) g h231 (i0 ^^^ i1) (by omega)) hown (wd_57 g) (wd_58 g) (wd_60 g) (wd_59 g) (by decide) (argsL := [(.int (i0 ^^^ i1))]) (lenOf pd_8 rfl) rfl (by rw [hml]; rfl) (W := 0) rfl (hb hby at_106) (pc' := 109) rfl (by decide) (by decide) (by decide) (by decide) all0 ?_
        rintro _ vm232 h232 ⟨r_232, rfl, K232, o232_0⟩ C232
        have z232 := K232.1
        have yo232_0 := ltN o232_0.lt
        -- pc 109
        refine Go.astore (hb hby at_109) (pc' := 111) rfl rfl (L' := #[.val (.int i0), .val (.int i1), .val (.int i2), .val (.int i3), .val (.int i4), .val (.ref a2), .val (.ref a17), .val (.ref a45), .val (.ref a56), .val .null, .val .null, .val (.ref r_231), .val (.ref r_232), .unset]) rfl ?_
        refine Go.aload (hb hby at_111) (pc' := 113) rfl rfl rfl ?_
        refine Go.aload (hb hby at_113) (pc' := 115) rfl rfl rfl ?_
        have f233 : Exa Z h232 a45 "com/example/bindery/bindery/Globals$Variable" := (((((X49.keep K54).keep KE59).keep K65).keep K231).keep K232)
        have f234 : Fld Z h232 a45 "com/example/bindery/bindery/Globals$Variable" "value" "Ljava/lang/Object;" (.ref un) := ((((o54_0.keep KE59 nin0).keep K65 (ninS (neN (by omega)) nin0)).keep K231 nin0).keep K232 nin0)
        refine Go.callV (y0 := ⟨"com/example/bindery/bindery/Globals$Variable", "define", "(Ljava/lang/Object;)V"⟩) (c_define (l := l) (nw := nw) g h232 a45 .null (.ref un) rfl (by first | omega | assumption | decide) f233 f234 (by omega)) hown (wd_64 g) (wd_65 g) (notFace_of_selects (wd_67 g)) (wd_67 g) (wd_66 g) f233 (wd_68 g) (wd_48 g) (by decide) (argsL := [.null]) (lenOf pd_9 rfl) rfl (by rw [hml]; rfl) (W := 0) rfl (hb hby at_115) (pc' := 118) rfl (by decide) (by decide) (by decide) (by decide) all0 ?_
        rintro _ vm235 h235 ⟨rfl, K235, o235_0⟩ C235
        have z235 := K235.1
        -- pc 118
        refine Go.aload (hb hby at_118) (pc' := 120) rfl rfl rfl ?_
        refine Go.aload (hb hby at_120) (pc' := 122) rfl rfl rfl ?_
        have f236 : Exa Z h235 a56 "com/example/bindery/bindery/Globals$Variable" := ((((X60.keep K65).keep K231).keep K232).keep K235)
        have f237 : Fld Z h235 a56 "com/example/bindery/bindery/Globals$Variable" "value" "Ljava/lang/Object;" (.ref un) := (((o65_0.keep K231 nin0).keep K232 nin0).keep K235 (ninS (neN (by omega)) nin0))
        refine Go.callV (y0 := ⟨"com/example/bindery/bindery/Globals$Variable", "define", "(Ljava/lang/Object;)V"⟩) (c_define (l := l) (nw := nw) g h235 a56 (.ref r_231) (.ref un) rfl (by first | omega | assumption | decide) f236 f237 (by omega)) hown (wd_64 g) (wd_65 g) (notFace_of_selects (wd_67 g)) (wd_67 g) (wd_66 g) f236 (wd_68 g) (wd_48 g) (by decide) (argsL := [(.ref r_231)]) (lenOf pd_9 rfl) rfl (by rw [hml]; rfl) (W := 0) rfl (hb hby at_122) (pc' := 125) rfl (by decide) (by decide) (by decide) (by decide) all0 ?_
        rintro _ vm238 h238 ⟨rfl, K238, o238_0⟩ C238
        have z238 := K238.1
        -- pc 125
        refine Go.aload (hb hby at_125) (pc' := 127) rfl rfl rfl ?_
        refine Go.aload (hb hby at_127) (pc' := 129) rfl rfl rfl ?_
        refine Go.aload (hb hby at_129) (pc' := 131) rfl rfl rfl ?_
        have f239 : Exa Z h238 a45 "com/example/bindery/bindery/Globals$Variable" := ((f233.keep K235).keep K238)
        have f240 : Fld Z h238 a45 "com/example/bindery/bindery/Globals$Variable" "value" "Ljava/lang/Object;" .null := (o235_0.keep K238 (ninS (neN (by omega)) nin0))
        refine Go.callV (y0 := ⟨"com/example/bindery/bindery/Globals$Variable", "assign", "(Lcom/example/bindery/bindery/Named;Ljava/lang/Object;)V"⟩) (c_assign (l := l) (nw := nw) g h238 a45 (.ref a17) .null .null rfl rfl (by first | omega | assumption | decide) rfl (by simp) f239 f240 (by omega)) hown (wd_69 g) (wd_70 g) (notFace_of_selects (wd_72 g)) (wd_72 g) (wd_71 g) f239 (wd_73 g) (wd_48 g) (by decide) (argsL := [(.ref a17), .null]) (lenOf pd_10 rfl) rfl (by rw [hml]; rfl) (W := 0) rfl (hb hby at_131) (pc' := 134) rfl (by decide) (by decide) (by decide) (by decide) all0 ?_
        rintro _ vm241 h241 ⟨rfl, K241, o241_0⟩ C241
        have z241 := K241.1
        -- pc 134
        refine Go.aload (hb hby at_134) (pc' := 136) rfl rfl rfl ?_
        refine Go.aload (hb hby at_136) (pc' := 138) rfl rfl rfl ?_
        have f242 : Exa Z h241 a45 "com/example/bindery/bindery/Globals$Variable" := (f239.keep K241)
        refine Go.callV (y0 := ⟨"com/example/bindery/bindery/Globals$Variable", "get", "(Lcom/example/bindery/bindery/Named;)Ljava/lang/Object;"⟩) (c_get (l := l) (nw := nw) g h241 a45 (.ref a17) .null rfl rfl (by simp) f242 o241_0 (by omega)) hown (wd_74 g) (wd_75 g) (notFace_of_selects (wd_77 g)) (wd_77 g) (wd_76 g) f242 (wd_78 g) (wd_48 g) (by decide) (argsL := [(.ref a17)]) (lenOf pd_11 rfl) rfl (by rw [hml]; rfl) (W := 0) rfl (hb hby at_138) (pc' := 141) rfl (by decide) (by decide) (by decide) (by decide) all0 ?_
        rintro _ vm243 h243 ⟨rfl, K243⟩ C243
        have z243 := K243.1
        -- pc 141
        refine Go.aload (hb hby at_141) (pc' := 143) rfl rfl rfl ?_
        refine Go.acmpN (hb hby at_143) (pc' := 146) rfl rfl rfl (by simp [XT.acmp]) ?_
        refine Go.aload (hb hby at_146) (pc' := 148) rfl rfl rfl ?_
        refine Go.aload (hb hby at_148) (pc' := 150) rfl rfl rfl ?_
        have f244 : Exa Z h243 r_231 "java/lang/Integer" := (((((o231_0.keep K232).keep K235).keep K238).keep K241).keep K243)
        have f245 : Exa Z h243 un "java/lang/Object" := (((((((((((((((((g.2.2.2.2.2.2.2.1.ext hO).keep KE6).keep K13).keep KE20).keep KE31).keep K39).keep K43).keep KE48).keep K54).keep KE59).keep K65).keep K231).keep K232).keep K235).keep K238).keep K241).keep K243)
        have f246 : Exa Z h243 a56 "com/example/bindery/bindery/Globals$Variable" := (((f236.keep K238).keep K241).keep K243)
        have f247 : Fld Z h243 a56 "com/example/bindery/bindery/Globals$Variable" "value" "Ljava/lang/Object;" (.ref r_231) := ((o238_0.keep K241 (ninS (neN (by omega)) nin0)).keep K243 nin0)
        refine Go.callV (y0 := ⟨"com/example/bindery/bindery/Globals$Variable", "get", "(Lcom/example/bindery/bindery/Named;)Ljava/lang/Object;"⟩) (c_get (l := l) (nw := nw) g h243 a56 (.ref a17) (.ref r_231) rfl rfl (fun q => Exa.ne f244 f245 (by decide) (Value.ref.inj q)) f246 f247 (by omega)) hown (wd_74 g) (wd_75 g) (notFace_of_selects (wd_77 g)) (wd_77 g) (wd_76 g) f246 (wd_78 g) (wd_48 g) (by decide) (argsL := [(.ref a17)]) (lenOf pd_11 rfl) rfl (by rw [hml]; rfl) (W := 0) rfl (hb hby at_150) (pc' := 153) rfl (by decide) (by decide) (by decide) (by decide) all0 ?_
        rintro _ vm248 h248 ⟨rfl, K248⟩ C248
        have z248 := K248.1
        -- pc 153
        refine Go.aload (hb hby at_153) (pc' := 155) rfl rfl rfl ?_
        refine Go.acmpN (hb hby at_155) (pc' := 158) rfl rfl rfl (by simp [XT.acmp]) ?_
        refine Go.iconst (hb hby at_158) (pc' := 159) rfl (z := (1 : Int32)) rfl ?_
        refine Go.goto (hb hby at_159) (by decide) (pc' := 163) (by decide) ?_
        refine Go.istore (hb hby at_163) (pc' := 165) rfl (L' := #[.val (.int i0), .val (.int i1), .val (.int i2), .val (.int i3), .val (.int i4), .val (.ref a2), .val (.ref a17), .val (.ref a45), .val (.ref a56), .val .null, .val .null, .val (.ref r_231), .val (.ref r_232), .val (.int (1 : Int32))]) rfl ?_
        refine Go.iload (hb hby at_165) (pc' := 167) rfl rfl ?_
        refine Go.iconst (hb hby at_167) (pc' := 168) rfl (z := (4 : Int32)) rfl ?_
        refine Go.iand (hb hby at_168) (pc' := 169) rfl ?_
        refine Go.ifc (hb hby at_169) (by decide) (pc' := 205) (by decide) (pc2 := 172) rfl (fun (q169 : (i4 &&& (4 : Int32)) = (0 : Int32)) => ?_) (fun (q169 : ¬ ((i4 &&& (4 : Int32)) = (0 : Int32))) => ?_)
        · refine Go.iload (hb hby at_205) (pc' := 207) rfl rfl ?_
          refine Go.retN (t := .boolean) hret (by simp) (hb hby at_207) (by decide) (by decide) ?_
          intro vmR CR
          exact ⟨(by first | rfl | (simp only [own_nar]; done) | (congr 2; done)), ((((((((((((((((((Keep.refl h []).trans KE6 all0).trans K13 (allS (by first | (left; simp; done) | (right; omega)) all0)).trans KE20 all0).trans KE31 all0).trans K39 (allS (by first | (left; simp; done) | (right; omega)) all0)).trans K43 (allS (by first | (left; simp; done) | (right; omega)) all0)).trans KE48 all0).trans K54 (allS (by first | (left; simp; done) | (right; omega)) all0)).trans KE59 all0).trans K65 (allS (by first | (left; simp; done) | (right; omega)) all0)).trans K231 all0).trans K232 all0).trans K235 (allS (by first | (left; simp; done) | (right; omega)) all0)).trans K238 (allS (by first | (left; simp; done) | (right; omega)) all0)).trans K241 (allS (by first | (left; simp; done) | (right; omega)) all0)).trans K243 all0).trans K248 all0)⟩
        · refine Go.aload (hb hby at_172) (pc' := 174) rfl rfl rfl ?_
          refine Go.aload (hb hby at_174) (pc' := 176) rfl rfl rfl ?_
          refine Go.aload (hb hby at_176) (pc' := 178) rfl rfl rfl ?_
          have f249 : Exa Z h248 a45 "com/example/bindery/bindery/Globals$Variable" := ((f242.keep K243).keep K248)
          have f250 : Fld Z h248 a45 "com/example/bindery/bindery/Globals$Variable" "value" "Ljava/lang/Object;" .null := ((o241_0.keep K243 nin0).keep K248 nin0)
          refine Go.callV (y0 := ⟨"com/example/bindery/bindery/Globals$Variable", "assign", "(Lcom/example/bindery/bindery/Named;Ljava/lang/Object;)V"⟩) (c_assign (l := l) (nw := nw) g h248 a45 (.ref a17) (.ref r_232) .null rfl rfl (by first | omega | assumption | decide) rfl (by simp) f249 f250 (by omega)) hown (wd_69 g) (wd_70 g) (notFace_of_selects (wd_72 g)) (wd_72 g) (wd_71 g) f249 (wd_73 g) (wd_48 g) (by decide) (argsL := [(.ref a17), (.ref r_232)]) (lenOf pd_10 rfl) rfl (by rw [hml]; rfl) (W := 0) rfl (hb hby at_178) (pc' := 181) rfl (by decide) (by decide) (by decide) (by decide) all0 ?_
          rintro _ vm251 h251 ⟨rfl, K251, o251_0⟩ C251
          have z251 := K251.1
          -- pc 181
          refine Go.iload (hb hby at_181) (pc' := 183) rfl rfl ?_
          refine Go.ifN (hb hby at_183) (pc' := 186) rfl (show ¬ ((1 : Int32) = (0 : Int32)) from by decide) ?_
          refine Go.aload (hb hby at_186) (pc' := 188) rfl rfl rfl ?_
          refine Go.aload (hb hby at_188) (pc' := 190) rfl rfl rfl ?_
          have f252 : Exa Z h251 r_232 "java/lang/Integer" := ((((((o232_0.keep K235).keep K238).keep K241).keep K243).keep K248).keep K251)
          have f253 : Exa Z h251 un "java/lang/Object" := ((f245.keep K248).keep K251)
          have f254 : Exa Z h251 a45 "com/example/bindery/bindery/Globals$Variable" := (f249.keep K251)
          refine Go.callV (y0 := ⟨"com/example/bindery/bindery/Globals$Variable", "get", "(Lcom/example/bindery/bindery/Named;)Ljava/lang/Object;"⟩) (c_get (l := l) (nw := nw) g h251 a45 (.ref a17) (.ref r_232) rfl rfl (fun q => Exa.ne f252 f253 (by decide) (Value.ref.inj q)) f254 o251_0 (by omega)) hown (wd_74 g) (wd_75 g) (notFace_of_selects (wd_77 g)) (wd_77 g) (wd_76 g) f254 (wd_78 g) (wd_48 g) (by decide) (argsL := [(.ref a17)]) (lenOf pd_11 rfl) rfl (by rw [hml]; rfl) (W := 0) rfl (hb hby at_190) (pc' := 193) rfl (by decide) (by decide) (by decide) (by decide) all0 ?_
          rintro _ vm255 h255 ⟨rfl, K255⟩ C255
          have z255 := K255.1
          -- pc 193
          refine Go.aload (hb hby at_193) (pc' := 195) rfl rfl rfl ?_
          refine Go.acmpN (hb hby at_195) (pc' := 198) rfl rfl rfl (by simp [XT.acmp]) ?_
          refine Go.iconst (hb hby at_198) (pc' := 199) rfl (z := (1 : Int32)) rfl ?_
          refine Go.goto (hb hby at_199) (by decide) (pc' := 203) (by decide) ?_
          refine Go.istore (hb hby at_203) (pc' := 205) rfl (L' := #[.val (.int i0), .val (.int i1), .val (.int i2), .val (.int i3), .val (.int i4), .val (.ref a2), .val (.ref a17), .val (.ref a45), .val (.ref a56), .val .null, .val .null, .val (.ref r_231), .val (.ref r_232), .val (.int (1 : Int32))]) rfl ?_
          refine Go.iload (hb hby at_205) (pc' := 207) rfl rfl ?_
          refine Go.retN (t := .boolean) hret (by simp) (hb hby at_207) (by decide) (by decide) ?_
          intro vmR CR
          exact ⟨(by first | rfl | (simp only [own_nar]; done) | (congr 2; done)), ((((((((((((((((((((Keep.refl h []).trans KE6 all0).trans K13 (allS (by first | (left; simp; done) | (right; omega)) all0)).trans KE20 all0).trans KE31 all0).trans K39 (allS (by first | (left; simp; done) | (right; omega)) all0)).trans K43 (allS (by first | (left; simp; done) | (right; omega)) all0)).trans KE48 all0).trans K54 (allS (by first | (left; simp; done) | (right; omega)) all0)).trans KE59 all0).trans K65 (allS (by first | (left; simp; done) | (right; omega)) all0)).trans K231 all0).trans K232 all0).trans K235 (allS (by first | (left; simp; done) | (right; omega)) all0)).trans K238 (allS (by first | (left; simp; done) | (right; omega)) all0)).trans K241 (allS (by first | (left; simp; done) | (right; omega)) all0)).trans K243 all0).trans K248 all0).trans K251 (allS (by first | (left; simp; done) | (right; omega)) all0)).trans K255 all0)⟩
      · refine Go.aconstNull (hb hby at_99) (pc' := 100) rfl ?_
        refine Go.goto (hb hby at_100) (by decide) (pc' := 109) (by decide) ?_
        refine Go.astore (hb hby at_109) (pc' := 111) rfl rfl (L' := #[.val (.int i0), .val (.int i1), .val (.int i2), .val (.int i3), .val (.int i4), .val (.ref a2), .val (.ref a17), .val (.ref a45), .val (.ref a56), .val .null, .val .null, .val (.ref r_231), .val .null, .unset]) rfl ?_
        refine Go.aload (hb hby at_111) (pc' := 113) rfl rfl rfl ?_
        refine Go.aload (hb hby at_113) (pc' := 115) rfl rfl rfl ?_
        have f256 : Exa Z h231 a45 "com/example/bindery/bindery/Globals$Variable" := ((((X49.keep K54).keep KE59).keep K65).keep K231)
        have f257 : Fld Z h231 a45 "com/example/bindery/bindery/Globals$Variable" "value" "Ljava/lang/Object;" (.ref un) := (((o54_0.keep KE59 nin0).keep K65 (ninS (neN (by omega)) nin0)).keep K231 nin0)
        refine Go.callV (y0 := ⟨"com/example/bindery/bindery/Globals$Variable", "define", "(Ljava/lang/Object;)V"⟩) (c_define (l := l) (nw := nw) g h231 a45 .null (.ref un) rfl (by first | omega | assumption | decide) f256 f257 (by omega)) hown (wd_64 g) (wd_65 g) (notFace_of_selects (wd_67 g)) (wd_67 g) (wd_66 g) f256 (wd_68 g) (wd_48 g) (by decide) (argsL := [.null]) (lenOf pd_9 rfl) rfl (by rw [hml]; rfl) (W := 0) rfl (hb hby at_115) (pc' := 118) rfl (by decide) (by decide) (by decide) (by decide) all0 ?_
        rintro _ vm258 h258 ⟨rfl, K258, o258_0⟩ C258
        have z258 := K258.1
        -- pc 118
        refine Go.aload (hb hby at_118) (pc' := 120) rfl rfl rfl ?_
        refine Go.aload (hb hby at_120) (pc' := 122) rfl rfl rfl ?_
        have f259 : Exa Z h258 a56 "com/example/bindery/bindery/Globals$Variable" := (((X60.keep K65).keep K231).keep K258)
        have f260 : Fld Z h258 a56 "com/example/bindery/bindery/Globals$Variable" "value" "Ljava/lang/Object;" (.ref un) := ((o65_0.keep K231 nin0).keep K258 (ninS (neN (by omega)) nin0))
        refine Go.callV (y0 := ⟨"com/example/bindery/bindery/Globals$Variable", "define", "(Ljava/lang/Object;)V"⟩) (c_define (l := l) (nw := nw) g h258 a56 (.ref r_231) (.ref un) rfl (by first | omega | assumption | decide) f259 f260 (by omega)) hown (wd_64 g) (wd_65 g) (notFace_of_selects (wd_67 g)) (wd_67 g) (wd_66 g) f259 (wd_68 g) (wd_48 g) (by decide) (argsL := [(.ref r_231)]) (lenOf pd_9 rfl) rfl (by rw [hml]; rfl) (W := 0) rfl (hb hby at_122) (pc' := 125) rfl (by decide) (by decide) (by decide) (by decide) all0 ?_
        rintro _ vm261 h261 ⟨rfl, K261, o261_0⟩ C261
        have z261 := K261.1
        -- pc 125
        refine Go.aload (hb hby at_125) (pc' := 127) rfl rfl rfl ?_
        refine Go.aload (hb hby at_127) (pc' := 129) rfl rfl rfl ?_
        refine Go.aload (hb hby at_129) (pc' := 131) rfl rfl rfl ?_
        have f262 : Exa Z h261 a45 "com/example/bindery/bindery/Globals$Variable" := ((f256.keep K258).keep K261)
        have f263 : Fld Z h261 a45 "com/example/bindery/bindery/Globals$Variable" "value" "Ljava/lang/Object;" .null := (o258_0.keep K261 (ninS (neN (by omega)) nin0))
        refine Go.callV (y0 := ⟨"com/example/bindery/bindery/Globals$Variable", "assign", "(Lcom/example/bindery/bindery/Named;Ljava/lang/Object;)V"⟩) (c_assign (l := l) (nw := nw) g h261 a45 (.ref a17) .null .null rfl rfl (by first | omega | assumption | decide) rfl (by simp) f262 f263 (by omega)) hown (wd_69 g) (wd_70 g) (notFace_of_selects (wd_72 g)) (wd_72 g) (wd_71 g) f262 (wd_73 g) (wd_48 g) (by decide) (argsL := [(.ref a17), .null]) (lenOf pd_10 rfl) rfl (by rw [hml]; rfl) (W := 0) rfl (hb hby at_131) (pc' := 134) rfl (by decide) (by decide) (by decide) (by decide) all0 ?_
        rintro _ vm264 h264 ⟨rfl, K264, o264_0⟩ C264
        have z264 := K264.1
        -- pc 134
        refine Go.aload (hb hby at_134) (pc' := 136) rfl rfl rfl ?_
        refine Go.aload (hb hby at_136) (pc' := 138) rfl rfl rfl ?_
        have f265 : Exa Z h264 a45 "com/example/bindery/bindery/Globals$Variable" := (f262.keep K264)
        refine Go.callV (y0 := ⟨"com/example/bindery/bindery/Globals$Variable", "get", "(Lcom/example/bindery/bindery/Named;)Ljava/lang/Object;"⟩) (c_get (l := l) (nw := nw) g h264 a45 (.ref a17) .null rfl rfl (by simp) f265 o264_0 (by omega)) hown (wd_74 g) (wd_75 g) (notFace_of_selects (wd_77 g)) (wd_77 g) (wd_76 g) f265 (wd_78 g) (wd_48 g) (by decide) (argsL := [(.ref a17)]) (lenOf pd_11 rfl) rfl (by rw [hml]; rfl) (W := 0) rfl (hb hby at_138) (pc' := 141) rfl (by decide) (by decide) (by decide) (by decide) all0 ?_
        rintro _ vm266 h266 ⟨rfl, K266⟩ C266
        have z266 := K266.1
        -- pc 141
        refine Go.aload (hb hby at_141) (pc' := 143) rfl rfl rfl ?_
        refine Go.acmpN (hb hby at_143) (pc' := 146) rfl rfl rfl (by simp [XT.acmp]) ?_
        refine Go.aload (hb hby at_146) (pc' := 148) rfl rfl rfl ?_
        refine Go.aload (hb hby at_148) (pc' := 150) rfl rfl rfl ?_
        have f267 : Exa Z h266 r_231 "java/lang/Integer" := ((((o231_0.keep K258).keep K261).keep K264).keep K266)
        have f268 : Exa Z h266 un "java/lang/Object" := ((((((((((((((((g.2.2.2.2.2.2.2.1.ext hO).keep KE6).keep K13).keep KE20).keep KE31).keep K39).keep K43).keep KE48).keep K54).keep KE59).keep K65).keep K231).keep K258).keep K261).keep K264).keep K266)
        have f269 : Exa Z h266 a56 "com/example/bindery/bindery/Globals$Variable" := (((f259.keep K261).keep K264).keep K266)
        have f270 : Fld Z h266 a56 "com/example/bindery/bindery/Globals$Variable" "value" "Ljava/lang/Object;" (.ref r_231) := ((o261_0.keep K264 (ninS (neN (by omega)) nin0)).keep K266 nin0)
        refine Go.callV (y0 := ⟨"com/example/bindery/bindery/Globals$Variable", "get", "(Lcom/example/bindery/bindery/Named;)Ljava/lang/Object;"⟩) (c_get (l := l) (nw := nw) g h266 a56 (.ref a17) (.ref r_231) rfl rfl (fun q => Exa.ne f267 f268 (by decide) (Value.ref.inj q)) f269 f270 (by omega)) hown (wd_74 g) (wd_75 g) (notFace_of_selects (wd_77 g)) (wd_77 g) (wd_76 g) f269 (wd_78 g) (wd_48 g) (by decide) (argsL := [(.ref a17)]) (lenOf pd_11 rfl) rfl (by rw [hml]; rfl) (W := 0) rfl (hb hby at_150) (pc' := 153) rfl (by decide) (by decide) (by decide) (by decide) all0 ?_
        rintro _ vm271 h271 ⟨rfl, K271⟩ C271
        have z271 := K271.1
        -- pc 153
        refine Go.aload (hb hby at_153) (pc' := 155) rfl rfl rfl ?_
        refine Go.acmpN (hb hby at_155) (pc' := 158) rfl rfl rfl (by simp [XT.acmp]) ?_
        refine Go.iconst (hb hby at_158) (pc' := 159) rfl (z := (1 : Int32)) rfl ?_
        refine Go.goto (hb hby at_159) (by decide) (pc' := 163) (by decide) ?_
        refine Go.istore (hb hby at_163) (pc' := 165) rfl (L' := #[.val (.int i0), .val (.int i1), .val (.int i2), .val (.int i3), .val (.int i4), .val (.ref a2), .val (.ref a17), .val (.ref a45), .val (.ref a56), .val .null, .val .null, .val (.ref r_231), .val .null, .val (.int (1 : Int32))]) rfl ?_
        refine Go.iload (hb hby at_165) (pc' := 167) rfl rfl ?_
        refine Go.iconst (hb hby at_167) (pc' := 168) rfl (z := (4 : Int32)) rfl ?_
        refine Go.iand (hb hby at_168) (pc' := 169) rfl ?_
        refine Go.ifc (hb hby at_169) (by decide) (pc' := 205) (by decide) (pc2 := 172) rfl (fun (q169 : (i4 &&& (4 : Int32)) = (0 : Int32)) => ?_) (fun (q169 : ¬ ((i4 &&& (4 : Int32)) = (0 : Int32))) => ?_)
        · refine Go.iload (hb hby at_205) (pc' := 207) rfl rfl ?_
          refine Go.retN (t := .boolean) hret (by simp) (hb hby at_207) (by decide) (by decide) ?_
          intro vmR CR
          exact ⟨(by first | rfl | (simp only [own_nar]; done) | (congr 2; done)), (((((((((((((((((Keep.refl h []).trans KE6 all0).trans K13 (allS (by first | (left; simp; done) | (right; omega)) all0)).trans KE20 all0).trans KE31 all0).trans K39 (allS (by first | (left; simp; done) | (right; omega)) all0)).trans K43 (allS (by first | (left; simp; done) | (right; omega)) all0)).trans KE48 all0).trans K54 (allS (by first | (left; simp; done) | (right; omega)) all0)).trans KE59 all0).trans K65 (allS (by first | (left; simp; done) | (right; omega)) all0)).trans K231 all0).trans K258 (allS (by first | (left; simp; done) | (right; omega)) all0)).trans K261 (allS (by first | (left; simp; done) | (right; omega)) all0)).trans K264 (allS (by first | (left; simp; done) | (right; omega)) all0)).trans K266 all0).trans K271 all0)⟩
        · refine Go.aload (hb hby at_172) (pc' := 174) rfl rfl rfl ?_
          refine Go.aload (hb hby at_174) (pc' := 176) rfl rfl rfl ?_
          refine Go.aload (hb hby at_176) (pc' := 178) rfl rfl rfl ?_
          have f272 : Exa Z h271 a45 "com/example/bindery/bindery/Globals$Variable" := ((f265.keep K266).keep K271)
          have f273 : Fld Z h271 a45 "com/example/bindery/bindery/Globals$Variable" "value" "Ljava/lang/Object;" .null := ((o264_0.keep K266 nin0).keep K271 nin0)
          refine Go.callV (y0 := ⟨"com/example/bindery/bindery/Globals$Variable", "assign", "(Lcom/example/bindery/bindery/Named;Ljava/lang/Object;)V"⟩) (c_assign (l := l) (nw := nw) g h271 a45 (.ref a17) .null .null rfl rfl (by first | omega | assumption | decide) rfl (by simp) f272 f273 (by omega)) hown (wd_69 g) (wd_70 g) (notFace_of_selects (wd_72 g)) (wd_72 g) (wd_71 g) f272 (wd_73 g) (wd_48 g) (by decide) (argsL := [(.ref a17), .null]) (lenOf pd_10 rfl) rfl (by rw [hml]; rfl) (W := 0) rfl (hb hby at_178) (pc' := 181) rfl (by decide) (by decide) (by decide) (by decide) all0 ?_
          rintro _ vm274 h274 ⟨rfl, K274, o274_0⟩ C274
          have z274 := K274.1
          -- pc 181
          refine Go.iload (hb hby at_181) (pc' := 183) rfl rfl ?_
          refine Go.ifN (hb hby at_183) (pc' := 186) rfl (show ¬ ((1 : Int32) = (0 : Int32)) from by decide) ?_
          refine Go.aload (hb hby at_186) (pc' := 188) rfl rfl rfl ?_
          refine Go.aload (hb hby at_188) (pc' := 190) rfl rfl rfl ?_
          have f275 : Exa Z h274 a45 "com/example/bindery/bindery/Globals$Variable" := (f272.keep K274)
          refine Go.callV (y0 := ⟨"com/example/bindery/bindery/Globals$Variable", "get", "(Lcom/example/bindery/bindery/Named;)Ljava/lang/Object;"⟩) (c_get (l := l) (nw := nw) g h274 a45 (.ref a17) .null rfl rfl (by simp) f275 o274_0 (by omega)) hown (wd_74 g) (wd_75 g) (notFace_of_selects (wd_77 g)) (wd_77 g) (wd_76 g) f275 (wd_78 g) (wd_48 g) (by decide) (argsL := [(.ref a17)]) (lenOf pd_11 rfl) rfl (by rw [hml]; rfl) (W := 0) rfl (hb hby at_190) (pc' := 193) rfl (by decide) (by decide) (by decide) (by decide) all0 ?_
          rintro _ vm276 h276 ⟨rfl, K276⟩ C276
          have z276 := K276.1
          -- pc 193
          refine Go.aload (hb hby at_193) (pc' := 195) rfl rfl rfl ?_
          refine Go.acmpN (hb hby at_195) (pc' := 198) rfl rfl rfl (by simp [XT.acmp]) ?_
          refine Go.iconst (hb hby at_198) (pc' := 199) rfl (z := (1 : Int32)) rfl ?_
          refine Go.goto (hb hby at_199) (by decide) (pc' := 203) (by decide) ?_
          refine Go.istore (hb hby at_203) (pc' := 205) rfl (L' := #[.val (.int i0), .val (.int i1), .val (.int i2), .val (.int i3), .val (.int i4), .val (.ref a2), .val (.ref a17), .val (.ref a45), .val (.ref a56), .val .null, .val .null, .val (.ref r_231), .val .null, .val (.int (1 : Int32))]) rfl ?_
          refine Go.iload (hb hby at_205) (pc' := 207) rfl rfl ?_
          refine Go.retN (t := .boolean) hret (by simp) (hb hby at_207) (by decide) (by decide) ?_
          intro vmR CR
          exact ⟨(by first | rfl | (simp only [own_nar]; done) | (congr 2; done)), (((((((((((((((((((Keep.refl h []).trans KE6 all0).trans K13 (allS (by first | (left; simp; done) | (right; omega)) all0)).trans KE20 all0).trans KE31 all0).trans K39 (allS (by first | (left; simp; done) | (right; omega)) all0)).trans K43 (allS (by first | (left; simp; done) | (right; omega)) all0)).trans KE48 all0).trans K54 (allS (by first | (left; simp; done) | (right; omega)) all0)).trans KE59 all0).trans K65 (allS (by first | (left; simp; done) | (right; omega)) all0)).trans K231 all0).trans K258 (allS (by first | (left; simp; done) | (right; omega)) all0)).trans K261 (allS (by first | (left; simp; done) | (right; omega)) all0)).trans K264 (allS (by first | (left; simp; done) | (right; omega)) all0)).trans K266 all0).trans K271 all0).trans K274 (allS (by first | (left; simp; done) | (right; omega)) all0)).trans K276 all0)⟩
set_option maxRecDepth 65536 in
set_option maxHeartbeats 40000000 in
theorem comes_1 {Post : Tables → Env → Array Value → State → Outcome → State → Prop} (hpost : ∀ tb e args s v u, (limb_1_1.after args s (.returned v) u = true ∧ limb_1_2.after args s (.returned v) u = true ∧ True) → Jvm.D.Framed s (.returned v) u (Jvm.fieldLocs frame_1_writes args s ++ Jvm.arrayLocs frame_1_arrays args s ++ Jvm.staticLocs frame_1_statics s) 32 128 → Post tb e args s (.returned v) u) :
    ArmFor flags0 classFile x code maxLocals ret World_1 tables_1 room_1 Calls_1 rest_1 Pre_1 Post := by
  intro l hfl _ _ p e ha hc hk s m args below hf hA hF happ hP
  obtain ⟨hcalls, hrest, hpre⟩ := hP
  obtain ⟨-, -, -, hnamed, -, -, -, hat⟩ := (Spec.applies_iff hf).mp happ
  obtain ⟨hg, hn⟩ := and_e (Cond.before_iff.mp (show (Jvm.Cond.and given_1 narrow_1).before args s = true from hpre))
  obtain ⟨h1, g0⟩ := and_e hg
  obtain ⟨k0, g1⟩ := and_e g0
  obtain ⟨k1, g2⟩ := and_e g1
  obtain ⟨k2, g3⟩ := and_e g2
  obtain ⟨k3, g4⟩ := and_e g3
  have k4 := g4
  obtain ⟨w0, w1, w2, w3, w4, rfl⟩ : ∃ w0 w1 w2 w3 w4 : Value, args = #[w0, w1, w2, w3, w4] := by
    have hs : args.size = 5 := by simpa [Cond.value, given_1] using h1
    obtain ⟨L⟩ := args
    match L, hs with
    | [w0, w1, w2, w3, w4], _ => exact ⟨w0, w1, w2, w3, w4, rfl⟩
  have hw := fun d (hd : d ∈ tables_1) => atoms_spec (ws := Jvm.Cond.code x code maxLocals ret :: tables_1) hat d (List.mem_cons_of_mem _ hd)
  obtain ⟨hsets, hown0⟩ := atoms_of _ (rest_1_c_eq ▸ (show rest_1_c.before _ s = true from hrest))
  have hfit : Fit s := fun {y c} hc i hi => by
    obtain ⟨ha, rfl⟩ := Array.getElem?_eq_some_iff.mp hc
    have q := List.all_eq_true.mp ((Array.all_eq_true_iff_forall_mem.mp hF) _ (Array.getElem_mem ha)) i (List.mem_range.mpr hi)
    simpa [Array.getElem?_eq_getElem hi] using q
  obtain ⟨i0, r0⟩ := is_v k0
  obtain rfl : w0 = (.int i0) := Option.some.inj r0
  obtain ⟨i1, r1⟩ := is_v k1
  obtain rfl : w1 = (.int i1) := Option.some.inj r1
  obtain ⟨i2, r2⟩ := is_v k2
  obtain rfl : w2 = (.int i2) := Option.some.inj r2
  obtain ⟨i3, r3⟩ := is_v k3
  obtain rfl : w3 = (.int i3) := Option.some.inj r3
  obtain ⟨i4, r4⟩ := is_v k4
  obtain rfl : w4 = (.int i4) := Option.some.inj r4
  have n5 := not_v (Cond.before_iff.mp (hsets _ (List.mem_of_getElem? (i := 2) rfl)))
  obtain ⟨zc, e10⟩ := is_v (Cond.before_iff.mp (hsets _ (List.mem_of_getElem? (i := 1) rfl)))
  have S12 : Sta s s.heap "java/lang/String" "COMPACT_STRINGS" "Z" (.int zc) := Sta.start e10 (Or.inl (hsets _ (List.mem_of_getElem? (i := 0) rfl)))
  have c17 : ¬ (zc = (0 : Int32)) := gotF (Cond.eq_ints e10 (Term.int_eval (0))) n5
  obtain ⟨un, eu⟩ := exa_v hn
  have S20 : Sta s s.heap "com/example/bindery/bindery/Globals$Variable" "UNDEFINED" "Ljava/lang/Object;" (.ref un) := Sta.start eu (Or.inr ⟨(hw _ (List.mem_of_getElem? (i := 48) rfl)), (hw _ (List.mem_of_getElem? (i := 54) rfl))⟩)
  have X20 : Exa s s.heap un "java/lang/Object" := Exa.start eu hn
  have e21 := eqv_i (Term.int_eval 127) (Cond.before_iff.mp (hsets _ (List.mem_of_getElem? (i := 12) rfl)))
  have S21 : Sta s s.heap "java/lang/Integer$IntegerCache" "high" "I" (.int 127) := Sta.start e21 (Or.inl (hsets _ (List.mem_of_getElem? (i := 10) rfl)))
  obtain ⟨ca, ec⟩ := exa_v (Cond.before_iff.mp (hsets _ (List.mem_of_getElem? (i := 14) rfl)))
  have S22 : Sta s s.heap "java/lang/Integer$IntegerCache" "cache" "[Ljava/lang/Integer;" (.ref ca) := Sta.start ec (Or.inr ⟨(hw _ (List.mem_of_getElem? (i := 62) rfl)), (hsets _ (List.mem_of_getElem? (i := 11) rfl))⟩)
  obtain ⟨cc, A22⟩ := Arr.start ec (Cond.before_iff.mp (hsets _ (List.mem_of_getElem? (i := 13) rfl)))
  have e23 := eqv_i (Term.int_eval 256) (Cond.before_iff.mp (hsets _ (List.mem_of_getElem? (i := 15) rfl)))
  obtain ⟨b23, c23, t1, t2, t34⟩ := Jvm.Lib.length_spec e23
  have t3 := t34.1
  have t4 := t34.2
  cases ec.symm.trans t1
  cases t2.symm.trans (A22.fin (Vm.Alike.refl _))
  have t5 : cc.slots.size.toInt32 = 256 := (Value.int.inj t4).symm
  have B22 := Bxs.start (val := fun j => .int (j - 128)) (fun _ => ec) A22 t3 t5 (by decide) (Cond.before_iff.mp (hsets _ (List.mem_of_getElem? (i := 16) rfl))) (fun X j hj q => eqv_i (by simp [Term.eval, (back32 hj).1]) q)
  have hbox : ∀ i, i < 256 → ∃ x, cc.slots.toList[i]? = some (.ref x) ∧ Exa s s.heap x "java/lang/Integer" := fun i hi => by
    have q := clamp_nat (n := i) (by omega)
    have sz : cc.slots.size = 256 := by
      have := congrArg Int32.toInt t5
      rw [toInt_nat t3] at this
      have e0 : (256 : Int32).toInt = 256 := rfl
      omega
    obtain ⟨bx, u1, u2, -⟩ := B22.2.2.2 i.toInt32 (fun z => z.elim (nneg32 (by omega)) fun z => by omega)
    rw [q] at u1
    exact ⟨bx, by rw [Array.getElem?_toList]; exact u1, u2⟩
  have hCH : CHv s [] s.vm s.heap := fun _ hp => nomatch hp
  have hEL : EW s #[(.int i0), (.int i1), (.int i2), (.int i3), (.int i4)] [] := EW.nil
  obtain ⟨n, o, h1, h2, h3, v, L, rfl, N, ⟨rfl, -⟩, -, -, hH, hq⟩ := c_law (l := l) (nw := True) (EL := []) (zc := zc) (un := un) (ca := ca) (kc := cc.cls) (vs := cc.slots.toList) ⟨hw, hEL, trivial, trivial, S12, c17, S20, X20, S21, S22, ⟨cc, A22, rfl, rfl⟩, hbox⟩ tables_1 s.heap i0 i1 i2 i3 i4 (Nat.le_refl _) p e ha hc hk s m _ below hf ((Spec.applies_iff_loose hf).mp happ).1 ⟨rfl, State.Warmed39.refl s, rfl, hCH, ⟨Nat.le_refl _, fun _ _ q => q⟩, all0⟩ trivial
  refine ⟨n, _, h1, h2, h3, hpost _ _ _ _ _ _ ⟨Cond.after_iff.mpr rfl, Cond.after_iff.mpr (eq_i res_at (Term.int_eval (1)) rfl), trivial⟩ ?_⟩
  exact ⟨⟨_, rfl⟩, hH trivial, (hq.2.2.2.sift fun y hy => Or.inr (N y hy)).mono (by decide) (by decide)⟩
theorem main_1_1 : Claimed_1_1 := comes_1 fun _ _ _ _ _ _ h hF => ⟨h.1, hF⟩
theorem main_1_2 : Claimed_1_2 := comes_1 fun _ _ _ _ _ _ h hF => ⟨h.2.1, hF⟩
end Jvm.Pilot.@@N@@
namespace Jvm.Pilot.@@N@@
open Jvm Jvm.ClassFile Sem Op Lib Jvm.Free Jvm.Stand Jvm.Pilot.@@N@@.Jvm.D
/-! MADE BY PROGRAM (witnessworld.py) out of the Statement's table words and the real class files: 27 classes; the members and pool entries that the words name. The judged class is class 1, her method 1. -/
namespace start1
open Jvm.ClassFile
def u (s : String) : CpInfo := .utf8 (stringToUtf16 s)
/-- a pool by its gaps: so many unusable entries, then the entry; so many at the end -/
def gap : Nat → List CpInfo → List CpInfo
  | 0, r => r
  | n + 1, r => .unusable :: gap n r
def poolList (es : List (Nat × CpInfo)) (last : Nat) : List CpInfo := es.foldr (fun e r => gap e.1 (e.2 :: r)) (gap last [])
def pool (es : List (Nat × CpInfo)) (last : Nat) : Array CpInfo := ⟨poolList es last⟩
def fileOf (pool : Array CpInfo) (this : Nat) (attrs : Array Attribute := #[]) (ms : Array MethodInfo := #[]) (fl : Nat := 33) (sup : Nat := 0) (ifs : Array Nat := #[]) (fds : Array FieldInfo := #[]) : ClassFile where
  minorVersion := 0
  majorVersion := 65
  constantPool := pool
  accessFlags := fl
  thisClass := this
  superClass := sup
  interfaces := ifs
  fields := fds
  methods := ms
  attributes := attrs
def plain (name : String) (sup : Option ClassId) : Class where
  name := name
  kind := .ordinary
  loader := none
  accessFlags := 33
  super := sup
  interfaces := #[]
  cf := none
  fields := #[]
  methods := #[]
  instanceTypes := #[]
  staticTypes := #[]
  resolved := #[]
  callSites := []
  init := .initialized
  statics := none
  mirror := none

def pool0 : Array CpInfo := pool [(5, u "<init>"), (0, u "()V"), (1, .class_ 10), (1, u "java/lang/Object")] 113

def k0c0 : Code := { maxStack := 0, maxLocals := 1, code := object_method_1_code, exceptionTable := #[], attributes := #[] }
def k0m0 : Method := { name := "<init>", desc := "()V", sig := { parameters := [], returnType := none }, accessFlags := 1, code := some k0c0 }
/-- java/lang/Object -/
def k0 : Class := { plain "java/lang/Object" none with
  accessFlags := 33
  interfaces := #[]
  cf := some (fileOf pool0 8 #[] #[{ accessFlags := 1, nameIndex := 5, descriptorIndex := 6, attributes := #[] }] 33 0 #[] #[])
  fields := #[]
  methods := #[k0m0]
  instanceTypes := #[]
  staticTypes := #[]
  resolved := Array.replicate 124 none
  statics := none }

def pool1 : Array CpInfo := pool [(2, .class_ 4), (0, .nameAndType 5 6), (0, u "java/lang/Object"), (0, u "<init>"), (0, u "()V"), (0, .class_ 8), (0, u "com/example/bindery/bindery/Expr$Variable"), (0, .class_ 10), (0, u "java/lang/String"), (0, .methodref 9 12), (0, .nameAndType 5 13), (0, u "([C)V"), (0, .methodref 7 15), (0, .nameAndType 5 16), (0, u "(Ljava/lang/String;I)V"), (0, .class_ 18), (0, u "com/example/bindery/bindery/Globals$Variable"), (0, .methodref 17 3), (0, .methodref 21 22), (0, .class_ 23), (0, .nameAndType 24 25), (0, u "java/lang/Integer"), (0, u "valueOf"), (0, u "(I)Ljava/lang/Integer;"), (0, .methodref 17 27), (0, .nameAndType 28 29), (0, u "define"), (0, u "(Ljava/lang/Object;)V"), (0, .methodref 17 31), (0, .nameAndType 32 33), (0, u "assign"), (0, u "(Lcom/example/bindery/bindery/Named;Ljava/lang/Object;)V"), (0, .methodref 17 35), (0, .nameAndType 36 37), (0, u "get"), (0, u "(Lcom/example/bindery/bindery/Named;)Ljava/lang/Object;"), (0, .class_ 39), (0, u "com/example/bindery/bindery/VariableAssignPinLaw"), (2, u "law"), (0, u "(IIIII)Z")] 11

def k1m0 : Method := { name := "<init>", desc := "()V", sig := { parameters := [], returnType := none }, accessFlags := 2, code := none }
def k1c1 : Code := { maxStack := 5, maxLocals := 14, code := code, exceptionTable := #[], attributes := #[] }
def k1m1 : Method := { name := "law", desc := "(IIIII)Z", sig := { parameters := [.int, .int, .int, .int, .int], returnType := some .boolean }, accessFlags := 9, code := some k1c1 }
/-- com/example/bindery/bindery/VariableAssignPinLaw -/
def k1 : Class := { plain "com/example/bindery/bindery/VariableAssignPinLaw" (some 0) with
  accessFlags := 49
  interfaces := #[]
  cf := some (fileOf pool1 38 #[] #[{ accessFlags := 2, nameIndex := 5, descriptorIndex := 6, attributes := #[] }, { accessFlags := 9, nameIndex := 42, descriptorIndex := 43, attributes := #[] }] 49 2 #[] #[])
  fields := #[]
  methods := #[k1m0, k1m1]
  instanceTypes := #[]
  staticTypes := #[]
  resolved := Array.replicate 55 none
  statics := none }

def pool2 : Array CpInfo := pool [(1, .methodref 2 3), (0, .class_ 4), (0, .nameAndType 5 6), (0, u "java/lang/Object"), (0, u "<init>"), (0, u "()V"), (0, .fieldref 8 9), (0, .class_ 10), (0, .nameAndType 11 12), (0, u "com/example/bindery/bindery/Named"), (0, u "lexeme"), (0, u "Ljava/lang/String;"), (0, .fieldref 8 14), (0, .nameAndType 15 16), (0, u "line"), (0, u "I"), (13, u "global"), (0, u "Lcom/example/bindery/bindery/Globals$Variable;"), (2, u "depth"), (2, u "slot"), (0, u "(Ljava/lang/String;I)V")] 19

def k2c0 : Code := { maxStack := 2, maxLocals := 3, code := prog_25_method_1_code, exceptionTable := #[], attributes := #[] }
def k2m0 : Method := { name := "<init>", desc := "(Ljava/lang/String;I)V", sig := { parameters := [(.object "java/lang/String"), .int], returnType := none }, accessFlags := 0, code := some k2c0 }
/-- com/example/bindery/bindery/Named -/
def k2 : Class := { plain "com/example/bindery/bindery/Named" (some 0) with
  accessFlags := 1056
  interfaces := #[]
  cf := some (fileOf pool2 8 #[] #[{ accessFlags := 0, nameIndex := 5, descriptorIndex := 38, attributes := #[] }] 1056 2 #[] #[{ accessFlags := 18, nameIndex := 11, descriptorIndex := 12, attributes := #[] }, { accessFlags := 18, nameIndex := 15, descriptorIndex := 16, attributes := #[] }, { accessFlags := 2, nameIndex := 30, descriptorIndex := 31, attributes := #[] }, { accessFlags := 2, nameIndex := 34, descriptorIndex := 16, attributes := #[] }, { accessFlags := 2, nameIndex := 37, descriptorIndex := 16, attributes := #[] }])
  fields := #[{ name := "lexeme", type := (.object "java/lang/String"), accessFlags := 18, slot := 0, constantValue := 0 }, { name := "line", type := .int, accessFlags := 18, slot := 1, constantValue := 0 }, { name := "global", type := (.object "com/example/bindery/bindery/Globals$Variable"), accessFlags := 2, slot := 2, constantValue := 0 }, { name := "depth", type := .int, accessFlags := 2, slot := 3, constantValue := 0 }, { name := "slot", type := .int, accessFlags := 2, slot := 4, constantValue := 0 }]
  methods := #[k2m0]
  instanceTypes := #[(.object "java/lang/String"), .int, (.object "com/example/bindery/bindery/Globals$Variable"), .int, .int]
  staticTypes := #[]
  resolved := Array.replicate 58 none
  statics := none }

def pool3 : Array CpInfo := pool [(1, .class_ 2), (0, u "com/example/bindery/bindery/Expr"), (0, .class_ 4), (0, u "java/lang/Object"), (7, .class_ 13), (0, u "com/example/bindery/bindery/Expr$Call"), (0, .class_ 15), (0, u "com/example/bindery/bindery/Expr$Assign"), (0, .class_ 17), (0, u "com/example/bindery/bindery/Expr$Variable"), (0, .class_ 19), (0, u "com/example/bindery/bindery/Expr$Logical"), (0, .class_ 21), (0, u "com/example/bindery/bindery/Expr$Binary"), (0, .class_ 23), (0, u "com/example/bindery/bindery/Expr$Unary"), (0, .class_ 25), (0, u "com/example/bindery/bindery/Expr$Literal"), (0, .class_ 27), (0, u "com/example/bindery/bindery/Expr$Visitor")] 9

/-- com/example/bindery/bindery/Expr -/
def k3 : Class := { plain "com/example/bindery/bindery/Expr" (some 0) with
  accessFlags := 1536
  interfaces := #[]
  cf := some (fileOf pool3 1 #[.nestMembers #[12, 14, 16, 18, 20, 22, 24, 26]] #[] 1536 3 #[] #[])
  fields := #[]
  methods := #[]
  instanceTypes := #[]
  staticTypes := #[]
  resolved := Array.replicate 37 none
  statics := none }

def pool4 : Array CpInfo := pool [(1, .methodref 2 3), (0, .class_ 4), (0, .nameAndType 5 6), (0, u "com/example/bindery/bindery/Named"), (0, u "<init>"), (0, u "(Ljava/lang/String;I)V"), (6, .class_ 14), (0, u "com/example/bindery/bindery/Expr$Variable"), (0, .class_ 16), (0, u "com/example/bindery/bindery/Expr")] 12

def k4c0 : Code := { maxStack := 3, maxLocals := 3, code := prog_14_method_1_code, exceptionTable := #[], attributes := #[] }
def k4m0 : Method := { name := "<init>", desc := "(Ljava/lang/String;I)V", sig := { parameters := [(.object "java/lang/String"), .int], returnType := none }, accessFlags := 0, code := some k4c0 }
/-- com/example/bindery/bindery/Expr$Variable -/
def k4 : Class := { plain "com/example/bindery/bindery/Expr$Variable" (some 2) with
  accessFlags := 49
  interfaces := #[3]
  cf := some (fileOf pool4 13 #[.nestHost 15] #[{ accessFlags := 0, nameIndex := 5, descriptorIndex := 6, attributes := #[] }] 49 2 #[15] #[])
  fields := #[]
  methods := #[k4m0]
  instanceTypes := #[(.object "java/lang/String"), .int, (.object "com/example/bindery/bindery/Globals$Variable"), .int, .int]
  staticTypes := #[]
  resolved := Array.replicate 29 none
  statics := none }

def pool5 : Array CpInfo := pool [(1, .class_ 2), (0, u "java/io/Serializable"), (0, .class_ 4), (0, u "java/lang/Object")] 2

/-- java/io/Serializable -/
def k5 : Class := { plain "java/io/Serializable" (some 0) with
  accessFlags := 1537
  interfaces := #[]
  cf := some (fileOf pool5 1 #[] #[] 1537 3 #[] #[])
  fields := #[]
  methods := #[]
  instanceTypes := #[]
  staticTypes := #[]
  resolved := Array.replicate 7 none
  statics := none }

def pool6 : Array CpInfo := pool [(1, .class_ 2), (0, u "java/lang/Comparable"), (0, .class_ 4), (0, u "java/lang/Object")] 7

/-- java/lang/Comparable -/
def k6 : Class := { plain "java/lang/Comparable" (some 0) with
  accessFlags := 1537
  interfaces := #[]
  cf := some (fileOf pool6 1 #[] #[] 1537 3 #[] #[])
  fields := #[]
  methods := #[]
  instanceTypes := #[]
  staticTypes := #[]
  resolved := Array.replicate 12 none
  statics := none }

def pool7 : Array CpInfo := pool [(2, .class_ 4), (1, u "java/lang/CharSequence"), (42, .class_ 48), (0, u "java/lang/CharSequence$1CodePointIterator"), (10, .class_ 60), (0, u "java/lang/CharSequence$1CharIterator"), (5, .class_ 67), (0, u "java/lang/Object")] 63

/-- java/lang/CharSequence -/
def k7 : Class := { plain "java/lang/CharSequence" (some 0) with
  accessFlags := 1537
  interfaces := #[]
  cf := some (fileOf pool7 2 #[.nestMembers #[47, 59]] #[] 1537 66 #[] #[])
  fields := #[]
  methods := #[]
  instanceTypes := #[]
  staticTypes := #[]
  resolved := Array.replicate 131 none
  statics := none }

def pool8 : Array CpInfo := pool [(1, .class_ 2), (0, u "java/lang/constant/Constable"), (0, .class_ 4), (0, u "java/lang/Object")] 6

/-- java/lang/constant/Constable -/
def k8 : Class := { plain "java/lang/constant/Constable" (some 0) with
  accessFlags := 1537
  interfaces := #[]
  cf := some (fileOf pool8 1 #[] #[] 1537 3 #[] #[])
  fields := #[]
  methods := #[]
  instanceTypes := #[]
  staticTypes := #[]
  resolved := Array.replicate 11 none
  statics := none }

def pool9 : Array CpInfo := pool [(1, .class_ 2), (0, u "java/lang/constant/ConstantDesc"), (0, .class_ 4), (0, u "java/lang/Object")] 32

/-- java/lang/constant/ConstantDesc -/
def k9 : Class := { plain "java/lang/constant/ConstantDesc" (some 0) with
  accessFlags := 1537
  interfaces := #[]
  cf := some (fileOf pool9 1 #[] #[] 1537 3 #[] #[])
  fields := #[]
  methods := #[]
  instanceTypes := #[]
  staticTypes := #[]
  resolved := Array.replicate 37 none
  statics := none }

def pool10 : Array CpInfo := pool [(1, .methodref 2 3), (0, .class_ 4), (0, .nameAndType 5 6), (0, u "java/lang/Object"), (0, u "<init>"), (0, u "()V"), (2, .fieldref 10 11), (0, .class_ 12), (0, .nameAndType 13 14), (0, u "java/lang/String"), (0, u "value"), (0, u "[B"), (0, .fieldref 10 16), (0, .nameAndType 17 18), (0, u "coder"), (0, u "B"), (2, u "hash"), (0, u "I"), (2, u "hashIsZero"), (0, u "Z"), (0, .methodref 10 28), (0, .nameAndType 5 29), (0, u "([CIILjava/lang/Void;)V"), (8, .fieldref 10 39), (0, .nameAndType 40 26), (0, u "COMPACT_STRINGS"), (1, .class_ 44), (1, u "java/lang/StringUTF16"), (0, u "compress"), (1, .methodref 42 48), (0, .nameAndType 49 50), (0, u "coderFromArrayLen"), (0, u "([BI)B"), (126, .methodref 42 178), (0, .nameAndType 45 179), (0, u "([CII)[B"), (395, .class_ 576), (0, u "java/lang/CharSequence"), (22, u "CASE_INSENSITIVE_ORDER"), (0, u "Ljava/util/Comparator;"), (409, u "([C)V"), (90, u "serialPersistentFields"), (0, u "[Ljava/io/ObjectStreamField;"), (0, .class_ 1104), (0, u "java/lang/String$CaseInsensitiveComparator"), (1, .class_ 1107), (0, u "java/io/Serializable"), (0, .class_ 1109), (0, u "java/lang/Comparable"), (0, .class_ 1111), (0, u "java/lang/constant/Constable"), (0, .class_ 1113), (0, u "java/lang/constant/ConstantDesc"), (2, u "serialVersionUID"), (0, u "J"), (3, u "REPL"), (0, u "C"), (2, u "LATIN1"), (1, u "UTF16")] 323

def k10m0 : Method := { name := "<init>", desc := "()V", sig := { parameters := [], returnType := none }, accessFlags := 1, code := none }
def k10c1 : Code := { maxStack := 5, maxLocals := 2, code := jdk_42_method_3_code, exceptionTable := #[], attributes := #[] }
def k10m1 : Method := { name := "<init>", desc := "([C)V", sig := { parameters := [(.array .char)], returnType := none }, accessFlags := 1, code := some k10c1 }
def k10c2 : Code := { maxStack := 4, maxLocals := 6, code := jdk_42_method_149_code, exceptionTable := #[], attributes := #[] }
def k10m2 : Method := { name := "<init>", desc := "([CIILjava/lang/Void;)V", sig := { parameters := [(.array .char), .int, .int, (.object "java/lang/Void")], returnType := none }, accessFlags := 2, code := some k10c2 }
/-- java/lang/String -/
def k10 : Class := { plain "java/lang/String" (some 0) with
  accessFlags := 49
  interfaces := #[5, 6, 7, 8, 9]
  cf := some (fileOf pool10 10 #[.nestMembers #[1103]] #[{ accessFlags := 1, nameIndex := 5, descriptorIndex := 6, attributes := #[] }, { accessFlags := 1, nameIndex := 5, descriptorIndex := 1010, attributes := #[] }, { accessFlags := 2, nameIndex := 5, descriptorIndex := 29, attributes := #[] }] 49 2 #[1106, 1108, 575, 1110, 1112] #[{ accessFlags := 18, nameIndex := 13, descriptorIndex := 14, attributes := #[] }, { accessFlags := 18, nameIndex := 17, descriptorIndex := 18, attributes := #[] }, { accessFlags := 2, nameIndex := 21, descriptorIndex := 22, attributes := #[] }, { accessFlags := 2, nameIndex := 25, descriptorIndex := 26, attributes := #[] }, { accessFlags := 26, nameIndex := 1116, descriptorIndex := 1117, attributes := #[] }, { accessFlags := 24, nameIndex := 40, descriptorIndex := 26, attributes := #[] }, { accessFlags := 26, nameIndex := 1101, descriptorIndex := 1102, attributes := #[] }, { accessFlags := 26, nameIndex := 1121, descriptorIndex := 1122, attributes := #[] }, { accessFlags := 25, nameIndex := 599, descriptorIndex := 600, attributes := #[] }, { accessFlags := 24, nameIndex := 1125, descriptorIndex := 18, attributes := #[] }, { accessFlags := 24, nameIndex := 1127, descriptorIndex := 18, attributes := #[] }])
  fields := #[{ name := "value", type := (.array .byte), accessFlags := 18, slot := 0, constantValue := 0 }, { name := "coder", type := .byte, accessFlags := 18, slot := 1, constantValue := 0 }, { name := "hash", type := .int, accessFlags := 2, slot := 2, constantValue := 0 }, { name := "hashIsZero", type := .boolean, accessFlags := 2, slot := 3, constantValue := 0 }, { name := "serialVersionUID", type := .long, accessFlags := 26, slot := 0, constantValue := 0 }, { name := "COMPACT_STRINGS", type := .boolean, accessFlags := 24, slot := 1, constantValue := 0 }, { name := "serialPersistentFields", type := (.array (.object "java/io/ObjectStreamField")), accessFlags := 26, slot := 2, constantValue := 0 }, { name := "REPL", type := .char, accessFlags := 26, slot := 3, constantValue := 0 }, { name := "CASE_INSENSITIVE_ORDER", type := (.object "java/util/Comparator"), accessFlags := 25, slot := 4, constantValue := 0 }, { name := "LATIN1", type := .byte, accessFlags := 24, slot := 5, constantValue := 0 }, { name := "UTF16", type := .byte, accessFlags := 24, slot := 6, constantValue := 0 }]
  methods := #[k10m0, k10m1, k10m2]
  instanceTypes := #[(.array .byte), .byte, .int, .boolean]
  staticTypes := #[.long, .boolean, (.array (.object "java/io/ObjectStreamField")), .char, (.object "java/util/Comparator"), .byte, .byte]
  resolved := Array.replicate 1451 none
  statics := some 0 }

def pool11 : Array CpInfo := pool [(6, .class_ 8), (1, u "java/lang/Object"), (0, u "<init>"), (0, u "()V"), (1, .class_ 14), (1, u "java/lang/StringUTF16"), (31, u "$assertionsDisabled"), (0, u "Z"), (13, u "HI_BYTE_SHIFT"), (0, u "I"), (2, u "LO_BYTE_SHIFT"), (49, .methodref 12 116), (0, .nameAndType 117 118), (0, u "compress"), (0, u "([CI[BII)I"), (3, u "([CII)[B"), (138, u "coderFromArrayLen"), (0, u "([BI)B"), (106, .class_ 371), (1, u "java/lang/StringUTF16$LinesSpliterator"), (58, u "MAX_LENGTH"), (196, .class_ 628), (0, u "java/lang/StringUTF16$CodePointsSpliterator"), (0, .class_ 630), (0, u "java/lang/StringUTF16$CharsSpliterator")] 4

def k11m0 : Method := { name := "<init>", desc := "()V", sig := { parameters := [], returnType := none }, accessFlags := 0, code := none }
def k11c1 : Code := { maxStack := 2, maxLocals := 2, code := jdk_52_method_15_code, exceptionTable := #[], attributes := #[] }
def k11m1 : Method := { name := "coderFromArrayLen", desc := "([BI)B", sig := { parameters := [(.array .byte), .int], returnType := some .byte }, accessFlags := 8, code := some k11c1 }
def k11c2 : Code := { maxStack := 5, maxLocals := 6, code := jdk_52_method_16_code, exceptionTable := #[], attributes := #[] }
def k11m2 : Method := { name := "compress", desc := "([CII)[B", sig := { parameters := [(.array .char), .int, .int], returnType := some (.array .byte) }, accessFlags := 9, code := some k11c2 }
def k11c3 : Code := { maxStack := 3, maxLocals := 7, code := jdk_52_method_21_code, exceptionTable := #[], attributes := #[] }
def k11m3 : Method := { name := "compress", desc := "([CI[BII)I", sig := { parameters := [(.array .char), .int, (.array .byte), .int, .int], returnType := some .int }, accessFlags := 9, code := some k11c3 }
/-- java/lang/StringUTF16 -/
def k11 : Class := { plain "java/lang/StringUTF16" (some 0) with
  accessFlags := 48
  interfaces := #[]
  cf := some (fileOf pool11 12 #[.nestMembers #[627, 629, 369]] #[{ accessFlags := 0, nameIndex := 9, descriptorIndex := 10, attributes := #[] }, { accessFlags := 8, nameIndex := 261, descriptorIndex := 262, attributes := #[] }, { accessFlags := 9, nameIndex := 117, descriptorIndex := 122, attributes := #[] }, { accessFlags := 9, nameIndex := 117, descriptorIndex := 118, attributes := #[] }] 48 6 #[] #[{ accessFlags := 26, nameIndex := 61, descriptorIndex := 62, attributes := #[] }, { accessFlags := 26, nameIndex := 65, descriptorIndex := 62, attributes := #[] }, { accessFlags := 24, nameIndex := 430, descriptorIndex := 62, attributes := #[] }, { accessFlags := 4120, nameIndex := 46, descriptorIndex := 47, attributes := #[] }])
  fields := #[{ name := "HI_BYTE_SHIFT", type := .int, accessFlags := 26, slot := 0, constantValue := 0 }, { name := "LO_BYTE_SHIFT", type := .int, accessFlags := 26, slot := 1, constantValue := 0 }, { name := "MAX_LENGTH", type := .int, accessFlags := 24, slot := 2, constantValue := 0 }, { name := "$assertionsDisabled", type := .boolean, accessFlags := 4120, slot := 3, constantValue := 0 }]
  methods := #[k11m0, k11m1, k11m2, k11m3]
  instanceTypes := #[]
  staticTypes := #[.int, .int, .int, .boolean]
  resolved := Array.replicate 635 none
  statics := none }

def pool12 : Array CpInfo := pool [(1, .methodref 2 3), (0, .class_ 4), (0, .nameAndType 5 6), (0, u "java/lang/Object"), (0, u "<init>"), (0, u "()V"), (0, .fieldref 8 9), (0, .class_ 10), (0, .nameAndType 11 12), (0, u "com/example/bindery/bindery/Globals$Variable"), (0, u "UNDEFINED"), (0, u "Ljava/lang/Object;"), (0, .fieldref 8 14), (0, .nameAndType 15 12), (0, u "value"), (25, u "get"), (0, u "(Lcom/example/bindery/bindery/Named;)Ljava/lang/Object;"), (1, u "assign"), (0, u "(Lcom/example/bindery/bindery/Named;Ljava/lang/Object;)V"), (0, u "define"), (0, u "(Ljava/lang/Object;)V"), (4, .class_ 53), (0, u "com/example/bindery/bindery/Globals")] 16

def k12c0 : Code := { maxStack := 2, maxLocals := 1, code := prog_17_method_1_code, exceptionTable := #[], attributes := #[] }
def k12m0 : Method := { name := "<init>", desc := "()V", sig := { parameters := [], returnType := none }, accessFlags := 0, code := some k12c0 }
def k12c1 : Code := { maxStack := 2, maxLocals := 2, code := prog_17_method_2_code, exceptionTable := #[], attributes := #[] }
def k12m1 : Method := { name := "get", desc := "(Lcom/example/bindery/bindery/Named;)Ljava/lang/Object;", sig := { parameters := [(.object "com/example/bindery/bindery/Named")], returnType := some (.object "java/lang/Object") }, accessFlags := 0, code := some k12c1 }
def k12c2 : Code := { maxStack := 2, maxLocals := 3, code := prog_17_method_3_code, exceptionTable := #[], attributes := #[] }
def k12m2 : Method := { name := "assign", desc := "(Lcom/example/bindery/bindery/Named;Ljava/lang/Object;)V", sig := { parameters := [(.object "com/example/bindery/bindery/Named"), (.object "java/lang/Object")], returnType := none }, accessFlags := 0, code := some k12c2 }
def k12c3 : Code := { maxStack := 2, maxLocals := 2, code := prog_17_method_4_code, exceptionTable := #[], attributes := #[] }
def k12m3 : Method := { name := "define", desc := "(Ljava/lang/Object;)V", sig := { parameters := [(.object "java/lang/Object")], returnType := none }, accessFlags := 0, code := some k12c3 }
/-- com/example/bindery/bindery/Globals$Variable -/
def k12 : Class := { plain "com/example/bindery/bindery/Globals$Variable" (some 0) with
  accessFlags := 48
  interfaces := #[]
  cf := some (fileOf pool12 8 #[.nestHost 52] #[{ accessFlags := 0, nameIndex := 5, descriptorIndex := 6, attributes := #[] }, { accessFlags := 0, nameIndex := 41, descriptorIndex := 42, attributes := #[] }, { accessFlags := 0, nameIndex := 44, descriptorIndex := 45, attributes := #[] }, { accessFlags := 0, nameIndex := 46, descriptorIndex := 47, attributes := #[] }] 48 2 #[] #[{ accessFlags := 26, nameIndex := 11, descriptorIndex := 12, attributes := #[] }, { accessFlags := 2, nameIndex := 15, descriptorIndex := 12, attributes := #[] }])
  fields := #[{ name := "UNDEFINED", type := (.object "java/lang/Object"), accessFlags := 26, slot := 0, constantValue := 0 }, { name := "value", type := (.object "java/lang/Object"), accessFlags := 2, slot := 0, constantValue := 0 }]
  methods := #[k12m0, k12m1, k12m2, k12m3]
  instanceTypes := #[(.object "java/lang/Object")]
  staticTypes := #[(.object "java/lang/Object")]
  resolved := Array.replicate 70 none
  statics := some 1 }

def pool13 : Array CpInfo := pool [(1, .methodref 2 3), (0, .class_ 4), (0, .nameAndType 5 6), (0, u "java/lang/Object"), (0, u "<init>"), (0, u "()V"), (1, .class_ 10), (1, u "java/lang/Number"), (2, .class_ 14), (0, u "java/io/Serializable"), (0, u "serialVersionUID"), (0, u "J")] 20

def k13c0 : Code := { maxStack := 1, maxLocals := 1, code := jdk_18_method_1_code, exceptionTable := #[], attributes := #[] }
def k13m0 : Method := { name := "<init>", desc := "()V", sig := { parameters := [], returnType := none }, accessFlags := 1, code := some k13c0 }
/-- java/lang/Number -/
def k13 : Class := { plain "java/lang/Number" (some 0) with
  accessFlags := 1057
  interfaces := #[5]
  cf := some (fileOf pool13 8 #[] #[{ accessFlags := 1, nameIndex := 5, descriptorIndex := 6, attributes := #[] }] 1057 2 #[13] #[{ accessFlags := 26, nameIndex := 15, descriptorIndex := 16, attributes := #[] }])
  fields := #[{ name := "serialVersionUID", type := .long, accessFlags := 26, slot := 0, constantValue := 0 }]
  methods := #[k13m0]
  instanceTypes := #[]
  staticTypes := #[.long]
  resolved := Array.replicate 37 none
  statics := none }

def pool14 : Array CpInfo := pool [(1, .class_ 2), (0, u "java/lang/Integer"), (16, u "digits"), (0, u "[C"), (46, u "<init>"), (17, u "DigitOnes"), (0, u "[B"), (2, u "DigitTens"), (10, .nameAndType 67 101), (0, u "()V"), (85, u "valueOf"), (0, u "(I)Ljava/lang/Integer;"), (0, .class_ 190), (0, u "java/lang/Integer$IntegerCache"), (0, .fieldref 189 192), (0, .nameAndType 193 194), (0, u "high"), (0, u "I"), (0, .fieldref 189 196), (0, .nameAndType 197 198), (0, u "cache"), (0, u "[Ljava/lang/Integer;"), (0, .methodref 1 200), (0, .nameAndType 67 201), (0, u "(I)V"), (0, .methodref 203 100), (0, .class_ 204), (0, u "java/lang/Number"), (0, .fieldref 1 206), (0, .nameAndType 207 194), (0, u "value"), (94, u "TYPE"), (0, u "Ljava/lang/Class;"), (0, .class_ 305), (0, u "java/lang/Comparable"), (0, .class_ 307), (0, u "java/lang/constant/Constable"), (0, .class_ 309), (0, u "java/lang/constant/ConstantDesc"), (0, u "MIN_VALUE"), (1, u "MAX_VALUE"), (3, u "SIZE"), (1, u "BYTES"), (1, u "serialVersionUID"), (0, u "J")] 131

def k14c0 : Code := { maxStack := 3, maxLocals := 1, code := jdk_33_method_22_code, exceptionTable := #[], attributes := #[] }
def k14m0 : Method := { name := "valueOf", desc := "(I)Ljava/lang/Integer;", sig := { parameters := [.int], returnType := some (.object "java/lang/Integer") }, accessFlags := 9, code := some k14c0 }
def k14c1 : Code := { maxStack := 2, maxLocals := 2, code := jdk_33_method_23_code, exceptionTable := #[], attributes := #[] }
def k14m1 : Method := { name := "<init>", desc := "(I)V", sig := { parameters := [.int], returnType := none }, accessFlags := 1, code := some k14c1 }
/-- java/lang/Integer -/
def k14 : Class := { plain "java/lang/Integer" (some 13) with
  accessFlags := 49
  interfaces := #[6, 8, 9]
  cf := some (fileOf pool14 1 #[.nestMembers #[189]] #[{ accessFlags := 9, nameIndex := 187, descriptorIndex := 188, attributes := #[] }, { accessFlags := 1, nameIndex := 67, descriptorIndex := 201, attributes := #[] }] 49 203 #[304, 306, 308] #[{ accessFlags := 25, nameIndex := 310, descriptorIndex := 194, attributes := #[] }, { accessFlags := 25, nameIndex := 312, descriptorIndex := 194, attributes := #[] }, { accessFlags := 25, nameIndex := 302, descriptorIndex := 303, attributes := #[] }, { accessFlags := 24, nameIndex := 19, descriptorIndex := 20, attributes := #[] }, { accessFlags := 24, nameIndex := 89, descriptorIndex := 86, attributes := #[] }, { accessFlags := 24, nameIndex := 85, descriptorIndex := 86, attributes := #[] }, { accessFlags := 18, nameIndex := 207, descriptorIndex := 194, attributes := #[] }, { accessFlags := 25, nameIndex := 316, descriptorIndex := 194, attributes := #[] }, { accessFlags := 25, nameIndex := 318, descriptorIndex := 194, attributes := #[] }, { accessFlags := 26, nameIndex := 320, descriptorIndex := 321, attributes := #[] }])
  fields := #[{ name := "MIN_VALUE", type := .int, accessFlags := 25, slot := 0, constantValue := 0 }, { name := "MAX_VALUE", type := .int, accessFlags := 25, slot := 1, constantValue := 0 }, { name := "TYPE", type := (.object "java/lang/Class"), accessFlags := 25, slot := 2, constantValue := 0 }, { name := "digits", type := (.array .char), accessFlags := 24, slot := 3, constantValue := 0 }, { name := "DigitTens", type := (.array .byte), accessFlags := 24, slot := 4, constantValue := 0 }, { name := "DigitOnes", type := (.array .byte), accessFlags := 24, slot := 5, constantValue := 0 }, { name := "value", type := .int, accessFlags := 18, slot := 0, constantValue := 0 }, { name := "SIZE", type := .int, accessFlags := 25, slot := 6, constantValue := 0 }, { name := "BYTES", type := .int, accessFlags := 25, slot := 7, constantValue := 0 }, { name := "serialVersionUID", type := .long, accessFlags := 26, slot := 8, constantValue := 0 }]
  methods := #[k14m0, k14m1]
  instanceTypes := #[.int]
  staticTypes := #[.int, .int, (.object "java/lang/Class"), (.array .char), (.array .byte), (.array .byte), .int, .int, .long]
  resolved := Array.replicate 453 none
  statics := none }

def pool15 : Array CpInfo := pool [(2, .class_ 4), (1, u "java/lang/Object"), (0, u "<init>"), (0, u "()V"), (0, .class_ 8), (0, u "java/lang/Integer"), (7, .class_ 18), (1, u "java/lang/Integer$IntegerCache"), (0, u "$assertionsDisabled"), (0, u "Z"), (26, u "high"), (0, u "I"), (8, u "archivedCache"), (0, u "[Ljava/lang/Integer;"), (12, u "cache"), (0, u "low")] 27

def k15m0 : Method := { name := "<init>", desc := "()V", sig := { parameters := [], returnType := none }, accessFlags := 2, code := none }
/-- java/lang/Integer$IntegerCache -/
def k15 : Class := { plain "java/lang/Integer$IntegerCache" (some 0) with
  accessFlags := 48
  interfaces := #[]
  cf := some (fileOf pool15 16 #[.nestHost 7] #[{ accessFlags := 2, nameIndex := 5, descriptorIndex := 6, attributes := #[] }] 48 2 #[] #[{ accessFlags := 24, nameIndex := 72, descriptorIndex := 48, attributes := #[] }, { accessFlags := 24, nameIndex := 47, descriptorIndex := 48, attributes := #[] }, { accessFlags := 24, nameIndex := 71, descriptorIndex := 58, attributes := #[] }, { accessFlags := 8, nameIndex := 57, descriptorIndex := 58, attributes := #[] }, { accessFlags := 4120, nameIndex := 19, descriptorIndex := 20, attributes := #[] }])
  fields := #[{ name := "low", type := .int, accessFlags := 24, slot := 0, constantValue := 0 }, { name := "high", type := .int, accessFlags := 24, slot := 1, constantValue := 0 }, { name := "cache", type := (.array (.object "java/lang/Integer")), accessFlags := 24, slot := 2, constantValue := 0 }, { name := "archivedCache", type := (.array (.object "java/lang/Integer")), accessFlags := 8, slot := 3, constantValue := 0 }, { name := "$assertionsDisabled", type := .boolean, accessFlags := 4120, slot := 4, constantValue := 0 }]
  methods := #[k15m0]
  instanceTypes := #[]
  staticTypes := #[.int, .int, (.array (.object "java/lang/Integer")), (.array (.object "java/lang/Integer")), .boolean]
  resolved := Array.replicate 100 none
  statics := some 2 }

def pool16 : Array CpInfo := pool [(4, .class_ 6), (1, u "java/lang/Object"), (0, u "<init>"), (0, u "()V"), (5, .class_ 16), (1, u "java/lang/StringLatin1"), (104, u "$assertionsDisabled"), (0, u "Z"), (98, .class_ 223), (1, u "java/lang/StringLatin1$LinesSpliterator"), (166, .class_ 391), (0, u "java/lang/StringLatin1$CharsSpliterator")] 3

def k16m0 : Method := { name := "<init>", desc := "()V", sig := { parameters := [], returnType := none }, accessFlags := 0, code := none }
/-- java/lang/StringLatin1 -/
def k16 : Class := { plain "java/lang/StringLatin1" (some 0) with
  accessFlags := 48
  interfaces := #[]
  cf := some (fileOf pool16 14 #[.nestMembers #[390, 221]] #[{ accessFlags := 0, nameIndex := 7, descriptorIndex := 8, attributes := #[] }] 48 4 #[] #[{ accessFlags := 4120, nameIndex := 121, descriptorIndex := 122, attributes := #[] }])
  fields := #[{ name := "$assertionsDisabled", type := .boolean, accessFlags := 4120, slot := 0, constantValue := 0 }]
  methods := #[k16m0]
  instanceTypes := #[]
  staticTypes := #[.boolean]
  resolved := Array.replicate 395 none
  statics := none }

def pool17 : Array CpInfo := pool [(2, .class_ 4), (1, u "java/lang/Object"), (0, u "<init>"), (0, u "()V"), (17, .class_ 26), (1, u "jdk/internal/util/Preconditions"), (28, .class_ 56), (0, u "jdk/internal/util/Preconditions$4"), (57, .class_ 115), (0, u "jdk/internal/util/Preconditions$1"), (7, u "SIOOBE_FORMATTER"), (0, u "Ljava/util/function/BiFunction;"), (0, .class_ 126), (0, u "jdk/internal/util/Preconditions$2"), (3, u "AIOOBE_FORMATTER"), (0, .class_ 132), (0, u "jdk/internal/util/Preconditions$3"), (3, u "IOOBE_FORMATTER")] 57

def k17m0 : Method := { name := "<init>", desc := "()V", sig := { parameters := [], returnType := none }, accessFlags := 1, code := none }
/-- jdk/internal/util/Preconditions -/
def k17 : Class := { plain "jdk/internal/util/Preconditions" (some 0) with
  accessFlags := 33
  interfaces := #[]
  cf := some (fileOf pool17 24 #[.nestMembers #[55, 131, 125, 114]] #[{ accessFlags := 1, nameIndex := 5, descriptorIndex := 6, attributes := #[] }] 33 2 #[] #[{ accessFlags := 25, nameIndex := 123, descriptorIndex := 124, attributes := #[] }, { accessFlags := 25, nameIndex := 130, descriptorIndex := 124, attributes := #[] }, { accessFlags := 25, nameIndex := 136, descriptorIndex := 124, attributes := #[] }])
  fields := #[{ name := "SIOOBE_FORMATTER", type := (.object "java/util/function/BiFunction"), accessFlags := 25, slot := 0, constantValue := 0 }, { name := "AIOOBE_FORMATTER", type := (.object "java/util/function/BiFunction"), accessFlags := 25, slot := 1, constantValue := 0 }, { name := "IOOBE_FORMATTER", type := (.object "java/util/function/BiFunction"), accessFlags := 25, slot := 2, constantValue := 0 }]
  methods := #[k17m0]
  instanceTypes := #[]
  staticTypes := #[(.object "java/util/function/BiFunction"), (.object "java/util/function/BiFunction"), (.object "java/util/function/BiFunction")]
  resolved := Array.replicate 194 none
  statics := some 3 }

def pool18 : Array CpInfo := pool [(9, u "<init>"), (6, .class_ 18), (1, u "java/lang/Object"), (0, u "()V"), (1, .class_ 23), (1, u "jdk/internal/util/ArraysSupport"), (0, u "LOG2_ARRAY_LONG_INDEX_SCALE"), (0, u "I"), (2, u "U"), (0, u "Ljdk/internal/misc/Unsafe;"), (8, u "BIG_ENDIAN"), (0, u "Z"), (8, u "LOG2_BYTE_BIT_SIZE"), (4, u "LOG2_ARRAY_INT_INDEX_SCALE"), (54, u "JLA"), (0, u "Ljdk/internal/access/JavaLangAccess;"), (11, u "LOG2_ARRAY_BOOLEAN_INDEX_SCALE"), (9, u "LOG2_ARRAY_BYTE_INDEX_SCALE"), (5, u "LOG2_ARRAY_CHAR_INDEX_SCALE"), (5, u "LOG2_ARRAY_SHORT_INDEX_SCALE"), (18, u "LOG2_ARRAY_FLOAT_INDEX_SCALE"), (24, u "LOG2_ARRAY_DOUBLE_INDEX_SCALE"), (89, u "T_BOOLEAN"), (2, u "T_CHAR"), (1, u "T_FLOAT"), (1, u "T_DOUBLE"), (1, u "T_BYTE"), (1, u "T_SHORT"), (1, u "T_INT"), (1, u "T_LONG"), (1, u "SOFT_MAX_ARRAY_LENGTH")] 83

def k18m0 : Method := { name := "<init>", desc := "()V", sig := { parameters := [], returnType := none }, accessFlags := 2, code := none }
/-- jdk/internal/util/ArraysSupport -/
def k18 : Class := { plain "jdk/internal/util/ArraysSupport" (some 0) with
  accessFlags := 33
  interfaces := #[]
  cf := some (fileOf pool18 21 #[] #[{ accessFlags := 2, nameIndex := 9, descriptorIndex := 19, attributes := #[] }] 33 16 #[] #[{ accessFlags := 24, nameIndex := 28, descriptorIndex := 29, attributes := #[] }, { accessFlags := 26, nameIndex := 38, descriptorIndex := 39, attributes := #[] }, { accessFlags := 25, nameIndex := 121, descriptorIndex := 25, attributes := #[] }, { accessFlags := 25, nameIndex := 131, descriptorIndex := 25, attributes := #[] }, { accessFlags := 25, nameIndex := 137, descriptorIndex := 25, attributes := #[] }, { accessFlags := 25, nameIndex := 143, descriptorIndex := 25, attributes := #[] }, { accessFlags := 25, nameIndex := 53, descriptorIndex := 25, attributes := #[] }, { accessFlags := 25, nameIndex := 24, descriptorIndex := 25, attributes := #[] }, { accessFlags := 25, nameIndex := 162, descriptorIndex := 25, attributes := #[] }, { accessFlags := 25, nameIndex := 187, descriptorIndex := 25, attributes := #[] }, { accessFlags := 26, nameIndex := 48, descriptorIndex := 25, attributes := #[] }, { accessFlags := 25, nameIndex := 277, descriptorIndex := 25, attributes := #[] }, { accessFlags := 25, nameIndex := 280, descriptorIndex := 25, attributes := #[] }, { accessFlags := 25, nameIndex := 282, descriptorIndex := 25, attributes := #[] }, { accessFlags := 25, nameIndex := 284, descriptorIndex := 25, attributes := #[] }, { accessFlags := 25, nameIndex := 286, descriptorIndex := 25, attributes := #[] }, { accessFlags := 25, nameIndex := 288, descriptorIndex := 25, attributes := #[] }, { accessFlags := 25, nameIndex := 290, descriptorIndex := 25, attributes := #[] }, { accessFlags := 25, nameIndex := 292, descriptorIndex := 25, attributes := #[] }, { accessFlags := 26, nameIndex := 108, descriptorIndex := 109, attributes := #[] }, { accessFlags := 25, nameIndex := 294, descriptorIndex := 25, attributes := #[] }])
  fields := #[{ name := "U", type := (.object "jdk/internal/misc/Unsafe"), accessFlags := 24, slot := 0, constantValue := 0 }, { name := "BIG_ENDIAN", type := .boolean, accessFlags := 26, slot := 1, constantValue := 0 }, { name := "LOG2_ARRAY_BOOLEAN_INDEX_SCALE", type := .int, accessFlags := 25, slot := 2, constantValue := 0 }, { name := "LOG2_ARRAY_BYTE_INDEX_SCALE", type := .int, accessFlags := 25, slot := 3, constantValue := 0 }, { name := "LOG2_ARRAY_CHAR_INDEX_SCALE", type := .int, accessFlags := 25, slot := 4, constantValue := 0 }, { name := "LOG2_ARRAY_SHORT_INDEX_SCALE", type := .int, accessFlags := 25, slot := 5, constantValue := 0 }, { name := "LOG2_ARRAY_INT_INDEX_SCALE", type := .int, accessFlags := 25, slot := 6, constantValue := 0 }, { name := "LOG2_ARRAY_LONG_INDEX_SCALE", type := .int, accessFlags := 25, slot := 7, constantValue := 0 }, { name := "LOG2_ARRAY_FLOAT_INDEX_SCALE", type := .int, accessFlags := 25, slot := 8, constantValue := 0 }, { name := "LOG2_ARRAY_DOUBLE_INDEX_SCALE", type := .int, accessFlags := 25, slot := 9, constantValue := 0 }, { name := "LOG2_BYTE_BIT_SIZE", type := .int, accessFlags := 26, slot := 10, constantValue := 0 }, { name := "T_BOOLEAN", type := .int, accessFlags := 25, slot := 11, constantValue := 0 }, { name := "T_CHAR", type := .int, accessFlags := 25, slot := 12, constantValue := 0 }, { name := "T_FLOAT", type := .int, accessFlags := 25, slot := 13, constantValue := 0 }, { name := "T_DOUBLE", type := .int, accessFlags := 25, slot := 14, constantValue := 0 }, { name := "T_BYTE", type := .int, accessFlags := 25, slot := 15, constantValue := 0 }, { name := "T_SHORT", type := .int, accessFlags := 25, slot := 16, constantValue := 0 }, { name := "T_INT", type := .int, accessFlags := 25, slot := 17, constantValue := 0 }, { name := "T_LONG", type := .int, accessFlags := 25, slot := 18, constantValue := 0 }, { name := "JLA", type := (.object "jdk/internal/access/JavaLangAccess"), accessFlags := 26, slot := 19, constantValue := 0 }, { name := "SOFT_MAX_ARRAY_LENGTH", type := .int, accessFlags := 25, slot := 20, constantValue := 0 }]
  methods := #[k18m0]
  instanceTypes := #[]
  staticTypes := #[(.object "jdk/internal/misc/Unsafe"), .boolean, .int, .int, .int, .int, .int, .int, .int, .int, .int, .int, .int, .int, .int, .int, .int, .int, .int, (.object "jdk/internal/access/JavaLangAccess"), .int]
  resolved := Array.replicate 378 none
  statics := none }

def pool19 : Array CpInfo := pool [(1, u "java/lang/Cloneable"), (0, .class_ 1), (0, u "java/lang/Object"), (0, .class_ 3)] 3

/-- java/lang/Cloneable -/
def k19 : Class := { plain "java/lang/Cloneable" (some 0) with
  accessFlags := 1537
  interfaces := #[]
  cf := some (fileOf pool19 2 #[] #[] 1537 4 #[] #[])
  fields := #[]
  methods := #[]
  instanceTypes := #[]
  staticTypes := #[]
  resolved := Array.replicate 8 none
  statics := none }

/-- the primitive byte -/
def k20 : Class := { plain "byte" none with kind := .primitive 'B', accessFlags := 0x411 }
/-- [B -/
def k21 : Class := { plain "[B" (some 0) with kind := .array 20 .byte, interfaces := #[19, 5], accessFlags := 1041 }

/-- the primitive char -/
def k22 : Class := { plain "char" none with kind := .primitive 'C', accessFlags := 0x411 }
/-- [C -/
def k23 : Class := { plain "[C" (some 0) with kind := .array 22 .char, interfaces := #[19, 5], accessFlags := 1041 }

/-- the primitive int -/
def k24 : Class := { plain "int" none with kind := .primitive 'I', accessFlags := 0x411 }
/-- [I -/
def k25 : Class := { plain "[I" (some 0) with kind := .array 24 .int, interfaces := #[19, 5], accessFlags := 1041 }

/-- [Ljava/lang/Integer; -/
def k26 : Class := { plain "[Ljava/lang/Integer;" (some 0) with kind := .array 14 (.object "java/lang/Integer"), interfaces := #[19, 5], accessFlags := 1041 }

def heap : Heap := #[{ cls := 10, slots := #[.long 0, .int 1, .null, .int 0, .null, .int 0, .int 0], vm := .statics 10 },
  { cls := 12, slots := #[.ref 261], vm := .statics 12 },
  { cls := 15, slots := #[.int 0, .int 127, .ref 4, .null, .int 0], vm := .statics 15 },
  { cls := 17, slots := #[.null, .null, .null], vm := .statics 17 },
  { cls := 26, slots := #[.ref 5, .ref 6, .ref 7, .ref 8, .ref 9, .ref 10, .ref 11, .ref 12, .ref 13, .ref 14, .ref 15, .ref 16, .ref 17, .ref 18, .ref 19, .ref 20, .ref 21, .ref 22, .ref 23, .ref 24, .ref 25, .ref 26, .ref 27, .ref 28, .ref 29, .ref 30, .ref 31, .ref 32, .ref 33, .ref 34, .ref 35, .ref 36, .ref 37, .ref 38, .ref 39, .ref 40, .ref 41, .ref 42, .ref 43, .ref 44, .ref 45, .ref 46, .ref 47, .ref 48, .ref 49, .ref 50, .ref 51, .ref 52, .ref 53, .ref 54, .ref 55, .ref 56, .ref 57, .ref 58, .ref 59, .ref 60, .ref 61, .ref 62, .ref 63, .ref 64, .ref 65, .ref 66, .ref 67, .ref 68, .ref 69, .ref 70, .ref 71, .ref 72, .ref 73, .ref 74, .ref 75, .ref 76, .ref 77, .ref 78, .ref 79, .ref 80, .ref 81, .ref 82, .ref 83, .ref 84, .ref 85, .ref 86, .ref 87, .ref 88, .ref 89, .ref 90, .ref 91, .ref 92, .ref 93, .ref 94, .ref 95, .ref 96, .ref 97, .ref 98, .ref 99, .ref 100, .ref 101, .ref 102, .ref 103, .ref 104, .ref 105, .ref 106, .ref 107, .ref 108, .ref 109, .ref 110, .ref 111, .ref 112, .ref 113, .ref 114, .ref 115, .ref 116, .ref 117, .ref 118, .ref 119, .ref 120, .ref 121, .ref 122, .ref 123, .ref 124, .ref 125, .ref 126, .ref 127, .ref 128, .ref 129, .ref 130, .ref 131, .ref 132, .ref 133, .ref 134, .ref 135, .ref 136, .ref 137, .ref 138, .ref 139, .ref 140, .ref 141, .ref 142, .ref 143, .ref 144, .ref 145, .ref 146, .ref 147, .ref 148, .ref 149, .ref 150, .ref 151, .ref 152, .ref 153, .ref 154, .ref 155, .ref 156, .ref 157, .ref 158, .ref 159, .ref 160, .ref 161, .ref 162, .ref 163, .ref 164, .ref 165, .ref 166, .ref 167, .ref 168, .ref 169, .ref 170, .ref 171, .ref 172, .ref 173, .ref 174, .ref 175, .ref 176, .ref 177, .ref 178, .ref 179, .ref 180, .ref 181, .ref 182, .ref 183, .ref 184, .ref 185, .ref 186, .ref 187, .ref 188, .ref 189, .ref 190, .ref 191, .ref 192, .ref 193, .ref 194, .ref 195, .ref 196, .ref 197, .ref 198, .ref 199, .ref 200, .ref 201, .ref 202, .ref 203, .ref 204, .ref 205, .ref 206, .ref 207, .ref 208, .ref 209, .ref 210, .ref 211, .ref 212, .ref 213, .ref 214, .ref 215, .ref 216, .ref 217, .ref 218, .ref 219, .ref 220, .ref 221, .ref 222, .ref 223, .ref 224, .ref 225, .ref 226, .ref 227, .ref 228, .ref 229, .ref 230, .ref 231, .ref 232, .ref 233, .ref 234, .ref 235, .ref 236, .ref 237, .ref 238, .ref 239, .ref 240, .ref 241, .ref 242, .ref 243, .ref 244, .ref 245, .ref 246, .ref 247, .ref 248, .ref 249, .ref 250, .ref 251, .ref 252, .ref 253, .ref 254, .ref 255, .ref 256, .ref 257, .ref 258, .ref 259, .ref 260], vm := .none },
  { cls := 14, slots := #[.int (-128)], vm := .none },
  { cls := 14, slots := #[.int (-127)], vm := .none },
  { cls := 14, slots := #[.int (-126)], vm := .none },
  { cls := 14, slots := #[.int (-125)], vm := .none },
  { cls := 14, slots := #[.int (-124)], vm := .none },
  { cls := 14, slots := #[.int (-123)], vm := .none },
  { cls := 14, slots := #[.int (-122)], vm := .none },
  { cls := 14, slots := #[.int (-121)], vm := .none },
  { cls := 14, slots := #[.int (-120)], vm := .none },
  { cls := 14, slots := #[.int (-119)], vm := .none },
  { cls := 14, slots := #[.int (-118)], vm := .none },
  { cls := 14, slots := #[.int (-117)], vm := .none },
  { cls := 14, slots := #[.int (-116)], vm := .none },
  { cls := 14, slots := #[.int (-115)], vm := .none },
  { cls := 14, slots := #[.int (-114)], vm := .none },
  { cls := 14, slots := #[.int (-113)], vm := .none },
  { cls := 14, slots := #[.int (-112)], vm := .none },
  { cls := 14, slots := #[.int (-111)], vm := .none },
  { cls := 14, slots := #[.int (-110)], vm := .none },
  { cls := 14, slots := #[.int (-109)], vm := .none },
  { cls := 14, slots := #[.int (-108)], vm := .none },
  { cls := 14, slots := #[.int (-107)], vm := .none },
  { cls := 14, slots := #[.int (-106)], vm := .none },
  { cls := 14, slots := #[.int (-105)], vm := .none },
  { cls := 14, slots := #[.int (-104)], vm := .none },
  { cls := 14, slots := #[.int (-103)], vm := .none },
  { cls := 14, slots := #[.int (-102)], vm := .none },
  { cls := 14, slots := #[.int (-101)], vm := .none },
  { cls := 14, slots := #[.int (-100)], vm := .none },
  { cls := 14, slots := #[.int (-99)], vm := .none },
  { cls := 14, slots := #[.int (-98)], vm := .none },
  { cls := 14, slots := #[.int (-97)], vm := .none },
  { cls := 14, slots := #[.int (-96)], vm := .none },
  { cls := 14, slots := #[.int (-95)], vm := .none },
  { cls := 14, slots := #[.int (-94)], vm := .none },
  { cls := 14, slots := #[.int (-93)], vm := .none },
  { cls := 14, slots := #[.int (-92)], vm := .none },
  { cls := 14, slots := #[.int (-91)], vm := .none },
  { cls := 14, slots := #[.int (-90)], vm := .none },
  { cls := 14, slots := #[.int (-89)], vm := .none },
  { cls := 14, slots := #[.int (-88)], vm := .none },
  { cls := 14, slots := #[.int (-87)], vm := .none },
  { cls := 14, slots := #[.int (-86)], vm := .none },
  { cls := 14, slots := #[.int (-85)], vm := .none },
  { cls := 14, slots := #[.int (-84)], vm := .none },
  { cls := 14, slots := #[.int (-83)], vm := .none },
  { cls := 14, slots := #[.int (-82)], vm := .none },
  { cls := 14, slots := #[.int (-81)], vm := .none },
  { cls := 14, slots := #[.int (-80)], vm := .none },
  { cls := 14, slots := #[.int (-79)], vm := .none },
  { cls := 14, slots := #[.int (-78)], vm := .none },
  { cls := 14, slots := #[.int (-77)], vm := .none },
  { cls := 14, slots := #[.int (-76)], vm := .none },
  { cls := 14, slots := #[.int (-75)], vm := .none },
  { cls := 14, slots := #[.int (-74)], vm := .none },
  { cls := 14, slots := #[.int (-73)], vm := .none },
  { cls := 14, slots := #[.int (-72)], vm := .none },
  { cls := 14, slots := #[.int (-71)], vm := .none },
  { cls := 14, slots := #[.int (-70)], vm := .none },
  { cls := 14, slots := #[.int (-69)], vm := .none },
  { cls := 14, slots := #[.int (-68)], vm := .none },
  { cls := 14, slots := #[.int (-67)], vm := .none },
  { cls := 14, slots := #[.int (-66)], vm := .none },
  { cls := 14, slots := #[.int (-65)], vm := .none },
  { cls := 14, slots := #[.int (-64)], vm := .none },
  { cls := 14, slots := #[.int (-63)], vm := .none },
  { cls := 14, slots := #[.int (-62)], vm := .none },
  { cls := 14, slots := #[.int (-61)], vm := .none },
  { cls := 14, slots := #[.int (-60)], vm := .none },
  { cls := 14, slots := #[.int (-59)], vm := .none },
  { cls := 14, slots := #[.int (-58)], vm := .none },
  { cls := 14, slots := #[.int (-57)], vm := .none },
  { cls := 14, slots := #[.int (-56)], vm := .none },
  { cls := 14, slots := #[.int (-55)], vm := .none },
  { cls := 14, slots := #[.int (-54)], vm := .none },
  { cls := 14, slots := #[.int (-53)], vm := .none },
  { cls := 14, slots := #[.int (-52)], vm := .none },
  { cls := 14, slots := #[.int (-51)], vm := .none },
  { cls := 14, slots := #[.int (-50)], vm := .none },
  { cls := 14, slots := #[.int (-49)], vm := .none },
  { cls := 14, slots := #[.int (-48)], vm := .none },
  { cls := 14, slots := #[.int (-47)], vm := .none },
  { cls := 14, slots := #[.int (-46)], vm := .none },
  { cls := 14, slots := #[.int (-45)], vm := .none },
  { cls := 14, slots := #[.int (-44)], vm := .none },
  { cls := 14, slots := #[.int (-43)], vm := .none },
  { cls := 14, slots := #[.int (-42)], vm := .none },
  { cls := 14, slots := #[.int (-41)], vm := .none },
  { cls := 14, slots := #[.int (-40)], vm := .none },
  { cls := 14, slots := #[.int (-39)], vm := .none },
  { cls := 14, slots := #[.int (-38)], vm := .none },
  { cls := 14, slots := #[.int (-37)], vm := .none },
  { cls := 14, slots := #[.int (-36)], vm := .none },
  { cls := 14, slots := #[.int (-35)], vm := .none },
  { cls := 14, slots := #[.int (-34)], vm := .none },
  { cls := 14, slots := #[.int (-33)], vm := .none },
  { cls := 14, slots := #[.int (-32)], vm := .none },
  { cls := 14, slots := #[.int (-31)], vm := .none },
  { cls := 14, slots := #[.int (-30)], vm := .none },
  { cls := 14, slots := #[.int (-29)], vm := .none },
  { cls := 14, slots := #[.int (-28)], vm := .none },
  { cls := 14, slots := #[.int (-27)], vm := .none },
  { cls := 14, slots := #[.int (-26)], vm := .none },
  { cls := 14, slots := #[.int (-25)], vm := .none },
  { cls := 14, slots := #[.int (-24)], vm := .none },
  { cls := 14, slots := #[.int (-23)], vm := .none },
  { cls := 14, slots := #[.int (-22)], vm := .none },
  { cls := 14, slots := #[.int (-21)], vm := .none },
  { cls := 14, slots := #[.int (-20)], vm := .none },
  { cls := 14, slots := #[.int (-19)], vm := .none },
  { cls := 14, slots := #[.int (-18)], vm := .none },
  { cls := 14, slots := #[.int (-17)], vm := .none },
  { cls := 14, slots := #[.int (-16)], vm := .none },
  { cls := 14, slots := #[.int (-15)], vm := .none },
  { cls := 14, slots := #[.int (-14)], vm := .none },
  { cls := 14, slots := #[.int (-13)], vm := .none },
  { cls := 14, slots := #[.int (-12)], vm := .none },
  { cls := 14, slots := #[.int (-11)], vm := .none },
  { cls := 14, slots := #[.int (-10)], vm := .none },
  { cls := 14, slots := #[.int (-9)], vm := .none },
  { cls := 14, slots := #[.int (-8)], vm := .none },
  { cls := 14, slots := #[.int (-7)], vm := .none },
  { cls := 14, slots := #[.int (-6)], vm := .none },
  { cls := 14, slots := #[.int (-5)], vm := .none },
  { cls := 14, slots := #[.int (-4)], vm := .none },
  { cls := 14, slots := #[.int (-3)], vm := .none },
  { cls := 14, slots := #[.int (-2)], vm := .none },
  { cls := 14, slots := #[.int (-1)], vm := .none },
  { cls := 14, slots := #[.int (0)], vm := .none },
  { cls := 14, slots := #[.int (1)], vm := .none },
  { cls := 14, slots := #[.int (2)], vm := .none },
  { cls := 14, slots := #[.int (3)], vm := .none },
  { cls := 14, slots := #[.int (4)], vm := .none },
  { cls := 14, slots := #[.int (5)], vm := .none },
  { cls := 14, slots := #[.int (6)], vm := .none },
  { cls := 14, slots := #[.int (7)], vm := .none },
  { cls := 14, slots := #[.int (8)], vm := .none },
  { cls := 14, slots := #[.int (9)], vm := .none },
  { cls := 14, slots := #[.int (10)], vm := .none },
  { cls := 14, slots := #[.int (11)], vm := .none },
  { cls := 14, slots := #[.int (12)], vm := .none },
  { cls := 14, slots := #[.int (13)], vm := .none },
  { cls := 14, slots := #[.int (14)], vm := .none },
  { cls := 14, slots := #[.int (15)], vm := .none },
  { cls := 14, slots := #[.int (16)], vm := .none },
  { cls := 14, slots := #[.int (17)], vm := .none },
  { cls := 14, slots := #[.int (18)], vm := .none },
  { cls := 14, slots := #[.int (19)], vm := .none },
  { cls := 14, slots := #[.int (20)], vm := .none },
  { cls := 14, slots := #[.int (21)], vm := .none },
  { cls := 14, slots := #[.int (22)], vm := .none },
  { cls := 14, slots := #[.int (23)], vm := .none },
  { cls := 14, slots := #[.int (24)], vm := .none },
  { cls := 14, slots := #[.int (25)], vm := .none },
  { cls := 14, slots := #[.int (26)], vm := .none },
  { cls := 14, slots := #[.int (27)], vm := .none },
  { cls := 14, slots := #[.int (28)], vm := .none },
  { cls := 14, slots := #[.int (29)], vm := .none },
  { cls := 14, slots := #[.int (30)], vm := .none },
  { cls := 14, slots := #[.int (31)], vm := .none },
  { cls := 14, slots := #[.int (32)], vm := .none },
  { cls := 14, slots := #[.int (33)], vm := .none },
  { cls := 14, slots := #[.int (34)], vm := .none },
  { cls := 14, slots := #[.int (35)], vm := .none },
  { cls := 14, slots := #[.int (36)], vm := .none },
  { cls := 14, slots := #[.int (37)], vm := .none },
  { cls := 14, slots := #[.int (38)], vm := .none },
  { cls := 14, slots := #[.int (39)], vm := .none },
  { cls := 14, slots := #[.int (40)], vm := .none },
  { cls := 14, slots := #[.int (41)], vm := .none },
  { cls := 14, slots := #[.int (42)], vm := .none },
  { cls := 14, slots := #[.int (43)], vm := .none },
  { cls := 14, slots := #[.int (44)], vm := .none },
  { cls := 14, slots := #[.int (45)], vm := .none },
  { cls := 14, slots := #[.int (46)], vm := .none },
  { cls := 14, slots := #[.int (47)], vm := .none },
  { cls := 14, slots := #[.int (48)], vm := .none },
  { cls := 14, slots := #[.int (49)], vm := .none },
  { cls := 14, slots := #[.int (50)], vm := .none },
  { cls := 14, slots := #[.int (51)], vm := .none },
  { cls := 14, slots := #[.int (52)], vm := .none },
  { cls := 14, slots := #[.int (53)], vm := .none },
  { cls := 14, slots := #[.int (54)], vm := .none },
  { cls := 14, slots := #[.int (55)], vm := .none },
  { cls := 14, slots := #[.int (56)], vm := .none },
  { cls := 14, slots := #[.int (57)], vm := .none },
  { cls := 14, slots := #[.int (58)], vm := .none },
  { cls := 14, slots := #[.int (59)], vm := .none },
  { cls := 14, slots := #[.int (60)], vm := .none },
  { cls := 14, slots := #[.int (61)], vm := .none },
  { cls := 14, slots := #[.int (62)], vm := .none },
  { cls := 14, slots := #[.int (63)], vm := .none },
  { cls := 14, slots := #[.int (64)], vm := .none },
  { cls := 14, slots := #[.int (65)], vm := .none },
  { cls := 14, slots := #[.int (66)], vm := .none },
  { cls := 14, slots := #[.int (67)], vm := .none },
  { cls := 14, slots := #[.int (68)], vm := .none },
  { cls := 14, slots := #[.int (69)], vm := .none },
  { cls := 14, slots := #[.int (70)], vm := .none },
  { cls := 14, slots := #[.int (71)], vm := .none },
  { cls := 14, slots := #[.int (72)], vm := .none },
  { cls := 14, slots := #[.int (73)], vm := .none },
  { cls := 14, slots := #[.int (74)], vm := .none },
  { cls := 14, slots := #[.int (75)], vm := .none },
  { cls := 14, slots := #[.int (76)], vm := .none },
  { cls := 14, slots := #[.int (77)], vm := .none },
  { cls := 14, slots := #[.int (78)], vm := .none },
  { cls := 14, slots := #[.int (79)], vm := .none },
  { cls := 14, slots := #[.int (80)], vm := .none },
  { cls := 14, slots := #[.int (81)], vm := .none },
  { cls := 14, slots := #[.int (82)], vm := .none },
  { cls := 14, slots := #[.int (83)], vm := .none },
  { cls := 14, slots := #[.int (84)], vm := .none },
  { cls := 14, slots := #[.int (85)], vm := .none },
  { cls := 14, slots := #[.int (86)], vm := .none },
  { cls := 14, slots := #[.int (87)], vm := .none },
  { cls := 14, slots := #[.int (88)], vm := .none },
  { cls := 14, slots := #[.int (89)], vm := .none },
  { cls := 14, slots := #[.int (90)], vm := .none },
  { cls := 14, slots := #[.int (91)], vm := .none },
  { cls := 14, slots := #[.int (92)], vm := .none },
  { cls := 14, slots := #[.int (93)], vm := .none },
  { cls := 14, slots := #[.int (94)], vm := .none },
  { cls := 14, slots := #[.int (95)], vm := .none },
  { cls := 14, slots := #[.int (96)], vm := .none },
  { cls := 14, slots := #[.int (97)], vm := .none },
  { cls := 14, slots := #[.int (98)], vm := .none },
  { cls := 14, slots := #[.int (99)], vm := .none },
  { cls := 14, slots := #[.int (100)], vm := .none },
  { cls := 14, slots := #[.int (101)], vm := .none },
  { cls := 14, slots := #[.int (102)], vm := .none },
  { cls := 14, slots := #[.int (103)], vm := .none },
  { cls := 14, slots := #[.int (104)], vm := .none },
  { cls := 14, slots := #[.int (105)], vm := .none },
  { cls := 14, slots := #[.int (106)], vm := .none },
  { cls := 14, slots := #[.int (107)], vm := .none },
  { cls := 14, slots := #[.int (108)], vm := .none },
  { cls := 14, slots := #[.int (109)], vm := .none },
  { cls := 14, slots := #[.int (110)], vm := .none },
  { cls := 14, slots := #[.int (111)], vm := .none },
  { cls := 14, slots := #[.int (112)], vm := .none },
  { cls := 14, slots := #[.int (113)], vm := .none },
  { cls := 14, slots := #[.int (114)], vm := .none },
  { cls := 14, slots := #[.int (115)], vm := .none },
  { cls := 14, slots := #[.int (116)], vm := .none },
  { cls := 14, slots := #[.int (117)], vm := .none },
  { cls := 14, slots := #[.int (118)], vm := .none },
  { cls := 14, slots := #[.int (119)], vm := .none },
  { cls := 14, slots := #[.int (120)], vm := .none },
  { cls := 14, slots := #[.int (121)], vm := .none },
  { cls := 14, slots := #[.int (122)], vm := .none },
  { cls := 14, slots := #[.int (123)], vm := .none },
  { cls := 14, slots := #[.int (124)], vm := .none },
  { cls := 14, slots := #[.int (125)], vm := .none },
  { cls := 14, slots := #[.int (126)], vm := .none },
  { cls := 14, slots := #[.int (127)], vm := .none },
  { cls := 0, slots := #[], vm := .none }]
def classes : Array Class := #[k0, k1, k2, k3, k4, k5, k6, k7, k8, k9, k10, k11, k12, k13, k14, k15, k16, k17, k18, k19, k20, k21, k22, k23, k24, k25, k26]
def interned : List (Array UInt16 × Addr) := []
def slotsUsed : Nat := 528
def theMethod : MethodId := ⟨1, 1⟩
def args0 : Array Value := #[.int 5, .int 6, .int 7, .int 8, .int 0]
def aboutOver (below : List Frame) : State where
  vm := { classes := classes, interned := interned.toArray }
  heap := heap
  slotsUsed := slotsUsed
  threads := #[{ frames := .invoking theMethod args0 :: below }]
def below0 : List Frame := [.native { method := ⟨0, 0⟩, args := #[] }]
def about1 : State := aboutOver below0
def p0 : Program := .bare "" "" ""
def e0 : Env := launch0.env 0 0 0
theorem w_frames : about1.frames = Frame.invoking theMethod args0 :: below0 := rfl
set_option maxRecDepth 65536 in
theorem w_args : argsFit about1.vm theMethod args0 = true := by decide +kernel
set_option maxRecDepth 65536 in
theorem w_heap : heapFits about1 = true := by decide +kernel
set_option maxRecDepth 65536 in
theorem w_runnable : about1.curStatus? = some .runnable := by decide +kernel
set_option maxRecDepth 65536 in
theorem w_alone : about1.alone = true := by decide +kernel
set_option maxRecDepth 65536 in
theorem w_named : about1.methodNamed? x = some theMethod := by decide +kernel
set_option maxRecDepth 65536 in
theorem w_hears : about1.hears theMethod below0 = true := by decide +kernel
set_option maxRecDepth 65536 in
theorem w_ripe : about1.ripe theMethod args0 below0 = true := by decide +kernel
theorem w_running : about1.status = .running := rfl
set_option maxRecDepth 65536 in
theorem w_room : about1.hasRoom e0.platform room_1 = true :=
  launch0.hasRoom_least _ room_1 (by decide +kernel) (by decide +kernel) (by decide +kernel) (by decide +kernel) (by decide +kernel) (by decide +kernel)
theorem allAtoms_all (ts : List Jvm.Cond) (a : Array Jvm.Value) (st : Jvm.State) : (allAtoms ts).before a st = ts.all (fun c => c.before a st) := by
  induction ts with
  | nil => rfl
  | cons c t ih =>
    show (Jvm.Cond.and c (allAtoms t)).before a st = _
    rw [Jvm.Cond.before_and, ih, List.all_cons]
def words1 : List Jvm.Cond := Jvm.Cond.code x code maxLocals ret :: tables_1
/-- a 'code' word, met by the world's own term for the bytes: nothing is compared byte by byte -/
theorem code_word {y : MethodName} {bytes : ByteArray} {mx : Nat} {rt : Option FieldType} {a : Array Value} {s : State} {m : MethodId} {meth : Method} {c : Code} (h1 : s.methodNamed? y = some m) (h2 : s.vm.method? m = some meth) (h3 : meth.code = some c) (h4 : c.code = bytes)
    (h5 : (c.maxLocals == mx && c.exceptionTable.isEmpty && decide (c.maxStack ≤ mostOperands) && decide (meth.sig.returnType = rt) && !meth.locks && decide (parseMethodDescriptor y.desc = some meth.sig)) = true) : (Jvm.Cond.code y bytes mx rt).before a s = true := by
  simp only [Bool.and_eq_true, beq_iff_eq, Bool.not_eq_true', decide_eq_true_eq] at h5
  obtain ⟨⟨⟨⟨⟨g1, g2⟩, g3⟩, g4⟩, g5⟩, g6⟩ := h5
  simp [Cond.before, Cond.holds, Cond.value, h1, h2, h3, h4, g1, g2, g3, g4, g5, g6]
def isCode : Jvm.Cond → Bool
  | .code _ _ _ _ => true
  | _ => false
theorem all_split {L : List Jvm.Cond} {P : Jvm.Cond → Bool} (h1 : L.all (fun c => isCode c || P c) = true) (h2 : ∀ c ∈ L.filter isCode, P c = true) : L.all P = true := by
  refine List.all_eq_true.mpr fun c hc => ?_
  have h := List.all_eq_true.mp h1 c hc
  rcases Bool.eq_false_or_eq_true (isCode c) with hi | hi
  · exact h2 c (List.mem_filter.mpr ⟨hc, hi⟩)
  · simpa [hi] using h
set_option maxRecDepth 65536 in
theorem w_c0 : (Jvm.Cond.code x code maxLocals ret).before args0 about1 = true := code_word (m := ⟨1, 1⟩) (meth := k1m1) (c := k1c1) (by decide +kernel) rfl rfl rfl (by decide +kernel)
set_option maxRecDepth 65536 in
theorem w_c1 : (Jvm.Cond.code ({ cls := "java/lang/String", name := "<init>", desc := "([C)V" } : Jvm.MethodName) jdk_42_method_3_code (2 : Nat) (Option.none : Option Jvm.ClassFile.FieldType)).before args0 about1 = true := code_word (m := ⟨10, 1⟩) (meth := k10m1) (c := k10c1) (by decide +kernel) rfl rfl rfl (by decide +kernel)
set_option maxRecDepth 65536 in
theorem w_c2 : (Jvm.Cond.code ({ cls := "java/lang/String", name := "<init>", desc := "([CIILjava/lang/Void;)V" } : Jvm.MethodName) jdk_42_method_149_code (6 : Nat) (Option.none : Option Jvm.ClassFile.FieldType)).before args0 about1 = true := code_word (m := ⟨10, 2⟩) (meth := k10m2) (c := k10c2) (by decide +kernel) rfl rfl rfl (by decide +kernel)
set_option maxRecDepth 65536 in
theorem w_c3 : (Jvm.Cond.code ({ cls := "java/lang/Object", name := "<init>", desc := "()V" } : Jvm.MethodName) object_method_1_code (1 : Nat) (Option.none : Option Jvm.ClassFile.FieldType)).before args0 about1 = true := code_word (m := ⟨0, 0⟩) (meth := k0m0) (c := k0c0) (by decide +kernel) rfl rfl rfl (by decide +kernel)
set_option maxRecDepth 65536 in
theorem w_c4 : (Jvm.Cond.code ({ cls := "java/lang/StringUTF16", name := "compress", desc := "([CII)[B" } : Jvm.MethodName) jdk_52_method_16_code (6 : Nat) (Option.some (Jvm.ClassFile.FieldType.array Jvm.ClassFile.FieldType.byte))).before args0 about1 = true := code_word (m := ⟨11, 2⟩) (meth := k11m2) (c := k11c2) (by decide +kernel) rfl rfl rfl (by decide +kernel)
set_option maxRecDepth 65536 in
theorem w_c5 : (Jvm.Cond.code ({ cls := "java/lang/StringUTF16", name := "compress", desc := "([CI[BII)I" } : Jvm.MethodName) jdk_52_method_21_code (7 : Nat) (Option.some Jvm.ClassFile.FieldType.int)).before args0 about1 = true := code_word (m := ⟨11, 3⟩) (meth := k11m3) (c := k11c3) (by decide +kernel) rfl rfl rfl (by decide +kernel)
set_option maxRecDepth 65536 in
theorem w_c6 : (Jvm.Cond.code ({ cls := "java/lang/StringUTF16", name := "coderFromArrayLen", desc := "([BI)B" } : Jvm.MethodName) jdk_52_method_15_code (2 : Nat) (Option.some Jvm.ClassFile.FieldType.byte)).before args0 about1 = true := code_word (m := ⟨11, 1⟩) (meth := k11m1) (c := k11c1) (by decide +kernel) rfl rfl rfl (by decide +kernel)
set_option maxRecDepth 65536 in
theorem w_c7 : (Jvm.Cond.code ({ cls := "com/example/bindery/bindery/Expr$Variable", name := "<init>", desc := "(Ljava/lang/String;I)V" } : Jvm.MethodName) prog_14_method_1_code (3 : Nat) (Option.none : Option Jvm.ClassFile.FieldType)).before args0 about1 = true := code_word (m := ⟨4, 0⟩) (meth := k4m0) (c := k4c0) (by decide +kernel) rfl rfl rfl (by decide +kernel)
set_option maxRecDepth 65536 in
theorem w_c8 : (Jvm.Cond.code ({ cls := "com/example/bindery/bindery/Named", name := "<init>", desc := "(Ljava/lang/String;I)V" } : Jvm.MethodName) prog_25_method_1_code (3 : Nat) (Option.none : Option Jvm.ClassFile.FieldType)).before args0 about1 = true := code_word (m := ⟨2, 0⟩) (meth := k2m0) (c := k2c0) (by decide +kernel) rfl rfl rfl (by decide +kernel)
set_option maxRecDepth 65536 in
theorem w_c9 : (Jvm.Cond.code ({ cls := "com/example/bindery/bindery/Globals$Variable", name := "<init>", desc := "()V" } : Jvm.MethodName) prog_17_method_1_code (1 : Nat) (Option.none : Option Jvm.ClassFile.FieldType)).before args0 about1 = true := code_word (m := ⟨12, 0⟩) (meth := k12m0) (c := k12c0) (by decide +kernel) rfl rfl rfl (by decide +kernel)
set_option maxRecDepth 65536 in
theorem w_c10 : (Jvm.Cond.code ({ cls := "java/lang/Integer", name := "valueOf", desc := "(I)Ljava/lang/Integer;" } : Jvm.MethodName) jdk_33_method_22_code (1 : Nat) (Option.some (Jvm.ClassFile.FieldType.object "java/lang/Integer"))).before args0 about1 = true := code_word (m := ⟨14, 0⟩) (meth := k14m0) (c := k14c0) (by decide +kernel) rfl rfl rfl (by decide +kernel)
set_option maxRecDepth 65536 in
theorem w_c11 : (Jvm.Cond.code ({ cls := "com/example/bindery/bindery/Globals$Variable", name := "define", desc := "(Ljava/lang/Object;)V" } : Jvm.MethodName) prog_17_method_4_code (2 : Nat) (Option.none : Option Jvm.ClassFile.FieldType)).before args0 about1 = true := code_word (m := ⟨12, 3⟩) (meth := k12m3) (c := k12c3) (by decide +kernel) rfl rfl rfl (by decide +kernel)
set_option maxRecDepth 65536 in
theorem w_c12 : (Jvm.Cond.code ({ cls := "com/example/bindery/bindery/Globals$Variable", name := "assign", desc := "(Lcom/example/bindery/bindery/Named;Ljava/lang/Object;)V" } : Jvm.MethodName) prog_17_method_3_code (3 : Nat) (Option.none : Option Jvm.ClassFile.FieldType)).before args0 about1 = true := code_word (m := ⟨12, 2⟩) (meth := k12m2) (c := k12c2) (by decide +kernel) rfl rfl rfl (by decide +kernel)
set_option maxRecDepth 65536 in
theorem w_c13 : (Jvm.Cond.code ({ cls := "com/example/bindery/bindery/Globals$Variable", name := "get", desc := "(Lcom/example/bindery/bindery/Named;)Ljava/lang/Object;" } : Jvm.MethodName) prog_17_method_2_code (2 : Nat) (Option.some (Jvm.ClassFile.FieldType.object "java/lang/Object"))).before args0 about1 = true := code_word (m := ⟨12, 1⟩) (meth := k12m1) (c := k12c1) (by decide +kernel) rfl rfl rfl (by decide +kernel)
set_option maxRecDepth 65536 in
theorem w_c14 : (Jvm.Cond.code ({ cls := "java/lang/Integer", name := "<init>", desc := "(I)V" } : Jvm.MethodName) jdk_33_method_23_code (2 : Nat) (Option.none : Option Jvm.ClassFile.FieldType)).before args0 about1 = true := code_word (m := ⟨14, 1⟩) (meth := k14m1) (c := k14c1) (by decide +kernel) rfl rfl rfl (by decide +kernel)
set_option maxRecDepth 65536 in
theorem w_c15 : (Jvm.Cond.code ({ cls := "java/lang/Number", name := "<init>", desc := "()V" } : Jvm.MethodName) jdk_18_method_1_code (1 : Nat) (Option.none : Option Jvm.ClassFile.FieldType)).before args0 about1 = true := code_word (m := ⟨13, 0⟩) (meth := k13m0) (c := k13c0) (by decide +kernel) rfl rfl rfl (by decide +kernel)
def codes1 : List Jvm.Cond := [Jvm.Cond.code x code maxLocals ret, Jvm.Cond.code ({ cls := "java/lang/String", name := "<init>", desc := "([C)V" } : Jvm.MethodName) jdk_42_method_3_code (2 : Nat) (Option.none : Option Jvm.ClassFile.FieldType), Jvm.Cond.code ({ cls := "java/lang/String", name := "<init>", desc := "([CIILjava/lang/Void;)V" } : Jvm.MethodName) jdk_42_method_149_code (6 : Nat) (Option.none : Option Jvm.ClassFile.FieldType), Jvm.Cond.code ({ cls := "java/lang/Object", name := "<init>", desc := "()V" } : Jvm.MethodName) object_method_1_code (1 : Nat) (Option.none : Option Jvm.ClassFile.FieldType), Jvm.Cond.code ({ cls := "java/lang/StringUTF16", name := "compress", desc := "([CII)[B" } : Jvm.MethodName) jdk_52_method_16_code (6 : Nat) (Option.some (Jvm.ClassFile.FieldType.array Jvm.ClassFile.FieldType.byte)), Jvm.Cond.code ({ cls := "java/lang/StringUTF16", name := "compress", desc := "([CI[BII)I" } : Jvm.MethodName) jdk_52_method_21_code (7 : Nat) (Option.some Jvm.ClassFile.FieldType.int), Jvm.Cond.code ({ cls := "java/lang/StringUTF16", name := "coderFromArrayLen", desc := "([BI)B" } : Jvm.MethodName) jdk_52_method_15_code (2 : Nat) (Option.some Jvm.ClassFile.FieldType.byte), Jvm.Cond.code ({ cls := "com/example/bindery/bindery/Expr$Variable", name := "<init>", desc := "(Ljava/lang/String;I)V" } : Jvm.MethodName) prog_14_method_1_code (3 : Nat) (Option.none : Option Jvm.ClassFile.FieldType), Jvm.Cond.code ({ cls := "com/example/bindery/bindery/Named", name := "<init>", desc := "(Ljava/lang/String;I)V" } : Jvm.MethodName) prog_25_method_1_code (3 : Nat) (Option.none : Option Jvm.ClassFile.FieldType), Jvm.Cond.code ({ cls := "com/example/bindery/bindery/Globals$Variable", name := "<init>", desc := "()V" } : Jvm.MethodName) prog_17_method_1_code (1 : Nat) (Option.none : Option Jvm.ClassFile.FieldType), Jvm.Cond.code ({ cls := "java/lang/Integer", name := "valueOf", desc := "(I)Ljava/lang/Integer;" } : Jvm.MethodName) jdk_33_method_22_code (1 : Nat) (Option.some (Jvm.ClassFile.FieldType.object "java/lang/Integer")), Jvm.Cond.code ({ cls := "com/example/bindery/bindery/Globals$Variable", name := "define", desc := "(Ljava/lang/Object;)V" } : Jvm.MethodName) prog_17_method_4_code (2 : Nat) (Option.none : Option Jvm.ClassFile.FieldType), Jvm.Cond.code ({ cls := "com/example/bindery/bindery/Globals$Variable", name := "assign", desc := "(Lcom/example/bindery/bindery/Named;Ljava/lang/Object;)V" } : Jvm.MethodName) prog_17_method_3_code (3 : Nat) (Option.none : Option Jvm.ClassFile.FieldType), Jvm.Cond.code ({ cls := "com/example/bindery/bindery/Globals$Variable", name := "get", desc := "(Lcom/example/bindery/bindery/Named;)Ljava/lang/Object;" } : Jvm.MethodName) prog_17_method_2_code (2 : Nat) (Option.some (Jvm.ClassFile.FieldType.object "java/lang/Object")), Jvm.Cond.code ({ cls := "java/lang/Integer", name := "<init>", desc := "(I)V" } : Jvm.MethodName) jdk_33_method_23_code (2 : Nat) (Option.none : Option Jvm.ClassFile.FieldType), Jvm.Cond.code ({ cls := "java/lang/Number", name := "<init>", desc := "()V" } : Jvm.MethodName) jdk_18_method_1_code (1 : Nat) (Option.none : Option Jvm.ClassFile.FieldType)]
set_option maxRecDepth 65536 in
theorem codes_eq : words1.filter isCode = codes1 := rfl
theorem w_codes : ∀ c ∈ words1.filter isCode, c.before args0 about1 = true := by
  rw [codes_eq]
  intro c hc
  simp only [codes1, List.mem_cons, List.not_mem_nil, or_false] at hc
  rcases hc with rfl | rfl | rfl | rfl | rfl | rfl | rfl | rfl | rfl | rfl | rfl | rfl | rfl | rfl | rfl | rfl
  · exact w_c0
  · exact w_c1
  · exact w_c2
  · exact w_c3
  · exact w_c4
  · exact w_c5
  · exact w_c6
  · exact w_c7
  · exact w_c8
  · exact w_c9
  · exact w_c10
  · exact w_c11
  · exact w_c12
  · exact w_c13
  · exact w_c14
  · exact w_c15
set_option maxRecDepth 65536 in
theorem w_t1 : (words1.take 24).all (fun c => isCode c || c.before args0 about1) = true := by decide +kernel
set_option maxRecDepth 65536 in
theorem w_t2 : ((words1.drop 24).take 24).all (fun c => isCode c || c.before args0 about1) = true := by decide +kernel
set_option maxRecDepth 65536 in
theorem w_t3 : (((words1.drop 24).drop 24).take 24).all (fun c => isCode c || c.before args0 about1) = true := by decide +kernel
set_option maxRecDepth 65536 in
theorem w_t4 : (((words1.drop 24).drop 24).drop 24).all (fun c => isCode c || c.before args0 about1) = true := by decide +kernel
theorem w_tables : (allAtoms (Jvm.Cond.code x code maxLocals ret :: tables_1)).before args0 about1 = true := by
  rw [allAtoms_all]
  show words1.all (fun c => c.before args0 about1) = true
  refine all_split ?_ w_codes
  rw [← List.take_append_drop 24 words1, List.all_append, w_t1, ← List.take_append_drop 24 (words1.drop 24), List.all_append, w_t2, ← List.take_append_drop 24 ((words1.drop 24).drop 24), List.all_append, w_t3, w_t4]
  rfl
set_option maxRecDepth 65536 in
theorem w_rest : rest_1_c.before args0 about1 = true := by decide +kernel
set_option maxRecDepth 65536 in
theorem w_case : (Jvm.Cond.and given_1 narrow_1).before args0 about1 = true := by decide +kernel
theorem w_applies : (headSpec (Jvm.Cond.code x code maxLocals ret :: tables_1) room_1).applies x e0.platform about1 = true :=
  (Spec.applies_iff w_frames).mpr ⟨w_running, w_runnable, w_alone, w_named, w_hears, w_ripe, w_room, w_tables⟩
theorem atStart : AtStart classFile x code maxLocals ret World_1 tables_1 room_1 Calls_1 rest_1 Pre_1 launch0 p0 e0 about1 theMethod args0 below0 :=
  ⟨lists_1, trivial, launch0.admits_env _ _ _, launch0.least_env, fairChoices_fair.cas, fairChoices_fair.clock, w_frames, w_args, w_heap, w_applies, trivial, w_rest, w_case⟩
end start1
theorem witness_1 : WitnessClaimed_1 := ⟨start1.p0, start1.e0, start1.about1, start1.theMethod, start1.args0, start1.below0, start1.atStart⟩
end Jvm.Pilot.@@N@@
