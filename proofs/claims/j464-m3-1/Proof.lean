import JvmDerived
import JvmDerived.Pilot.@@N@@Statement
import JvmDerived.Pilot.@@N@@Code
set_option linter.unusedVariables false
set_option linter.unusedSimpArgs false
namespace Jvm.Own
open Sem ClassFile Op Lib Jvm.Free Jvm.Stand Jvm.LawKit Jvm.RoadKit Bundle
/-- the walk of a method's body from one point on: it ends in a return that answers Q -/
def Go (p : Program) (l : Launch) (e : Env) (R : Room) (s : State) (m : MethodId) (args : Array Value) (below : List Frame) (meth : Method) (c : Code) (Z : State) (a0 : Array Value) (EL : List (String × Nat)) (nw : Prop) (Q : Option Value → Vm → Heap → Prop)
    (vm : Vm) (h : Heap) (k n pc : Nat) (L : Array Slot) (st : List Value) : Prop :=
  ∀ (T : State) (locs : List Loc) (k0 : Nat), p.tables.exec = Jvm.exec → meth.locks = false → EW Z a0 EL →
    Stand p l e R (s.setVm vm) m args below meth c T locs k n → T.heap = h → s.Since vm k0 → k0 ≤ h.size → Fr Z.heap.size locs → Z.Warmed39 vm → (nw → s.WarmedH vm) → CHr Z EL s.vm s.heap vm h → Ext Z.heap h →
    ∃ (t : State) (v : Option Value) (L' : List Loc), Steps p.tables e below (T.setTop (mkF m pc L st)) t ∧ t.status = .running ∧ Ended t below (.returned v) ∧ Fr Z.heap.size L' ∧ Q v t.vm t.heap ∧ CHr Z EL s.vm s.heap t.vm t.heap ∧ Ext Z.heap t.heap ∧ ReturnedEndW s (.returned v) t L' R.cells R.slots ∧ (nw → s.WarmedH t.vm)
/-- a method's contract at one call: these arguments, this heap; sf: what it may write of Strings and byte arrays -/
def Ct (l : Launch) (Z : State) (EL : List (String × Nat)) (nw : Prop) (ws : List Jvm.Cond) (y : MethodName) (bytes : ByteArray) (maxL : Nat) (ret : Option FieldType) (rm : Room) (as : Array Value) (h : Heap) (sf : List Addr) (Q : Option Value → Vm → Heap → Prop) : Prop :=
  MetFree l y (head1 (Jvm.Cond.code y bytes maxL ret :: ws) rm) (fun a U => a = as ∧ Z.Warmed39 U.vm ∧ U.heap = h ∧ CHv Z EL U.vm h ∧ Ext Z.heap h ∧ ∀ x ∈ sf, Safe Z EL U.vm h x) (fun _ _ _ _ _ => True)
    (fun _ U o U' => ∃ v L, o = .returned v ∧ Fr Z.heap.size L ∧ Q v U'.vm U'.heap ∧ CHr Z EL U.vm U.heap U'.vm U'.heap ∧ Ext Z.heap U'.heap ∧ (nw → U.WarmedH U'.vm) ∧ ReturnedEndW U o U' L rm.cells rm.slots)
/-- an array, by its components -/
def Ar (Z : State) (h : Heap) (a : Addr) (k : ClassId) (ty : FieldType) (vs : List Value) : Prop := ∃ c : Cell, Arr Z h a c ty ∧ c.cls = k ∧ c.slots.toList = vs
/-- a String of Latin-1 bytes -/
def St (Z : State) (h : Heap) (a b : Addr) (k : ClassId) (bs : List Int32) : Prop := Exa Z h a "java/lang/String" ∧ Fld Z h a "java/lang/String" "coder" "B" (.int 0) ∧ Fld Z h a "java/lang/String" "value" "[B" (.ref b) ∧ Ar Z h b k .byte (bs.map Value.int) ∧ bs.length < 536870912
section Facts
variable {Z : State} {h h' h0 : Heap} {a b w : Addr} {k : ClassId} {ty : FieldType} {vs : List Value} {bs : List Int32} {ws : List Addr} {sl : Nat} {v : Value} {EL : List (String × Nat)} {vm vm' : Vm}
theorem ext_trans {h1 h2 h3 : Heap} (E : Ext h1 h2) (F : Ext h2 h3) : Ext h1 h3 := ⟨Nat.le_trans E.1 F.1, fun a c q => F.2 a c (E.2 a c q)⟩
theorem ext_keep (O : Ext Z.heap h) (K : Keep h h' ws) (q : ∀ x ∈ ws, Z.heap.size ≤ x) : Ext Z.heap h' := (Old.keep (n0 := Z.heap.size) ⟨rfl, O⟩ K q).2
theorem ext_wr (O : Ext Z.heap h) (W : Wr h h' a sl v) (q : Z.heap.size ≤ a) : Ext Z.heap h' := (Old.wr (n0 := Z.heap.size) ⟨rfl, O⟩ W q).2
theorem Ar.lt (F : Ar Z h a k ty vs) : a < h.size := by obtain ⟨c, A, -⟩ := F; exact A.lt
theorem Ar.ext (F : Ar Z h a k ty vs) (E : Ext h h') : Ar Z h' a k ty vs := by obtain ⟨c, A, r⟩ := F; exact ⟨c, A.ext E, r⟩
theorem Ar.other (F : Ar Z h a k ty vs) (W : Wr h h' b sl v) (q : a ≠ b) : Ar Z h' a k ty vs := by obtain ⟨c, A, r⟩ := F; exact ⟨c, A.other W q, r⟩
theorem Ar.keep (F : Ar Z h a k ty vs) (K : Keep h h' ws) (q : a ∉ ws) : Ar Z h' a k ty vs := by obtain ⟨c, A, r⟩ := F; exact ⟨c, ⟨K.2.1 a c A.1 q, A.2⟩, r⟩
theorem Ar.set (F : Ar Z h a k ty vs) (W : Wr h h' a sl v) : Ar Z h' a k ty (vs.set sl v) := by
  obtain ⟨c, A, r1, r2⟩ := F
  refine ⟨_, A.same W, r1, ?_⟩
  simp [Cell.setSlot, r2]
theorem Ar.of_arv {z : Int32} {d : Value} (F : Arv Z h a k ty z vs d) (hl : z.toNatClampNeg = vs.length) : Ar Z h a k ty vs := by
  obtain ⟨c, A, r1, r2, r3, H, -⟩ := F
  refine ⟨c, A, r1, List.ext_getElem? fun i => ?_⟩
  by_cases hi : i < c.slots.size
  · have q := H i hi
    rw [Array.getElem?_toList, q]
    have : i < vs.length := by omega
    simp [List.getD, this]
  · rw [Array.getElem?_toList, Array.getElem?_eq_none (by omega), List.getElem?_eq_none (by omega)]
theorem Ar.safe (hal : Z.vm.Alike vm) (F : Ar Z h a k ty vs) (ht : ty ≠ .byte) : Safe Z EL vm h a := by obtain ⟨c, A, -⟩ := F; exact Safe.arr hal A ht
theorem Ar.ne_exa {C : String} {a0 : Array Value} {kk : Nat} (F : Ar Z h a k ty vs) (E : Exa Z h b C) (wi : (Jvm.Cond.instantiable C kk).before a0 Z = true) : b ≠ a := by obtain ⟨c, A, -⟩ := F; exact ne_arr E wi A
theorem Ar.ne_ty {ty' : FieldType} {k' : ClassId} {vs' : List Value} (F : Ar Z h a k ty vs) (G : Ar Z h b k' ty' vs') (hn : ty ≠ ty') : a ≠ b := by
  rintro rfl
  obtain ⟨c, A, -⟩ := F
  obtain ⟨c', B, -⟩ := G
  cases A.1.symm.trans B.1
  obtain ⟨-, k1, h1, c1, h2⟩ := A.2.1
  obtain ⟨-, k2, g1, c2, g2⟩ := B.2.1
  cases h1.symm.trans g1
  have q := h2.symm.trans g2
  injection q with _ e
  exact hn e
theorem St.lt (F : St Z h a b k bs) : a < h.size := F.1.lt
theorem St.ltb (F : St Z h a b k bs) : b < h.size := F.2.2.2.1.lt
theorem Fld.uniq {C n d : String} {v w : Value} (F : Fld Z h a C n d v) (G : Fld Z h a C n d w) : v = w := Classical.byContradiction fun q => Fld.ne F G q rfl
theorem Ar.uniq {k' : ClassId} {ty' : FieldType} {vs' : List Value} (F : Ar Z h a k ty vs) (G : Ar Z h a k' ty' vs') : vs = vs' := by
  obtain ⟨c, A, -, rfl⟩ := F
  obtain ⟨c', B, -, rfl⟩ := G
  cases A.1.symm.trans B.1; rfl
theorem map_int_inj {xs ys : List Int32} (q : xs.map Value.int = ys.map Value.int) : xs = ys := by
  induction xs generalizing ys with
  | nil => cases ys with | nil => rfl | cons y ys => cases q
  | cons x xs ih => cases ys with
    | nil => cases q
    | cons y ys => simp only [List.map_cons, List.cons.injEq, Value.int.injEq] at q; rw [q.1, ih q.2]
theorem St.uniq {b' : Addr} {k' : ClassId} {bs' : List Int32} (F : St Z h a b k bs) (G : St Z h a b' k' bs') : bs = bs' := by
  cases Value.ref.inj (Fld.uniq F.2.2.1 G.2.2.1)
  exact map_int_inj (Ar.uniq F.2.2.2.1 G.2.2.2.1)
theorem St.ext (F : St Z h a b k bs) (E : Ext h h') : St Z h' a b k bs := ⟨F.1.ext E, F.2.1.ext E, F.2.2.1.ext E, F.2.2.2.1.ext E, F.2.2.2.2⟩
theorem St.keep (F : St Z h a b k bs) (K : Keep h h' ws) (q : a ∉ ws) (q' : b ∉ ws) : St Z h' a b k bs := ⟨F.1.keep K, F.2.1.keep K q, F.2.2.1.keep K q, F.2.2.2.1.keep K q', F.2.2.2.2⟩
theorem St.wr (F : St Z h a b k bs) (W : Wr h h' w sl v) (q : a ≠ w) (q' : b ≠ w) : St Z h' a b k bs := F.keep (Keep.of_wr W) (by simpa using q) (by simpa using q')
theorem Keep.ofExt (E : Ext h h') : Keep h h' [] := (Keep.refl h []).ext E
theorem Keep.tr (K : Keep h0 h ws) (K' : Keep h h' ws) : Keep h0 h' ws := K.trans K' fun x hx => Or.inl hx
theorem Keep.more {ws' : List Addr} (K : Keep h h' ws) (q : ∀ x ∈ ws, x ∈ ws' ∨ h.size ≤ x) : Keep h h' ws' := (Keep.refl h ws').trans K q
theorem ltN {x : Addr} {n : Nat} (q : x < n) : n > x := q
theorem neN {x y : Addr} (q : @Eq Nat x y → False) : x ≠ y := q
theorem Safe.to (C : CHr Z EL vm h vm' h') (lt : h.size > a) (S : Safe Z EL vm h a) : Safe Z EL vm' h' a := C.safe lt S
theorem tr0 (E : Ext h h') : h.size ≤ h'.size := E.1
theorem cat1 {v : Value} (q : v.isRef = true) : v.category = 1 := by cases v <;> simp [Value.isRef] at q <;> rfl
theorem narU {v : Value} {ty : FieldType} (q : v.isRef = true) : narrow ty v = v := by cases v <;> simp [Value.isRef] at q <;> cases ty <;> rfl
theorem fitsU {v : Value} {ty : FieldType} (r : ty.isReference = true) (q : v.isRef = true) : fits ty v = true := by cases ty <;> simp [FieldType.isReference] at r <;> cases v <;> simp [Value.isRef] at q <;> rfl
theorem Wr.sz (W : Wr h h' a sl v) : h'.size = h.size := W.size
end Facts
section Walk
variable {p : Program} {l : Launch} {e : Env} {R : Room} {s : State} {m : MethodId} {args : Array Value} {below : List Frame} {meth : Method} {c : Code} {Z : State} {a0 : Array Value} {EL : List (String × Nat)} {nw : Prop} {Q : Option Value → Vm → Heap → Prop} {vm : Vm} {h : Heap} {k n pc pc' : Nat} {L : Array Slot} {st : List Value}
theorem Go.plain {pc2 : Nat} {L2 : Array Slot} {st2 : List Value} (hstep : ∀ (T : State) (locs : List Loc), p.tables.exec = Jvm.exec → Stand p l e R (s.setVm vm) m args below meth c T locs k n → ∀ target, Steps p.tables e below (T.setTop (mkF m pc2 L2 st2)) target → Steps p.tables e below (T.setTop (mkF m pc L st)) target)
    (K : Go p l e R s m args below meth c Z a0 EL nw Q vm h k n pc2 L2 st2) : Go p l e R s m args below meth c Z a0 EL nw Q vm h k n pc L st := fun T locs k0 hx hk hE X eT hS hk0 hF hZ hN hC hO => by
  obtain ⟨t, v, L', r1, r2⟩ := K T locs k0 hx hk hE X eT hS hk0 hF hZ hN hC hO
  exact ⟨t, v, L', hstep T locs hx X _ r1, r2⟩
theorem Go.mono {k' n' : Nat} (K : Go p l e R s m args below meth c Z a0 EL nw Q vm h k' n' pc L st) (hk : k ≤ k') (hn : n ≤ n') : Go p l e R s m args below meth c Z a0 EL nw Q vm h k n pc L st := fun T locs k0 hx hl hE X eT hS hk0 hF hZ hN hC hO =>
  K T locs k0 hx hl hE ⟨X.admits, X.cas, X.clock, X.frames, X.room, X.hears, X.method, X.code, X.here, X.tail, X.warmed, X.limits, X.bytes, X.same.mono hk hn⟩ eT hS hk0 hF hZ hN hC hO
theorem Go.aloadN {q : Fin 4} {v : Value} (hd : decode c.code pc = .ok (.aload_n q, 1)) (hp : pc + 1 = pc') (hl : L[q.val]? = some (.val v)) (hv : v.isRef = true) (K : Go p l e R s m args below meth c Z a0 EL nw Q vm h k n pc' L (v :: st)) : Go p l e R s m args below meth c Z a0 EL nw Q vm h k n pc L st := by
  subst hp
  exact Go.plain (fun T _ hx X _ r => XS.aloadN X.here hx rfl hd hl hv r) K
theorem Go.aload {q : Nat} {v : Value} (hd : decode c.code pc = .ok (.aload q, 2)) (hp : pc + 2 = pc') (hl : L[q]? = some (.val v)) (hv : v.isRef = true) (K : Go p l e R s m args below meth c Z a0 EL nw Q vm h k n pc' L (v :: st)) : Go p l e R s m args below meth c Z a0 EL nw Q vm h k n pc L st := by
  subst hp
  exact Go.plain (fun T _ hx X _ r => XS.aload X.here hx rfl hd hl hv r) K
theorem Go.iloadN {q : Fin 4} {z : Int32} (hd : decode c.code pc = .ok (.iload_n q, 1)) (hp : pc + 1 = pc') (hl : L[q.val]? = some (.val (.int z))) (K : Go p l e R s m args below meth c Z a0 EL nw Q vm h k n pc' L (.int z :: st)) : Go p l e R s m args below meth c Z a0 EL nw Q vm h k n pc L st := by
  subst hp
  exact Go.plain (fun T _ hx X _ r => XS.iloadN X.here hx rfl hd hl r) K
theorem Go.iload {q : Nat} {z : Int32} (hd : decode c.code pc = .ok (.iload q, 2)) (hp : pc + 2 = pc') (hl : L[q]? = some (.val (.int z))) (K : Go p l e R s m args below meth c Z a0 EL nw Q vm h k n pc' L (.int z :: st)) : Go p l e R s m args below meth c Z a0 EL nw Q vm h k n pc L st := by
  subst hp
  exact Go.plain (fun T _ hx X _ r => XS.iload X.here hx rfl hd hl r) K
theorem Go.lloadN {q : Fin 4} {z : Int64} (hd : decode c.code pc = .ok (.lload_n q, 1)) (hp : pc + 1 = pc') (hl : L[q.val]? = some (.val (.long z))) (K : Go p l e R s m args below meth c Z a0 EL nw Q vm h k n pc' L (.long z :: st)) : Go p l e R s m args below meth c Z a0 EL nw Q vm h k n pc L st := by
  subst hp
  exact Go.plain (fun T _ hx X _ r => XT.lloadN X.here hx rfl hd hl r) K
theorem Go.lload {q : Nat} {z : Int64} (hd : decode c.code pc = .ok (.lload q, 2)) (hp : pc + 2 = pc') (hl : L[q]? = some (.val (.long z))) (K : Go p l e R s m args below meth c Z a0 EL nw Q vm h k n pc' L (.long z :: st)) : Go p l e R s m args below meth c Z a0 EL nw Q vm h k n pc L st := by
  subst hp
  exact Go.plain (fun T _ hx X _ r => XT.lload X.here hx rfl hd hl r) K
theorem Go.iconst {i : Int} {z : Int32} (hd : decode c.code pc = .ok (.iconst i, 1)) (hp : pc + 1 = pc') (hz : Int32.ofInt i = z) (K : Go p l e R s m args below meth c Z a0 EL nw Q vm h k n pc' L (.int z :: st)) : Go p l e R s m args below meth c Z a0 EL nw Q vm h k n pc L st := by
  subst hp
  exact Go.plain (fun T _ hx X _ r => XS.iconst X.here hx rfl hd (by rw [hz]; exact r)) K
theorem Go.bipush {i : Int} {z : Int32} (hd : decode c.code pc = .ok (.bipush i, 2)) (hp : pc + 2 = pc') (hz : (Int8.ofInt i).toInt32 = z) (K : Go p l e R s m args below meth c Z a0 EL nw Q vm h k n pc' L (.int z :: st)) : Go p l e R s m args below meth c Z a0 EL nw Q vm h k n pc L st := by
  subst hp
  exact Go.plain (fun T _ hx X _ r => XS.bipush X.here hx rfl hd (by rw [hz]; exact r)) K
theorem Go.sipush {i : Int} {z : Int32} (hd : decode c.code pc = .ok (.sipush i, 3)) (hp : pc + 3 = pc') (hz : (Int16.ofInt i).toInt32 = z) (K : Go p l e R s m args below meth c Z a0 EL nw Q vm h k n pc' L (.int z :: st)) : Go p l e R s m args below meth c Z a0 EL nw Q vm h k n pc L st := by
  subst hp
  exact Go.plain (fun T _ hx X _ r => XS.sipush X.here hx rfl hd (by rw [hz]; exact r)) K
theorem Go.lconst {q : Fin 2} (hd : decode c.code pc = .ok (.lconst q, 1)) (hp : pc + 1 = pc') (K : Go p l e R s m args below meth c Z a0 EL nw Q vm h k n pc' L (.long (Int64.ofNat q) :: st)) : Go p l e R s m args below meth c Z a0 EL nw Q vm h k n pc L st := by
  subst hp
  exact Go.plain (fun T _ hx X _ r => XT.lconst X.here hx rfl hd r) K
theorem Go.aconstNull (hd : decode c.code pc = .ok (.aconst_null, 1)) (hp : pc + 1 = pc') (K : Go p l e R s m args below meth c Z a0 EL nw Q vm h k n pc' L (.null :: st)) : Go p l e R s m args below meth c Z a0 EL nw Q vm h k n pc L st := by
  subst hp
  exact Go.plain (fun T _ hx X _ r => XS.aconstNull X.here hx rfl hd r) K
theorem Go.iadd {x y : Int32} (hd : decode c.code pc = .ok (.iadd, 1)) (hp : pc + 1 = pc') (K : Go p l e R s m args below meth c Z a0 EL nw Q vm h k n pc' L (.int (x + y) :: st)) : Go p l e R s m args below meth c Z a0 EL nw Q vm h k n pc L (.int y :: .int x :: st) := by
  subst hp
  exact Go.plain (fun T _ hx X _ r => XS.iadd X.here hx rfl hd rfl r) K
theorem Go.isub {x y : Int32} (hd : decode c.code pc = .ok (.isub, 1)) (hp : pc + 1 = pc') (K : Go p l e R s m args below meth c Z a0 EL nw Q vm h k n pc' L (.int (x - y) :: st)) : Go p l e R s m args below meth c Z a0 EL nw Q vm h k n pc L (.int y :: .int x :: st) := by
  subst hp
  exact Go.plain (fun T _ hx X _ r => XS.isub X.here hx rfl hd rfl r) K
theorem Go.iand {x y : Int32} (hd : decode c.code pc = .ok (.iand, 1)) (hp : pc + 1 = pc') (K : Go p l e R s m args below meth c Z a0 EL nw Q vm h k n pc' L (.int (x &&& y) :: st)) : Go p l e R s m args below meth c Z a0 EL nw Q vm h k n pc L (.int y :: .int x :: st) := by
  subst hp
  exact Go.plain (fun T _ hx X _ r => XS.iand X.here hx rfl hd rfl r) K
theorem Go.imul {x y : Int32} (hd : decode c.code pc = .ok (.imul, 1)) (hp : pc + 1 = pc') (K : Go p l e R s m args below meth c Z a0 EL nw Q vm h k n pc' L (.int (x * y) :: st)) : Go p l e R s m args below meth c Z a0 EL nw Q vm h k n pc L (.int y :: .int x :: st) := by
  subst hp
  exact Go.plain (fun T _ hx X _ r => XS.imul X.here hx rfl hd rfl r) K
theorem Go.ineg {x : Int32} (hd : decode c.code pc = .ok (.ineg, 1)) (hp : pc + 1 = pc') (K : Go p l e R s m args below meth c Z a0 EL nw Q vm h k n pc' L (.int (-x) :: st)) : Go p l e R s m args below meth c Z a0 EL nw Q vm h k n pc L (.int x :: st) := by
  subst hp
  exact Go.plain (fun T _ hx X _ r => XS.ineg X.here hx rfl hd rfl r) K
theorem Go.idiv {x y : Int32} (hd : decode c.code pc = .ok (.idiv, 1)) (hp : pc + 1 = pc') (hy : y ≠ 0) (K : Go p l e R s m args below meth c Z a0 EL nw Q vm h k n pc' L (.int (x / y) :: st)) : Go p l e R s m args below meth c Z a0 EL nw Q vm h k n pc L (.int y :: .int x :: st) := by
  subst hp
  exact Go.plain (fun T _ hx X _ r => XS.idiv X.here hx rfl hd rfl hy r) K
theorem Go.ixor {x y : Int32} (hd : decode c.code pc = .ok (.ixor, 1)) (hp : pc + 1 = pc') (K : Go p l e R s m args below meth c Z a0 EL nw Q vm h k n pc' L (.int (x ^^^ y) :: st)) : Go p l e R s m args below meth c Z a0 EL nw Q vm h k n pc L (.int y :: .int x :: st) := by
  subst hp
  exact Go.plain (fun T _ hx X _ r => XT.ixor X.here hx rfl hd rfl r) K
theorem Go.ior {x y : Int32} (hd : decode c.code pc = .ok (.ior, 1)) (hp : pc + 1 = pc') (K : Go p l e R s m args below meth c Z a0 EL nw Q vm h k n pc' L (.int (x ||| y) :: st)) : Go p l e R s m args below meth c Z a0 EL nw Q vm h k n pc L (.int y :: .int x :: st) := by
  subst hp
  exact Go.plain (fun T _ hx X _ r => XT.ior X.here hx rfl hd rfl r) K
theorem Go.ishl {x y : Int32} (hd : decode c.code pc = .ok (.ishl, 1)) (hp : pc + 1 = pc') (K : Go p l e R s m args below meth c Z a0 EL nw Q vm h k n pc' L (.int (x <<< (y &&& 31)) :: st)) : Go p l e R s m args below meth c Z a0 EL nw Q vm h k n pc L (.int y :: .int x :: st) := by
  subst hp
  exact Go.plain (fun T _ hx X _ r => XT.ishl X.here hx rfl hd rfl r) K
theorem Go.ishr {x y : Int32} (hd : decode c.code pc = .ok (.ishr, 1)) (hp : pc + 1 = pc') (K : Go p l e R s m args below meth c Z a0 EL nw Q vm h k n pc' L (.int (x >>> (y &&& 31)) :: st)) : Go p l e R s m args below meth c Z a0 EL nw Q vm h k n pc L (.int y :: .int x :: st) := by
  subst hp
  exact Go.plain (fun T _ hx X _ r => XT.ishr X.here hx rfl hd rfl r) K
theorem Go.iushr {x y : Int32} (hd : decode c.code pc = .ok (.iushr, 1)) (hp : pc + 1 = pc') (K : Go p l e R s m args below meth c Z a0 EL nw Q vm h k n pc' L (.int (XT.ushr x y) :: st)) : Go p l e R s m args below meth c Z a0 EL nw Q vm h k n pc L (.int y :: .int x :: st) := by
  subst hp
  exact Go.plain (fun T _ hx X _ r => XT.iushr X.here hx rfl hd rfl r) K
theorem Go.ladd {x y : Int64} (hd : decode c.code pc = .ok (.ladd, 1)) (hp : pc + 1 = pc') (K : Go p l e R s m args below meth c Z a0 EL nw Q vm h k n pc' L (.long (x + y) :: st)) : Go p l e R s m args below meth c Z a0 EL nw Q vm h k n pc L (.long y :: .long x :: st) := by
  subst hp
  exact Go.plain (fun T _ hx X _ r => XT.ladd X.here hx rfl hd rfl r) K
theorem Go.lsub {x y : Int64} (hd : decode c.code pc = .ok (.lsub, 1)) (hp : pc + 1 = pc') (K : Go p l e R s m args below meth c Z a0 EL nw Q vm h k n pc' L (.long (x - y) :: st)) : Go p l e R s m args below meth c Z a0 EL nw Q vm h k n pc L (.long y :: .long x :: st) := by
  subst hp
  exact Go.plain (fun T _ hx X _ r => XT.lsub X.here hx rfl hd rfl r) K
theorem Go.lmul {x y : Int64} (hd : decode c.code pc = .ok (.lmul, 1)) (hp : pc + 1 = pc') (K : Go p l e R s m args below meth c Z a0 EL nw Q vm h k n pc' L (.long (x * y) :: st)) : Go p l e R s m args below meth c Z a0 EL nw Q vm h k n pc L (.long y :: .long x :: st) := by
  subst hp
  exact Go.plain (fun T _ hx X _ r => XT.lmul X.here hx rfl hd rfl r) K
theorem Go.land {x y : Int64} (hd : decode c.code pc = .ok (.land, 1)) (hp : pc + 1 = pc') (K : Go p l e R s m args below meth c Z a0 EL nw Q vm h k n pc' L (.long (x &&& y) :: st)) : Go p l e R s m args below meth c Z a0 EL nw Q vm h k n pc L (.long y :: .long x :: st) := by
  subst hp
  exact Go.plain (fun T _ hx X _ r => XT.land X.here hx rfl hd rfl r) K
theorem Go.lor {x y : Int64} (hd : decode c.code pc = .ok (.lor, 1)) (hp : pc + 1 = pc') (K : Go p l e R s m args below meth c Z a0 EL nw Q vm h k n pc' L (.long (x ||| y) :: st)) : Go p l e R s m args below meth c Z a0 EL nw Q vm h k n pc L (.long y :: .long x :: st) := by
  subst hp
  exact Go.plain (fun T _ hx X _ r => XT.lor X.here hx rfl hd rfl r) K
theorem Go.lxor {x y : Int64} (hd : decode c.code pc = .ok (.lxor, 1)) (hp : pc + 1 = pc') (K : Go p l e R s m args below meth c Z a0 EL nw Q vm h k n pc' L (.long (x ^^^ y) :: st)) : Go p l e R s m args below meth c Z a0 EL nw Q vm h k n pc L (.long y :: .long x :: st) := by
  subst hp
  exact Go.plain (fun T _ hx X _ r => XT.lxor X.here hx rfl hd rfl r) K
theorem Go.lshl {x : Int64} {y : Int32} (hd : decode c.code pc = .ok (.lshl, 1)) (hp : pc + 1 = pc') (K : Go p l e R s m args below meth c Z a0 EL nw Q vm h k n pc' L (.long (x <<< (y.toInt64 &&& 63)) :: st)) : Go p l e R s m args below meth c Z a0 EL nw Q vm h k n pc L (.int y :: .long x :: st) := by
  subst hp
  exact Go.plain (fun T _ hx X _ r => XT.lshl X.here hx rfl hd rfl r) K
theorem Go.lshr {x : Int64} {y : Int32} (hd : decode c.code pc = .ok (.lshr, 1)) (hp : pc + 1 = pc') (K : Go p l e R s m args below meth c Z a0 EL nw Q vm h k n pc' L (.long (x >>> (y.toInt64 &&& 63)) :: st)) : Go p l e R s m args below meth c Z a0 EL nw Q vm h k n pc L (.int y :: .long x :: st) := by
  subst hp
  exact Go.plain (fun T _ hx X _ r => XT.lshr X.here hx rfl hd rfl r) K
theorem Go.lushr {x : Int64} {y : Int32} (hd : decode c.code pc = .ok (.lushr, 1)) (hp : pc + 1 = pc') (K : Go p l e R s m args below meth c Z a0 EL nw Q vm h k n pc' L (.long (XT.ushrL x y) :: st)) : Go p l e R s m args below meth c Z a0 EL nw Q vm h k n pc L (.int y :: .long x :: st) := by
  subst hp
  exact Go.plain (fun T _ hx X _ r => XT.lushr X.here hx rfl hd rfl r) K
theorem Go.ldiv {x y : Int64} (hd : decode c.code pc = .ok (.ldiv, 1)) (hp : pc + 1 = pc') (hy : y ≠ 0) (K : Go p l e R s m args below meth c Z a0 EL nw Q vm h k n pc' L (.long (x / y) :: st)) : Go p l e R s m args below meth c Z a0 EL nw Q vm h k n pc L (.long y :: .long x :: st) := by
  subst hp
  exact Go.plain (fun T _ hx X _ r => XT.ldiv X.here hx rfl hd rfl hy r) K
theorem Go.lrem {x y : Int64} (hd : decode c.code pc = .ok (.lrem, 1)) (hp : pc + 1 = pc') (hy : y ≠ 0) (K : Go p l e R s m args below meth c Z a0 EL nw Q vm h k n pc' L (.long (x - (x / y) * y) :: st)) : Go p l e R s m args below meth c Z a0 EL nw Q vm h k n pc L (.long y :: .long x :: st) := by
  subst hp
  exact Go.plain (fun T _ hx X _ r => XT.lrem X.here hx rfl hd rfl hy r) K
theorem Go.lneg {x : Int64} (hd : decode c.code pc = .ok (.lneg, 1)) (hp : pc + 1 = pc') (K : Go p l e R s m args below meth c Z a0 EL nw Q vm h k n pc' L (.long (-x) :: st)) : Go p l e R s m args below meth c Z a0 EL nw Q vm h k n pc L (.long x :: st) := by
  subst hp
  exact Go.plain (fun T _ hx X _ r => XT.lneg X.here hx rfl hd rfl r) K
theorem Go.i2l {x : Int32} (hd : decode c.code pc = .ok (.i2l, 1)) (hp : pc + 1 = pc') (K : Go p l e R s m args below meth c Z a0 EL nw Q vm h k n pc' L (.long x.toInt64 :: st)) : Go p l e R s m args below meth c Z a0 EL nw Q vm h k n pc L (.int x :: st) := by
  subst hp
  exact Go.plain (fun T _ hx X _ r => XT.i2l X.here hx rfl hd rfl r) K
theorem Go.l2i {x : Int64} (hd : decode c.code pc = .ok (.l2i, 1)) (hp : pc + 1 = pc') (K : Go p l e R s m args below meth c Z a0 EL nw Q vm h k n pc' L (.int x.toInt32 :: st)) : Go p l e R s m args below meth c Z a0 EL nw Q vm h k n pc L (.long x :: st) := by
  subst hp
  exact Go.plain (fun T _ hx X _ r => XT.l2i X.here hx rfl hd rfl r) K
theorem Go.i2b {x : Int32} (hd : decode c.code pc = .ok (.i2b, 1)) (hp : pc + 1 = pc') (K : Go p l e R s m args below meth c Z a0 EL nw Q vm h k n pc' L (.int x.toInt8.toInt32 :: st)) : Go p l e R s m args below meth c Z a0 EL nw Q vm h k n pc L (.int x :: st) := by
  subst hp
  exact Go.plain (fun T _ hx X _ r => XT.i2b X.here hx rfl hd rfl r) K
theorem Go.i2c {x : Int32} (hd : decode c.code pc = .ok (.i2c, 1)) (hp : pc + 1 = pc') (K : Go p l e R s m args below meth c Z a0 EL nw Q vm h k n pc' L (.int (nar .char x) :: st)) : Go p l e R s m args below meth c Z a0 EL nw Q vm h k n pc L (.int x :: st) := by
  subst hp
  exact Go.plain (fun T _ hx X _ r => XT.i2c X.here hx rfl hd rfl r) K
theorem Go.i2s {x : Int32} (hd : decode c.code pc = .ok (.i2s, 1)) (hp : pc + 1 = pc') (K : Go p l e R s m args below meth c Z a0 EL nw Q vm h k n pc' L (.int x.toInt16.toInt32 :: st)) : Go p l e R s m args below meth c Z a0 EL nw Q vm h k n pc L (.int x :: st) := by
  subst hp
  exact Go.plain (fun T _ hx X _ r => XT.i2s X.here hx rfl hd rfl r) K
theorem Go.lcmp {x y : Int64} (hd : decode c.code pc = .ok (.lcmp, 1)) (hp : pc + 1 = pc') (K : Go p l e R s m args below meth c Z a0 EL nw Q vm h k n pc' L (.int (XT.cmpL x y) :: st)) : Go p l e R s m args below meth c Z a0 EL nw Q vm h k n pc L (.long y :: .long x :: st) := by
  subst hp
  exact Go.plain (fun T _ hx X _ r => XT.lcmp X.here hx rfl hd rfl r) K
theorem Go.dup {v : Value} (hd : decode c.code pc = .ok (.dup, 1)) (hp : pc + 1 = pc') (hc : v.category = 1) (K : Go p l e R s m args below meth c Z a0 EL nw Q vm h k n pc' L (v :: v :: st)) : Go p l e R s m args below meth c Z a0 EL nw Q vm h k n pc L (v :: st) := by
  subst hp
  exact Go.plain (fun T _ hx X _ r => XS.dup X.here hx rfl hd rfl hc r) K
theorem Go.pop {v : Value} (hd : decode c.code pc = .ok (.pop, 1)) (hp : pc + 1 = pc') (hc : v.category = 1) (K : Go p l e R s m args below meth c Z a0 EL nw Q vm h k n pc' L st) : Go p l e R s m args below meth c Z a0 EL nw Q vm h k n pc L (v :: st) := by
  subst hp
  exact Go.plain (fun T _ hx X _ r => XT.pop X.here hx rfl hd rfl hc r) K
theorem Go.dupX1 {v w : Value} (hd : decode c.code pc = .ok (.dup_x1, 1)) (hp : pc + 1 = pc') (hc : v.category = 1) (hc' : w.category = 1) (K : Go p l e R s m args below meth c Z a0 EL nw Q vm h k n pc' L (v :: w :: v :: st)) : Go p l e R s m args below meth c Z a0 EL nw Q vm h k n pc L (v :: w :: st) := by
  subst hp
  exact Go.plain (fun T _ hx X _ r => XT.dupX1 X.here hx rfl hd rfl hc hc' r) K
theorem Go.dup2 {v w : Value} (hd : decode c.code pc = .ok (.dup2, 1)) (hp : pc + 1 = pc') (hc : v.category = 1) (hc' : w.category = 1) (K : Go p l e R s m args below meth c Z a0 EL nw Q vm h k n pc' L (v :: w :: v :: w :: st)) : Go p l e R s m args below meth c Z a0 EL nw Q vm h k n pc L (v :: w :: st) := by
  subst hp
  exact Go.plain (fun T _ hx X _ r => XT.dup2 X.here hx rfl hd rfl hc hc' r) K
theorem Go.istoreN {q : Fin 4} {z : Int32} {L' : Array Slot} (hd : decode c.code pc = .ok (.istore_n q, 1)) (hp : pc + 1 = pc') (hl : storeLocals L q.val (.int z) = some L') (K : Go p l e R s m args below meth c Z a0 EL nw Q vm h k n pc' L' st) : Go p l e R s m args below meth c Z a0 EL nw Q vm h k n pc L (.int z :: st) := by
  subst hp
  exact Go.plain (fun T _ hx X _ r => XS.istoreN X.here hx rfl hd rfl hl r) K
theorem Go.istore {q : Nat} {z : Int32} {L' : Array Slot} (hd : decode c.code pc = .ok (.istore q, 2)) (hp : pc + 2 = pc') (hl : storeLocals L q (.int z) = some L') (K : Go p l e R s m args below meth c Z a0 EL nw Q vm h k n pc' L' st) : Go p l e R s m args below meth c Z a0 EL nw Q vm h k n pc L (.int z :: st) := by
  subst hp
  exact Go.plain (fun T _ hx X _ r => XS.istore X.here hx rfl hd rfl hl r) K
theorem Go.lstoreN {q : Fin 4} {z : Int64} {L' : Array Slot} (hd : decode c.code pc = .ok (.lstore_n q, 1)) (hp : pc + 1 = pc') (hl : storeLocals L q.val (.long z) = some L') (K : Go p l e R s m args below meth c Z a0 EL nw Q vm h k n pc' L' st) : Go p l e R s m args below meth c Z a0 EL nw Q vm h k n pc L (.long z :: st) := by
  subst hp
  exact Go.plain (fun T _ hx X _ r => XT.lstoreN X.here hx rfl hd rfl hl r) K
theorem Go.lstore {q : Nat} {z : Int64} {L' : Array Slot} (hd : decode c.code pc = .ok (.lstore q, 2)) (hp : pc + 2 = pc') (hl : storeLocals L q (.long z) = some L') (K : Go p l e R s m args below meth c Z a0 EL nw Q vm h k n pc' L' st) : Go p l e R s m args below meth c Z a0 EL nw Q vm h k n pc L (.long z :: st) := by
  subst hp
  exact Go.plain (fun T _ hx X _ r => XT.lstore X.here hx rfl hd rfl hl r) K
theorem Go.astoreN {q : Fin 4} {v : Value} {L' : Array Slot} (hd : decode c.code pc = .ok (.astore_n q, 1)) (hp : pc + 1 = pc') (hv : v.isRef = true) (hl : storeLocals L q.val v = some L') (K : Go p l e R s m args below meth c Z a0 EL nw Q vm h k n pc' L' st) : Go p l e R s m args below meth c Z a0 EL nw Q vm h k n pc L (v :: st) := by
  subst hp
  exact Go.plain (fun T _ hx X _ r => XS.astoreN X.here hx rfl hd rfl hv hl r) K
theorem Go.astore {q : Nat} {v : Value} {L' : Array Slot} (hd : decode c.code pc = .ok (.astore q, 2)) (hp : pc + 2 = pc') (hv : v.isRef = true) (hl : storeLocals L q v = some L') (K : Go p l e R s m args below meth c Z a0 EL nw Q vm h k n pc' L' st) : Go p l e R s m args below meth c Z a0 EL nw Q vm h k n pc L (v :: st) := by
  subst hp
  exact Go.plain (fun T _ hx X _ r => XS.astore X.here hx rfl hd rfl hv hl r) K
theorem Go.iinc {q : Nat} {i : Int} {x : Int32} {L' : Array Slot} (hd : decode c.code pc = .ok (.iinc q i, 3)) (hp : pc + 3 = pc') (hl : L[q]? = some (.val (.int x))) (hl' : storeLocals L q (.int (x + Int32.ofInt i)) = some L') (K : Go p l e R s m args below meth c Z a0 EL nw Q vm h k n pc' L' st) : Go p l e R s m args below meth c Z a0 EL nw Q vm h k n pc L st := by
  subst hp
  exact Go.plain (fun T _ hx X _ r => XS.iinc X.here hx rfl hd hl hl' r) K
theorem Go.irem {x y : Int32} (hd : decode c.code pc = .ok (.irem, 1)) (hp : pc + 1 = pc') (hy : y ≠ 0) (K : Go p l e R s m args below meth c Z a0 EL nw Q vm h k n pc' L (.int (x % y) :: st)) : Go p l e R s m args below meth c Z a0 EL nw Q vm h k n pc L (.int y :: .int x :: st) := by
  subst hp
  exact Go.plain (fun T _ hx X _ r => iremM X hx (g := mkF m pc L (.int y :: .int x :: st)) rfl hd rfl hy r) K
theorem Go.goto {o : Int} (hd : decode c.code pc = .ok (.goto o, 3)) (ho : 0 ≤ (pc : Int) + o) (hp : ((pc : Int) + o).toNat = pc') (K : Go p l e R s m args below meth c Z a0 EL nw Q vm h k n pc' L st) : Go p l e R s m args below meth c Z a0 EL nw Q vm h k n pc L st :=
  Go.plain (fun T _ hx X _ r => XS.goto X.here hx rfl rfl hd ho hp r) K
/-- what a comparison of ints asks -/
def cP : ClassFile.Cond → Int32 → Int32 → Prop
  | .eq, x, y => x = y
  | .ne, x, y => ¬ x = y
  | .lt, x, y => x < y
  | .ge, x, y => ¬ x < y
  | .gt, x, y => y < x
  | .le, x, y => ¬ y < x
theorem cP_t {cd : ClassFile.Cond} {x y : Int32} (q : cP cd x y) : if_icmp.holds cd x y = true := by
  cases cd
  · exact (teq q).1
  · exact (feq q).2
  · exact (tlt q).1
  · exact (flt q).2.1
  · exact (tlt q).2.2.1
  · exact (flt q).2.2.2
theorem cP_f {cd : ClassFile.Cond} {x y : Int32} (q : ¬ cP cd x y) : if_icmp.holds cd x y = false := by
  cases cd
  · exact (feq q).1
  · exact (teq (Classical.not_not.mp q)).2
  · exact (flt q).1
  · exact (tlt (Classical.not_not.mp q)).2.1
  · exact (flt q).2.2.1
  · exact (tlt (Classical.not_not.mp q)).2.2.2
theorem Go.icmp {cd : ClassFile.Cond} {x y : Int32} {o : Int} {pc2 : Nat} (hd : decode c.code pc = .ok (.if_icmp cd o, 3)) (ho : 0 ≤ (pc : Int) + o) (hp : ((pc : Int) + o).toNat = pc') (hp2 : pc + 3 = pc2) (Kt : cP cd x y → Go p l e R s m args below meth c Z a0 EL nw Q vm h k n pc' L st) (Kf : ¬ cP cd x y → Go p l e R s m args below meth c Z a0 EL nw Q vm h k n pc2 L st) : Go p l e R s m args below meth c Z a0 EL nw Q vm h k n pc L (.int y :: .int x :: st) := by
  subst hp2
  by_cases q : cP cd x y
  · exact Go.plain (fun T _ hx X _ r => XS.icmpYes X.here hx rfl rfl hd rfl (cP_t q) ho hp r) (Kt q)
  · exact Go.plain (fun T _ hx X _ r => XS.icmpNo X.here hx rfl hd rfl (cP_f q) r) (Kf q)
theorem Go.icmpY {cd : ClassFile.Cond} {x y : Int32} {o : Int} (hd : decode c.code pc = .ok (.if_icmp cd o, 3)) (ho : 0 ≤ (pc : Int) + o) (hp : ((pc : Int) + o).toNat = pc') (q : cP cd x y) (K : Go p l e R s m args below meth c Z a0 EL nw Q vm h k n pc' L st) : Go p l e R s m args below meth c Z a0 EL nw Q vm h k n pc L (.int y :: .int x :: st) :=
  Go.plain (fun T _ hx X _ r => XS.icmpYes X.here hx rfl rfl hd rfl (cP_t q) ho hp r) K
theorem Go.icmpN {cd : ClassFile.Cond} {x y : Int32} {o : Int} (hd : decode c.code pc = .ok (.if_icmp cd o, 3)) (hp : pc + 3 = pc') (q : ¬ cP cd x y) (K : Go p l e R s m args below meth c Z a0 EL nw Q vm h k n pc' L st) : Go p l e R s m args below meth c Z a0 EL nw Q vm h k n pc L (.int y :: .int x :: st) := by
  subst hp
  exact Go.plain (fun T _ hx X _ r => XS.icmpNo X.here hx rfl hd rfl (cP_f q) r) K
theorem Go.ifc {cd : ClassFile.Cond} {x : Int32} {o : Int} {pc2 : Nat} (hd : decode c.code pc = .ok (.ifCond cd o, 3)) (ho : 0 ≤ (pc : Int) + o) (hp : ((pc : Int) + o).toNat = pc') (hp2 : pc + 3 = pc2) (Kt : cP cd x 0 → Go p l e R s m args below meth c Z a0 EL nw Q vm h k n pc' L st) (Kf : ¬ cP cd x 0 → Go p l e R s m args below meth c Z a0 EL nw Q vm h k n pc2 L st) : Go p l e R s m args below meth c Z a0 EL nw Q vm h k n pc L (.int x :: st) := by
  subst hp2
  by_cases q : cP cd x 0
  · exact Go.plain (fun T _ hx X _ r => XS.ifYes X.here hx rfl rfl hd rfl ((if0 cd x).trans (cP_t q)) ho hp r) (Kt q)
  · exact Go.plain (fun T _ hx X _ r => XS.ifNo X.here hx rfl hd rfl ((if0 cd x).trans (cP_f q)) r) (Kf q)
theorem Go.ifY {cd : ClassFile.Cond} {x : Int32} {o : Int} (hd : decode c.code pc = .ok (.ifCond cd o, 3)) (ho : 0 ≤ (pc : Int) + o) (hp : ((pc : Int) + o).toNat = pc') (q : cP cd x 0) (K : Go p l e R s m args below meth c Z a0 EL nw Q vm h k n pc' L st) : Go p l e R s m args below meth c Z a0 EL nw Q vm h k n pc L (.int x :: st) :=
  Go.plain (fun T _ hx X _ r => XS.ifYes X.here hx rfl rfl hd rfl ((if0 cd x).trans (cP_t q)) ho hp r) K
theorem Go.ifN {cd : ClassFile.Cond} {x : Int32} {o : Int} (hd : decode c.code pc = .ok (.ifCond cd o, 3)) (hp : pc + 3 = pc') (q : ¬ cP cd x 0) (K : Go p l e R s m args below meth c Z a0 EL nw Q vm h k n pc' L st) : Go p l e R s m args below meth c Z a0 EL nw Q vm h k n pc L (.int x :: st) := by
  subst hp
  exact Go.plain (fun T _ hx X _ r => XS.ifNo X.here hx rfl hd rfl ((if0 cd x).trans (cP_f q)) r) K
theorem Go.ifnullY {o : Int} (hd : decode c.code pc = .ok (.ifnull o, 3)) (ho : 0 ≤ (pc : Int) + o) (hp : ((pc : Int) + o).toNat = pc') (K : Go p l e R s m args below meth c Z a0 EL nw Q vm h k n pc' L st) : Go p l e R s m args below meth c Z a0 EL nw Q vm h k n pc L (.null :: st) :=
  Go.plain (fun T _ hx X _ r => XS.ifnullYes X.here hx rfl rfl hd rfl ho hp r) K
theorem Go.ifnullN {o : Int} {b : Addr} (hd : decode c.code pc = .ok (.ifnull o, 3)) (hp : pc + 3 = pc') (K : Go p l e R s m args below meth c Z a0 EL nw Q vm h k n pc' L st) : Go p l e R s m args below meth c Z a0 EL nw Q vm h k n pc L (.ref b :: st) := by
  subst hp
  exact Go.plain (fun T _ hx X _ r => XS.ifnullNo X.here hx rfl hd rfl r) K
theorem Go.ifnonnullY {o : Int} {b : Addr} (hd : decode c.code pc = .ok (.ifnonnull o, 3)) (ho : 0 ≤ (pc : Int) + o) (hp : ((pc : Int) + o).toNat = pc') (K : Go p l e R s m args below meth c Z a0 EL nw Q vm h k n pc' L st) : Go p l e R s m args below meth c Z a0 EL nw Q vm h k n pc L (.ref b :: st) :=
  Go.plain (fun T _ hx X _ r => XT.ifnonnullYes X.here hx rfl rfl hd rfl ho hp r) K
theorem Go.ifnonnullN {o : Int} (hd : decode c.code pc = .ok (.ifnonnull o, 3)) (hp : pc + 3 = pc') (K : Go p l e R s m args below meth c Z a0 EL nw Q vm h k n pc' L st) : Go p l e R s m args below meth c Z a0 EL nw Q vm h k n pc L (.null :: st) := by
  subst hp
  exact Go.plain (fun T _ hx X _ r => XT.ifnonnullNo X.here hx rfl hd rfl r) K
theorem Go.acmpY {cd : ClassFile.ACond} {x y : Value} {o : Int} (hd : decode c.code pc = .ok (.if_acmp cd o, 3)) (ho : 0 ≤ (pc : Int) + o) (hp : ((pc : Int) + o).toNat = pc') (h1 : x.isRef = true) (h2 : y.isRef = true) (q : XT.acmp cd x y = true) (K : Go p l e R s m args below meth c Z a0 EL nw Q vm h k n pc' L st) : Go p l e R s m args below meth c Z a0 EL nw Q vm h k n pc L (y :: x :: st) :=
  Go.plain (fun T _ hx X _ r => XT.acmpYes X.here hx rfl rfl hd rfl h1 h2 q ho hp r) K
theorem Go.acmpN {cd : ClassFile.ACond} {x y : Value} {o : Int} (hd : decode c.code pc = .ok (.if_acmp cd o, 3)) (hp : pc + 3 = pc') (h1 : x.isRef = true) (h2 : y.isRef = true) (q : XT.acmp cd x y = false) (K : Go p l e R s m args below meth c Z a0 EL nw Q vm h k n pc' L st) : Go p l e R s m args below meth c Z a0 EL nw Q vm h k n pc L (y :: x :: st) := by
  subst hp
  exact Go.plain (fun T _ hx X _ r => XT.acmpNo X.here hx rfl hd rfl h1 h2 q r) K
theorem Go.getF {own R0 O nm d : String} {index : Nat} {a : Addr} {v : Value} (hown : Z.vm.findClass own = some m.cls) (w : (Jvm.Cond.fieldLink own index R0 nm d).before a0 Z = true) (via : Via Z R0 O nm d) (F : Fld Z h a O nm d v) (hd : decode c.code pc = .ok (.getfield index, 3)) (hp : pc + 3 = pc') (K : Go p l e R s m args below meth c Z a0 EL nw Q vm h k n pc' L (v :: st)) : Go p l e R s m args below meth c Z a0 EL nw Q vm h k n pc L (.ref a :: st) := fun T locs k0 hx hk hE X eT hS hk0 hF hZ hN hC hO => by
  subst hp
  have hown' : (s.setVm vm).vm.findClass own = some m.cls := by
    show vm.findClass own = _
    rw [hZ.alike.findClass]; exact hown
  obtain ⟨T', X', e', st'⟩ := RoadKit.getF X hx (s := s.setVm vm) hZ hown' (host := "") (Or.inl w) via eT F (g := mkF m pc L (.ref a :: st)) rfl rfl hd
  obtain ⟨t, v, L', r1, r2⟩ := K T' locs k0 hx hk hE X' e' hS hk0 hF hZ hN hC hO
  exact ⟨t, v, L', st' _ r1, r2⟩
theorem Go.getFN {own R0 O nm d host : String} {index : Nat} {a : Addr} {v : Value} (hown : Z.vm.findClass own = some m.cls) (w : (Jvm.Cond.fieldLinkNest own index R0 nm d host).before a0 Z = true) (via : Via Z R0 O nm d) (F : Fld Z h a O nm d v) (hd : decode c.code pc = .ok (.getfield index, 3)) (hp : pc + 3 = pc') (K : Go p l e R s m args below meth c Z a0 EL nw Q vm h k n pc' L (v :: st)) : Go p l e R s m args below meth c Z a0 EL nw Q vm h k n pc L (.ref a :: st) := fun T locs k0 hx hk hE X eT hS hk0 hF hZ hN hC hO => by
  subst hp
  have hown' : (s.setVm vm).vm.findClass own = some m.cls := by
    show vm.findClass own = _
    rw [hZ.alike.findClass]; exact hown
  obtain ⟨T', X', e', st'⟩ := RoadKit.getF X hx (s := s.setVm vm) hZ hown' (Or.inr w) via eT F (g := mkF m pc L (.ref a :: st)) rfl rfl hd
  obtain ⟨t, v, L', r1, r2⟩ := K T' locs k0 hx hk hE X' e' hS hk0 hF hZ hN hC hO
  exact ⟨t, v, L', st' _ r1, r2⟩
theorem Go.getS {own R0 O nm d : String} {index : Nat} {v : Value} (hown : Z.vm.findClass own = some m.cls) (w : (Jvm.Cond.fieldLink own index R0 nm d).before a0 Z = true) (via : Via Z R0 O nm d) (F : Sta Z Z.heap O nm d v) (hd : decode c.code pc = .ok (.getstatic index, 3)) (hp : pc + 3 = pc') (K : Go p l e R s m args below meth c Z a0 EL nw Q vm h k n pc' L (v :: st)) : Go p l e R s m args below meth c Z a0 EL nw Q vm h k n pc L st := fun T locs k0 hx hk hE X eT hS hk0 hF hZ hN hC hO => by
  subst hp
  have hown' : (s.setVm vm).vm.findClass own = some m.cls := by
    show vm.findClass own = _
    rw [hZ.alike.findClass]; exact hown
  obtain ⟨T', X', e', st'⟩ := RoadKit.getS X hx (s := s.setVm vm) hZ (host := "") hown' w via eT (F.ext hO) (g := mkF m pc L st) rfl hd
  obtain ⟨t, v, L', r1, r2⟩ := K T' locs k0 hx hk hE X' e' hS hk0 hF hZ hN hC hO
  exact ⟨t, v, L', st' _ r1, r2⟩
theorem Go.getSN {own R0 O nm d host : String} {index : Nat} {v : Value} (hown : Z.vm.findClass own = some m.cls) (w : (Jvm.Cond.fieldLinkNest own index R0 nm d host).before a0 Z = true) (via : Via Z R0 O nm d) (F : Sta Z Z.heap O nm d v) (hd : decode c.code pc = .ok (.getstatic index, 3)) (hp : pc + 3 = pc') (K : Go p l e R s m args below meth c Z a0 EL nw Q vm h k n pc' L (v :: st)) : Go p l e R s m args below meth c Z a0 EL nw Q vm h k n pc L st := fun T locs k0 hx hk hE X eT hS hk0 hF hZ hN hC hO => by
  subst hp
  have hown' : (s.setVm vm).vm.findClass own = some m.cls := by
    show vm.findClass own = _
    rw [hZ.alike.findClass]; exact hown
  obtain ⟨T', X', e', st'⟩ := RoadKit.getS2 X hx (s := s.setVm vm) hZ hown' (Or.inr w) via eT (F.ext hO) (g := mkF m pc L st) rfl hd
  obtain ⟨t, v, L', r1, r2⟩ := K T' locs k0 hx hk hE X' e' hS hk0 hF hZ hN hC hO
  exact ⟨t, v, L', st' _ r1, r2⟩
theorem Go.castY {own K0 : String} {index : Nat} {a : Addr} (hown : Z.vm.findClass own = some m.cls) (w : (Jvm.Cond.classLink own index K0).before a0 Z = true) (F : Ins Z h a K0 true) (hd : decode c.code pc = .ok (.checkcast index, 3)) (hp : pc + 3 = pc') (K : Go p l e R s m args below meth c Z a0 EL nw Q vm h k n pc' L (.ref a :: st)) : Go p l e R s m args below meth c Z a0 EL nw Q vm h k n pc L (.ref a :: st) := fun T locs k0 hx hk hE X eT hS hk0 hF hZ hN hC hO => by
  subst hp
  have hown' : (s.setVm vm).vm.findClass own = some m.cls := by
    show vm.findClass own = _
    rw [hZ.alike.findClass]; exact hown
  obtain ⟨T', X', e', st'⟩ := RoadKit.castY X hx (s := s.setVm vm) hZ hown' w eT F (g := mkF m pc L (.ref a :: st)) rfl rfl hd
  obtain ⟨t, v, L', r1, r2⟩ := K T' locs k0 hx hk hE X' e' hS hk0 hF hZ hN hC hO
  exact ⟨t, v, L', st' _ r1, r2⟩
theorem Go.instY {own K0 : String} {index : Nat} {a : Addr} (hown : Z.vm.findClass own = some m.cls) (w : (Jvm.Cond.classLink own index K0).before a0 Z = true) (F : Ins Z h a K0 true) (hd : decode c.code pc = .ok (.instanceof index, 3)) (hp : pc + 3 = pc') (K : Go p l e R s m args below meth c Z a0 EL nw Q vm h k n pc' L (.int 1 :: st)) : Go p l e R s m args below meth c Z a0 EL nw Q vm h k n pc L (.ref a :: st) := fun T locs k0 hx hk hE X eT hS hk0 hF hZ hN hC hO => by
  subst hp
  have hown' : (s.setVm vm).vm.findClass own = some m.cls := by
    show vm.findClass own = _
    rw [hZ.alike.findClass]; exact hown
  obtain ⟨T', X', e', st'⟩ := RoadKit.instY X hx (s := s.setVm vm) hZ hown' w eT F (g := mkF m pc L (.ref a :: st)) rfl rfl hd
  obtain ⟨t, v, L', r1, r2⟩ := K T' locs k0 hx hk hE X' e' hS hk0 hF hZ hN hC hO
  exact ⟨t, v, L', st' _ r1, r2⟩
theorem Go.instNo {own K0 C : String} {index : Nat} {a : Addr} (hown : Z.vm.findClass own = some m.cls) (w : (Jvm.Cond.classLink own index K0).before a0 Z = true) (E : Exa Z h a C) (F : ∃ c t, Z.vm.findClass C = some c ∧ Z.vm.findClass K0 = some t ∧ Z.vm.assignable c t = false) (hd : decode c.code pc = .ok (.instanceof index, 3)) (hp : pc + 3 = pc') (K : Go p l e R s m args below meth c Z a0 EL nw Q vm h k n pc' L (.int 0 :: st)) : Go p l e R s m args below meth c Z a0 EL nw Q vm h k n pc L (.ref a :: st) := fun T locs k0 hx hk hE X eT hS hk0 hF hZ hN hC hO => by
  subst hp
  have hown' : (s.setVm vm).vm.findClass own = some m.cls := by
    show vm.findClass own = _
    rw [hZ.alike.findClass]; exact hown
  obtain ⟨T', X', e', st'⟩ := RoadKit.instNo X hx (s := s.setVm vm) hZ hown' w eT E F (g := mkF m pc L (.ref a :: st)) rfl rfl hd
  obtain ⟨t, v, L', r1, r2⟩ := K T' locs k0 hx hk hE X' e' hS hk0 hF hZ hN hC hO
  exact ⟨t, v, L', st' _ r1, r2⟩
theorem Go.initO {own : String} {index W : Nat} {a : Addr} (hown : Z.vm.findClass own = some m.cls) (w1 : (Jvm.Cond.methodLink own index Lib.objectInit).before a0 Z = true) (w2 : (Jvm.Cond.instanceMethod Lib.objectInit).before a0 Z = true) (w3 : (Jvm.Cond.code Lib.objectInit ⟨#[0xb1]⟩ 1 none).before a0 Z = true) (hL : L.size = c.maxLocals) (hd : decode c.code pc = .ok (.invokespecial index, 3)) (hf : 1 ≤ R.frames) (hW : (st.map fun v => v.category).sum = W) (hl : W + 12 ≤ R.locals) (hp : pc + 3 = pc') (K : Go p l e R s m args below meth c Z a0 EL nw Q vm h k n pc' L st) : Go p l e R s m args below meth c Z a0 EL nw Q vm h k n pc L (.ref a :: st) := fun T locs k0 hx hk hE X eT hS hk0 hF hZ hN hC hO => by
  subst hp
  have hown' : (s.setVm vm).vm.findClass own = some m.cls := by
    show vm.findClass own = _
    rw [hZ.alike.findClass]; exact hown
  obtain ⟨T', X', e', st'⟩ := RoadKit.initO X hx (s := s.setVm vm) hZ hown' w1 w2 w3 eT (g := mkF m pc L (.ref a :: st)) rfl hL rfl hd hf (W := W) (by show 2 * 0 + _ ≤ _; rw [Nat.mul_zero, Nat.zero_add]; exact Nat.le_of_eq hW) hl
  obtain ⟨t, v, L', r1, r2⟩ := K T' locs k0 hx hk hE X' e' hS hk0 hF hZ hN hC hO
  exact ⟨t, v, L', st' _ r1, r2⟩
theorem Go.ldcInt {own : String} {index : Nat} {z : Int32} (hown : Z.vm.findClass own = some m.cls) (w : (Jvm.Cond.constant own index z).before a0 Z = true) (hd : decode c.code pc = .ok (.ldc index, 2)) (hp : pc + 2 = pc') (K : Go p l e R s m args below meth c Z a0 EL nw Q vm h k n pc' L (.int z :: st)) : Go p l e R s m args below meth c Z a0 EL nw Q vm h k n pc L st := fun T locs k0 hx hk hE X eT hS hk0 hF hZ hN hC hO => by
  subst hp
  have hown' : (s.setVm vm).vm.findClass own = some m.cls := by
    show vm.findClass own = _
    rw [hZ.alike.findClass]; exact hown
  obtain ⟨t, v, L', r1, r2⟩ := K T locs k0 hx hk hE X eT hS hk0 hF hZ hN hC hO
  exact ⟨t, v, L', X.ldcInt hx hown' (mv (s := s.setVm vm) hZ w) (g := mkF m pc L st) rfl hd _ r1, r2⟩
theorem Go.ldc2Long {own : String} {index : Nat} {z : Int64} (hown : Z.vm.findClass own = some m.cls) (w : (Jvm.Cond.constantLong own index z).before a0 Z = true) (hd : decode c.code pc = .ok (.ldc2_w index, 3)) (hp : pc + 3 = pc') (K : Go p l e R s m args below meth c Z a0 EL nw Q vm h k n pc' L (.long z :: st)) : Go p l e R s m args below meth c Z a0 EL nw Q vm h k n pc L st := fun T locs k0 hx hk hE X eT hS hk0 hF hZ hN hC hO => by
  subst hp
  have hown' : (s.setVm vm).vm.findClass own = some m.cls := by
    show vm.findClass own = _
    rw [hZ.alike.findClass]; exact hown
  obtain ⟨t, v, L', r1, r2⟩ := K T locs k0 hx hk hE X eT hS hk0 hF hZ hN hC hO
  exact ⟨t, v, L', X.ldc2Long hx hown' (mv (s := s.setVm vm) hZ w) (g := mkF m pc L st) rfl hd _ r1, r2⟩
theorem Go.alen {a : Addr} {kA : ClassId} {ty : FieldType} {vs : List Value} {z : Int32} (A : Ar Z h a kA ty vs) (hz : vs.length.toInt32 = z) (hd : decode c.code pc = .ok (.arraylength, 1)) (hp : pc + 1 = pc') (K : Go p l e R s m args below meth c Z a0 EL nw Q vm h k n pc' L (.int z :: st)) : Go p l e R s m args below meth c Z a0 EL nw Q vm h k n pc L (.ref a :: st) := fun T locs k0 hx hk hE X eT hS hk0 hF hZ hN hC hO => by
  subst hp
  obtain ⟨t, v, L', r1, r2⟩ := K T locs k0 hx hk hE X eT hS hk0 hF hZ hN hC hO
  obtain ⟨cl, A, -, rfl⟩ := A
  refine ⟨t, v, L', X.arraylength hx (cell := cl) (by rw [eT]; exact A.1) (State.isArrayOf_alike (s := Z) (T := s.setVm vm) hZ.alike A.2.1) (g := mkF m pc L (.ref a :: st)) rfl rfl hd _ ?_, r2⟩
  have q : cl.slots.size.toInt32 = z := by rw [← hz]; simp
  rw [q]; exact r1
theorem Go.caload {a : Addr} {kA : ClassId} {vs : List Value} {j : Int32} {v : Value} (A : Ar Z h a kA .char vs) (hj : ¬ j < 0) (hv : vs[j.toNatClampNeg]? = some v) (hd : decode c.code pc = .ok (.caload, 1)) (hp : pc + 1 = pc') (K : Go p l e R s m args below meth c Z a0 EL nw Q vm h k n pc' L (v :: st)) : Go p l e R s m args below meth c Z a0 EL nw Q vm h k n pc L (.int j :: .ref a :: st) := fun T locs k0 hx hk hE X eT hS hk0 hF hZ hN hC hO => by
  subst hp
  obtain ⟨t, v', L', r1, r2⟩ := K T locs k0 hx hk hE X eT hS hk0 hF hZ hN hC hO
  obtain ⟨cl, A, -, rfl⟩ := A
  rw [Array.getElem?_toList] at hv
  exact ⟨t, v', L', X.caload hx (cell := cl) (by rw [eT]; exact A.1) (State.isArrayOf_alike (s := Z) (T := s.setVm vm) hZ.alike A.2.1) A.2.2 (fun q => q.elim hj fun q => absurd (Array.getElem?_eq_some_iff.mp hv).1 (Nat.not_lt.mpr q)) hv (g := mkF m pc L (.int j :: .ref a :: st)) rfl rfl hd _ r1, r2⟩
theorem Go.baload {a : Addr} {kA : ClassId} {vs : List Value} {j : Int32} {v : Value} (A : Ar Z h a kA .byte vs) (hj : ¬ j < 0) (hv : vs[j.toNatClampNeg]? = some v) (hd : decode c.code pc = .ok (.baload, 1)) (hp : pc + 1 = pc') (K : Go p l e R s m args below meth c Z a0 EL nw Q vm h k n pc' L (v :: st)) : Go p l e R s m args below meth c Z a0 EL nw Q vm h k n pc L (.int j :: .ref a :: st) := fun T locs k0 hx hk hE X eT hS hk0 hF hZ hN hC hO => by
  subst hp
  obtain ⟨t, v', L', r1, r2⟩ := K T locs k0 hx hk hE X eT hS hk0 hF hZ hN hC hO
  obtain ⟨cl, A, -, rfl⟩ := A
  rw [Array.getElem?_toList] at hv
  exact ⟨t, v', L', X.baloadBytes hx (cell := cl) (by rw [eT]; exact A.1) (State.isArrayOf_alike (s := Z) (T := s.setVm vm) hZ.alike A.2.1) A.2.2 (fun q => q.elim hj fun q => absurd (Array.getElem?_eq_some_iff.mp hv).1 (Nat.not_lt.mpr q)) hv (g := mkF m pc L (.int j :: .ref a :: st)) rfl rfl hd _ r1, r2⟩
theorem Go.iaload {a : Addr} {kA : ClassId} {vs : List Value} {j : Int32} {v : Value} (A : Ar Z h a kA .int vs) (hj : ¬ j < 0) (hv : vs[j.toNatClampNeg]? = some v) (hd : decode c.code pc = .ok (.iaload, 1)) (hp : pc + 1 = pc') (K : Go p l e R s m args below meth c Z a0 EL nw Q vm h k n pc' L (v :: st)) : Go p l e R s m args below meth c Z a0 EL nw Q vm h k n pc L (.int j :: .ref a :: st) := fun T locs k0 hx hk hE X eT hS hk0 hF hZ hN hC hO => by
  subst hp
  obtain ⟨t, v', L', r1, r2⟩ := K T locs k0 hx hk hE X eT hS hk0 hF hZ hN hC hO
  obtain ⟨cl, A, -, rfl⟩ := A
  rw [Array.getElem?_toList] at hv
  exact ⟨t, v', L', X.iaload hx (cell := cl) (by rw [eT]; exact A.1) (State.isArrayOf_alike (s := Z) (T := s.setVm vm) hZ.alike A.2.1) A.2.2 (fun q => q.elim hj fun q => absurd (Array.getElem?_eq_some_iff.mp hv).1 (Nat.not_lt.mpr q)) hv (g := mkF m pc L (.int j :: .ref a :: st)) rfl rfl hd _ r1, r2⟩
theorem Go.laload {a : Addr} {kA : ClassId} {vs : List Value} {j : Int32} {v : Value} (A : Ar Z h a kA .long vs) (hj : ¬ j < 0) (hv : vs[j.toNatClampNeg]? = some v) (hd : decode c.code pc = .ok (.laload, 1)) (hp : pc + 1 = pc') (K : Go p l e R s m args below meth c Z a0 EL nw Q vm h k n pc' L (v :: st)) : Go p l e R s m args below meth c Z a0 EL nw Q vm h k n pc L (.int j :: .ref a :: st) := fun T locs k0 hx hk hE X eT hS hk0 hF hZ hN hC hO => by
  subst hp
  obtain ⟨t, v', L', r1, r2⟩ := K T locs k0 hx hk hE X eT hS hk0 hF hZ hN hC hO
  obtain ⟨cl, A, -, rfl⟩ := A
  rw [Array.getElem?_toList] at hv
  exact ⟨t, v', L', X.laload hx (cell := cl) (by rw [eT]; exact A.1) (State.isArrayOf_alike (s := Z) (T := s.setVm vm) hZ.alike A.2.1) A.2.2 (fun q => q.elim hj fun q => absurd (Array.getElem?_eq_some_iff.mp hv).1 (Nat.not_lt.mpr q)) hv (g := mkF m pc L (.int j :: .ref a :: st)) rfl rfl hd _ r1, r2⟩
theorem Go.aaload {a : Addr} {kA : ClassId} {ty : FieldType} {vs : List Value} {j : Int32} {v : Value} (A : Ar Z h a kA ty vs) (hty : ty.isReference = true) (hj : ¬ j < 0) (hv : vs[j.toNatClampNeg]? = some v) (hd : decode c.code pc = .ok (.aaload, 1)) (hp : pc + 1 = pc') (K : Go p l e R s m args below meth c Z a0 EL nw Q vm h k n pc' L (v :: st)) : Go p l e R s m args below meth c Z a0 EL nw Q vm h k n pc L (.int j :: .ref a :: st) := fun T locs k0 hx hk hE X eT hS hk0 hF hZ hN hC hO => by
  subst hp
  obtain ⟨t, v', L', r1, r2⟩ := K T locs k0 hx hk hE X eT hS hk0 hF hZ hN hC hO
  obtain ⟨cl, A, -, rfl⟩ := A
  rw [Array.getElem?_toList] at hv
  exact ⟨t, v', L', X.aaload hx (cell := cl) (by rw [eT]; exact A.1) (State.isArrayOf_alike (s := Z) (T := s.setVm vm) hZ.alike A.2.1) hty A.2.2 (fun q => q.elim hj fun q => absurd (Array.getElem?_eq_some_iff.mp hv).1 (Nat.not_lt.mpr q)) hv (g := mkF m pc L (.int j :: .ref a :: st)) rfl rfl hd _ r1, r2⟩
theorem Go.newO {own C : String} {index nn : Nat} (hown : Z.vm.findClass own = some m.cls) (w : (Jvm.Cond.classLink own index C).before a0 Z = true) (wi : (Jvm.Cond.instantiable C nn).before a0 Z = true) (wz : (Jvm.Cond.initialized C).before a0 Z = true) (hd : decode c.code pc = .ok (.new index, 3)) (hp : pc + 3 = pc') (hc : k + 1 ≤ R.cells) (hl : n + nn ≤ R.slots)
    (K : ∀ (h' : Heap) (a : Addr), h.size ≤ a → h'.size > a → Ext h h' → Exa Z h' a C → (∀ {O nm d : String} {ty : FieldType}, Laid Z a0 C O nm d → parseFieldDescriptor d = some ty → Fld Z h' a O nm d (defaultValue ty)) → Safe Z EL vm h' a → CHr Z EL vm h vm h' → Go p l e R s m args below meth c Z a0 EL nw Q vm h' (k + 1) (n + nn) pc' L (.ref a :: st)) : Go p l e R s m args below meth c Z a0 EL nw Q vm h k n pc L st := fun T locs k0 hx hk hE X eT hS hk0 hF hZ hN hC hO => by
  subst hp
  have hown' : (s.setVm vm).vm.findClass own = some m.cls := by
    show vm.findClass own = _
    rw [hZ.alike.findClass]; exact hown
  obtain ⟨T', h', X', e', E', A', D', -, st'⟩ := RoadKit.newO X hx (s := s.setVm vm) hZ hown' w wi wz eT (g := mkF m pc L st) rfl hd hc hl
  obtain ⟨t, v, L', r1, r2⟩ := K h' h.size (Nat.le_refl _) A'.lt E' A' D' (Safe.ext E' hC.1 (Safe.new (Nat.le_refl _))) (CHr.ext E' hC.1) T' locs k0 hx hk hE X' e' hS (Nat.le_trans hk0 E'.1) hF hZ hN (hC.trans (CHr.ext E' hC.1)) (ext_trans hO E')
  exact ⟨t, v, L', st' _ r1, r2⟩
theorem Go.newP {aty : ArrayType} {ty : FieldType} {z : Int32} {cap : Nat} (hty : newarray.typeOf aty = ty) (w : (Jvm.Cond.arrayClass ty).before a0 Z = true) (hd : decode c.code pc = .ok (.newarray aty, 2)) (hp : pc + 2 = pc') (hz : ¬ z < 0) (hcap : z.toNatClampNeg ≤ cap) (hb : cap * 8 ≤ 536870912) (hc : k + 1 ≤ R.cells) (hl : n + cap ≤ R.slots)
    (K : ∀ (h' : Heap) (a : Addr) (kA : ClassId), h.size ≤ a → h'.size > a → Ext h h' → Ar Z h' a kA ty (List.replicate z.toNatClampNeg (defaultValue ty)) → Safe Z EL vm h' a → CHr Z EL vm h vm h' → Go p l e R s m args below meth c Z a0 EL nw Q vm h' (k + 1) (n + cap) pc' L (.ref a :: st)) : Go p l e R s m args below meth c Z a0 EL nw Q vm h k n pc L (.int z :: st) := fun T locs k0 hx hk hE X eT hS hk0 hF hZ hN hC hO => by
  subst hp hty
  obtain ⟨T', h', cA, X', e', E', A', st'⟩ := RoadKit.newP X hx (s := s.setVm vm) hZ w eT (g := mkF m pc L (.int z :: st)) rfl hd rfl hz hcap hb hc hl
  obtain ⟨t, v, L', r1, r2⟩ := K h' h.size cA (Nat.le_refl _) A'.lt E' ⟨_, A', rfl, by simp [newA]⟩ (Safe.ext E' hC.1 (Safe.new (Nat.le_refl _))) (CHr.ext E' hC.1) T' locs k0 hx hk hE X' e' hS (Nat.le_trans hk0 E'.1) hF hZ hN (hC.trans (CHr.ext E' hC.1)) (ext_trans hO E')
  exact ⟨t, v, L', st' _ r1, r2⟩
theorem Go.newR {own C : String} {index : Nat} {z : Int32} {cap : Nat} (hown : Z.vm.findClass own = some m.cls) (w1 : (Jvm.Cond.classLink own index C).before a0 Z = true) (w2 : (Jvm.Cond.arrayOver (.object C)).before a0 Z = true) (hd : decode c.code pc = .ok (.anewarray index, 3)) (hp : pc + 3 = pc') (hz : ¬ z < 0) (hcap : z.toNatClampNeg ≤ cap) (hb : cap * 8 ≤ 536870912) (hc : k + 1 ≤ R.cells) (hl : n + cap ≤ R.slots)
    (K : ∀ (h' : Heap) (a : Addr) (kA : ClassId), h.size ≤ a → h'.size > a → Ext h h' → Ar Z h' a kA (.object C) (List.replicate z.toNatClampNeg .null) → Ovr Z kA C → CHr Z EL vm h vm h' → Go p l e R s m args below meth c Z a0 EL nw Q vm h' (k + 1) (n + cap) pc' L (.ref a :: st)) : Go p l e R s m args below meth c Z a0 EL nw Q vm h k n pc L (.int z :: st) := fun T locs k0 hx hk hE X eT hS hk0 hF hZ hN hC hO => by
  subst hp
  have hown' : (s.setVm vm).vm.findClass own = some m.cls := by
    show vm.findClass own = _
    rw [hZ.alike.findClass]; exact hown
  obtain ⟨T', h', cA, X', e', E', A', O', st'⟩ := RoadKit.newR X hx (s := s.setVm vm) hZ hown' w1 w2 eT (g := mkF m pc L (.int z :: st)) rfl hd rfl hz hcap hb hc hl
  obtain ⟨t, v, L', r1, r2⟩ := K h' h.size cA (Nat.le_refl _) A'.lt E' ⟨_, A', rfl, by simp [newA, defaultValue]⟩ O' (CHr.ext E' hC.1) T' locs k0 hx hk hE X' e' hS (Nat.le_trans hk0 E'.1) hF hZ hN (hC.trans (CHr.ext E' hC.1)) (ext_trans hO E')
  exact ⟨t, v, L', st' _ r1, r2⟩
theorem Go.putF {own R0 O nm d C : String} {index kk : Nat} {ty : FieldType} {a : Addr} {v v' old : Value} (hown : Z.vm.findClass own = some m.cls) (w : (Jvm.Cond.fieldLink own index R0 nm d).before a0 Z = true) (via : Via Z R0 O nm d) (F : Fld Z h a O nm d old) (E : Exa Z h a C)
    (Ly : (Jvm.Cond.lays C O nm d).before a0 Z = true ∨ ((Jvm.Cond.laysFinal C O nm d).before a0 Z = true ∧ own = O ∧ meth.name = "<init>")) (wi : (Jvm.Cond.instantiable C kk).before a0 Z = true) (hty : parseFieldDescriptor d = some ty) (hn : narrow ty v = v') (hf : fits ty v' = true) (hs0 : (C ≠ "java/lang/String" ∧ C ≠ "[B") ∨ Safe Z EL vm h a) (hge : Z.heap.size ≤ a) (hd : decode c.code pc = .ok (.putfield index, 3)) (hp : pc + 3 = pc')
    (K : ∀ (h' : Heap), Wr h h' a (RoadKit.slotOf Z O nm d) v' → h'.size = h.size → Keep h h' [a] → CHr Z EL vm h vm h' → Go p l e R s m args below meth c Z a0 EL nw Q vm h' k n pc' L st) : Go p l e R s m args below meth c Z a0 EL nw Q vm h k n pc L (v :: .ref a :: st) := fun T locs k0 hx hk hE X eT hS hk0 hF hZ hN hC hO => by
  subst hp
  have hown' : (s.setVm vm).vm.findClass own = some m.cls := by
    show vm.findClass own = _
    rw [hZ.alike.findClass]; exact hown
  have hs : Safe Z EL vm h a := hs0.elim (fun q => Safe.exa hZ.alike E q.1 q.2) id
  obtain ⟨T', h', X', e', W', st'⟩ := RoadKit.putFN X hx (s := s.setVm vm) hZ hown' w via eT F E Ly wi hty hn hf (g := mkF m pc L (v :: .ref a :: st)) rfl rfl hd
  obtain ⟨t, v, L', r1, r2⟩ := K h' W' W'.size (Keep.of_wr W') (CHr.wr W' hs hC.1) T' _ k0 hx hk hE X' e' hS (by rw [W'.size]; exact hk0) (Fr.snoc X' hF hge) hZ hN (hC.trans (CHr.wr W' hs hC.1)) (ext_wr hO W' hge)
  exact ⟨t, v, L', st' _ r1, r2⟩
theorem Go.putFN {own R0 O nm d C host : String} {index kk : Nat} {ty : FieldType} {a : Addr} {v old : Value} (hown : Z.vm.findClass own = some m.cls) (w : (Jvm.Cond.fieldLinkNest own index R0 nm d host).before a0 Z = true) (via : Via Z R0 O nm d) (F : Fld Z h a O nm d old) (E : Exa Z h a C)
    (Ly : (Jvm.Cond.lays C O nm d).before a0 Z = true ∨ ((Jvm.Cond.laysFinal C O nm d).before a0 Z = true ∧ own = O ∧ meth.name = "<init>")) (wi : (Jvm.Cond.instantiable C kk).before a0 Z = true) (hty : parseFieldDescriptor d = some ty) (hn : narrow ty v = v) (hf : fits ty v = true) (hs0 : (C ≠ "java/lang/String" ∧ C ≠ "[B") ∨ Safe Z EL vm h a) (hge : Z.heap.size ≤ a) (hd : decode c.code pc = .ok (.putfield index, 3)) (hp : pc + 3 = pc')
    (K : ∀ (h' : Heap), Wr h h' a (RoadKit.slotOf Z O nm d) v → h'.size = h.size → Keep h h' [a] → CHr Z EL vm h vm h' → Go p l e R s m args below meth c Z a0 EL nw Q vm h' k n pc' L st) : Go p l e R s m args below meth c Z a0 EL nw Q vm h k n pc L (v :: .ref a :: st) := fun T locs k0 hx hk hE X eT hS hk0 hF hZ hN hC hO => by
  subst hp
  have hown' : (s.setVm vm).vm.findClass own = some m.cls := by
    show vm.findClass own = _
    rw [hZ.alike.findClass]; exact hown
  have hs : Safe Z EL vm h a := hs0.elim (fun q => Safe.exa hZ.alike E q.1 q.2) id
  obtain ⟨T', h', X', e', W', st'⟩ := RoadKit.putF X hx (s := s.setVm vm) hZ hown' (Or.inr w) via eT F E Ly wi hty hn hf (g := mkF m pc L (v :: .ref a :: st)) rfl rfl hd
  obtain ⟨t, v, L', r1, r2⟩ := K h' W' W'.size (Keep.of_wr W') (CHr.wr W' hs hC.1) T' _ k0 hx hk hE X' e' hS (by rw [W'.size]; exact hk0) (Fr.snoc X' hF hge) hZ hN (hC.trans (CHr.wr W' hs hC.1)) (ext_wr hO W' hge)
  exact ⟨t, v, L', st' _ r1, r2⟩
theorem Go.castore {a : Addr} {kA : ClassId} {vs : List Value} {j x : Int32} (A : Ar Z h a kA .char vs) (hj : ¬ j < 0) (hlt : j.toNatClampNeg < vs.length) (hge : Z.heap.size ≤ a) (hd : decode c.code pc = .ok (.castore, 1)) (hp : pc + 1 = pc')
    (K : ∀ (h' : Heap), Ar Z h' a kA .char (vs.set j.toNatClampNeg (.int (nar .char x))) → h'.size = h.size → Keep h h' [a] → Safe Z EL vm h' a → CHr Z EL vm h vm h' → Go p l e R s m args below meth c Z a0 EL nw Q vm h' k n pc' L st) : Go p l e R s m args below meth c Z a0 EL nw Q vm h k n pc L (.int x :: .int j :: .ref a :: st) := fun T locs k0 hx hk hE X eT hS hk0 hF hZ hN hC hO => by
  subst hp
  have A0 := A
  have hs : Safe Z EL vm h a := A.safe hZ.alike (by intro q; cases q)
  obtain ⟨cl, A, -, e2⟩ := A
  have hin : ¬ (j < 0 ∨ cl.slots.size ≤ j.toNatClampNeg) := fun q => q.elim hj fun q => by rw [← e2] at hlt; simp at hlt; omega
  obtain ⟨T', h', X', e', W', st'⟩ := RoadKit.stC X hx (s := s.setVm vm) hZ eT A hin (g := mkF m pc L (.int x :: .int j :: .ref a :: st)) rfl rfl hd
  obtain ⟨t, v, L', r1, r2⟩ := K h' (A0.set W') W'.size (Keep.of_wr W') (Safe.wr W' hs hC.1 hs) (CHr.wr W' hs hC.1) T' _ k0 hx hk hE X' e' hS (by rw [W'.size]; exact hk0) (Fr.snoc X' hF hge) hZ hN (hC.trans (CHr.wr W' hs hC.1)) (ext_wr hO W' hge)
  exact ⟨t, v, L', st' _ r1, r2⟩
theorem Go.bastore {a : Addr} {kA : ClassId} {vs : List Value} {j x : Int32} (A : Ar Z h a kA .byte vs) (hj : ¬ j < 0) (hlt : j.toNatClampNeg < vs.length) (hs : Safe Z EL vm h a) (hge : Z.heap.size ≤ a) (hd : decode c.code pc = .ok (.bastore, 1)) (hp : pc + 1 = pc')
    (K : ∀ (h' : Heap), Ar Z h' a kA .byte (vs.set j.toNatClampNeg (.int (nar .byte x))) → h'.size = h.size → Keep h h' [a] → Safe Z EL vm h' a → CHr Z EL vm h vm h' → Go p l e R s m args below meth c Z a0 EL nw Q vm h' k n pc' L st) : Go p l e R s m args below meth c Z a0 EL nw Q vm h k n pc L (.int x :: .int j :: .ref a :: st) := fun T locs k0 hx hk hE X eT hS hk0 hF hZ hN hC hO => by
  subst hp
  have A0 := A
  obtain ⟨cl, A, -, e2⟩ := A
  have hin : ¬ (j < 0 ∨ cl.slots.size ≤ j.toNatClampNeg) := fun q => q.elim hj fun q => by rw [← e2] at hlt; simp at hlt; omega
  obtain ⟨T', h', X', e', W', st'⟩ := RoadKit.stB X hx (s := s.setVm vm) hZ eT A hin (g := mkF m pc L (.int x :: .int j :: .ref a :: st)) rfl rfl hd
  obtain ⟨t, v, L', r1, r2⟩ := K h' (A0.set W') W'.size (Keep.of_wr W') (Safe.wr W' hs hC.1 hs) (CHr.wr W' hs hC.1) T' _ k0 hx hk hE X' e' hS (by rw [W'.size]; exact hk0) (Fr.snoc X' hF hge) hZ hN (hC.trans (CHr.wr W' hs hC.1)) (ext_wr hO W' hge)
  exact ⟨t, v, L', st' _ r1, r2⟩
theorem Go.zastore {a : Addr} {kA : ClassId} {vs : List Value} {j x : Int32} (A : Ar Z h a kA .boolean vs) (hj : ¬ j < 0) (hlt : j.toNatClampNeg < vs.length) (hge : Z.heap.size ≤ a) (hd : decode c.code pc = .ok (.bastore, 1)) (hp : pc + 1 = pc')
    (K : ∀ (h' : Heap), Ar Z h' a kA .boolean (vs.set j.toNatClampNeg (.int (nar .boolean x))) → h'.size = h.size → Keep h h' [a] → Safe Z EL vm h' a → CHr Z EL vm h vm h' → Go p l e R s m args below meth c Z a0 EL nw Q vm h' k n pc' L st) : Go p l e R s m args below meth c Z a0 EL nw Q vm h k n pc L (.int x :: .int j :: .ref a :: st) := fun T locs k0 hx hk hE X eT hS hk0 hF hZ hN hC hO => by
  subst hp
  have A0 := A
  have hs : Safe Z EL vm h a := A.safe hZ.alike (by intro q; cases q)
  obtain ⟨cl, A, -, e2⟩ := A
  have hin : ¬ (j < 0 ∨ cl.slots.size ≤ j.toNatClampNeg) := fun q => q.elim hj fun q => by rw [← e2] at hlt; simp at hlt; omega
  obtain ⟨T', h', X', e', W', st'⟩ := RoadKit.stZ X hx (s := s.setVm vm) hZ eT A hin (g := mkF m pc L (.int x :: .int j :: .ref a :: st)) rfl rfl hd
  obtain ⟨t, v, L', r1, r2⟩ := K h' (A0.set W') W'.size (Keep.of_wr W') (Safe.wr W' hs hC.1 hs) (CHr.wr W' hs hC.1) T' _ k0 hx hk hE X' e' hS (by rw [W'.size]; exact hk0) (Fr.snoc X' hF hge) hZ hN (hC.trans (CHr.wr W' hs hC.1)) (ext_wr hO W' hge)
  exact ⟨t, v, L', st' _ r1, r2⟩
theorem Go.iastore {a : Addr} {kA : ClassId} {vs : List Value} {j x : Int32} (A : Ar Z h a kA .int vs) (hj : ¬ j < 0) (hlt : j.toNatClampNeg < vs.length) (hge : Z.heap.size ≤ a) (hd : decode c.code pc = .ok (.iastore, 1)) (hp : pc + 1 = pc')
    (K : ∀ (h' : Heap), Ar Z h' a kA .int (vs.set j.toNatClampNeg (.int x)) → h'.size = h.size → Keep h h' [a] → Safe Z EL vm h' a → CHr Z EL vm h vm h' → Go p l e R s m args below meth c Z a0 EL nw Q vm h' k n pc' L st) : Go p l e R s m args below meth c Z a0 EL nw Q vm h k n pc L (.int x :: .int j :: .ref a :: st) := fun T locs k0 hx hk hE X eT hS hk0 hF hZ hN hC hO => by
  subst hp
  have A0 := A
  have hs : Safe Z EL vm h a := A.safe hZ.alike (by intro q; cases q)
  obtain ⟨cl, A, -, e2⟩ := A
  have hin : ¬ (j < 0 ∨ cl.slots.size ≤ j.toNatClampNeg) := fun q => q.elim hj fun q => by rw [← e2] at hlt; simp at hlt; omega
  obtain ⟨T', h', X', e', W', st'⟩ := RoadKit.stI X hx (s := s.setVm vm) hZ eT A hin (g := mkF m pc L (.int x :: .int j :: .ref a :: st)) rfl rfl hd
  obtain ⟨t, v, L', r1, r2⟩ := K h' (A0.set W') W'.size (Keep.of_wr W') (Safe.wr W' hs hC.1 hs) (CHr.wr W' hs hC.1) T' _ k0 hx hk hE X' e' hS (by rw [W'.size]; exact hk0) (Fr.snoc X' hF hge) hZ hN (hC.trans (CHr.wr W' hs hC.1)) (ext_wr hO W' hge)
  exact ⟨t, v, L', st' _ r1, r2⟩
theorem Go.aastore {a : Addr} {kA : ClassId} {ty : FieldType} {vs : List Value} {j : Int32} {v : Value} (A : Ar Z h a kA ty vs) (hty : ty.isReference = true) (hj : ¬ j < 0) (hlt : j.toNatClampNeg < vs.length) (F : Sto Z h a v) (hge : Z.heap.size ≤ a) (hd : decode c.code pc = .ok (.aastore, 1)) (hp : pc + 1 = pc')
    (K : ∀ (h' : Heap), Ar Z h' a kA ty (vs.set j.toNatClampNeg v) → h'.size = h.size → Keep h h' [a] → CHr Z EL vm h vm h' → Go p l e R s m args below meth c Z a0 EL nw Q vm h' k n pc' L st) : Go p l e R s m args below meth c Z a0 EL nw Q vm h k n pc L (v :: .int j :: .ref a :: st) := fun T locs k0 hx hk hE X eT hS hk0 hF hZ hN hC hO => by
  subst hp
  have A0 := A
  have hs : Safe Z EL vm h a := A.safe hZ.alike (by rintro rfl; cases hty)
  obtain ⟨cl, A, -, e2⟩ := A
  have hin : ¬ (j < 0 ∨ cl.slots.size ≤ j.toNatClampNeg) := fun q => q.elim hj fun q => by rw [← e2] at hlt; simp at hlt; omega
  obtain ⟨T', h', X', e', W', st'⟩ := RoadKit.stR X hx (s := s.setVm vm) hZ eT A hin hty F (g := mkF m pc L (v :: .int j :: .ref a :: st)) rfl rfl hd
  obtain ⟨t, v, L', r1, r2⟩ := K h' (A0.set W') W'.size (Keep.of_wr W') (CHr.wr W' hs hC.1) T' _ k0 hx hk hE X' e' hS (by rw [W'.size]; exact hk0) (Fr.snoc X' hF hge) hZ hN (hC.trans (CHr.wr W' hs hC.1)) (ext_wr hO W' hge)
  exact ⟨t, v, L', st' _ r1, r2⟩
theorem Go.know {P : Prop} (q : Z.Warmed39 vm → CHv Z EL vm h → Ext Z.heap h → P) (K : P → Go p l e R s m args below meth c Z a0 EL nw Q vm h k n pc L st) : Go p l e R s m args below meth c Z a0 EL nw Q vm h k n pc L st := fun T locs k0 hx hk hE X eT hS hk0 hF hZ hN hC hO => K (q hZ hC.1 hO) T locs k0 hx hk hE X eT hS hk0 hF hZ hN hC hO
theorem Go.joinH {pcM k1 n1 : Nat} {P : Vm → Heap → Value → Prop} {F : Value → Array Slot} {S : Value → List Value} (J : ∀ vm' h' v, P vm' h' v → Go p l e R s m args below meth c Z a0 EL nw Q vm' h' k1 n1 pcM (F v) (S v)) (K : (∀ vm' h' v, P vm' h' v → Go p l e R s m args below meth c Z a0 EL nw Q vm' h' k1 n1 pcM (F v) (S v)) → Go p l e R s m args below meth c Z a0 EL nw Q vm h k n pc L st) : Go p l e R s m args below meth c Z a0 EL nw Q vm h k n pc L st := K J
theorem Go.joinI {pcM : Nat} {P : Int32 → Prop} {F : Int32 → Array Slot} {S : Int32 → List Value} (J : ∀ x, P x → Go p l e R s m args below meth c Z a0 EL nw Q vm h k n pcM (F x) (S x)) (K : (∀ x, P x → Go p l e R s m args below meth c Z a0 EL nw Q vm h k n pcM (F x) (S x)) → Go p l e R s m args below meth c Z a0 EL nw Q vm h k n pc L st) : Go p l e R s m args below meth c Z a0 EL nw Q vm h k n pc L st := K J
theorem Go.joinJ {pcM : Nat} {P : Int64 → Prop} {F : Int64 → Array Slot} {S : Int64 → List Value} (J : ∀ x, P x → Go p l e R s m args below meth c Z a0 EL nw Q vm h k n pcM (F x) (S x)) (K : (∀ x, P x → Go p l e R s m args below meth c Z a0 EL nw Q vm h k n pcM (F x) (S x)) → Go p l e R s m args below meth c Z a0 EL nw Q vm h k n pc L st) : Go p l e R s m args below meth c Z a0 EL nw Q vm h k n pc L st := K J
theorem Go.loop {pcH : Nat} {st0 : List Value} {Inv : Nat → Vm → Heap → Nat → Nat → Array Slot → Prop} (step : ∀ r vm h k n L, Inv r vm h k n L → (∀ r' vm' h' k' n' L', r' < r → Inv r' vm' h' k' n' L' → Go p l e R s m args below meth c Z a0 EL nw Q vm' h' k' n' pcH L' st0) → Go p l e R s m args below meth c Z a0 EL nw Q vm h k n pcH L st0) : ∀ r vm h k n L, Inv r vm h k n L → Go p l e R s m args below meth c Z a0 EL nw Q vm h k n pcH L st0 := by
  intro r
  induction r using Nat.strongRecOn with
  | ind r ih => intro vm h k n L hI; exact step r vm h k n L hI fun r' vm' h' k' n' L' hr hI' => ih r' hr vm' h' k' n' L' hI'
theorem Go.castNull {index : Nat} (hd : decode c.code pc = .ok (.checkcast index, 3)) (hp : pc + 3 = pc') (K : Go p l e R s m args below meth c Z a0 EL nw Q vm h k n pc' L (.null :: st)) : Go p l e R s m args below meth c Z a0 EL nw Q vm h k n pc L (.null :: st) := by
  subst hp
  exact Go.plain (fun T _ hx X _ r => Stand.checkcastNull X hx (g := mkF m pc L (.null :: st)) rfl (rest := st) rfl hd _ r) K
theorem Go.instNull {index : Nat} (hd : decode c.code pc = .ok (.instanceof index, 3)) (hp : pc + 3 = pc') (K : Go p l e R s m args below meth c Z a0 EL nw Q vm h k n pc' L (.int 0 :: st)) : Go p l e R s m args below meth c Z a0 EL nw Q vm h k n pc L (.null :: st) := by
  subst hp
  exact Go.plain (fun T _ hx X _ r => Stand.instanceofNull X hx (g := mkF m pc L (.null :: st)) rfl (rest := st) rfl hd _ r) K
theorem Go.ldcStr {own text : String} {index n0 : Nat} {vs : List Value} (hnw : ¬ nw) (hown : Z.vm.findClass own = some m.cls) (w : (Jvm.Cond.stringLink own index text).before a0 Z = true) (wS : ∀ a ∈ Bundle.stringAtoms, a.before a0 Z = true) (hmem : (own, index) ∈ EL)
    (ht : (∀ c ∈ text.toList, c.toNat < 256) ∧ text.toList.map (fun c => Value.int (Jvm.Lit.byteI c.toNat.toUInt16)) = vs) (hd : decode c.code pc = .ok (.ldc index, 2)) (hp : pc + 2 = pc') (hn : 4 * text.toList.length ≤ n0) (hbig : n0 ≤ 536870912) (hc : k + 2 ≤ R.cells) (hl : n + (n0 + 4) ≤ R.slots)
    (K : ∀ (vm' : Vm) (h' : Heap) (a b : Addr) (kA : ClassId), Ext h h' → CHr Z EL vm h vm' h' → Exa Z h' a "java/lang/String" → Fld Z h' a "java/lang/String" "coder" "B" (.int 0) → Fld Z h' a "java/lang/String" "value" "[B" (.ref b) → Ar Z h' b kA .byte vs → h'.size > a → h'.size > b → (∀ x, Safe Z EL vm' h' x → x ≠ a ∧ x ≠ b) → Go p l e R s m args below meth c Z a0 EL nw Q vm' h' (k + 2) (n + (n0 + 4)) pc' L (.ref a :: st)) : Go p l e R s m args below meth c Z a0 EL nw Q vm h k n pc L st := fun T locs k0 hx hk hE X eT hS hk0 hF hZ hN hC hO => by
  subst hp
  have hown' : (s.setVm vm).vm.findClass own = some m.cls := by
    show vm.findClass own = _
    rw [hZ.alike.findClass]; exact hown
  have hlen : vs.length = text.toList.length := by rw [← ht.2, List.length_map]
  have hz : ¬ (vs.length.toInt32 < 0) := by
    have q : vs.length < 2 ^ 31 := by omega
    have := Int32.toInt_ofNat_small q
    intro z
    have := Int32.lt_iff_toInt_lt.mp z
    have e0 : (0 : Int32).toInt = 0 := rfl
    have e1 : vs.length.toInt32.toInt = vs.length := Int32.toInt_ofNat_small q
    omega
  have hlz : vs.length.toInt32.toNatClampNeg = vs.length := by
    have q : vs.length < 2 ^ 31 := by omega
    have e1 : vs.length.toInt32.toInt = vs.length := Int32.toInt_ofNat_small q
    rw [← Int32.toNat_toInt, e1]; rfl
  obtain ⟨a, T', h', k1, b, kA, X', e', E', hS', hk', hZ', hown2, x1, x2, x3, x4, x5, x6, hC', -, hsafe, st'⟩ := ldcCH X hx hZ hown' w wS eT hS hk0 hE hmem hC.1 ht hz hlz (g := mkF m pc L st) rfl hd hn hbig hc hl
  obtain ⟨t, v, L', r1, r2⟩ := K T'.vm h' a b kA E' hC' x1 x2 x3 (Ar.of_arv x4 hlz) x5 x6 hsafe T' locs k1 hx hk hE X' e' hS' hk' hF hZ' (fun q => absurd q hnw) (hC.trans hC') (ext_trans hO E')
  exact ⟨t, v, L', st' _ r1, r2⟩
theorem Go.ldcRef {own text : String} {index n0 : Nat} (hnw : ¬ nw) (hown : Z.vm.findClass own = some m.cls) (w : (Jvm.Cond.stringLink own index text).before a0 Z = true) (wS : ∀ a ∈ Bundle.stringAtoms, a.before a0 Z = true)
    (hd : decode c.code pc = .ok (.ldc index, 2)) (hp : pc + 2 = pc') (hn : 4 * text.toList.length ≤ n0) (hbig : n0 ≤ 536870912) (hc : k + 2 ≤ R.cells) (hl : n + (n0 + 4) ≤ R.slots)
    (K : ∀ (vm' : Vm) (h' : Heap) (a : Addr), Ext h h' → CHr Z EL vm h vm' h' → Go p l e R s m args below meth c Z a0 EL nw Q vm' h' (k + 2) (n + (n0 + 4)) pc' L (.ref a :: st)) : Go p l e R s m args below meth c Z a0 EL nw Q vm h k n pc L st := fun T locs k0 hx hk hE X eT hS hk0 hF hZ hN hC hO => by
  subst hp
  have hown' : (s.setVm vm).vm.findClass own = some m.cls := by
    show vm.findClass own = _
    rw [hZ.alike.findClass]; exact hown
  obtain ⟨a, T', h', k1, X', e', E', hS', hk', hZ', hown2, hC', -, st'⟩ := ldcOH X hx hZ hown' w wS eT hS hk0 hE hC.1 (g := mkF m pc L st) rfl hd hn hbig hc hl
  obtain ⟨t, v, L', r1, r2⟩ := K T'.vm h' a E' hC' T' locs k1 hx hk hE X' e' hS' hk' hF hZ' (fun q => absurd q hnw) (hC.trans hC') (ext_trans hO E')
  exact ⟨t, v, L', st' _ r1, r2⟩
theorem Go.ret (hret : meth.sig.returnType = none) (hd : decode c.code pc = .ok (.return_, 1)) (hk1 : k ≤ R.cells) (hn1 : n ≤ R.slots) (q : ∀ vm', CHr Z EL vm h vm' h → Q none vm' h) : Go p l e R s m args below meth c Z a0 EL nw Q vm h k n pc L [] := fun T locs k0 hx hk hE X eT hS hk0 hF hZ hN hC hO => by
  subst eT
  obtain ⟨fs, h1, h2, h3, h4⟩ := X.leaveW hS hk0 (v := none) (fun _ => rfl) hk
  have hA := CHv.at X hZ hE hC.1
  refine ⟨_, none, locs, X.returnOut hx hret hd h1, h2, h3, hF, q _ hA, hC.trans hA, hO, ?_, fun z => State.WarmedH.trans (t := s.setVm vm) (hN z) X.warmed⟩
  exact ⟨h4.1, h4.2.1, h4.2.2.1, h4.2.2.2.mono hk1 hn1⟩
theorem Go.retV {w : Value} {t : FieldType} {i : Instr} (hret : meth.sig.returnType = some t) (hn : narrow t w = w)
    (hi : (i = .ireturn ∧ (t = .int ∨ t = .boolean ∨ t = .byte ∨ t = .char ∨ t = .short) ∧ ∃ z, w = .int z) ∨ (i = .lreturn ∧ t = .long ∧ ∃ z, w = .long z) ∨ (i = .dreturn ∧ t = .double ∧ ∃ z, w = .double z) ∨ (i = .freturn ∧ t = .float ∧ ∃ z, w = .float z) ∨ (i = .areturn ∧ t.isReference = true ∧ w.isRef = true))
    (hd : decode c.code pc = .ok (i, 1)) (hk1 : k ≤ R.cells) (hn1 : n ≤ R.slots) (q : ∀ vm', CHr Z EL vm h vm' h → Q (some w) vm' h) : Go p l e R s m args below meth c Z a0 EL nw Q vm h k n pc L (w :: st) := fun T locs k0 hx hk hE X eT hS hk0 hF hZ hN hC hO => by
  subst eT
  obtain ⟨fs, h1, h2, h3, h4⟩ := X.leaveW hS hk0 (v := some w) (fun z => by rw [hret] at z; cases z) hk
  have hA := CHv.at X hZ hE hC.1
  refine ⟨_, some w, locs, retOut X hx hret hn hi hd h1, h2, h3, hF, q _ hA, hC.trans hA, hO, ?_, fun z => State.WarmedH.trans (t := s.setVm vm) (hN z) X.warmed⟩
  exact ⟨h4.1, h4.2.1, h4.2.2.1, h4.2.2.2.mono hk1 hn1⟩
theorem Go.retA {w : Value} {t : FieldType} (hret : meth.sig.returnType = some t) (ht : t.isReference = true) (hw : w.isRef = true) (hd : decode c.code pc = .ok (.areturn, 1)) (hk1 : k ≤ R.cells) (hn1 : n ≤ R.slots) (q : ∀ vm', CHr Z EL vm h vm' h → Q (some w) vm' h) : Go p l e R s m args below meth c Z a0 EL nw Q vm h k n pc L (w :: st) :=
  Go.retV hret (by cases t <;> simp [FieldType.isReference] at ht <;> cases w <;> simp [Value.isRef] at hw <;> rfl) (Or.inr (Or.inr (Or.inr (Or.inr ⟨rfl, ht, hw⟩)))) hd hk1 hn1 q
theorem Go.retI {z : Int32} (hret : meth.sig.returnType = some .int) (hd : decode c.code pc = .ok (.ireturn, 1)) (hk1 : k ≤ R.cells) (hn1 : n ≤ R.slots) (q : ∀ vm', CHr Z EL vm h vm' h → Q (some (.int z)) vm' h) : Go p l e R s m args below meth c Z a0 EL nw Q vm h k n pc L (.int z :: st) :=
  Go.retV hret rfl (Or.inl ⟨rfl, Or.inl rfl, _, rfl⟩) hd hk1 hn1 q
theorem Go.retJ {z : Int64} (hret : meth.sig.returnType = some .long) (hd : decode c.code pc = .ok (.lreturn, 1)) (hk1 : k ≤ R.cells) (hn1 : n ≤ R.slots) (q : ∀ vm', CHr Z EL vm h vm' h → Q (some (.long z)) vm' h) : Go p l e R s m args below meth c Z a0 EL nw Q vm h k n pc L (.long z :: st) :=
  Go.retV hret rfl (Or.inr (Or.inl ⟨rfl, rfl, _, rfl⟩)) hd hk1 hn1 q
theorem Go.retN {z : Int32} {t : FieldType} (hret : meth.sig.returnType = some t) (ht : t = .boolean ∨ t = .byte ∨ t = .char ∨ t = .short) (hd : decode c.code pc = .ok (.ireturn, 1)) (hk1 : k ≤ R.cells) (hn1 : n ≤ R.slots) (q : ∀ vm', CHr Z EL vm h vm' h → Q (some (.int (nar t z))) vm' h) : Go p l e R s m args below meth c Z a0 EL nw Q vm h k n pc L (.int z :: st) := fun T locs k0 hx hk hE X eT hS hk0 hF hZ hN hC hO => by
  subst eT
  obtain ⟨fs, h1, h2, h3, h4⟩ := X.leaveW hS hk0 (v := some (.int (nar t z))) (fun z => by rw [hret] at z; cases z) hk
  have hA := CHv.at X hZ hE hC.1
  refine ⟨_, some (.int (nar t z)), locs, RoadKit.retN X hx hret ht hd h1, h2, h3, hF, q _ hA, hC.trans hA, hO, ?_, fun z => State.WarmedH.trans (t := s.setVm vm) (hN z) X.warmed⟩
  exact ⟨h4.1, h4.2.1, h4.2.2.1, h4.2.2.2.mono hk1 hn1⟩
theorem Ct.of_go {ws : List Jvm.Cond} {y : MethodName} {bytes : ByteArray} {maxL : Nat} {ret : Option FieldType} {rm : Room} {as : Array Value} {sf : List Addr} {L0 : Array Slot} (hEL : EW Z a0 EL) (pn : plainName y.cls = true) (hL : ∀ m, entryFrame m as maxL = mkF m 0 L0 [])
    (body : ∀ (p : Program) (e : Env) (s : State) (m : MethodId) (below : List Frame) (meth : Method) (c : Code), Z.vm.findClass y.cls = some m.cls → c.code = bytes → c.maxLocals = maxL → meth.sig.returnType = ret → meth.name = y.name → Z.Warmed39 s.vm → CHv Z EL s.vm h → Ext Z.heap h → (∀ x ∈ sf, Safe Z EL s.vm h x) →
      Go p l e rm s m as below meth c Z a0 EL nw Q s.vm h 0 0 0 L0 []) : Ct l Z EL nw ws y bytes maxL ret rm as h sf Q := by
  refine MetFree.of_bodySF (plainFor_of_name pn) hisR ?_
  intro p e s m args below meth c s₁ Bd hml hP hK
  obtain ⟨rfl, hZ, hh, hC, hO, hsf⟩ := hP
  have hown : s.vm.findClass y.cls = some m.cls := findClass_of_methodNamed Bd.named
  have hnm := (name_of_methodNamed Bd.named Bd.method).1
  have X0 : Stand p l e rm (s.setVm s.vm) m args below meth c s₁ [] 0 0 := Stand.of_body Bd
  have e0 : s₁.heap = h := by rw [← hh, Bd.state]; rfl
  have hC0 : CHr Z EL s.vm s.heap s.vm h := by rw [hh]; exact CHr.refl hC
  obtain ⟨t, v, L', r1, r2, r3, r4, r5, r6, r7, r8, r9⟩ := body p e s m below meth c (by rw [← hZ.alike.findClass]; exact hown) Bd.bytes hml Bd.returns hnm hZ hC hO hsf s₁ [] 0 Bd.exec Bd.notSynchronized hEL X0 e0 ((State.WarmedH.refl s).since 0) (Nat.zero_le _) (Fr.nil _) hZ (fun _ => State.WarmedH.refl s) hC0 hO
  exact ⟨t, .returned v, castTop (hL m) r1, r2, r3, v, L', rfl, r4, r5, r6, r7, r9, r8⟩
theorem Ct.back {y : MethodName} {bytes : ByteArray} {maxL : Nat} {ret : Option FieldType} {rm : Room} {len W : Nat} {as : Array Value} {sf : List Addr} {Q' : Option Value → Vm → Heap → Prop} (hM : Ct l Z EL nw [] y bytes maxL ret rm as h sf Q')
    (hZ : Z.Warmed39 vm) (wc : (Jvm.Cond.code y bytes maxL ret).before a0 Z = true) (wz : (Jvm.Cond.initialized y.cls).before a0 Z = true) (hf : rm.frames + 1 ≤ R.frames) (hl : W + (maxL + 11) + rm.locals ≤ R.locals) (hEL : EW Z a0 EL) (H : CHv Z EL vm h) (hO : Ext Z.heap h) (hsf : ∀ x ∈ sf, h.size > x ∧ Safe Z EL vm h x) :
    BackS l R p e below (s.setVm vm) args y len W (fun A a => a = as ∧ A.U.heap = h ∧ A.cells + rm.cells ≤ R.cells ∧ A.slots + rm.slots ≤ R.slots)
      (fun A _ v B => ∃ L, B.locs = A.locs ++ L ∧ B.cells = A.cells + rm.cells ∧ B.slots = A.slots + rm.slots ∧ Fr Z.heap.size L ∧ Q' v B.U.vm B.U.heap ∧ CHr Z EL vm h B.U.vm B.U.heap ∧ Ext Z.heap B.U.heap ∧ (nw → (s.setVm vm).WarmedH B.U.vm)) :=
  BackS.of_freeW (bytes := bytes) (maxL := maxL) (ret := ret) (E := fun _ first o t L k n => k = rm.cells ∧ n = rm.slots ∧ ∃ v, o = .returned v ∧ Fr Z.heap.size L ∧ Q' v t.vm t.heap ∧ CHr Z EL first.vm first.heap t.vm t.heap ∧ Ext Z.heap t.heap ∧ (nw → first.WarmedH t.vm)) hM hf hl
    (fun m meth c A a Y hp => have hU : Z.Warmed39 A.U.vm := wtrans (s := s.setVm vm) hZ Y.warmed
      ⟨by show (Jvm.Cond.and _ .tt).before a A.U = true; rw [Cond.before_and, mv hU wc]; rfl, mv hU wc, mv hU wz, hp.2.2.1, hp.2.2.2⟩)
    (fun m meth c A a g mk Y hp => ⟨hp.1, wtrans (s := s.setVm vm) hZ Y.warmed, hp.2.1, (CHv.at Y hZ hEL H).1, hO, fun x hx => (CHv.at Y hZ hEL H).safe (hsf x hx).1 (hsf x hx).2⟩) (fun _ _ _ _ _ _ _ _ _ => trivial)
    (fun _ _ _ _ ⟨v, L, h1, h2, h3, h4, h5, h6, h7⟩ => ⟨L, _, _, h7, rfl, rfl, v, h1, h2, h3, h4, h5, h6⟩)
    (fun m meth c A a g mk v t L k n Y hp _ _ ⟨e1, e2, v', e3, e4, e5, e6, e7, e8⟩ => by
      cases e3; subst e1 e2
      refine ⟨L, rfl, rfl, rfl, e4, e5, (CHv.at Y hZ hEL H).trans ?_, e7, fun z => State.WarmedH.trans Y.warmed (e8 z)⟩
      rw [← hp.2.1]; exact e6)
theorem nf_warm {y : MethodName} (hZ : Z.Warmed39 vm) (nf : NotFace Z y) : NotFace (s.setVm vm) y := fun r0 hr => by
  have q : Z.methodNamed? y = some r0 := by
    have := State.methodNamed?_setVm (s := Z) (vm' := vm) hZ.alike y
    rw [← this]; exact hr
  obtain ⟨kr, h1, h2⟩ := nf r0 q
  obtain ⟨kr', g1, g2⟩ := hZ.alike.2.2 _ _ h1
  exact ⟨kr', g1, by rw [g2]; exact h2⟩
theorem Go.callS {own : String} {y : MethodName} {bytes : ByteArray} {maxL : Nat} {ret : Option FieldType} {rm : Room} {W index : Nat} {argsL : List Value} {as : Array Value} {sf : List Addr} {Q' : Option Value → Vm → Heap → Prop} (hM : Ct l Z EL nw [] y bytes maxL ret rm as h sf Q') (hown : Z.vm.findClass own = some m.cls) (w1 : (Jvm.Cond.methodLink own index y).before a0 Z = true) (w2 : (Jvm.Cond.static y).before a0 Z = true) (wc : (Jvm.Cond.code y bytes maxL ret).before a0 Z = true) (wz : (Jvm.Cond.initialized y.cls).before a0 Z = true)
    (hy : y.cls ≠ "java/lang/invoke/MethodHandle" ∧ y.cls ≠ "java/lang/invoke/VarHandle") (hlen : ∀ sig, parseMethodDescriptor y.desc = some sig → argsL.length = sig.parameters.length) (has : as = argsL.toArray) (hL : L.size = c.maxLocals) (hW : (st.map fun v => v.category).sum = W) (hd : decode c.code pc = .ok (.invokestatic index, 3)) (hp : pc + 3 = pc') (hf : rm.frames + 1 ≤ R.frames) (hl : W + (maxL + 11) + rm.locals ≤ R.locals) (hc1 : k + rm.cells ≤ R.cells) (hc2 : n + rm.slots ≤ R.slots) (hsf : ∀ x ∈ sf, h.size > x ∧ Safe Z EL vm h x)
    (K : ∀ (v : Option Value) (vm' : Vm) (h' : Heap), Q' v vm' h' → CHr Z EL vm h vm' h' → Go p l e R s m args below meth c Z a0 EL nw Q vm' h' (k + rm.cells) (n + rm.slots) pc' L (v.toList ++ st)) : Go p l e R s m args below meth c Z a0 EL nw Q vm h k n pc L (argsL.reverse ++ st) := fun T locs k0 hx hk hE X eT hS hk0 hF hZ hN hC hO => by
  subst hp has
  have hown' : (s.setVm vm).vm.findClass own = some m.cls := by
    show vm.findClass own = _
    rw [hZ.alike.findClass]; exact hown
  have hWW : 2 * (mkF m pc L (argsL.reverse ++ st)).monitorRoom + (st.map fun v => v.category).sum ≤ W := by show 2 * 0 + _ ≤ _; rw [Nat.mul_zero, Nat.zero_add]; exact Nat.le_of_eq hW
  have hB := fun len => Ct.back (p := p) (e := e) (below := below) (s := s) (args := args) (len := len) hM hZ wc wz hf hl hE hC.1 hO hsf
  obtain ⟨v, vm1, ⟨T', L1, k1, n1⟩, -, X', hS', hg', hP', st'⟩ := callSS X hx hown' (mv (s := s.setVm vm) hZ w1) (mv (s := s.setVm vm) hZ w2) (mv (s := s.setVm vm) hZ wz) (mv (s := s.setVm vm) hZ wc) hy (hB 3) (g := mkF m pc L (argsL.reverse ++ st)) rfl hL hlen rfl hWW hd (fun _ _ => ⟨rfl, eT, hc1, hc2⟩)
  dsimp only [Pt.U, Pt.locs, Pt.cells, Pt.slots] at X' hS' hg' hP' st'
  obtain ⟨L2, rfl, rfl, rfl, q1, q2, q3, q4, q5⟩ := hP'
  obtain ⟨t, v', L', r1, r2⟩ := K v T'.vm T'.heap q2 q3 T' _ _ hx hk hE X' rfl (hS.trans hS' (Nat.le_trans hk0 (by rw [← eT]; exact hg'))) (Nat.le_refl _) (Fr.app hF q1) (State.Warmed39.trans (t := s.setVm vm) hZ hS'.1) (fun z => State.WarmedH.trans (t := s.setVm vm) (hN z) (q5 z)) (hC.trans q3) q4
  exact ⟨t, v', L', st'.trans r1, r2⟩
theorem Go.callSN {own host : String} {y : MethodName} {bytes : ByteArray} {maxL : Nat} {ret : Option FieldType} {rm : Room} {W index : Nat} {argsL : List Value} {as : Array Value} {sf : List Addr} {Q' : Option Value → Vm → Heap → Prop} (hM : Ct l Z EL nw [] y bytes maxL ret rm as h sf Q') (hown : Z.vm.findClass own = some m.cls) (w1 : (Jvm.Cond.methodLinkNest own index y host).before a0 Z = true) (w2 : (Jvm.Cond.static y).before a0 Z = true) (wc : (Jvm.Cond.code y bytes maxL ret).before a0 Z = true) (wz : (Jvm.Cond.initialized y.cls).before a0 Z = true)
    (hy : y.cls ≠ "java/lang/invoke/MethodHandle" ∧ y.cls ≠ "java/lang/invoke/VarHandle") (hlen : ∀ sig, parseMethodDescriptor y.desc = some sig → argsL.length = sig.parameters.length) (has : as = argsL.toArray) (hL : L.size = c.maxLocals) (hW : (st.map fun v => v.category).sum = W) (hd : decode c.code pc = .ok (.invokestatic index, 3)) (hp : pc + 3 = pc') (hf : rm.frames + 1 ≤ R.frames) (hl : W + (maxL + 11) + rm.locals ≤ R.locals) (hc1 : k + rm.cells ≤ R.cells) (hc2 : n + rm.slots ≤ R.slots) (hsf : ∀ x ∈ sf, h.size > x ∧ Safe Z EL vm h x)
    (K : ∀ (v : Option Value) (vm' : Vm) (h' : Heap), Q' v vm' h' → CHr Z EL vm h vm' h' → Go p l e R s m args below meth c Z a0 EL nw Q vm' h' (k + rm.cells) (n + rm.slots) pc' L (v.toList ++ st)) : Go p l e R s m args below meth c Z a0 EL nw Q vm h k n pc L (argsL.reverse ++ st) := fun T locs k0 hx hk hE X eT hS hk0 hF hZ hN hC hO => by
  subst hp has
  have hown' : (s.setVm vm).vm.findClass own = some m.cls := by
    show vm.findClass own = _
    rw [hZ.alike.findClass]; exact hown
  have hWW : 2 * (mkF m pc L (argsL.reverse ++ st)).monitorRoom + (st.map fun v => v.category).sum ≤ W := by show 2 * 0 + _ ≤ _; rw [Nat.mul_zero, Nat.zero_add]; exact Nat.le_of_eq hW
  have hB := fun len => Ct.back (p := p) (e := e) (below := below) (s := s) (args := args) (len := len) hM hZ wc wz hf hl hE hC.1 hO hsf
  obtain ⟨v, vm1, ⟨T', L1, k1, n1⟩, -, X', hS', hg', hP', st'⟩ := callSNS X hx hown' (Cond.methodLinkNest_wide hZ w1 :) (mv (s := s.setVm vm) hZ w2) (mv (s := s.setVm vm) hZ wz) (mv (s := s.setVm vm) hZ wc) hy (hB 3) (g := mkF m pc L (argsL.reverse ++ st)) rfl hL hlen rfl hWW hd (fun _ _ => ⟨rfl, eT, hc1, hc2⟩)
  dsimp only [Pt.U, Pt.locs, Pt.cells, Pt.slots] at X' hS' hg' hP' st'
  obtain ⟨L2, rfl, rfl, rfl, q1, q2, q3, q4, q5⟩ := hP'
  obtain ⟨t, v', L', r1, r2⟩ := K v T'.vm T'.heap q2 q3 T' _ _ hx hk hE X' rfl (hS.trans hS' (Nat.le_trans hk0 (by rw [← eT]; exact hg'))) (Nat.le_refl _) (Fr.app hF q1) (State.Warmed39.trans (t := s.setVm vm) hZ hS'.1) (fun z => State.WarmedH.trans (t := s.setVm vm) (hN z) (q5 z)) (hC.trans q3) q4
  exact ⟨t, v', L', st'.trans r1, r2⟩
theorem Go.callC {own : String} {a : Addr} {y : MethodName} {bytes : ByteArray} {maxL : Nat} {ret : Option FieldType} {rm : Room} {W index : Nat} {argsL : List Value} {as : Array Value} {sf : List Addr} {Q' : Option Value → Vm → Heap → Prop} (hM : Ct l Z EL nw [] y bytes maxL ret rm as h sf Q') (hown : Z.vm.findClass own = some m.cls) (hret0 : ret = none) (hinit : y.name = "<init>") (w1 : (Jvm.Cond.methodLink own index y).before a0 Z = true) (w2 : (Jvm.Cond.instanceMethod y).before a0 Z = true) (wc : (Jvm.Cond.code y bytes maxL ret).before a0 Z = true) (wz : (Jvm.Cond.initialized y.cls).before a0 Z = true)
    (hy : y.cls ≠ "java/lang/invoke/MethodHandle" ∧ y.cls ≠ "java/lang/invoke/VarHandle") (hlen : ∀ sig, parseMethodDescriptor y.desc = some sig → argsL.length = sig.parameters.length) (has : as = (.ref a :: argsL).toArray) (hL : L.size = c.maxLocals) (hW : (st.map fun v => v.category).sum = W) (hd : decode c.code pc = .ok (.invokespecial index, 3)) (hp : pc + 3 = pc') (hf : rm.frames + 1 ≤ R.frames) (hl : W + (maxL + 11) + rm.locals ≤ R.locals) (hc1 : k + rm.cells ≤ R.cells) (hc2 : n + rm.slots ≤ R.slots) (hsf : ∀ x ∈ sf, h.size > x ∧ Safe Z EL vm h x)
    (K : ∀ (v : Option Value) (vm' : Vm) (h' : Heap), Q' v vm' h' → CHr Z EL vm h vm' h' → Go p l e R s m args below meth c Z a0 EL nw Q vm' h' (k + rm.cells) (n + rm.slots) pc' L (v.toList ++ st)) : Go p l e R s m args below meth c Z a0 EL nw Q vm h k n pc L (argsL.reverse ++ .ref a :: st) := fun T locs k0 hx hk hE X eT hS hk0 hF hZ hN hC hO => by
  subst hp has
  have hown' : (s.setVm vm).vm.findClass own = some m.cls := by
    show vm.findClass own = _
    rw [hZ.alike.findClass]; exact hown
  have hWW : 2 * (mkF m pc L (argsL.reverse ++ .ref a :: st)).monitorRoom + (st.map fun v => v.category).sum ≤ W := by show 2 * 0 + _ ≤ _; rw [Nat.mul_zero, Nat.zero_add]; exact Nat.le_of_eq hW
  have hB := fun len => Ct.back (p := p) (e := e) (below := below) (s := s) (args := args) (len := len) hM hZ wc wz hf hl hE hC.1 hO hsf
  subst hret0
  obtain ⟨v, vm1, ⟨T', L1, k1, n1⟩, -, X', hS', hg', hP', st'⟩ := X.specialBackS hx hinit hown' (mv (s := s.setVm vm) hZ w1) (mv (s := s.setVm vm) hZ w2) (mv (s := s.setVm vm) hZ wc) hy (hB 3) (g := mkF m pc L (argsL.reverse ++ .ref a :: st)) rfl hL (Steps.refl _) (a := a) (argsL := argsL) (rest := st) hlen rfl hWW hd (fun _ _ => ⟨rfl, eT, hc1, hc2⟩)
  dsimp only [Pt.U, Pt.locs, Pt.cells, Pt.slots] at X' hS' hg' hP' st'
  obtain ⟨L2, rfl, rfl, rfl, q1, q2, q3, q4, q5⟩ := hP'
  obtain ⟨t, v', L', r1, r2⟩ := K v T'.vm T'.heap q2 q3 T' _ _ hx hk hE X' rfl (hS.trans hS' (Nat.le_trans hk0 (by rw [← eT]; exact hg'))) (Nat.le_refl _) (Fr.app hF q1) (State.Warmed39.trans (t := s.setVm vm) hZ hS'.1) (fun z => State.WarmedH.trans (t := s.setVm vm) (hN z) (q5 z)) (hC.trans q3) q4
  exact ⟨t, v', L', st'.trans r1, r2⟩
theorem Go.callCN {own host : String} {a : Addr} {y : MethodName} {bytes : ByteArray} {maxL : Nat} {ret : Option FieldType} {rm : Room} {W index : Nat} {argsL : List Value} {as : Array Value} {sf : List Addr} {Q' : Option Value → Vm → Heap → Prop} (hM : Ct l Z EL nw [] y bytes maxL ret rm as h sf Q') (hown : Z.vm.findClass own = some m.cls) (hret0 : ret = none) (hinit : y.name = "<init>") (w1 : (Jvm.Cond.methodLinkNest own index y host).before a0 Z = true) (w2 : (Jvm.Cond.instanceMethod y).before a0 Z = true) (wc : (Jvm.Cond.code y bytes maxL ret).before a0 Z = true) (wz : (Jvm.Cond.initialized y.cls).before a0 Z = true)
    (hy : y.cls ≠ "java/lang/invoke/MethodHandle" ∧ y.cls ≠ "java/lang/invoke/VarHandle") (hlen : ∀ sig, parseMethodDescriptor y.desc = some sig → argsL.length = sig.parameters.length) (has : as = (.ref a :: argsL).toArray) (hL : L.size = c.maxLocals) (hW : (st.map fun v => v.category).sum = W) (hd : decode c.code pc = .ok (.invokespecial index, 3)) (hp : pc + 3 = pc') (hf : rm.frames + 1 ≤ R.frames) (hl : W + (maxL + 11) + rm.locals ≤ R.locals) (hc1 : k + rm.cells ≤ R.cells) (hc2 : n + rm.slots ≤ R.slots) (hsf : ∀ x ∈ sf, h.size > x ∧ Safe Z EL vm h x)
    (K : ∀ (v : Option Value) (vm' : Vm) (h' : Heap), Q' v vm' h' → CHr Z EL vm h vm' h' → Go p l e R s m args below meth c Z a0 EL nw Q vm' h' (k + rm.cells) (n + rm.slots) pc' L (v.toList ++ st)) : Go p l e R s m args below meth c Z a0 EL nw Q vm h k n pc L (argsL.reverse ++ .ref a :: st) := fun T locs k0 hx hk hE X eT hS hk0 hF hZ hN hC hO => by
  subst hp has
  have hown' : (s.setVm vm).vm.findClass own = some m.cls := by
    show vm.findClass own = _
    rw [hZ.alike.findClass]; exact hown
  have hWW : 2 * (mkF m pc L (argsL.reverse ++ .ref a :: st)).monitorRoom + (st.map fun v => v.category).sum ≤ W := by show 2 * 0 + _ ≤ _; rw [Nat.mul_zero, Nat.zero_add]; exact Nat.le_of_eq hW
  have hB := fun len => Ct.back (p := p) (e := e) (below := below) (s := s) (args := args) (len := len) hM hZ wc wz hf hl hE hC.1 hO hsf
  subst hret0
  obtain ⟨v, vm1, ⟨T', L1, k1, n1⟩, -, X', hS', hg', hP', st'⟩ := X.specialBackNestS hx hinit hown' (Cond.methodLinkNest_wide hZ w1 :) (mv (s := s.setVm vm) hZ w2) (mv (s := s.setVm vm) hZ wc) hy (hB 3) (g := mkF m pc L (argsL.reverse ++ .ref a :: st)) rfl hL (Steps.refl _) (a := a) (argsL := argsL) (rest := st) hlen rfl hWW hd (fun _ _ => ⟨rfl, eT, hc1, hc2⟩)
  dsimp only [Pt.U, Pt.locs, Pt.cells, Pt.slots] at X' hS' hg' hP' st'
  obtain ⟨L2, rfl, rfl, rfl, q1, q2, q3, q4, q5⟩ := hP'
  obtain ⟨t, v', L', r1, r2⟩ := K v T'.vm T'.heap q2 q3 T' _ _ hx hk hE X' rfl (hS.trans hS' (Nat.le_trans hk0 (by rw [← eT]; exact hg'))) (Nat.le_refl _) (Fr.app hF q1) (State.Warmed39.trans (t := s.setVm vm) hZ hS'.1) (fun z => State.WarmedH.trans (t := s.setVm vm) (hN z) (q5 z)) (hC.trans q3) q4
  exact ⟨t, v', L', st'.trans r1, r2⟩
theorem Go.callV {own C : String} {a : Addr} {y0 : MethodName} {y : MethodName} {bytes : ByteArray} {maxL : Nat} {ret : Option FieldType} {rm : Room} {W index : Nat} {argsL : List Value} {as : Array Value} {sf : List Addr} {Q' : Option Value → Vm → Heap → Prop} (hM : Ct l Z EL nw [] y bytes maxL ret rm as h sf Q') (hown : Z.vm.findClass own = some m.cls) (w1 : (Jvm.Cond.methodLink own index y0).before a0 Z = true) (w2 : (Jvm.Cond.declares y0).before a0 Z = true) (nf : NotFace Z y0) (w3 : (Jvm.Cond.selects C y0 y).before a0 Z = true) (w4 : (Jvm.Cond.instanceMethod y).before a0 Z = true) (E : Exa Z h a C) (wc : (Jvm.Cond.code y bytes maxL ret).before a0 Z = true) (wz : (Jvm.Cond.initialized y.cls).before a0 Z = true)
    (hy : y0.cls ≠ "java/lang/invoke/MethodHandle" ∧ y0.cls ≠ "java/lang/invoke/VarHandle") (hlen : ∀ sig, parseMethodDescriptor y0.desc = some sig → argsL.length = sig.parameters.length) (has : as = (.ref a :: argsL).toArray) (hL : L.size = c.maxLocals) (hW : (st.map fun v => v.category).sum = W) (hd : decode c.code pc = .ok (.invokevirtual index, 3)) (hp : pc + 3 = pc') (hf : rm.frames + 1 ≤ R.frames) (hl : W + (maxL + 11) + rm.locals ≤ R.locals) (hc1 : k + rm.cells ≤ R.cells) (hc2 : n + rm.slots ≤ R.slots) (hsf : ∀ x ∈ sf, h.size > x ∧ Safe Z EL vm h x)
    (K : ∀ (v : Option Value) (vm' : Vm) (h' : Heap), Q' v vm' h' → CHr Z EL vm h vm' h' → Go p l e R s m args below meth c Z a0 EL nw Q vm' h' (k + rm.cells) (n + rm.slots) pc' L (v.toList ++ st)) : Go p l e R s m args below meth c Z a0 EL nw Q vm h k n pc L (argsL.reverse ++ .ref a :: st) := fun T locs k0 hx hk hE X eT hS hk0 hF hZ hN hC hO => by
  subst hp has
  have hown' : (s.setVm vm).vm.findClass own = some m.cls := by
    show vm.findClass own = _
    rw [hZ.alike.findClass]; exact hown
  have hWW : 2 * (mkF m pc L (argsL.reverse ++ .ref a :: st)).monitorRoom + (st.map fun v => v.category).sum ≤ W := by show 2 * 0 + _ ≤ _; rw [Nat.mul_zero, Nat.zero_add]; exact Nat.le_of_eq hW
  have hB := fun len => Ct.back (p := p) (e := e) (below := below) (s := s) (args := args) (len := len) hM hZ wc wz hf hl hE hC.1 hO hsf
  obtain ⟨cB, kB, qa, qb, qc⟩ := isOf (s := s.setVm vm) (T := T) hZ eT E
  obtain ⟨v, vm1, ⟨T', L1, k1, n1⟩, -, X', hS', hg', hP', st'⟩ := X.virtualBackS hx hown' (mv (s := s.setVm vm) hZ w1) (mv (s := s.setVm vm) hZ w2) (nf_warm hZ nf) (mv (s := s.setVm vm) hZ w3) (mv (s := s.setVm vm) hZ w4) hy (hB 3) qa qc (g := mkF m pc L (argsL.reverse ++ .ref a :: st)) rfl hL (Steps.refl _) (argsL := argsL) (rest := st) hlen rfl hWW hd (fun _ _ => ⟨rfl, eT, hc1, hc2⟩)
  dsimp only [Pt.U, Pt.locs, Pt.cells, Pt.slots] at X' hS' hg' hP' st'
  obtain ⟨L2, rfl, rfl, rfl, q1, q2, q3, q4, q5⟩ := hP'
  obtain ⟨t, v', L', r1, r2⟩ := K v T'.vm T'.heap q2 q3 T' _ _ hx hk hE X' rfl (hS.trans hS' (Nat.le_trans hk0 (by rw [← eT]; exact hg'))) (Nat.le_refl _) (Fr.app hF q1) (State.Warmed39.trans (t := s.setVm vm) hZ hS'.1) (fun z => State.WarmedH.trans (t := s.setVm vm) (hN z) (q5 z)) (hC.trans q3) q4
  exact ⟨t, v', L', st'.trans r1, r2⟩
theorem Go.callVU {own C owner : String} {a : Addr} {y0 : MethodName} {y : MethodName} {bytes : ByteArray} {maxL : Nat} {ret : Option FieldType} {rm : Room} {W index : Nat} {argsL : List Value} {as : Array Value} {sf : List Addr} {Q' : Option Value → Vm → Heap → Prop} (hM : Ct l Z EL nw [] y bytes maxL ret rm as h sf Q') (hown : Z.vm.findClass own = some m.cls) (w1 : (Jvm.Cond.methodLink own index y0).before a0 Z = true) (w2 : (Jvm.Cond.sameMethod y0.cls owner y0.name y0.desc).before a0 Z = true) (w5 : (Jvm.Cond.declares ⟨owner, y0.name, y0.desc⟩).before a0 Z = true) (w3 : (Jvm.Cond.selects C y0 y).before a0 Z = true) (w4 : (Jvm.Cond.instanceMethod y).before a0 Z = true) (E : Exa Z h a C) (wc : (Jvm.Cond.code y bytes maxL ret).before a0 Z = true) (wz : (Jvm.Cond.initialized y.cls).before a0 Z = true)
    (hy : owner ≠ "java/lang/invoke/MethodHandle" ∧ owner ≠ "java/lang/invoke/VarHandle") (hlen : ∀ sig, parseMethodDescriptor y0.desc = some sig → argsL.length = sig.parameters.length) (has : as = (.ref a :: argsL).toArray) (hL : L.size = c.maxLocals) (hW : (st.map fun v => v.category).sum = W) (hd : decode c.code pc = .ok (.invokevirtual index, 3)) (hp : pc + 3 = pc') (hf : rm.frames + 1 ≤ R.frames) (hl : W + (maxL + 11) + rm.locals ≤ R.locals) (hc1 : k + rm.cells ≤ R.cells) (hc2 : n + rm.slots ≤ R.slots) (hsf : ∀ x ∈ sf, h.size > x ∧ Safe Z EL vm h x)
    (K : ∀ (v : Option Value) (vm' : Vm) (h' : Heap), Q' v vm' h' → CHr Z EL vm h vm' h' → Go p l e R s m args below meth c Z a0 EL nw Q vm' h' (k + rm.cells) (n + rm.slots) pc' L (v.toList ++ st)) : Go p l e R s m args below meth c Z a0 EL nw Q vm h k n pc L (argsL.reverse ++ .ref a :: st) := fun T locs k0 hx hk hE X eT hS hk0 hF hZ hN hC hO => by
  subst hp has
  have hown' : (s.setVm vm).vm.findClass own = some m.cls := by
    show vm.findClass own = _
    rw [hZ.alike.findClass]; exact hown
  have hWW : 2 * (mkF m pc L (argsL.reverse ++ .ref a :: st)).monitorRoom + (st.map fun v => v.category).sum ≤ W := by show 2 * 0 + _ ≤ _; rw [Nat.mul_zero, Nat.zero_add]; exact Nat.le_of_eq hW
  have hB := fun len => Ct.back (p := p) (e := e) (below := below) (s := s) (args := args) (len := len) hM hZ wc wz hf hl hE hC.1 hO hsf
  obtain ⟨cB, kB, qa, qb, qc⟩ := isOf (s := s.setVm vm) (T := T) hZ eT E
  obtain ⟨v, vm1, ⟨T', L1, k1, n1⟩, -, X', hS', hg', hP', st'⟩ := X.virtualBackUpS hx hown' (mv (s := s.setVm vm) hZ w1) (mv (s := s.setVm vm) hZ w2) (mv (s := s.setVm vm) hZ w5) hy (mv (s := s.setVm vm) hZ w3) (mv (s := s.setVm vm) hZ w4) (hB 3) qa qc (g := mkF m pc L (argsL.reverse ++ .ref a :: st)) rfl hL (Steps.refl _) (argsL := argsL) (rest := st) hlen rfl hWW hd (fun _ _ => ⟨rfl, eT, hc1, hc2⟩)
  dsimp only [Pt.U, Pt.locs, Pt.cells, Pt.slots] at X' hS' hg' hP' st'
  obtain ⟨L2, rfl, rfl, rfl, q1, q2, q3, q4, q5⟩ := hP'
  obtain ⟨t, v', L', r1, r2⟩ := K v T'.vm T'.heap q2 q3 T' _ _ hx hk hE X' rfl (hS.trans hS' (Nat.le_trans hk0 (by rw [← eT]; exact hg'))) (Nat.le_refl _) (Fr.app hF q1) (State.Warmed39.trans (t := s.setVm vm) hZ hS'.1) (fun z => State.WarmedH.trans (t := s.setVm vm) (hN z) (q5 z)) (hC.trans q3) q4
  exact ⟨t, v', L', st'.trans r1, r2⟩
theorem Go.callI {own C : String} {a : Addr} {count : Nat} {y0 : MethodName} {y : MethodName} {bytes : ByteArray} {maxL : Nat} {ret : Option FieldType} {rm : Room} {W index : Nat} {argsL : List Value} {as : Array Value} {sf : List Addr} {Q' : Option Value → Vm → Heap → Prop} (hM : Ct l Z EL nw [] y bytes maxL ret rm as h sf Q') (hown : Z.vm.findClass own = some m.cls) (w1 : (Jvm.Cond.methodLink own index y0).before a0 Z = true) (w2 : (Jvm.Cond.declares y0).before a0 Z = true) (w5 : (Jvm.Cond.interfaceMethod y0.cls y0.cls y0.name y0.desc).before a0 Z = true) (w3 : (Jvm.Cond.selects C y0 y).before a0 Z = true) (w4 : (Jvm.Cond.instanceMethod y).before a0 Z = true) (w6 : (Jvm.Cond.publicMethod y).before a0 Z = true) (w7 : (Jvm.Cond.unhidden C y0.name y0.desc).before a0 Z = true) (w8 : (Jvm.Cond.castable C y0.cls).before a0 Z = true) (h5 : ((Jvm.Cond.interfaceMethod y0.cls y0.cls y0.name y0.desc).onTables && (Jvm.Cond.interfaceMethod y0.cls y0.cls y0.name y0.desc).keepsFace) = true) (E : Exa Z h a C) (wc : (Jvm.Cond.code y bytes maxL ret).before a0 Z = true) (wz : (Jvm.Cond.initialized y.cls).before a0 Z = true)
    (hy : y0.cls ≠ "java/lang/invoke/MethodHandle" ∧ y0.cls ≠ "java/lang/invoke/VarHandle") (hlen : ∀ sig, parseMethodDescriptor y0.desc = some sig → argsL.length = sig.parameters.length) (has : as = (.ref a :: argsL).toArray) (hL : L.size = c.maxLocals) (hW : (st.map fun v => v.category).sum = W) (hd : decode c.code pc = .ok (.invokeinterface index count, 5)) (hp : pc + 5 = pc') (hf : rm.frames + 1 ≤ R.frames) (hl : W + (maxL + 11) + rm.locals ≤ R.locals) (hc1 : k + rm.cells ≤ R.cells) (hc2 : n + rm.slots ≤ R.slots) (hsf : ∀ x ∈ sf, h.size > x ∧ Safe Z EL vm h x)
    (K : ∀ (v : Option Value) (vm' : Vm) (h' : Heap), Q' v vm' h' → CHr Z EL vm h vm' h' → Go p l e R s m args below meth c Z a0 EL nw Q vm' h' (k + rm.cells) (n + rm.slots) pc' L (v.toList ++ st)) : Go p l e R s m args below meth c Z a0 EL nw Q vm h k n pc L (argsL.reverse ++ .ref a :: st) := fun T locs k0 hx hk hE X eT hS hk0 hF hZ hN hC hO => by
  subst hp has
  have hown' : (s.setVm vm).vm.findClass own = some m.cls := by
    show vm.findClass own = _
    rw [hZ.alike.findClass]; exact hown
  have hWW : 2 * (mkF m pc L (argsL.reverse ++ .ref a :: st)).monitorRoom + (st.map fun v => v.category).sum ≤ W := by show 2 * 0 + _ ≤ _; rw [Nat.mul_zero, Nat.zero_add]; exact Nat.le_of_eq hW
  have hB := fun len => Ct.back (p := p) (e := e) (below := below) (s := s) (args := args) (len := len) hM hZ wc wz hf hl hE hC.1 hO hsf
  obtain ⟨cB, kB, qa, qb, qc⟩ := isOf (s := s.setVm vm) (T := T) hZ eT E
  obtain ⟨v, vm1, ⟨T', L1, k1, n1⟩, -, X', hS', hg', hP', st'⟩ := X.interfaceBackS hx hown' (mv (s := s.setVm vm) hZ w1) (mv (s := s.setVm vm) hZ w2) (mv (s := s.setVm vm) hZ w5 h5) (mv (s := s.setVm vm) hZ w3) (mv (s := s.setVm vm) hZ w4) (mv (s := s.setVm vm) hZ w6) (mv (s := s.setVm vm) hZ w7) (mv (s := s.setVm vm) hZ w8) hy (hB 5) qa qb qc (g := mkF m pc L (argsL.reverse ++ .ref a :: st)) rfl hL (Steps.refl _) (argsL := argsL) (rest := st) hlen rfl hWW hd (fun _ _ => ⟨rfl, eT, hc1, hc2⟩)
  dsimp only [Pt.U, Pt.locs, Pt.cells, Pt.slots] at X' hS' hg' hP' st'
  obtain ⟨L2, rfl, rfl, rfl, q1, q2, q3, q4, q5⟩ := hP'
  obtain ⟨t, v', L', r1, r2⟩ := K v T'.vm T'.heap q2 q3 T' _ _ hx hk hE X' rfl (hS.trans hS' (Nat.le_trans hk0 (by rw [← eT]; exact hg'))) (Nat.le_refl _) (Fr.app hF q1) (State.Warmed39.trans (t := s.setVm vm) hZ hS'.1) (fun z => State.WarmedH.trans (t := s.setVm vm) (hN z) (q5 z)) (hC.trans q3) q4
  exact ⟨t, v', L', st'.trans r1, r2⟩
theorem Go.callP {own C : String} {a : Addr} {y : MethodName} {bytes : ByteArray} {maxL : Nat} {ret : Option FieldType} {rm : Room} {W index : Nat} {argsL : List Value} {as : Array Value} {sf : List Addr} {Q' : Option Value → Vm → Heap → Prop} (hM : Ct l Z EL nw [] y bytes maxL ret rm as h sf Q') (hown : Z.vm.findClass own = some m.cls) (w1 : (Jvm.Cond.methodLink own index y).before a0 Z = true) (w2 : (Jvm.Cond.instanceMethod y).before a0 Z = true) (w3 : (Jvm.Cond.selects y.cls y y).before a0 Z = true) (w4 : (Jvm.Cond.privateMethod y).before a0 Z = true) (E : Exa Z h a C) (wc : (Jvm.Cond.code y bytes maxL ret).before a0 Z = true) (wz : (Jvm.Cond.initialized y.cls).before a0 Z = true)
    (hy : y.cls ≠ "java/lang/invoke/MethodHandle" ∧ y.cls ≠ "java/lang/invoke/VarHandle") (hlen : ∀ sig, parseMethodDescriptor y.desc = some sig → argsL.length = sig.parameters.length) (has : as = (.ref a :: argsL).toArray) (hL : L.size = c.maxLocals) (hW : (st.map fun v => v.category).sum = W) (hd : decode c.code pc = .ok (.invokevirtual index, 3)) (hp : pc + 3 = pc') (hf : rm.frames + 1 ≤ R.frames) (hl : W + (maxL + 11) + rm.locals ≤ R.locals) (hc1 : k + rm.cells ≤ R.cells) (hc2 : n + rm.slots ≤ R.slots) (hsf : ∀ x ∈ sf, h.size > x ∧ Safe Z EL vm h x)
    (K : ∀ (v : Option Value) (vm' : Vm) (h' : Heap), Q' v vm' h' → CHr Z EL vm h vm' h' → Go p l e R s m args below meth c Z a0 EL nw Q vm' h' (k + rm.cells) (n + rm.slots) pc' L (v.toList ++ st)) : Go p l e R s m args below meth c Z a0 EL nw Q vm h k n pc L (argsL.reverse ++ .ref a :: st) := fun T locs k0 hx hk hE X eT hS hk0 hF hZ hN hC hO => by
  subst hp has
  have hown' : (s.setVm vm).vm.findClass own = some m.cls := by
    show vm.findClass own = _
    rw [hZ.alike.findClass]; exact hown
  have hWW : 2 * (mkF m pc L (argsL.reverse ++ .ref a :: st)).monitorRoom + (st.map fun v => v.category).sum ≤ W := by show 2 * 0 + _ ≤ _; rw [Nat.mul_zero, Nat.zero_add]; exact Nat.le_of_eq hW
  have hB := fun len => Ct.back (p := p) (e := e) (below := below) (s := s) (args := args) (len := len) hM hZ wc wz hf hl hE hC.1 hO hsf
  obtain ⟨cq, q1', q2'⟩ := E.cell
  obtain ⟨v, vm1, ⟨T', L1, k1, n1⟩, -, X', hS', hg', hP', st'⟩ := X.privateBackS hx hown' (mv (s := s.setVm vm) hZ w1) (mv (s := s.setVm vm) hZ w2) (mv (s := s.setVm vm) hZ w3) (Cond.privateMethod_at (mvP (s := s.setVm vm) hZ w4 (args := #[]))) (mv (s := s.setVm vm) hZ wc) hy (hB 3) (g := mkF m pc L (argsL.reverse ++ .ref a :: st)) rfl hL (Steps.refl _) (a := a) (cell := cq) (by rw [eT]; exact q1') q2' (argsL := argsL) (rest := st) hlen rfl hWW hd (fun _ _ => ⟨rfl, eT, hc1, hc2⟩)
  dsimp only [Pt.U, Pt.locs, Pt.cells, Pt.slots] at X' hS' hg' hP' st'
  obtain ⟨L2, rfl, rfl, rfl, q1, q2, q3, q4, q5⟩ := hP'
  obtain ⟨t, v', L', r1, r2⟩ := K v T'.vm T'.heap q2 q3 T' _ _ hx hk hE X' rfl (hS.trans hS' (Nat.le_trans hk0 (by rw [← eT]; exact hg'))) (Nat.le_refl _) (Fr.app hF q1) (State.Warmed39.trans (t := s.setVm vm) hZ hS'.1) (fun z => State.WarmedH.trans (t := s.setVm vm) (hN z) (q5 z)) (hC.trans q3) q4
  exact ⟨t, v', L', st'.trans r1, r2⟩
end Walk
end Jvm.Own
namespace Jvm.Own
open Sem ClassFile Op Lib Jvm.Free Jvm.Stand Jvm.LawKit Jvm.RoadKit Bundle
theorem nc255 (x : Int32) : nar .char (x &&& 255) = x &&& 255 := i2c_mask x
theorem and_toInt (x : Int32) (m : Nat) (hm : m < 2 ^ 31) : 0 ≤ (x &&& Int32.ofNat m).toInt ∧ (x &&& Int32.ofNat m).toInt ≤ m := by
  have e : (x &&& Int32.ofNat m).toInt = (x.toBitVec &&& BitVec.ofNat 32 m).toInt := rfl
  have h1 : (x.toBitVec &&& BitVec.ofNat 32 m).toNat ≤ m := by
    rw [BitVec.toNat_and]
    refine Nat.le_trans Nat.and_le_right ?_
    rw [BitVec.toNat_ofNat]; exact Nat.mod_le _ _
  rw [e, BitVec.toInt_eq_toNat_of_lt (by omega)]
  omega
theorem m255 (x : Int32) : 0 ≤ (x &&& 255).toInt ∧ (x &&& 255).toInt ≤ 255 := and_toInt x 255 (by decide)
theorem al0 {P : Int32 → Prop} : ∀ x ∈ ([] : List Int32), P x := fun _ h => nomatch h
theorem alS {P : Int32 → Prop} {y : Int32} {L : List Int32} (q : P y) (r : ∀ x ∈ L, P x) : ∀ x ∈ y :: L, P x := fun x hx => (List.mem_cons.mp hx).elim (fun e => e ▸ q) (r x)
/-- the byte that a char becomes -/
def by8 (c : Int32) : Int32 := c.toInt8.toInt32
theorem toInt_nat {n : Nat} (h : n < 2 ^ 31) : n.toInt32.toInt = n := Int32.toInt_ofNat_small h
theorem clamp_nat {n : Nat} (h : n < 2 ^ 31) : n.toInt32.toNatClampNeg = n := by
  rw [← Int32.toNat_toInt, toInt_nat h]; rfl
theorem lt32 {i n : Nat} (hi : i < 2 ^ 31) (hn : n < 2 ^ 31) : i.toInt32 < n.toInt32 ↔ i < n := by
  rw [Int32.lt_iff_toInt_lt, toInt_nat hi, toInt_nat hn]; omega
theorem nneg32 {n : Nat} (h : n < 2 ^ 31) : ¬ n.toInt32 < 0 := by
  rw [Int32.lt_iff_toInt_lt, toInt_nat h]
  have e0 : (0 : Int32).toInt = 0 := rfl
  omega
theorem succ32 (i : Nat) : i.toInt32 + 1 = (i + 1).toInt32 := (Int32.ofNat_add i 1).symm
theorem eq32 {i n : Nat} (hi : i < 2 ^ 31) (hn : n < 2 ^ 31) : i.toInt32 = n.toInt32 ↔ i = n := by
  constructor
  · intro q
    have := congrArg Int32.toInt q
    rw [toInt_nat hi, toInt_nat hn] at this; omega
  · rintro rfl; rfl
theorem nz32 {n : Nat} (h : n < 2 ^ 31) (h0 : 0 < n) : ¬ n.toInt32 = 0 := fun q => by
  have := (eq32 (n := 0) h (by decide)).mp q; omega
theorem nar_by8 (c : Int32) : nar .byte (c.toInt8.toInt32) = by8 c := by
  show (c.toInt8.toInt32).toInt8.toInt32 = _
  simp [by8]
theorem sub0 (x : Int32) : x - x = 0 := by simp
theorem cache_ix {z : Int32} (h1 : ¬ z < -128) (h2 : ¬ (127 : Int32) < z) : ¬ (z + 128) < 0 ∧ (z + 128).toNatClampNeg < 256 := by
  rw [Int32.lt_iff_toInt_lt] at h1 h2
  have e1 : (-128 : Int32).toInt = -128 := rfl
  have e2 : (127 : Int32).toInt = 127 := rfl
  have e3 : (128 : Int32).toInt = 128 := rfl
  have e0 : (0 : Int32).toInt = 0 := rfl
  have q : (z + 128).toInt = z.toInt + 128 := by
    rw [Int32.toInt_add, e3]
    exact Int.bmod_eq_of_le (by omega) (by omega)
  refine ⟨?_, ?_⟩
  · rw [Int32.lt_iff_toInt_lt, q]; omega
  · rw [← Int32.toNat_toInt, q]; omega
/-- true and false as ints -/
def bo (q : Prop) [Decidable q] : Int32 := if q then 1 else 0
theorem bo_yes {q : Prop} [Decidable q] (h : q) : bo q = 1 := if_pos h
theorem bo_no {q : Prop} [Decidable q] (h : ¬ q) : bo q = 0 := if_neg h
theorem bo_nar {q : Prop} [Decidable q] : nar .boolean (bo q) = bo q := by unfold bo; split <;> rfl
theorem bo_ne0 {q : Prop} [Decidable q] : (¬ bo q = 0) ↔ q := by unfold bo; split <;> simp_all
theorem bo_cases {q : Prop} [Decidable q] : q ∧ bo q = 1 ∨ ¬ q ∧ bo q = 0 := by by_cases h : q <;> simp [bo, h]
theorem bo_congr {p q : Prop} [Decidable p] [Decidable q] (h : p ↔ q) : bo p = bo q := by unfold bo; simp [h]
theorem toInt_eq {x : Int32} {n : Int} (h : x.toInt = n) : x = Int32.ofInt n := by rw [← h, Int32.ofInt_toInt]
theorem and3 (x : Int32) : x &&& 3 = 0 ∨ x &&& 3 = 1 ∨ x &&& 3 = 2 ∨ x &&& 3 = 3 := by
  have h := and_toInt x 3 (by decide)
  have e : (x &&& Int32.ofNat 3) = x &&& 3 := rfl
  rw [e] at h
  have : (x &&& 3).toInt = 0 ∨ (x &&& 3).toInt = 1 ∨ (x &&& 3).toInt = 2 ∨ (x &&& 3).toInt = 3 := by omega
  rcases this with q | q | q | q
  · exact Or.inl (toInt_eq q)
  · exact Or.inr (Or.inl (toInt_eq q))
  · exact Or.inr (Or.inr (Or.inl (toInt_eq q)))
  · exact Or.inr (Or.inr (Or.inr (toInt_eq q)))
theorem rem3 (x : Int32) : (x &&& 3) % 3 = 0 ∨ (x &&& 3) % 3 = 1 ∨ (x &&& 3) % 3 = 2 := by
  rcases and3 x with q | q | q | q <;> rw [q] <;> decide
theorem by8_toInt (c : Int32) : (by8 c).toInt = c.toInt.bmod 256 := by
  show (c.toInt8.toInt32).toInt = _
  rw [Int8.toInt_toInt32, Int32.toInt_toInt8]
theorem by8_inj {x y : Int32} (hx : 0 ≤ x.toInt ∧ x.toInt ≤ 255) (hy : 0 ≤ y.toInt ∧ y.toInt ≤ 255) (h : by8 x = by8 y) : x = y := by
  have q := congrArg Int32.toInt h
  rw [by8_toInt, by8_toInt] at q
  apply Int32.toInt_inj.mp
  have h1 : (x.toInt.bmod 256) % 256 = x.toInt % 256 := Int.bmod_emod
  have h2 : (y.toInt.bmod 256) % 256 = y.toInt % 256 := Int.bmod_emod
  rw [q] at h1
  omega
theorem nch {x : Int32} (h : 0 ≤ x.toInt ∧ x.toInt ≤ 255) : nar .char x = x := by
  have e : x &&& 255 = x := by
    apply Int32.toBitVec_inj.mp
    show x.toBitVec &&& 255#32 = x.toBitVec
    apply BitVec.eq_of_toNat_eq
    have hn : x.toBitVec.toNat ≤ 255 := by
      have h2 : x.toInt = x.toBitVec.toInt := rfl
      rw [h2, BitVec.toInt_eq_toNat_cond] at h
      have := x.toBitVec.isLt
      split at h <;> omega
    rw [BitVec.toNat_and]
    show x.toBitVec.toNat &&& (2 ^ 8 - 1) = _
    rw [Nat.and_two_pow_sub_one_eq_mod]; omega
  rw [← e]; exact nc255 x
theorem le255 {x : Int32} (h : 0 ≤ x.toInt ∧ x.toInt ≤ 255) : ¬ (255 : Int32) < x := by
  rw [Int32.lt_iff_toInt_lt]
  have : (255 : Int32).toInt = 255 := rfl
  omega
theorem fill_set {α : Type} (xs : List α) (z : α) (i : Nat) (hi : i < xs.length) : (xs.take i ++ List.replicate (xs.length - i) z).set i xs[i] = xs.take (i + 1) ++ List.replicate (xs.length - (i + 1)) z := by
  have h1 : (xs.take i).length = i := by simp; omega
  have h2 : xs.length - i = (xs.length - (i + 1)) + 1 := by omega
  rw [List.set_append_right _ _ (by omega), h1, Nat.sub_self, h2, List.replicate_succ, List.set_cons_zero, List.take_succ_eq_append_getElem hi, List.append_assoc]; rfl
end Jvm.Own
namespace Jvm.Pilot.@@N@@
open Jvm Jvm.ClassFile Sem Op Lib Jvm.Free Jvm.Stand Jvm.LawKit Jvm.RoadKit Bundle Jvm.Own Jvm.Pilot.@@N@@.Jvm.D
def GH (Z : State) (a0 : Array Value) (EL : List (String × Nat)) (zc : Int32) (idn : Addr) : Prop :=
  (∀ d ∈ tables_1, d.before a0 Z = true) ∧ EW Z a0 EL ∧ (∀ a ∈ Bundle.stringAtoms, a.before a0 Z = true) ∧ (∀ p ∈ consts_1, p ∈ EL) ∧ Sta Z Z.heap "java/lang/String" "COMPACT_STRINGS" "Z" (.int zc) ∧ ¬ zc = 0 ∧ Sta Z Z.heap "com/example/bindery/bindery/TokenType" "IDENTIFIER" "Lcom/example/bindery/bindery/TokenType;" (.ref idn)
theorem wd_0 {Z : State} {a0 : Array Value} {EL : List (String × Nat)} {zc : Int32} {idn : Addr} (g : GH Z a0 EL zc idn) : (Jvm.Cond.methodLink "com/example/bindery/bindery/NamedTokenPinLaw" (12 : Nat) ({ cls := "com/example/bindery/bindery/NamedTokenPinLaw", name := "text", desc := "(II)Ljava/lang/String;" } : Jvm.MethodName)).before a0 Z = true := g.1 _ (List.mem_of_getElem? (i := 0) rfl)
theorem wd_1 {Z : State} {a0 : Array Value} {EL : List (String × Nat)} {zc : Int32} {idn : Addr} (g : GH Z a0 EL zc idn) : (Jvm.Cond.static ({ cls := "com/example/bindery/bindery/NamedTokenPinLaw", name := "text", desc := "(II)Ljava/lang/String;" } : Jvm.MethodName)).before a0 Z = true := g.1 _ (List.mem_of_getElem? (i := 1) rfl)
theorem wd_2 {Z : State} {a0 : Array Value} {EL : List (String × Nat)} {zc : Int32} {idn : Addr} (g : GH Z a0 EL zc idn) : (Jvm.Cond.initialized "com/example/bindery/bindery/NamedTokenPinLaw").before a0 Z = true := g.1 _ (List.mem_of_getElem? (i := 2) rfl)
theorem wd_3 {Z : State} {a0 : Array Value} {EL : List (String × Nat)} {zc : Int32} {idn : Addr} (g : GH Z a0 EL zc idn) : (Jvm.Cond.code ({ cls := "com/example/bindery/bindery/NamedTokenPinLaw", name := "text", desc := "(II)Ljava/lang/String;" } : Jvm.MethodName) method_2_code (5 : Nat) (Option.some (Jvm.ClassFile.FieldType.object "java/lang/String"))).before a0 Z = true := g.1 _ (List.mem_of_getElem? (i := 3) rfl)
theorem wd_4 {Z : State} {a0 : Array Value} {EL : List (String × Nat)} {zc : Int32} {idn : Addr} (g : GH Z a0 EL zc idn) : (Jvm.Cond.classLink "com/example/bindery/bindery/NamedTokenPinLaw" (7 : Nat) "java/lang/String").before a0 Z = true := g.1 _ (List.mem_of_getElem? (i := 4) rfl)
theorem wd_5 {Z : State} {a0 : Array Value} {EL : List (String × Nat)} {zc : Int32} {idn : Addr} (g : GH Z a0 EL zc idn) : (Jvm.Cond.instantiable "java/lang/String" (4 : Nat)).before a0 Z = true := g.1 _ (List.mem_of_getElem? (i := 5) rfl)
theorem wd_6 {Z : State} {a0 : Array Value} {EL : List (String × Nat)} {zc : Int32} {idn : Addr} (g : GH Z a0 EL zc idn) : (Jvm.Cond.initialized "java/lang/String").before a0 Z = true := g.1 _ (List.mem_of_getElem? (i := 6) rfl)
theorem wd_7 {Z : State} {a0 : Array Value} {EL : List (String × Nat)} {zc : Int32} {idn : Addr} (g : GH Z a0 EL zc idn) : (Jvm.Cond.arrayClass Jvm.ClassFile.FieldType.char).before a0 Z = true := g.1 _ (List.mem_of_getElem? (i := 7) rfl)
theorem wd_8 {Z : State} {a0 : Array Value} {EL : List (String × Nat)} {zc : Int32} {idn : Addr} (g : GH Z a0 EL zc idn) : (Jvm.Cond.methodLink "com/example/bindery/bindery/NamedTokenPinLaw" (9 : Nat) ({ cls := "java/lang/String", name := "<init>", desc := "([C)V" } : Jvm.MethodName)).before a0 Z = true := g.1 _ (List.mem_of_getElem? (i := 8) rfl)
theorem wd_9 {Z : State} {a0 : Array Value} {EL : List (String × Nat)} {zc : Int32} {idn : Addr} (g : GH Z a0 EL zc idn) : (Jvm.Cond.instanceMethod ({ cls := "java/lang/String", name := "<init>", desc := "([C)V" } : Jvm.MethodName)).before a0 Z = true := g.1 _ (List.mem_of_getElem? (i := 9) rfl)
theorem wd_10 {Z : State} {a0 : Array Value} {EL : List (String × Nat)} {zc : Int32} {idn : Addr} (g : GH Z a0 EL zc idn) : (Jvm.Cond.code ({ cls := "java/lang/String", name := "<init>", desc := "([C)V" } : Jvm.MethodName) jdk_42_method_3_code (2 : Nat) (Option.none : Option Jvm.ClassFile.FieldType)).before a0 Z = true := g.1 _ (List.mem_of_getElem? (i := 10) rfl)
theorem wd_11 {Z : State} {a0 : Array Value} {EL : List (String × Nat)} {zc : Int32} {idn : Addr} (g : GH Z a0 EL zc idn) : (Jvm.Cond.methodLink "java/lang/String" (27 : Nat) ({ cls := "java/lang/String", name := "<init>", desc := "([CIILjava/lang/Void;)V" } : Jvm.MethodName)).before a0 Z = true := g.1 _ (List.mem_of_getElem? (i := 11) rfl)
theorem wd_12 {Z : State} {a0 : Array Value} {EL : List (String × Nat)} {zc : Int32} {idn : Addr} (g : GH Z a0 EL zc idn) : (Jvm.Cond.instanceMethod ({ cls := "java/lang/String", name := "<init>", desc := "([CIILjava/lang/Void;)V" } : Jvm.MethodName)).before a0 Z = true := g.1 _ (List.mem_of_getElem? (i := 12) rfl)
theorem wd_14 {Z : State} {a0 : Array Value} {EL : List (String × Nat)} {zc : Int32} {idn : Addr} (g : GH Z a0 EL zc idn) : (Jvm.Cond.code ({ cls := "java/lang/String", name := "<init>", desc := "([CIILjava/lang/Void;)V" } : Jvm.MethodName) jdk_42_method_149_code (6 : Nat) (Option.none : Option Jvm.ClassFile.FieldType)).before a0 Z = true := g.1 _ (List.mem_of_getElem? (i := 14) rfl)
theorem wd_15 {Z : State} {a0 : Array Value} {EL : List (String × Nat)} {zc : Int32} {idn : Addr} (g : GH Z a0 EL zc idn) : (Jvm.Cond.methodLink "java/lang/String" (1 : Nat) ({ cls := "java/lang/Object", name := "<init>", desc := "()V" } : Jvm.MethodName)).before a0 Z = true := g.1 _ (List.mem_of_getElem? (i := 15) rfl)
theorem wd_16 {Z : State} {a0 : Array Value} {EL : List (String × Nat)} {zc : Int32} {idn : Addr} (g : GH Z a0 EL zc idn) : (Jvm.Cond.instanceMethod ({ cls := "java/lang/Object", name := "<init>", desc := "()V" } : Jvm.MethodName)).before a0 Z = true := g.1 _ (List.mem_of_getElem? (i := 16) rfl)
theorem wd_17 {Z : State} {a0 : Array Value} {EL : List (String × Nat)} {zc : Int32} {idn : Addr} (g : GH Z a0 EL zc idn) : (Jvm.Cond.code ({ cls := "java/lang/Object", name := "<init>", desc := "()V" } : Jvm.MethodName) object_method_1_code (1 : Nat) (Option.none : Option Jvm.ClassFile.FieldType)).before a0 Z = true := g.1 _ (List.mem_of_getElem? (i := 17) rfl)
theorem wd_18 {Z : State} {a0 : Array Value} {EL : List (String × Nat)} {zc : Int32} {idn : Addr} (g : GH Z a0 EL zc idn) : (Jvm.Cond.fieldLink "java/lang/String" (38 : Nat) "java/lang/String" "COMPACT_STRINGS" "Z").before a0 Z = true := g.1 _ (List.mem_of_getElem? (i := 18) rfl)
theorem wd_19 {Z : State} {a0 : Array Value} {EL : List (String × Nat)} {zc : Int32} {idn : Addr} (g : GH Z a0 EL zc idn) : (Jvm.Cond.methodLink "java/lang/String" (177 : Nat) ({ cls := "java/lang/StringUTF16", name := "compress", desc := "([CII)[B" } : Jvm.MethodName)).before a0 Z = true := g.1 _ (List.mem_of_getElem? (i := 19) rfl)
theorem wd_20 {Z : State} {a0 : Array Value} {EL : List (String × Nat)} {zc : Int32} {idn : Addr} (g : GH Z a0 EL zc idn) : (Jvm.Cond.static ({ cls := "java/lang/StringUTF16", name := "compress", desc := "([CII)[B" } : Jvm.MethodName)).before a0 Z = true := g.1 _ (List.mem_of_getElem? (i := 20) rfl)
theorem wd_21 {Z : State} {a0 : Array Value} {EL : List (String × Nat)} {zc : Int32} {idn : Addr} (g : GH Z a0 EL zc idn) : (Jvm.Cond.initialized "java/lang/StringUTF16").before a0 Z = true := g.1 _ (List.mem_of_getElem? (i := 21) rfl)
theorem wd_22 {Z : State} {a0 : Array Value} {EL : List (String × Nat)} {zc : Int32} {idn : Addr} (g : GH Z a0 EL zc idn) : (Jvm.Cond.code ({ cls := "java/lang/StringUTF16", name := "compress", desc := "([CII)[B" } : Jvm.MethodName) jdk_52_method_16_code (6 : Nat) (Option.some (Jvm.ClassFile.FieldType.array Jvm.ClassFile.FieldType.byte))).before a0 Z = true := g.1 _ (List.mem_of_getElem? (i := 22) rfl)
theorem wd_23 {Z : State} {a0 : Array Value} {EL : List (String × Nat)} {zc : Int32} {idn : Addr} (g : GH Z a0 EL zc idn) : (Jvm.Cond.arrayClass Jvm.ClassFile.FieldType.byte).before a0 Z = true := g.1 _ (List.mem_of_getElem? (i := 23) rfl)
theorem wd_24 {Z : State} {a0 : Array Value} {EL : List (String × Nat)} {zc : Int32} {idn : Addr} (g : GH Z a0 EL zc idn) : (Jvm.Cond.methodLink "java/lang/StringUTF16" (115 : Nat) ({ cls := "java/lang/StringUTF16", name := "compress", desc := "([CI[BII)I" } : Jvm.MethodName)).before a0 Z = true := g.1 _ (List.mem_of_getElem? (i := 24) rfl)
theorem wd_25 {Z : State} {a0 : Array Value} {EL : List (String × Nat)} {zc : Int32} {idn : Addr} (g : GH Z a0 EL zc idn) : (Jvm.Cond.static ({ cls := "java/lang/StringUTF16", name := "compress", desc := "([CI[BII)I" } : Jvm.MethodName)).before a0 Z = true := g.1 _ (List.mem_of_getElem? (i := 25) rfl)
theorem wd_26 {Z : State} {a0 : Array Value} {EL : List (String × Nat)} {zc : Int32} {idn : Addr} (g : GH Z a0 EL zc idn) : (Jvm.Cond.code ({ cls := "java/lang/StringUTF16", name := "compress", desc := "([CI[BII)I" } : Jvm.MethodName) jdk_52_method_21_code (7 : Nat) (Option.some Jvm.ClassFile.FieldType.int)).before a0 Z = true := g.1 _ (List.mem_of_getElem? (i := 26) rfl)
theorem wd_27 {Z : State} {a0 : Array Value} {EL : List (String × Nat)} {zc : Int32} {idn : Addr} (g : GH Z a0 EL zc idn) : (Jvm.Cond.methodLink "java/lang/String" (47 : Nat) ({ cls := "java/lang/StringUTF16", name := "coderFromArrayLen", desc := "([BI)B" } : Jvm.MethodName)).before a0 Z = true := g.1 _ (List.mem_of_getElem? (i := 27) rfl)
theorem wd_28 {Z : State} {a0 : Array Value} {EL : List (String × Nat)} {zc : Int32} {idn : Addr} (g : GH Z a0 EL zc idn) : (Jvm.Cond.static ({ cls := "java/lang/StringUTF16", name := "coderFromArrayLen", desc := "([BI)B" } : Jvm.MethodName)).before a0 Z = true := g.1 _ (List.mem_of_getElem? (i := 28) rfl)
theorem wd_29 {Z : State} {a0 : Array Value} {EL : List (String × Nat)} {zc : Int32} {idn : Addr} (g : GH Z a0 EL zc idn) : (Jvm.Cond.code ({ cls := "java/lang/StringUTF16", name := "coderFromArrayLen", desc := "([BI)B" } : Jvm.MethodName) jdk_52_method_15_code (2 : Nat) (Option.some Jvm.ClassFile.FieldType.byte)).before a0 Z = true := g.1 _ (List.mem_of_getElem? (i := 29) rfl)
theorem wd_30 {Z : State} {a0 : Array Value} {EL : List (String × Nat)} {zc : Int32} {idn : Addr} (g : GH Z a0 EL zc idn) : (Jvm.Cond.fieldLink "java/lang/String" (15 : Nat) "java/lang/String" "coder" "B").before a0 Z = true := g.1 _ (List.mem_of_getElem? (i := 30) rfl)
theorem wd_31 {Z : State} {a0 : Array Value} {EL : List (String × Nat)} {zc : Int32} {idn : Addr} (g : GH Z a0 EL zc idn) : (Jvm.Cond.laysFinal "java/lang/String" "java/lang/String" "coder" "B").before a0 Z = true := g.1 _ (List.mem_of_getElem? (i := 31) rfl)
theorem wd_32 {Z : State} {a0 : Array Value} {EL : List (String × Nat)} {zc : Int32} {idn : Addr} (g : GH Z a0 EL zc idn) : (Jvm.Cond.fieldLink "java/lang/String" (9 : Nat) "java/lang/String" "value" "[B").before a0 Z = true := g.1 _ (List.mem_of_getElem? (i := 32) rfl)
theorem wd_33 {Z : State} {a0 : Array Value} {EL : List (String × Nat)} {zc : Int32} {idn : Addr} (g : GH Z a0 EL zc idn) : (Jvm.Cond.laysFinal "java/lang/String" "java/lang/String" "value" "[B").before a0 Z = true := g.1 _ (List.mem_of_getElem? (i := 33) rfl)
theorem wd_34 {Z : State} {a0 : Array Value} {EL : List (String × Nat)} {zc : Int32} {idn : Addr} (g : GH Z a0 EL zc idn) : (Jvm.Cond.classLink "com/example/bindery/bindery/NamedTokenPinLaw" (18 : Nat) "com/example/bindery/bindery/Expr$Variable").before a0 Z = true := g.1 _ (List.mem_of_getElem? (i := 34) rfl)
theorem wd_35 {Z : State} {a0 : Array Value} {EL : List (String × Nat)} {zc : Int32} {idn : Addr} (g : GH Z a0 EL zc idn) : (Jvm.Cond.instantiable "com/example/bindery/bindery/Expr$Variable" (5 : Nat)).before a0 Z = true := g.1 _ (List.mem_of_getElem? (i := 35) rfl)
theorem wd_36 {Z : State} {a0 : Array Value} {EL : List (String × Nat)} {zc : Int32} {idn : Addr} (g : GH Z a0 EL zc idn) : (Jvm.Cond.initialized "com/example/bindery/bindery/Expr$Variable").before a0 Z = true := g.1 _ (List.mem_of_getElem? (i := 36) rfl)
theorem wd_37 {Z : State} {a0 : Array Value} {EL : List (String × Nat)} {zc : Int32} {idn : Addr} (g : GH Z a0 EL zc idn) : (Jvm.Cond.methodLink "com/example/bindery/bindery/NamedTokenPinLaw" (20 : Nat) ({ cls := "com/example/bindery/bindery/Expr$Variable", name := "<init>", desc := "(Ljava/lang/String;I)V" } : Jvm.MethodName)).before a0 Z = true := g.1 _ (List.mem_of_getElem? (i := 37) rfl)
theorem wd_38 {Z : State} {a0 : Array Value} {EL : List (String × Nat)} {zc : Int32} {idn : Addr} (g : GH Z a0 EL zc idn) : (Jvm.Cond.instanceMethod ({ cls := "com/example/bindery/bindery/Expr$Variable", name := "<init>", desc := "(Ljava/lang/String;I)V" } : Jvm.MethodName)).before a0 Z = true := g.1 _ (List.mem_of_getElem? (i := 38) rfl)
theorem wd_39 {Z : State} {a0 : Array Value} {EL : List (String × Nat)} {zc : Int32} {idn : Addr} (g : GH Z a0 EL zc idn) : (Jvm.Cond.code ({ cls := "com/example/bindery/bindery/Expr$Variable", name := "<init>", desc := "(Ljava/lang/String;I)V" } : Jvm.MethodName) prog_14_method_1_code (3 : Nat) (Option.none : Option Jvm.ClassFile.FieldType)).before a0 Z = true := g.1 _ (List.mem_of_getElem? (i := 39) rfl)
theorem wd_40 {Z : State} {a0 : Array Value} {EL : List (String × Nat)} {zc : Int32} {idn : Addr} (g : GH Z a0 EL zc idn) : (Jvm.Cond.methodLink "com/example/bindery/bindery/Expr$Variable" (1 : Nat) ({ cls := "com/example/bindery/bindery/Named", name := "<init>", desc := "(Ljava/lang/String;I)V" } : Jvm.MethodName)).before a0 Z = true := g.1 _ (List.mem_of_getElem? (i := 40) rfl)
theorem wd_41 {Z : State} {a0 : Array Value} {EL : List (String × Nat)} {zc : Int32} {idn : Addr} (g : GH Z a0 EL zc idn) : (Jvm.Cond.instanceMethod ({ cls := "com/example/bindery/bindery/Named", name := "<init>", desc := "(Ljava/lang/String;I)V" } : Jvm.MethodName)).before a0 Z = true := g.1 _ (List.mem_of_getElem? (i := 41) rfl)
theorem wd_43 {Z : State} {a0 : Array Value} {EL : List (String × Nat)} {zc : Int32} {idn : Addr} (g : GH Z a0 EL zc idn) : (Jvm.Cond.initialized "com/example/bindery/bindery/Named").before a0 Z = true := g.1 _ (List.mem_of_getElem? (i := 43) rfl)
theorem wd_44 {Z : State} {a0 : Array Value} {EL : List (String × Nat)} {zc : Int32} {idn : Addr} (g : GH Z a0 EL zc idn) : (Jvm.Cond.code ({ cls := "com/example/bindery/bindery/Named", name := "<init>", desc := "(Ljava/lang/String;I)V" } : Jvm.MethodName) prog_25_method_1_code (3 : Nat) (Option.none : Option Jvm.ClassFile.FieldType)).before a0 Z = true := g.1 _ (List.mem_of_getElem? (i := 44) rfl)
theorem wd_45 {Z : State} {a0 : Array Value} {EL : List (String × Nat)} {zc : Int32} {idn : Addr} (g : GH Z a0 EL zc idn) : (Jvm.Cond.methodLink "com/example/bindery/bindery/Named" (1 : Nat) ({ cls := "java/lang/Object", name := "<init>", desc := "()V" } : Jvm.MethodName)).before a0 Z = true := g.1 _ (List.mem_of_getElem? (i := 45) rfl)
theorem wd_46 {Z : State} {a0 : Array Value} {EL : List (String × Nat)} {zc : Int32} {idn : Addr} (g : GH Z a0 EL zc idn) : (Jvm.Cond.fieldLink "com/example/bindery/bindery/Named" (7 : Nat) "com/example/bindery/bindery/Named" "lexeme" "Ljava/lang/String;").before a0 Z = true := g.1 _ (List.mem_of_getElem? (i := 46) rfl)
theorem wd_47 {Z : State} {a0 : Array Value} {EL : List (String × Nat)} {zc : Int32} {idn : Addr} (g : GH Z a0 EL zc idn) : (Jvm.Cond.laysFinal "com/example/bindery/bindery/Expr$Variable" "com/example/bindery/bindery/Named" "lexeme" "Ljava/lang/String;").before a0 Z = true := g.1 _ (List.mem_of_getElem? (i := 47) rfl)
theorem wd_48 {Z : State} {a0 : Array Value} {EL : List (String × Nat)} {zc : Int32} {idn : Addr} (g : GH Z a0 EL zc idn) : (Jvm.Cond.fieldLink "com/example/bindery/bindery/Named" (13 : Nat) "com/example/bindery/bindery/Named" "line" "I").before a0 Z = true := g.1 _ (List.mem_of_getElem? (i := 48) rfl)
theorem wd_49 {Z : State} {a0 : Array Value} {EL : List (String × Nat)} {zc : Int32} {idn : Addr} (g : GH Z a0 EL zc idn) : (Jvm.Cond.laysFinal "com/example/bindery/bindery/Expr$Variable" "com/example/bindery/bindery/Named" "line" "I").before a0 Z = true := g.1 _ (List.mem_of_getElem? (i := 49) rfl)
theorem wd_50 {Z : State} {a0 : Array Value} {EL : List (String × Nat)} {zc : Int32} {idn : Addr} (g : GH Z a0 EL zc idn) : (Jvm.Cond.methodLink "com/example/bindery/bindery/NamedTokenPinLaw" (23 : Nat) ({ cls := "com/example/bindery/bindery/Expr$Variable", name := "token", desc := "()Lcom/example/bindery/bindery/Token;" } : Jvm.MethodName)).before a0 Z = true := g.1 _ (List.mem_of_getElem? (i := 50) rfl)
theorem wd_51 {Z : State} {a0 : Array Value} {EL : List (String × Nat)} {zc : Int32} {idn : Addr} (g : GH Z a0 EL zc idn) : (Jvm.Cond.sameMethod "com/example/bindery/bindery/Expr$Variable" "com/example/bindery/bindery/Named" "token" "()Lcom/example/bindery/bindery/Token;").before a0 Z = true := g.1 _ (List.mem_of_getElem? (i := 51) rfl)
theorem wd_52 {Z : State} {a0 : Array Value} {EL : List (String × Nat)} {zc : Int32} {idn : Addr} (g : GH Z a0 EL zc idn) : (Jvm.Cond.declares ({ cls := "com/example/bindery/bindery/Named", name := "token", desc := "()Lcom/example/bindery/bindery/Token;" } : Jvm.MethodName)).before a0 Z = true := g.1 _ (List.mem_of_getElem? (i := 52) rfl)
theorem wd_53 {Z : State} {a0 : Array Value} {EL : List (String × Nat)} {zc : Int32} {idn : Addr} (g : GH Z a0 EL zc idn) : (Jvm.Cond.instanceMethod ({ cls := "com/example/bindery/bindery/Named", name := "token", desc := "()Lcom/example/bindery/bindery/Token;" } : Jvm.MethodName)).before a0 Z = true := g.1 _ (List.mem_of_getElem? (i := 53) rfl)
theorem wd_54 {Z : State} {a0 : Array Value} {EL : List (String × Nat)} {zc : Int32} {idn : Addr} (g : GH Z a0 EL zc idn) : (Jvm.Cond.selects "com/example/bindery/bindery/Expr$Variable" ({ cls := "com/example/bindery/bindery/Expr$Variable", name := "token", desc := "()Lcom/example/bindery/bindery/Token;" } : Jvm.MethodName) ({ cls := "com/example/bindery/bindery/Named", name := "token", desc := "()Lcom/example/bindery/bindery/Token;" } : Jvm.MethodName)).before a0 Z = true := g.1 _ (List.mem_of_getElem? (i := 54) rfl)
theorem wd_55 {Z : State} {a0 : Array Value} {EL : List (String × Nat)} {zc : Int32} {idn : Addr} (g : GH Z a0 EL zc idn) : (Jvm.Cond.code ({ cls := "com/example/bindery/bindery/Named", name := "token", desc := "()Lcom/example/bindery/bindery/Token;" } : Jvm.MethodName) prog_25_method_4_code (1 : Nat) (Option.some (Jvm.ClassFile.FieldType.object "com/example/bindery/bindery/Token"))).before a0 Z = true := g.1 _ (List.mem_of_getElem? (i := 55) rfl)
theorem wd_56 {Z : State} {a0 : Array Value} {EL : List (String × Nat)} {zc : Int32} {idn : Addr} (g : GH Z a0 EL zc idn) : (Jvm.Cond.classLink "com/example/bindery/bindery/Named" (17 : Nat) "com/example/bindery/bindery/Token").before a0 Z = true := g.1 _ (List.mem_of_getElem? (i := 56) rfl)
theorem wd_57 {Z : State} {a0 : Array Value} {EL : List (String × Nat)} {zc : Int32} {idn : Addr} (g : GH Z a0 EL zc idn) : (Jvm.Cond.instantiable "com/example/bindery/bindery/Token" (3 : Nat)).before a0 Z = true := g.1 _ (List.mem_of_getElem? (i := 57) rfl)
theorem wd_58 {Z : State} {a0 : Array Value} {EL : List (String × Nat)} {zc : Int32} {idn : Addr} (g : GH Z a0 EL zc idn) : (Jvm.Cond.initialized "com/example/bindery/bindery/Token").before a0 Z = true := g.1 _ (List.mem_of_getElem? (i := 58) rfl)
theorem wd_59 {Z : State} {a0 : Array Value} {EL : List (String × Nat)} {zc : Int32} {idn : Addr} (g : GH Z a0 EL zc idn) : (Jvm.Cond.fieldLink "com/example/bindery/bindery/Named" (19 : Nat) "com/example/bindery/bindery/TokenType" "IDENTIFIER" "Lcom/example/bindery/bindery/TokenType;").before a0 Z = true := g.1 _ (List.mem_of_getElem? (i := 59) rfl)
theorem wd_62 {Z : State} {a0 : Array Value} {EL : List (String × Nat)} {zc : Int32} {idn : Addr} (g : GH Z a0 EL zc idn) : (Jvm.Cond.methodLink "com/example/bindery/bindery/Named" (25 : Nat) ({ cls := "com/example/bindery/bindery/Token", name := "<init>", desc := "(Lcom/example/bindery/bindery/TokenType;Ljava/lang/String;I)V" } : Jvm.MethodName)).before a0 Z = true := g.1 _ (List.mem_of_getElem? (i := 62) rfl)
theorem wd_63 {Z : State} {a0 : Array Value} {EL : List (String × Nat)} {zc : Int32} {idn : Addr} (g : GH Z a0 EL zc idn) : (Jvm.Cond.instanceMethod ({ cls := "com/example/bindery/bindery/Token", name := "<init>", desc := "(Lcom/example/bindery/bindery/TokenType;Ljava/lang/String;I)V" } : Jvm.MethodName)).before a0 Z = true := g.1 _ (List.mem_of_getElem? (i := 63) rfl)
theorem wd_64 {Z : State} {a0 : Array Value} {EL : List (String × Nat)} {zc : Int32} {idn : Addr} (g : GH Z a0 EL zc idn) : (Jvm.Cond.code ({ cls := "com/example/bindery/bindery/Token", name := "<init>", desc := "(Lcom/example/bindery/bindery/TokenType;Ljava/lang/String;I)V" } : Jvm.MethodName) prog_47_method_1_code (4 : Nat) (Option.none : Option Jvm.ClassFile.FieldType)).before a0 Z = true := g.1 _ (List.mem_of_getElem? (i := 64) rfl)
theorem wd_65 {Z : State} {a0 : Array Value} {EL : List (String × Nat)} {zc : Int32} {idn : Addr} (g : GH Z a0 EL zc idn) : (Jvm.Cond.methodLink "com/example/bindery/bindery/Token" (1 : Nat) ({ cls := "java/lang/Record", name := "<init>", desc := "()V" } : Jvm.MethodName)).before a0 Z = true := g.1 _ (List.mem_of_getElem? (i := 65) rfl)
theorem wd_66 {Z : State} {a0 : Array Value} {EL : List (String × Nat)} {zc : Int32} {idn : Addr} (g : GH Z a0 EL zc idn) : (Jvm.Cond.instanceMethod ({ cls := "java/lang/Record", name := "<init>", desc := "()V" } : Jvm.MethodName)).before a0 Z = true := g.1 _ (List.mem_of_getElem? (i := 66) rfl)
theorem wd_68 {Z : State} {a0 : Array Value} {EL : List (String × Nat)} {zc : Int32} {idn : Addr} (g : GH Z a0 EL zc idn) : (Jvm.Cond.initialized "java/lang/Record").before a0 Z = true := g.1 _ (List.mem_of_getElem? (i := 68) rfl)
theorem wd_69 {Z : State} {a0 : Array Value} {EL : List (String × Nat)} {zc : Int32} {idn : Addr} (g : GH Z a0 EL zc idn) : (Jvm.Cond.code ({ cls := "java/lang/Record", name := "<init>", desc := "()V" } : Jvm.MethodName) jdk_30_method_1_code (1 : Nat) (Option.none : Option Jvm.ClassFile.FieldType)).before a0 Z = true := g.1 _ (List.mem_of_getElem? (i := 69) rfl)
theorem wd_70 {Z : State} {a0 : Array Value} {EL : List (String × Nat)} {zc : Int32} {idn : Addr} (g : GH Z a0 EL zc idn) : (Jvm.Cond.methodLink "java/lang/Record" (1 : Nat) ({ cls := "java/lang/Object", name := "<init>", desc := "()V" } : Jvm.MethodName)).before a0 Z = true := g.1 _ (List.mem_of_getElem? (i := 70) rfl)
theorem wd_71 {Z : State} {a0 : Array Value} {EL : List (String × Nat)} {zc : Int32} {idn : Addr} (g : GH Z a0 EL zc idn) : (Jvm.Cond.fieldLink "com/example/bindery/bindery/Token" (7 : Nat) "com/example/bindery/bindery/Token" "type" "Lcom/example/bindery/bindery/TokenType;").before a0 Z = true := g.1 _ (List.mem_of_getElem? (i := 71) rfl)
theorem wd_72 {Z : State} {a0 : Array Value} {EL : List (String × Nat)} {zc : Int32} {idn : Addr} (g : GH Z a0 EL zc idn) : (Jvm.Cond.laysFinal "com/example/bindery/bindery/Token" "com/example/bindery/bindery/Token" "type" "Lcom/example/bindery/bindery/TokenType;").before a0 Z = true := g.1 _ (List.mem_of_getElem? (i := 72) rfl)
theorem wd_73 {Z : State} {a0 : Array Value} {EL : List (String × Nat)} {zc : Int32} {idn : Addr} (g : GH Z a0 EL zc idn) : (Jvm.Cond.fieldLink "com/example/bindery/bindery/Token" (13 : Nat) "com/example/bindery/bindery/Token" "lexeme" "Ljava/lang/String;").before a0 Z = true := g.1 _ (List.mem_of_getElem? (i := 73) rfl)
theorem wd_74 {Z : State} {a0 : Array Value} {EL : List (String × Nat)} {zc : Int32} {idn : Addr} (g : GH Z a0 EL zc idn) : (Jvm.Cond.laysFinal "com/example/bindery/bindery/Token" "com/example/bindery/bindery/Token" "lexeme" "Ljava/lang/String;").before a0 Z = true := g.1 _ (List.mem_of_getElem? (i := 74) rfl)
theorem wd_75 {Z : State} {a0 : Array Value} {EL : List (String × Nat)} {zc : Int32} {idn : Addr} (g : GH Z a0 EL zc idn) : (Jvm.Cond.fieldLink "com/example/bindery/bindery/Token" (17 : Nat) "com/example/bindery/bindery/Token" "line" "I").before a0 Z = true := g.1 _ (List.mem_of_getElem? (i := 75) rfl)
theorem wd_76 {Z : State} {a0 : Array Value} {EL : List (String × Nat)} {zc : Int32} {idn : Addr} (g : GH Z a0 EL zc idn) : (Jvm.Cond.laysFinal "com/example/bindery/bindery/Token" "com/example/bindery/bindery/Token" "line" "I").before a0 Z = true := g.1 _ (List.mem_of_getElem? (i := 76) rfl)
theorem wd_77 {Z : State} {a0 : Array Value} {EL : List (String × Nat)} {zc : Int32} {idn : Addr} (g : GH Z a0 EL zc idn) : (Jvm.Cond.methodLink "com/example/bindery/bindery/NamedTokenPinLaw" (27 : Nat) ({ cls := "com/example/bindery/bindery/Token", name := "type", desc := "()Lcom/example/bindery/bindery/TokenType;" } : Jvm.MethodName)).before a0 Z = true := g.1 _ (List.mem_of_getElem? (i := 77) rfl)
theorem wd_78 {Z : State} {a0 : Array Value} {EL : List (String × Nat)} {zc : Int32} {idn : Addr} (g : GH Z a0 EL zc idn) : (Jvm.Cond.declares ({ cls := "com/example/bindery/bindery/Token", name := "type", desc := "()Lcom/example/bindery/bindery/TokenType;" } : Jvm.MethodName)).before a0 Z = true := g.1 _ (List.mem_of_getElem? (i := 78) rfl)
theorem wd_79 {Z : State} {a0 : Array Value} {EL : List (String × Nat)} {zc : Int32} {idn : Addr} (g : GH Z a0 EL zc idn) : (Jvm.Cond.instanceMethod ({ cls := "com/example/bindery/bindery/Token", name := "type", desc := "()Lcom/example/bindery/bindery/TokenType;" } : Jvm.MethodName)).before a0 Z = true := g.1 _ (List.mem_of_getElem? (i := 79) rfl)
theorem wd_80 {Z : State} {a0 : Array Value} {EL : List (String × Nat)} {zc : Int32} {idn : Addr} (g : GH Z a0 EL zc idn) : (Jvm.Cond.selects "com/example/bindery/bindery/Token" ({ cls := "com/example/bindery/bindery/Token", name := "type", desc := "()Lcom/example/bindery/bindery/TokenType;" } : Jvm.MethodName) ({ cls := "com/example/bindery/bindery/Token", name := "type", desc := "()Lcom/example/bindery/bindery/TokenType;" } : Jvm.MethodName)).before a0 Z = true := g.1 _ (List.mem_of_getElem? (i := 80) rfl)
theorem wd_81 {Z : State} {a0 : Array Value} {EL : List (String × Nat)} {zc : Int32} {idn : Addr} (g : GH Z a0 EL zc idn) : (Jvm.Cond.code ({ cls := "com/example/bindery/bindery/Token", name := "type", desc := "()Lcom/example/bindery/bindery/TokenType;" } : Jvm.MethodName) prog_47_method_5_code (1 : Nat) (Option.some (Jvm.ClassFile.FieldType.object "com/example/bindery/bindery/TokenType"))).before a0 Z = true := g.1 _ (List.mem_of_getElem? (i := 81) rfl)
theorem wd_82 {Z : State} {a0 : Array Value} {EL : List (String × Nat)} {zc : Int32} {idn : Addr} (g : GH Z a0 EL zc idn) : (Jvm.Cond.fieldLink "com/example/bindery/bindery/NamedTokenPinLaw" (33 : Nat) "com/example/bindery/bindery/TokenType" "IDENTIFIER" "Lcom/example/bindery/bindery/TokenType;").before a0 Z = true := g.1 _ (List.mem_of_getElem? (i := 82) rfl)
theorem wd_83 {Z : State} {a0 : Array Value} {EL : List (String × Nat)} {zc : Int32} {idn : Addr} (g : GH Z a0 EL zc idn) : (Jvm.Cond.methodLink "com/example/bindery/bindery/NamedTokenPinLaw" (39 : Nat) ({ cls := "com/example/bindery/bindery/Token", name := "lexeme", desc := "()Ljava/lang/String;" } : Jvm.MethodName)).before a0 Z = true := g.1 _ (List.mem_of_getElem? (i := 83) rfl)
theorem wd_84 {Z : State} {a0 : Array Value} {EL : List (String × Nat)} {zc : Int32} {idn : Addr} (g : GH Z a0 EL zc idn) : (Jvm.Cond.declares ({ cls := "com/example/bindery/bindery/Token", name := "lexeme", desc := "()Ljava/lang/String;" } : Jvm.MethodName)).before a0 Z = true := g.1 _ (List.mem_of_getElem? (i := 84) rfl)
theorem wd_85 {Z : State} {a0 : Array Value} {EL : List (String × Nat)} {zc : Int32} {idn : Addr} (g : GH Z a0 EL zc idn) : (Jvm.Cond.instanceMethod ({ cls := "com/example/bindery/bindery/Token", name := "lexeme", desc := "()Ljava/lang/String;" } : Jvm.MethodName)).before a0 Z = true := g.1 _ (List.mem_of_getElem? (i := 85) rfl)
theorem wd_86 {Z : State} {a0 : Array Value} {EL : List (String × Nat)} {zc : Int32} {idn : Addr} (g : GH Z a0 EL zc idn) : (Jvm.Cond.selects "com/example/bindery/bindery/Token" ({ cls := "com/example/bindery/bindery/Token", name := "lexeme", desc := "()Ljava/lang/String;" } : Jvm.MethodName) ({ cls := "com/example/bindery/bindery/Token", name := "lexeme", desc := "()Ljava/lang/String;" } : Jvm.MethodName)).before a0 Z = true := g.1 _ (List.mem_of_getElem? (i := 86) rfl)
theorem wd_87 {Z : State} {a0 : Array Value} {EL : List (String × Nat)} {zc : Int32} {idn : Addr} (g : GH Z a0 EL zc idn) : (Jvm.Cond.code ({ cls := "com/example/bindery/bindery/Token", name := "lexeme", desc := "()Ljava/lang/String;" } : Jvm.MethodName) prog_47_method_6_code (1 : Nat) (Option.some (Jvm.ClassFile.FieldType.object "java/lang/String"))).before a0 Z = true := g.1 _ (List.mem_of_getElem? (i := 87) rfl)
theorem wd_88 {Z : State} {a0 : Array Value} {EL : List (String × Nat)} {zc : Int32} {idn : Addr} (g : GH Z a0 EL zc idn) : (Jvm.Cond.methodLink "com/example/bindery/bindery/NamedTokenPinLaw" (43 : Nat) ({ cls := "java/lang/String", name := "equals", desc := "(Ljava/lang/Object;)Z" } : Jvm.MethodName)).before a0 Z = true := g.1 _ (List.mem_of_getElem? (i := 88) rfl)
theorem wd_89 {Z : State} {a0 : Array Value} {EL : List (String × Nat)} {zc : Int32} {idn : Addr} (g : GH Z a0 EL zc idn) : (Jvm.Cond.declares ({ cls := "java/lang/String", name := "equals", desc := "(Ljava/lang/Object;)Z" } : Jvm.MethodName)).before a0 Z = true := g.1 _ (List.mem_of_getElem? (i := 89) rfl)
theorem wd_90 {Z : State} {a0 : Array Value} {EL : List (String × Nat)} {zc : Int32} {idn : Addr} (g : GH Z a0 EL zc idn) : (Jvm.Cond.instanceMethod ({ cls := "java/lang/String", name := "equals", desc := "(Ljava/lang/Object;)Z" } : Jvm.MethodName)).before a0 Z = true := g.1 _ (List.mem_of_getElem? (i := 90) rfl)
theorem wd_91 {Z : State} {a0 : Array Value} {EL : List (String × Nat)} {zc : Int32} {idn : Addr} (g : GH Z a0 EL zc idn) : (Jvm.Cond.selects "java/lang/String" ({ cls := "java/lang/String", name := "equals", desc := "(Ljava/lang/Object;)Z" } : Jvm.MethodName) ({ cls := "java/lang/String", name := "equals", desc := "(Ljava/lang/Object;)Z" } : Jvm.MethodName)).before a0 Z = true := g.1 _ (List.mem_of_getElem? (i := 91) rfl)
theorem wd_92 {Z : State} {a0 : Array Value} {EL : List (String × Nat)} {zc : Int32} {idn : Addr} (g : GH Z a0 EL zc idn) : (Jvm.Cond.code ({ cls := "java/lang/String", name := "equals", desc := "(Ljava/lang/Object;)Z" } : Jvm.MethodName) jdk_42_method_66_code (3 : Nat) (Option.some Jvm.ClassFile.FieldType.boolean)).before a0 Z = true := g.1 _ (List.mem_of_getElem? (i := 92) rfl)
theorem wd_93 {Z : State} {a0 : Array Value} {EL : List (String × Nat)} {zc : Int32} {idn : Addr} (g : GH Z a0 EL zc idn) : (Jvm.Cond.methodLink "com/example/bindery/bindery/NamedTokenPinLaw" (47 : Nat) ({ cls := "com/example/bindery/bindery/Token", name := "line", desc := "()I" } : Jvm.MethodName)).before a0 Z = true := g.1 _ (List.mem_of_getElem? (i := 93) rfl)
theorem wd_94 {Z : State} {a0 : Array Value} {EL : List (String × Nat)} {zc : Int32} {idn : Addr} (g : GH Z a0 EL zc idn) : (Jvm.Cond.declares ({ cls := "com/example/bindery/bindery/Token", name := "line", desc := "()I" } : Jvm.MethodName)).before a0 Z = true := g.1 _ (List.mem_of_getElem? (i := 94) rfl)
theorem wd_95 {Z : State} {a0 : Array Value} {EL : List (String × Nat)} {zc : Int32} {idn : Addr} (g : GH Z a0 EL zc idn) : (Jvm.Cond.instanceMethod ({ cls := "com/example/bindery/bindery/Token", name := "line", desc := "()I" } : Jvm.MethodName)).before a0 Z = true := g.1 _ (List.mem_of_getElem? (i := 95) rfl)
theorem wd_96 {Z : State} {a0 : Array Value} {EL : List (String × Nat)} {zc : Int32} {idn : Addr} (g : GH Z a0 EL zc idn) : (Jvm.Cond.selects "com/example/bindery/bindery/Token" ({ cls := "com/example/bindery/bindery/Token", name := "line", desc := "()I" } : Jvm.MethodName) ({ cls := "com/example/bindery/bindery/Token", name := "line", desc := "()I" } : Jvm.MethodName)).before a0 Z = true := g.1 _ (List.mem_of_getElem? (i := 96) rfl)
theorem wd_97 {Z : State} {a0 : Array Value} {EL : List (String × Nat)} {zc : Int32} {idn : Addr} (g : GH Z a0 EL zc idn) : (Jvm.Cond.code ({ cls := "com/example/bindery/bindery/Token", name := "line", desc := "()I" } : Jvm.MethodName) prog_47_method_7_code (1 : Nat) (Option.some Jvm.ClassFile.FieldType.int)).before a0 Z = true := g.1 _ (List.mem_of_getElem? (i := 97) rfl)
theorem wd_98 {Z : State} {a0 : Array Value} {EL : List (String × Nat)} {zc : Int32} {idn : Addr} (g : GH Z a0 EL zc idn) : (Jvm.Cond.stringLink "java/lang/String" (7 : Nat) "").before a0 Z = true := g.1 _ (List.mem_of_getElem? (i := 98) rfl)
theorem D_prog_14_method_1_code_0 : decode prog_14_method_1_code 0 = .ok (.aload_n 0, 1) := by decide +kernel
theorem D_prog_14_method_1_code_1 : decode prog_14_method_1_code 1 = .ok (.aload_n 1, 1) := by decide +kernel
theorem D_prog_14_method_1_code_2 : decode prog_14_method_1_code 2 = .ok (.iload_n 2, 1) := by decide +kernel
theorem D_prog_14_method_1_code_3 : decode prog_14_method_1_code 3 = .ok (.invokespecial 1, 3) := by decide +kernel
theorem D_prog_14_method_1_code_6 : decode prog_14_method_1_code 6 = .ok (.return_, 1) := by decide +kernel
theorem D_prog_25_method_1_code_0 : decode prog_25_method_1_code 0 = .ok (.aload_n 0, 1) := by decide +kernel
theorem D_prog_25_method_1_code_1 : decode prog_25_method_1_code 1 = .ok (.invokespecial 1, 3) := by decide +kernel
theorem D_prog_25_method_1_code_10 : decode prog_25_method_1_code 10 = .ok (.iload_n 2, 1) := by decide +kernel
theorem D_prog_25_method_1_code_11 : decode prog_25_method_1_code 11 = .ok (.putfield 13, 3) := by decide +kernel
theorem D_prog_25_method_1_code_14 : decode prog_25_method_1_code 14 = .ok (.return_, 1) := by decide +kernel
theorem D_prog_25_method_1_code_4 : decode prog_25_method_1_code 4 = .ok (.aload_n 0, 1) := by decide +kernel
theorem D_prog_25_method_1_code_5 : decode prog_25_method_1_code 5 = .ok (.aload_n 1, 1) := by decide +kernel
theorem D_prog_25_method_1_code_6 : decode prog_25_method_1_code 6 = .ok (.putfield 7, 3) := by decide +kernel
theorem D_prog_25_method_1_code_9 : decode prog_25_method_1_code 9 = .ok (.aload_n 0, 1) := by decide +kernel
theorem D_prog_25_method_4_code_0 : decode prog_25_method_4_code 0 = .ok (.new 17, 3) := by decide +kernel
theorem D_prog_25_method_4_code_11 : decode prog_25_method_4_code 11 = .ok (.aload_n 0, 1) := by decide +kernel
theorem D_prog_25_method_4_code_12 : decode prog_25_method_4_code 12 = .ok (.getfield 13, 3) := by decide +kernel
theorem D_prog_25_method_4_code_15 : decode prog_25_method_4_code 15 = .ok (.invokespecial 25, 3) := by decide +kernel
theorem D_prog_25_method_4_code_18 : decode prog_25_method_4_code 18 = .ok (.areturn, 1) := by decide +kernel
theorem D_prog_25_method_4_code_3 : decode prog_25_method_4_code 3 = .ok (.dup, 1) := by decide +kernel
theorem D_prog_25_method_4_code_4 : decode prog_25_method_4_code 4 = .ok (.getstatic 19, 3) := by decide +kernel
theorem D_prog_25_method_4_code_7 : decode prog_25_method_4_code 7 = .ok (.aload_n 0, 1) := by decide +kernel
theorem D_prog_25_method_4_code_8 : decode prog_25_method_4_code 8 = .ok (.getfield 7, 3) := by decide +kernel
theorem D_method_2_code_0 : decode method_2_code 0 = .ok (.iload_n 1, 1) := by decide +kernel
theorem D_method_2_code_1 : decode method_2_code 1 = .ok (.sipush 255, 3) := by decide +kernel
theorem D_method_2_code_10 : decode method_2_code 10 = .ok (.iushr, 1) := by decide +kernel
theorem D_method_2_code_100 : decode method_2_code 100 = .ok (.iload_n 3, 1) := by decide +kernel
theorem D_method_2_code_101 : decode method_2_code 101 = .ok (.castore, 1) := by decide +kernel
theorem D_method_2_code_102 : decode method_2_code 102 = .ok (.dup, 1) := by decide +kernel
theorem D_method_2_code_103 : decode method_2_code 103 = .ok (.iconst 2, 1) := by decide +kernel
theorem D_method_2_code_104 : decode method_2_code 104 = .ok (.iload 4, 2) := by decide +kernel
theorem D_method_2_code_106 : decode method_2_code 106 = .ok (.castore, 1) := by decide +kernel
theorem D_method_2_code_107 : decode method_2_code 107 = .ok (.invokespecial 9, 3) := by decide +kernel
theorem D_method_2_code_11 : decode method_2_code 11 = .ok (.sipush 255, 3) := by decide +kernel
theorem D_method_2_code_110 : decode method_2_code 110 = .ok (.areturn, 1) := by decide +kernel
theorem D_method_2_code_14 : decode method_2_code 14 = .ok (.iand, 1) := by decide +kernel
theorem D_method_2_code_15 : decode method_2_code 15 = .ok (.i2c, 1) := by decide +kernel
theorem D_method_2_code_16 : decode method_2_code 16 = .ok (.istore_n 3, 1) := by decide +kernel
theorem D_method_2_code_17 : decode method_2_code 17 = .ok (.iload_n 1, 1) := by decide +kernel
theorem D_method_2_code_18 : decode method_2_code 18 = .ok (.bipush 16, 2) := by decide +kernel
theorem D_method_2_code_20 : decode method_2_code 20 = .ok (.iushr, 1) := by decide +kernel
theorem D_method_2_code_21 : decode method_2_code 21 = .ok (.sipush 255, 3) := by decide +kernel
theorem D_method_2_code_24 : decode method_2_code 24 = .ok (.iand, 1) := by decide +kernel
theorem D_method_2_code_25 : decode method_2_code 25 = .ok (.i2c, 1) := by decide +kernel
theorem D_method_2_code_26 : decode method_2_code 26 = .ok (.istore 4, 2) := by decide +kernel
theorem D_method_2_code_28 : decode method_2_code 28 = .ok (.iload_n 0, 1) := by decide +kernel
theorem D_method_2_code_29 : decode method_2_code 29 = .ok (.ifCond .ne 14, 3) := by decide +kernel
theorem D_method_2_code_32 : decode method_2_code 32 = .ok (.new 7, 3) := by decide +kernel
theorem D_method_2_code_35 : decode method_2_code 35 = .ok (.dup, 1) := by decide +kernel
theorem D_method_2_code_36 : decode method_2_code 36 = .ok (.iconst 0, 1) := by decide +kernel
theorem D_method_2_code_37 : decode method_2_code 37 = .ok (.newarray .char, 2) := by decide +kernel
theorem D_method_2_code_39 : decode method_2_code 39 = .ok (.invokespecial 9, 3) := by decide +kernel
theorem D_method_2_code_4 : decode method_2_code 4 = .ok (.iand, 1) := by decide +kernel
theorem D_method_2_code_42 : decode method_2_code 42 = .ok (.areturn, 1) := by decide +kernel
theorem D_method_2_code_43 : decode method_2_code 43 = .ok (.iload_n 0, 1) := by decide +kernel
theorem D_method_2_code_44 : decode method_2_code 44 = .ok (.iconst 1, 1) := by decide +kernel
theorem D_method_2_code_45 : decode method_2_code 45 = .ok (.if_icmp .ne 18, 3) := by decide +kernel
theorem D_method_2_code_48 : decode method_2_code 48 = .ok (.new 7, 3) := by decide +kernel
theorem D_method_2_code_5 : decode method_2_code 5 = .ok (.i2c, 1) := by decide +kernel
theorem D_method_2_code_51 : decode method_2_code 51 = .ok (.dup, 1) := by decide +kernel
theorem D_method_2_code_52 : decode method_2_code 52 = .ok (.iconst 1, 1) := by decide +kernel
theorem D_method_2_code_53 : decode method_2_code 53 = .ok (.newarray .char, 2) := by decide +kernel
theorem D_method_2_code_55 : decode method_2_code 55 = .ok (.dup, 1) := by decide +kernel
theorem D_method_2_code_56 : decode method_2_code 56 = .ok (.iconst 0, 1) := by decide +kernel
theorem D_method_2_code_57 : decode method_2_code 57 = .ok (.iload_n 2, 1) := by decide +kernel
theorem D_method_2_code_58 : decode method_2_code 58 = .ok (.castore, 1) := by decide +kernel
theorem D_method_2_code_59 : decode method_2_code 59 = .ok (.invokespecial 9, 3) := by decide +kernel
theorem D_method_2_code_6 : decode method_2_code 6 = .ok (.istore_n 2, 1) := by decide +kernel
theorem D_method_2_code_62 : decode method_2_code 62 = .ok (.areturn, 1) := by decide +kernel
theorem D_method_2_code_63 : decode method_2_code 63 = .ok (.iload_n 0, 1) := by decide +kernel
theorem D_method_2_code_64 : decode method_2_code 64 = .ok (.iconst 2, 1) := by decide +kernel
theorem D_method_2_code_65 : decode method_2_code 65 = .ok (.if_icmp .ne 22, 3) := by decide +kernel
theorem D_method_2_code_68 : decode method_2_code 68 = .ok (.new 7, 3) := by decide +kernel
theorem D_method_2_code_7 : decode method_2_code 7 = .ok (.iload_n 1, 1) := by decide +kernel
theorem D_method_2_code_71 : decode method_2_code 71 = .ok (.dup, 1) := by decide +kernel
theorem D_method_2_code_72 : decode method_2_code 72 = .ok (.iconst 2, 1) := by decide +kernel
theorem D_method_2_code_73 : decode method_2_code 73 = .ok (.newarray .char, 2) := by decide +kernel
theorem D_method_2_code_75 : decode method_2_code 75 = .ok (.dup, 1) := by decide +kernel
theorem D_method_2_code_76 : decode method_2_code 76 = .ok (.iconst 0, 1) := by decide +kernel
theorem D_method_2_code_77 : decode method_2_code 77 = .ok (.iload_n 2, 1) := by decide +kernel
theorem D_method_2_code_78 : decode method_2_code 78 = .ok (.castore, 1) := by decide +kernel
theorem D_method_2_code_79 : decode method_2_code 79 = .ok (.dup, 1) := by decide +kernel
theorem D_method_2_code_8 : decode method_2_code 8 = .ok (.bipush 8, 2) := by decide +kernel
theorem D_method_2_code_80 : decode method_2_code 80 = .ok (.iconst 1, 1) := by decide +kernel
theorem D_method_2_code_81 : decode method_2_code 81 = .ok (.iload_n 3, 1) := by decide +kernel
theorem D_method_2_code_82 : decode method_2_code 82 = .ok (.castore, 1) := by decide +kernel
theorem D_method_2_code_83 : decode method_2_code 83 = .ok (.invokespecial 9, 3) := by decide +kernel
theorem D_method_2_code_86 : decode method_2_code 86 = .ok (.areturn, 1) := by decide +kernel
theorem D_method_2_code_87 : decode method_2_code 87 = .ok (.new 7, 3) := by decide +kernel
theorem D_method_2_code_90 : decode method_2_code 90 = .ok (.dup, 1) := by decide +kernel
theorem D_method_2_code_91 : decode method_2_code 91 = .ok (.iconst 3, 1) := by decide +kernel
theorem D_method_2_code_92 : decode method_2_code 92 = .ok (.newarray .char, 2) := by decide +kernel
theorem D_method_2_code_94 : decode method_2_code 94 = .ok (.dup, 1) := by decide +kernel
theorem D_method_2_code_95 : decode method_2_code 95 = .ok (.iconst 0, 1) := by decide +kernel
theorem D_method_2_code_96 : decode method_2_code 96 = .ok (.iload_n 2, 1) := by decide +kernel
theorem D_method_2_code_97 : decode method_2_code 97 = .ok (.castore, 1) := by decide +kernel
theorem D_method_2_code_98 : decode method_2_code 98 = .ok (.dup, 1) := by decide +kernel
theorem D_method_2_code_99 : decode method_2_code 99 = .ok (.iconst 1, 1) := by decide +kernel
theorem D_prog_47_method_1_code_0 : decode prog_47_method_1_code 0 = .ok (.aload_n 0, 1) := by decide +kernel
theorem D_prog_47_method_1_code_1 : decode prog_47_method_1_code 1 = .ok (.invokespecial 1, 3) := by decide +kernel
theorem D_prog_47_method_1_code_10 : decode prog_47_method_1_code 10 = .ok (.aload_n 2, 1) := by decide +kernel
theorem D_prog_47_method_1_code_11 : decode prog_47_method_1_code 11 = .ok (.putfield 13, 3) := by decide +kernel
theorem D_prog_47_method_1_code_14 : decode prog_47_method_1_code 14 = .ok (.aload_n 0, 1) := by decide +kernel
theorem D_prog_47_method_1_code_15 : decode prog_47_method_1_code 15 = .ok (.iload_n 3, 1) := by decide +kernel
theorem D_prog_47_method_1_code_16 : decode prog_47_method_1_code 16 = .ok (.putfield 17, 3) := by decide +kernel
theorem D_prog_47_method_1_code_19 : decode prog_47_method_1_code 19 = .ok (.return_, 1) := by decide +kernel
theorem D_prog_47_method_1_code_4 : decode prog_47_method_1_code 4 = .ok (.aload_n 0, 1) := by decide +kernel
theorem D_prog_47_method_1_code_5 : decode prog_47_method_1_code 5 = .ok (.aload_n 1, 1) := by decide +kernel
theorem D_prog_47_method_1_code_6 : decode prog_47_method_1_code 6 = .ok (.putfield 7, 3) := by decide +kernel
theorem D_prog_47_method_1_code_9 : decode prog_47_method_1_code 9 = .ok (.aload_n 0, 1) := by decide +kernel
theorem D_prog_47_method_6_code_0 : decode prog_47_method_6_code 0 = .ok (.aload_n 0, 1) := by decide +kernel
theorem D_prog_47_method_6_code_1 : decode prog_47_method_6_code 1 = .ok (.getfield 13, 3) := by decide +kernel
theorem D_prog_47_method_6_code_4 : decode prog_47_method_6_code 4 = .ok (.areturn, 1) := by decide +kernel
theorem D_prog_47_method_7_code_0 : decode prog_47_method_7_code 0 = .ok (.aload_n 0, 1) := by decide +kernel
theorem D_prog_47_method_7_code_1 : decode prog_47_method_7_code 1 = .ok (.getfield 17, 3) := by decide +kernel
theorem D_prog_47_method_7_code_4 : decode prog_47_method_7_code 4 = .ok (.ireturn, 1) := by decide +kernel
theorem D_prog_47_method_5_code_0 : decode prog_47_method_5_code 0 = .ok (.aload_n 0, 1) := by decide +kernel
theorem D_prog_47_method_5_code_1 : decode prog_47_method_5_code 1 = .ok (.getfield 7, 3) := by decide +kernel
theorem D_prog_47_method_5_code_4 : decode prog_47_method_5_code 4 = .ok (.areturn, 1) := by decide +kernel
theorem D_jdk_30_method_1_code_0 : decode jdk_30_method_1_code 0 = .ok (.aload_n 0, 1) := by decide +kernel
theorem D_jdk_30_method_1_code_1 : decode jdk_30_method_1_code 1 = .ok (.invokespecial 1, 3) := by decide +kernel
theorem D_jdk_30_method_1_code_4 : decode jdk_30_method_1_code 4 = .ok (.return_, 1) := by decide +kernel
theorem D_jdk_42_method_3_code_0 : decode jdk_42_method_3_code 0 = .ok (.aload_n 0, 1) := by decide +kernel
theorem D_jdk_42_method_3_code_1 : decode jdk_42_method_3_code 1 = .ok (.aload_n 1, 1) := by decide +kernel
theorem D_jdk_42_method_3_code_2 : decode jdk_42_method_3_code 2 = .ok (.iconst 0, 1) := by decide +kernel
theorem D_jdk_42_method_3_code_3 : decode jdk_42_method_3_code 3 = .ok (.aload_n 1, 1) := by decide +kernel
theorem D_jdk_42_method_3_code_4 : decode jdk_42_method_3_code 4 = .ok (.arraylength, 1) := by decide +kernel
theorem D_jdk_42_method_3_code_5 : decode jdk_42_method_3_code 5 = .ok (.aconst_null, 1) := by decide +kernel
theorem D_jdk_42_method_3_code_6 : decode jdk_42_method_3_code 6 = .ok (.invokespecial 27, 3) := by decide +kernel
theorem D_jdk_42_method_3_code_9 : decode jdk_42_method_3_code 9 = .ok (.return_, 1) := by decide +kernel
theorem D_jdk_42_method_149_code_0 : decode jdk_42_method_149_code 0 = .ok (.aload_n 0, 1) := by decide +kernel
theorem D_jdk_42_method_149_code_1 : decode jdk_42_method_149_code 1 = .ok (.invokespecial 1, 3) := by decide +kernel
theorem D_jdk_42_method_149_code_11 : decode jdk_42_method_149_code 11 = .ok (.getfield 9, 3) := by decide +kernel
theorem D_jdk_42_method_149_code_14 : decode jdk_42_method_149_code 14 = .ok (.putfield 9, 3) := by decide +kernel
theorem D_jdk_42_method_149_code_17 : decode jdk_42_method_149_code 17 = .ok (.aload_n 0, 1) := by decide +kernel
theorem D_jdk_42_method_149_code_18 : decode jdk_42_method_149_code 18 = .ok (.ldc 7, 2) := by decide +kernel
theorem D_jdk_42_method_149_code_20 : decode jdk_42_method_149_code 20 = .ok (.getfield 15, 3) := by decide +kernel
theorem D_jdk_42_method_149_code_23 : decode jdk_42_method_149_code 23 = .ok (.putfield 15, 3) := by decide +kernel
theorem D_jdk_42_method_149_code_26 : decode jdk_42_method_149_code 26 = .ok (.return_, 1) := by decide +kernel
theorem D_jdk_42_method_149_code_27 : decode jdk_42_method_149_code 27 = .ok (.getstatic 38, 3) := by decide +kernel
theorem D_jdk_42_method_149_code_30 : decode jdk_42_method_149_code 30 = .ok (.ifCond .eq 28, 3) := by decide +kernel
theorem D_jdk_42_method_149_code_33 : decode jdk_42_method_149_code 33 = .ok (.aload_n 1, 1) := by decide +kernel
theorem D_jdk_42_method_149_code_34 : decode jdk_42_method_149_code 34 = .ok (.iload_n 2, 1) := by decide +kernel
theorem D_jdk_42_method_149_code_35 : decode jdk_42_method_149_code 35 = .ok (.iload_n 3, 1) := by decide +kernel
theorem D_jdk_42_method_149_code_36 : decode jdk_42_method_149_code 36 = .ok (.invokestatic 177, 3) := by decide +kernel
theorem D_jdk_42_method_149_code_39 : decode jdk_42_method_149_code 39 = .ok (.astore 5, 2) := by decide +kernel
theorem D_jdk_42_method_149_code_4 : decode jdk_42_method_149_code 4 = .ok (.iload_n 3, 1) := by decide +kernel
theorem D_jdk_42_method_149_code_41 : decode jdk_42_method_149_code 41 = .ok (.aload_n 0, 1) := by decide +kernel
theorem D_jdk_42_method_149_code_42 : decode jdk_42_method_149_code 42 = .ok (.aload 5, 2) := by decide +kernel
theorem D_jdk_42_method_149_code_44 : decode jdk_42_method_149_code 44 = .ok (.iload_n 3, 1) := by decide +kernel
theorem D_jdk_42_method_149_code_45 : decode jdk_42_method_149_code 45 = .ok (.invokestatic 47, 3) := by decide +kernel
theorem D_jdk_42_method_149_code_48 : decode jdk_42_method_149_code 48 = .ok (.putfield 15, 3) := by decide +kernel
theorem D_jdk_42_method_149_code_5 : decode jdk_42_method_149_code 5 = .ok (.ifCond .ne 22, 3) := by decide +kernel
theorem D_jdk_42_method_149_code_51 : decode jdk_42_method_149_code 51 = .ok (.aload_n 0, 1) := by decide +kernel
theorem D_jdk_42_method_149_code_52 : decode jdk_42_method_149_code 52 = .ok (.aload 5, 2) := by decide +kernel
theorem D_jdk_42_method_149_code_54 : decode jdk_42_method_149_code 54 = .ok (.putfield 9, 3) := by decide +kernel
theorem D_jdk_42_method_149_code_57 : decode jdk_42_method_149_code 57 = .ok (.return_, 1) := by decide +kernel
theorem D_jdk_42_method_149_code_8 : decode jdk_42_method_149_code 8 = .ok (.aload_n 0, 1) := by decide +kernel
theorem D_jdk_42_method_149_code_9 : decode jdk_42_method_149_code 9 = .ok (.ldc 7, 2) := by decide +kernel
theorem D_jdk_42_method_66_code_0 : decode jdk_42_method_66_code 0 = .ok (.aload_n 0, 1) := by decide +kernel
theorem D_jdk_42_method_66_code_1 : decode jdk_42_method_66_code 1 = .ok (.aload_n 1, 1) := by decide +kernel
theorem D_jdk_42_method_66_code_2 : decode jdk_42_method_66_code 2 = .ok (.if_acmp .ne 5, 3) := by decide +kernel
theorem D_jdk_42_method_66_code_5 : decode jdk_42_method_66_code 5 = .ok (.iconst 1, 1) := by decide +kernel
theorem D_jdk_42_method_66_code_6 : decode jdk_42_method_66_code 6 = .ok (.ireturn, 1) := by decide +kernel
theorem D_jdk_52_method_15_code_0 : decode jdk_52_method_15_code 0 = .ok (.iload_n 1, 1) := by decide +kernel
theorem D_jdk_52_method_15_code_1 : decode jdk_52_method_15_code 1 = .ok (.aload_n 0, 1) := by decide +kernel
theorem D_jdk_52_method_15_code_2 : decode jdk_52_method_15_code 2 = .ok (.arraylength, 1) := by decide +kernel
theorem D_jdk_52_method_15_code_3 : decode jdk_52_method_15_code 3 = .ok (.isub, 1) := by decide +kernel
theorem D_jdk_52_method_15_code_4 : decode jdk_52_method_15_code 4 = .ok (.bipush 31, 2) := by decide +kernel
theorem D_jdk_52_method_15_code_6 : decode jdk_52_method_15_code 6 = .ok (.iushr, 1) := by decide +kernel
theorem D_jdk_52_method_15_code_7 : decode jdk_52_method_15_code 7 = .ok (.i2b, 1) := by decide +kernel
theorem D_jdk_52_method_15_code_8 : decode jdk_52_method_15_code 8 = .ok (.ireturn, 1) := by decide +kernel
theorem D_jdk_52_method_16_code_0 : decode jdk_52_method_16_code 0 = .ok (.iload_n 2, 1) := by decide +kernel
theorem D_jdk_52_method_16_code_1 : decode jdk_52_method_16_code 1 = .ok (.newarray .byte, 2) := by decide +kernel
theorem D_jdk_52_method_16_code_12 : decode jdk_52_method_16_code 12 = .ok (.istore 4, 2) := by decide +kernel
theorem D_jdk_52_method_16_code_14 : decode jdk_52_method_16_code 14 = .ok (.iload 4, 2) := by decide +kernel
theorem D_jdk_52_method_16_code_16 : decode jdk_52_method_16_code 16 = .ok (.iload_n 2, 1) := by decide +kernel
theorem D_jdk_52_method_16_code_17 : decode jdk_52_method_16_code 17 = .ok (.if_icmp .eq 40, 3) := by decide +kernel
theorem D_jdk_52_method_16_code_3 : decode jdk_52_method_16_code 3 = .ok (.astore_n 3, 1) := by decide +kernel
theorem D_jdk_52_method_16_code_4 : decode jdk_52_method_16_code 4 = .ok (.aload_n 0, 1) := by decide +kernel
theorem D_jdk_52_method_16_code_5 : decode jdk_52_method_16_code 5 = .ok (.iload_n 1, 1) := by decide +kernel
theorem D_jdk_52_method_16_code_57 : decode jdk_52_method_16_code 57 = .ok (.aload_n 3, 1) := by decide +kernel
theorem D_jdk_52_method_16_code_58 : decode jdk_52_method_16_code 58 = .ok (.areturn, 1) := by decide +kernel
theorem D_jdk_52_method_16_code_6 : decode jdk_52_method_16_code 6 = .ok (.aload_n 3, 1) := by decide +kernel
theorem D_jdk_52_method_16_code_7 : decode jdk_52_method_16_code 7 = .ok (.iconst 0, 1) := by decide +kernel
theorem D_jdk_52_method_16_code_8 : decode jdk_52_method_16_code 8 = .ok (.iload_n 2, 1) := by decide +kernel
theorem D_jdk_52_method_16_code_9 : decode jdk_52_method_16_code 9 = .ok (.invokestatic 115, 3) := by decide +kernel
theorem D_jdk_52_method_21_code_0 : decode jdk_52_method_21_code 0 = .ok (.iconst 0, 1) := by decide +kernel
theorem D_jdk_52_method_21_code_1 : decode jdk_52_method_21_code 1 = .ok (.istore 5, 2) := by decide +kernel
theorem D_jdk_52_method_21_code_10 : decode jdk_52_method_21_code 10 = .ok (.aload_n 0, 1) := by decide +kernel
theorem D_jdk_52_method_21_code_11 : decode jdk_52_method_21_code 11 = .ok (.iload_n 1, 1) := by decide +kernel
theorem D_jdk_52_method_21_code_12 : decode jdk_52_method_21_code 12 = .ok (.caload, 1) := by decide +kernel
theorem D_jdk_52_method_21_code_13 : decode jdk_52_method_21_code 13 = .ok (.istore 6, 2) := by decide +kernel
theorem D_jdk_52_method_21_code_15 : decode jdk_52_method_21_code 15 = .ok (.iload 6, 2) := by decide +kernel
theorem D_jdk_52_method_21_code_17 : decode jdk_52_method_21_code 17 = .ok (.sipush 255, 3) := by decide +kernel
theorem D_jdk_52_method_21_code_20 : decode jdk_52_method_21_code 20 = .ok (.if_icmp .le 6, 3) := by decide +kernel
theorem D_jdk_52_method_21_code_26 : decode jdk_52_method_21_code 26 = .ok (.aload_n 2, 1) := by decide +kernel
theorem D_jdk_52_method_21_code_27 : decode jdk_52_method_21_code 27 = .ok (.iload_n 3, 1) := by decide +kernel
theorem D_jdk_52_method_21_code_28 : decode jdk_52_method_21_code 28 = .ok (.iload 6, 2) := by decide +kernel
theorem D_jdk_52_method_21_code_3 : decode jdk_52_method_21_code 3 = .ok (.iload 5, 2) := by decide +kernel
theorem D_jdk_52_method_21_code_30 : decode jdk_52_method_21_code 30 = .ok (.i2b, 1) := by decide +kernel
theorem D_jdk_52_method_21_code_31 : decode jdk_52_method_21_code 31 = .ok (.bastore, 1) := by decide +kernel
theorem D_jdk_52_method_21_code_32 : decode jdk_52_method_21_code 32 = .ok (.iinc 1 1, 3) := by decide +kernel
theorem D_jdk_52_method_21_code_35 : decode jdk_52_method_21_code 35 = .ok (.iinc 3 1, 3) := by decide +kernel
theorem D_jdk_52_method_21_code_38 : decode jdk_52_method_21_code 38 = .ok (.iinc 5 1, 3) := by decide +kernel
theorem D_jdk_52_method_21_code_41 : decode jdk_52_method_21_code 41 = .ok (.goto (-38), 3) := by decide +kernel
theorem D_jdk_52_method_21_code_44 : decode jdk_52_method_21_code 44 = .ok (.iload 4, 2) := by decide +kernel
theorem D_jdk_52_method_21_code_46 : decode jdk_52_method_21_code 46 = .ok (.ireturn, 1) := by decide +kernel
theorem D_jdk_52_method_21_code_5 : decode jdk_52_method_21_code 5 = .ok (.iload 4, 2) := by decide +kernel
theorem D_jdk_52_method_21_code_7 : decode jdk_52_method_21_code 7 = .ok (.if_icmp .ge 37, 3) := by decide +kernel
theorem pd_0 : parseMethodDescriptor "([CI[BII)I" = some ⟨[(.array .char), .int, (.array .byte), .int, .int], some .int⟩ := by decide +kernel
theorem pd_1 : parseMethodDescriptor "([CII)[B" = some ⟨[(.array .char), .int, .int], some (.array .byte)⟩ := by decide +kernel
theorem pd_2 : parseMethodDescriptor "([BI)B" = some ⟨[(.array .byte), .int], some .byte⟩ := by decide +kernel
theorem pd_3 : parseMethodDescriptor "([CIILjava/lang/Void;)V" = some ⟨[(.array .char), .int, .int, (.object "java/lang/Void")], none⟩ := by decide +kernel
theorem pd_4 : parseMethodDescriptor "([C)V" = some ⟨[(.array .char)], none⟩ := by decide +kernel
theorem pd_5 : parseMethodDescriptor "(Ljava/lang/String;I)V" = some ⟨[(.object "java/lang/String"), .int], none⟩ := by decide +kernel
theorem pd_6 : parseMethodDescriptor "()V" = some ⟨[], none⟩ := by decide +kernel
theorem pd_7 : parseMethodDescriptor "(Lcom/example/bindery/bindery/TokenType;Ljava/lang/String;I)V" = some ⟨[(.object "com/example/bindery/bindery/TokenType"), (.object "java/lang/String"), .int], none⟩ := by decide +kernel
theorem pd_8 : parseMethodDescriptor "(II)Ljava/lang/String;" = some ⟨[.int, .int], some (.object "java/lang/String")⟩ := by decide +kernel
theorem pd_9 : parseMethodDescriptor "()Lcom/example/bindery/bindery/Token;" = some ⟨[], some (.object "com/example/bindery/bindery/Token")⟩ := by decide +kernel
theorem pd_10 : parseMethodDescriptor "()Lcom/example/bindery/bindery/TokenType;" = some ⟨[], some (.object "com/example/bindery/bindery/TokenType")⟩ := by decide +kernel
theorem pd_11 : parseMethodDescriptor "()Ljava/lang/String;" = some ⟨[], some (.object "java/lang/String")⟩ := by decide +kernel
theorem pd_12 : parseMethodDescriptor "(Ljava/lang/Object;)Z" = some ⟨[(.object "java/lang/Object")], some .boolean⟩ := by decide +kernel
theorem pd_13 : parseMethodDescriptor "()I" = some ⟨[], some .int⟩ := by decide +kernel
theorem pn_0 : plainName "java/lang/StringUTF16" = true := by first | (simp [plainName, overriddenIn]; done) | decide +kernel
theorem pn_1 : plainName "java/lang/String" = true := by first | (simp [plainName, overriddenIn]; done) | decide +kernel
theorem pn_2 : plainName "com/example/bindery/bindery/NamedTokenPinLaw" = true := by first | (simp [plainName, overriddenIn]; done) | decide +kernel
theorem pn_3 : plainName "com/example/bindery/bindery/Named" = true := by first | (simp [plainName, overriddenIn]; done) | decide +kernel
theorem pn_4 : plainName "com/example/bindery/bindery/Expr$Variable" = true := by first | (simp [plainName, overriddenIn]; done) | decide +kernel
theorem pn_5 : plainName "java/lang/Record" = true := by first | (simp [plainName, overriddenIn]; done) | decide +kernel
theorem pn_6 : plainName "com/example/bindery/bindery/Token" = true := by first | (simp [plainName, overriddenIn]; done) | decide +kernel
set_option maxRecDepth 65536 in
set_option maxHeartbeats 40000000 in
theorem c_compress5 {l : Launch} {Z : State} {a0 : Array Value} {EL : List (String × Nat)} {nw : Prop} {zc : Int32} {idn : Addr} (g : GH Z a0 EL zc idn) (h : Heap) (b : Addr) (kb : ClassId) (cs : List Int32) (d : Addr) (kd : ClassId) (hcs : ∀ c ∈ cs, 0 ≤ c.toInt ∧ c.toInt ≤ 255) (hl : cs.length ≤ 4000) (hne : ¬ b = d) (gd : Z.heap.size ≤ d) (e0 : Ar Z h b kb .char (cs.map Value.int)) (e1 : Ar Z h d kd .byte ((List.replicate cs.length (0 : Int32)).map Value.int)) (zz : Z.heap.size ≤ h.size) :
    Ct l Z EL nw [] ⟨"java/lang/StringUTF16", "compress", "([CI[BII)I"⟩ jdk_52_method_21_code 7 (some .int) ({ frames := 0, cells := 0, slots := 0, locals := 0 } : Room) #[(.ref b), (.int (0 : Int32)), (.ref d), (.int (0 : Int32)), (.int (cs.length.toInt32))] h [d] (fun res vm' h' => res = some (.int (cs.length.toInt32)) ∧ Keep h h' [d] ∧ Ar Z h' d kd .byte ((cs.map by8).map Value.int) ∧ Safe Z EL vm' h' d) := by
  have ye0 := ltN e0.lt
  have ye1 := ltN e1.lt
  refine Ct.of_go (a0 := a0) g.2.1 pn_0 (L0 := #[.val (.ref b), .val (.int (0 : Int32)), .val (.ref d), .val (.int (0 : Int32)), .val (.int (cs.length.toInt32)), .unset, .unset]) (fun m => by first | rfl | (simp [entryFrame, mkF, argsToLocals, Value.category, maxLocals]; done)) ?_
  intro p e s m below meth c hown hby hml hret hnm hZ hC hO hsf
  refine Go.iconst (hb hby D_jdk_52_method_21_code_0) (pc' := 1) rfl (z := (0 : Int32)) rfl ?_
  refine Go.istore (hb hby D_jdk_52_method_21_code_1) (pc' := 3) rfl (L' := #[.val (.ref b), .val (.int (0 : Int32)), .val (.ref d), .val (.int (0 : Int32)), .val (.int (cs.length.toInt32)), .val (.int (0 : Int32)), .unset]) rfl ?_
  refine Go.loop (Inv := fun r vmI hI kI nI LI => vmI = s.vm ∧ kI = 0 ∧ nI = 0 ∧ ∃ (i : Nat) (s6 : Slot), i + r = cs.length ∧ (s6 = .unset ∨ ∃ w, s6 = .val (.int w)) ∧ LI = #[.val (.ref b), .val (.int i.toInt32), .val (.ref d), .val (.int i.toInt32), .val (.int (cs.length.toInt32)), .val (.int i.toInt32), s6] ∧ Keep h hI [d] ∧ Ar Z hI d kd .byte (((cs.map by8).take i ++ List.replicate ((cs.map by8).length - i) 0).map Value.int) ∧ Safe Z EL s.vm hI d) ?_ cs.length _ _ _ _ _ ⟨rfl, rfl, rfl, 0, .unset, Nat.zero_add _, Or.inl rfl, rfl, Keep.refl _ _, by simpa using e1, hsf _ (by simp)⟩
  rintro r vmI hI kI nI LI ⟨rfl, rfl, rfl, i, s6, hir, hs6, rfl, KI, AI, SI⟩ ih
  have yI := KI.1
  have hi31 : i < 2 ^ 31 := by omega
  have hn31 : cs.length < 2 ^ 31 := by omega
  rcases hs6 with rfl | ⟨w6, rfl⟩
  · refine Go.iload (hb hby D_jdk_52_method_21_code_3) (pc' := 5) rfl rfl ?_
    refine Go.iload (hb hby D_jdk_52_method_21_code_5) (pc' := 7) rfl rfl ?_
    refine Go.icmp (hb hby D_jdk_52_method_21_code_7) (by decide) (pc' := 44) (by decide) (pc2 := 10) rfl (fun (q7 : ¬ i.toInt32 < (cs.length.toInt32)) => ?_) (fun (q7 : ¬ (¬ i.toInt32 < (cs.length.toInt32))) => ?_)
    · have hi : ¬ i < cs.length := fun z => q7 ((lt32 hi31 hn31).mpr z)
      have hi' : i = cs.length := by omega
      subst hi'
      have AI' : Ar Z hI d kd .byte ((cs.map by8).map Value.int) := by have q := AI; rw [show (cs.map by8).take cs.length ++ List.replicate ((cs.map by8).length - cs.length) 0 = cs.map by8 by simp [List.take_of_length_le]] at q; exact q
      refine Go.iload (hb hby D_jdk_52_method_21_code_44) (pc' := 46) rfl rfl ?_
      refine Go.retI hret (hb hby D_jdk_52_method_21_code_46) (by decide) (by decide) ?_
      intro vmR CR
      exact ⟨(by first | rfl | (simp only [own_nar]; done) | (congr 2; done)), ((Keep.refl h [d]).trans KI (allS (by first | (left; simp; done) | (right; omega)) all0)), AI', (Safe.to CR (by omega) SI)⟩
    · refine Go.aloadN (hb hby D_jdk_52_method_21_code_10) (pc' := 11) rfl rfl rfl ?_
      refine Go.iloadN (hb hby D_jdk_52_method_21_code_11) (pc' := 12) rfl rfl ?_
      have f1 : Ar Z hI b kb .char (cs.map Value.int) := (e0.keep KI (ninS hne nin0))
      have hi : i < cs.length := (lt32 hi31 hn31).mp (Classical.not_not.mp q7)
      obtain ⟨cx, hc⟩ : ∃ cx, cs[i] = cx := ⟨_, rfl⟩
      have hcb := hcs cx (hc ▸ List.getElem_mem hi)
      refine Go.caload f1 (v := (.int cx)) (nneg32 hi31) (by rw [clamp_nat hi31]; simp [hi, hc]) (hb hby D_jdk_52_method_21_code_12) (pc' := 13) rfl ?_
      refine Go.istore (hb hby D_jdk_52_method_21_code_13) (pc' := 15) rfl (L' := #[.val (.ref b), .val (.int i.toInt32), .val (.ref d), .val (.int i.toInt32), .val (.int (cs.length.toInt32)), .val (.int i.toInt32), .val (.int cx)]) rfl ?_
      refine Go.iload (hb hby D_jdk_52_method_21_code_15) (pc' := 17) rfl rfl ?_
      refine Go.sipush (hb hby D_jdk_52_method_21_code_17) (pc' := 20) rfl (z := (255 : Int32)) rfl ?_
      refine Go.icmpY (hb hby D_jdk_52_method_21_code_20) (by decide) (pc' := 26) (by decide) (by show ¬ (255 : Int32) < cx; rw [Int32.lt_iff_toInt_lt]; have : (255 : Int32).toInt = 255 := rfl; omega) ?_
      refine Go.aloadN (hb hby D_jdk_52_method_21_code_26) (pc' := 27) rfl rfl rfl ?_
      refine Go.iloadN (hb hby D_jdk_52_method_21_code_27) (pc' := 28) rfl rfl ?_
      refine Go.iload (hb hby D_jdk_52_method_21_code_28) (pc' := 30) rfl rfl ?_
      refine Go.i2b (hb hby D_jdk_52_method_21_code_30) (pc' := 31) rfl ?_
      refine Go.bastore AI (nneg32 hi31) (by rw [clamp_nat hi31]; simp; omega) SI (by omega) (hb hby D_jdk_52_method_21_code_31) (pc' := 32) rfl ?_
      intro h2 A3 z4 K5 S6 C7
      have A3 : Ar Z h2 d kd .byte ((((cs.map by8).take i ++ List.replicate ((cs.map by8).length - i) 0).map Value.int).set i.toInt32.toNatClampNeg (.int (nar .byte cx.toInt8.toInt32))) := A3
      refine Go.iinc (hb hby D_jdk_52_method_21_code_32) (pc' := 35) rfl rfl (L' := #[.val (.ref b), .val (.int (i.toInt32 + 1)), .val (.ref d), .val (.int i.toInt32), .val (.int (cs.length.toInt32)), .val (.int i.toInt32), .val (.int cx)]) rfl ?_
      refine Go.iinc (hb hby D_jdk_52_method_21_code_35) (pc' := 38) rfl rfl (L' := #[.val (.ref b), .val (.int (i.toInt32 + 1)), .val (.ref d), .val (.int (i.toInt32 + 1)), .val (.int (cs.length.toInt32)), .val (.int i.toInt32), .val (.int cx)]) rfl ?_
      refine Go.iinc (hb hby D_jdk_52_method_21_code_38) (pc' := 41) rfl rfl (L' := #[.val (.ref b), .val (.int (i.toInt32 + 1)), .val (.ref d), .val (.int (i.toInt32 + 1)), .val (.int (cs.length.toInt32)), .val (.int (i.toInt32 + 1)), .val (.int cx)]) rfl ?_
      refine Go.goto (hb hby D_jdk_52_method_21_code_41) (by decide) (pc' := 3) (by decide) ?_
      have hset := fill_set (cs.map by8) 0 i (by simpa using hi)
      rw [succ32 i]
      refine ih (r - 1) _ _ _ _ _ (by omega) ⟨rfl, rfl, rfl, i + 1, _, by omega, Or.inr ⟨_, rfl⟩, rfl, Keep.tr KI K5, ?_, S6⟩
      rw [nar_by8, clamp_nat hi31] at A3
      have e2 : (cs.map by8)[i]'(by simpa using hi) = by8 cx := by simp [hc]
      rw [← hset, e2, List.map_set]; exact A3
  · refine Go.iload (hb hby D_jdk_52_method_21_code_3) (pc' := 5) rfl rfl ?_
    refine Go.iload (hb hby D_jdk_52_method_21_code_5) (pc' := 7) rfl rfl ?_
    refine Go.icmp (hb hby D_jdk_52_method_21_code_7) (by decide) (pc' := 44) (by decide) (pc2 := 10) rfl (fun (q7 : ¬ i.toInt32 < (cs.length.toInt32)) => ?_) (fun (q7 : ¬ (¬ i.toInt32 < (cs.length.toInt32))) => ?_)
    · have hi : ¬ i < cs.length := fun z => q7 ((lt32 hi31 hn31).mpr z)
      have hi' : i = cs.length := by omega
      subst hi'
      have AI' : Ar Z hI d kd .byte ((cs.map by8).map Value.int) := by have q := AI; rw [show (cs.map by8).take cs.length ++ List.replicate ((cs.map by8).length - cs.length) 0 = cs.map by8 by simp [List.take_of_length_le]] at q; exact q
      refine Go.iload (hb hby D_jdk_52_method_21_code_44) (pc' := 46) rfl rfl ?_
      refine Go.retI hret (hb hby D_jdk_52_method_21_code_46) (by decide) (by decide) ?_
      intro vmR CR
      exact ⟨(by first | rfl | (simp only [own_nar]; done) | (congr 2; done)), ((Keep.refl h [d]).trans KI (allS (by first | (left; simp; done) | (right; omega)) all0)), AI', (Safe.to CR (by omega) SI)⟩
    · refine Go.aloadN (hb hby D_jdk_52_method_21_code_10) (pc' := 11) rfl rfl rfl ?_
      refine Go.iloadN (hb hby D_jdk_52_method_21_code_11) (pc' := 12) rfl rfl ?_
      have f8 : Ar Z hI b kb .char (cs.map Value.int) := (e0.keep KI (ninS hne nin0))
      have hi : i < cs.length := (lt32 hi31 hn31).mp (Classical.not_not.mp q7)
      obtain ⟨cx, hc⟩ : ∃ cx, cs[i] = cx := ⟨_, rfl⟩
      have hcb := hcs cx (hc ▸ List.getElem_mem hi)
      refine Go.caload f8 (v := (.int cx)) (nneg32 hi31) (by rw [clamp_nat hi31]; simp [hi, hc]) (hb hby D_jdk_52_method_21_code_12) (pc' := 13) rfl ?_
      refine Go.istore (hb hby D_jdk_52_method_21_code_13) (pc' := 15) rfl (L' := #[.val (.ref b), .val (.int i.toInt32), .val (.ref d), .val (.int i.toInt32), .val (.int (cs.length.toInt32)), .val (.int i.toInt32), .val (.int cx)]) rfl ?_
      refine Go.iload (hb hby D_jdk_52_method_21_code_15) (pc' := 17) rfl rfl ?_
      refine Go.sipush (hb hby D_jdk_52_method_21_code_17) (pc' := 20) rfl (z := (255 : Int32)) rfl ?_
      refine Go.icmpY (hb hby D_jdk_52_method_21_code_20) (by decide) (pc' := 26) (by decide) (by show ¬ (255 : Int32) < cx; rw [Int32.lt_iff_toInt_lt]; have : (255 : Int32).toInt = 255 := rfl; omega) ?_
      refine Go.aloadN (hb hby D_jdk_52_method_21_code_26) (pc' := 27) rfl rfl rfl ?_
      refine Go.iloadN (hb hby D_jdk_52_method_21_code_27) (pc' := 28) rfl rfl ?_
      refine Go.iload (hb hby D_jdk_52_method_21_code_28) (pc' := 30) rfl rfl ?_
      refine Go.i2b (hb hby D_jdk_52_method_21_code_30) (pc' := 31) rfl ?_
      refine Go.bastore AI (nneg32 hi31) (by rw [clamp_nat hi31]; simp; omega) SI (by omega) (hb hby D_jdk_52_method_21_code_31) (pc' := 32) rfl ?_
      intro h9 A10 z11 K12 S13 C14
      have A10 : Ar Z h9 d kd .byte ((((cs.map by8).take i ++ List.replicate ((cs.map by8).length - i) 0).map Value.int).set i.toInt32.toNatClampNeg (.int (nar .byte cx.toInt8.toInt32))) := A10
      refine Go.iinc (hb hby D_jdk_52_method_21_code_32) (pc' := 35) rfl rfl (L' := #[.val (.ref b), .val (.int (i.toInt32 + 1)), .val (.ref d), .val (.int i.toInt32), .val (.int (cs.length.toInt32)), .val (.int i.toInt32), .val (.int cx)]) rfl ?_
      refine Go.iinc (hb hby D_jdk_52_method_21_code_35) (pc' := 38) rfl rfl (L' := #[.val (.ref b), .val (.int (i.toInt32 + 1)), .val (.ref d), .val (.int (i.toInt32 + 1)), .val (.int (cs.length.toInt32)), .val (.int i.toInt32), .val (.int cx)]) rfl ?_
      refine Go.iinc (hb hby D_jdk_52_method_21_code_38) (pc' := 41) rfl rfl (L' := #[.val (.ref b), .val (.int (i.toInt32 + 1)), .val (.ref d), .val (.int (i.toInt32 + 1)), .val (.int (cs.length.toInt32)), .val (.int (i.toInt32 + 1)), .val (.int cx)]) rfl ?_
      refine Go.goto (hb hby D_jdk_52_method_21_code_41) (by decide) (pc' := 3) (by decide) ?_
      have hset := fill_set (cs.map by8) 0 i (by simpa using hi)
      rw [succ32 i]
      refine ih (r - 1) _ _ _ _ _ (by omega) ⟨rfl, rfl, rfl, i + 1, _, by omega, Or.inr ⟨_, rfl⟩, rfl, Keep.tr KI K12, ?_, S13⟩
      rw [nar_by8, clamp_nat hi31] at A10
      have e2 : (cs.map by8)[i]'(by simpa using hi) = by8 cx := by simp [hc]
      rw [← hset, e2, List.map_set]; exact A10
set_option maxRecDepth 65536 in
set_option maxHeartbeats 40000000 in
theorem c_compress3 {l : Launch} {Z : State} {a0 : Array Value} {EL : List (String × Nat)} {nw : Prop} {zc : Int32} {idn : Addr} (g : GH Z a0 EL zc idn) (h : Heap) (b : Addr) (kb : ClassId) (cs : List Int32) (hcs : ∀ c ∈ cs, 0 ≤ c.toInt ∧ c.toInt ≤ 255) (hl : cs.length ≤ 16) (e0 : Ar Z h b kb .char (cs.map Value.int)) (zz : Z.heap.size ≤ h.size) :
    Ct l Z EL nw [] ⟨"java/lang/StringUTF16", "compress", "([CII)[B"⟩ jdk_52_method_16_code 6 (some (.array .byte)) ({ frames := 1, cells := 1, slots := 16, locals := 18 } : Room) #[(.ref b), (.int (0 : Int32)), (.int (cs.length.toInt32))] h [] (fun res vm' h' => ∃ d : Addr, ∃ kd : ClassId, res = some (.ref d) ∧ Keep h h' [] ∧ h.size ≤ d ∧ Ar Z h' d kd .byte ((cs.map by8).map Value.int) ∧ Safe Z EL vm' h' d) := by
  have ye0 := ltN e0.lt
  refine Ct.of_go (a0 := a0) g.2.1 pn_0 (L0 := #[.val (.ref b), .val (.int (0 : Int32)), .val (.int (cs.length.toInt32)), .unset, .unset, .unset]) (fun m => by first | rfl | (simp [entryFrame, mkF, argsToLocals, Value.category, maxLocals]; done)) ?_
  intro p e s m below meth c hown hby hml hret hnm hZ hC hO hsf
  refine Go.iloadN (hb hby D_jdk_52_method_16_code_0) (pc' := 1) rfl rfl ?_
  refine Go.newP (ty := .byte) rfl (wd_23 g) (hb hby D_jdk_52_method_16_code_1) (pc' := 3) rfl (nneg32 (by omega)) (cap := 16) (by rw [clamp_nat (by omega)]; exact hl) (by decide) (by decide) (by decide) ?_
  intro h1 a2 k3 g4 l5 E6 A7 S8 C9
  have KE6 := Keep.ofExt E6; have zE6 := E6.1
  have A7 : Ar Z h1 a2 k3 .byte (List.replicate (cs.length.toInt32).toNatClampNeg (.int 0)) := A7
  have A10 : Ar Z h1 a2 k3 .byte ((List.replicate cs.length (0 : Int32)).map Value.int) := by rw [clamp_nat (by omega)] at A7; rw [List.map_replicate]; exact A7
  refine Go.astoreN (hb hby D_jdk_52_method_16_code_3) (pc' := 4) rfl rfl (L' := #[.val (.ref b), .val (.int (0 : Int32)), .val (.int (cs.length.toInt32)), .val (.ref a2), .unset, .unset]) rfl ?_
  refine Go.aloadN (hb hby D_jdk_52_method_16_code_4) (pc' := 5) rfl rfl rfl ?_
  refine Go.iloadN (hb hby D_jdk_52_method_16_code_5) (pc' := 6) rfl rfl ?_
  refine Go.aloadN (hb hby D_jdk_52_method_16_code_6) (pc' := 7) rfl rfl rfl ?_
  refine Go.iconst (hb hby D_jdk_52_method_16_code_7) (pc' := 8) rfl (z := (0 : Int32)) rfl ?_
  refine Go.iloadN (hb hby D_jdk_52_method_16_code_8) (pc' := 9) rfl rfl ?_
  have f11 : Ar Z h1 b kb .char (cs.map Value.int) := (e0.keep KE6 nin0)
  refine Go.callS (c_compress5 (l := l) (nw := nw) g h1 b kb cs a2 k3 hcs (by omega) (neN (by omega)) (by omega) f11 A10 (by omega)) hown (wd_24 g) (wd_25 g) (wd_26 g) (wd_21 g) (by decide) (argsL := [(.ref b), (.int (0 : Int32)), (.ref a2), (.int (0 : Int32)), (.int (cs.length.toInt32))]) (lenOf pd_0 rfl) rfl (by rw [hml]; rfl) (W := 0) rfl (hb hby D_jdk_52_method_16_code_9) (pc' := 12) rfl (by decide) (by decide) (by decide) (by decide) (allS ⟨by omega, S8⟩ all0) ?_
  rintro _ vm12 h12 ⟨rfl, K12, o12_0, o12_1⟩ C12
  have z12 := K12.1
  have yo12_0 := ltN o12_0.lt
  -- pc 12
  refine Go.istore (hb hby D_jdk_52_method_16_code_12) (pc' := 14) rfl (L' := #[.val (.ref b), .val (.int (0 : Int32)), .val (.int (cs.length.toInt32)), .val (.ref a2), .val (.int (cs.length.toInt32)), .unset]) rfl ?_
  refine Go.iload (hb hby D_jdk_52_method_16_code_14) (pc' := 16) rfl rfl ?_
  refine Go.iloadN (hb hby D_jdk_52_method_16_code_16) (pc' := 17) rfl rfl ?_
  refine Go.icmpY (hb hby D_jdk_52_method_16_code_17) (by decide) (pc' := 57) (by decide) rfl ?_
  refine Go.aloadN (hb hby D_jdk_52_method_16_code_57) (pc' := 58) rfl rfl rfl ?_
  refine Go.retA hret rfl rfl (hb hby D_jdk_52_method_16_code_58) (by decide) (by decide) ?_
  intro vmR CR
  exact ⟨a2, k3, (by first | rfl | (simp only [own_nar]; done) | (congr 2; done)), (((Keep.refl h []).trans KE6 all0).trans K12 (allS (by first | (left; simp; done) | (right; omega)) all0)), (by omega), o12_0, (Safe.to CR (by omega) o12_1)⟩
set_option maxRecDepth 65536 in
set_option maxHeartbeats 40000000 in
theorem c_coderOf {l : Launch} {Z : State} {a0 : Array Value} {EL : List (String × Nat)} {nw : Prop} {zc : Int32} {idn : Addr} (g : GH Z a0 EL zc idn) (h : Heap) (d : Addr) (kd : ClassId) (bs : List Int32) (z : Int32) (hz : bs.length.toInt32 = z) (e0 : Ar Z h d kd .byte (bs.map Value.int)) (zz : Z.heap.size ≤ h.size) :
    Ct l Z EL nw [] ⟨"java/lang/StringUTF16", "coderFromArrayLen", "([BI)B"⟩ jdk_52_method_15_code 2 (some .byte) ({ frames := 0, cells := 0, slots := 0, locals := 0 } : Room) #[(.ref d), (.int z)] h [] (fun res vm' h' => res = some (.int (0 : Int32)) ∧ Keep h h' []) := by
  have ye0 := ltN e0.lt
  refine Ct.of_go (a0 := a0) g.2.1 pn_0 (L0 := #[.val (.ref d), .val (.int z)]) (fun m => by first | rfl | (simp [entryFrame, mkF, argsToLocals, Value.category, maxLocals]; done)) ?_
  intro p e s m below meth c hown hby hml hret hnm hZ hC hO hsf
  refine Go.iloadN (hb hby D_jdk_52_method_15_code_0) (pc' := 1) rfl rfl ?_
  refine Go.aloadN (hb hby D_jdk_52_method_15_code_1) (pc' := 2) rfl rfl rfl ?_
  refine Go.alen e0 (z := (bs.length.toInt32)) (by rw [List.length_map]) (hb hby D_jdk_52_method_15_code_2) (pc' := 3) rfl ?_
  refine Go.isub (hb hby D_jdk_52_method_15_code_3) (pc' := 4) rfl ?_
  refine Go.bipush (hb hby D_jdk_52_method_15_code_4) (pc' := 6) rfl (z := (31 : Int32)) rfl ?_
  refine Go.iushr (hb hby D_jdk_52_method_15_code_6) (pc' := 7) rfl ?_
  refine Go.i2b (hb hby D_jdk_52_method_15_code_7) (pc' := 8) rfl ?_
  refine Go.retN (t := .byte) hret (by simp) (hb hby D_jdk_52_method_15_code_8) (by decide) (by decide) ?_
  intro vmR CR
  exact ⟨(by rw [hz, sub0]; rfl), (Keep.refl h [])⟩
set_option maxRecDepth 65536 in
set_option maxHeartbeats 40000000 in
theorem c_strinit4 {l : Launch} {Z : State} {a0 : Array Value} {EL : List (String × Nat)} {nw : Prop} {zc : Int32} {idn : Addr} (g : GH Z a0 EL zc idn) (h : Heap) (a : Addr) (b : Addr) (kb : ClassId) (cs : List Int32) (hcs : ∀ c ∈ cs, 0 ≤ c.toInt ∧ c.toInt ≤ 255) (h0 : 0 < cs.length) (hl : cs.length ≤ 16) (ga : Z.heap.size ≤ a) (e0 : Exa Z h a "java/lang/String") (e1 : Fld Z h a "java/lang/String" "coder" "B" (.int 0)) (e2 : Fld Z h a "java/lang/String" "value" "[B" .null) (e3 : Ar Z h b kb .char (cs.map Value.int)) (zz : Z.heap.size ≤ h.size) :
    Ct l Z EL nw [] ⟨"java/lang/String", "<init>", "([CIILjava/lang/Void;)V"⟩ jdk_42_method_149_code 6 none ({ frames := 2, cells := 1, slots := 16, locals := 35 } : Room) #[(.ref a), (.ref b), (.int (0 : Int32)), (.int (cs.length.toInt32)), .null] h [a] (fun res vm' h' => ∃ d : Addr, ∃ kd : ClassId, res = none ∧ Keep h h' [a] ∧ h.size ≤ d ∧ St Z h' a d kd (cs.map by8)) := by
  have ye0 := ltN e0.lt
  have ye1 := ltN e1.lt
  have ye2 := ltN e2.lt
  have ye3 := ltN e3.lt
  refine Ct.of_go (a0 := a0) g.2.1 pn_1 (L0 := #[.val (.ref a), .val (.ref b), .val (.int (0 : Int32)), .val (.int (cs.length.toInt32)), .val .null, .unset]) (fun m => by first | rfl | (simp [entryFrame, mkF, argsToLocals, Value.category, maxLocals]; done)) ?_
  intro p e s m below meth c hown hby hml hret hnm hZ hC hO hsf
  refine Go.aloadN (hb hby D_jdk_42_method_149_code_0) (pc' := 1) rfl rfl rfl ?_
  refine Go.initO hown (wd_15 g) (wd_16 g) (wd_17 g) (by rw [hml]; rfl) (hb hby D_jdk_42_method_149_code_1) (by decide) (W := 0) rfl (by decide) (pc' := 4) rfl ?_
  refine Go.iloadN (hb hby D_jdk_42_method_149_code_4) (pc' := 5) rfl rfl ?_
  refine Go.ifY (hb hby D_jdk_42_method_149_code_5) (by decide) (pc' := 27) (by decide) (nz32 (by omega) h0) ?_
  refine Go.getS hown (wd_18 g) Via.refl g.2.2.2.2.1 (hb hby D_jdk_42_method_149_code_27) (pc' := 30) rfl ?_
  refine Go.ifN (hb hby D_jdk_42_method_149_code_30) (pc' := 33) rfl g.2.2.2.2.2.1 ?_
  refine Go.aloadN (hb hby D_jdk_42_method_149_code_33) (pc' := 34) rfl rfl rfl ?_
  refine Go.iloadN (hb hby D_jdk_42_method_149_code_34) (pc' := 35) rfl rfl ?_
  refine Go.iloadN (hb hby D_jdk_42_method_149_code_35) (pc' := 36) rfl rfl ?_
  refine Go.callS (c_compress3 (l := l) (nw := nw) g h b kb cs hcs hl e3 (by omega)) hown (wd_19 g) (wd_20 g) (wd_22 g) (wd_21 g) (by decide) (argsL := [(.ref b), (.int (0 : Int32)), (.int (cs.length.toInt32))]) (lenOf pd_1 rfl) rfl (by rw [hml]; rfl) (W := 0) rfl (hb hby D_jdk_42_method_149_code_36) (pc' := 39) rfl (by decide) (by decide) (by decide) (by decide) all0 ?_
  rintro _ vm1 h1 ⟨d_1, kd_1, rfl, K1, p1_0, o1_0, o1_1⟩ C1
  have z1 := K1.1
  have yo1_0 := ltN o1_0.lt
  -- pc 39
  refine Go.astore (hb hby D_jdk_42_method_149_code_39) (pc' := 41) rfl rfl (L' := #[.val (.ref a), .val (.ref b), .val (.int (0 : Int32)), .val (.int (cs.length.toInt32)), .val .null, .val (.ref d_1)]) rfl ?_
  refine Go.aloadN (hb hby D_jdk_42_method_149_code_41) (pc' := 42) rfl rfl rfl ?_
  refine Go.aload (hb hby D_jdk_42_method_149_code_42) (pc' := 44) rfl rfl rfl ?_
  refine Go.iloadN (hb hby D_jdk_42_method_149_code_44) (pc' := 45) rfl rfl ?_
  refine Go.callS (c_coderOf (l := l) (nw := nw) g h1 d_1 kd_1 (cs.map by8) (cs.length.toInt32) (by rw [List.length_map]) o1_0 (by omega)) hown (wd_27 g) (wd_28 g) (wd_29 g) (wd_21 g) (by decide) (argsL := [(.ref d_1), (.int (cs.length.toInt32))]) (lenOf pd_2 rfl) rfl (by rw [hml]; rfl) (W := 1) rfl (hb hby D_jdk_42_method_149_code_45) (pc' := 48) rfl (by decide) (by decide) (by decide) (by decide) all0 ?_
  rintro _ vm2 h2 ⟨rfl, K2⟩ C2
  have z2 := K2.1
  -- pc 48
  have f3 : Fld Z h2 a "java/lang/String" "coder" "B" (.int 0) := ((e1.keep K1 nin0).keep K2 nin0)
  have f4 : Exa Z h2 a "java/lang/String" := ((e0.keep K1).keep K2)
  have f5 : Safe Z EL vm2 h2 a := (Safe.to C2 (by omega) (Safe.to C1 (by omega) (hsf _ (by simp))))
  refine Go.putF hown (wd_30 g) Via.refl f3 f4 (Or.inr ⟨(wd_31 g), rfl, hnm⟩) (wd_5 g) (ty := .byte) (by decide) (v' := (.int (0 : Int32))) rfl (by first | rfl | exact fits_nar_byte _ ) (Or.inr f5) (by omega) (hb hby D_jdk_42_method_149_code_48) (pc' := 51) rfl ?_
  intro h6 W7 z9 K8 C10
  have f11 : Fld Z h2 a "java/lang/String" "value" "[B" .null := ((e2.keep K1 nin0).keep K2 nin0)
  have f12 : Fld Z h6 a "java/lang/String" "coder" "B" (.int (0 : Int32)) := (Fld.same W7 f3)
  have f13 : Fld Z h6 a "java/lang/String" "value" "[B" .null := (Fld.other W7 f11 (Or.inr (slot_ne (Or.inr (wd_33 g)) (Or.inr (wd_31 g)) (by decide) (t := (.array .byte)) (t' := .byte) (by decide) (by decide))))
  refine Go.aloadN (hb hby D_jdk_42_method_149_code_51) (pc' := 52) rfl rfl rfl ?_
  refine Go.aload (hb hby D_jdk_42_method_149_code_52) (pc' := 54) rfl rfl rfl ?_
  have f14 : Exa Z h6 a "java/lang/String" := (f4.keep K8)
  have f15 : Safe Z EL vm2 h6 a := (Safe.to C10 (by omega) f5)
  refine Go.putF hown (wd_32 g) Via.refl f13 f14 (Or.inr ⟨(wd_33 g), rfl, hnm⟩) (wd_5 g) (ty := (.array .byte)) (by decide) rfl rfl (Or.inr f15) (by omega) (hb hby D_jdk_42_method_149_code_54) (pc' := 57) rfl ?_
  intro h16 W17 z19 K18 C20
  have f21 : Fld Z h16 a "java/lang/String" "coder" "B" (.int (0 : Int32)) := (Fld.other W17 f12 (Or.inr (slot_ne (Or.inr (wd_31 g)) (Or.inr (wd_33 g)) (by decide) (t := .byte) (t' := (.array .byte)) (by decide) (by decide))))
  have f22 : Fld Z h16 a "java/lang/String" "value" "[B" (.ref d_1) := (Fld.same W17 f13)
  have f24 : Exa Z h16 a "java/lang/String" := (f14.keep K18)
  have f25 : Ar Z h16 d_1 kd_1 .byte ((cs.map by8).map Value.int) := (((o1_0.keep K2 nin0).keep K8 (ninS (Ne.symm (Ar.ne_exa (o1_0.keep K2 nin0) ((e0.keep K1).keep K2) (wd_5 g))) nin0)).keep K18 (ninS (Ne.symm (Ar.ne_exa ((o1_0.keep K2 nin0).keep K8 (ninS (Ne.symm (Ar.ne_exa (o1_0.keep K2 nin0) ((e0.keep K1).keep K2) (wd_5 g))) nin0)) (((e0.keep K1).keep K2).keep K8) (wd_5 g))) nin0))
  have f23 : St Z h16 a d_1 kd_1 (cs.map by8) := ⟨f24, f21, f22, f25, by rw [List.length_map]; omega⟩
  refine Go.ret hret (hb hby D_jdk_42_method_149_code_57) (by decide) (by decide) ?_
  intro vmR CR
  exact ⟨d_1, kd_1, rfl, (((((Keep.refl h [a]).trans K1 all0).trans K2 all0).trans K8 (allS (by first | (left; simp; done) | (right; omega)) all0)).trans K18 (allS (by first | (left; simp; done) | (right; omega)) all0)), (by omega), f23⟩
set_option maxRecDepth 65536 in
set_option maxHeartbeats 40000000 in
theorem c_strinit {l : Launch} {Z : State} {a0 : Array Value} {EL : List (String × Nat)} {nw : Prop} {zc : Int32} {idn : Addr} (g : GH Z a0 EL zc idn) (h : Heap) (a : Addr) (b : Addr) (kb : ClassId) (cs : List Int32) (hcs : ∀ c ∈ cs, 0 ≤ c.toInt ∧ c.toInt ≤ 255) (h0 : 0 < cs.length) (hl : cs.length ≤ 16) (ga : Z.heap.size ≤ a) (e0 : Exa Z h a "java/lang/String") (e1 : Fld Z h a "java/lang/String" "coder" "B" (.int 0)) (e2 : Fld Z h a "java/lang/String" "value" "[B" .null) (e3 : Ar Z h b kb .char (cs.map Value.int)) (zz : Z.heap.size ≤ h.size) :
    Ct l Z EL nw [] ⟨"java/lang/String", "<init>", "([C)V"⟩ jdk_42_method_3_code 2 none ({ frames := 3, cells := 1, slots := 16, locals := 52 } : Room) #[(.ref a), (.ref b)] h [a] (fun res vm' h' => ∃ d : Addr, ∃ kd : ClassId, res = none ∧ Keep h h' [a] ∧ h.size ≤ d ∧ St Z h' a d kd (cs.map by8)) := by
  have ye0 := ltN e0.lt
  have ye1 := ltN e1.lt
  have ye2 := ltN e2.lt
  have ye3 := ltN e3.lt
  refine Ct.of_go (a0 := a0) g.2.1 pn_1 (L0 := #[.val (.ref a), .val (.ref b)]) (fun m => by first | rfl | (simp [entryFrame, mkF, argsToLocals, Value.category, maxLocals]; done)) ?_
  intro p e s m below meth c hown hby hml hret hnm hZ hC hO hsf
  refine Go.aloadN (hb hby D_jdk_42_method_3_code_0) (pc' := 1) rfl rfl rfl ?_
  refine Go.aloadN (hb hby D_jdk_42_method_3_code_1) (pc' := 2) rfl rfl rfl ?_
  refine Go.iconst (hb hby D_jdk_42_method_3_code_2) (pc' := 3) rfl (z := (0 : Int32)) rfl ?_
  refine Go.aloadN (hb hby D_jdk_42_method_3_code_3) (pc' := 4) rfl rfl rfl ?_
  refine Go.alen e3 (z := (cs.length.toInt32)) (by rw [List.length_map]) (hb hby D_jdk_42_method_3_code_4) (pc' := 5) rfl ?_
  refine Go.aconstNull (hb hby D_jdk_42_method_3_code_5) (pc' := 6) rfl ?_
  refine Go.callC (c_strinit4 (l := l) (nw := nw) g h a b kb cs hcs h0 hl ga e0 e1 e2 e3 (by omega)) hown rfl rfl (wd_11 g) (wd_12 g) (wd_14 g) (wd_6 g) (by decide) (argsL := [(.ref b), (.int (0 : Int32)), (.int (cs.length.toInt32)), .null]) (lenOf pd_3 rfl) rfl (by rw [hml]; rfl) (W := 0) rfl (hb hby D_jdk_42_method_3_code_6) (pc' := 9) rfl (by decide) (by decide) (by decide) (by decide) (allS ⟨by omega, (hsf _ (by simp))⟩ all0) ?_
  rintro _ vm1 h1 ⟨d_1, kd_1, rfl, K1, p1_0, o1_0⟩ C1
  have z1 := K1.1
  have yo1_0 := ltN o1_0.lt; have yo1_0' := ltN o1_0.ltb
  -- pc 9
  refine Go.ret hret (hb hby D_jdk_42_method_3_code_9) (by decide) (by decide) ?_
  intro vmR CR
  exact ⟨d_1, kd_1, rfl, ((Keep.refl h [a]).trans K1 (allS (by first | (left; simp; done) | (right; omega)) all0)), (by omega), o1_0⟩
set_option maxRecDepth 65536 in
set_option maxHeartbeats 40000000 in
theorem c_strinit40 {l : Launch} {Z : State} {a0 : Array Value} {EL : List (String × Nat)} {nw : Prop} {zc : Int32} {idn : Addr} (g : GH Z a0 EL zc idn) (hnw : ¬ nw) (h : Heap) (a : Addr) (b : Addr) (ga : Z.heap.size ≤ a) (e0 : Exa Z h a "java/lang/String") (e1 : Fld Z h a "java/lang/String" "coder" "B" (.int 0)) (e2 : Fld Z h a "java/lang/String" "value" "[B" .null) (zz : Z.heap.size ≤ h.size) :
    Ct l Z EL nw [] ⟨"java/lang/String", "<init>", "([CIILjava/lang/Void;)V"⟩ jdk_42_method_149_code 6 none ({ frames := 1, cells := 4, slots := 8, locals := 12 } : Room) #[(.ref a), (.ref b), (.int (0 : Int32)), (.int (0 : Int32)), .null] h [a] (fun res vm' h' => ∃ d : Addr, ∃ kd : ClassId, res = none ∧ Keep h h' [a] ∧ St Z h' a d kd []) := by
  have ye0 := ltN e0.lt
  have ye1 := ltN e1.lt
  have ye2 := ltN e2.lt
  refine Ct.of_go (a0 := a0) g.2.1 pn_1 (L0 := #[.val (.ref a), .val (.ref b), .val (.int (0 : Int32)), .val (.int (0 : Int32)), .val .null, .unset]) (fun m => by first | rfl | (simp [entryFrame, mkF, argsToLocals, Value.category, maxLocals]; done)) ?_
  intro p e s m below meth c hown hby hml hret hnm hZ hC hO hsf
  refine Go.aloadN (hb hby D_jdk_42_method_149_code_0) (pc' := 1) rfl rfl rfl ?_
  refine Go.initO hown (wd_15 g) (wd_16 g) (wd_17 g) (by rw [hml]; rfl) (hb hby D_jdk_42_method_149_code_1) (by decide) (W := 0) rfl (by decide) (pc' := 4) rfl ?_
  refine Go.iloadN (hb hby D_jdk_42_method_149_code_4) (pc' := 5) rfl rfl ?_
  refine Go.ifN (hb hby D_jdk_42_method_149_code_5) (pc' := 8) rfl (show ¬ (¬ (0 : Int32) = (0 : Int32)) from by decide) ?_
  refine Go.aloadN (hb hby D_jdk_42_method_149_code_8) (pc' := 9) rfl rfl rfl ?_
  refine Go.ldcStr (n0 := 0) (vs := ([] : List Int32).map Value.int) hnw hown (wd_98 g) g.2.2.1 (g.2.2.2.1 _ (by decide)) (by decide) (hb hby D_jdk_42_method_149_code_9) (pc' := 11) rfl (by decide) (by decide) (by decide) (by decide) ?_
  intro vm1 h2 a3 b4 k5 E6 C7 X8 F9 F10 A11 l12 l13 N14
  have KE6 := Keep.ofExt E6; have zE6 := E6.1
  have f15 : St Z h2 a3 b4 k5 [] := ⟨X8, F9, F10, A11, by decide⟩
  refine Go.getF hown (wd_32 g) Via.refl f15.2.2.1 (hb hby D_jdk_42_method_149_code_11) (pc' := 14) rfl ?_
  have f16 : Fld Z h2 a "java/lang/String" "value" "[B" .null := (e2.keep KE6 nin0)
  have f17 : Exa Z h2 a "java/lang/String" := (e0.keep KE6)
  have f18 : Safe Z EL vm1 h2 a := (Safe.to C7 (by omega) (hsf _ (by simp)))
  refine Go.putF hown (wd_32 g) Via.refl f16 f17 (Or.inr ⟨(wd_33 g), rfl, hnm⟩) (wd_5 g) (ty := (.array .byte)) (by decide) rfl rfl (Or.inr f18) (by omega) (hb hby D_jdk_42_method_149_code_14) (pc' := 17) rfl ?_
  intro h19 W20 z22 K21 C23
  have f24 : Fld Z h2 a "java/lang/String" "coder" "B" (.int 0) := (e1.keep KE6 nin0)
  have f25 : Fld Z h19 a "java/lang/String" "coder" "B" (.int 0) := (Fld.other W20 f24 (Or.inr (slot_ne (Or.inr (wd_31 g)) (Or.inr (wd_33 g)) (by decide) (t := .byte) (t' := (.array .byte)) (by decide) (by decide))))
  have f26 : Fld Z h19 a "java/lang/String" "value" "[B" (.ref b4) := (Fld.same W20 f16)
  refine Go.aloadN (hb hby D_jdk_42_method_149_code_17) (pc' := 18) rfl rfl rfl ?_
  refine Go.ldcStr (n0 := 0) (vs := ([] : List Int32).map Value.int) hnw hown (wd_98 g) g.2.2.1 (g.2.2.2.1 _ (by decide)) (by decide) (hb hby D_jdk_42_method_149_code_18) (pc' := 20) rfl (by decide) (by decide) (by decide) (by decide) ?_
  intro vm27 h28 a29 b30 k31 E32 C33 X34 F35 F36 A37 l38 l39 N40
  have KE32 := Keep.ofExt E32; have zE32 := E32.1
  have f41 : St Z h28 a29 b30 k31 [] := ⟨X34, F35, F36, A37, by decide⟩
  refine Go.getF hown (wd_30 g) Via.refl f41.2.1 (hb hby D_jdk_42_method_149_code_20) (pc' := 23) rfl ?_
  have f42 : Fld Z h28 a "java/lang/String" "coder" "B" (.int 0) := (f25.keep KE32 nin0)
  have f43 : Exa Z h28 a "java/lang/String" := ((f17.keep K21).keep KE32)
  have f44 : Safe Z EL vm27 h28 a := (Safe.to C33 (by omega) (Safe.to C23 (by omega) f18))
  refine Go.putF hown (wd_30 g) Via.refl f42 f43 (Or.inr ⟨(wd_31 g), rfl, hnm⟩) (wd_5 g) (ty := .byte) (by decide) (v' := (.int (nar .byte 0))) rfl (by first | rfl | exact fits_nar_byte _ ) (Or.inr f44) (by omega) (hb hby D_jdk_42_method_149_code_23) (pc' := 26) rfl ?_
  intro h45 W46 z48 K47 C49
  have f50 : Fld Z h28 a "java/lang/String" "value" "[B" (.ref b4) := (f26.keep KE32 nin0)
  have f51 : Fld Z h45 a "java/lang/String" "coder" "B" (.int (nar .byte 0)) := (Fld.same W46 f42)
  have f52 : Fld Z h45 a "java/lang/String" "value" "[B" (.ref b4) := (Fld.other W46 f50 (Or.inr (slot_ne (Or.inr (wd_33 g)) (Or.inr (wd_31 g)) (by decide) (t := (.array .byte)) (t' := .byte) (by decide) (by decide))))
  have f54 : Exa Z h45 a "java/lang/String" := (f43.keep K47)
  have f55 : Ar Z h45 b4 k5 .byte ([].map Value.int) := (((f15.2.2.2.1.keep K21 (ninS (Ne.symm (Ar.ne_exa f15.2.2.2.1 (e0.keep KE6) (wd_5 g))) nin0)).keep KE32 nin0).keep K47 (ninS (Ne.symm (Ar.ne_exa ((f15.2.2.2.1.keep K21 (ninS (Ne.symm (Ar.ne_exa f15.2.2.2.1 (e0.keep KE6) (wd_5 g))) nin0)).keep KE32 nin0) (((e0.keep KE6).keep K21).keep KE32) (wd_5 g))) nin0))
  have f53 : St Z h45 a b4 k5 [] := ⟨f54, f51, f52, f55, by decide⟩
  refine Go.ret hret (hb hby D_jdk_42_method_149_code_26) (by decide) (by decide) ?_
  intro vmR CR
  exact ⟨b4, k5, rfl, (((((Keep.refl h [a]).trans KE6 all0).trans K21 (allS (by first | (left; simp; done) | (right; omega)) all0)).trans KE32 all0).trans K47 (allS (by first | (left; simp; done) | (right; omega)) all0)), f53⟩
set_option maxRecDepth 65536 in
set_option maxHeartbeats 40000000 in
theorem c_strinit0 {l : Launch} {Z : State} {a0 : Array Value} {EL : List (String × Nat)} {nw : Prop} {zc : Int32} {idn : Addr} (g : GH Z a0 EL zc idn) (hnw : ¬ nw) (h : Heap) (a : Addr) (b : Addr) (kb : ClassId) (ga : Z.heap.size ≤ a) (e0 : Exa Z h a "java/lang/String") (e1 : Fld Z h a "java/lang/String" "coder" "B" (.int 0)) (e2 : Fld Z h a "java/lang/String" "value" "[B" .null) (e3 : Ar Z h b kb .char []) (zz : Z.heap.size ≤ h.size) :
    Ct l Z EL nw [] ⟨"java/lang/String", "<init>", "([C)V"⟩ jdk_42_method_3_code 2 none ({ frames := 2, cells := 4, slots := 8, locals := 29 } : Room) #[(.ref a), (.ref b)] h [a] (fun res vm' h' => ∃ d : Addr, ∃ kd : ClassId, res = none ∧ Keep h h' [a] ∧ St Z h' a d kd []) := by
  have ye0 := ltN e0.lt
  have ye1 := ltN e1.lt
  have ye2 := ltN e2.lt
  have ye3 := ltN e3.lt
  refine Ct.of_go (a0 := a0) g.2.1 pn_1 (L0 := #[.val (.ref a), .val (.ref b)]) (fun m => by first | rfl | (simp [entryFrame, mkF, argsToLocals, Value.category, maxLocals]; done)) ?_
  intro p e s m below meth c hown hby hml hret hnm hZ hC hO hsf
  refine Go.aloadN (hb hby D_jdk_42_method_3_code_0) (pc' := 1) rfl rfl rfl ?_
  refine Go.aloadN (hb hby D_jdk_42_method_3_code_1) (pc' := 2) rfl rfl rfl ?_
  refine Go.iconst (hb hby D_jdk_42_method_3_code_2) (pc' := 3) rfl (z := (0 : Int32)) rfl ?_
  refine Go.aloadN (hb hby D_jdk_42_method_3_code_3) (pc' := 4) rfl rfl rfl ?_
  refine Go.alen e3 (z := (0 : Int32)) rfl (hb hby D_jdk_42_method_3_code_4) (pc' := 5) rfl ?_
  refine Go.aconstNull (hb hby D_jdk_42_method_3_code_5) (pc' := 6) rfl ?_
  refine Go.callC (c_strinit40 (l := l) (nw := nw) g hnw h a b (by first | omega | assumption | decide) e0 e1 e2 (by omega)) hown rfl rfl (wd_11 g) (wd_12 g) (wd_14 g) (wd_6 g) (by decide) (argsL := [(.ref b), (.int (0 : Int32)), (.int (0 : Int32)), .null]) (lenOf pd_3 rfl) rfl (by rw [hml]; rfl) (W := 0) rfl (hb hby D_jdk_42_method_3_code_6) (pc' := 9) rfl (by decide) (by decide) (by decide) (by decide) (allS ⟨by omega, (hsf _ (by simp))⟩ all0) ?_
  rintro _ vm1 h1 ⟨d_1, kd_1, rfl, K1, o1_0⟩ C1
  have z1 := K1.1
  have yo1_0 := ltN o1_0.lt; have yo1_0' := ltN o1_0.ltb
  -- pc 9
  refine Go.ret hret (hb hby D_jdk_42_method_3_code_9) (by decide) (by decide) ?_
  intro vmR CR
  exact ⟨d_1, kd_1, rfl, ((Keep.refl h [a]).trans K1 (allS (by first | (left; simp; done) | (right; omega)) all0)), o1_0⟩
set_option maxRecDepth 65536 in
set_option maxHeartbeats 40000000 in
theorem c_text {l : Launch} {Z : State} {a0 : Array Value} {EL : List (String × Nat)} {nw : Prop} {zc : Int32} {idn : Addr} (g : GH Z a0 EL zc idn) (hnw : ¬ nw) (h : Heap) (n : Int32) (p0 : Int32) (zz : Z.heap.size ≤ h.size) :
    Ct l Z EL nw [] ⟨"com/example/bindery/bindery/NamedTokenPinLaw", "text", "(II)Ljava/lang/String;"⟩ method_2_code 5 (some (.object "java/lang/String")) ({ frames := 4, cells := 6, slots := 23, locals := 66 } : Room) #[(.int n), (.int p0)] h [] (fun res vm' h' => ∃ r : Addr, ∃ d : Addr, ∃ kd : ClassId, ∃ bs : List Int32, res = some (.ref r) ∧ Keep h h' [] ∧ St Z h' r d kd bs) := by
  refine Ct.of_go (a0 := a0) g.2.1 pn_2 (L0 := #[.val (.int n), .val (.int p0), .unset, .unset, .unset]) (fun m => by first | rfl | (simp [entryFrame, mkF, argsToLocals, Value.category, maxLocals]; done)) ?_
  intro p e s m below meth c hown hby hml hret hnm hZ hC hO hsf
  refine Go.iloadN (hb hby D_method_2_code_0) (pc' := 1) rfl rfl ?_
  refine Go.sipush (hb hby D_method_2_code_1) (pc' := 4) rfl (z := (255 : Int32)) rfl ?_
  refine Go.iand (hb hby D_method_2_code_4) (pc' := 5) rfl ?_
  refine Go.i2c (hb hby D_method_2_code_5) (pc' := 6) rfl ?_
  rw [nch (m255 p0)]
  refine Go.istoreN (hb hby D_method_2_code_6) (pc' := 7) rfl (L' := #[.val (.int n), .val (.int p0), .val (.int (p0 &&& (255 : Int32))), .unset, .unset]) rfl ?_
  refine Go.iloadN (hb hby D_method_2_code_7) (pc' := 8) rfl rfl ?_
  refine Go.bipush (hb hby D_method_2_code_8) (pc' := 10) rfl (z := (8 : Int32)) rfl ?_
  refine Go.iushr (hb hby D_method_2_code_10) (pc' := 11) rfl ?_
  refine Go.sipush (hb hby D_method_2_code_11) (pc' := 14) rfl (z := (255 : Int32)) rfl ?_
  refine Go.iand (hb hby D_method_2_code_14) (pc' := 15) rfl ?_
  refine Go.i2c (hb hby D_method_2_code_15) (pc' := 16) rfl ?_
  rw [nch (m255 (XT.ushr p0 (8 : Int32)))]
  refine Go.istoreN (hb hby D_method_2_code_16) (pc' := 17) rfl (L' := #[.val (.int n), .val (.int p0), .val (.int (p0 &&& (255 : Int32))), .val (.int ((XT.ushr p0 (8 : Int32)) &&& (255 : Int32))), .unset]) rfl ?_
  refine Go.iloadN (hb hby D_method_2_code_17) (pc' := 18) rfl rfl ?_
  refine Go.bipush (hb hby D_method_2_code_18) (pc' := 20) rfl (z := (16 : Int32)) rfl ?_
  refine Go.iushr (hb hby D_method_2_code_20) (pc' := 21) rfl ?_
  refine Go.sipush (hb hby D_method_2_code_21) (pc' := 24) rfl (z := (255 : Int32)) rfl ?_
  refine Go.iand (hb hby D_method_2_code_24) (pc' := 25) rfl ?_
  refine Go.i2c (hb hby D_method_2_code_25) (pc' := 26) rfl ?_
  rw [nch (m255 (XT.ushr p0 (16 : Int32)))]
  refine Go.istore (hb hby D_method_2_code_26) (pc' := 28) rfl (L' := #[.val (.int n), .val (.int p0), .val (.int (p0 &&& (255 : Int32))), .val (.int ((XT.ushr p0 (8 : Int32)) &&& (255 : Int32))), .val (.int ((XT.ushr p0 (16 : Int32)) &&& (255 : Int32)))]) rfl ?_
  refine Go.iloadN (hb hby D_method_2_code_28) (pc' := 29) rfl rfl ?_
  refine Go.ifc (hb hby D_method_2_code_29) (by decide) (pc' := 43) (by decide) (pc2 := 32) rfl (fun (q29 : ¬ n = (0 : Int32)) => ?_) (fun (q29 : ¬ (¬ n = (0 : Int32))) => ?_)
  · refine Go.iloadN (hb hby D_method_2_code_43) (pc' := 44) rfl rfl ?_
    refine Go.iconst (hb hby D_method_2_code_44) (pc' := 45) rfl (z := (1 : Int32)) rfl ?_
    refine Go.icmp (hb hby D_method_2_code_45) (by decide) (pc' := 63) (by decide) (pc2 := 48) rfl (fun (q45 : ¬ n = (1 : Int32)) => ?_) (fun (q45 : ¬ (¬ n = (1 : Int32))) => ?_)
    · refine Go.iloadN (hb hby D_method_2_code_63) (pc' := 64) rfl rfl ?_
      refine Go.iconst (hb hby D_method_2_code_64) (pc' := 65) rfl (z := (2 : Int32)) rfl ?_
      refine Go.icmp (hb hby D_method_2_code_65) (by decide) (pc' := 87) (by decide) (pc2 := 68) rfl (fun (q65 : ¬ n = (2 : Int32)) => ?_) (fun (q65 : ¬ (¬ n = (2 : Int32))) => ?_)
      · refine Go.newO hown (wd_4 g) (wd_5 g) (wd_6 g) (hb hby D_method_2_code_87) (pc' := 90) rfl (by decide) (by decide) ?_
        intro h1 a2 g3 l4 E5 X6 D7 S8 C9
        have KE5 := Keep.ofExt E5; have zE5 := E5.1
        have f10 : Fld Z h1 a2 "java/lang/String" "coder" "B" (.int 0) := D7 (Or.inr (wd_31 g)) (ty := .byte) (by decide)
        have f11 : Fld Z h1 a2 "java/lang/String" "value" "[B" .null := D7 (Or.inr (wd_33 g)) (ty := (.array .byte)) (by decide)
        refine Go.dup (hb hby D_method_2_code_90) (pc' := 91) rfl rfl ?_
        refine Go.iconst (hb hby D_method_2_code_91) (pc' := 92) rfl (z := (3 : Int32)) rfl ?_
        refine Go.newP (ty := .char) rfl (wd_7 g) (hb hby D_method_2_code_92) (pc' := 94) rfl (by decide) (cap := 3) (by decide) (by decide) (by decide) (by decide) ?_
        intro h12 a13 k14 g15 l16 E17 A18 S19 C20
        have KE17 := Keep.ofExt E17; have zE17 := E17.1
        have A18 : Ar Z h12 a13 k14 .char [(.int 0), (.int 0), (.int 0)] := A18
        refine Go.dup (hb hby D_method_2_code_94) (pc' := 95) rfl rfl ?_
        refine Go.iconst (hb hby D_method_2_code_95) (pc' := 96) rfl (z := (0 : Int32)) rfl ?_
        refine Go.iloadN (hb hby D_method_2_code_96) (pc' := 97) rfl rfl ?_
        refine Go.castore A18 (by decide) (Nat.lt_of_lt_of_eq (by decide : Int32.toNatClampNeg (0 : Int32) < 3) rfl) (by omega) (hb hby D_method_2_code_97) (pc' := 98) rfl ?_
        intro h21 A22 z23 K24 S25 C26
        rw [nch (m255 p0)] at A22
        have A22 : Ar Z h21 a13 k14 .char [(.int (p0 &&& (255 : Int32))), (.int 0), (.int 0)] := A22
        refine Go.dup (hb hby D_method_2_code_98) (pc' := 99) rfl rfl ?_
        refine Go.iconst (hb hby D_method_2_code_99) (pc' := 100) rfl (z := (1 : Int32)) rfl ?_
        refine Go.iloadN (hb hby D_method_2_code_100) (pc' := 101) rfl rfl ?_
        refine Go.castore A22 (by decide) (Nat.lt_of_lt_of_eq (by decide : Int32.toNatClampNeg (1 : Int32) < 3) rfl) (by omega) (hb hby D_method_2_code_101) (pc' := 102) rfl ?_
        intro h27 A28 z29 K30 S31 C32
        rw [nch (m255 (XT.ushr p0 (8 : Int32)))] at A28
        have A28 : Ar Z h27 a13 k14 .char [(.int (p0 &&& (255 : Int32))), (.int ((XT.ushr p0 (8 : Int32)) &&& (255 : Int32))), (.int 0)] := A28
        refine Go.dup (hb hby D_method_2_code_102) (pc' := 103) rfl rfl ?_
        refine Go.iconst (hb hby D_method_2_code_103) (pc' := 104) rfl (z := (2 : Int32)) rfl ?_
        refine Go.iload (hb hby D_method_2_code_104) (pc' := 106) rfl rfl ?_
        refine Go.castore A28 (by decide) (Nat.lt_of_lt_of_eq (by decide : Int32.toNatClampNeg (2 : Int32) < 3) rfl) (by omega) (hb hby D_method_2_code_106) (pc' := 107) rfl ?_
        intro h33 A34 z35 K36 S37 C38
        rw [nch (m255 (XT.ushr p0 (16 : Int32)))] at A34
        have A34 : Ar Z h33 a13 k14 .char [(.int (p0 &&& (255 : Int32))), (.int ((XT.ushr p0 (8 : Int32)) &&& (255 : Int32))), (.int ((XT.ushr p0 (16 : Int32)) &&& (255 : Int32)))] := A34
        have f39 : Exa Z h33 a2 "java/lang/String" := ((((X6.keep KE17).keep K24).keep K30).keep K36)
        have f40 : Fld Z h33 a2 "java/lang/String" "coder" "B" (.int 0) := ((((f10.keep KE17 nin0).keep K24 (ninS (neN (by omega)) nin0)).keep K30 (ninS (neN (by omega)) nin0)).keep K36 (ninS (neN (by omega)) nin0))
        have f41 : Fld Z h33 a2 "java/lang/String" "value" "[B" .null := ((((f11.keep KE17 nin0).keep K24 (ninS (neN (by omega)) nin0)).keep K30 (ninS (neN (by omega)) nin0)).keep K36 (ninS (neN (by omega)) nin0))
        have f42 : Safe Z EL s.vm h33 a2 := (Safe.to C38 (by omega) (Safe.to C32 (by omega) (Safe.to C26 (by omega) (Safe.to C20 (by omega) S8))))
        refine Go.callC (c_strinit (l := l) (nw := nw) g h33 a2 a13 k14 [(p0 &&& (255 : Int32)), ((XT.ushr p0 (8 : Int32)) &&& (255 : Int32)), ((XT.ushr p0 (16 : Int32)) &&& (255 : Int32))] (alS (m255 _) (alS (m255 _) (alS (m255 _) al0))) (by simp) (by simp) (by first | omega | assumption | decide) f39 f40 f41 A34 (by omega)) hown rfl rfl (wd_8 g) (wd_9 g) (wd_10 g) (wd_6 g) (by decide) (argsL := [(.ref a13)]) (lenOf pd_4 rfl) rfl (by rw [hml]; rfl) (W := 1) rfl (hb hby D_method_2_code_107) (pc' := 110) rfl (by decide) (by decide) (by decide) (by decide) (allS ⟨by omega, f42⟩ all0) ?_
        rintro _ vm43 h43 ⟨d_43, kd_43, rfl, K43, p43_0, o43_0⟩ C43
        have z43 := K43.1
        have yo43_0 := ltN o43_0.lt; have yo43_0' := ltN o43_0.ltb
        -- pc 110
        refine Go.retA hret rfl rfl (hb hby D_method_2_code_110) (by decide) (by decide) ?_
        intro vmR CR
        exact ⟨a2, d_43, kd_43, ([(p0 &&& (255 : Int32)), ((XT.ushr p0 (8 : Int32)) &&& (255 : Int32)), ((XT.ushr p0 (16 : Int32)) &&& (255 : Int32))].map by8), (by first | rfl | (simp only [own_nar]; done) | (congr 2; done)), (((((((Keep.refl h []).trans KE5 all0).trans KE17 all0).trans K24 (allS (by first | (left; simp; done) | (right; omega)) all0)).trans K30 (allS (by first | (left; simp; done) | (right; omega)) all0)).trans K36 (allS (by first | (left; simp; done) | (right; omega)) all0)).trans K43 (allS (by first | (left; simp; done) | (right; omega)) all0)), o43_0⟩
      · refine Go.newO hown (wd_4 g) (wd_5 g) (wd_6 g) (hb hby D_method_2_code_68) (pc' := 71) rfl (by decide) (by decide) ?_
        intro h44 a45 g46 l47 E48 X49 D50 S51 C52
        have KE48 := Keep.ofExt E48; have zE48 := E48.1
        have f53 : Fld Z h44 a45 "java/lang/String" "coder" "B" (.int 0) := D50 (Or.inr (wd_31 g)) (ty := .byte) (by decide)
        have f54 : Fld Z h44 a45 "java/lang/String" "value" "[B" .null := D50 (Or.inr (wd_33 g)) (ty := (.array .byte)) (by decide)
        refine Go.dup (hb hby D_method_2_code_71) (pc' := 72) rfl rfl ?_
        refine Go.iconst (hb hby D_method_2_code_72) (pc' := 73) rfl (z := (2 : Int32)) rfl ?_
        refine Go.newP (ty := .char) rfl (wd_7 g) (hb hby D_method_2_code_73) (pc' := 75) rfl (by decide) (cap := 2) (by decide) (by decide) (by decide) (by decide) ?_
        intro h55 a56 k57 g58 l59 E60 A61 S62 C63
        have KE60 := Keep.ofExt E60; have zE60 := E60.1
        have A61 : Ar Z h55 a56 k57 .char [(.int 0), (.int 0)] := A61
        refine Go.dup (hb hby D_method_2_code_75) (pc' := 76) rfl rfl ?_
        refine Go.iconst (hb hby D_method_2_code_76) (pc' := 77) rfl (z := (0 : Int32)) rfl ?_
        refine Go.iloadN (hb hby D_method_2_code_77) (pc' := 78) rfl rfl ?_
        refine Go.castore A61 (by decide) (Nat.lt_of_lt_of_eq (by decide : Int32.toNatClampNeg (0 : Int32) < 2) rfl) (by omega) (hb hby D_method_2_code_78) (pc' := 79) rfl ?_
        intro h64 A65 z66 K67 S68 C69
        rw [nch (m255 p0)] at A65
        have A65 : Ar Z h64 a56 k57 .char [(.int (p0 &&& (255 : Int32))), (.int 0)] := A65
        refine Go.dup (hb hby D_method_2_code_79) (pc' := 80) rfl rfl ?_
        refine Go.iconst (hb hby D_method_2_code_80) (pc' := 81) rfl (z := (1 : Int32)) rfl ?_
        refine Go.iloadN (hb hby D_method_2_code_81) (pc' := 82) rfl rfl ?_
        refine Go.castore A65 (by decide) (Nat.lt_of_lt_of_eq (by decide : Int32.toNatClampNeg (1 : Int32) < 2) rfl) (by omega) (hb hby D_method_2_code_82) (pc' := 83) rfl ?_
        intro h70 A71 z72 K73 S74 C75
        rw [nch (m255 (XT.ushr p0 (8 : Int32)))] at A71
        have A71 : Ar Z h70 a56 k57 .char [(.int (p0 &&& (255 : Int32))), (.int ((XT.ushr p0 (8 : Int32)) &&& (255 : Int32)))] := A71
        have f76 : Exa Z h70 a45 "java/lang/String" := (((X49.keep KE60).keep K67).keep K73)
        have f77 : Fld Z h70 a45 "java/lang/String" "coder" "B" (.int 0) := (((f53.keep KE60 nin0).keep K67 (ninS (neN (by omega)) nin0)).keep K73 (ninS (neN (by omega)) nin0))
        have f78 : Fld Z h70 a45 "java/lang/String" "value" "[B" .null := (((f54.keep KE60 nin0).keep K67 (ninS (neN (by omega)) nin0)).keep K73 (ninS (neN (by omega)) nin0))
        have f79 : Safe Z EL s.vm h70 a45 := (Safe.to C75 (by omega) (Safe.to C69 (by omega) (Safe.to C63 (by omega) S51)))
        refine Go.callC (c_strinit (l := l) (nw := nw) g h70 a45 a56 k57 [(p0 &&& (255 : Int32)), ((XT.ushr p0 (8 : Int32)) &&& (255 : Int32))] (alS (m255 _) (alS (m255 _) al0)) (by simp) (by simp) (by first | omega | assumption | decide) f76 f77 f78 A71 (by omega)) hown rfl rfl (wd_8 g) (wd_9 g) (wd_10 g) (wd_6 g) (by decide) (argsL := [(.ref a56)]) (lenOf pd_4 rfl) rfl (by rw [hml]; rfl) (W := 1) rfl (hb hby D_method_2_code_83) (pc' := 86) rfl (by decide) (by decide) (by decide) (by decide) (allS ⟨by omega, f79⟩ all0) ?_
        rintro _ vm80 h80 ⟨d_80, kd_80, rfl, K80, p80_0, o80_0⟩ C80
        have z80 := K80.1
        have yo80_0 := ltN o80_0.lt; have yo80_0' := ltN o80_0.ltb
        -- pc 86
        refine Go.retA hret rfl rfl (hb hby D_method_2_code_86) (by decide) (by decide) ?_
        intro vmR CR
        exact ⟨a45, d_80, kd_80, ([(p0 &&& (255 : Int32)), ((XT.ushr p0 (8 : Int32)) &&& (255 : Int32))].map by8), (by first | rfl | (simp only [own_nar]; done) | (congr 2; done)), ((((((Keep.refl h []).trans KE48 all0).trans KE60 all0).trans K67 (allS (by first | (left; simp; done) | (right; omega)) all0)).trans K73 (allS (by first | (left; simp; done) | (right; omega)) all0)).trans K80 (allS (by first | (left; simp; done) | (right; omega)) all0)), o80_0⟩
    · refine Go.newO hown (wd_4 g) (wd_5 g) (wd_6 g) (hb hby D_method_2_code_48) (pc' := 51) rfl (by decide) (by decide) ?_
      intro h81 a82 g83 l84 E85 X86 D87 S88 C89
      have KE85 := Keep.ofExt E85; have zE85 := E85.1
      have f90 : Fld Z h81 a82 "java/lang/String" "coder" "B" (.int 0) := D87 (Or.inr (wd_31 g)) (ty := .byte) (by decide)
      have f91 : Fld Z h81 a82 "java/lang/String" "value" "[B" .null := D87 (Or.inr (wd_33 g)) (ty := (.array .byte)) (by decide)
      refine Go.dup (hb hby D_method_2_code_51) (pc' := 52) rfl rfl ?_
      refine Go.iconst (hb hby D_method_2_code_52) (pc' := 53) rfl (z := (1 : Int32)) rfl ?_
      refine Go.newP (ty := .char) rfl (wd_7 g) (hb hby D_method_2_code_53) (pc' := 55) rfl (by decide) (cap := 1) (by decide) (by decide) (by decide) (by decide) ?_
      intro h92 a93 k94 g95 l96 E97 A98 S99 C100
      have KE97 := Keep.ofExt E97; have zE97 := E97.1
      have A98 : Ar Z h92 a93 k94 .char [(.int 0)] := A98
      refine Go.dup (hb hby D_method_2_code_55) (pc' := 56) rfl rfl ?_
      refine Go.iconst (hb hby D_method_2_code_56) (pc' := 57) rfl (z := (0 : Int32)) rfl ?_
      refine Go.iloadN (hb hby D_method_2_code_57) (pc' := 58) rfl rfl ?_
      refine Go.castore A98 (by decide) (Nat.lt_of_lt_of_eq (by decide : Int32.toNatClampNeg (0 : Int32) < 1) rfl) (by omega) (hb hby D_method_2_code_58) (pc' := 59) rfl ?_
      intro h101 A102 z103 K104 S105 C106
      rw [nch (m255 p0)] at A102
      have A102 : Ar Z h101 a93 k94 .char [(.int (p0 &&& (255 : Int32)))] := A102
      have f107 : Exa Z h101 a82 "java/lang/String" := ((X86.keep KE97).keep K104)
      have f108 : Fld Z h101 a82 "java/lang/String" "coder" "B" (.int 0) := ((f90.keep KE97 nin0).keep K104 (ninS (neN (by omega)) nin0))
      have f109 : Fld Z h101 a82 "java/lang/String" "value" "[B" .null := ((f91.keep KE97 nin0).keep K104 (ninS (neN (by omega)) nin0))
      have f110 : Safe Z EL s.vm h101 a82 := (Safe.to C106 (by omega) (Safe.to C100 (by omega) S88))
      refine Go.callC (c_strinit (l := l) (nw := nw) g h101 a82 a93 k94 [(p0 &&& (255 : Int32))] (alS (m255 _) al0) (by simp) (by simp) (by first | omega | assumption | decide) f107 f108 f109 A102 (by omega)) hown rfl rfl (wd_8 g) (wd_9 g) (wd_10 g) (wd_6 g) (by decide) (argsL := [(.ref a93)]) (lenOf pd_4 rfl) rfl (by rw [hml]; rfl) (W := 1) rfl (hb hby D_method_2_code_59) (pc' := 62) rfl (by decide) (by decide) (by decide) (by decide) (allS ⟨by omega, f110⟩ all0) ?_
      rintro _ vm111 h111 ⟨d_111, kd_111, rfl, K111, p111_0, o111_0⟩ C111
      have z111 := K111.1
      have yo111_0 := ltN o111_0.lt; have yo111_0' := ltN o111_0.ltb
      -- pc 62
      refine Go.retA hret rfl rfl (hb hby D_method_2_code_62) (by decide) (by decide) ?_
      intro vmR CR
      exact ⟨a82, d_111, kd_111, ([(p0 &&& (255 : Int32))].map by8), (by first | rfl | (simp only [own_nar]; done) | (congr 2; done)), (((((Keep.refl h []).trans KE85 all0).trans KE97 all0).trans K104 (allS (by first | (left; simp; done) | (right; omega)) all0)).trans K111 (allS (by first | (left; simp; done) | (right; omega)) all0)), o111_0⟩
  · refine Go.newO hown (wd_4 g) (wd_5 g) (wd_6 g) (hb hby D_method_2_code_32) (pc' := 35) rfl (by decide) (by decide) ?_
    intro h112 a113 g114 l115 E116 X117 D118 S119 C120
    have KE116 := Keep.ofExt E116; have zE116 := E116.1
    have f121 : Fld Z h112 a113 "java/lang/String" "coder" "B" (.int 0) := D118 (Or.inr (wd_31 g)) (ty := .byte) (by decide)
    have f122 : Fld Z h112 a113 "java/lang/String" "value" "[B" .null := D118 (Or.inr (wd_33 g)) (ty := (.array .byte)) (by decide)
    refine Go.dup (hb hby D_method_2_code_35) (pc' := 36) rfl rfl ?_
    refine Go.iconst (hb hby D_method_2_code_36) (pc' := 37) rfl (z := (0 : Int32)) rfl ?_
    refine Go.newP (ty := .char) rfl (wd_7 g) (hb hby D_method_2_code_37) (pc' := 39) rfl (by decide) (cap := 0) (by decide) (by decide) (by decide) (by decide) ?_
    intro h123 a124 k125 g126 l127 E128 A129 S130 C131
    have KE128 := Keep.ofExt E128; have zE128 := E128.1
    have A129 : Ar Z h123 a124 k125 .char [] := A129
    have f132 : Exa Z h123 a113 "java/lang/String" := (X117.keep KE128)
    have f133 : Fld Z h123 a113 "java/lang/String" "coder" "B" (.int 0) := (f121.keep KE128 nin0)
    have f134 : Fld Z h123 a113 "java/lang/String" "value" "[B" .null := (f122.keep KE128 nin0)
    have f135 : Safe Z EL s.vm h123 a113 := (Safe.to C131 (by omega) S119)
    refine Go.callC (c_strinit0 (l := l) (nw := nw) g hnw h123 a113 a124 k125 (by first | omega | assumption | decide) f132 f133 f134 A129 (by omega)) hown rfl rfl (wd_8 g) (wd_9 g) (wd_10 g) (wd_6 g) (by decide) (argsL := [(.ref a124)]) (lenOf pd_4 rfl) rfl (by rw [hml]; rfl) (W := 1) rfl (hb hby D_method_2_code_39) (pc' := 42) rfl (by decide) (by decide) (by decide) (by decide) (allS ⟨by omega, f135⟩ all0) ?_
    rintro _ vm136 h136 ⟨d_136, kd_136, rfl, K136, o136_0⟩ C136
    have z136 := K136.1
    have yo136_0 := ltN o136_0.lt; have yo136_0' := ltN o136_0.ltb
    -- pc 42
    refine Go.retA hret rfl rfl (hb hby D_method_2_code_42) (by decide) (by decide) ?_
    intro vmR CR
    exact ⟨a113, d_136, kd_136, [], (by first | rfl | (simp only [own_nar]; done) | (congr 2; done)), ((((Keep.refl h []).trans KE116 all0).trans KE128 all0).trans K136 (allS (by first | (left; simp; done) | (right; omega)) all0)), o136_0⟩
set_option maxRecDepth 65536 in
set_option maxHeartbeats 40000000 in
theorem c_named {l : Launch} {Z : State} {a0 : Array Value} {EL : List (String × Nat)} {nw : Prop} {zc : Int32} {idn : Addr} (g : GH Z a0 EL zc idn) (h : Heap) (a : Addr) (v : Value) (z : Int32) (hv : v.isRef = true) (ga : Z.heap.size ≤ a) (e0 : Exa Z h a "com/example/bindery/bindery/Expr$Variable") (e1 : Fld Z h a "com/example/bindery/bindery/Named" "lexeme" "Ljava/lang/String;" .null) (e2 : Fld Z h a "com/example/bindery/bindery/Named" "line" "I" (.int 0)) (zz : Z.heap.size ≤ h.size) :
    Ct l Z EL nw [] ⟨"com/example/bindery/bindery/Named", "<init>", "(Ljava/lang/String;I)V"⟩ prog_25_method_1_code 3 none ({ frames := 1, cells := 0, slots := 0, locals := 12 } : Room) #[(.ref a), v, (.int z)] h [] (fun res vm' h' => res = none ∧ Keep h h' [a] ∧ Fld Z h' a "com/example/bindery/bindery/Named" "lexeme" "Ljava/lang/String;" v ∧ Fld Z h' a "com/example/bindery/bindery/Named" "line" "I" (.int z)) := by
  have ye0 := ltN e0.lt
  have ye1 := ltN e1.lt
  have ye2 := ltN e2.lt
  refine Ct.of_go (a0 := a0) g.2.1 pn_3 (L0 := #[.val (.ref a), .val v, .val (.int z)]) (fun m => by rcases ref_cases hv with rfl | ⟨_, rfl⟩ <;> first | rfl | (simp [entryFrame, mkF, argsToLocals, Value.category, maxLocals]; done)) ?_
  intro p e s m below meth c hown hby hml hret hnm hZ hC hO hsf
  refine Go.aloadN (hb hby D_prog_25_method_1_code_0) (pc' := 1) rfl rfl rfl ?_
  refine Go.initO hown (wd_45 g) (wd_16 g) (wd_17 g) (by rw [hml]; rfl) (hb hby D_prog_25_method_1_code_1) (by decide) (W := 0) rfl (by decide) (pc' := 4) rfl ?_
  refine Go.aloadN (hb hby D_prog_25_method_1_code_4) (pc' := 5) rfl rfl rfl ?_
  refine Go.aloadN (hb hby D_prog_25_method_1_code_5) (pc' := 6) rfl rfl hv ?_
  refine Go.putF hown (wd_46 g) Via.refl e1 e0 (Or.inr ⟨(wd_47 g), rfl, hnm⟩) (wd_35 g) (ty := (.object "java/lang/String")) (by decide) (narU hv) (fitsU rfl hv) (Or.inl ⟨by decide, by decide⟩) (by omega) (hb hby D_prog_25_method_1_code_6) (pc' := 9) rfl ?_
  intro h1 W2 z4 K3 C5
  have f6 : Fld Z h1 a "com/example/bindery/bindery/Named" "lexeme" "Ljava/lang/String;" v := (Fld.same W2 e1)
  have f7 : Fld Z h1 a "com/example/bindery/bindery/Named" "line" "I" (.int 0) := (Fld.other W2 e2 (Or.inr (slot_ne (Or.inr (wd_49 g)) (Or.inr (wd_47 g)) (by decide) (t := .int) (t' := (.object "java/lang/String")) (by decide) (by decide))))
  refine Go.aloadN (hb hby D_prog_25_method_1_code_9) (pc' := 10) rfl rfl rfl ?_
  refine Go.iloadN (hb hby D_prog_25_method_1_code_10) (pc' := 11) rfl rfl ?_
  have f8 : Exa Z h1 a "com/example/bindery/bindery/Expr$Variable" := (e0.keep K3)
  refine Go.putF hown (wd_48 g) Via.refl f7 f8 (Or.inr ⟨(wd_49 g), rfl, hnm⟩) (wd_35 g) (ty := .int) (by decide) rfl rfl (Or.inl ⟨by decide, by decide⟩) (by omega) (hb hby D_prog_25_method_1_code_11) (pc' := 14) rfl ?_
  intro h9 W10 z12 K11 C13
  have f14 : Fld Z h9 a "com/example/bindery/bindery/Named" "lexeme" "Ljava/lang/String;" v := (Fld.other W10 f6 (Or.inr (slot_ne (Or.inr (wd_47 g)) (Or.inr (wd_49 g)) (by decide) (t := (.object "java/lang/String")) (t' := .int) (by decide) (by decide))))
  have f15 : Fld Z h9 a "com/example/bindery/bindery/Named" "line" "I" (.int z) := (Fld.same W10 f7)
  refine Go.ret hret (hb hby D_prog_25_method_1_code_14) (by decide) (by decide) ?_
  intro vmR CR
  exact ⟨rfl, (((Keep.refl h [a]).trans K3 (allS (by first | (left; simp; done) | (right; omega)) all0)).trans K11 (allS (by first | (left; simp; done) | (right; omega)) all0)), f14, f15⟩
set_option maxRecDepth 65536 in
set_option maxHeartbeats 40000000 in
theorem c_exprvar {l : Launch} {Z : State} {a0 : Array Value} {EL : List (String × Nat)} {nw : Prop} {zc : Int32} {idn : Addr} (g : GH Z a0 EL zc idn) (h : Heap) (a : Addr) (v : Value) (z : Int32) (hv : v.isRef = true) (ga : Z.heap.size ≤ a) (e0 : Exa Z h a "com/example/bindery/bindery/Expr$Variable") (e1 : Fld Z h a "com/example/bindery/bindery/Named" "lexeme" "Ljava/lang/String;" .null) (e2 : Fld Z h a "com/example/bindery/bindery/Named" "line" "I" (.int 0)) (zz : Z.heap.size ≤ h.size) :
    Ct l Z EL nw [] ⟨"com/example/bindery/bindery/Expr$Variable", "<init>", "(Ljava/lang/String;I)V"⟩ prog_14_method_1_code 3 none ({ frames := 2, cells := 0, slots := 0, locals := 26 } : Room) #[(.ref a), v, (.int z)] h [] (fun res vm' h' => res = none ∧ Keep h h' [a] ∧ Fld Z h' a "com/example/bindery/bindery/Named" "lexeme" "Ljava/lang/String;" v ∧ Fld Z h' a "com/example/bindery/bindery/Named" "line" "I" (.int z)) := by
  have ye0 := ltN e0.lt
  have ye1 := ltN e1.lt
  have ye2 := ltN e2.lt
  refine Ct.of_go (a0 := a0) g.2.1 pn_4 (L0 := #[.val (.ref a), .val v, .val (.int z)]) (fun m => by rcases ref_cases hv with rfl | ⟨_, rfl⟩ <;> first | rfl | (simp [entryFrame, mkF, argsToLocals, Value.category, maxLocals]; done)) ?_
  intro p e s m below meth c hown hby hml hret hnm hZ hC hO hsf
  refine Go.aloadN (hb hby D_prog_14_method_1_code_0) (pc' := 1) rfl rfl rfl ?_
  refine Go.aloadN (hb hby D_prog_14_method_1_code_1) (pc' := 2) rfl rfl hv ?_
  refine Go.iloadN (hb hby D_prog_14_method_1_code_2) (pc' := 3) rfl rfl ?_
  refine Go.callC (c_named (l := l) (nw := nw) g h a v z hv (by first | omega | assumption | decide) e0 e1 e2 (by omega)) hown rfl rfl (wd_40 g) (wd_41 g) (wd_44 g) (wd_43 g) (by decide) (argsL := [v, (.int z)]) (lenOf pd_5 rfl) rfl (by rw [hml]; rfl) (W := 0) rfl (hb hby D_prog_14_method_1_code_3) (pc' := 6) rfl (by decide) (by decide) (by decide) (by decide) all0 ?_
  rintro _ vm1 h1 ⟨rfl, K1, o1_0, o1_1⟩ C1
  have z1 := K1.1
  -- pc 6
  refine Go.ret hret (hb hby D_prog_14_method_1_code_6) (by decide) (by decide) ?_
  intro vmR CR
  exact ⟨rfl, ((Keep.refl h [a]).trans K1 (allS (by first | (left; simp; done) | (right; omega)) all0)), o1_0, o1_1⟩
set_option maxRecDepth 65536 in
set_option maxHeartbeats 40000000 in
theorem c_record {l : Launch} {Z : State} {a0 : Array Value} {EL : List (String × Nat)} {nw : Prop} {zc : Int32} {idn : Addr} (g : GH Z a0 EL zc idn) (h : Heap) (a : Addr) (zz : Z.heap.size ≤ h.size) :
    Ct l Z EL nw [] ⟨"java/lang/Record", "<init>", "()V"⟩ jdk_30_method_1_code 1 none ({ frames := 1, cells := 0, slots := 0, locals := 12 } : Room) #[(.ref a)] h [] (fun res vm' h' => res = none ∧ Keep h h' []) := by
  refine Ct.of_go (a0 := a0) g.2.1 pn_5 (L0 := #[.val (.ref a)]) (fun m => by first | rfl | (simp [entryFrame, mkF, argsToLocals, Value.category, maxLocals]; done)) ?_
  intro p e s m below meth c hown hby hml hret hnm hZ hC hO hsf
  refine Go.aloadN (hb hby D_jdk_30_method_1_code_0) (pc' := 1) rfl rfl rfl ?_
  refine Go.initO hown (wd_70 g) (wd_16 g) (wd_17 g) (by rw [hml]; rfl) (hb hby D_jdk_30_method_1_code_1) (by decide) (W := 0) rfl (by decide) (pc' := 4) rfl ?_
  refine Go.ret hret (hb hby D_jdk_30_method_1_code_4) (by decide) (by decide) ?_
  intro vmR CR
  exact ⟨rfl, (Keep.refl h [])⟩
set_option maxRecDepth 65536 in
set_option maxHeartbeats 40000000 in
theorem c_token {l : Launch} {Z : State} {a0 : Array Value} {EL : List (String × Nat)} {nw : Prop} {zc : Int32} {idn : Addr} (g : GH Z a0 EL zc idn) (h : Heap) (a : Addr) (t : Value) (v : Value) (z : Int32) (ht : t.isRef = true) (hv : v.isRef = true) (ga : Z.heap.size ≤ a) (e0 : Exa Z h a "com/example/bindery/bindery/Token") (e1 : Fld Z h a "com/example/bindery/bindery/Token" "type" "Lcom/example/bindery/bindery/TokenType;" .null) (e2 : Fld Z h a "com/example/bindery/bindery/Token" "lexeme" "Ljava/lang/String;" .null) (e3 : Fld Z h a "com/example/bindery/bindery/Token" "line" "I" (.int 0)) (zz : Z.heap.size ≤ h.size) :
    Ct l Z EL nw [] ⟨"com/example/bindery/bindery/Token", "<init>", "(Lcom/example/bindery/bindery/TokenType;Ljava/lang/String;I)V"⟩ prog_47_method_1_code 4 none ({ frames := 2, cells := 0, slots := 0, locals := 24 } : Room) #[(.ref a), t, v, (.int z)] h [] (fun res vm' h' => res = none ∧ Keep h h' [a] ∧ Fld Z h' a "com/example/bindery/bindery/Token" "type" "Lcom/example/bindery/bindery/TokenType;" t ∧ Fld Z h' a "com/example/bindery/bindery/Token" "lexeme" "Ljava/lang/String;" v ∧ Fld Z h' a "com/example/bindery/bindery/Token" "line" "I" (.int z)) := by
  have ye0 := ltN e0.lt
  have ye1 := ltN e1.lt
  have ye2 := ltN e2.lt
  have ye3 := ltN e3.lt
  refine Ct.of_go (a0 := a0) g.2.1 pn_6 (L0 := #[.val (.ref a), .val t, .val v, .val (.int z)]) (fun m => by rcases ref_cases ht with rfl | ⟨_, rfl⟩ <;> rcases ref_cases hv with rfl | ⟨_, rfl⟩ <;> first | rfl | (simp [entryFrame, mkF, argsToLocals, Value.category, maxLocals]; done)) ?_
  intro p e s m below meth c hown hby hml hret hnm hZ hC hO hsf
  refine Go.aloadN (hb hby D_prog_47_method_1_code_0) (pc' := 1) rfl rfl rfl ?_
  refine Go.callC (c_record (l := l) (nw := nw) g h a (by omega)) hown rfl rfl (wd_65 g) (wd_66 g) (wd_69 g) (wd_68 g) (by decide) (argsL := []) (lenOf pd_6 rfl) rfl (by rw [hml]; rfl) (W := 0) rfl (hb hby D_prog_47_method_1_code_1) (pc' := 4) rfl (by decide) (by decide) (by decide) (by decide) all0 ?_
  rintro _ vm1 h1 ⟨rfl, K1⟩ C1
  have z1 := K1.1
  -- pc 4
  refine Go.aloadN (hb hby D_prog_47_method_1_code_4) (pc' := 5) rfl rfl rfl ?_
  refine Go.aloadN (hb hby D_prog_47_method_1_code_5) (pc' := 6) rfl rfl ht ?_
  have f2 : Fld Z h1 a "com/example/bindery/bindery/Token" "type" "Lcom/example/bindery/bindery/TokenType;" .null := (e1.keep K1 nin0)
  have f3 : Exa Z h1 a "com/example/bindery/bindery/Token" := (e0.keep K1)
  refine Go.putF hown (wd_71 g) Via.refl f2 f3 (Or.inr ⟨(wd_72 g), rfl, hnm⟩) (wd_57 g) (ty := (.object "com/example/bindery/bindery/TokenType")) (by decide) (narU ht) (fitsU rfl ht) (Or.inl ⟨by decide, by decide⟩) (by omega) (hb hby D_prog_47_method_1_code_6) (pc' := 9) rfl ?_
  intro h4 W5 z7 K6 C8
  have f9 : Fld Z h1 a "com/example/bindery/bindery/Token" "lexeme" "Ljava/lang/String;" .null := (e2.keep K1 nin0)
  have f10 : Fld Z h1 a "com/example/bindery/bindery/Token" "line" "I" (.int 0) := (e3.keep K1 nin0)
  have f11 : Fld Z h4 a "com/example/bindery/bindery/Token" "type" "Lcom/example/bindery/bindery/TokenType;" t := (Fld.same W5 f2)
  have f12 : Fld Z h4 a "com/example/bindery/bindery/Token" "lexeme" "Ljava/lang/String;" .null := (Fld.other W5 f9 (Or.inr (slot_ne (Or.inr (wd_74 g)) (Or.inr (wd_72 g)) (by decide) (t := (.object "java/lang/String")) (t' := (.object "com/example/bindery/bindery/TokenType")) (by decide) (by decide))))
  have f13 : Fld Z h4 a "com/example/bindery/bindery/Token" "line" "I" (.int 0) := (Fld.other W5 f10 (Or.inr (slot_ne (Or.inr (wd_76 g)) (Or.inr (wd_72 g)) (by decide) (t := .int) (t' := (.object "com/example/bindery/bindery/TokenType")) (by decide) (by decide))))
  refine Go.aloadN (hb hby D_prog_47_method_1_code_9) (pc' := 10) rfl rfl rfl ?_
  refine Go.aloadN (hb hby D_prog_47_method_1_code_10) (pc' := 11) rfl rfl hv ?_
  have f14 : Exa Z h4 a "com/example/bindery/bindery/Token" := (f3.keep K6)
  refine Go.putF hown (wd_73 g) Via.refl f12 f14 (Or.inr ⟨(wd_74 g), rfl, hnm⟩) (wd_57 g) (ty := (.object "java/lang/String")) (by decide) (narU hv) (fitsU rfl hv) (Or.inl ⟨by decide, by decide⟩) (by omega) (hb hby D_prog_47_method_1_code_11) (pc' := 14) rfl ?_
  intro h15 W16 z18 K17 C19
  have f20 : Fld Z h15 a "com/example/bindery/bindery/Token" "type" "Lcom/example/bindery/bindery/TokenType;" t := (Fld.other W16 f11 (Or.inr (slot_ne (Or.inr (wd_72 g)) (Or.inr (wd_74 g)) (by decide) (t := (.object "com/example/bindery/bindery/TokenType")) (t' := (.object "java/lang/String")) (by decide) (by decide))))
  have f21 : Fld Z h15 a "com/example/bindery/bindery/Token" "lexeme" "Ljava/lang/String;" v := (Fld.same W16 f12)
  have f22 : Fld Z h15 a "com/example/bindery/bindery/Token" "line" "I" (.int 0) := (Fld.other W16 f13 (Or.inr (slot_ne (Or.inr (wd_76 g)) (Or.inr (wd_74 g)) (by decide) (t := .int) (t' := (.object "java/lang/String")) (by decide) (by decide))))
  refine Go.aloadN (hb hby D_prog_47_method_1_code_14) (pc' := 15) rfl rfl rfl ?_
  refine Go.iloadN (hb hby D_prog_47_method_1_code_15) (pc' := 16) rfl rfl ?_
  have f23 : Exa Z h15 a "com/example/bindery/bindery/Token" := (f14.keep K17)
  refine Go.putF hown (wd_75 g) Via.refl f22 f23 (Or.inr ⟨(wd_76 g), rfl, hnm⟩) (wd_57 g) (ty := .int) (by decide) rfl rfl (Or.inl ⟨by decide, by decide⟩) (by omega) (hb hby D_prog_47_method_1_code_16) (pc' := 19) rfl ?_
  intro h24 W25 z27 K26 C28
  have f29 : Fld Z h24 a "com/example/bindery/bindery/Token" "type" "Lcom/example/bindery/bindery/TokenType;" t := (Fld.other W25 f20 (Or.inr (slot_ne (Or.inr (wd_72 g)) (Or.inr (wd_76 g)) (by decide) (t := (.object "com/example/bindery/bindery/TokenType")) (t' := .int) (by decide) (by decide))))
  have f30 : Fld Z h24 a "com/example/bindery/bindery/Token" "lexeme" "Ljava/lang/String;" v := (Fld.other W25 f21 (Or.inr (slot_ne (Or.inr (wd_74 g)) (Or.inr (wd_76 g)) (by decide) (t := (.object "java/lang/String")) (t' := .int) (by decide) (by decide))))
  have f31 : Fld Z h24 a "com/example/bindery/bindery/Token" "line" "I" (.int z) := (Fld.same W25 f22)
  refine Go.ret hret (hb hby D_prog_47_method_1_code_19) (by decide) (by decide) ?_
  intro vmR CR
  exact ⟨rfl, (((((Keep.refl h [a]).trans K1 all0).trans K6 (allS (by first | (left; simp; done) | (right; omega)) all0)).trans K17 (allS (by first | (left; simp; done) | (right; omega)) all0)).trans K26 (allS (by first | (left; simp; done) | (right; omega)) all0)), f29, f30, f31⟩
set_option maxRecDepth 65536 in
set_option maxHeartbeats 40000000 in
theorem c_tokenOf {l : Launch} {Z : State} {a0 : Array Value} {EL : List (String × Nat)} {nw : Prop} {zc : Int32} {idn : Addr} (g : GH Z a0 EL zc idn) (h : Heap) (a : Addr) (v : Value) (z : Int32) (hv : v.isRef = true) (e0 : Exa Z h a "com/example/bindery/bindery/Expr$Variable") (e1 : Fld Z h a "com/example/bindery/bindery/Named" "lexeme" "Ljava/lang/String;" v) (e2 : Fld Z h a "com/example/bindery/bindery/Named" "line" "I" (.int z)) (zz : Z.heap.size ≤ h.size) :
    Ct l Z EL nw [] ⟨"com/example/bindery/bindery/Named", "token", "()Lcom/example/bindery/bindery/Token;"⟩ prog_25_method_4_code 1 (some (.object "com/example/bindery/bindery/Token")) ({ frames := 3, cells := 1, slots := 3, locals := 40 } : Room) #[(.ref a)] h [] (fun res vm' h' => ∃ r : Addr, res = some (.ref r) ∧ Keep h h' [] ∧ Exa Z h' r "com/example/bindery/bindery/Token" ∧ Fld Z h' r "com/example/bindery/bindery/Token" "type" "Lcom/example/bindery/bindery/TokenType;" (.ref idn) ∧ Fld Z h' r "com/example/bindery/bindery/Token" "lexeme" "Ljava/lang/String;" v ∧ Fld Z h' r "com/example/bindery/bindery/Token" "line" "I" (.int z)) := by
  have ye0 := ltN e0.lt
  have ye1 := ltN e1.lt
  have ye2 := ltN e2.lt
  refine Ct.of_go (a0 := a0) g.2.1 pn_3 (L0 := #[.val (.ref a)]) (fun m => by first | rfl | (simp [entryFrame, mkF, argsToLocals, Value.category, maxLocals]; done)) ?_
  intro p e s m below meth c hown hby hml hret hnm hZ hC hO hsf
  refine Go.newO hown (wd_56 g) (wd_57 g) (wd_58 g) (hb hby D_prog_25_method_4_code_0) (pc' := 3) rfl (by decide) (by decide) ?_
  intro h1 a2 g3 l4 E5 X6 D7 S8 C9
  have KE5 := Keep.ofExt E5; have zE5 := E5.1
  have f10 : Fld Z h1 a2 "com/example/bindery/bindery/Token" "type" "Lcom/example/bindery/bindery/TokenType;" .null := D7 (Or.inr (wd_72 g)) (ty := (.object "com/example/bindery/bindery/TokenType")) (by decide)
  have f11 : Fld Z h1 a2 "com/example/bindery/bindery/Token" "lexeme" "Ljava/lang/String;" .null := D7 (Or.inr (wd_74 g)) (ty := (.object "java/lang/String")) (by decide)
  have f12 : Fld Z h1 a2 "com/example/bindery/bindery/Token" "line" "I" (.int 0) := D7 (Or.inr (wd_76 g)) (ty := .int) (by decide)
  refine Go.dup (hb hby D_prog_25_method_4_code_3) (pc' := 4) rfl rfl ?_
  refine Go.getS hown (wd_59 g) Via.refl g.2.2.2.2.2.2 (hb hby D_prog_25_method_4_code_4) (pc' := 7) rfl ?_
  refine Go.aloadN (hb hby D_prog_25_method_4_code_7) (pc' := 8) rfl rfl rfl ?_
  have f13 : Fld Z h1 a "com/example/bindery/bindery/Named" "lexeme" "Ljava/lang/String;" v := (e1.keep KE5 nin0)
  refine Go.getF hown (wd_46 g) Via.refl f13 (hb hby D_prog_25_method_4_code_8) (pc' := 11) rfl ?_
  refine Go.aloadN (hb hby D_prog_25_method_4_code_11) (pc' := 12) rfl rfl rfl ?_
  have f14 : Fld Z h1 a "com/example/bindery/bindery/Named" "line" "I" (.int z) := (e2.keep KE5 nin0)
  refine Go.getF hown (wd_48 g) Via.refl f14 (hb hby D_prog_25_method_4_code_12) (pc' := 15) rfl ?_
  refine Go.callC (c_token (l := l) (nw := nw) g h1 a2 (.ref idn) v z rfl (by assumption) (by first | omega | assumption | decide) X6 f10 f11 f12 (by omega)) hown rfl rfl (wd_62 g) (wd_63 g) (wd_64 g) (wd_58 g) (by decide) (argsL := [(.ref idn), v, (.int z)]) (lenOf pd_7 rfl) rfl (by rw [hml]; rfl) (W := 1) rfl (hb hby D_prog_25_method_4_code_15) (pc' := 18) rfl (by decide) (by decide) (by decide) (by decide) all0 ?_
  rintro _ vm15 h15 ⟨rfl, K15, o15_0, o15_1, o15_2⟩ C15
  have z15 := K15.1
  -- pc 18
  have f16 : Exa Z h15 a2 "com/example/bindery/bindery/Token" := (X6.keep K15)
  refine Go.retA hret rfl rfl (hb hby D_prog_25_method_4_code_18) (by decide) (by decide) ?_
  intro vmR CR
  exact ⟨a2, (by first | rfl | (simp only [own_nar]; done) | (congr 2; done)), (((Keep.refl h []).trans KE5 all0).trans K15 (allS (by first | (left; simp; done) | (right; omega)) all0)), f16, o15_0, o15_1, o15_2⟩
set_option maxRecDepth 65536 in
set_option maxHeartbeats 40000000 in
theorem c_ttype {l : Launch} {Z : State} {a0 : Array Value} {EL : List (String × Nat)} {nw : Prop} {zc : Int32} {idn : Addr} (g : GH Z a0 EL zc idn) (h : Heap) (a : Addr) (v : Value) (hv : v.isRef = true) (e0 : Fld Z h a "com/example/bindery/bindery/Token" "type" "Lcom/example/bindery/bindery/TokenType;" v) (zz : Z.heap.size ≤ h.size) :
    Ct l Z EL nw [] ⟨"com/example/bindery/bindery/Token", "type", "()Lcom/example/bindery/bindery/TokenType;"⟩ prog_47_method_5_code 1 (some (.object "com/example/bindery/bindery/TokenType")) ({ frames := 0, cells := 0, slots := 0, locals := 0 } : Room) #[(.ref a)] h [] (fun res vm' h' => res = some v ∧ Keep h h' []) := by
  have ye0 := ltN e0.lt
  refine Ct.of_go (a0 := a0) g.2.1 pn_6 (L0 := #[.val (.ref a)]) (fun m => by first | rfl | (simp [entryFrame, mkF, argsToLocals, Value.category, maxLocals]; done)) ?_
  intro p e s m below meth c hown hby hml hret hnm hZ hC hO hsf
  refine Go.aloadN (hb hby D_prog_47_method_5_code_0) (pc' := 1) rfl rfl rfl ?_
  refine Go.getF hown (wd_71 g) Via.refl e0 (hb hby D_prog_47_method_5_code_1) (pc' := 4) rfl ?_
  refine Go.retA hret rfl (by assumption) (hb hby D_prog_47_method_5_code_4) (by decide) (by decide) ?_
  intro vmR CR
  exact ⟨(by first | rfl | (simp only [own_nar]; done) | (congr 2; done)), (Keep.refl h [])⟩
set_option maxRecDepth 65536 in
set_option maxHeartbeats 40000000 in
theorem c_tlexeme {l : Launch} {Z : State} {a0 : Array Value} {EL : List (String × Nat)} {nw : Prop} {zc : Int32} {idn : Addr} (g : GH Z a0 EL zc idn) (h : Heap) (a : Addr) (v : Value) (hv : v.isRef = true) (e0 : Fld Z h a "com/example/bindery/bindery/Token" "lexeme" "Ljava/lang/String;" v) (zz : Z.heap.size ≤ h.size) :
    Ct l Z EL nw [] ⟨"com/example/bindery/bindery/Token", "lexeme", "()Ljava/lang/String;"⟩ prog_47_method_6_code 1 (some (.object "java/lang/String")) ({ frames := 0, cells := 0, slots := 0, locals := 0 } : Room) #[(.ref a)] h [] (fun res vm' h' => res = some v ∧ Keep h h' []) := by
  have ye0 := ltN e0.lt
  refine Ct.of_go (a0 := a0) g.2.1 pn_6 (L0 := #[.val (.ref a)]) (fun m => by first | rfl | (simp [entryFrame, mkF, argsToLocals, Value.category, maxLocals]; done)) ?_
  intro p e s m below meth c hown hby hml hret hnm hZ hC hO hsf
  refine Go.aloadN (hb hby D_prog_47_method_6_code_0) (pc' := 1) rfl rfl rfl ?_
  refine Go.getF hown (wd_73 g) Via.refl e0 (hb hby D_prog_47_method_6_code_1) (pc' := 4) rfl ?_
  refine Go.retA hret rfl (by assumption) (hb hby D_prog_47_method_6_code_4) (by decide) (by decide) ?_
  intro vmR CR
  exact ⟨(by first | rfl | (simp only [own_nar]; done) | (congr 2; done)), (Keep.refl h [])⟩
set_option maxRecDepth 65536 in
set_option maxHeartbeats 40000000 in
theorem c_tline {l : Launch} {Z : State} {a0 : Array Value} {EL : List (String × Nat)} {nw : Prop} {zc : Int32} {idn : Addr} (g : GH Z a0 EL zc idn) (h : Heap) (a : Addr) (z : Int32) (e0 : Fld Z h a "com/example/bindery/bindery/Token" "line" "I" (.int z)) (zz : Z.heap.size ≤ h.size) :
    Ct l Z EL nw [] ⟨"com/example/bindery/bindery/Token", "line", "()I"⟩ prog_47_method_7_code 1 (some .int) ({ frames := 0, cells := 0, slots := 0, locals := 0 } : Room) #[(.ref a)] h [] (fun res vm' h' => res = some (.int z) ∧ Keep h h' []) := by
  have ye0 := ltN e0.lt
  refine Ct.of_go (a0 := a0) g.2.1 pn_6 (L0 := #[.val (.ref a)]) (fun m => by first | rfl | (simp [entryFrame, mkF, argsToLocals, Value.category, maxLocals]; done)) ?_
  intro p e s m below meth c hown hby hml hret hnm hZ hC hO hsf
  refine Go.aloadN (hb hby D_prog_47_method_7_code_0) (pc' := 1) rfl rfl rfl ?_
  refine Go.getF hown (wd_75 g) Via.refl e0 (hb hby D_prog_47_method_7_code_1) (pc' := 4) rfl ?_
  refine Go.retI hret (hb hby D_prog_47_method_7_code_4) (by decide) (by decide) ?_
  intro vmR CR
  exact ⟨(by first | rfl | (simp only [own_nar]; done) | (congr 2; done)), (Keep.refl h [])⟩
set_option maxRecDepth 65536 in
set_option maxHeartbeats 40000000 in
theorem c_eqsame {l : Launch} {Z : State} {a0 : Array Value} {EL : List (String × Nat)} {nw : Prop} {zc : Int32} {idn : Addr} (g : GH Z a0 EL zc idn) (h : Heap) (a : Addr) (zz : Z.heap.size ≤ h.size) :
    Ct l Z EL nw [] ⟨"java/lang/String", "equals", "(Ljava/lang/Object;)Z"⟩ jdk_42_method_66_code 3 (some .boolean) ({ frames := 0, cells := 0, slots := 0, locals := 0 } : Room) #[(.ref a), (.ref a)] h [] (fun res vm' h' => res = some (.int (1 : Int32)) ∧ Keep h h' []) := by
  refine Ct.of_go (a0 := a0) g.2.1 pn_1 (L0 := #[.val (.ref a), .val (.ref a), .unset]) (fun m => by first | rfl | (simp [entryFrame, mkF, argsToLocals, Value.category, maxLocals]; done)) ?_
  intro p e s m below meth c hown hby hml hret hnm hZ hC hO hsf
  refine Go.aloadN (hb hby D_jdk_42_method_66_code_0) (pc' := 1) rfl rfl rfl ?_
  refine Go.aloadN (hb hby D_jdk_42_method_66_code_1) (pc' := 2) rfl rfl rfl ?_
  refine Go.acmpN (hb hby D_jdk_42_method_66_code_2) (pc' := 5) rfl rfl rfl (by simp [XT.acmp]) ?_
  refine Go.iconst (hb hby D_jdk_42_method_66_code_5) (pc' := 6) rfl (z := (1 : Int32)) rfl ?_
  refine Go.retN (t := .boolean) hret (by simp) (hb hby D_jdk_42_method_66_code_6) (by decide) (by decide) ?_
  intro vmR CR
  exact ⟨(by first | rfl | (simp only [own_nar]; done) | (congr 2; done)), (Keep.refl h [])⟩
set_option maxRecDepth 65536 in
set_option maxHeartbeats 40000000 in
theorem c_law {l : Launch} {Z : State} {a0 : Array Value} {EL : List (String × Nat)} {nw : Prop} {zc : Int32} {idn : Addr} (g : GH Z a0 EL zc idn) (hnw : ¬ nw) (ws : List Jvm.Cond) (h : Heap) (i0 : Int32) (i1 : Int32) (i2 : Int32) (zz : Z.heap.size ≤ h.size) :
    Ct l Z EL nw ws x code maxLocals ret room_1 #[(.int i0), (.int i1), (.int i2)] h [] (fun res vm' h' => res = some (.int (1 : Int32)) ∧ Keep h h' []) := by
  refine Ct.of_go (a0 := a0) g.2.1 pn_2 (L0 := #[.val (.int i0), .val (.int i1), .val (.int i2), .unset, .unset, .unset, .unset]) (fun m => by first | rfl | (simp [entryFrame, mkF, argsToLocals, Value.category, maxLocals]; done)) ?_
  intro p e s m below meth c hown hby hml hret hnm hZ hC hO hsf
  refine Go.iloadN (hb hby at_0) (pc' := 1) rfl rfl ?_
  refine Go.iconst (hb hby at_1) (pc' := 2) rfl (z := (3 : Int32)) rfl ?_
  refine Go.iand (hb hby at_2) (pc' := 3) rfl ?_
  refine Go.istoreN (hb hby at_3) (pc' := 4) rfl (L' := #[.val (.int i0), .val (.int i1), .val (.int i2), .val (.int (i1 &&& (3 : Int32))), .unset, .unset, .unset]) rfl ?_
  refine Go.iloadN (hb hby at_4) (pc' := 5) rfl rfl ?_
  refine Go.iloadN (hb hby at_5) (pc' := 6) rfl rfl ?_
  refine Go.callS (c_text (l := l) (nw := nw) g hnw h (i1 &&& (3 : Int32)) i0 (by omega)) hown (wd_0 g) (wd_1 g) (wd_3 g) (wd_2 g) (by decide) (argsL := [(.int (i1 &&& (3 : Int32))), (.int i0)]) (lenOf pd_8 rfl) rfl (by rw [hml]; rfl) (W := 0) rfl (hb hby at_6) (pc' := 9) rfl (by decide) (by decide) (by decide) (by decide) all0 ?_
  rintro _ vm1 h1 ⟨r_1, d_1, kd_1, bs_1, rfl, K1, o1_0⟩ C1
  have z1 := K1.1
  have yo1_0 := ltN o1_0.lt; have yo1_0' := ltN o1_0.ltb
  -- pc 9
  refine Go.astore (hb hby at_9) (pc' := 11) rfl rfl (L' := #[.val (.int i0), .val (.int i1), .val (.int i2), .val (.int (i1 &&& (3 : Int32))), .val (.ref r_1), .unset, .unset]) rfl ?_
  refine Go.newO hown (wd_34 g) (wd_35 g) (wd_36 g) (hb hby at_11) (pc' := 14) rfl (by decide) (by decide) ?_
  intro h2 a3 g4 l5 E6 X7 D8 S9 C10
  have KE6 := Keep.ofExt E6; have zE6 := E6.1
  have f11 : Fld Z h2 a3 "com/example/bindery/bindery/Named" "lexeme" "Ljava/lang/String;" .null := D8 (Or.inr (wd_47 g)) (ty := (.object "java/lang/String")) (by decide)
  have f12 : Fld Z h2 a3 "com/example/bindery/bindery/Named" "line" "I" (.int 0) := D8 (Or.inr (wd_49 g)) (ty := .int) (by decide)
  refine Go.dup (hb hby at_14) (pc' := 15) rfl rfl ?_
  refine Go.aload (hb hby at_15) (pc' := 17) rfl rfl rfl ?_
  refine Go.iloadN (hb hby at_17) (pc' := 18) rfl rfl ?_
  refine Go.callC (c_exprvar (l := l) (nw := nw) g h2 a3 (.ref r_1) i2 rfl (by first | omega | assumption | decide) X7 f11 f12 (by omega)) hown rfl rfl (wd_37 g) (wd_38 g) (wd_39 g) (wd_36 g) (by decide) (argsL := [(.ref r_1), (.int i2)]) (lenOf pd_5 rfl) rfl (by rw [hml]; rfl) (W := 1) rfl (hb hby at_18) (pc' := 21) rfl (by decide) (by decide) (by decide) (by decide) all0 ?_
  rintro _ vm13 h13 ⟨rfl, K13, o13_0, o13_1⟩ C13
  have z13 := K13.1
  -- pc 21
  refine Go.astore (hb hby at_21) (pc' := 23) rfl rfl (L' := #[.val (.int i0), .val (.int i1), .val (.int i2), .val (.int (i1 &&& (3 : Int32))), .val (.ref r_1), .val (.ref a3), .unset]) rfl ?_
  refine Go.aload (hb hby at_23) (pc' := 25) rfl rfl rfl ?_
  have f14 : Exa Z h13 a3 "com/example/bindery/bindery/Expr$Variable" := (X7.keep K13)
  refine Go.callVU (y0 := ⟨"com/example/bindery/bindery/Expr$Variable", "token", "()Lcom/example/bindery/bindery/Token;"⟩) (c_tokenOf (l := l) (nw := nw) g h13 a3 (.ref r_1) i2 rfl f14 o13_0 o13_1 (by omega)) hown (wd_50 g) (wd_51 g) (wd_52 g) (wd_54 g) (wd_53 g) f14 (wd_55 g) (wd_43 g) (by decide) (argsL := []) (lenOf pd_9 rfl) rfl (by rw [hml]; rfl) (W := 0) rfl (hb hby at_25) (pc' := 28) rfl (by decide) (by decide) (by decide) (by decide) all0 ?_
  rintro _ vm15 h15 ⟨r_15, rfl, K15, o15_0, o15_1, o15_2, o15_3⟩ C15
  have z15 := K15.1
  have yo15_0 := ltN o15_0.lt
  -- pc 28
  refine Go.astore (hb hby at_28) (pc' := 30) rfl rfl (L' := #[.val (.int i0), .val (.int i1), .val (.int i2), .val (.int (i1 &&& (3 : Int32))), .val (.ref r_1), .val (.ref a3), .val (.ref r_15)]) rfl ?_
  refine Go.aload (hb hby at_30) (pc' := 32) rfl rfl rfl ?_
  refine Go.ifnonnullY (hb hby at_32) (by decide) (pc' := 37) (by decide) ?_
  refine Go.aload (hb hby at_37) (pc' := 39) rfl rfl rfl ?_
  refine Go.callV (y0 := ⟨"com/example/bindery/bindery/Token", "type", "()Lcom/example/bindery/bindery/TokenType;"⟩) (c_ttype (l := l) (nw := nw) g h15 r_15 (.ref idn) rfl o15_1 (by omega)) hown (wd_77 g) (wd_78 g) (notFace_of_selects (wd_80 g)) (wd_80 g) (wd_79 g) o15_0 (wd_81 g) (wd_58 g) (by decide) (argsL := []) (lenOf pd_10 rfl) rfl (by rw [hml]; rfl) (W := 0) rfl (hb hby at_39) (pc' := 42) rfl (by decide) (by decide) (by decide) (by decide) all0 ?_
  rintro _ vm16 h16 ⟨rfl, K16⟩ C16
  have z16 := K16.1
  -- pc 42
  refine Go.getS hown (wd_82 g) Via.refl g.2.2.2.2.2.2 (hb hby at_42) (pc' := 45) rfl ?_
  refine Go.acmpN (hb hby at_45) (pc' := 48) rfl rfl rfl (by simp [XT.acmp]) ?_
  refine Go.aload (hb hby at_48) (pc' := 50) rfl rfl rfl ?_
  refine Go.aload (hb hby at_50) (pc' := 52) rfl rfl rfl ?_
  have f17 : Fld Z h16 r_15 "com/example/bindery/bindery/Token" "lexeme" "Ljava/lang/String;" (.ref r_1) := (o15_2.keep K16 nin0)
  have f18 : Exa Z h16 r_15 "com/example/bindery/bindery/Token" := (o15_0.keep K16)
  refine Go.callV (y0 := ⟨"com/example/bindery/bindery/Token", "lexeme", "()Ljava/lang/String;"⟩) (c_tlexeme (l := l) (nw := nw) g h16 r_15 (.ref r_1) rfl f17 (by omega)) hown (wd_83 g) (wd_84 g) (notFace_of_selects (wd_86 g)) (wd_86 g) (wd_85 g) f18 (wd_87 g) (wd_58 g) (by decide) (argsL := []) (lenOf pd_11 rfl) rfl (by rw [hml]; rfl) (W := 1) rfl (hb hby at_52) (pc' := 55) rfl (by decide) (by decide) (by decide) (by decide) all0 ?_
  rintro _ vm19 h19 ⟨rfl, K19⟩ C19
  have z19 := K19.1
  -- pc 55
  have f20 : Exa Z h19 r_1 "java/lang/String" := (((((o1_0.1.keep KE6).keep K13).keep K15).keep K16).keep K19)
  refine Go.callV (y0 := ⟨"java/lang/String", "equals", "(Ljava/lang/Object;)Z"⟩) (c_eqsame (l := l) (nw := nw) g h19 r_1 (by omega)) hown (wd_88 g) (wd_89 g) (notFace_of_selects (wd_91 g)) (wd_91 g) (wd_90 g) f20 (wd_92 g) (wd_6 g) (by decide) (argsL := [(.ref r_1)]) (lenOf pd_12 rfl) rfl (by rw [hml]; rfl) (W := 0) rfl (hb hby at_55) (pc' := 58) rfl (by decide) (by decide) (by decide) (by decide) all0 ?_
  rintro _ vm21 h21 ⟨rfl, K21⟩ C21
  have z21 := K21.1
  -- pc 58
  refine Go.ifN (hb hby at_58) (pc' := 61) rfl (show ¬ ((1 : Int32) = (0 : Int32)) from by decide) ?_
  refine Go.aload (hb hby at_61) (pc' := 63) rfl rfl rfl ?_
  have f22 : Fld Z h21 r_15 "com/example/bindery/bindery/Token" "line" "I" (.int i2) := (((o15_3.keep K16 nin0).keep K19 nin0).keep K21 nin0)
  have f23 : Exa Z h21 r_15 "com/example/bindery/bindery/Token" := ((f18.keep K19).keep K21)
  refine Go.callV (y0 := ⟨"com/example/bindery/bindery/Token", "line", "()I"⟩) (c_tline (l := l) (nw := nw) g h21 r_15 i2 f22 (by omega)) hown (wd_93 g) (wd_94 g) (notFace_of_selects (wd_96 g)) (wd_96 g) (wd_95 g) f23 (wd_97 g) (wd_58 g) (by decide) (argsL := []) (lenOf pd_13 rfl) rfl (by rw [hml]; rfl) (W := 0) rfl (hb hby at_63) (pc' := 66) rfl (by decide) (by decide) (by decide) (by decide) all0 ?_
  rintro _ vm24 h24 ⟨rfl, K24⟩ C24
  have z24 := K24.1
  -- pc 66
  refine Go.iloadN (hb hby at_66) (pc' := 67) rfl rfl ?_
  refine Go.icmpN (hb hby at_67) (pc' := 70) rfl (fun q => q rfl) ?_
  refine Go.iconst (hb hby at_70) (pc' := 71) rfl (z := (1 : Int32)) rfl ?_
  refine Go.goto (hb hby at_71) (by decide) (pc' := 75) (by decide) ?_
  refine Go.retN (t := .boolean) hret (by simp) (hb hby at_75) (by decide) (by decide) ?_
  intro vmR CR
  exact ⟨(by first | rfl | (simp only [own_nar]; done) | (congr 2; done)), (((((((((Keep.refl h []).trans K1 all0).trans KE6 all0).trans K13 (allS (by first | (left; simp; done) | (right; omega)) all0)).trans K15 all0).trans K16 all0).trans K19 all0).trans K21 all0).trans K24 all0)⟩
set_option maxRecDepth 65536 in
set_option maxHeartbeats 40000000 in
theorem comes_1 {Post : Tables → Env → Array Value → State → Outcome → State → Prop} (hpost : ∀ tb e args s v u, (limb_1_1.after args s (.returned v) u = true ∧ limb_1_2.after args s (.returned v) u = true ∧ True) → Jvm.D.FramedW s (.returned v) u (Jvm.fieldLocs frame_1_writes args s ++ Jvm.arrayLocs frame_1_arrays args s ++ Jvm.staticLocs frame_1_statics s) 24 1152 → Post tb e args s (.returned v) u) :
    ArmFor flags0 classFile x code maxLocals ret World_1 tables_1 room_1 Calls_1 rest_1 Pre_1 Post := by
  intro l hfl _ _ p e ha hc hk s m args below hf hA hF happ hP
  obtain ⟨hcalls, hrest, hpre⟩ := hP
  obtain ⟨-, -, -, hnamed, -, -, -, hat⟩ := (Spec.applies_iff hf).mp happ
  obtain ⟨hg, hn⟩ := and_e (Cond.before_iff.mp (show (Jvm.Cond.and given_1 narrow_1).before args s = true from hpre))
  obtain ⟨h1, g0⟩ := and_e hg
  obtain ⟨k0, g1⟩ := and_e g0
  obtain ⟨k1, g2⟩ := and_e g1
  have k2 := g2
  obtain ⟨w0, w1, w2, rfl⟩ : ∃ w0 w1 w2 : Value, args = #[w0, w1, w2] := by
    have hs : args.size = 3 := by simpa [Cond.value, given_1] using h1
    obtain ⟨L⟩ := args
    match L, hs with
    | [w0, w1, w2], _ => exact ⟨w0, w1, w2, rfl⟩
  have hw := fun d (hd : d ∈ tables_1) => atoms_spec (ws := Jvm.Cond.code x code maxLocals ret :: tables_1) hat d (List.mem_cons_of_mem _ hd)
  obtain ⟨hsets, hown0⟩ := atoms_of _ (rest_1_c_eq ▸ (show rest_1_c.before _ s = true from hrest))
  have hfit : Fit s := fun {y c} hc i hi => by
    obtain ⟨ha, rfl⟩ := Array.getElem?_eq_some_iff.mp hc
    have q := List.all_eq_true.mp ((Array.all_eq_true_iff_forall_mem.mp hF) _ (Array.getElem_mem ha)) i (List.mem_range.mpr hi)
    simpa [Array.getElem?_eq_getElem hi] using q
  obtain ⟨i0, r0⟩ := is_v k0
  obtain rfl : w0 = (.int i0) := Option.some.inj r0
  obtain ⟨i1, r1⟩ := is_v k1
  obtain rfl : w1 = (.int i1) := Option.some.inj r1
  obtain ⟨i2, r2⟩ := is_v k2
  obtain rfl : w2 = (.int i2) := Option.some.inj r2
  have n5 := not_v (Cond.before_iff.mp (hsets _ (List.mem_of_getElem? (i := 2) rfl)))
  obtain ⟨zc, e10⟩ := is_v (Cond.before_iff.mp (hsets _ (List.mem_of_getElem? (i := 1) rfl)))
  have S12 : Sta s s.heap "java/lang/String" "COMPACT_STRINGS" "Z" (.int zc) := Sta.start e10 (Or.inl (hsets _ (List.mem_of_getElem? (i := 0) rfl)))
  have c17 : ¬ (zc = (0 : Int32)) := gotF (Cond.eq_ints e10 (Term.int_eval (0))) n5
  have hEL : EW s #[(.int i0), (.int i1), (.int i2)] consts_1 := show EW s #[(.int i0), (.int i1), (.int i2)] [("java/lang/String", 7)] from (EW.cons (hw _ (List.mem_of_getElem? (i := 98) rfl)) (by decide) EW.nil)
  have hCH : CHv s consts_1 s.vm s.heap := CHv.start hEL hcalls.1 (hsets _ (List.mem_of_getElem? (i := 2) rfl)) (hw _ (List.mem_of_getElem? (i := 23) rfl)) (hw _ (List.mem_of_getElem? (i := 5) rfl))
  have hAt : ∀ a ∈ Bundle.stringAtoms, a.before #[(.int i0), (.int i1), (.int i2)] s = true := by
    intro a ha
    simp only [Bundle.stringAtoms, List.mem_cons, List.not_mem_nil, or_false] at ha
    rcases ha with rfl | rfl | rfl | rfl | rfl | rfl | rfl
    · exact (hw _ (List.mem_of_getElem? (i := 6) rfl))
    · exact (hw _ (List.mem_of_getElem? (i := 5) rfl))
    · exact (hw _ (List.mem_of_getElem? (i := 23) rfl))
    · exact (hw _ (List.mem_of_getElem? (i := 33) rfl))
    · exact (hw _ (List.mem_of_getElem? (i := 31) rfl))
    · exact (hw _ (List.mem_of_getElem? (i := 99) rfl))
    · exact (hw _ (List.mem_of_getElem? (i := 100) rfl))
  obtain ⟨idn, eu⟩ := exa_v hn
  have S20 : Sta s s.heap "com/example/bindery/bindery/TokenType" "IDENTIFIER" "Lcom/example/bindery/bindery/TokenType;" (.ref idn) := Sta.start eu (Or.inr ⟨(hw _ (List.mem_of_getElem? (i := 60) rfl)), (hw _ (List.mem_of_getElem? (i := 61) rfl))⟩)
  obtain ⟨n, o, h1, h2, h3, v, L, rfl, N, ⟨rfl, -⟩, -, -, hH, hq⟩ := c_law (l := l) (nw := False) (EL := consts_1) (zc := zc) (idn := idn) ⟨hw, hEL, hAt, fun _ q => q, S12, c17, S20⟩ id tables_1 s.heap i0 i1 i2 (Nat.le_refl _) p e ha hc hk s m _ below hf ((Spec.applies_iff_loose hf).mp happ).1 ⟨rfl, State.Warmed39.refl s, rfl, hCH, ⟨Nat.le_refl _, fun _ _ q => q⟩, all0⟩ trivial
  refine ⟨n, _, h1, h2, h3, hpost _ _ _ _ _ _ ⟨Cond.after_iff.mpr rfl, Cond.after_iff.mpr (eq_i res_at (Term.int_eval (1)) rfl), trivial⟩ ?_⟩
  exact ⟨⟨_, rfl⟩, hq.2.1, hq.2.2.1, (hq.2.2.2.sift fun y hy => Or.inr (N y hy)).mono (by decide) (by decide)⟩
theorem main_1_1 : Claimed_1_1 := comes_1 fun _ _ _ _ _ _ h hF => ⟨h.1, hF⟩
theorem main_1_2 : Claimed_1_2 := comes_1 fun _ _ _ _ _ _ h hF => ⟨h.2.1, hF⟩
end Jvm.Pilot.@@N@@
namespace Jvm.Pilot.@@N@@
open Jvm Jvm.ClassFile Sem Op Lib Jvm.Free Jvm.Stand Jvm.Pilot.@@N@@.Jvm.D
/-! MADE BY PROGRAM (witnessworld.py) out of the Statement's table words and the real class files: 26 classes; the members and pool entries that the words name. The judged class is class 1, her method 2. -/
namespace start1
open Jvm.ClassFile
def u (s : String) : CpInfo := .utf8 (stringToUtf16 s)
/-- a pool by its gaps: so many unusable entries, then the entry; so many at the end -/
def gap : Nat → List CpInfo → List CpInfo
  | 0, r => r
  | n + 1, r => .unusable :: gap n r
def poolList (es : List (Nat × CpInfo)) (last : Nat) : List CpInfo := es.foldr (fun e r => gap e.1 (e.2 :: r)) (gap last [])
def pool (es : List (Nat × CpInfo)) (last : Nat) : Array CpInfo := ⟨poolList es last⟩
def fileOf (pool : Array CpInfo) (this : Nat) (attrs : Array Attribute := #[]) (ms : Array MethodInfo := #[]) (fl : Nat := 33) (sup : Nat := 0) (ifs : Array Nat := #[]) (fds : Array FieldInfo := #[]) : ClassFile where
  minorVersion := 0
  majorVersion := 65
  constantPool := pool
  accessFlags := fl
  thisClass := this
  superClass := sup
  interfaces := ifs
  fields := fds
  methods := ms
  attributes := attrs
def plain (name : String) (sup : Option ClassId) : Class where
  name := name
  kind := .ordinary
  loader := none
  accessFlags := 33
  super := sup
  interfaces := #[]
  cf := none
  fields := #[]
  methods := #[]
  instanceTypes := #[]
  staticTypes := #[]
  resolved := #[]
  callSites := []
  init := .initialized
  statics := none
  mirror := none

def pool0 : Array CpInfo := pool [(5, u "<init>"), (0, u "()V"), (1, .class_ 10), (1, u "java/lang/Object")] 113

def k0c0 : Code := { maxStack := 0, maxLocals := 1, code := object_method_1_code, exceptionTable := #[], attributes := #[] }
def k0m0 : Method := { name := "<init>", desc := "()V", sig := { parameters := [], returnType := none }, accessFlags := 1, code := some k0c0 }
/-- java/lang/Object -/
def k0 : Class := { plain "java/lang/Object" none with
  accessFlags := 33
  interfaces := #[]
  cf := some (fileOf pool0 8 #[] #[{ accessFlags := 1, nameIndex := 5, descriptorIndex := 6, attributes := #[] }] 33 0 #[] #[])
  fields := #[]
  methods := #[k0m0]
  instanceTypes := #[]
  staticTypes := #[]
  resolved := Array.replicate 124 none
  statics := none }

def pool1 : Array CpInfo := pool [(2, .class_ 4), (1, u "java/lang/Object"), (0, u "<init>"), (0, u "()V"), (0, .class_ 8), (0, u "java/lang/String"), (0, .methodref 7 10), (0, .nameAndType 5 11), (0, u "([C)V"), (0, .methodref 13 14), (0, .class_ 15), (0, .nameAndType 16 17), (0, u "com/example/bindery/bindery/NamedTokenPinLaw"), (0, u "text"), (0, u "(II)Ljava/lang/String;"), (0, .class_ 19), (0, u "com/example/bindery/bindery/Expr$Variable"), (0, .methodref 18 21), (0, .nameAndType 5 22), (0, u "(Ljava/lang/String;I)V"), (0, .methodref 18 24), (0, .nameAndType 25 26), (0, u "token"), (0, u "()Lcom/example/bindery/bindery/Token;"), (0, .methodref 28 29), (0, .class_ 30), (0, .nameAndType 31 32), (0, u "com/example/bindery/bindery/Token"), (0, u "type"), (0, u "()Lcom/example/bindery/bindery/TokenType;"), (0, .fieldref 34 35), (0, .class_ 36), (0, .nameAndType 37 38), (0, u "com/example/bindery/bindery/TokenType"), (0, u "IDENTIFIER"), (0, u "Lcom/example/bindery/bindery/TokenType;"), (0, .methodref 28 40), (0, .nameAndType 41 42), (0, u "lexeme"), (0, u "()Ljava/lang/String;"), (0, .methodref 7 44), (0, .nameAndType 45 46), (0, u "equals"), (0, u "(Ljava/lang/Object;)Z"), (0, .methodref 28 48), (0, .nameAndType 49 50), (0, u "line"), (0, u "()I"), (3, u "law"), (0, u "(III)Z")] 6

def k1m0 : Method := { name := "<init>", desc := "()V", sig := { parameters := [], returnType := none }, accessFlags := 1, code := none }
def k1c1 : Code := { maxStack := 6, maxLocals := 5, code := method_2_code, exceptionTable := #[], attributes := #[] }
def k1m1 : Method := { name := "text", desc := "(II)Ljava/lang/String;", sig := { parameters := [.int, .int], returnType := some (.object "java/lang/String") }, accessFlags := 10, code := some k1c1 }
def k1c2 : Code := { maxStack := 4, maxLocals := 7, code := code, exceptionTable := #[], attributes := #[] }
def k1m2 : Method := { name := "law", desc := "(III)Z", sig := { parameters := [.int, .int, .int], returnType := some .boolean }, accessFlags := 9, code := some k1c2 }
/-- com/example/bindery/bindery/NamedTokenPinLaw -/
def k1 : Class := { plain "com/example/bindery/bindery/NamedTokenPinLaw" (some 0) with
  accessFlags := 49
  interfaces := #[]
  cf := some (fileOf pool1 13 #[] #[{ accessFlags := 1, nameIndex := 5, descriptorIndex := 6, attributes := #[] }, { accessFlags := 10, nameIndex := 16, descriptorIndex := 17, attributes := #[] }, { accessFlags := 9, nameIndex := 54, descriptorIndex := 55, attributes := #[] }] 49 2 #[] #[])
  fields := #[]
  methods := #[k1m0, k1m1, k1m2]
  instanceTypes := #[]
  staticTypes := #[]
  resolved := Array.replicate 62 none
  statics := none }

def pool2 : Array CpInfo := pool [(1, .class_ 2), (0, u "java/io/Serializable"), (0, .class_ 4), (0, u "java/lang/Object")] 2

/-- java/io/Serializable -/
def k2 : Class := { plain "java/io/Serializable" (some 0) with
  accessFlags := 1537
  interfaces := #[]
  cf := some (fileOf pool2 1 #[] #[] 1537 3 #[] #[])
  fields := #[]
  methods := #[]
  instanceTypes := #[]
  staticTypes := #[]
  resolved := Array.replicate 7 none
  statics := none }

def pool3 : Array CpInfo := pool [(1, .class_ 2), (0, u "java/lang/Comparable"), (0, .class_ 4), (0, u "java/lang/Object")] 7

/-- java/lang/Comparable -/
def k3 : Class := { plain "java/lang/Comparable" (some 0) with
  accessFlags := 1537
  interfaces := #[]
  cf := some (fileOf pool3 1 #[] #[] 1537 3 #[] #[])
  fields := #[]
  methods := #[]
  instanceTypes := #[]
  staticTypes := #[]
  resolved := Array.replicate 12 none
  statics := none }

def pool4 : Array CpInfo := pool [(2, .class_ 4), (1, u "java/lang/CharSequence"), (42, .class_ 48), (0, u "java/lang/CharSequence$1CodePointIterator"), (10, .class_ 60), (0, u "java/lang/CharSequence$1CharIterator"), (5, .class_ 67), (0, u "java/lang/Object")] 63

/-- java/lang/CharSequence -/
def k4 : Class := { plain "java/lang/CharSequence" (some 0) with
  accessFlags := 1537
  interfaces := #[]
  cf := some (fileOf pool4 2 #[.nestMembers #[47, 59]] #[] 1537 66 #[] #[])
  fields := #[]
  methods := #[]
  instanceTypes := #[]
  staticTypes := #[]
  resolved := Array.replicate 131 none
  statics := none }

def pool5 : Array CpInfo := pool [(1, .class_ 2), (0, u "java/lang/constant/Constable"), (0, .class_ 4), (0, u "java/lang/Object")] 6

/-- java/lang/constant/Constable -/
def k5 : Class := { plain "java/lang/constant/Constable" (some 0) with
  accessFlags := 1537
  interfaces := #[]
  cf := some (fileOf pool5 1 #[] #[] 1537 3 #[] #[])
  fields := #[]
  methods := #[]
  instanceTypes := #[]
  staticTypes := #[]
  resolved := Array.replicate 11 none
  statics := none }

def pool6 : Array CpInfo := pool [(1, .class_ 2), (0, u "java/lang/constant/ConstantDesc"), (0, .class_ 4), (0, u "java/lang/Object")] 32

/-- java/lang/constant/ConstantDesc -/
def k6 : Class := { plain "java/lang/constant/ConstantDesc" (some 0) with
  accessFlags := 1537
  interfaces := #[]
  cf := some (fileOf pool6 1 #[] #[] 1537 3 #[] #[])
  fields := #[]
  methods := #[]
  instanceTypes := #[]
  staticTypes := #[]
  resolved := Array.replicate 37 none
  statics := none }

def pool7 : Array CpInfo := pool [(1, .methodref 2 3), (0, .class_ 4), (0, .nameAndType 5 6), (0, u "java/lang/Object"), (0, u "<init>"), (0, u "()V"), (0, .string 8), (0, u ""), (0, .fieldref 10 11), (0, .class_ 12), (0, .nameAndType 13 14), (0, u "java/lang/String"), (0, u "value"), (0, u "[B"), (0, .fieldref 10 16), (0, .nameAndType 17 18), (0, u "coder"), (0, u "B"), (2, u "hash"), (0, u "I"), (2, u "hashIsZero"), (0, u "Z"), (0, .methodref 10 28), (0, .nameAndType 5 29), (0, u "([CIILjava/lang/Void;)V"), (8, .fieldref 10 39), (0, .nameAndType 40 26), (0, u "COMPACT_STRINGS"), (1, .class_ 44), (1, u "java/lang/StringUTF16"), (0, u "compress"), (1, .methodref 42 48), (0, .nameAndType 49 50), (0, u "coderFromArrayLen"), (0, u "([BI)B"), (126, .methodref 42 178), (0, .nameAndType 45 179), (0, u "([CII)[B"), (363, u "equals"), (29, u "(Ljava/lang/Object;)Z"), (1, .class_ 576), (0, u "java/lang/CharSequence"), (22, u "CASE_INSENSITIVE_ORDER"), (0, u "Ljava/util/Comparator;"), (409, u "([C)V"), (90, u "serialPersistentFields"), (0, u "[Ljava/io/ObjectStreamField;"), (0, .class_ 1104), (0, u "java/lang/String$CaseInsensitiveComparator"), (1, .class_ 1107), (0, u "java/io/Serializable"), (0, .class_ 1109), (0, u "java/lang/Comparable"), (0, .class_ 1111), (0, u "java/lang/constant/Constable"), (0, .class_ 1113), (0, u "java/lang/constant/ConstantDesc"), (2, u "serialVersionUID"), (0, u "J"), (3, u "REPL"), (0, u "C"), (2, u "LATIN1"), (1, u "UTF16")] 323

def k7m0 : Method := { name := "<init>", desc := "()V", sig := { parameters := [], returnType := none }, accessFlags := 1, code := none }
def k7c1 : Code := { maxStack := 5, maxLocals := 2, code := jdk_42_method_3_code, exceptionTable := #[], attributes := #[] }
def k7m1 : Method := { name := "<init>", desc := "([C)V", sig := { parameters := [(.array .char)], returnType := none }, accessFlags := 1, code := some k7c1 }
def k7c2 : Code := { maxStack := 2, maxLocals := 3, code := jdk_42_method_66_code, exceptionTable := #[], attributes := #[] }
def k7m2 : Method := { name := "equals", desc := "(Ljava/lang/Object;)Z", sig := { parameters := [(.object "java/lang/Object")], returnType := some .boolean }, accessFlags := 1, code := some k7c2 }
def k7c3 : Code := { maxStack := 4, maxLocals := 6, code := jdk_42_method_149_code, exceptionTable := #[], attributes := #[] }
def k7m3 : Method := { name := "<init>", desc := "([CIILjava/lang/Void;)V", sig := { parameters := [(.array .char), .int, .int, (.object "java/lang/Void")], returnType := none }, accessFlags := 2, code := some k7c3 }
/-- java/lang/String -/
def k7 : Class := { plain "java/lang/String" (some 0) with
  accessFlags := 49
  interfaces := #[2, 3, 4, 5, 6]
  cf := some (fileOf pool7 10 #[.nestMembers #[1103]] #[{ accessFlags := 1, nameIndex := 5, descriptorIndex := 6, attributes := #[] }, { accessFlags := 1, nameIndex := 5, descriptorIndex := 1010, attributes := #[] }, { accessFlags := 1, nameIndex := 543, descriptorIndex := 573, attributes := #[] }, { accessFlags := 2, nameIndex := 5, descriptorIndex := 29, attributes := #[] }] 49 2 #[1106, 1108, 575, 1110, 1112] #[{ accessFlags := 18, nameIndex := 13, descriptorIndex := 14, attributes := #[] }, { accessFlags := 18, nameIndex := 17, descriptorIndex := 18, attributes := #[] }, { accessFlags := 2, nameIndex := 21, descriptorIndex := 22, attributes := #[] }, { accessFlags := 2, nameIndex := 25, descriptorIndex := 26, attributes := #[] }, { accessFlags := 26, nameIndex := 1116, descriptorIndex := 1117, attributes := #[] }, { accessFlags := 24, nameIndex := 40, descriptorIndex := 26, attributes := #[] }, { accessFlags := 26, nameIndex := 1101, descriptorIndex := 1102, attributes := #[] }, { accessFlags := 26, nameIndex := 1121, descriptorIndex := 1122, attributes := #[] }, { accessFlags := 25, nameIndex := 599, descriptorIndex := 600, attributes := #[] }, { accessFlags := 24, nameIndex := 1125, descriptorIndex := 18, attributes := #[] }, { accessFlags := 24, nameIndex := 1127, descriptorIndex := 18, attributes := #[] }])
  fields := #[{ name := "value", type := (.array .byte), accessFlags := 18, slot := 0, constantValue := 0 }, { name := "coder", type := .byte, accessFlags := 18, slot := 1, constantValue := 0 }, { name := "hash", type := .int, accessFlags := 2, slot := 2, constantValue := 0 }, { name := "hashIsZero", type := .boolean, accessFlags := 2, slot := 3, constantValue := 0 }, { name := "serialVersionUID", type := .long, accessFlags := 26, slot := 0, constantValue := 0 }, { name := "COMPACT_STRINGS", type := .boolean, accessFlags := 24, slot := 1, constantValue := 0 }, { name := "serialPersistentFields", type := (.array (.object "java/io/ObjectStreamField")), accessFlags := 26, slot := 2, constantValue := 0 }, { name := "REPL", type := .char, accessFlags := 26, slot := 3, constantValue := 0 }, { name := "CASE_INSENSITIVE_ORDER", type := (.object "java/util/Comparator"), accessFlags := 25, slot := 4, constantValue := 0 }, { name := "LATIN1", type := .byte, accessFlags := 24, slot := 5, constantValue := 0 }, { name := "UTF16", type := .byte, accessFlags := 24, slot := 6, constantValue := 0 }]
  methods := #[k7m0, k7m1, k7m2, k7m3]
  instanceTypes := #[(.array .byte), .byte, .int, .boolean]
  staticTypes := #[.long, .boolean, (.array (.object "java/io/ObjectStreamField")), .char, (.object "java/util/Comparator"), .byte, .byte]
  resolved := Array.replicate 1451 none
  statics := some 0 }

def pool8 : Array CpInfo := pool [(6, .class_ 8), (1, u "java/lang/Object"), (0, u "<init>"), (0, u "()V"), (1, .class_ 14), (1, u "java/lang/StringUTF16"), (31, u "$assertionsDisabled"), (0, u "Z"), (13, u "HI_BYTE_SHIFT"), (0, u "I"), (2, u "LO_BYTE_SHIFT"), (49, .methodref 12 116), (0, .nameAndType 117 118), (0, u "compress"), (0, u "([CI[BII)I"), (3, u "([CII)[B"), (138, u "coderFromArrayLen"), (0, u "([BI)B"), (106, .class_ 371), (1, u "java/lang/StringUTF16$LinesSpliterator"), (58, u "MAX_LENGTH"), (196, .class_ 628), (0, u "java/lang/StringUTF16$CodePointsSpliterator"), (0, .class_ 630), (0, u "java/lang/StringUTF16$CharsSpliterator")] 4

def k8m0 : Method := { name := "<init>", desc := "()V", sig := { parameters := [], returnType := none }, accessFlags := 0, code := none }
def k8c1 : Code := { maxStack := 2, maxLocals := 2, code := jdk_52_method_15_code, exceptionTable := #[], attributes := #[] }
def k8m1 : Method := { name := "coderFromArrayLen", desc := "([BI)B", sig := { parameters := [(.array .byte), .int], returnType := some .byte }, accessFlags := 8, code := some k8c1 }
def k8c2 : Code := { maxStack := 5, maxLocals := 6, code := jdk_52_method_16_code, exceptionTable := #[], attributes := #[] }
def k8m2 : Method := { name := "compress", desc := "([CII)[B", sig := { parameters := [(.array .char), .int, .int], returnType := some (.array .byte) }, accessFlags := 9, code := some k8c2 }
def k8c3 : Code := { maxStack := 3, maxLocals := 7, code := jdk_52_method_21_code, exceptionTable := #[], attributes := #[] }
def k8m3 : Method := { name := "compress", desc := "([CI[BII)I", sig := { parameters := [(.array .char), .int, (.array .byte), .int, .int], returnType := some .int }, accessFlags := 9, code := some k8c3 }
/-- java/lang/StringUTF16 -/
def k8 : Class := { plain "java/lang/StringUTF16" (some 0) with
  accessFlags := 48
  interfaces := #[]
  cf := some (fileOf pool8 12 #[.nestMembers #[627, 629, 369]] #[{ accessFlags := 0, nameIndex := 9, descriptorIndex := 10, attributes := #[] }, { accessFlags := 8, nameIndex := 261, descriptorIndex := 262, attributes := #[] }, { accessFlags := 9, nameIndex := 117, descriptorIndex := 122, attributes := #[] }, { accessFlags := 9, nameIndex := 117, descriptorIndex := 118, attributes := #[] }] 48 6 #[] #[{ accessFlags := 26, nameIndex := 61, descriptorIndex := 62, attributes := #[] }, { accessFlags := 26, nameIndex := 65, descriptorIndex := 62, attributes := #[] }, { accessFlags := 24, nameIndex := 430, descriptorIndex := 62, attributes := #[] }, { accessFlags := 4120, nameIndex := 46, descriptorIndex := 47, attributes := #[] }])
  fields := #[{ name := "HI_BYTE_SHIFT", type := .int, accessFlags := 26, slot := 0, constantValue := 0 }, { name := "LO_BYTE_SHIFT", type := .int, accessFlags := 26, slot := 1, constantValue := 0 }, { name := "MAX_LENGTH", type := .int, accessFlags := 24, slot := 2, constantValue := 0 }, { name := "$assertionsDisabled", type := .boolean, accessFlags := 4120, slot := 3, constantValue := 0 }]
  methods := #[k8m0, k8m1, k8m2, k8m3]
  instanceTypes := #[]
  staticTypes := #[.int, .int, .int, .boolean]
  resolved := Array.replicate 635 none
  statics := none }

def pool9 : Array CpInfo := pool [(1, .methodref 2 3), (0, .class_ 4), (0, .nameAndType 5 6), (0, u "java/lang/Object"), (0, u "<init>"), (0, u "()V"), (0, .fieldref 8 9), (0, .class_ 10), (0, .nameAndType 11 12), (0, u "com/example/bindery/bindery/Named"), (0, u "lexeme"), (0, u "Ljava/lang/String;"), (0, .fieldref 8 14), (0, .nameAndType 15 16), (0, u "line"), (0, u "I"), (0, .class_ 18), (0, u "com/example/bindery/bindery/Token"), (0, .fieldref 20 21), (0, .class_ 22), (0, .nameAndType 23 24), (0, u "com/example/bindery/bindery/TokenType"), (0, u "IDENTIFIER"), (0, u "Lcom/example/bindery/bindery/TokenType;"), (0, .methodref 17 26), (0, .nameAndType 5 27), (0, u "(Lcom/example/bindery/bindery/TokenType;Ljava/lang/String;I)V"), (2, u "global"), (0, u "Lcom/example/bindery/bindery/Globals$Variable;"), (2, u "depth"), (2, u "slot"), (0, u "(Ljava/lang/String;I)V"), (4, u "token"), (0, u "()Lcom/example/bindery/bindery/Token;")] 13

def k9c0 : Code := { maxStack := 2, maxLocals := 3, code := prog_25_method_1_code, exceptionTable := #[], attributes := #[] }
def k9m0 : Method := { name := "<init>", desc := "(Ljava/lang/String;I)V", sig := { parameters := [(.object "java/lang/String"), .int], returnType := none }, accessFlags := 0, code := some k9c0 }
def k9c1 : Code := { maxStack := 5, maxLocals := 1, code := prog_25_method_4_code, exceptionTable := #[], attributes := #[] }
def k9m1 : Method := { name := "token", desc := "()Lcom/example/bindery/bindery/Token;", sig := { parameters := [], returnType := some (.object "com/example/bindery/bindery/Token") }, accessFlags := 16, code := some k9c1 }
/-- com/example/bindery/bindery/Named -/
def k9 : Class := { plain "com/example/bindery/bindery/Named" (some 0) with
  accessFlags := 1056
  interfaces := #[]
  cf := some (fileOf pool9 8 #[] #[{ accessFlags := 0, nameIndex := 5, descriptorIndex := 38, attributes := #[] }, { accessFlags := 16, nameIndex := 43, descriptorIndex := 44, attributes := #[] }] 1056 2 #[] #[{ accessFlags := 18, nameIndex := 11, descriptorIndex := 12, attributes := #[] }, { accessFlags := 18, nameIndex := 15, descriptorIndex := 16, attributes := #[] }, { accessFlags := 2, nameIndex := 30, descriptorIndex := 31, attributes := #[] }, { accessFlags := 2, nameIndex := 34, descriptorIndex := 16, attributes := #[] }, { accessFlags := 2, nameIndex := 37, descriptorIndex := 16, attributes := #[] }])
  fields := #[{ name := "lexeme", type := (.object "java/lang/String"), accessFlags := 18, slot := 0, constantValue := 0 }, { name := "line", type := .int, accessFlags := 18, slot := 1, constantValue := 0 }, { name := "global", type := (.object "com/example/bindery/bindery/Globals$Variable"), accessFlags := 2, slot := 2, constantValue := 0 }, { name := "depth", type := .int, accessFlags := 2, slot := 3, constantValue := 0 }, { name := "slot", type := .int, accessFlags := 2, slot := 4, constantValue := 0 }]
  methods := #[k9m0, k9m1]
  instanceTypes := #[(.object "java/lang/String"), .int, (.object "com/example/bindery/bindery/Globals$Variable"), .int, .int]
  staticTypes := #[]
  resolved := Array.replicate 58 none
  statics := none }

def pool10 : Array CpInfo := pool [(1, .class_ 2), (0, u "com/example/bindery/bindery/Expr"), (0, .class_ 4), (0, u "java/lang/Object"), (7, .class_ 13), (0, u "com/example/bindery/bindery/Expr$Call"), (0, .class_ 15), (0, u "com/example/bindery/bindery/Expr$Assign"), (0, .class_ 17), (0, u "com/example/bindery/bindery/Expr$Variable"), (0, .class_ 19), (0, u "com/example/bindery/bindery/Expr$Logical"), (0, .class_ 21), (0, u "com/example/bindery/bindery/Expr$Binary"), (0, .class_ 23), (0, u "com/example/bindery/bindery/Expr$Unary"), (0, .class_ 25), (0, u "com/example/bindery/bindery/Expr$Literal"), (0, .class_ 27), (0, u "com/example/bindery/bindery/Expr$Visitor")] 9

/-- com/example/bindery/bindery/Expr -/
def k10 : Class := { plain "com/example/bindery/bindery/Expr" (some 0) with
  accessFlags := 1536
  interfaces := #[]
  cf := some (fileOf pool10 1 #[.nestMembers #[12, 14, 16, 18, 20, 22, 24, 26]] #[] 1536 3 #[] #[])
  fields := #[]
  methods := #[]
  instanceTypes := #[]
  staticTypes := #[]
  resolved := Array.replicate 37 none
  statics := none }

def pool11 : Array CpInfo := pool [(1, .methodref 2 3), (0, .class_ 4), (0, .nameAndType 5 6), (0, u "com/example/bindery/bindery/Named"), (0, u "<init>"), (0, u "(Ljava/lang/String;I)V"), (6, .class_ 14), (0, u "com/example/bindery/bindery/Expr$Variable"), (0, .class_ 16), (0, u "com/example/bindery/bindery/Expr")] 12

def k11c0 : Code := { maxStack := 3, maxLocals := 3, code := prog_14_method_1_code, exceptionTable := #[], attributes := #[] }
def k11m0 : Method := { name := "<init>", desc := "(Ljava/lang/String;I)V", sig := { parameters := [(.object "java/lang/String"), .int], returnType := none }, accessFlags := 0, code := some k11c0 }
/-- com/example/bindery/bindery/Expr$Variable -/
def k11 : Class := { plain "com/example/bindery/bindery/Expr$Variable" (some 9) with
  accessFlags := 49
  interfaces := #[10]
  cf := some (fileOf pool11 13 #[.nestHost 15] #[{ accessFlags := 0, nameIndex := 5, descriptorIndex := 6, attributes := #[] }] 49 2 #[15] #[])
  fields := #[]
  methods := #[k11m0]
  instanceTypes := #[(.object "java/lang/String"), .int, (.object "com/example/bindery/bindery/Globals$Variable"), .int, .int]
  staticTypes := #[]
  resolved := Array.replicate 29 none
  statics := none }

def pool12 : Array CpInfo := pool [(1, .methodref 2 3), (0, .class_ 4), (0, .nameAndType 5 6), (0, u "java/lang/Object"), (0, u "<init>"), (0, u "()V"), (0, .class_ 8), (0, u "java/lang/Record")] 13

def k12c0 : Code := { maxStack := 1, maxLocals := 1, code := jdk_30_method_1_code, exceptionTable := #[], attributes := #[] }
def k12m0 : Method := { name := "<init>", desc := "()V", sig := { parameters := [], returnType := none }, accessFlags := 4, code := some k12c0 }
/-- java/lang/Record -/
def k12 : Class := { plain "java/lang/Record" (some 0) with
  accessFlags := 1057
  interfaces := #[]
  cf := some (fileOf pool12 7 #[] #[{ accessFlags := 4, nameIndex := 5, descriptorIndex := 6, attributes := #[] }] 1057 2 #[] #[])
  fields := #[]
  methods := #[k12m0]
  instanceTypes := #[]
  staticTypes := #[]
  resolved := Array.replicate 22 none
  statics := none }

def pool13 : Array CpInfo := pool [(1, .methodref 2 3), (0, .class_ 4), (0, .nameAndType 5 6), (0, u "java/lang/Record"), (0, u "<init>"), (0, u "()V"), (0, .fieldref 8 9), (0, .class_ 10), (0, .nameAndType 11 12), (0, u "com/example/bindery/bindery/Token"), (0, u "type"), (0, u "Lcom/example/bindery/bindery/TokenType;"), (0, .fieldref 8 14), (0, .nameAndType 15 16), (0, u "lexeme"), (0, u "Ljava/lang/String;"), (0, .fieldref 8 18), (0, .nameAndType 19 20), (0, u "line"), (0, u "I"), (12, u "(Lcom/example/bindery/bindery/TokenType;Ljava/lang/String;I)V"), (3, u "()Ljava/lang/String;"), (0, u "()I"), (1, u "()Lcom/example/bindery/bindery/TokenType;")] 22

def k13c0 : Code := { maxStack := 2, maxLocals := 4, code := prog_47_method_1_code, exceptionTable := #[], attributes := #[] }
def k13m0 : Method := { name := "<init>", desc := "(Lcom/example/bindery/bindery/TokenType;Ljava/lang/String;I)V", sig := { parameters := [(.object "com/example/bindery/bindery/TokenType"), (.object "java/lang/String"), .int], returnType := none }, accessFlags := 0, code := some k13c0 }
def k13c1 : Code := { maxStack := 1, maxLocals := 1, code := prog_47_method_5_code, exceptionTable := #[], attributes := #[] }
def k13m1 : Method := { name := "type", desc := "()Lcom/example/bindery/bindery/TokenType;", sig := { parameters := [], returnType := some (.object "com/example/bindery/bindery/TokenType") }, accessFlags := 1, code := some k13c1 }
def k13c2 : Code := { maxStack := 1, maxLocals := 1, code := prog_47_method_6_code, exceptionTable := #[], attributes := #[] }
def k13m2 : Method := { name := "lexeme", desc := "()Ljava/lang/String;", sig := { parameters := [], returnType := some (.object "java/lang/String") }, accessFlags := 1, code := some k13c2 }
def k13c3 : Code := { maxStack := 1, maxLocals := 1, code := prog_47_method_7_code, exceptionTable := #[], attributes := #[] }
def k13m3 : Method := { name := "line", desc := "()I", sig := { parameters := [], returnType := some .int }, accessFlags := 1, code := some k13c3 }
/-- com/example/bindery/bindery/Token -/
def k13 : Class := { plain "com/example/bindery/bindery/Token" (some 12) with
  accessFlags := 48
  interfaces := #[]
  cf := some (fileOf pool13 8 #[] #[{ accessFlags := 0, nameIndex := 5, descriptorIndex := 33, attributes := #[] }, { accessFlags := 1, nameIndex := 11, descriptorIndex := 40, attributes := #[] }, { accessFlags := 1, nameIndex := 15, descriptorIndex := 37, attributes := #[] }, { accessFlags := 1, nameIndex := 19, descriptorIndex := 38, attributes := #[] }] 48 2 #[] #[{ accessFlags := 18, nameIndex := 11, descriptorIndex := 12, attributes := #[] }, { accessFlags := 18, nameIndex := 15, descriptorIndex := 16, attributes := #[] }, { accessFlags := 18, nameIndex := 19, descriptorIndex := 20, attributes := #[] }])
  fields := #[{ name := "type", type := (.object "com/example/bindery/bindery/TokenType"), accessFlags := 18, slot := 0, constantValue := 0 }, { name := "lexeme", type := (.object "java/lang/String"), accessFlags := 18, slot := 1, constantValue := 0 }, { name := "line", type := .int, accessFlags := 18, slot := 2, constantValue := 0 }]
  methods := #[k13m0, k13m1, k13m2, k13m3]
  instanceTypes := #[(.object "com/example/bindery/bindery/TokenType"), (.object "java/lang/String"), .int]
  staticTypes := #[]
  resolved := Array.replicate 63 none
  statics := none }

def pool14 : Array CpInfo := pool [(2, .class_ 4), (1, u "java/lang/Enum"), (0, u "name"), (0, u "Ljava/lang/String;"), (2, u "ordinal"), (0, u "I"), (1, .class_ 14), (1, u "java/lang/Object"), (4, u "hash"), (86, .class_ 108), (1, u "java/lang/Enum$EnumDesc"), (2, .class_ 112), (0, u "java/lang/constant/Constable"), (0, .class_ 114), (0, u "java/lang/Comparable"), (0, .class_ 116), (0, u "java/io/Serializable")] 87

/-- java/lang/Enum -/
def k14 : Class := { plain "java/lang/Enum" (some 0) with
  accessFlags := 1057
  interfaces := #[5, 3, 2]
  cf := some (fileOf pool14 2 #[.nestMembers #[106]] #[] 1057 12 #[111, 113, 115] #[{ accessFlags := 18, nameIndex := 5, descriptorIndex := 6, attributes := #[] }, { accessFlags := 18, nameIndex := 9, descriptorIndex := 10, attributes := #[] }, { accessFlags := 2, nameIndex := 19, descriptorIndex := 10, attributes := #[] }])
  fields := #[{ name := "name", type := (.object "java/lang/String"), accessFlags := 18, slot := 0, constantValue := 0 }, { name := "ordinal", type := .int, accessFlags := 18, slot := 1, constantValue := 0 }, { name := "hash", type := .int, accessFlags := 2, slot := 2, constantValue := 0 }]
  methods := #[]
  instanceTypes := #[(.object "java/lang/String"), .int, .int]
  staticTypes := #[]
  resolved := Array.replicate 204 none
  statics := none }

def pool15 : Array CpInfo := pool [(1, .class_ 2), (0, u "com/example/bindery/bindery/TokenType"), (2, u "LEFT_PAREN"), (0, u "Lcom/example/bindery/bindery/TokenType;"), (2, u "RIGHT_PAREN"), (2, u "LEFT_BRACE"), (2, u "RIGHT_BRACE"), (2, u "COMMA"), (2, u "DOT"), (2, u "MINUS"), (2, u "PLUS"), (2, u "SEMICOLON"), (2, u "SLASH"), (2, u "STAR"), (2, u "BANG"), (2, u "BANG_EQUAL"), (2, u "EQUAL"), (2, u "EQUAL_EQUAL"), (2, u "GREATER"), (2, u "GREATER_EQUAL"), (2, u "LESS"), (2, u "LESS_EQUAL"), (2, u "IDENTIFIER"), (2, u "STRING"), (2, u "NUMBER"), (2, u "AND"), (2, u "CLASS"), (2, u "ELSE"), (2, u "FALSE"), (2, u "FOR"), (2, u "FUN"), (2, u "IF"), (2, u "NIL"), (2, u "OR"), (2, u "PRINT"), (2, u "RETURN"), (2, u "SUPER"), (2, u "THIS"), (2, u "TRUE"), (2, u "VAR"), (2, u "WHILE"), (2, u "EOF"), (2, u "$VALUES"), (0, u "[Lcom/example/bindery/bindery/TokenType;"), (6, .class_ 133), (1, u "java/lang/Enum")] 61

/-- com/example/bindery/bindery/TokenType -/
def k15 : Class := { plain "com/example/bindery/bindery/TokenType" (some 14) with
  accessFlags := 16432
  interfaces := #[]
  cf := some (fileOf pool15 1 #[] #[] 16432 131 #[] #[{ accessFlags := 16409, nameIndex := 5, descriptorIndex := 6, attributes := #[] }, { accessFlags := 16409, nameIndex := 9, descriptorIndex := 6, attributes := #[] }, { accessFlags := 16409, nameIndex := 12, descriptorIndex := 6, attributes := #[] }, { accessFlags := 16409, nameIndex := 15, descriptorIndex := 6, attributes := #[] }, { accessFlags := 16409, nameIndex := 18, descriptorIndex := 6, attributes := #[] }, { accessFlags := 16409, nameIndex := 21, descriptorIndex := 6, attributes := #[] }, { accessFlags := 16409, nameIndex := 24, descriptorIndex := 6, attributes := #[] }, { accessFlags := 16409, nameIndex := 27, descriptorIndex := 6, attributes := #[] }, { accessFlags := 16409, nameIndex := 30, descriptorIndex := 6, attributes := #[] }, { accessFlags := 16409, nameIndex := 33, descriptorIndex := 6, attributes := #[] }, { accessFlags := 16409, nameIndex := 36, descriptorIndex := 6, attributes := #[] }, { accessFlags := 16409, nameIndex := 39, descriptorIndex := 6, attributes := #[] }, { accessFlags := 16409, nameIndex := 42, descriptorIndex := 6, attributes := #[] }, { accessFlags := 16409, nameIndex := 45, descriptorIndex := 6, attributes := #[] }, { accessFlags := 16409, nameIndex := 48, descriptorIndex := 6, attributes := #[] }, { accessFlags := 16409, nameIndex := 51, descriptorIndex := 6, attributes := #[] }, { accessFlags := 16409, nameIndex := 54, descriptorIndex := 6, attributes := #[] }, { accessFlags := 16409, nameIndex := 57, descriptorIndex := 6, attributes := #[] }, { accessFlags := 16409, nameIndex := 60, descriptorIndex := 6, attributes := #[] }, { accessFlags := 16409, nameIndex := 63, descriptorIndex := 6, attributes := #[] }, { accessFlags := 16409, nameIndex := 66, descriptorIndex := 6, attributes := #[] }, { accessFlags := 16409, nameIndex := 69, descriptorIndex := 6, attributes := #[] }, { accessFlags := 16409, nameIndex := 72, descriptorIndex := 6, attributes := #[] }, { accessFlags := 16409, nameIndex := 75, descriptorIndex := 6, attributes := #[] }, { accessFlags := 16409, nameIndex := 78, descriptorIndex := 6, attributes := #[] }, { accessFlags := 16409, nameIndex := 81, descriptorIndex := 6, attributes := #[] }, { accessFlags := 16409, nameIndex := 84, descriptorIndex := 6, attributes := #[] }, { accessFlags := 16409, nameIndex := 87, descriptorIndex := 6, attributes := #[] }, { accessFlags := 16409, nameIndex := 90, descriptorIndex := 6, attributes := #[] }, { accessFlags := 16409, nameIndex := 93, descriptorIndex := 6, attributes := #[] }, { accessFlags := 16409, nameIndex := 96, descriptorIndex := 6, attributes := #[] }, { accessFlags := 16409, nameIndex := 99, descriptorIndex := 6, attributes := #[] }, { accessFlags := 16409, nameIndex := 102, descriptorIndex := 6, attributes := #[] }, { accessFlags := 16409, nameIndex := 105, descriptorIndex := 6, attributes := #[] }, { accessFlags := 16409, nameIndex := 108, descriptorIndex := 6, attributes := #[] }, { accessFlags := 16409, nameIndex := 111, descriptorIndex := 6, attributes := #[] }, { accessFlags := 16409, nameIndex := 114, descriptorIndex := 6, attributes := #[] }, { accessFlags := 16409, nameIndex := 117, descriptorIndex := 6, attributes := #[] }, { accessFlags := 16409, nameIndex := 120, descriptorIndex := 6, attributes := #[] }, { accessFlags := 4122, nameIndex := 123, descriptorIndex := 124, attributes := #[] }])
  fields := #[{ name := "LEFT_PAREN", type := (.object "com/example/bindery/bindery/TokenType"), accessFlags := 16409, slot := 0, constantValue := 0 }, { name := "RIGHT_PAREN", type := (.object "com/example/bindery/bindery/TokenType"), accessFlags := 16409, slot := 1, constantValue := 0 }, { name := "LEFT_BRACE", type := (.object "com/example/bindery/bindery/TokenType"), accessFlags := 16409, slot := 2, constantValue := 0 }, { name := "RIGHT_BRACE", type := (.object "com/example/bindery/bindery/TokenType"), accessFlags := 16409, slot := 3, constantValue := 0 }, { name := "COMMA", type := (.object "com/example/bindery/bindery/TokenType"), accessFlags := 16409, slot := 4, constantValue := 0 }, { name := "DOT", type := (.object "com/example/bindery/bindery/TokenType"), accessFlags := 16409, slot := 5, constantValue := 0 }, { name := "MINUS", type := (.object "com/example/bindery/bindery/TokenType"), accessFlags := 16409, slot := 6, constantValue := 0 }, { name := "PLUS", type := (.object "com/example/bindery/bindery/TokenType"), accessFlags := 16409, slot := 7, constantValue := 0 }, { name := "SEMICOLON", type := (.object "com/example/bindery/bindery/TokenType"), accessFlags := 16409, slot := 8, constantValue := 0 }, { name := "SLASH", type := (.object "com/example/bindery/bindery/TokenType"), accessFlags := 16409, slot := 9, constantValue := 0 }, { name := "STAR", type := (.object "com/example/bindery/bindery/TokenType"), accessFlags := 16409, slot := 10, constantValue := 0 }, { name := "BANG", type := (.object "com/example/bindery/bindery/TokenType"), accessFlags := 16409, slot := 11, constantValue := 0 }, { name := "BANG_EQUAL", type := (.object "com/example/bindery/bindery/TokenType"), accessFlags := 16409, slot := 12, constantValue := 0 }, { name := "EQUAL", type := (.object "com/example/bindery/bindery/TokenType"), accessFlags := 16409, slot := 13, constantValue := 0 }, { name := "EQUAL_EQUAL", type := (.object "com/example/bindery/bindery/TokenType"), accessFlags := 16409, slot := 14, constantValue := 0 }, { name := "GREATER", type := (.object "com/example/bindery/bindery/TokenType"), accessFlags := 16409, slot := 15, constantValue := 0 }, { name := "GREATER_EQUAL", type := (.object "com/example/bindery/bindery/TokenType"), accessFlags := 16409, slot := 16, constantValue := 0 }, { name := "LESS", type := (.object "com/example/bindery/bindery/TokenType"), accessFlags := 16409, slot := 17, constantValue := 0 }, { name := "LESS_EQUAL", type := (.object "com/example/bindery/bindery/TokenType"), accessFlags := 16409, slot := 18, constantValue := 0 }, { name := "IDENTIFIER", type := (.object "com/example/bindery/bindery/TokenType"), accessFlags := 16409, slot := 19, constantValue := 0 }, { name := "STRING", type := (.object "com/example/bindery/bindery/TokenType"), accessFlags := 16409, slot := 20, constantValue := 0 }, { name := "NUMBER", type := (.object "com/example/bindery/bindery/TokenType"), accessFlags := 16409, slot := 21, constantValue := 0 }, { name := "AND", type := (.object "com/example/bindery/bindery/TokenType"), accessFlags := 16409, slot := 22, constantValue := 0 }, { name := "CLASS", type := (.object "com/example/bindery/bindery/TokenType"), accessFlags := 16409, slot := 23, constantValue := 0 }, { name := "ELSE", type := (.object "com/example/bindery/bindery/TokenType"), accessFlags := 16409, slot := 24, constantValue := 0 }, { name := "FALSE", type := (.object "com/example/bindery/bindery/TokenType"), accessFlags := 16409, slot := 25, constantValue := 0 }, { name := "FOR", type := (.object "com/example/bindery/bindery/TokenType"), accessFlags := 16409, slot := 26, constantValue := 0 }, { name := "FUN", type := (.object "com/example/bindery/bindery/TokenType"), accessFlags := 16409, slot := 27, constantValue := 0 }, { name := "IF", type := (.object "com/example/bindery/bindery/TokenType"), accessFlags := 16409, slot := 28, constantValue := 0 }, { name := "NIL", type := (.object "com/example/bindery/bindery/TokenType"), accessFlags := 16409, slot := 29, constantValue := 0 }, { name := "OR", type := (.object "com/example/bindery/bindery/TokenType"), accessFlags := 16409, slot := 30, constantValue := 0 }, { name := "PRINT", type := (.object "com/example/bindery/bindery/TokenType"), accessFlags := 16409, slot := 31, constantValue := 0 }, { name := "RETURN", type := (.object "com/example/bindery/bindery/TokenType"), accessFlags := 16409, slot := 32, constantValue := 0 }, { name := "SUPER", type := (.object "com/example/bindery/bindery/TokenType"), accessFlags := 16409, slot := 33, constantValue := 0 }, { name := "THIS", type := (.object "com/example/bindery/bindery/TokenType"), accessFlags := 16409, slot := 34, constantValue := 0 }, { name := "TRUE", type := (.object "com/example/bindery/bindery/TokenType"), accessFlags := 16409, slot := 35, constantValue := 0 }, { name := "VAR", type := (.object "com/example/bindery/bindery/TokenType"), accessFlags := 16409, slot := 36, constantValue := 0 }, { name := "WHILE", type := (.object "com/example/bindery/bindery/TokenType"), accessFlags := 16409, slot := 37, constantValue := 0 }, { name := "EOF", type := (.object "com/example/bindery/bindery/TokenType"), accessFlags := 16409, slot := 38, constantValue := 0 }, { name := "$VALUES", type := (.array (.object "com/example/bindery/bindery/TokenType")), accessFlags := 4122, slot := 39, constantValue := 0 }]
  methods := #[]
  instanceTypes := #[(.object "java/lang/String"), .int, .int]
  staticTypes := #[(.object "com/example/bindery/bindery/TokenType"), (.object "com/example/bindery/bindery/TokenType"), (.object "com/example/bindery/bindery/TokenType"), (.object "com/example/bindery/bindery/TokenType"), (.object "com/example/bindery/bindery/TokenType"), (.object "com/example/bindery/bindery/TokenType"), (.object "com/example/bindery/bindery/TokenType"), (.object "com/example/bindery/bindery/TokenType"), (.object "com/example/bindery/bindery/TokenType"), (.object "com/example/bindery/bindery/TokenType"), (.object "com/example/bindery/bindery/TokenType"), (.object "com/example/bindery/bindery/TokenType"), (.object "com/example/bindery/bindery/TokenType"), (.object "com/example/bindery/bindery/TokenType"), (.object "com/example/bindery/bindery/TokenType"), (.object "com/example/bindery/bindery/TokenType"), (.object "com/example/bindery/bindery/TokenType"), (.object "com/example/bindery/bindery/TokenType"), (.object "com/example/bindery/bindery/TokenType"), (.object "com/example/bindery/bindery/TokenType"), (.object "com/example/bindery/bindery/TokenType"), (.object "com/example/bindery/bindery/TokenType"), (.object "com/example/bindery/bindery/TokenType"), (.object "com/example/bindery/bindery/TokenType"), (.object "com/example/bindery/bindery/TokenType"), (.object "com/example/bindery/bindery/TokenType"), (.object "com/example/bindery/bindery/TokenType"), (.object "com/example/bindery/bindery/TokenType"), (.object "com/example/bindery/bindery/TokenType"), (.object "com/example/bindery/bindery/TokenType"), (.object "com/example/bindery/bindery/TokenType"), (.object "com/example/bindery/bindery/TokenType"), (.object "com/example/bindery/bindery/TokenType"), (.object "com/example/bindery/bindery/TokenType"), (.object "com/example/bindery/bindery/TokenType"), (.object "com/example/bindery/bindery/TokenType"), (.object "com/example/bindery/bindery/TokenType"), (.object "com/example/bindery/bindery/TokenType"), (.object "com/example/bindery/bindery/TokenType"), (.array (.object "com/example/bindery/bindery/TokenType"))]
  resolved := Array.replicate 195 none
  statics := some 1 }

def pool16 : Array CpInfo := pool [(4, .class_ 6), (1, u "java/lang/Object"), (0, u "<init>"), (0, u "()V"), (5, .class_ 16), (1, u "java/lang/StringLatin1"), (104, u "$assertionsDisabled"), (0, u "Z"), (98, .class_ 223), (1, u "java/lang/StringLatin1$LinesSpliterator"), (166, .class_ 391), (0, u "java/lang/StringLatin1$CharsSpliterator")] 3

def k16m0 : Method := { name := "<init>", desc := "()V", sig := { parameters := [], returnType := none }, accessFlags := 0, code := none }
/-- java/lang/StringLatin1 -/
def k16 : Class := { plain "java/lang/StringLatin1" (some 0) with
  accessFlags := 48
  interfaces := #[]
  cf := some (fileOf pool16 14 #[.nestMembers #[390, 221]] #[{ accessFlags := 0, nameIndex := 7, descriptorIndex := 8, attributes := #[] }] 48 4 #[] #[{ accessFlags := 4120, nameIndex := 121, descriptorIndex := 122, attributes := #[] }])
  fields := #[{ name := "$assertionsDisabled", type := .boolean, accessFlags := 4120, slot := 0, constantValue := 0 }]
  methods := #[k16m0]
  instanceTypes := #[]
  staticTypes := #[.boolean]
  resolved := Array.replicate 395 none
  statics := none }

def pool17 : Array CpInfo := pool [(2, .class_ 4), (1, u "java/lang/Object"), (0, u "<init>"), (0, u "()V"), (17, .class_ 26), (1, u "jdk/internal/util/Preconditions"), (28, .class_ 56), (0, u "jdk/internal/util/Preconditions$4"), (57, .class_ 115), (0, u "jdk/internal/util/Preconditions$1"), (7, u "SIOOBE_FORMATTER"), (0, u "Ljava/util/function/BiFunction;"), (0, .class_ 126), (0, u "jdk/internal/util/Preconditions$2"), (3, u "AIOOBE_FORMATTER"), (0, .class_ 132), (0, u "jdk/internal/util/Preconditions$3"), (3, u "IOOBE_FORMATTER")] 57

def k17m0 : Method := { name := "<init>", desc := "()V", sig := { parameters := [], returnType := none }, accessFlags := 1, code := none }
/-- jdk/internal/util/Preconditions -/
def k17 : Class := { plain "jdk/internal/util/Preconditions" (some 0) with
  accessFlags := 33
  interfaces := #[]
  cf := some (fileOf pool17 24 #[.nestMembers #[55, 131, 125, 114]] #[{ accessFlags := 1, nameIndex := 5, descriptorIndex := 6, attributes := #[] }] 33 2 #[] #[{ accessFlags := 25, nameIndex := 123, descriptorIndex := 124, attributes := #[] }, { accessFlags := 25, nameIndex := 130, descriptorIndex := 124, attributes := #[] }, { accessFlags := 25, nameIndex := 136, descriptorIndex := 124, attributes := #[] }])
  fields := #[{ name := "SIOOBE_FORMATTER", type := (.object "java/util/function/BiFunction"), accessFlags := 25, slot := 0, constantValue := 0 }, { name := "AIOOBE_FORMATTER", type := (.object "java/util/function/BiFunction"), accessFlags := 25, slot := 1, constantValue := 0 }, { name := "IOOBE_FORMATTER", type := (.object "java/util/function/BiFunction"), accessFlags := 25, slot := 2, constantValue := 0 }]
  methods := #[k17m0]
  instanceTypes := #[]
  staticTypes := #[(.object "java/util/function/BiFunction"), (.object "java/util/function/BiFunction"), (.object "java/util/function/BiFunction")]
  resolved := Array.replicate 194 none
  statics := some 2 }

def pool18 : Array CpInfo := pool [(9, u "<init>"), (6, .class_ 18), (1, u "java/lang/Object"), (0, u "()V"), (1, .class_ 23), (1, u "jdk/internal/util/ArraysSupport"), (0, u "LOG2_ARRAY_LONG_INDEX_SCALE"), (0, u "I"), (2, u "U"), (0, u "Ljdk/internal/misc/Unsafe;"), (8, u "BIG_ENDIAN"), (0, u "Z"), (8, u "LOG2_BYTE_BIT_SIZE"), (4, u "LOG2_ARRAY_INT_INDEX_SCALE"), (54, u "JLA"), (0, u "Ljdk/internal/access/JavaLangAccess;"), (11, u "LOG2_ARRAY_BOOLEAN_INDEX_SCALE"), (9, u "LOG2_ARRAY_BYTE_INDEX_SCALE"), (5, u "LOG2_ARRAY_CHAR_INDEX_SCALE"), (5, u "LOG2_ARRAY_SHORT_INDEX_SCALE"), (18, u "LOG2_ARRAY_FLOAT_INDEX_SCALE"), (24, u "LOG2_ARRAY_DOUBLE_INDEX_SCALE"), (89, u "T_BOOLEAN"), (2, u "T_CHAR"), (1, u "T_FLOAT"), (1, u "T_DOUBLE"), (1, u "T_BYTE"), (1, u "T_SHORT"), (1, u "T_INT"), (1, u "T_LONG"), (1, u "SOFT_MAX_ARRAY_LENGTH")] 83

def k18m0 : Method := { name := "<init>", desc := "()V", sig := { parameters := [], returnType := none }, accessFlags := 2, code := none }
/-- jdk/internal/util/ArraysSupport -/
def k18 : Class := { plain "jdk/internal/util/ArraysSupport" (some 0) with
  accessFlags := 33
  interfaces := #[]
  cf := some (fileOf pool18 21 #[] #[{ accessFlags := 2, nameIndex := 9, descriptorIndex := 19, attributes := #[] }] 33 16 #[] #[{ accessFlags := 24, nameIndex := 28, descriptorIndex := 29, attributes := #[] }, { accessFlags := 26, nameIndex := 38, descriptorIndex := 39, attributes := #[] }, { accessFlags := 25, nameIndex := 121, descriptorIndex := 25, attributes := #[] }, { accessFlags := 25, nameIndex := 131, descriptorIndex := 25, attributes := #[] }, { accessFlags := 25, nameIndex := 137, descriptorIndex := 25, attributes := #[] }, { accessFlags := 25, nameIndex := 143, descriptorIndex := 25, attributes := #[] }, { accessFlags := 25, nameIndex := 53, descriptorIndex := 25, attributes := #[] }, { accessFlags := 25, nameIndex := 24, descriptorIndex := 25, attributes := #[] }, { accessFlags := 25, nameIndex := 162, descriptorIndex := 25, attributes := #[] }, { accessFlags := 25, nameIndex := 187, descriptorIndex := 25, attributes := #[] }, { accessFlags := 26, nameIndex := 48, descriptorIndex := 25, attributes := #[] }, { accessFlags := 25, nameIndex := 277, descriptorIndex := 25, attributes := #[] }, { accessFlags := 25, nameIndex := 280, descriptorIndex := 25, attributes := #[] }, { accessFlags := 25, nameIndex := 282, descriptorIndex := 25, attributes := #[] }, { accessFlags := 25, nameIndex := 284, descriptorIndex := 25, attributes := #[] }, { accessFlags := 25, nameIndex := 286, descriptorIndex := 25, attributes := #[] }, { accessFlags := 25, nameIndex := 288, descriptorIndex := 25, attributes := #[] }, { accessFlags := 25, nameIndex := 290, descriptorIndex := 25, attributes := #[] }, { accessFlags := 25, nameIndex := 292, descriptorIndex := 25, attributes := #[] }, { accessFlags := 26, nameIndex := 108, descriptorIndex := 109, attributes := #[] }, { accessFlags := 25, nameIndex := 294, descriptorIndex := 25, attributes := #[] }])
  fields := #[{ name := "U", type := (.object "jdk/internal/misc/Unsafe"), accessFlags := 24, slot := 0, constantValue := 0 }, { name := "BIG_ENDIAN", type := .boolean, accessFlags := 26, slot := 1, constantValue := 0 }, { name := "LOG2_ARRAY_BOOLEAN_INDEX_SCALE", type := .int, accessFlags := 25, slot := 2, constantValue := 0 }, { name := "LOG2_ARRAY_BYTE_INDEX_SCALE", type := .int, accessFlags := 25, slot := 3, constantValue := 0 }, { name := "LOG2_ARRAY_CHAR_INDEX_SCALE", type := .int, accessFlags := 25, slot := 4, constantValue := 0 }, { name := "LOG2_ARRAY_SHORT_INDEX_SCALE", type := .int, accessFlags := 25, slot := 5, constantValue := 0 }, { name := "LOG2_ARRAY_INT_INDEX_SCALE", type := .int, accessFlags := 25, slot := 6, constantValue := 0 }, { name := "LOG2_ARRAY_LONG_INDEX_SCALE", type := .int, accessFlags := 25, slot := 7, constantValue := 0 }, { name := "LOG2_ARRAY_FLOAT_INDEX_SCALE", type := .int, accessFlags := 25, slot := 8, constantValue := 0 }, { name := "LOG2_ARRAY_DOUBLE_INDEX_SCALE", type := .int, accessFlags := 25, slot := 9, constantValue := 0 }, { name := "LOG2_BYTE_BIT_SIZE", type := .int, accessFlags := 26, slot := 10, constantValue := 0 }, { name := "T_BOOLEAN", type := .int, accessFlags := 25, slot := 11, constantValue := 0 }, { name := "T_CHAR", type := .int, accessFlags := 25, slot := 12, constantValue := 0 }, { name := "T_FLOAT", type := .int, accessFlags := 25, slot := 13, constantValue := 0 }, { name := "T_DOUBLE", type := .int, accessFlags := 25, slot := 14, constantValue := 0 }, { name := "T_BYTE", type := .int, accessFlags := 25, slot := 15, constantValue := 0 }, { name := "T_SHORT", type := .int, accessFlags := 25, slot := 16, constantValue := 0 }, { name := "T_INT", type := .int, accessFlags := 25, slot := 17, constantValue := 0 }, { name := "T_LONG", type := .int, accessFlags := 25, slot := 18, constantValue := 0 }, { name := "JLA", type := (.object "jdk/internal/access/JavaLangAccess"), accessFlags := 26, slot := 19, constantValue := 0 }, { name := "SOFT_MAX_ARRAY_LENGTH", type := .int, accessFlags := 25, slot := 20, constantValue := 0 }]
  methods := #[k18m0]
  instanceTypes := #[]
  staticTypes := #[(.object "jdk/internal/misc/Unsafe"), .boolean, .int, .int, .int, .int, .int, .int, .int, .int, .int, .int, .int, .int, .int, .int, .int, .int, .int, (.object "jdk/internal/access/JavaLangAccess"), .int]
  resolved := Array.replicate 378 none
  statics := none }

def pool19 : Array CpInfo := pool [(1, u "java/lang/Cloneable"), (0, .class_ 1), (0, u "java/lang/Object"), (0, .class_ 3)] 3

/-- java/lang/Cloneable -/
def k19 : Class := { plain "java/lang/Cloneable" (some 0) with
  accessFlags := 1537
  interfaces := #[]
  cf := some (fileOf pool19 2 #[] #[] 1537 4 #[] #[])
  fields := #[]
  methods := #[]
  instanceTypes := #[]
  staticTypes := #[]
  resolved := Array.replicate 8 none
  statics := none }

/-- the primitive byte -/
def k20 : Class := { plain "byte" none with kind := .primitive 'B', accessFlags := 0x411 }
/-- [B -/
def k21 : Class := { plain "[B" (some 0) with kind := .array 20 .byte, interfaces := #[19, 2], accessFlags := 1041 }

/-- the primitive char -/
def k22 : Class := { plain "char" none with kind := .primitive 'C', accessFlags := 0x411 }
/-- [C -/
def k23 : Class := { plain "[C" (some 0) with kind := .array 22 .char, interfaces := #[19, 2], accessFlags := 1041 }

/-- the primitive int -/
def k24 : Class := { plain "int" none with kind := .primitive 'I', accessFlags := 0x411 }
/-- [I -/
def k25 : Class := { plain "[I" (some 0) with kind := .array 24 .int, interfaces := #[19, 2], accessFlags := 1041 }

def heap : Heap := #[{ cls := 7, slots := #[.long 0, .int 1, .null, .int 0, .null, .int 0, .int 0], vm := .statics 7 },
  { cls := 15, slots := #[.null, .null, .null, .null, .null, .null, .null, .null, .null, .null, .null, .null, .null, .null, .null, .null, .null, .null, .null, .ref 3, .null, .null, .null, .null, .null, .null, .null, .null, .null, .null, .null, .null, .null, .null, .null, .null, .null, .null, .null, .null], vm := .statics 15 },
  { cls := 17, slots := #[.null, .null, .null], vm := .statics 17 },
  { cls := 15, slots := #[.null, .int 0, .int 0], vm := .none }]
def classes : Array Class := #[k0, k1, k2, k3, k4, k5, k6, k7, k8, k9, k10, k11, k12, k13, k14, k15, k16, k17, k18, k19, k20, k21, k22, k23, k24, k25]
def interned : List (Array UInt16 × Addr) := []
def slotsUsed : Nat := 53
def theMethod : MethodId := ⟨1, 2⟩
def args0 : Array Value := #[.int 5, .int 2, .int 7]
def aboutOver (below : List Frame) : State where
  vm := { classes := classes, interned := interned.toArray }
  heap := heap
  slotsUsed := slotsUsed
  threads := #[{ frames := .invoking theMethod args0 :: below }]
def below0 : List Frame := [.native { method := ⟨0, 0⟩, args := #[] }]
def about1 : State := aboutOver below0
def p0 : Program := .bare "" "" ""
def e0 : Env := launch0.env 0 0 0
theorem w_frames : about1.frames = Frame.invoking theMethod args0 :: below0 := rfl
set_option maxRecDepth 65536 in
theorem w_args : argsFit about1.vm theMethod args0 = true := by decide +kernel
set_option maxRecDepth 65536 in
theorem w_heap : heapFits about1 = true := by decide +kernel
set_option maxRecDepth 65536 in
theorem w_runnable : about1.curStatus? = some .runnable := by decide +kernel
set_option maxRecDepth 65536 in
theorem w_alone : about1.alone = true := by decide +kernel
set_option maxRecDepth 65536 in
theorem w_named : about1.methodNamed? x = some theMethod := by decide +kernel
set_option maxRecDepth 65536 in
theorem w_hears : about1.hears theMethod below0 = true := by decide +kernel
set_option maxRecDepth 65536 in
theorem w_ripe : about1.ripe theMethod args0 below0 = true := by decide +kernel
theorem w_running : about1.status = .running := rfl
set_option maxRecDepth 65536 in
theorem w_room : about1.hasRoom e0.platform room_1 = true :=
  launch0.hasRoom_least _ room_1 (by decide +kernel) (by decide +kernel) (by decide +kernel) (by decide +kernel) (by decide +kernel) (by decide +kernel)
theorem allAtoms_all (ts : List Jvm.Cond) (a : Array Jvm.Value) (st : Jvm.State) : (allAtoms ts).before a st = ts.all (fun c => c.before a st) := by
  induction ts with
  | nil => rfl
  | cons c t ih =>
    show (Jvm.Cond.and c (allAtoms t)).before a st = _
    rw [Jvm.Cond.before_and, ih, List.all_cons]
def words1 : List Jvm.Cond := Jvm.Cond.code x code maxLocals ret :: tables_1
/-- a 'code' word, met by the world's own term for the bytes: nothing is compared byte by byte -/
theorem code_word {y : MethodName} {bytes : ByteArray} {mx : Nat} {rt : Option FieldType} {a : Array Value} {s : State} {m : MethodId} {meth : Method} {c : Code} (h1 : s.methodNamed? y = some m) (h2 : s.vm.method? m = some meth) (h3 : meth.code = some c) (h4 : c.code = bytes)
    (h5 : (c.maxLocals == mx && c.exceptionTable.isEmpty && decide (c.maxStack ≤ mostOperands) && decide (meth.sig.returnType = rt) && !meth.locks && decide (parseMethodDescriptor y.desc = some meth.sig)) = true) : (Jvm.Cond.code y bytes mx rt).before a s = true := by
  simp only [Bool.and_eq_true, beq_iff_eq, Bool.not_eq_true', decide_eq_true_eq] at h5
  obtain ⟨⟨⟨⟨⟨g1, g2⟩, g3⟩, g4⟩, g5⟩, g6⟩ := h5
  simp [Cond.before, Cond.holds, Cond.value, h1, h2, h3, h4, g1, g2, g3, g4, g5, g6]
def isCode : Jvm.Cond → Bool
  | .code _ _ _ _ => true
  | _ => false
theorem all_split {L : List Jvm.Cond} {P : Jvm.Cond → Bool} (h1 : L.all (fun c => isCode c || P c) = true) (h2 : ∀ c ∈ L.filter isCode, P c = true) : L.all P = true := by
  refine List.all_eq_true.mpr fun c hc => ?_
  have h := List.all_eq_true.mp h1 c hc
  rcases Bool.eq_false_or_eq_true (isCode c) with hi | hi
  · exact h2 c (List.mem_filter.mpr ⟨hc, hi⟩)
  · simpa [hi] using h
set_option maxRecDepth 65536 in
theorem w_c0 : (Jvm.Cond.code x code maxLocals ret).before args0 about1 = true := code_word (m := ⟨1, 2⟩) (meth := k1m2) (c := k1c2) (by decide +kernel) rfl rfl rfl (by decide +kernel)
set_option maxRecDepth 65536 in
theorem w_c1 : (Jvm.Cond.code ({ cls := "com/example/bindery/bindery/NamedTokenPinLaw", name := "text", desc := "(II)Ljava/lang/String;" } : Jvm.MethodName) method_2_code (5 : Nat) (Option.some (Jvm.ClassFile.FieldType.object "java/lang/String"))).before args0 about1 = true := code_word (m := ⟨1, 1⟩) (meth := k1m1) (c := k1c1) (by decide +kernel) rfl rfl rfl (by decide +kernel)
set_option maxRecDepth 65536 in
theorem w_c2 : (Jvm.Cond.code ({ cls := "java/lang/String", name := "<init>", desc := "([C)V" } : Jvm.MethodName) jdk_42_method_3_code (2 : Nat) (Option.none : Option Jvm.ClassFile.FieldType)).before args0 about1 = true := code_word (m := ⟨7, 1⟩) (meth := k7m1) (c := k7c1) (by decide +kernel) rfl rfl rfl (by decide +kernel)
set_option maxRecDepth 65536 in
theorem w_c3 : (Jvm.Cond.code ({ cls := "java/lang/String", name := "<init>", desc := "([CIILjava/lang/Void;)V" } : Jvm.MethodName) jdk_42_method_149_code (6 : Nat) (Option.none : Option Jvm.ClassFile.FieldType)).before args0 about1 = true := code_word (m := ⟨7, 3⟩) (meth := k7m3) (c := k7c3) (by decide +kernel) rfl rfl rfl (by decide +kernel)
set_option maxRecDepth 65536 in
theorem w_c4 : (Jvm.Cond.code ({ cls := "java/lang/Object", name := "<init>", desc := "()V" } : Jvm.MethodName) object_method_1_code (1 : Nat) (Option.none : Option Jvm.ClassFile.FieldType)).before args0 about1 = true := code_word (m := ⟨0, 0⟩) (meth := k0m0) (c := k0c0) (by decide +kernel) rfl rfl rfl (by decide +kernel)
set_option maxRecDepth 65536 in
theorem w_c5 : (Jvm.Cond.code ({ cls := "java/lang/StringUTF16", name := "compress", desc := "([CII)[B" } : Jvm.MethodName) jdk_52_method_16_code (6 : Nat) (Option.some (Jvm.ClassFile.FieldType.array Jvm.ClassFile.FieldType.byte))).before args0 about1 = true := code_word (m := ⟨8, 2⟩) (meth := k8m2) (c := k8c2) (by decide +kernel) rfl rfl rfl (by decide +kernel)
set_option maxRecDepth 65536 in
theorem w_c6 : (Jvm.Cond.code ({ cls := "java/lang/StringUTF16", name := "compress", desc := "([CI[BII)I" } : Jvm.MethodName) jdk_52_method_21_code (7 : Nat) (Option.some Jvm.ClassFile.FieldType.int)).before args0 about1 = true := code_word (m := ⟨8, 3⟩) (meth := k8m3) (c := k8c3) (by decide +kernel) rfl rfl rfl (by decide +kernel)
set_option maxRecDepth 65536 in
theorem w_c7 : (Jvm.Cond.code ({ cls := "java/lang/StringUTF16", name := "coderFromArrayLen", desc := "([BI)B" } : Jvm.MethodName) jdk_52_method_15_code (2 : Nat) (Option.some Jvm.ClassFile.FieldType.byte)).before args0 about1 = true := code_word (m := ⟨8, 1⟩) (meth := k8m1) (c := k8c1) (by decide +kernel) rfl rfl rfl (by decide +kernel)
set_option maxRecDepth 65536 in
theorem w_c8 : (Jvm.Cond.code ({ cls := "com/example/bindery/bindery/Expr$Variable", name := "<init>", desc := "(Ljava/lang/String;I)V" } : Jvm.MethodName) prog_14_method_1_code (3 : Nat) (Option.none : Option Jvm.ClassFile.FieldType)).before args0 about1 = true := code_word (m := ⟨11, 0⟩) (meth := k11m0) (c := k11c0) (by decide +kernel) rfl rfl rfl (by decide +kernel)
set_option maxRecDepth 65536 in
theorem w_c9 : (Jvm.Cond.code ({ cls := "com/example/bindery/bindery/Named", name := "<init>", desc := "(Ljava/lang/String;I)V" } : Jvm.MethodName) prog_25_method_1_code (3 : Nat) (Option.none : Option Jvm.ClassFile.FieldType)).before args0 about1 = true := code_word (m := ⟨9, 0⟩) (meth := k9m0) (c := k9c0) (by decide +kernel) rfl rfl rfl (by decide +kernel)
set_option maxRecDepth 65536 in
theorem w_c10 : (Jvm.Cond.code ({ cls := "com/example/bindery/bindery/Named", name := "token", desc := "()Lcom/example/bindery/bindery/Token;" } : Jvm.MethodName) prog_25_method_4_code (1 : Nat) (Option.some (Jvm.ClassFile.FieldType.object "com/example/bindery/bindery/Token"))).before args0 about1 = true := code_word (m := ⟨9, 1⟩) (meth := k9m1) (c := k9c1) (by decide +kernel) rfl rfl rfl (by decide +kernel)
set_option maxRecDepth 65536 in
theorem w_c11 : (Jvm.Cond.code ({ cls := "com/example/bindery/bindery/Token", name := "<init>", desc := "(Lcom/example/bindery/bindery/TokenType;Ljava/lang/String;I)V" } : Jvm.MethodName) prog_47_method_1_code (4 : Nat) (Option.none : Option Jvm.ClassFile.FieldType)).before args0 about1 = true := code_word (m := ⟨13, 0⟩) (meth := k13m0) (c := k13c0) (by decide +kernel) rfl rfl rfl (by decide +kernel)
set_option maxRecDepth 65536 in
theorem w_c12 : (Jvm.Cond.code ({ cls := "java/lang/Record", name := "<init>", desc := "()V" } : Jvm.MethodName) jdk_30_method_1_code (1 : Nat) (Option.none : Option Jvm.ClassFile.FieldType)).before args0 about1 = true := code_word (m := ⟨12, 0⟩) (meth := k12m0) (c := k12c0) (by decide +kernel) rfl rfl rfl (by decide +kernel)
set_option maxRecDepth 65536 in
theorem w_c13 : (Jvm.Cond.code ({ cls := "com/example/bindery/bindery/Token", name := "type", desc := "()Lcom/example/bindery/bindery/TokenType;" } : Jvm.MethodName) prog_47_method_5_code (1 : Nat) (Option.some (Jvm.ClassFile.FieldType.object "com/example/bindery/bindery/TokenType"))).before args0 about1 = true := code_word (m := ⟨13, 1⟩) (meth := k13m1) (c := k13c1) (by decide +kernel) rfl rfl rfl (by decide +kernel)
set_option maxRecDepth 65536 in
theorem w_c14 : (Jvm.Cond.code ({ cls := "com/example/bindery/bindery/Token", name := "lexeme", desc := "()Ljava/lang/String;" } : Jvm.MethodName) prog_47_method_6_code (1 : Nat) (Option.some (Jvm.ClassFile.FieldType.object "java/lang/String"))).before args0 about1 = true := code_word (m := ⟨13, 2⟩) (meth := k13m2) (c := k13c2) (by decide +kernel) rfl rfl rfl (by decide +kernel)
set_option maxRecDepth 65536 in
theorem w_c15 : (Jvm.Cond.code ({ cls := "java/lang/String", name := "equals", desc := "(Ljava/lang/Object;)Z" } : Jvm.MethodName) jdk_42_method_66_code (3 : Nat) (Option.some Jvm.ClassFile.FieldType.boolean)).before args0 about1 = true := code_word (m := ⟨7, 2⟩) (meth := k7m2) (c := k7c2) (by decide +kernel) rfl rfl rfl (by decide +kernel)
set_option maxRecDepth 65536 in
theorem w_c16 : (Jvm.Cond.code ({ cls := "com/example/bindery/bindery/Token", name := "line", desc := "()I" } : Jvm.MethodName) prog_47_method_7_code (1 : Nat) (Option.some Jvm.ClassFile.FieldType.int)).before args0 about1 = true := code_word (m := ⟨13, 3⟩) (meth := k13m3) (c := k13c3) (by decide +kernel) rfl rfl rfl (by decide +kernel)
def codes1 : List Jvm.Cond := [Jvm.Cond.code x code maxLocals ret, Jvm.Cond.code ({ cls := "com/example/bindery/bindery/NamedTokenPinLaw", name := "text", desc := "(II)Ljava/lang/String;" } : Jvm.MethodName) method_2_code (5 : Nat) (Option.some (Jvm.ClassFile.FieldType.object "java/lang/String")), Jvm.Cond.code ({ cls := "java/lang/String", name := "<init>", desc := "([C)V" } : Jvm.MethodName) jdk_42_method_3_code (2 : Nat) (Option.none : Option Jvm.ClassFile.FieldType), Jvm.Cond.code ({ cls := "java/lang/String", name := "<init>", desc := "([CIILjava/lang/Void;)V" } : Jvm.MethodName) jdk_42_method_149_code (6 : Nat) (Option.none : Option Jvm.ClassFile.FieldType), Jvm.Cond.code ({ cls := "java/lang/Object", name := "<init>", desc := "()V" } : Jvm.MethodName) object_method_1_code (1 : Nat) (Option.none : Option Jvm.ClassFile.FieldType), Jvm.Cond.code ({ cls := "java/lang/StringUTF16", name := "compress", desc := "([CII)[B" } : Jvm.MethodName) jdk_52_method_16_code (6 : Nat) (Option.some (Jvm.ClassFile.FieldType.array Jvm.ClassFile.FieldType.byte)), Jvm.Cond.code ({ cls := "java/lang/StringUTF16", name := "compress", desc := "([CI[BII)I" } : Jvm.MethodName) jdk_52_method_21_code (7 : Nat) (Option.some Jvm.ClassFile.FieldType.int), Jvm.Cond.code ({ cls := "java/lang/StringUTF16", name := "coderFromArrayLen", desc := "([BI)B" } : Jvm.MethodName) jdk_52_method_15_code (2 : Nat) (Option.some Jvm.ClassFile.FieldType.byte), Jvm.Cond.code ({ cls := "com/example/bindery/bindery/Expr$Variable", name := "<init>", desc := "(Ljava/lang/String;I)V" } : Jvm.MethodName) prog_14_method_1_code (3 : Nat) (Option.none : Option Jvm.ClassFile.FieldType), Jvm.Cond.code ({ cls := "com/example/bindery/bindery/Named", name := "<init>", desc := "(Ljava/lang/String;I)V" } : Jvm.MethodName) prog_25_method_1_code (3 : Nat) (Option.none : Option Jvm.ClassFile.FieldType), Jvm.Cond.code ({ cls := "com/example/bindery/bindery/Named", name := "token", desc := "()Lcom/example/bindery/bindery/Token;" } : Jvm.MethodName) prog_25_method_4_code (1 : Nat) (Option.some (Jvm.ClassFile.FieldType.object "com/example/bindery/bindery/Token")), Jvm.Cond.code ({ cls := "com/example/bindery/bindery/Token", name := "<init>", desc := "(Lcom/example/bindery/bindery/TokenType;Ljava/lang/String;I)V" } : Jvm.MethodName) prog_47_method_1_code (4 : Nat) (Option.none : Option Jvm.ClassFile.FieldType), Jvm.Cond.code ({ cls := "java/lang/Record", name := "<init>", desc := "()V" } : Jvm.MethodName) jdk_30_method_1_code (1 : Nat) (Option.none : Option Jvm.ClassFile.FieldType), Jvm.Cond.code ({ cls := "com/example/bindery/bindery/Token", name := "type", desc := "()Lcom/example/bindery/bindery/TokenType;" } : Jvm.MethodName) prog_47_method_5_code (1 : Nat) (Option.some (Jvm.ClassFile.FieldType.object "com/example/bindery/bindery/TokenType")), Jvm.Cond.code ({ cls := "com/example/bindery/bindery/Token", name := "lexeme", desc := "()Ljava/lang/String;" } : Jvm.MethodName) prog_47_method_6_code (1 : Nat) (Option.some (Jvm.ClassFile.FieldType.object "java/lang/String")), Jvm.Cond.code ({ cls := "java/lang/String", name := "equals", desc := "(Ljava/lang/Object;)Z" } : Jvm.MethodName) jdk_42_method_66_code (3 : Nat) (Option.some Jvm.ClassFile.FieldType.boolean), Jvm.Cond.code ({ cls := "com/example/bindery/bindery/Token", name := "line", desc := "()I" } : Jvm.MethodName) prog_47_method_7_code (1 : Nat) (Option.some Jvm.ClassFile.FieldType.int)]
set_option maxRecDepth 65536 in
theorem codes_eq : words1.filter isCode = codes1 := rfl
theorem w_codes : ∀ c ∈ words1.filter isCode, c.before args0 about1 = true := by
  rw [codes_eq]
  intro c hc
  simp only [codes1, List.mem_cons, List.not_mem_nil, or_false] at hc
  rcases hc with rfl | rfl | rfl | rfl | rfl | rfl | rfl | rfl | rfl | rfl | rfl | rfl | rfl | rfl | rfl | rfl | rfl
  · exact w_c0
  · exact w_c1
  · exact w_c2
  · exact w_c3
  · exact w_c4
  · exact w_c5
  · exact w_c6
  · exact w_c7
  · exact w_c8
  · exact w_c9
  · exact w_c10
  · exact w_c11
  · exact w_c12
  · exact w_c13
  · exact w_c14
  · exact w_c15
  · exact w_c16
set_option maxRecDepth 65536 in
theorem w_t1 : (words1.take 24).all (fun c => isCode c || c.before args0 about1) = true := by decide +kernel
set_option maxRecDepth 65536 in
theorem w_t2 : ((words1.drop 24).take 24).all (fun c => isCode c || c.before args0 about1) = true := by decide +kernel
set_option maxRecDepth 65536 in
theorem w_t3 : (((words1.drop 24).drop 24).take 24).all (fun c => isCode c || c.before args0 about1) = true := by decide +kernel
set_option maxRecDepth 65536 in
theorem w_t4 : ((((words1.drop 24).drop 24).drop 24).take 24).all (fun c => isCode c || c.before args0 about1) = true := by decide +kernel
set_option maxRecDepth 65536 in
theorem w_t5 : ((((words1.drop 24).drop 24).drop 24).drop 24).all (fun c => isCode c || c.before args0 about1) = true := by decide +kernel
theorem w_tables : (allAtoms (Jvm.Cond.code x code maxLocals ret :: tables_1)).before args0 about1 = true := by
  rw [allAtoms_all]
  show words1.all (fun c => c.before args0 about1) = true
  refine all_split ?_ w_codes
  rw [← List.take_append_drop 24 words1, List.all_append, w_t1, ← List.take_append_drop 24 (words1.drop 24), List.all_append, w_t2, ← List.take_append_drop 24 ((words1.drop 24).drop 24), List.all_append, w_t3, ← List.take_append_drop 24 (((words1.drop 24).drop 24).drop 24), List.all_append, w_t4, w_t5]
  rfl
set_option maxRecDepth 65536 in
theorem w_rest : rest_1_c.before args0 about1 = true := by decide +kernel
set_option maxRecDepth 65536 in
theorem w_case : (Jvm.Cond.and given_1 narrow_1).before args0 about1 = true := by decide +kernel
set_option maxRecDepth 65536 in
theorem w_consts : constsHeld consts_1 about1 := Jvm.Lit.constsHeldB_iff.mp (by decide +kernel)
theorem w_applies : (headSpec (Jvm.Cond.code x code maxLocals ret :: tables_1) room_1).applies x e0.platform about1 = true :=
  (Spec.applies_iff w_frames).mpr ⟨w_running, w_runnable, w_alone, w_named, w_hears, w_ripe, w_room, w_tables⟩
theorem atStart : AtStart classFile x code maxLocals ret World_1 tables_1 room_1 Calls_1 rest_1 Pre_1 launch0 p0 e0 about1 theMethod args0 below0 :=
  ⟨lists_1, trivial, launch0.admits_env _ _ _, launch0.least_env, fairChoices_fair.cas, fairChoices_fair.clock, w_frames, w_args, w_heap, w_applies, ⟨w_consts, trivial⟩, w_rest, w_case⟩
end start1
theorem witness_1 : WitnessClaimed_1 := ⟨start1.p0, start1.e0, start1.about1, start1.theMethod, start1.args0, start1.below0, start1.atStart⟩
end Jvm.Pilot.@@N@@
