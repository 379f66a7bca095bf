import JvmDerived
import JvmDerived.Pilot.@@N@@Statement
import JvmDerived.Pilot.@@N@@Code
set_option linter.unusedVariables false
set_option linter.unusedSimpArgs false
namespace Jvm.Own
open Sem ClassFile Op Lib Jvm.Free Jvm.Stand Jvm.LawKit Jvm.RoadKit Bundle
/-- the walk of a method's body from one point on: it ends in a return that answers Q -/
def Go (p : Program) (l : Launch) (e : Env) (R : Room) (s : State) (m : MethodId) (args : Array Value) (below : List Frame) (meth : Method) (c : Code) (Z : State) (a0 : Array Value) (EL : List (String × Nat)) (nw : Prop) (Q : Option Value → Vm → Heap → Prop)
    (vm : Vm) (h : Heap) (k n pc : Nat) (L : Array Slot) (st : List Value) : Prop :=
  ∀ (T : State) (locs : List Loc) (k0 : Nat), p.tables.exec = Jvm.exec → meth.locks = false → EW Z a0 EL →
    Stand p l e R (s.setVm vm) m args below meth c T locs k n → T.heap = h → s.Since vm k0 → k0 ≤ h.size → Fr Z.heap.size locs → Z.Warmed39 vm → (nw → s.WarmedH vm) → CHr Z EL s.vm s.heap vm h → Ext Z.heap h →
    ∃ (t : State) (v : Option Value) (L' : List Loc), Steps p.tables e below (T.setTop (mkF m pc L st)) t ∧ t.status = .running ∧ Ended t below (.returned v) ∧ Fr Z.heap.size L' ∧ Q v t.vm t.heap ∧ CHr Z EL s.vm s.heap t.vm t.heap ∧ Ext Z.heap t.heap ∧ ReturnedEndW s (.returned v) t L' R.cells R.slots ∧ (nw → s.WarmedH t.vm)
/-- a method's contract at one call: these arguments, this heap; sf: what it may write of Strings and byte arrays -/
def Ct (l : Launch) (Z : State) (EL : List (String × Nat)) (nw : Prop) (ws : List Jvm.Cond) (y : MethodName) (bytes : ByteArray) (maxL : Nat) (ret : Option FieldType) (rm : Room) (as : Array Value) (h : Heap) (sf : List Addr) (Q : Option Value → Vm → Heap → Prop) : Prop :=
  MetFree l y (head1 (Jvm.Cond.code y bytes maxL ret :: ws) rm) (fun a U => a = as ∧ Z.Warmed39 U.vm ∧ U.heap = h ∧ CHv Z EL U.vm h ∧ Ext Z.heap h ∧ ∀ x ∈ sf, Safe Z EL U.vm h x) (fun _ _ _ _ _ => True)
    (fun _ U o U' => ∃ v L, o = .returned v ∧ Fr Z.heap.size L ∧ Q v U'.vm U'.heap ∧ CHr Z EL U.vm U.heap U'.vm U'.heap ∧ Ext Z.heap U'.heap ∧ (nw → U.WarmedH U'.vm) ∧ ReturnedEndW U o U' L rm.cells rm.slots)
/-- an array, by its components -/
def Ar (Z : State) (h : Heap) (a : Addr) (k : ClassId) (ty : FieldType) (vs : List Value) : Prop := ∃ c : Cell, Arr Z h a c ty ∧ c.cls = k ∧ c.slots.toList = vs
/-- a String of Latin-1 bytes -/
def St (Z : State) (h : Heap) (a b : Addr) (k : ClassId) (bs : List Int32) : Prop := Exa Z h a "java/lang/String" ∧ Fld Z h a "java/lang/String" "coder" "B" (.int 0) ∧ Fld Z h a "java/lang/String" "value" "[B" (.ref b) ∧ Ar Z h b k .byte (bs.map Value.int) ∧ bs.length < 536870912
section Facts
variable {Z : State} {h h' h0 : Heap} {a b w : Addr} {k : ClassId} {ty : FieldType} {vs : List Value} {bs : List Int32} {ws : List Addr} {sl : Nat} {v : Value} {EL : List (String × Nat)} {vm vm' : Vm}
theorem ext_trans {h1 h2 h3 : Heap} (E : Ext h1 h2) (F : Ext h2 h3) : Ext h1 h3 := ⟨Nat.le_trans E.1 F.1, fun a c q => F.2 a c (E.2 a c q)⟩
theorem ext_keep (O : Ext Z.heap h) (K : Keep h h' ws) (q : ∀ x ∈ ws, Z.heap.size ≤ x) : Ext Z.heap h' := (Old.keep (n0 := Z.heap.size) ⟨rfl, O⟩ K q).2
theorem ext_wr (O : Ext Z.heap h) (W : Wr h h' a sl v) (q : Z.heap.size ≤ a) : Ext Z.heap h' := (Old.wr (n0 := Z.heap.size) ⟨rfl, O⟩ W q).2
theorem Ar.lt (F : Ar Z h a k ty vs) : a < h.size := by obtain ⟨c, A, -⟩ := F; exact A.lt
theorem Ar.ext (F : Ar Z h a k ty vs) (E : Ext h h') : Ar Z h' a k ty vs := by obtain ⟨c, A, r⟩ := F; exact ⟨c, A.ext E, r⟩
theorem Ar.other (F : Ar Z h a k ty vs) (W : Wr h h' b sl v) (q : a ≠ b) : Ar Z h' a k ty vs := by obtain ⟨c, A, r⟩ := F; exact ⟨c, A.other W q, r⟩
theorem Ar.keep (F : Ar Z h a k ty vs) (K : Keep h h' ws) (q : a ∉ ws) : Ar Z h' a k ty vs := by obtain ⟨c, A, r⟩ := F; exact ⟨c, ⟨K.2.1 a c A.1 q, A.2⟩, r⟩
theorem Ar.set (F : Ar Z h a k ty vs) (W : Wr h h' a sl v) : Ar Z h' a k ty (vs.set sl v) := by
  obtain ⟨c, A, r1, r2⟩ := F
  refine ⟨_, A.same W, r1, ?_⟩
  simp [Cell.setSlot, r2]
theorem Ar.of_arv {z : Int32} {d : Value} (F : Arv Z h a k ty z vs d) (hl : z.toNatClampNeg = vs.length) : Ar Z h a k ty vs := by
  obtain ⟨c, A, r1, r2, r3, H, -⟩ := F
  refine ⟨c, A, r1, List.ext_getElem? fun i => ?_⟩
  by_cases hi : i < c.slots.size
  · have q := H i hi
    rw [Array.getElem?_toList, q]
    have : i < vs.length := by omega
    simp [List.getD, this]
  · rw [Array.getElem?_toList, Array.getElem?_eq_none (by omega), List.getElem?_eq_none (by omega)]
theorem Ar.safe (hal : Z.vm.Alike vm) (F : Ar Z h a k ty vs) (ht : ty ≠ .byte) : Safe Z EL vm h a := by obtain ⟨c, A, -⟩ := F; exact Safe.arr hal A ht
theorem Ar.ne_exa {C : String} {a0 : Array Value} {kk : Nat} (F : Ar Z h a k ty vs) (E : Exa Z h b C) (wi : (Jvm.Cond.instantiable C kk).before a0 Z = true) : b ≠ a := by obtain ⟨c, A, -⟩ := F; exact ne_arr E wi A
theorem Ar.ne_ty {ty' : FieldType} {k' : ClassId} {vs' : List Value} (F : Ar Z h a k ty vs) (G : Ar Z h b k' ty' vs') (hn : ty ≠ ty') : a ≠ b := by
  rintro rfl
  obtain ⟨c, A, -⟩ := F
  obtain ⟨c', B, -⟩ := G
  cases A.1.symm.trans B.1
  obtain ⟨-, k1, h1, c1, h2⟩ := A.2.1
  obtain ⟨-, k2, g1, c2, g2⟩ := B.2.1
  cases h1.symm.trans g1
  have q := h2.symm.trans g2
  injection q with _ e
  exact hn e
theorem St.lt (F : St Z h a b k bs) : a < h.size := F.1.lt
theorem St.ltb (F : St Z h a b k bs) : b < h.size := F.2.2.2.1.lt
theorem Fld.uniq {C n d : String} {v w : Value} (F : Fld Z h a C n d v) (G : Fld Z h a C n d w) : v = w := Classical.byContradiction fun q => Fld.ne F G q rfl
theorem Ar.uniq {k' : ClassId} {ty' : FieldType} {vs' : List Value} (F : Ar Z h a k ty vs) (G : Ar Z h a k' ty' vs') : vs = vs' := by
  obtain ⟨c, A, -, rfl⟩ := F
  obtain ⟨c', B, -, rfl⟩ := G
  cases A.1.symm.trans B.1; rfl
theorem map_int_inj {xs ys : List Int32} (q : xs.map Value.int = ys.map Value.int) : xs = ys := by
  induction xs generalizing ys with
  | nil => cases ys with | nil => rfl | cons y ys => cases q
  | cons x xs ih => cases ys with
    | nil => cases q
    | cons y ys => simp only [List.map_cons, List.cons.injEq, Value.int.injEq] at q; rw [q.1, ih q.2]
theorem St.uniq {b' : Addr} {k' : ClassId} {bs' : List Int32} (F : St Z h a b k bs) (G : St Z h a b' k' bs') : bs = bs' := by
  cases Value.ref.inj (Fld.uniq F.2.2.1 G.2.2.1)
  exact map_int_inj (Ar.uniq F.2.2.2.1 G.2.2.2.1)
theorem St.ext (F : St Z h a b k bs) (E : Ext h h') : St Z h' a b k bs := ⟨F.1.ext E, F.2.1.ext E, F.2.2.1.ext E, F.2.2.2.1.ext E, F.2.2.2.2⟩
theorem St.keep (F : St Z h a b k bs) (K : Keep h h' ws) (q : a ∉ ws) (q' : b ∉ ws) : St Z h' a b k bs := ⟨F.1.keep K, F.2.1.keep K q, F.2.2.1.keep K q, F.2.2.2.1.keep K q', F.2.2.2.2⟩
theorem St.wr (F : St Z h a b k bs) (W : Wr h h' w sl v) (q : a ≠ w) (q' : b ≠ w) : St Z h' a b k bs := F.keep (Keep.of_wr W) (by simpa using q) (by simpa using q')
theorem Keep.ofExt (E : Ext h h') : Keep h h' [] := (Keep.refl h []).ext E
theorem Keep.tr (K : Keep h0 h ws) (K' : Keep h h' ws) : Keep h0 h' ws := K.trans K' fun x hx => Or.inl hx
theorem Keep.more {ws' : List Addr} (K : Keep h h' ws) (q : ∀ x ∈ ws, x ∈ ws' ∨ h.size ≤ x) : Keep h h' ws' := (Keep.refl h ws').trans K q
theorem ltN {x : Addr} {n : Nat} (q : x < n) : n > x := q
theorem neN {x y : Addr} (q : @Eq Nat x y → False) : x ≠ y := q
theorem Safe.to (C : CHr Z EL vm h vm' h') (lt : h.size > a) (S : Safe Z EL vm h a) : Safe Z EL vm' h' a := C.safe lt S
theorem tr0 (E : Ext h h') : h.size ≤ h'.size := E.1
theorem cat1 {v : Value} (q : v.isRef = true) : v.category = 1 := by cases v <;> simp [Value.isRef] at q <;> rfl
theorem narU {v : Value} {ty : FieldType} (q : v.isRef = true) : narrow ty v = v := by cases v <;> simp [Value.isRef] at q <;> cases ty <;> rfl
theorem fitsU {v : Value} {ty : FieldType} (r : ty.isReference = true) (q : v.isRef = true) : fits ty v = true := by cases ty <;> simp [FieldType.isReference] at r <;> cases v <;> simp [Value.isRef] at q <;> rfl
theorem own_rep {α : Type} (n : Nat) (v : α) : Array.replicate n v = (List.replicate n v).toArray := rfl
theorem Wr.sz (W : Wr h h' a sl v) : h'.size = h.size := W.size
end Facts
section Walk
variable {p : Program} {l : Launch} {e : Env} {R : Room} {s : State} {m : MethodId} {args : Array Value} {below : List Frame} {meth : Method} {c : Code} {Z : State} {a0 : Array Value} {EL : List (String × Nat)} {nw : Prop} {Q : Option Value → Vm → Heap → Prop} {vm : Vm} {h : Heap} {k n pc pc' : Nat} {L : Array Slot} {st : List Value}
theorem Go.plain {pc2 : Nat} {L2 : Array Slot} {st2 : List Value} (hstep : ∀ (T : State) (locs : List Loc), p.tables.exec = Jvm.exec → Stand p l e R (s.setVm vm) m args below meth c T locs k n → ∀ target, Steps p.tables e below (T.setTop (mkF m pc2 L2 st2)) target → Steps p.tables e below (T.setTop (mkF m pc L st)) target)
    (K : Go p l e R s m args below meth c Z a0 EL nw Q vm h k n pc2 L2 st2) : Go p l e R s m args below meth c Z a0 EL nw Q vm h k n pc L st := fun T locs k0 hx hk hE X eT hS hk0 hF hZ hN hC hO => by
  obtain ⟨t, v, L', r1, r2⟩ := K T locs k0 hx hk hE X eT hS hk0 hF hZ hN hC hO
  exact ⟨t, v, L', hstep T locs hx X _ r1, r2⟩
theorem Go.mono {k' n' : Nat} (K : Go p l e R s m args below meth c Z a0 EL nw Q vm h k' n' pc L st) (hk : k ≤ k') (hn : n ≤ n') : Go p l e R s m args below meth c Z a0 EL nw Q vm h k n pc L st := fun T locs k0 hx hl hE X eT hS hk0 hF hZ hN hC hO =>
  K T locs k0 hx hl hE ⟨X.admits, X.cas, X.clock, X.frames, X.room, X.hears, X.method, X.code, X.here, X.tail, X.warmed, X.limits, X.bytes, X.same.mono hk hn⟩ eT hS hk0 hF hZ hN hC hO
theorem Go.aloadN {q : Fin 4} {v : Value} (hd : decode c.code pc = .ok (.aload_n q, 1)) (hp : pc + 1 = pc') (hl : L[q.val]? = some (.val v)) (hv : v.isRef = true) (K : Go p l e R s m args below meth c Z a0 EL nw Q vm h k n pc' L (v :: st)) : Go p l e R s m args below meth c Z a0 EL nw Q vm h k n pc L st := by
  subst hp
  exact Go.plain (fun T _ hx X _ r => XS.aloadN X.here hx rfl hd hl hv r) K
theorem Go.aload {q : Nat} {v : Value} (hd : decode c.code pc = .ok (.aload q, 2)) (hp : pc + 2 = pc') (hl : L[q]? = some (.val v)) (hv : v.isRef = true) (K : Go p l e R s m args below meth c Z a0 EL nw Q vm h k n pc' L (v :: st)) : Go p l e R s m args below meth c Z a0 EL nw Q vm h k n pc L st := by
  subst hp
  exact Go.plain (fun T _ hx X _ r => XS.aload X.here hx rfl hd hl hv r) K
theorem Go.iloadN {q : Fin 4} {z : Int32} (hd : decode c.code pc = .ok (.iload_n q, 1)) (hp : pc + 1 = pc') (hl : L[q.val]? = some (.val (.int z))) (K : Go p l e R s m args below meth c Z a0 EL nw Q vm h k n pc' L (.int z :: st)) : Go p l e R s m args below meth c Z a0 EL nw Q vm h k n pc L st := by
  subst hp
  exact Go.plain (fun T _ hx X _ r => XS.iloadN X.here hx rfl hd hl r) K
theorem Go.iload {q : Nat} {z : Int32} (hd : decode c.code pc = .ok (.iload q, 2)) (hp : pc + 2 = pc') (hl : L[q]? = some (.val (.int z))) (K : Go p l e R s m args below meth c Z a0 EL nw Q vm h k n pc' L (.int z :: st)) : Go p l e R s m args below meth c Z a0 EL nw Q vm h k n pc L st := by
  subst hp
  exact Go.plain (fun T _ hx X _ r => XS.iload X.here hx rfl hd hl r) K
theorem Go.lloadN {q : Fin 4} {z : Int64} (hd : decode c.code pc = .ok (.lload_n q, 1)) (hp : pc + 1 = pc') (hl : L[q.val]? = some (.val (.long z))) (K : Go p l e R s m args below meth c Z a0 EL nw Q vm h k n pc' L (.long z :: st)) : Go p l e R s m args below meth c Z a0 EL nw Q vm h k n pc L st := by
  subst hp
  exact Go.plain (fun T _ hx X _ r => XT.lloadN X.here hx rfl hd hl r) K
theorem Go.lload {q : Nat} {z : Int64} (hd : decode c.code pc = .ok (.lload q, 2)) (hp : pc + 2 = pc') (hl : L[q]? = some (.val (.long z))) (K : Go p l e R s m args below meth c Z a0 EL nw Q vm h k n pc' L (.long z :: st)) : Go p l e R s m args below meth c Z a0 EL nw Q vm h k n pc L st := by
  subst hp
  exact Go.plain (fun T _ hx X _ r => XT.lload X.here hx rfl hd hl r) K
theorem Go.iconst {i : Int} {z : Int32} (hd : decode c.code pc = .ok (.iconst i, 1)) (hp : pc + 1 = pc') (hz : Int32.ofInt i = z) (K : Go p l e R s m args below meth c Z a0 EL nw Q vm h k n pc' L (.int z :: st)) : Go p l e R s m args below meth c Z a0 EL nw Q vm h k n pc L st := by
  subst hp
  exact Go.plain (fun T _ hx X _ r => XS.iconst X.here hx rfl hd (by rw [hz]; exact r)) K
theorem Go.bipush {i : Int} {z : Int32} (hd : decode c.code pc = .ok (.bipush i, 2)) (hp : pc + 2 = pc') (hz : (Int8.ofInt i).toInt32 = z) (K : Go p l e R s m args below meth c Z a0 EL nw Q vm h k n pc' L (.int z :: st)) : Go p l e R s m args below meth c Z a0 EL nw Q vm h k n pc L st := by
  subst hp
  exact Go.plain (fun T _ hx X _ r => XS.bipush X.here hx rfl hd (by rw [hz]; exact r)) K
theorem Go.sipush {i : Int} {z : Int32} (hd : decode c.code pc = .ok (.sipush i, 3)) (hp : pc + 3 = pc') (hz : (Int16.ofInt i).toInt32 = z) (K : Go p l e R s m args below meth c Z a0 EL nw Q vm h k n pc' L (.int z :: st)) : Go p l e R s m args below meth c Z a0 EL nw Q vm h k n pc L st := by
  subst hp
  exact Go.plain (fun T _ hx X _ r => XS.sipush X.here hx rfl hd (by rw [hz]; exact r)) K
theorem Go.lconst {q : Fin 2} (hd : decode c.code pc = .ok (.lconst q, 1)) (hp : pc + 1 = pc') (K : Go p l e R s m args below meth c Z a0 EL nw Q vm h k n pc' L (.long (Int64.ofNat q) :: st)) : Go p l e R s m args below meth c Z a0 EL nw Q vm h k n pc L st := by
  subst hp
  exact Go.plain (fun T _ hx X _ r => XT.lconst X.here hx rfl hd r) K
theorem Go.aconstNull (hd : decode c.code pc = .ok (.aconst_null, 1)) (hp : pc + 1 = pc') (K : Go p l e R s m args below meth c Z a0 EL nw Q vm h k n pc' L (.null :: st)) : Go p l e R s m args below meth c Z a0 EL nw Q vm h k n pc L st := by
  subst hp
  exact Go.plain (fun T _ hx X _ r => XS.aconstNull X.here hx rfl hd r) K
theorem Go.iadd {x y : Int32} (hd : decode c.code pc = .ok (.iadd, 1)) (hp : pc + 1 = pc') (K : Go p l e R s m args below meth c Z a0 EL nw Q vm h k n pc' L (.int (x + y) :: st)) : Go p l e R s m args below meth c Z a0 EL nw Q vm h k n pc L (.int y :: .int x :: st) := by
  subst hp
  exact Go.plain (fun T _ hx X _ r => XS.iadd X.here hx rfl hd rfl r) K
theorem Go.isub {x y : Int32} (hd : decode c.code pc = .ok (.isub, 1)) (hp : pc + 1 = pc') (K : Go p l e R s m args below meth c Z a0 EL nw Q vm h k n pc' L (.int (x - y) :: st)) : Go p l e R s m args below meth c Z a0 EL nw Q vm h k n pc L (.int y :: .int x :: st) := by
  subst hp
  exact Go.plain (fun T _ hx X _ r => XS.isub X.here hx rfl hd rfl r) K
theorem Go.iand {x y : Int32} (hd : decode c.code pc = .ok (.iand, 1)) (hp : pc + 1 = pc') (K : Go p l e R s m args below meth c Z a0 EL nw Q vm h k n pc' L (.int (x &&& y) :: st)) : Go p l e R s m args below meth c Z a0 EL nw Q vm h k n pc L (.int y :: .int x :: st) := by
  subst hp
  exact Go.plain (fun T _ hx X _ r => XS.iand X.here hx rfl hd rfl r) K
theorem Go.imul {x y : Int32} (hd : decode c.code pc = .ok (.imul, 1)) (hp : pc + 1 = pc') (K : Go p l e R s m args below meth c Z a0 EL nw Q vm h k n pc' L (.int (x * y) :: st)) : Go p l e R s m args below meth c Z a0 EL nw Q vm h k n pc L (.int y :: .int x :: st) := by
  subst hp
  exact Go.plain (fun T _ hx X _ r => XS.imul X.here hx rfl hd rfl r) K
theorem Go.ineg {x : Int32} (hd : decode c.code pc = .ok (.ineg, 1)) (hp : pc + 1 = pc') (K : Go p l e R s m args below meth c Z a0 EL nw Q vm h k n pc' L (.int (-x) :: st)) : Go p l e R s m args below meth c Z a0 EL nw Q vm h k n pc L (.int x :: st) := by
  subst hp
  exact Go.plain (fun T _ hx X _ r => XS.ineg X.here hx rfl hd rfl r) K
theorem Go.idiv {x y : Int32} (hd : decode c.code pc = .ok (.idiv, 1)) (hp : pc + 1 = pc') (hy : y ≠ 0) (K : Go p l e R s m args below meth c Z a0 EL nw Q vm h k n pc' L (.int (x / y) :: st)) : Go p l e R s m args below meth c Z a0 EL nw Q vm h k n pc L (.int y :: .int x :: st) := by
  subst hp
  exact Go.plain (fun T _ hx X _ r => XS.idiv X.here hx rfl hd rfl hy r) K
theorem Go.ixor {x y : Int32} (hd : decode c.code pc = .ok (.ixor, 1)) (hp : pc + 1 = pc') (K : Go p l e R s m args below meth c Z a0 EL nw Q vm h k n pc' L (.int (x ^^^ y) :: st)) : Go p l e R s m args below meth c Z a0 EL nw Q vm h k n pc L (.int y :: .int x :: st) := by
  subst hp
  exact Go.plain (fun T _ hx X _ r => XT.ixor X.here hx rfl hd rfl r) K
theorem Go.ior {x y : Int32} (hd : decode c.code pc = .ok (.ior, 1)) (hp : pc + 1 = pc') (K : Go p l e R s m args below meth c Z a0 EL nw Q vm h k n pc' L (.int (x ||| y) :: st)) : Go p l e R s m args below meth c Z a0 EL nw Q vm h k n pc L (.int y :: .int x :: st) := by
  subst hp
  exact Go.plain (fun T _ hx X _ r => XT.ior X.here hx rfl hd rfl r) K
theorem Go.ishl {x y : Int32} (hd : decode c.code pc = .ok (.ishl, 1)) (hp : pc + 1 = pc') (K : Go p l e R s m args below meth c Z a0 EL nw Q vm h k n pc' L (.int (x <<< (y &&& 31)) :: st)) : Go p l e R s m args below meth c Z a0 EL nw Q vm h k n pc L (.int y :: .int x :: st) := by
  subst hp
  exact Go.plain (fun T _ hx X _ r => XT.ishl X.here hx rfl hd rfl r) K
theorem Go.ishr {x y : Int32} (hd : decode c.code pc = .ok (.ishr, 1)) (hp : pc + 1 = pc') (K : Go p l e R s m args below meth c Z a0 EL nw Q vm h k n pc' L (.int (x >>> (y &&& 31)) :: st)) : Go p l e R s m args below meth c Z a0 EL nw Q vm h k n pc L (.int y :: .int x :: st) := by
  subst hp
  exact Go.plain (fun T _ hx X _ r => XT.ishr X.here hx rfl hd rfl r) K
theorem Go.iushr {x y : Int32} (hd : decode c.code pc = .ok (.iushr, 1)) (hp : pc + 1 = pc') (K : Go p l e R s m args below meth c Z a0 EL nw Q vm h k n pc' L (.int (XT.ushr x y) :: st)) : Go p l e R s m args below meth c Z a0 EL nw Q vm h k n pc L (.int y :: .int x :: st) := by
  subst hp
  exact Go.plain (fun T _ hx X _ r => XT.iushr X.here hx rfl hd rfl r) K
theorem Go.ladd {x y : Int64} (hd : decode c.code pc = .ok (.ladd, 1)) (hp : pc + 1 = pc') (K : Go p l e R s m args below meth c Z a0 EL nw Q vm h k n pc' L (.long (x + y) :: st)) : Go p l e R s m args below meth c Z a0 EL nw Q vm h k n pc L (.long y :: .long x :: st) := by
  subst hp
  exact Go.plain (fun T _ hx X _ r => XT.ladd X.here hx rfl hd rfl r) K
theorem Go.lsub {x y : Int64} (hd : decode c.code pc = .ok (.lsub, 1)) (hp : pc + 1 = pc') (K : Go p l e R s m args below meth c Z a0 EL nw Q vm h k n pc' L (.long (x - y) :: st)) : Go p l e R s m args below meth c Z a0 EL nw Q vm h k n pc L (.long y :: .long x :: st) := by
  subst hp
  exact Go.plain (fun T _ hx X _ r => XT.lsub X.here hx rfl hd rfl r) K
theorem Go.lmul {x y : Int64} (hd : decode c.code pc = .ok (.lmul, 1)) (hp : pc + 1 = pc') (K : Go p l e R s m args below meth c Z a0 EL nw Q vm h k n pc' L (.long (x * y) :: st)) : Go p l e R s m args below meth c Z a0 EL nw Q vm h k n pc L (.long y :: .long x :: st) := by
  subst hp
  exact Go.plain (fun T _ hx X _ r => XT.lmul X.here hx rfl hd rfl r) K
theorem Go.land {x y : Int64} (hd : decode c.code pc = .ok (.land, 1)) (hp : pc + 1 = pc') (K : Go p l e R s m args below meth c Z a0 EL nw Q vm h k n pc' L (.long (x &&& y) :: st)) : Go p l e R s m args below meth c Z a0 EL nw Q vm h k n pc L (.long y :: .long x :: st) := by
  subst hp
  exact Go.plain (fun T _ hx X _ r => XT.land X.here hx rfl hd rfl r) K
theorem Go.lor {x y : Int64} (hd : decode c.code pc = .ok (.lor, 1)) (hp : pc + 1 = pc') (K : Go p l e R s m args below meth c Z a0 EL nw Q vm h k n pc' L (.long (x ||| y) :: st)) : Go p l e R s m args below meth c Z a0 EL nw Q vm h k n pc L (.long y :: .long x :: st) := by
  subst hp
  exact Go.plain (fun T _ hx X _ r => XT.lor X.here hx rfl hd rfl r) K
theorem Go.lxor {x y : Int64} (hd : decode c.code pc = .ok (.lxor, 1)) (hp : pc + 1 = pc') (K : Go p l e R s m args below meth c Z a0 EL nw Q vm h k n pc' L (.long (x ^^^ y) :: st)) : Go p l e R s m args below meth c Z a0 EL nw Q vm h k n pc L (.long y :: .long x :: st) := by
  subst hp
  exact Go.plain (fun T _ hx X _ r => XT.lxor X.here hx rfl hd rfl r) K
theorem Go.lshl {x : Int64} {y : Int32} (hd : decode c.code pc = .ok (.lshl, 1)) (hp : pc + 1 = pc') (K : Go p l e R s m args below meth c Z a0 EL nw Q vm h k n pc' L (.long (x <<< (y.toInt64 &&& 63)) :: st)) : Go p l e R s m args below meth c Z a0 EL nw Q vm h k n pc L (.int y :: .long x :: st) := by
  subst hp
  exact Go.plain (fun T _ hx X _ r => XT.lshl X.here hx rfl hd rfl r) K
theorem Go.lshr {x : Int64} {y : Int32} (hd : decode c.code pc = .ok (.lshr, 1)) (hp : pc + 1 = pc') (K : Go p l e R s m args below meth c Z a0 EL nw Q vm h k n pc' L (.long (x >>> (y.toInt64 &&& 63)) :: st)) : Go p l e R s m args below meth c Z a0 EL nw Q vm h k n pc L (.int y :: .long x :: st) := by
  subst hp
  exact Go.plain (fun T _ hx X _ r => XT.lshr X.here hx rfl hd rfl r) K
theorem Go.lushr {x : Int64} {y : Int32} (hd : decode c.code pc = .ok (.lushr, 1)) (hp : pc + 1 = pc') (K : Go p l e R s m args below meth c Z a0 EL nw Q vm h k n pc' L (.long (XT.ushrL x y) :: st)) : Go p l e R s m args below meth c Z a0 EL nw Q vm h k n pc L (.int y :: .long x :: st) := by
  subst hp
  exact Go.plain (fun T _ hx X _ r => XT.lushr X.here hx rfl hd rfl r) K
theorem Go.ldiv {x y : Int64} (hd : decode c.code pc = .ok (.ldiv, 1)) (hp : pc + 1 = pc') (hy : y ≠ 0) (K : Go p l e R s m args below meth c Z a0 EL nw Q vm h k n pc' L (.long (x / y) :: st)) : Go p l e R s m args below meth c Z a0 EL nw Q vm h k n pc L (.long y :: .long x :: st) := by
  subst hp
  exact Go.plain (fun T _ hx X _ r => XT.ldiv X.here hx rfl hd rfl hy r) K
theorem Go.lrem {x y : Int64} (hd : decode c.code pc = .ok (.lrem, 1)) (hp : pc + 1 = pc') (hy : y ≠ 0) (K : Go p l e R s m args below meth c Z a0 EL nw Q vm h k n pc' L (.long (x - (x / y) * y) :: st)) : Go p l e R s m args below meth c Z a0 EL nw Q vm h k n pc L (.long y :: .long x :: st) := by
  subst hp
  exact Go.plain (fun T _ hx X _ r => XT.lrem X.here hx rfl hd rfl hy r) K
theorem Go.lneg {x : Int64} (hd : decode c.code pc = .ok (.lneg, 1)) (hp : pc + 1 = pc') (K : Go p l e R s m args below meth c Z a0 EL nw Q vm h k n pc' L (.long (-x) :: st)) : Go p l e R s m args below meth c Z a0 EL nw Q vm h k n pc L (.long x :: st) := by
  subst hp
  exact Go.plain (fun T _ hx X _ r => XT.lneg X.here hx rfl hd rfl r) K
theorem Go.i2l {x : Int32} (hd : decode c.code pc = .ok (.i2l, 1)) (hp : pc + 1 = pc') (K : Go p l e R s m args below meth c Z a0 EL nw Q vm h k n pc' L (.long x.toInt64 :: st)) : Go p l e R s m args below meth c Z a0 EL nw Q vm h k n pc L (.int x :: st) := by
  subst hp
  exact Go.plain (fun T _ hx X _ r => XT.i2l X.here hx rfl hd rfl r) K
theorem Go.l2i {x : Int64} (hd : decode c.code pc = .ok (.l2i, 1)) (hp : pc + 1 = pc') (K : Go p l e R s m args below meth c Z a0 EL nw Q vm h k n pc' L (.int x.toInt32 :: st)) : Go p l e R s m args below meth c Z a0 EL nw Q vm h k n pc L (.long x :: st) := by
  subst hp
  exact Go.plain (fun T _ hx X _ r => XT.l2i X.here hx rfl hd rfl r) K
theorem Go.i2b {x : Int32} (hd : decode c.code pc = .ok (.i2b, 1)) (hp : pc + 1 = pc') (K : Go p l e R s m args below meth c Z a0 EL nw Q vm h k n pc' L (.int x.toInt8.toInt32 :: st)) : Go p l e R s m args below meth c Z a0 EL nw Q vm h k n pc L (.int x :: st) := by
  subst hp
  exact Go.plain (fun T _ hx X _ r => XT.i2b X.here hx rfl hd rfl r) K
theorem Go.i2c {x : Int32} (hd : decode c.code pc = .ok (.i2c, 1)) (hp : pc + 1 = pc') (K : Go p l e R s m args below meth c Z a0 EL nw Q vm h k n pc' L (.int (nar .char x) :: st)) : Go p l e R s m args below meth c Z a0 EL nw Q vm h k n pc L (.int x :: st) := by
  subst hp
  exact Go.plain (fun T _ hx X _ r => XT.i2c X.here hx rfl hd rfl r) K
theorem Go.i2s {x : Int32} (hd : decode c.code pc = .ok (.i2s, 1)) (hp : pc + 1 = pc') (K : Go p l e R s m args below meth c Z a0 EL nw Q vm h k n pc' L (.int x.toInt16.toInt32 :: st)) : Go p l e R s m args below meth c Z a0 EL nw Q vm h k n pc L (.int x :: st) := by
  subst hp
  exact Go.plain (fun T _ hx X _ r => XT.i2s X.here hx rfl hd rfl r) K
theorem Go.lcmp {x y : Int64} (hd : decode c.code pc = .ok (.lcmp, 1)) (hp : pc + 1 = pc') (K : Go p l e R s m args below meth c Z a0 EL nw Q vm h k n pc' L (.int (XT.cmpL x y) :: st)) : Go p l e R s m args below meth c Z a0 EL nw Q vm h k n pc L (.long y :: .long x :: st) := by
  subst hp
  exact Go.plain (fun T _ hx X _ r => XT.lcmp X.here hx rfl hd rfl r) K
theorem Go.dup {v : Value} (hd : decode c.code pc = .ok (.dup, 1)) (hp : pc + 1 = pc') (hc : v.category = 1) (K : Go p l e R s m args below meth c Z a0 EL nw Q vm h k n pc' L (v :: v :: st)) : Go p l e R s m args below meth c Z a0 EL nw Q vm h k n pc L (v :: st) := by
  subst hp
  exact Go.plain (fun T _ hx X _ r => XS.dup X.here hx rfl hd rfl hc r) K
theorem Go.pop {v : Value} (hd : decode c.code pc = .ok (.pop, 1)) (hp : pc + 1 = pc') (hc : v.category = 1) (K : Go p l e R s m args below meth c Z a0 EL nw Q vm h k n pc' L st) : Go p l e R s m args below meth c Z a0 EL nw Q vm h k n pc L (v :: st) := by
  subst hp
  exact Go.plain (fun T _ hx X _ r => XT.pop X.here hx rfl hd rfl hc r) K
theorem Go.dupX1 {v w : Value} (hd : decode c.code pc = .ok (.dup_x1, 1)) (hp : pc + 1 = pc') (hc : v.category = 1) (hc' : w.category = 1) (K : Go p l e R s m args below meth c Z a0 EL nw Q vm h k n pc' L (v :: w :: v :: st)) : Go p l e R s m args below meth c Z a0 EL nw Q vm h k n pc L (v :: w :: st) := by
  subst hp
  exact Go.plain (fun T _ hx X _ r => XT.dupX1 X.here hx rfl hd rfl hc hc' r) K
theorem Go.dup2 {v w : Value} (hd : decode c.code pc = .ok (.dup2, 1)) (hp : pc + 1 = pc') (hc : v.category = 1) (hc' : w.category = 1) (K : Go p l e R s m args below meth c Z a0 EL nw Q vm h k n pc' L (v :: w :: v :: w :: st)) : Go p l e R s m args below meth c Z a0 EL nw Q vm h k n pc L (v :: w :: st) := by
  subst hp
  exact Go.plain (fun T _ hx X _ r => XT.dup2 X.here hx rfl hd rfl hc hc' r) K
theorem Go.istoreN {q : Fin 4} {z : Int32} {L' : Array Slot} (hd : decode c.code pc = .ok (.istore_n q, 1)) (hp : pc + 1 = pc') (hl : storeLocals L q.val (.int z) = some L') (K : Go p l e R s m args below meth c Z a0 EL nw Q vm h k n pc' L' st) : Go p l e R s m args below meth c Z a0 EL nw Q vm h k n pc L (.int z :: st) := by
  subst hp
  exact Go.plain (fun T _ hx X _ r => XS.istoreN X.here hx rfl hd rfl hl r) K
theorem Go.istore {q : Nat} {z : Int32} {L' : Array Slot} (hd : decode c.code pc = .ok (.istore q, 2)) (hp : pc + 2 = pc') (hl : storeLocals L q (.int z) = some L') (K : Go p l e R s m args below meth c Z a0 EL nw Q vm h k n pc' L' st) : Go p l e R s m args below meth c Z a0 EL nw Q vm h k n pc L (.int z :: st) := by
  subst hp
  exact Go.plain (fun T _ hx X _ r => XS.istore X.here hx rfl hd rfl hl r) K
theorem Go.lstoreN {q : Fin 4} {z : Int64} {L' : Array Slot} (hd : decode c.code pc = .ok (.lstore_n q, 1)) (hp : pc + 1 = pc') (hl : storeLocals L q.val (.long z) = some L') (K : Go p l e R s m args below meth c Z a0 EL nw Q vm h k n pc' L' st) : Go p l e R s m args below meth c Z a0 EL nw Q vm h k n pc L (.long z :: st) := by
  subst hp
  exact Go.plain (fun T _ hx X _ r => XT.lstoreN X.here hx rfl hd rfl hl r) K
theorem Go.lstore {q : Nat} {z : Int64} {L' : Array Slot} (hd : decode c.code pc = .ok (.lstore q, 2)) (hp : pc + 2 = pc') (hl : storeLocals L q (.long z) = some L') (K : Go p l e R s m args below meth c Z a0 EL nw Q vm h k n pc' L' st) : Go p l e R s m args below meth c Z a0 EL nw Q vm h k n pc L (.long z :: st) := by
  subst hp
  exact Go.plain (fun T _ hx X _ r => XT.lstore X.here hx rfl hd rfl hl r) K
theorem Go.astoreN {q : Fin 4} {v : Value} {L' : Array Slot} (hd : decode c.code pc = .ok (.astore_n q, 1)) (hp : pc + 1 = pc') (hv : v.isRef = true) (hl : storeLocals L q.val v = some L') (K : Go p l e R s m args below meth c Z a0 EL nw Q vm h k n pc' L' st) : Go p l e R s m args below meth c Z a0 EL nw Q vm h k n pc L (v :: st) := by
  subst hp
  exact Go.plain (fun T _ hx X _ r => XS.astoreN X.here hx rfl hd rfl hv hl r) K
theorem Go.astore {q : Nat} {v : Value} {L' : Array Slot} (hd : decode c.code pc = .ok (.astore q, 2)) (hp : pc + 2 = pc') (hv : v.isRef = true) (hl : storeLocals L q v = some L') (K : Go p l e R s m args below meth c Z a0 EL nw Q vm h k n pc' L' st) : Go p l e R s m args below meth c Z a0 EL nw Q vm h k n pc L (v :: st) := by
  subst hp
  exact Go.plain (fun T _ hx X _ r => XS.astore X.here hx rfl hd rfl hv hl r) K
theorem Go.iinc {q : Nat} {i : Int} {x : Int32} {L' : Array Slot} (hd : decode c.code pc = .ok (.iinc q i, 3)) (hp : pc + 3 = pc') (hl : L[q]? = some (.val (.int x))) (hl' : storeLocals L q (.int (x + Int32.ofInt i)) = some L') (K : Go p l e R s m args below meth c Z a0 EL nw Q vm h k n pc' L' st) : Go p l e R s m args below meth c Z a0 EL nw Q vm h k n pc L st := by
  subst hp
  exact Go.plain (fun T _ hx X _ r => XS.iinc X.here hx rfl hd hl hl' r) K
theorem Go.irem {x y : Int32} (hd : decode c.code pc = .ok (.irem, 1)) (hp : pc + 1 = pc') (hy : y ≠ 0) (K : Go p l e R s m args below meth c Z a0 EL nw Q vm h k n pc' L (.int (x % y) :: st)) : Go p l e R s m args below meth c Z a0 EL nw Q vm h k n pc L (.int y :: .int x :: st) := by
  subst hp
  exact Go.plain (fun T _ hx X _ r => iremM X hx (g := mkF m pc L (.int y :: .int x :: st)) rfl hd rfl hy r) K
theorem Go.goto {o : Int} (hd : decode c.code pc = .ok (.goto o, 3)) (ho : 0 ≤ (pc : Int) + o) (hp : ((pc : Int) + o).toNat = pc') (K : Go p l e R s m args below meth c Z a0 EL nw Q vm h k n pc' L st) : Go p l e R s m args below meth c Z a0 EL nw Q vm h k n pc L st :=
  Go.plain (fun T _ hx X _ r => XS.goto X.here hx rfl rfl hd ho hp r) K
/-- what a comparison of ints asks -/
def cP : ClassFile.Cond → Int32 → Int32 → Prop
  | .eq, x, y => x = y
  | .ne, x, y => ¬ x = y
  | .lt, x, y => x < y
  | .ge, x, y => ¬ x < y
  | .gt, x, y => y < x
  | .le, x, y => ¬ y < x
theorem cP_t {cd : ClassFile.Cond} {x y : Int32} (q : cP cd x y) : if_icmp.holds cd x y = true := by
  cases cd
  · exact (teq q).1
  · exact (feq q).2
  · exact (tlt q).1
  · exact (flt q).2.1
  · exact (tlt q).2.2.1
  · exact (flt q).2.2.2
theorem cP_f {cd : ClassFile.Cond} {x y : Int32} (q : ¬ cP cd x y) : if_icmp.holds cd x y = false := by
  cases cd
  · exact (feq q).1
  · exact (teq (Classical.not_not.mp q)).2
  · exact (flt q).1
  · exact (tlt (Classical.not_not.mp q)).2.1
  · exact (flt q).2.2.1
  · exact (tlt (Classical.not_not.mp q)).2.2.2
theorem Go.icmp {cd : ClassFile.Cond} {x y : Int32} {o : Int} {pc2 : Nat} (hd : decode c.code pc = .ok (.if_icmp cd o, 3)) (ho : 0 ≤ (pc : Int) + o) (hp : ((pc : Int) + o).toNat = pc') (hp2 : pc + 3 = pc2) (Kt : cP cd x y → Go p l e R s m args below meth c Z a0 EL nw Q vm h k n pc' L st) (Kf : ¬ cP cd x y → Go p l e R s m args below meth c Z a0 EL nw Q vm h k n pc2 L st) : Go p l e R s m args below meth c Z a0 EL nw Q vm h k n pc L (.int y :: .int x :: st) := by
  subst hp2
  by_cases q : cP cd x y
  · exact Go.plain (fun T _ hx X _ r => XS.icmpYes X.here hx rfl rfl hd rfl (cP_t q) ho hp r) (Kt q)
  · exact Go.plain (fun T _ hx X _ r => XS.icmpNo X.here hx rfl hd rfl (cP_f q) r) (Kf q)
theorem Go.icmpY {cd : ClassFile.Cond} {x y : Int32} {o : Int} (hd : decode c.code pc = .ok (.if_icmp cd o, 3)) (ho : 0 ≤ (pc : Int) + o) (hp : ((pc : Int) + o).toNat = pc') (q : cP cd x y) (K : Go p l e R s m args below meth c Z a0 EL nw Q vm h k n pc' L st) : Go p l e R s m args below meth c Z a0 EL nw Q vm h k n pc L (.int y :: .int x :: st) :=
  Go.plain (fun T _ hx X _ r => XS.icmpYes X.here hx rfl rfl hd rfl (cP_t q) ho hp r) K
theorem Go.icmpN {cd : ClassFile.Cond} {x y : Int32} {o : Int} (hd : decode c.code pc = .ok (.if_icmp cd o, 3)) (hp : pc + 3 = pc') (q : ¬ cP cd x y) (K : Go p l e R s m args below meth c Z a0 EL nw Q vm h k n pc' L st) : Go p l e R s m args below meth c Z a0 EL nw Q vm h k n pc L (.int y :: .int x :: st) := by
  subst hp
  exact Go.plain (fun T _ hx X _ r => XS.icmpNo X.here hx rfl hd rfl (cP_f q) r) K
theorem Go.ifc {cd : ClassFile.Cond} {x : Int32} {o : Int} {pc2 : Nat} (hd : decode c.code pc = .ok (.ifCond cd o, 3)) (ho : 0 ≤ (pc : Int) + o) (hp : ((pc : Int) + o).toNat = pc') (hp2 : pc + 3 = pc2) (Kt : cP cd x 0 → Go p l e R s m args below meth c Z a0 EL nw Q vm h k n pc' L st) (Kf : ¬ cP cd x 0 → Go p l e R s m args below meth c Z a0 EL nw Q vm h k n pc2 L st) : Go p l e R s m args below meth c Z a0 EL nw Q vm h k n pc L (.int x :: st) := by
  subst hp2
  by_cases q : cP cd x 0
  · exact Go.plain (fun T _ hx X _ r => XS.ifYes X.here hx rfl rfl hd rfl ((if0 cd x).trans (cP_t q)) ho hp r) (Kt q)
  · exact Go.plain (fun T _ hx X _ r => XS.ifNo X.here hx rfl hd rfl ((if0 cd x).trans (cP_f q)) r) (Kf q)
theorem Go.ifY {cd : ClassFile.Cond} {x : Int32} {o : Int} (hd : decode c.code pc = .ok (.ifCond cd o, 3)) (ho : 0 ≤ (pc : Int) + o) (hp : ((pc : Int) + o).toNat = pc') (q : cP cd x 0) (K : Go p l e R s m args below meth c Z a0 EL nw Q vm h k n pc' L st) : Go p l e R s m args below meth c Z a0 EL nw Q vm h k n pc L (.int x :: st) :=
  Go.plain (fun T _ hx X _ r => XS.ifYes X.here hx rfl rfl hd rfl ((if0 cd x).trans (cP_t q)) ho hp r) K
theorem Go.ifN {cd : ClassFile.Cond} {x : Int32} {o : Int} (hd : decode c.code pc = .ok (.ifCond cd o, 3)) (hp : pc + 3 = pc') (q : ¬ cP cd x 0) (K : Go p l e R s m args below meth c Z a0 EL nw Q vm h k n pc' L st) : Go p l e R s m args below meth c Z a0 EL nw Q vm h k n pc L (.int x :: st) := by
  subst hp
  exact Go.plain (fun T _ hx X _ r => XS.ifNo X.here hx rfl hd rfl ((if0 cd x).trans (cP_f q)) r) K
theorem Go.ifnullY {o : Int} (hd : decode c.code pc = .ok (.ifnull o, 3)) (ho : 0 ≤ (pc : Int) + o) (hp : ((pc : Int) + o).toNat = pc') (K : Go p l e R s m args below meth c Z a0 EL nw Q vm h k n pc' L st) : Go p l e R s m args below meth c Z a0 EL nw Q vm h k n pc L (.null :: st) :=
  Go.plain (fun T _ hx X _ r => XS.ifnullYes X.here hx rfl rfl hd rfl ho hp r) K
theorem Go.ifnullN {o : Int} {b : Addr} (hd : decode c.code pc = .ok (.ifnull o, 3)) (hp : pc + 3 = pc') (K : Go p l e R s m args below meth c Z a0 EL nw Q vm h k n pc' L st) : Go p l e R s m args below meth c Z a0 EL nw Q vm h k n pc L (.ref b :: st) := by
  subst hp
  exact Go.plain (fun T _ hx X _ r => XS.ifnullNo X.here hx rfl hd rfl r) K
theorem Go.ifnonnullY {o : Int} {b : Addr} (hd : decode c.code pc = .ok (.ifnonnull o, 3)) (ho : 0 ≤ (pc : Int) + o) (hp : ((pc : Int) + o).toNat = pc') (K : Go p l e R s m args below meth c Z a0 EL nw Q vm h k n pc' L st) : Go p l e R s m args below meth c Z a0 EL nw Q vm h k n pc L (.ref b :: st) :=
  Go.plain (fun T _ hx X _ r => XT.ifnonnullYes X.here hx rfl rfl hd rfl ho hp r) K
theorem Go.ifnonnullN {o : Int} (hd : decode c.code pc = .ok (.ifnonnull o, 3)) (hp : pc + 3 = pc') (K : Go p l e R s m args below meth c Z a0 EL nw Q vm h k n pc' L st) : Go p l e R s m args below meth c Z a0 EL nw Q vm h k n pc L (.null :: st) := by
  subst hp
  exact Go.plain (fun T _ hx X _ r => XT.ifnonnullNo X.here hx rfl hd rfl r) K
theorem Go.acmpY {cd : ClassFile.ACond} {x y : Value} {o : Int} (hd : decode c.code pc = .ok (.if_acmp cd o, 3)) (ho : 0 ≤ (pc : Int) + o) (hp : ((pc : Int) + o).toNat = pc') (h1 : x.isRef = true) (h2 : y.isRef = true) (q : XT.acmp cd x y = true) (K : Go p l e R s m args below meth c Z a0 EL nw Q vm h k n pc' L st) : Go p l e R s m args below meth c Z a0 EL nw Q vm h k n pc L (y :: x :: st) :=
  Go.plain (fun T _ hx X _ r => XT.acmpYes X.here hx rfl rfl hd rfl h1 h2 q ho hp r) K
theorem Go.acmpN {cd : ClassFile.ACond} {x y : Value} {o : Int} (hd : decode c.code pc = .ok (.if_acmp cd o, 3)) (hp : pc + 3 = pc') (h1 : x.isRef = true) (h2 : y.isRef = true) (q : XT.acmp cd x y = false) (K : Go p l e R s m args below meth c Z a0 EL nw Q vm h k n pc' L st) : Go p l e R s m args below meth c Z a0 EL nw Q vm h k n pc L (y :: x :: st) := by
  subst hp
  exact Go.plain (fun T _ hx X _ r => XT.acmpNo X.here hx rfl hd rfl h1 h2 q r) K
theorem Go.getF {own R0 O nm d : String} {index : Nat} {a : Addr} {v : Value} (hown : Z.vm.findClass own = some m.cls) (w : (Jvm.Cond.fieldLink own index R0 nm d).before a0 Z = true) (via : Via Z R0 O nm d) (F : Fld Z h a O nm d v) (hd : decode c.code pc = .ok (.getfield index, 3)) (hp : pc + 3 = pc') (K : Go p l e R s m args below meth c Z a0 EL nw Q vm h k n pc' L (v :: st)) : Go p l e R s m args below meth c Z a0 EL nw Q vm h k n pc L (.ref a :: st) := fun T locs k0 hx hk hE X eT hS hk0 hF hZ hN hC hO => by
  subst hp
  have hown' : (s.setVm vm).vm.findClass own = some m.cls := by
    show vm.findClass own = _
    rw [hZ.alike.findClass]; exact hown
  obtain ⟨T', X', e', st'⟩ := RoadKit.getF X hx (s := s.setVm vm) hZ hown' (host := "") (Or.inl w) via eT F (g := mkF m pc L (.ref a :: st)) rfl rfl hd
  obtain ⟨t, v, L', r1, r2⟩ := K T' locs k0 hx hk hE X' e' hS hk0 hF hZ hN hC hO
  exact ⟨t, v, L', st' _ r1, r2⟩
theorem Go.getFN {own R0 O nm d host : String} {index : Nat} {a : Addr} {v : Value} (hown : Z.vm.findClass own = some m.cls) (w : (Jvm.Cond.fieldLinkNest own index R0 nm d host).before a0 Z = true) (via : Via Z R0 O nm d) (F : Fld Z h a O nm d v) (hd : decode c.code pc = .ok (.getfield index, 3)) (hp : pc + 3 = pc') (K : Go p l e R s m args below meth c Z a0 EL nw Q vm h k n pc' L (v :: st)) : Go p l e R s m args below meth c Z a0 EL nw Q vm h k n pc L (.ref a :: st) := fun T locs k0 hx hk hE X eT hS hk0 hF hZ hN hC hO => by
  subst hp
  have hown' : (s.setVm vm).vm.findClass own = some m.cls := by
    show vm.findClass own = _
    rw [hZ.alike.findClass]; exact hown
  obtain ⟨T', X', e', st'⟩ := RoadKit.getF X hx (s := s.setVm vm) hZ hown' (Or.inr w) via eT F (g := mkF m pc L (.ref a :: st)) rfl rfl hd
  obtain ⟨t, v, L', r1, r2⟩ := K T' locs k0 hx hk hE X' e' hS hk0 hF hZ hN hC hO
  exact ⟨t, v, L', st' _ r1, r2⟩
theorem Go.getS {own R0 O nm d : String} {index : Nat} {v : Value} (hown : Z.vm.findClass own = some m.cls) (w : (Jvm.Cond.fieldLink own index R0 nm d).before a0 Z = true) (via : Via Z R0 O nm d) (F : Sta Z Z.heap O nm d v) (hd : decode c.code pc = .ok (.getstatic index, 3)) (hp : pc + 3 = pc') (K : Go p l e R s m args below meth c Z a0 EL nw Q vm h k n pc' L (v :: st)) : Go p l e R s m args below meth c Z a0 EL nw Q vm h k n pc L st := fun T locs k0 hx hk hE X eT hS hk0 hF hZ hN hC hO => by
  subst hp
  have hown' : (s.setVm vm).vm.findClass own = some m.cls := by
    show vm.findClass own = _
    rw [hZ.alike.findClass]; exact hown
  obtain ⟨T', X', e', st'⟩ := RoadKit.getS X hx (s := s.setVm vm) hZ (host := "") hown' w via eT (F.ext hO) (g := mkF m pc L st) rfl hd
  obtain ⟨t, v, L', r1, r2⟩ := K T' locs k0 hx hk hE X' e' hS hk0 hF hZ hN hC hO
  exact ⟨t, v, L', st' _ r1, r2⟩
theorem Go.getSN {own R0 O nm d host : String} {index : Nat} {v : Value} (hown : Z.vm.findClass own = some m.cls) (w : (Jvm.Cond.fieldLinkNest own index R0 nm d host).before a0 Z = true) (via : Via Z R0 O nm d) (F : Sta Z Z.heap O nm d v) (hd : decode c.code pc = .ok (.getstatic index, 3)) (hp : pc + 3 = pc') (K : Go p l e R s m args below meth c Z a0 EL nw Q vm h k n pc' L (v :: st)) : Go p l e R s m args below meth c Z a0 EL nw Q vm h k n pc L st := fun T locs k0 hx hk hE X eT hS hk0 hF hZ hN hC hO => by
  subst hp
  have hown' : (s.setVm vm).vm.findClass own = some m.cls := by
    show vm.findClass own = _
    rw [hZ.alike.findClass]; exact hown
  obtain ⟨T', X', e', st'⟩ := RoadKit.getS2 X hx (s := s.setVm vm) hZ hown' (Or.inr w) via eT (F.ext hO) (g := mkF m pc L st) rfl hd
  obtain ⟨t, v, L', r1, r2⟩ := K T' locs k0 hx hk hE X' e' hS hk0 hF hZ hN hC hO
  exact ⟨t, v, L', st' _ r1, r2⟩
theorem Go.castY {own K0 : String} {index : Nat} {a : Addr} (hown : Z.vm.findClass own = some m.cls) (w : (Jvm.Cond.classLink own index K0).before a0 Z = true) (F : Ins Z h a K0 true) (hd : decode c.code pc = .ok (.checkcast index, 3)) (hp : pc + 3 = pc') (K : Go p l e R s m args below meth c Z a0 EL nw Q vm h k n pc' L (.ref a :: st)) : Go p l e R s m args below meth c Z a0 EL nw Q vm h k n pc L (.ref a :: st) := fun T locs k0 hx hk hE X eT hS hk0 hF hZ hN hC hO => by
  subst hp
  have hown' : (s.setVm vm).vm.findClass own = some m.cls := by
    show vm.findClass own = _
    rw [hZ.alike.findClass]; exact hown
  obtain ⟨T', X', e', st'⟩ := RoadKit.castY X hx (s := s.setVm vm) hZ hown' w eT F (g := mkF m pc L (.ref a :: st)) rfl rfl hd
  obtain ⟨t, v, L', r1, r2⟩ := K T' locs k0 hx hk hE X' e' hS hk0 hF hZ hN hC hO
  exact ⟨t, v, L', st' _ r1, r2⟩
theorem Go.instY {own K0 : String} {index : Nat} {a : Addr} (hown : Z.vm.findClass own = some m.cls) (w : (Jvm.Cond.classLink own index K0).before a0 Z = true) (F : Ins Z h a K0 true) (hd : decode c.code pc = .ok (.instanceof index, 3)) (hp : pc + 3 = pc') (K : Go p l e R s m args below meth c Z a0 EL nw Q vm h k n pc' L (.int 1 :: st)) : Go p l e R s m args below meth c Z a0 EL nw Q vm h k n pc L (.ref a :: st) := fun T locs k0 hx hk hE X eT hS hk0 hF hZ hN hC hO => by
  subst hp
  have hown' : (s.setVm vm).vm.findClass own = some m.cls := by
    show vm.findClass own = _
    rw [hZ.alike.findClass]; exact hown
  obtain ⟨T', X', e', st'⟩ := RoadKit.instY X hx (s := s.setVm vm) hZ hown' w eT F (g := mkF m pc L (.ref a :: st)) rfl rfl hd
  obtain ⟨t, v, L', r1, r2⟩ := K T' locs k0 hx hk hE X' e' hS hk0 hF hZ hN hC hO
  exact ⟨t, v, L', st' _ r1, r2⟩
theorem Go.instNo {own K0 C : String} {index : Nat} {a : Addr} (hown : Z.vm.findClass own = some m.cls) (w : (Jvm.Cond.classLink own index K0).before a0 Z = true) (E : Exa Z h a C) (F : ∃ c t, Z.vm.findClass C = some c ∧ Z.vm.findClass K0 = some t ∧ Z.vm.assignable c t = false) (hd : decode c.code pc = .ok (.instanceof index, 3)) (hp : pc + 3 = pc') (K : Go p l e R s m args below meth c Z a0 EL nw Q vm h k n pc' L (.int 0 :: st)) : Go p l e R s m args below meth c Z a0 EL nw Q vm h k n pc L (.ref a :: st) := fun T locs k0 hx hk hE X eT hS hk0 hF hZ hN hC hO => by
  subst hp
  have hown' : (s.setVm vm).vm.findClass own = some m.cls := by
    show vm.findClass own = _
    rw [hZ.alike.findClass]; exact hown
  obtain ⟨T', X', e', st'⟩ := RoadKit.instNo X hx (s := s.setVm vm) hZ hown' w eT E F (g := mkF m pc L (.ref a :: st)) rfl rfl hd
  obtain ⟨t, v, L', r1, r2⟩ := K T' locs k0 hx hk hE X' e' hS hk0 hF hZ hN hC hO
  exact ⟨t, v, L', st' _ r1, r2⟩
theorem Go.initO {own : String} {index W : Nat} {a : Addr} (hown : Z.vm.findClass own = some m.cls) (w1 : (Jvm.Cond.methodLink own index Lib.objectInit).before a0 Z = true) (w2 : (Jvm.Cond.instanceMethod Lib.objectInit).before a0 Z = true) (w3 : (Jvm.Cond.code Lib.objectInit ⟨#[0xb1]⟩ 1 none).before a0 Z = true) (hL : L.size = c.maxLocals) (hd : decode c.code pc = .ok (.invokespecial index, 3)) (hf : 1 ≤ R.frames) (hW : (st.map fun v => v.category).sum = W) (hl : W + 12 ≤ R.locals) (hp : pc + 3 = pc') (K : Go p l e R s m args below meth c Z a0 EL nw Q vm h k n pc' L st) : Go p l e R s m args below meth c Z a0 EL nw Q vm h k n pc L (.ref a :: st) := fun T locs k0 hx hk hE X eT hS hk0 hF hZ hN hC hO => by
  subst hp
  have hown' : (s.setVm vm).vm.findClass own = some m.cls := by
    show vm.findClass own = _
    rw [hZ.alike.findClass]; exact hown
  obtain ⟨T', X', e', st'⟩ := RoadKit.initO X hx (s := s.setVm vm) hZ hown' w1 w2 w3 eT (g := mkF m pc L (.ref a :: st)) rfl hL rfl hd hf (W := W) (by show 2 * 0 + _ ≤ _; rw [Nat.mul_zero, Nat.zero_add]; exact Nat.le_of_eq hW) hl
  obtain ⟨t, v, L', r1, r2⟩ := K T' locs k0 hx hk hE X' e' hS hk0 hF hZ hN hC hO
  exact ⟨t, v, L', st' _ r1, r2⟩
theorem Go.ldcInt {own : String} {index : Nat} {z : Int32} (hown : Z.vm.findClass own = some m.cls) (w : (Jvm.Cond.constant own index z).before a0 Z = true) (hd : decode c.code pc = .ok (.ldc index, 2)) (hp : pc + 2 = pc') (K : Go p l e R s m args below meth c Z a0 EL nw Q vm h k n pc' L (.int z :: st)) : Go p l e R s m args below meth c Z a0 EL nw Q vm h k n pc L st := fun T locs k0 hx hk hE X eT hS hk0 hF hZ hN hC hO => by
  subst hp
  have hown' : (s.setVm vm).vm.findClass own = some m.cls := by
    show vm.findClass own = _
    rw [hZ.alike.findClass]; exact hown
  obtain ⟨t, v, L', r1, r2⟩ := K T locs k0 hx hk hE X eT hS hk0 hF hZ hN hC hO
  exact ⟨t, v, L', X.ldcInt hx hown' (mv (s := s.setVm vm) hZ w) (g := mkF m pc L st) rfl hd _ r1, r2⟩
theorem Go.ldc2Long {own : String} {index : Nat} {z : Int64} (hown : Z.vm.findClass own = some m.cls) (w : (Jvm.Cond.constantLong own index z).before a0 Z = true) (hd : decode c.code pc = .ok (.ldc2_w index, 3)) (hp : pc + 3 = pc') (K : Go p l e R s m args below meth c Z a0 EL nw Q vm h k n pc' L (.long z :: st)) : Go p l e R s m args below meth c Z a0 EL nw Q vm h k n pc L st := fun T locs k0 hx hk hE X eT hS hk0 hF hZ hN hC hO => by
  subst hp
  have hown' : (s.setVm vm).vm.findClass own = some m.cls := by
    show vm.findClass own = _
    rw [hZ.alike.findClass]; exact hown
  obtain ⟨t, v, L', r1, r2⟩ := K T locs k0 hx hk hE X eT hS hk0 hF hZ hN hC hO
  exact ⟨t, v, L', X.ldc2Long hx hown' (mv (s := s.setVm vm) hZ w) (g := mkF m pc L st) rfl hd _ r1, r2⟩
theorem Go.alen {a : Addr} {kA : ClassId} {ty : FieldType} {vs : List Value} {z : Int32} (A : Ar Z h a kA ty vs) (hz : vs.length.toInt32 = z) (hd : decode c.code pc = .ok (.arraylength, 1)) (hp : pc + 1 = pc') (K : Go p l e R s m args below meth c Z a0 EL nw Q vm h k n pc' L (.int z :: st)) : Go p l e R s m args below meth c Z a0 EL nw Q vm h k n pc L (.ref a :: st) := fun T locs k0 hx hk hE X eT hS hk0 hF hZ hN hC hO => by
  subst hp
  obtain ⟨t, v, L', r1, r2⟩ := K T locs k0 hx hk hE X eT hS hk0 hF hZ hN hC hO
  obtain ⟨cl, A, -, rfl⟩ := A
  refine ⟨t, v, L', X.arraylength hx (cell := cl) (by rw [eT]; exact A.1) (State.isArrayOf_alike (s := Z) (T := s.setVm vm) hZ.alike A.2.1) (g := mkF m pc L (.ref a :: st)) rfl rfl hd _ ?_, r2⟩
  have q : cl.slots.size.toInt32 = z := by rw [← hz]; simp
  rw [q]; exact r1
theorem Go.caload {a : Addr} {kA : ClassId} {vs : List Value} {j : Int32} {v : Value} (A : Ar Z h a kA .char vs) (hj : ¬ j < 0) (hv : vs[j.toNatClampNeg]? = some v) (hd : decode c.code pc = .ok (.caload, 1)) (hp : pc + 1 = pc') (K : Go p l e R s m args below meth c Z a0 EL nw Q vm h k n pc' L (v :: st)) : Go p l e R s m args below meth c Z a0 EL nw Q vm h k n pc L (.int j :: .ref a :: st) := fun T locs k0 hx hk hE X eT hS hk0 hF hZ hN hC hO => by
  subst hp
  obtain ⟨t, v', L', r1, r2⟩ := K T locs k0 hx hk hE X eT hS hk0 hF hZ hN hC hO
  obtain ⟨cl, A, -, rfl⟩ := A
  rw [Array.getElem?_toList] at hv
  exact ⟨t, v', L', X.caload hx (cell := cl) (by rw [eT]; exact A.1) (State.isArrayOf_alike (s := Z) (T := s.setVm vm) hZ.alike A.2.1) A.2.2 (fun q => q.elim hj fun q => absurd (Array.getElem?_eq_some_iff.mp hv).1 (Nat.not_lt.mpr q)) hv (g := mkF m pc L (.int j :: .ref a :: st)) rfl rfl hd _ r1, r2⟩
theorem Go.baload {a : Addr} {kA : ClassId} {vs : List Value} {j : Int32} {v : Value} (A : Ar Z h a kA .byte vs) (hj : ¬ j < 0) (hv : vs[j.toNatClampNeg]? = some v) (hd : decode c.code pc = .ok (.baload, 1)) (hp : pc + 1 = pc') (K : Go p l e R s m args below meth c Z a0 EL nw Q vm h k n pc' L (v :: st)) : Go p l e R s m args below meth c Z a0 EL nw Q vm h k n pc L (.int j :: .ref a :: st) := fun T locs k0 hx hk hE X eT hS hk0 hF hZ hN hC hO => by
  subst hp
  obtain ⟨t, v', L', r1, r2⟩ := K T locs k0 hx hk hE X eT hS hk0 hF hZ hN hC hO
  obtain ⟨cl, A, -, rfl⟩ := A
  rw [Array.getElem?_toList] at hv
  exact ⟨t, v', L', X.baloadBytes hx (cell := cl) (by rw [eT]; exact A.1) (State.isArrayOf_alike (s := Z) (T := s.setVm vm) hZ.alike A.2.1) A.2.2 (fun q => q.elim hj fun q => absurd (Array.getElem?_eq_some_iff.mp hv).1 (Nat.not_lt.mpr q)) hv (g := mkF m pc L (.int j :: .ref a :: st)) rfl rfl hd _ r1, r2⟩
theorem Go.iaload {a : Addr} {kA : ClassId} {vs : List Value} {j : Int32} {v : Value} (A : Ar Z h a kA .int vs) (hj : ¬ j < 0) (hv : vs[j.toNatClampNeg]? = some v) (hd : decode c.code pc = .ok (.iaload, 1)) (hp : pc + 1 = pc') (K : Go p l e R s m args below meth c Z a0 EL nw Q vm h k n pc' L (v :: st)) : Go p l e R s m args below meth c Z a0 EL nw Q vm h k n pc L (.int j :: .ref a :: st) := fun T locs k0 hx hk hE X eT hS hk0 hF hZ hN hC hO => by
  subst hp
  obtain ⟨t, v', L', r1, r2⟩ := K T locs k0 hx hk hE X eT hS hk0 hF hZ hN hC hO
  obtain ⟨cl, A, -, rfl⟩ := A
  rw [Array.getElem?_toList] at hv
  exact ⟨t, v', L', X.iaload hx (cell := cl) (by rw [eT]; exact A.1) (State.isArrayOf_alike (s := Z) (T := s.setVm vm) hZ.alike A.2.1) A.2.2 (fun q => q.elim hj fun q => absurd (Array.getElem?_eq_some_iff.mp hv).1 (Nat.not_lt.mpr q)) hv (g := mkF m pc L (.int j :: .ref a :: st)) rfl rfl hd _ r1, r2⟩
theorem Go.laload {a : Addr} {kA : ClassId} {vs : List Value} {j : Int32} {v : Value} (A : Ar Z h a kA .long vs) (hj : ¬ j < 0) (hv : vs[j.toNatClampNeg]? = some v) (hd : decode c.code pc = .ok (.laload, 1)) (hp : pc + 1 = pc') (K : Go p l e R s m args below meth c Z a0 EL nw Q vm h k n pc' L (v :: st)) : Go p l e R s m args below meth c Z a0 EL nw Q vm h k n pc L (.int j :: .ref a :: st) := fun T locs k0 hx hk hE X eT hS hk0 hF hZ hN hC hO => by
  subst hp
  obtain ⟨t, v', L', r1, r2⟩ := K T locs k0 hx hk hE X eT hS hk0 hF hZ hN hC hO
  obtain ⟨cl, A, -, rfl⟩ := A
  rw [Array.getElem?_toList] at hv
  exact ⟨t, v', L', X.laload hx (cell := cl) (by rw [eT]; exact A.1) (State.isArrayOf_alike (s := Z) (T := s.setVm vm) hZ.alike A.2.1) A.2.2 (fun q => q.elim hj fun q => absurd (Array.getElem?_eq_some_iff.mp hv).1 (Nat.not_lt.mpr q)) hv (g := mkF m pc L (.int j :: .ref a :: st)) rfl rfl hd _ r1, r2⟩
theorem Go.aaload {a : Addr} {kA : ClassId} {ty : FieldType} {vs : List Value} {j : Int32} {v : Value} (A : Ar Z h a kA ty vs) (hty : ty.isReference = true) (hj : ¬ j < 0) (hv : vs[j.toNatClampNeg]? = some v) (hd : decode c.code pc = .ok (.aaload, 1)) (hp : pc + 1 = pc') (K : Go p l e R s m args below meth c Z a0 EL nw Q vm h k n pc' L (v :: st)) : Go p l e R s m args below meth c Z a0 EL nw Q vm h k n pc L (.int j :: .ref a :: st) := fun T locs k0 hx hk hE X eT hS hk0 hF hZ hN hC hO => by
  subst hp
  obtain ⟨t, v', L', r1, r2⟩ := K T locs k0 hx hk hE X eT hS hk0 hF hZ hN hC hO
  obtain ⟨cl, A, -, rfl⟩ := A
  rw [Array.getElem?_toList] at hv
  exact ⟨t, v', L', X.aaload hx (cell := cl) (by rw [eT]; exact A.1) (State.isArrayOf_alike (s := Z) (T := s.setVm vm) hZ.alike A.2.1) hty A.2.2 (fun q => q.elim hj fun q => absurd (Array.getElem?_eq_some_iff.mp hv).1 (Nat.not_lt.mpr q)) hv (g := mkF m pc L (.int j :: .ref a :: st)) rfl rfl hd _ r1, r2⟩
theorem Go.newO {own C : String} {index nn : Nat} (hown : Z.vm.findClass own = some m.cls) (w : (Jvm.Cond.classLink own index C).before a0 Z = true) (wi : (Jvm.Cond.instantiable C nn).before a0 Z = true) (wz : (Jvm.Cond.initialized C).before a0 Z = true) (hd : decode c.code pc = .ok (.new index, 3)) (hp : pc + 3 = pc') (hc : k + 1 ≤ R.cells) (hl : n + nn ≤ R.slots)
    (K : ∀ (h' : Heap) (a : Addr), h.size ≤ a → h'.size > a → Ext h h' → Exa Z h' a C → (∀ {O nm d : String} {ty : FieldType}, Laid Z a0 C O nm d → parseFieldDescriptor d = some ty → Fld Z h' a O nm d (defaultValue ty)) → Safe Z EL vm h' a → CHr Z EL vm h vm h' → Go p l e R s m args below meth c Z a0 EL nw Q vm h' (k + 1) (n + nn) pc' L (.ref a :: st)) : Go p l e R s m args below meth c Z a0 EL nw Q vm h k n pc L st := fun T locs k0 hx hk hE X eT hS hk0 hF hZ hN hC hO => by
  subst hp
  have hown' : (s.setVm vm).vm.findClass own = some m.cls := by
    show vm.findClass own = _
    rw [hZ.alike.findClass]; exact hown
  obtain ⟨T', h', X', e', E', A', D', -, st'⟩ := RoadKit.newO X hx (s := s.setVm vm) hZ hown' w wi wz eT (g := mkF m pc L st) rfl hd hc hl
  obtain ⟨t, v, L', r1, r2⟩ := K h' h.size (Nat.le_refl _) A'.lt E' A' D' (Safe.ext E' hC.1 (Safe.new (Nat.le_refl _))) (CHr.ext E' hC.1) T' locs k0 hx hk hE X' e' hS (Nat.le_trans hk0 E'.1) hF hZ hN (hC.trans (CHr.ext E' hC.1)) (ext_trans hO E')
  exact ⟨t, v, L', st' _ r1, r2⟩
theorem Go.newP {aty : ArrayType} {ty : FieldType} {z : Int32} {cap : Nat} (hty : newarray.typeOf aty = ty) (w : (Jvm.Cond.arrayClass ty).before a0 Z = true) (hd : decode c.code pc = .ok (.newarray aty, 2)) (hp : pc + 2 = pc') (hz : ¬ z < 0) (hcap : z.toNatClampNeg ≤ cap) (hb : cap * 8 ≤ 536870912) (hc : k + 1 ≤ R.cells) (hl : n + cap ≤ R.slots)
    (K : ∀ (h' : Heap) (a : Addr) (kA : ClassId), h.size ≤ a → h'.size > a → Ext h h' → Ar Z h' a kA ty (List.replicate z.toNatClampNeg (defaultValue ty)) → Safe Z EL vm h' a → CHr Z EL vm h vm h' → Go p l e R s m args below meth c Z a0 EL nw Q vm h' (k + 1) (n + cap) pc' L (.ref a :: st)) : Go p l e R s m args below meth c Z a0 EL nw Q vm h k n pc L (.int z :: st) := fun T locs k0 hx hk hE X eT hS hk0 hF hZ hN hC hO => by
  subst hp hty
  obtain ⟨T', h', cA, X', e', E', A', st'⟩ := RoadKit.newP X hx (s := s.setVm vm) hZ w eT (g := mkF m pc L (.int z :: st)) rfl hd rfl hz hcap hb hc hl
  obtain ⟨t, v, L', r1, r2⟩ := K h' h.size cA (Nat.le_refl _) A'.lt E' ⟨_, A', rfl, by simp [newA]⟩ (Safe.ext E' hC.1 (Safe.new (Nat.le_refl _))) (CHr.ext E' hC.1) T' locs k0 hx hk hE X' e' hS (Nat.le_trans hk0 E'.1) hF hZ hN (hC.trans (CHr.ext E' hC.1)) (ext_trans hO E')
  exact ⟨t, v, L', st' _ r1, r2⟩
theorem Go.newR {own C : String} {index : Nat} {z : Int32} {cap : Nat} (hown : Z.vm.findClass own = some m.cls) (w1 : (Jvm.Cond.classLink own index C).before a0 Z = true) (w2 : (Jvm.Cond.arrayOver (.object C)).before a0 Z = true) (hd : decode c.code pc = .ok (.anewarray index, 3)) (hp : pc + 3 = pc') (hz : ¬ z < 0) (hcap : z.toNatClampNeg ≤ cap) (hb : cap * 8 ≤ 536870912) (hc : k + 1 ≤ R.cells) (hl : n + cap ≤ R.slots)
    (K : ∀ (h' : Heap) (a : Addr) (kA : ClassId), h.size ≤ a → h'.size > a → Ext h h' → Ar Z h' a kA (.object C) (List.replicate z.toNatClampNeg .null) → Ovr Z kA C → CHr Z EL vm h vm h' → Go p l e R s m args below meth c Z a0 EL nw Q vm h' (k + 1) (n + cap) pc' L (.ref a :: st)) : Go p l e R s m args below meth c Z a0 EL nw Q vm h k n pc L (.int z :: st) := fun T locs k0 hx hk hE X eT hS hk0 hF hZ hN hC hO => by
  subst hp
  have hown' : (s.setVm vm).vm.findClass own = some m.cls := by
    show vm.findClass own = _
    rw [hZ.alike.findClass]; exact hown
  obtain ⟨T', h', cA, X', e', E', A', O', st'⟩ := RoadKit.newR X hx (s := s.setVm vm) hZ hown' w1 w2 eT (g := mkF m pc L (.int z :: st)) rfl hd rfl hz hcap hb hc hl
  obtain ⟨t, v, L', r1, r2⟩ := K h' h.size cA (Nat.le_refl _) A'.lt E' ⟨_, A', rfl, by simp [newA, defaultValue]⟩ O' (CHr.ext E' hC.1) T' locs k0 hx hk hE X' e' hS (Nat.le_trans hk0 E'.1) hF hZ hN (hC.trans (CHr.ext E' hC.1)) (ext_trans hO E')
  exact ⟨t, v, L', st' _ r1, r2⟩
theorem Go.putF {own R0 O nm d C : String} {index kk : Nat} {ty : FieldType} {a : Addr} {v v' old : Value} (hown : Z.vm.findClass own = some m.cls) (w : (Jvm.Cond.fieldLink own index R0 nm d).before a0 Z = true) (via : Via Z R0 O nm d) (F : Fld Z h a O nm d old) (E : Exa Z h a C)
    (Ly : (Jvm.Cond.lays C O nm d).before a0 Z = true ∨ ((Jvm.Cond.laysFinal C O nm d).before a0 Z = true ∧ own = O ∧ meth.name = "<init>")) (wi : (Jvm.Cond.instantiable C kk).before a0 Z = true) (hty : parseFieldDescriptor d = some ty) (hn : narrow ty v = v') (hf : fits ty v' = true) (hs0 : (C ≠ "java/lang/String" ∧ C ≠ "[B") ∨ Safe Z EL vm h a) (hge : Z.heap.size ≤ a) (hd : decode c.code pc = .ok (.putfield index, 3)) (hp : pc + 3 = pc')
    (K : ∀ (h' : Heap), Wr h h' a (RoadKit.slotOf Z O nm d) v' → h'.size = h.size → Keep h h' [a] → CHr Z EL vm h vm h' → Go p l e R s m args below meth c Z a0 EL nw Q vm h' k n pc' L st) : Go p l e R s m args below meth c Z a0 EL nw Q vm h k n pc L (v :: .ref a :: st) := fun T locs k0 hx hk hE X eT hS hk0 hF hZ hN hC hO => by
  subst hp
  have hown' : (s.setVm vm).vm.findClass own = some m.cls := by
    show vm.findClass own = _
    rw [hZ.alike.findClass]; exact hown
  have hs : Safe Z EL vm h a := hs0.elim (fun q => Safe.exa hZ.alike E q.1 q.2) id
  obtain ⟨T', h', X', e', W', st'⟩ := RoadKit.putFN X hx (s := s.setVm vm) hZ hown' w via eT F E Ly wi hty hn hf (g := mkF m pc L (v :: .ref a :: st)) rfl rfl hd
  obtain ⟨t, v, L', r1, r2⟩ := K h' W' W'.size (Keep.of_wr W') (CHr.wr W' hs hC.1) T' _ k0 hx hk hE X' e' hS (by rw [W'.size]; exact hk0) (Fr.snoc X' hF hge) hZ hN (hC.trans (CHr.wr W' hs hC.1)) (ext_wr hO W' hge)
  exact ⟨t, v, L', st' _ r1, r2⟩
theorem Go.putFN {own R0 O nm d C host : String} {index kk : Nat} {ty : FieldType} {a : Addr} {v old : Value} (hown : Z.vm.findClass own = some m.cls) (w : (Jvm.Cond.fieldLinkNest own index R0 nm d host).before a0 Z = true) (via : Via Z R0 O nm d) (F : Fld Z h a O nm d old) (E : Exa Z h a C)
    (Ly : (Jvm.Cond.lays C O nm d).before a0 Z = true ∨ ((Jvm.Cond.laysFinal C O nm d).before a0 Z = true ∧ own = O ∧ meth.name = "<init>")) (wi : (Jvm.Cond.instantiable C kk).before a0 Z = true) (hty : parseFieldDescriptor d = some ty) (hn : narrow ty v = v) (hf : fits ty v = true) (hs0 : (C ≠ "java/lang/String" ∧ C ≠ "[B") ∨ Safe Z EL vm h a) (hge : Z.heap.size ≤ a) (hd : decode c.code pc = .ok (.putfield index, 3)) (hp : pc + 3 = pc')
    (K : ∀ (h' : Heap), Wr h h' a (RoadKit.slotOf Z O nm d) v → h'.size = h.size → Keep h h' [a] → CHr Z EL vm h vm h' → Go p l e R s m args below meth c Z a0 EL nw Q vm h' k n pc' L st) : Go p l e R s m args below meth c Z a0 EL nw Q vm h k n pc L (v :: .ref a :: st) := fun T locs k0 hx hk hE X eT hS hk0 hF hZ hN hC hO => by
  subst hp
  have hown' : (s.setVm vm).vm.findClass own = some m.cls := by
    show vm.findClass own = _
    rw [hZ.alike.findClass]; exact hown
  have hs : Safe Z EL vm h a := hs0.elim (fun q => Safe.exa hZ.alike E q.1 q.2) id
  obtain ⟨T', h', X', e', W', st'⟩ := RoadKit.putF X hx (s := s.setVm vm) hZ hown' (Or.inr w) via eT F E Ly wi hty hn hf (g := mkF m pc L (v :: .ref a :: st)) rfl rfl hd
  obtain ⟨t, v, L', r1, r2⟩ := K h' W' W'.size (Keep.of_wr W') (CHr.wr W' hs hC.1) T' _ k0 hx hk hE X' e' hS (by rw [W'.size]; exact hk0) (Fr.snoc X' hF hge) hZ hN (hC.trans (CHr.wr W' hs hC.1)) (ext_wr hO W' hge)
  exact ⟨t, v, L', st' _ r1, r2⟩
theorem Go.castore {a : Addr} {kA : ClassId} {vs : List Value} {j x : Int32} (A : Ar Z h a kA .char vs) (hj : ¬ j < 0) (hlt : j.toNatClampNeg < vs.length) (hge : Z.heap.size ≤ a) (hd : decode c.code pc = .ok (.castore, 1)) (hp : pc + 1 = pc')
    (K : ∀ (h' : Heap), Ar Z h' a kA .char (vs.set j.toNatClampNeg (.int (nar .char x))) → h'.size = h.size → Keep h h' [a] → Safe Z EL vm h' a → CHr Z EL vm h vm h' → Go p l e R s m args below meth c Z a0 EL nw Q vm h' k n pc' L st) : Go p l e R s m args below meth c Z a0 EL nw Q vm h k n pc L (.int x :: .int j :: .ref a :: st) := fun T locs k0 hx hk hE X eT hS hk0 hF hZ hN hC hO => by
  subst hp
  have A0 := A
  have hs : Safe Z EL vm h a := A.safe hZ.alike (by intro q; cases q)
  obtain ⟨cl, A, -, e2⟩ := A
  have hin : ¬ (j < 0 ∨ cl.slots.size ≤ j.toNatClampNeg) := fun q => q.elim hj fun q => by rw [← e2] at hlt; simp at hlt; omega
  obtain ⟨T', h', X', e', W', st'⟩ := RoadKit.stC X hx (s := s.setVm vm) hZ eT A hin (g := mkF m pc L (.int x :: .int j :: .ref a :: st)) rfl rfl hd
  obtain ⟨t, v, L', r1, r2⟩ := K h' (A0.set W') W'.size (Keep.of_wr W') (Safe.wr W' hs hC.1 hs) (CHr.wr W' hs hC.1) T' _ k0 hx hk hE X' e' hS (by rw [W'.size]; exact hk0) (Fr.snoc X' hF hge) hZ hN (hC.trans (CHr.wr W' hs hC.1)) (ext_wr hO W' hge)
  exact ⟨t, v, L', st' _ r1, r2⟩
theorem Go.bastore {a : Addr} {kA : ClassId} {vs : List Value} {j x : Int32} (A : Ar Z h a kA .byte vs) (hj : ¬ j < 0) (hlt : j.toNatClampNeg < vs.length) (hs : Safe Z EL vm h a) (hge : Z.heap.size ≤ a) (hd : decode c.code pc = .ok (.bastore, 1)) (hp : pc + 1 = pc')
    (K : ∀ (h' : Heap), Ar Z h' a kA .byte (vs.set j.toNatClampNeg (.int (nar .byte x))) → h'.size = h.size → Keep h h' [a] → Safe Z EL vm h' a → CHr Z EL vm h vm h' → Go p l e R s m args below meth c Z a0 EL nw Q vm h' k n pc' L st) : Go p l e R s m args below meth c Z a0 EL nw Q vm h k n pc L (.int x :: .int j :: .ref a :: st) := fun T locs k0 hx hk hE X eT hS hk0 hF hZ hN hC hO => by
  subst hp
  have A0 := A
  obtain ⟨cl, A, -, e2⟩ := A
  have hin : ¬ (j < 0 ∨ cl.slots.size ≤ j.toNatClampNeg) := fun q => q.elim hj fun q => by rw [← e2] at hlt; simp at hlt; omega
  obtain ⟨T', h', X', e', W', st'⟩ := RoadKit.stB X hx (s := s.setVm vm) hZ eT A hin (g := mkF m pc L (.int x :: .int j :: .ref a :: st)) rfl rfl hd
  obtain ⟨t, v, L', r1, r2⟩ := K h' (A0.set W') W'.size (Keep.of_wr W') (Safe.wr W' hs hC.1 hs) (CHr.wr W' hs hC.1) T' _ k0 hx hk hE X' e' hS (by rw [W'.size]; exact hk0) (Fr.snoc X' hF hge) hZ hN (hC.trans (CHr.wr W' hs hC.1)) (ext_wr hO W' hge)
  exact ⟨t, v, L', st' _ r1, r2⟩
theorem Go.zastore {a : Addr} {kA : ClassId} {vs : List Value} {j x : Int32} (A : Ar Z h a kA .boolean vs) (hj : ¬ j < 0) (hlt : j.toNatClampNeg < vs.length) (hge : Z.heap.size ≤ a) (hd : decode c.code pc = .ok (.bastore, 1)) (hp : pc + 1 = pc')
    (K : ∀ (h' : Heap), Ar Z h' a kA .boolean (vs.set j.toNatClampNeg (.int (nar .boolean x))) → h'.size = h.size → Keep h h' [a] → Safe Z EL vm h' a → CHr Z EL vm h vm h' → Go p l e R s m args below meth c Z a0 EL nw Q vm h' k n pc' L st) : Go p l e R s m args below meth c Z a0 EL nw Q vm h k n pc L (.int x :: .int j :: .ref a :: st) := fun T locs k0 hx hk hE X eT hS hk0 hF hZ hN hC hO => by
  subst hp
  have A0 := A
  have hs : Safe Z EL vm h a := A.safe hZ.alike (by intro q; cases q)
  obtain ⟨cl, A, -, e2⟩ := A
  have hin : ¬ (j < 0 ∨ cl.slots.size ≤ j.toNatClampNeg) := fun q => q.elim hj fun q => by rw [← e2] at hlt; simp at hlt; omega
  obtain ⟨T', h', X', e', W', st'⟩ := RoadKit.stZ X hx (s := s.setVm vm) hZ eT A hin (g := mkF m pc L (.int x :: .int j :: .ref a :: st)) rfl rfl hd
  obtain ⟨t, v, L', r1, r2⟩ := K h' (A0.set W') W'.size (Keep.of_wr W') (Safe.wr W' hs hC.1 hs) (CHr.wr W' hs hC.1) T' _ k0 hx hk hE X' e' hS (by rw [W'.size]; exact hk0) (Fr.snoc X' hF hge) hZ hN (hC.trans (CHr.wr W' hs hC.1)) (ext_wr hO W' hge)
  exact ⟨t, v, L', st' _ r1, r2⟩
theorem Go.iastore {a : Addr} {kA : ClassId} {vs : List Value} {j x : Int32} (A : Ar Z h a kA .int vs) (hj : ¬ j < 0) (hlt : j.toNatClampNeg < vs.length) (hge : Z.heap.size ≤ a) (hd : decode c.code pc = .ok (.iastore, 1)) (hp : pc + 1 = pc')
    (K : ∀ (h' : Heap), Ar Z h' a kA .int (vs.set j.toNatClampNeg (.int x)) → h'.size = h.size → Keep h h' [a] → Safe Z EL vm h' a → CHr Z EL vm h vm h' → Go p l e R s m args below meth c Z a0 EL nw Q vm h' k n pc' L st) : Go p l e R s m args below meth c Z a0 EL nw Q vm h k n pc L (.int x :: .int j :: .ref a :: st) := fun T locs k0 hx hk hE X eT hS hk0 hF hZ hN hC hO => by
  subst hp
  have A0 := A
  have hs : Safe Z EL vm h a := A.safe hZ.alike (by intro q; cases q)
  obtain ⟨cl, A, -, e2⟩ := A
  have hin : ¬ (j < 0 ∨ cl.slots.size ≤ j.toNatClampNeg) := fun q => q.elim hj fun q => by rw [← e2] at hlt; simp at hlt; omega
  obtain ⟨T', h', X', e', W', st'⟩ := RoadKit.stI X hx (s := s.setVm vm) hZ eT A hin (g := mkF m pc L (.int x :: .int j :: .ref a :: st)) rfl rfl hd
  obtain ⟨t, v, L', r1, r2⟩ := K h' (A0.set W') W'.size (Keep.of_wr W') (Safe.wr W' hs hC.1 hs) (CHr.wr W' hs hC.1) T' _ k0 hx hk hE X' e' hS (by rw [W'.size]; exact hk0) (Fr.snoc X' hF hge) hZ hN (hC.trans (CHr.wr W' hs hC.1)) (ext_wr hO W' hge)
  exact ⟨t, v, L', st' _ r1, r2⟩
theorem Go.aastore {a : Addr} {kA : ClassId} {ty : FieldType} {vs : List Value} {j : Int32} {v : Value} (A : Ar Z h a kA ty vs) (hty : ty.isReference = true) (hj : ¬ j < 0) (hlt : j.toNatClampNeg < vs.length) (F : Sto Z h a v) (hge : Z.heap.size ≤ a) (hd : decode c.code pc = .ok (.aastore, 1)) (hp : pc + 1 = pc')
    (K : ∀ (h' : Heap), Ar Z h' a kA ty (vs.set j.toNatClampNeg v) → h'.size = h.size → Keep h h' [a] → CHr Z EL vm h vm h' → Go p l e R s m args below meth c Z a0 EL nw Q vm h' k n pc' L st) : Go p l e R s m args below meth c Z a0 EL nw Q vm h k n pc L (v :: .int j :: .ref a :: st) := fun T locs k0 hx hk hE X eT hS hk0 hF hZ hN hC hO => by
  subst hp
  have A0 := A
  have hs : Safe Z EL vm h a := A.safe hZ.alike (by rintro rfl; cases hty)
  obtain ⟨cl, A, -, e2⟩ := A
  have hin : ¬ (j < 0 ∨ cl.slots.size ≤ j.toNatClampNeg) := fun q => q.elim hj fun q => by rw [← e2] at hlt; simp at hlt; omega
  obtain ⟨T', h', X', e', W', st'⟩ := RoadKit.stR X hx (s := s.setVm vm) hZ eT A hin hty F (g := mkF m pc L (v :: .int j :: .ref a :: st)) rfl rfl hd
  obtain ⟨t, v, L', r1, r2⟩ := K h' (A0.set W') W'.size (Keep.of_wr W') (CHr.wr W' hs hC.1) T' _ k0 hx hk hE X' e' hS (by rw [W'.size]; exact hk0) (Fr.snoc X' hF hge) hZ hN (hC.trans (CHr.wr W' hs hC.1)) (ext_wr hO W' hge)
  exact ⟨t, v, L', st' _ r1, r2⟩
theorem Go.know {P : Prop} (q : Z.Warmed39 vm → CHv Z EL vm h → Ext Z.heap h → P) (K : P → Go p l e R s m args below meth c Z a0 EL nw Q vm h k n pc L st) : Go p l e R s m args below meth c Z a0 EL nw Q vm h k n pc L st := fun T locs k0 hx hk hE X eT hS hk0 hF hZ hN hC hO => K (q hZ hC.1 hO) T locs k0 hx hk hE X eT hS hk0 hF hZ hN hC hO
theorem Go.joinH {pcM k1 n1 : Nat} {P : Vm → Heap → Value → Prop} {F : Value → Array Slot} {S : Value → List Value} (J : ∀ vm' h' v, P vm' h' v → Go p l e R s m args below meth c Z a0 EL nw Q vm' h' k1 n1 pcM (F v) (S v)) (K : (∀ vm' h' v, P vm' h' v → Go p l e R s m args below meth c Z a0 EL nw Q vm' h' k1 n1 pcM (F v) (S v)) → Go p l e R s m args below meth c Z a0 EL nw Q vm h k n pc L st) : Go p l e R s m args below meth c Z a0 EL nw Q vm h k n pc L st := K J
theorem Go.joinI {pcM : Nat} {P : Int32 → Prop} {F : Int32 → Array Slot} {S : Int32 → List Value} (J : ∀ x, P x → Go p l e R s m args below meth c Z a0 EL nw Q vm h k n pcM (F x) (S x)) (K : (∀ x, P x → Go p l e R s m args below meth c Z a0 EL nw Q vm h k n pcM (F x) (S x)) → Go p l e R s m args below meth c Z a0 EL nw Q vm h k n pc L st) : Go p l e R s m args below meth c Z a0 EL nw Q vm h k n pc L st := K J
theorem Go.joinJ {pcM : Nat} {P : Int64 → Prop} {F : Int64 → Array Slot} {S : Int64 → List Value} (J : ∀ x, P x → Go p l e R s m args below meth c Z a0 EL nw Q vm h k n pcM (F x) (S x)) (K : (∀ x, P x → Go p l e R s m args below meth c Z a0 EL nw Q vm h k n pcM (F x) (S x)) → Go p l e R s m args below meth c Z a0 EL nw Q vm h k n pc L st) : Go p l e R s m args below meth c Z a0 EL nw Q vm h k n pc L st := K J
theorem Go.loop {pcH : Nat} {st0 : List Value} {Inv : Nat → Vm → Heap → Nat → Nat → Array Slot → Prop} (step : ∀ r vm h k n L, Inv r vm h k n L → (∀ r' vm' h' k' n' L', r' < r → Inv r' vm' h' k' n' L' → Go p l e R s m args below meth c Z a0 EL nw Q vm' h' k' n' pcH L' st0) → Go p l e R s m args below meth c Z a0 EL nw Q vm h k n pcH L st0) : ∀ r vm h k n L, Inv r vm h k n L → Go p l e R s m args below meth c Z a0 EL nw Q vm h k n pcH L st0 := by
  intro r
  induction r using Nat.strongRecOn with
  | ind r ih => intro vm h k n L hI; exact step r vm h k n L hI fun r' vm' h' k' n' L' hr hI' => ih r' hr vm' h' k' n' L' hI'
theorem Go.castNull {index : Nat} (hd : decode c.code pc = .ok (.checkcast index, 3)) (hp : pc + 3 = pc') (K : Go p l e R s m args below meth c Z a0 EL nw Q vm h k n pc' L (.null :: st)) : Go p l e R s m args below meth c Z a0 EL nw Q vm h k n pc L (.null :: st) := by
  subst hp
  exact Go.plain (fun T _ hx X _ r => Stand.checkcastNull X hx (g := mkF m pc L (.null :: st)) rfl (rest := st) rfl hd _ r) K
theorem Go.instNull {index : Nat} (hd : decode c.code pc = .ok (.instanceof index, 3)) (hp : pc + 3 = pc') (K : Go p l e R s m args below meth c Z a0 EL nw Q vm h k n pc' L (.int 0 :: st)) : Go p l e R s m args below meth c Z a0 EL nw Q vm h k n pc L (.null :: st) := by
  subst hp
  exact Go.plain (fun T _ hx X _ r => Stand.instanceofNull X hx (g := mkF m pc L (.null :: st)) rfl (rest := st) rfl hd _ r) K
theorem Go.ldcStr {own text : String} {index n0 : Nat} {vs : List Value} (hnw : ¬ nw) (hown : Z.vm.findClass own = some m.cls) (w : (Jvm.Cond.stringLink own index text).before a0 Z = true) (wS : ∀ a ∈ Bundle.stringAtoms, a.before a0 Z = true) (hmem : (own, index) ∈ EL)
    (ht : (∀ c ∈ text.toList, c.toNat < 256) ∧ text.toList.map (fun c => Value.int (Jvm.Lit.byteI c.toNat.toUInt16)) = vs) (hd : decode c.code pc = .ok (.ldc index, 2)) (hp : pc + 2 = pc') (hn : 4 * text.toList.length ≤ n0) (hbig : n0 ≤ 536870912) (hc : k + 2 ≤ R.cells) (hl : n + (n0 + 4) ≤ R.slots)
    (K : ∀ (vm' : Vm) (h' : Heap) (a b : Addr) (kA : ClassId), Ext h h' → CHr Z EL vm h vm' h' → Exa Z h' a "java/lang/String" → Fld Z h' a "java/lang/String" "coder" "B" (.int 0) → Fld Z h' a "java/lang/String" "value" "[B" (.ref b) → Ar Z h' b kA .byte vs → h'.size > a → h'.size > b → (∀ x, Safe Z EL vm' h' x → x ≠ a ∧ x ≠ b) → Go p l e R s m args below meth c Z a0 EL nw Q vm' h' (k + 2) (n + (n0 + 4)) pc' L (.ref a :: st)) : Go p l e R s m args below meth c Z a0 EL nw Q vm h k n pc L st := fun T locs k0 hx hk hE X eT hS hk0 hF hZ hN hC hO => by
  subst hp
  have hown' : (s.setVm vm).vm.findClass own = some m.cls := by
    show vm.findClass own = _
    rw [hZ.alike.findClass]; exact hown
  have hlen : vs.length = text.toList.length := by rw [← ht.2, List.length_map]
  have hz : ¬ (vs.length.toInt32 < 0) := by
    have q : vs.length < 2 ^ 31 := by omega
    have := Int32.toInt_ofNat_small q
    intro z
    have := Int32.lt_iff_toInt_lt.mp z
    have e0 : (0 : Int32).toInt = 0 := rfl
    have e1 : vs.length.toInt32.toInt = vs.length := Int32.toInt_ofNat_small q
    omega
  have hlz : vs.length.toInt32.toNatClampNeg = vs.length := by
    have q : vs.length < 2 ^ 31 := by omega
    have e1 : vs.length.toInt32.toInt = vs.length := Int32.toInt_ofNat_small q
    rw [← Int32.toNat_toInt, e1]; rfl
  obtain ⟨a, T', h', k1, b, kA, X', e', E', hS', hk', hZ', hown2, x1, x2, x3, x4, x5, x6, hC', -, hsafe, st'⟩ := ldcCH X hx hZ hown' w wS eT hS hk0 hE hmem hC.1 ht hz hlz (g := mkF m pc L st) rfl hd hn hbig hc hl
  obtain ⟨t, v, L', r1, r2⟩ := K T'.vm h' a b kA E' hC' x1 x2 x3 (Ar.of_arv x4 hlz) x5 x6 hsafe T' locs k1 hx hk hE X' e' hS' hk' hF hZ' (fun q => absurd q hnw) (hC.trans hC') (ext_trans hO E')
  exact ⟨t, v, L', st' _ r1, r2⟩
theorem Go.ldcRef {own text : String} {index n0 : Nat} (hnw : ¬ nw) (hown : Z.vm.findClass own = some m.cls) (w : (Jvm.Cond.stringLink own index text).before a0 Z = true) (wS : ∀ a ∈ Bundle.stringAtoms, a.before a0 Z = true)
    (hd : decode c.code pc = .ok (.ldc index, 2)) (hp : pc + 2 = pc') (hn : 4 * text.toList.length ≤ n0) (hbig : n0 ≤ 536870912) (hc : k + 2 ≤ R.cells) (hl : n + (n0 + 4) ≤ R.slots)
    (K : ∀ (vm' : Vm) (h' : Heap) (a : Addr), Ext h h' → CHr Z EL vm h vm' h' → Go p l e R s m args below meth c Z a0 EL nw Q vm' h' (k + 2) (n + (n0 + 4)) pc' L (.ref a :: st)) : Go p l e R s m args below meth c Z a0 EL nw Q vm h k n pc L st := fun T locs k0 hx hk hE X eT hS hk0 hF hZ hN hC hO => by
  subst hp
  have hown' : (s.setVm vm).vm.findClass own = some m.cls := by
    show vm.findClass own = _
    rw [hZ.alike.findClass]; exact hown
  obtain ⟨a, T', h', k1, X', e', E', hS', hk', hZ', hown2, hC', -, st'⟩ := ldcOH X hx hZ hown' w wS eT hS hk0 hE hC.1 (g := mkF m pc L st) rfl hd hn hbig hc hl
  obtain ⟨t, v, L', r1, r2⟩ := K T'.vm h' a E' hC' T' locs k1 hx hk hE X' e' hS' hk' hF hZ' (fun q => absurd q hnw) (hC.trans hC') (ext_trans hO E')
  exact ⟨t, v, L', st' _ r1, r2⟩
theorem Go.ret (hret : meth.sig.returnType = none) (hd : decode c.code pc = .ok (.return_, 1)) (hk1 : k ≤ R.cells) (hn1 : n ≤ R.slots) (q : ∀ vm', CHr Z EL vm h vm' h → Q none vm' h) : Go p l e R s m args below meth c Z a0 EL nw Q vm h k n pc L [] := fun T locs k0 hx hk hE X eT hS hk0 hF hZ hN hC hO => by
  subst eT
  obtain ⟨fs, h1, h2, h3, h4⟩ := X.leaveW hS hk0 (v := none) (fun _ => rfl) hk
  have hA := CHv.at X hZ hE hC.1
  refine ⟨_, none, locs, X.returnOut hx hret hd h1, h2, h3, hF, q _ hA, hC.trans hA, hO, ?_, fun z => State.WarmedH.trans (t := s.setVm vm) (hN z) X.warmed⟩
  exact ⟨h4.1, h4.2.1, h4.2.2.1, h4.2.2.2.mono hk1 hn1⟩
theorem Go.retV {w : Value} {t : FieldType} {i : Instr} (hret : meth.sig.returnType = some t) (hn : narrow t w = w)
    (hi : (i = .ireturn ∧ (t = .int ∨ t = .boolean ∨ t = .byte ∨ t = .char ∨ t = .short) ∧ ∃ z, w = .int z) ∨ (i = .lreturn ∧ t = .long ∧ ∃ z, w = .long z) ∨ (i = .dreturn ∧ t = .double ∧ ∃ z, w = .double z) ∨ (i = .freturn ∧ t = .float ∧ ∃ z, w = .float z) ∨ (i = .areturn ∧ t.isReference = true ∧ w.isRef = true))
    (hd : decode c.code pc = .ok (i, 1)) (hk1 : k ≤ R.cells) (hn1 : n ≤ R.slots) (q : ∀ vm', CHr Z EL vm h vm' h → Q (some w) vm' h) : Go p l e R s m args below meth c Z a0 EL nw Q vm h k n pc L (w :: st) := fun T locs k0 hx hk hE X eT hS hk0 hF hZ hN hC hO => by
  subst eT
  obtain ⟨fs, h1, h2, h3, h4⟩ := X.leaveW hS hk0 (v := some w) (fun z => by rw [hret] at z; cases z) hk
  have hA := CHv.at X hZ hE hC.1
  refine ⟨_, some w, locs, retOut X hx hret hn hi hd h1, h2, h3, hF, q _ hA, hC.trans hA, hO, ?_, fun z => State.WarmedH.trans (t := s.setVm vm) (hN z) X.warmed⟩
  exact ⟨h4.1, h4.2.1, h4.2.2.1, h4.2.2.2.mono hk1 hn1⟩
theorem Go.retA {w : Value} {t : FieldType} (hret : meth.sig.returnType = some t) (ht : t.isReference = true) (hw : w.isRef = true) (hd : decode c.code pc = .ok (.areturn, 1)) (hk1 : k ≤ R.cells) (hn1 : n ≤ R.slots) (q : ∀ vm', CHr Z EL vm h vm' h → Q (some w) vm' h) : Go p l e R s m args below meth c Z a0 EL nw Q vm h k n pc L (w :: st) :=
  Go.retV hret (by cases t <;> simp [FieldType.isReference] at ht <;> cases w <;> simp [Value.isRef] at hw <;> rfl) (Or.inr (Or.inr (Or.inr (Or.inr ⟨rfl, ht, hw⟩)))) hd hk1 hn1 q
theorem Go.retI {z : Int32} (hret : meth.sig.returnType = some .int) (hd : decode c.code pc = .ok (.ireturn, 1)) (hk1 : k ≤ R.cells) (hn1 : n ≤ R.slots) (q : ∀ vm', CHr Z EL vm h vm' h → Q (some (.int z)) vm' h) : Go p l e R s m args below meth c Z a0 EL nw Q vm h k n pc L (.int z :: st) :=
  Go.retV hret rfl (Or.inl ⟨rfl, Or.inl rfl, _, rfl⟩) hd hk1 hn1 q
theorem Go.retJ {z : Int64} (hret : meth.sig.returnType = some .long) (hd : decode c.code pc = .ok (.lreturn, 1)) (hk1 : k ≤ R.cells) (hn1 : n ≤ R.slots) (q : ∀ vm', CHr Z EL vm h vm' h → Q (some (.long z)) vm' h) : Go p l e R s m args below meth c Z a0 EL nw Q vm h k n pc L (.long z :: st) :=
  Go.retV hret rfl (Or.inr (Or.inl ⟨rfl, rfl, _, rfl⟩)) hd hk1 hn1 q
theorem Go.retN {z : Int32} {t : FieldType} (hret : meth.sig.returnType = some t) (ht : t = .boolean ∨ t = .byte ∨ t = .char ∨ t = .short) (hd : decode c.code pc = .ok (.ireturn, 1)) (hk1 : k ≤ R.cells) (hn1 : n ≤ R.slots) (q : ∀ vm', CHr Z EL vm h vm' h → Q (some (.int (nar t z))) vm' h) : Go p l e R s m args below meth c Z a0 EL nw Q vm h k n pc L (.int z :: st) := fun T locs k0 hx hk hE X eT hS hk0 hF hZ hN hC hO => by
  subst eT
  obtain ⟨fs, h1, h2, h3, h4⟩ := X.leaveW hS hk0 (v := some (.int (nar t z))) (fun z => by rw [hret] at z; cases z) hk
  have hA := CHv.at X hZ hE hC.1
  refine ⟨_, some (.int (nar t z)), locs, RoadKit.retN X hx hret ht hd h1, h2, h3, hF, q _ hA, hC.trans hA, hO, ?_, fun z => State.WarmedH.trans (t := s.setVm vm) (hN z) X.warmed⟩
  exact ⟨h4.1, h4.2.1, h4.2.2.1, h4.2.2.2.mono hk1 hn1⟩
theorem Ct.of_go {ws : List Jvm.Cond} {y : MethodName} {bytes : ByteArray} {maxL : Nat} {ret : Option FieldType} {rm : Room} {as : Array Value} {sf : List Addr} {L0 : Array Slot} (hEL : EW Z a0 EL) (pn : plainName y.cls = true) (hL : ∀ m, entryFrame m as maxL = mkF m 0 L0 [])
    (body : ∀ (p : Program) (e : Env) (s : State) (m : MethodId) (below : List Frame) (meth : Method) (c : Code), Z.vm.findClass y.cls = some m.cls → c.code = bytes → c.maxLocals = maxL → meth.sig.returnType = ret → meth.name = y.name → Z.Warmed39 s.vm → CHv Z EL s.vm h → Ext Z.heap h → (∀ x ∈ sf, Safe Z EL s.vm h x) →
      Go p l e rm s m as below meth c Z a0 EL nw Q s.vm h 0 0 0 L0 []) : Ct l Z EL nw ws y bytes maxL ret rm as h sf Q := by
  refine MetFree.of_bodySF (plainFor_of_name pn) hisR ?_
  intro p e s m args below meth c s₁ Bd hml hP hK
  obtain ⟨rfl, hZ, hh, hC, hO, hsf⟩ := hP
  have hown : s.vm.findClass y.cls = some m.cls := findClass_of_methodNamed Bd.named
  have hnm := (name_of_methodNamed Bd.named Bd.method).1
  have X0 : Stand p l e rm (s.setVm s.vm) m args below meth c s₁ [] 0 0 := Stand.of_body Bd
  have e0 : s₁.heap = h := by rw [← hh, Bd.state]; rfl
  have hC0 : CHr Z EL s.vm s.heap s.vm h := by rw [hh]; exact CHr.refl hC
  obtain ⟨t, v, L', r1, r2, r3, r4, r5, r6, r7, r8, r9⟩ := body p e s m below meth c (by rw [← hZ.alike.findClass]; exact hown) Bd.bytes hml Bd.returns hnm hZ hC hO hsf s₁ [] 0 Bd.exec Bd.notSynchronized hEL X0 e0 ((State.WarmedH.refl s).since 0) (Nat.zero_le _) (Fr.nil _) hZ (fun _ => State.WarmedH.refl s) hC0 hO
  exact ⟨t, .returned v, castTop (hL m) r1, r2, r3, v, L', rfl, r4, r5, r6, r7, r9, r8⟩
theorem Ct.back {y : MethodName} {bytes : ByteArray} {maxL : Nat} {ret : Option FieldType} {rm : Room} {len W : Nat} {as : Array Value} {sf : List Addr} {Q' : Option Value → Vm → Heap → Prop} (hM : Ct l Z EL nw [] y bytes maxL ret rm as h sf Q')
    (hZ : Z.Warmed39 vm) (wc : (Jvm.Cond.code y bytes maxL ret).before a0 Z = true) (wz : (Jvm.Cond.initialized y.cls).before a0 Z = true) (hf : rm.frames + 1 ≤ R.frames) (hl : W + (maxL + 11) + rm.locals ≤ R.locals) (hEL : EW Z a0 EL) (H : CHv Z EL vm h) (hO : Ext Z.heap h) (hsf : ∀ x ∈ sf, h.size > x ∧ Safe Z EL vm h x) :
    BackS l R p e below (s.setVm vm) args y len W (fun A a => a = as ∧ A.U.heap = h ∧ A.cells + rm.cells ≤ R.cells ∧ A.slots + rm.slots ≤ R.slots)
      (fun A _ v B => ∃ L, B.locs = A.locs ++ L ∧ B.cells = A.cells + rm.cells ∧ B.slots = A.slots + rm.slots ∧ Fr Z.heap.size L ∧ Q' v B.U.vm B.U.heap ∧ CHr Z EL vm h B.U.vm B.U.heap ∧ Ext Z.heap B.U.heap ∧ (nw → (s.setVm vm).WarmedH B.U.vm)) :=
  BackS.of_freeW (bytes := bytes) (maxL := maxL) (ret := ret) (E := fun _ first o t L k n => k = rm.cells ∧ n = rm.slots ∧ ∃ v, o = .returned v ∧ Fr Z.heap.size L ∧ Q' v t.vm t.heap ∧ CHr Z EL first.vm first.heap t.vm t.heap ∧ Ext Z.heap t.heap ∧ (nw → first.WarmedH t.vm)) hM hf hl
    (fun m meth c A a Y hp => have hU : Z.Warmed39 A.U.vm := wtrans (s := s.setVm vm) hZ Y.warmed
      ⟨by show (Jvm.Cond.and _ .tt).before a A.U = true; rw [Cond.before_and, mv hU wc]; rfl, mv hU wc, mv hU wz, hp.2.2.1, hp.2.2.2⟩)
    (fun m meth c A a g mk Y hp => ⟨hp.1, wtrans (s := s.setVm vm) hZ Y.warmed, hp.2.1, (CHv.at Y hZ hEL H).1, hO, fun x hx => (CHv.at Y hZ hEL H).safe (hsf x hx).1 (hsf x hx).2⟩) (fun _ _ _ _ _ _ _ _ _ => trivial)
    (fun _ _ _ _ ⟨v, L, h1, h2, h3, h4, h5, h6, h7⟩ => ⟨L, _, _, h7, rfl, rfl, v, h1, h2, h3, h4, h5, h6⟩)
    (fun m meth c A a g mk v t L k n Y hp _ _ ⟨e1, e2, v', e3, e4, e5, e6, e7, e8⟩ => by
      cases e3; subst e1 e2
      refine ⟨L, rfl, rfl, rfl, e4, e5, (CHv.at Y hZ hEL H).trans ?_, e7, fun z => State.WarmedH.trans Y.warmed (e8 z)⟩
      rw [← hp.2.1]; exact e6)
theorem nf_warm {y : MethodName} (hZ : Z.Warmed39 vm) (nf : NotFace Z y) : NotFace (s.setVm vm) y := fun r0 hr => by
  have q : Z.methodNamed? y = some r0 := by
    have := State.methodNamed?_setVm (s := Z) (vm' := vm) hZ.alike y
    rw [← this]; exact hr
  obtain ⟨kr, h1, h2⟩ := nf r0 q
  obtain ⟨kr', g1, g2⟩ := hZ.alike.2.2 _ _ h1
  exact ⟨kr', g1, by rw [g2]; exact h2⟩
theorem Go.callS {own : String} {y : MethodName} {bytes : ByteArray} {maxL : Nat} {ret : Option FieldType} {rm : Room} {W index : Nat} {argsL : List Value} {as : Array Value} {sf : List Addr} {Q' : Option Value → Vm → Heap → Prop} (hM : Ct l Z EL nw [] y bytes maxL ret rm as h sf Q') (hown : Z.vm.findClass own = some m.cls) (w1 : (Jvm.Cond.methodLink own index y).before a0 Z = true) (w2 : (Jvm.Cond.static y).before a0 Z = true) (wc : (Jvm.Cond.code y bytes maxL ret).before a0 Z = true) (wz : (Jvm.Cond.initialized y.cls).before a0 Z = true)
    (hy : y.cls ≠ "java/lang/invoke/MethodHandle" ∧ y.cls ≠ "java/lang/invoke/VarHandle") (hlen : ∀ sig, parseMethodDescriptor y.desc = some sig → argsL.length = sig.parameters.length) (has : as = argsL.toArray) (hL : L.size = c.maxLocals) (hW : (st.map fun v => v.category).sum = W) (hd : decode c.code pc = .ok (.invokestatic index, 3)) (hp : pc + 3 = pc') (hf : rm.frames + 1 ≤ R.frames) (hl : W + (maxL + 11) + rm.locals ≤ R.locals) (hc1 : k + rm.cells ≤ R.cells) (hc2 : n + rm.slots ≤ R.slots) (hsf : ∀ x ∈ sf, h.size > x ∧ Safe Z EL vm h x)
    (K : ∀ (v : Option Value) (vm' : Vm) (h' : Heap), Q' v vm' h' → CHr Z EL vm h vm' h' → Go p l e R s m args below meth c Z a0 EL nw Q vm' h' (k + rm.cells) (n + rm.slots) pc' L (v.toList ++ st)) : Go p l e R s m args below meth c Z a0 EL nw Q vm h k n pc L (argsL.reverse ++ st) := fun T locs k0 hx hk hE X eT hS hk0 hF hZ hN hC hO => by
  subst hp has
  have hown' : (s.setVm vm).vm.findClass own = some m.cls := by
    show vm.findClass own = _
    rw [hZ.alike.findClass]; exact hown
  have hWW : 2 * (mkF m pc L (argsL.reverse ++ st)).monitorRoom + (st.map fun v => v.category).sum ≤ W := by show 2 * 0 + _ ≤ _; rw [Nat.mul_zero, Nat.zero_add]; exact Nat.le_of_eq hW
  have hB := fun len => Ct.back (p := p) (e := e) (below := below) (s := s) (args := args) (len := len) hM hZ wc wz hf hl hE hC.1 hO hsf
  obtain ⟨v, vm1, ⟨T', L1, k1, n1⟩, -, X', hS', hg', hP', st'⟩ := callSS X hx hown' (mv (s := s.setVm vm) hZ w1) (mv (s := s.setVm vm) hZ w2) (mv (s := s.setVm vm) hZ wz) (mv (s := s.setVm vm) hZ wc) hy (hB 3) (g := mkF m pc L (argsL.reverse ++ st)) rfl hL hlen rfl hWW hd (fun _ _ => ⟨rfl, eT, hc1, hc2⟩)
  dsimp only [Pt.U, Pt.locs, Pt.cells, Pt.slots] at X' hS' hg' hP' st'
  obtain ⟨L2, rfl, rfl, rfl, q1, q2, q3, q4, q5⟩ := hP'
  obtain ⟨t, v', L', r1, r2⟩ := K v T'.vm T'.heap q2 q3 T' _ _ hx hk hE X' rfl (hS.trans hS' (Nat.le_trans hk0 (by rw [← eT]; exact hg'))) (Nat.le_refl _) (Fr.app hF q1) (State.Warmed39.trans (t := s.setVm vm) hZ hS'.1) (fun z => State.WarmedH.trans (t := s.setVm vm) (hN z) (q5 z)) (hC.trans q3) q4
  exact ⟨t, v', L', st'.trans r1, r2⟩
theorem Go.callSN {own host : String} {y : MethodName} {bytes : ByteArray} {maxL : Nat} {ret : Option FieldType} {rm : Room} {W index : Nat} {argsL : List Value} {as : Array Value} {sf : List Addr} {Q' : Option Value → Vm → Heap → Prop} (hM : Ct l Z EL nw [] y bytes maxL ret rm as h sf Q') (hown : Z.vm.findClass own = some m.cls) (w1 : (Jvm.Cond.methodLinkNest own index y host).before a0 Z = true) (w2 : (Jvm.Cond.static y).before a0 Z = true) (wc : (Jvm.Cond.code y bytes maxL ret).before a0 Z = true) (wz : (Jvm.Cond.initialized y.cls).before a0 Z = true)
    (hy : y.cls ≠ "java/lang/invoke/MethodHandle" ∧ y.cls ≠ "java/lang/invoke/VarHandle") (hlen : ∀ sig, parseMethodDescriptor y.desc = some sig → argsL.length = sig.parameters.length) (has : as = argsL.toArray) (hL : L.size = c.maxLocals) (hW : (st.map fun v => v.category).sum = W) (hd : decode c.code pc = .ok (.invokestatic index, 3)) (hp : pc + 3 = pc') (hf : rm.frames + 1 ≤ R.frames) (hl : W + (maxL + 11) + rm.locals ≤ R.locals) (hc1 : k + rm.cells ≤ R.cells) (hc2 : n + rm.slots ≤ R.slots) (hsf : ∀ x ∈ sf, h.size > x ∧ Safe Z EL vm h x)
    (K : ∀ (v : Option Value) (vm' : Vm) (h' : Heap), Q' v vm' h' → CHr Z EL vm h vm' h' → Go p l e R s m args below meth c Z a0 EL nw Q vm' h' (k + rm.cells) (n + rm.slots) pc' L (v.toList ++ st)) : Go p l e R s m args below meth c Z a0 EL nw Q vm h k n pc L (argsL.reverse ++ st) := fun T locs k0 hx hk hE X eT hS hk0 hF hZ hN hC hO => by
  subst hp has
  have hown' : (s.setVm vm).vm.findClass own = some m.cls := by
    show vm.findClass own = _
    rw [hZ.alike.findClass]; exact hown
  have hWW : 2 * (mkF m pc L (argsL.reverse ++ st)).monitorRoom + (st.map fun v => v.category).sum ≤ W := by show 2 * 0 + _ ≤ _; rw [Nat.mul_zero, Nat.zero_add]; exact Nat.le_of_eq hW
  have hB := fun len => Ct.back (p := p) (e := e) (below := below) (s := s) (args := args) (len := len) hM hZ wc wz hf hl hE hC.1 hO hsf
  obtain ⟨v, vm1, ⟨T', L1, k1, n1⟩, -, X', hS', hg', hP', st'⟩ := callSNS X hx hown' (Cond.methodLinkNest_wide hZ w1 :) (mv (s := s.setVm vm) hZ w2) (mv (s := s.setVm vm) hZ wz) (mv (s := s.setVm vm) hZ wc) hy (hB 3) (g := mkF m pc L (argsL.reverse ++ st)) rfl hL hlen rfl hWW hd (fun _ _ => ⟨rfl, eT, hc1, hc2⟩)
  dsimp only [Pt.U, Pt.locs, Pt.cells, Pt.slots] at X' hS' hg' hP' st'
  obtain ⟨L2, rfl, rfl, rfl, q1, q2, q3, q4, q5⟩ := hP'
  obtain ⟨t, v', L', r1, r2⟩ := K v T'.vm T'.heap q2 q3 T' _ _ hx hk hE X' rfl (hS.trans hS' (Nat.le_trans hk0 (by rw [← eT]; exact hg'))) (Nat.le_refl _) (Fr.app hF q1) (State.Warmed39.trans (t := s.setVm vm) hZ hS'.1) (fun z => State.WarmedH.trans (t := s.setVm vm) (hN z) (q5 z)) (hC.trans q3) q4
  exact ⟨t, v', L', st'.trans r1, r2⟩
theorem Go.callC {own : String} {a : Addr} {y : MethodName} {bytes : ByteArray} {maxL : Nat} {ret : Option FieldType} {rm : Room} {W index : Nat} {argsL : List Value} {as : Array Value} {sf : List Addr} {Q' : Option Value → Vm → Heap → Prop} (hM : Ct l Z EL nw [] y bytes maxL ret rm as h sf Q') (hown : Z.vm.findClass own = some m.cls) (hret0 : ret = none) (hinit : y.name = "<init>") (w1 : (Jvm.Cond.methodLink own index y).before a0 Z = true) (w2 : (Jvm.Cond.instanceMethod y).before a0 Z = true) (wc : (Jvm.Cond.code y bytes maxL ret).before a0 Z = true) (wz : (Jvm.Cond.initialized y.cls).before a0 Z = true)
    (hy : y.cls ≠ "java/lang/invoke/MethodHandle" ∧ y.cls ≠ "java/lang/invoke/VarHandle") (hlen : ∀ sig, parseMethodDescriptor y.desc = some sig → argsL.length = sig.parameters.length) (has : as = (.ref a :: argsL).toArray) (hL : L.size = c.maxLocals) (hW : (st.map fun v => v.category).sum = W) (hd : decode c.code pc = .ok (.invokespecial index, 3)) (hp : pc + 3 = pc') (hf : rm.frames + 1 ≤ R.frames) (hl : W + (maxL + 11) + rm.locals ≤ R.locals) (hc1 : k + rm.cells ≤ R.cells) (hc2 : n + rm.slots ≤ R.slots) (hsf : ∀ x ∈ sf, h.size > x ∧ Safe Z EL vm h x)
    (K : ∀ (v : Option Value) (vm' : Vm) (h' : Heap), Q' v vm' h' → CHr Z EL vm h vm' h' → Go p l e R s m args below meth c Z a0 EL nw Q vm' h' (k + rm.cells) (n + rm.slots) pc' L (v.toList ++ st)) : Go p l e R s m args below meth c Z a0 EL nw Q vm h k n pc L (argsL.reverse ++ .ref a :: st) := fun T locs k0 hx hk hE X eT hS hk0 hF hZ hN hC hO => by
  subst hp has
  have hown' : (s.setVm vm).vm.findClass own = some m.cls := by
    show vm.findClass own = _
    rw [hZ.alike.findClass]; exact hown
  have hWW : 2 * (mkF m pc L (argsL.reverse ++ .ref a :: st)).monitorRoom + (st.map fun v => v.category).sum ≤ W := by show 2 * 0 + _ ≤ _; rw [Nat.mul_zero, Nat.zero_add]; exact Nat.le_of_eq hW
  have hB := fun len => Ct.back (p := p) (e := e) (below := below) (s := s) (args := args) (len := len) hM hZ wc wz hf hl hE hC.1 hO hsf
  subst hret0
  obtain ⟨v, vm1, ⟨T', L1, k1, n1⟩, -, X', hS', hg', hP', st'⟩ := X.specialBackS hx hinit hown' (mv (s := s.setVm vm) hZ w1) (mv (s := s.setVm vm) hZ w2) (mv (s := s.setVm vm) hZ wc) hy (hB 3) (g := mkF m pc L (argsL.reverse ++ .ref a :: st)) rfl hL (Steps.refl _) (a := a) (argsL := argsL) (rest := st) hlen rfl hWW hd (fun _ _ => ⟨rfl, eT, hc1, hc2⟩)
  dsimp only [Pt.U, Pt.locs, Pt.cells, Pt.slots] at X' hS' hg' hP' st'
  obtain ⟨L2, rfl, rfl, rfl, q1, q2, q3, q4, q5⟩ := hP'
  obtain ⟨t, v', L', r1, r2⟩ := K v T'.vm T'.heap q2 q3 T' _ _ hx hk hE X' rfl (hS.trans hS' (Nat.le_trans hk0 (by rw [← eT]; exact hg'))) (Nat.le_refl _) (Fr.app hF q1) (State.Warmed39.trans (t := s.setVm vm) hZ hS'.1) (fun z => State.WarmedH.trans (t := s.setVm vm) (hN z) (q5 z)) (hC.trans q3) q4
  exact ⟨t, v', L', st'.trans r1, r2⟩
theorem Go.callCN {own host : String} {a : Addr} {y : MethodName} {bytes : ByteArray} {maxL : Nat} {ret : Option FieldType} {rm : Room} {W index : Nat} {argsL : List Value} {as : Array Value} {sf : List Addr} {Q' : Option Value → Vm → Heap → Prop} (hM : Ct l Z EL nw [] y bytes maxL ret rm as h sf Q') (hown : Z.vm.findClass own = some m.cls) (hret0 : ret = none) (hinit : y.name = "<init>") (w1 : (Jvm.Cond.methodLinkNest own index y host).before a0 Z = true) (w2 : (Jvm.Cond.instanceMethod y).before a0 Z = true) (wc : (Jvm.Cond.code y bytes maxL ret).before a0 Z = true) (wz : (Jvm.Cond.initialized y.cls).before a0 Z = true)
    (hy : y.cls ≠ "java/lang/invoke/MethodHandle" ∧ y.cls ≠ "java/lang/invoke/VarHandle") (hlen : ∀ sig, parseMethodDescriptor y.desc = some sig → argsL.length = sig.parameters.length) (has : as = (.ref a :: argsL).toArray) (hL : L.size = c.maxLocals) (hW : (st.map fun v => v.category).sum = W) (hd : decode c.code pc = .ok (.invokespecial index, 3)) (hp : pc + 3 = pc') (hf : rm.frames + 1 ≤ R.frames) (hl : W + (maxL + 11) + rm.locals ≤ R.locals) (hc1 : k + rm.cells ≤ R.cells) (hc2 : n + rm.slots ≤ R.slots) (hsf : ∀ x ∈ sf, h.size > x ∧ Safe Z EL vm h x)
    (K : ∀ (v : Option Value) (vm' : Vm) (h' : Heap), Q' v vm' h' → CHr Z EL vm h vm' h' → Go p l e R s m args below meth c Z a0 EL nw Q vm' h' (k + rm.cells) (n + rm.slots) pc' L (v.toList ++ st)) : Go p l e R s m args below meth c Z a0 EL nw Q vm h k n pc L (argsL.reverse ++ .ref a :: st) := fun T locs k0 hx hk hE X eT hS hk0 hF hZ hN hC hO => by
  subst hp has
  have hown' : (s.setVm vm).vm.findClass own = some m.cls := by
    show vm.findClass own = _
    rw [hZ.alike.findClass]; exact hown
  have hWW : 2 * (mkF m pc L (argsL.reverse ++ .ref a :: st)).monitorRoom + (st.map fun v => v.category).sum ≤ W := by show 2 * 0 + _ ≤ _; rw [Nat.mul_zero, Nat.zero_add]; exact Nat.le_of_eq hW
  have hB := fun len => Ct.back (p := p) (e := e) (below := below) (s := s) (args := args) (len := len) hM hZ wc wz hf hl hE hC.1 hO hsf
  subst hret0
  obtain ⟨v, vm1, ⟨T', L1, k1, n1⟩, -, X', hS', hg', hP', st'⟩ := X.specialBackNestS hx hinit hown' (Cond.methodLinkNest_wide hZ w1 :) (mv (s := s.setVm vm) hZ w2) (mv (s := s.setVm vm) hZ wc) hy (hB 3) (g := mkF m pc L (argsL.reverse ++ .ref a :: st)) rfl hL (Steps.refl _) (a := a) (argsL := argsL) (rest := st) hlen rfl hWW hd (fun _ _ => ⟨rfl, eT, hc1, hc2⟩)
  dsimp only [Pt.U, Pt.locs, Pt.cells, Pt.slots] at X' hS' hg' hP' st'
  obtain ⟨L2, rfl, rfl, rfl, q1, q2, q3, q4, q5⟩ := hP'
  obtain ⟨t, v', L', r1, r2⟩ := K v T'.vm T'.heap q2 q3 T' _ _ hx hk hE X' rfl (hS.trans hS' (Nat.le_trans hk0 (by rw [← eT]; exact hg'))) (Nat.le_refl _) (Fr.app hF q1) (State.Warmed39.trans (t := s.setVm vm) hZ hS'.1) (fun z => State.WarmedH.trans (t := s.setVm vm) (hN z) (q5 z)) (hC.trans q3) q4
  exact ⟨t, v', L', st'.trans r1, r2⟩
theorem Go.callV {own C : String} {a : Addr} {y0 : MethodName} {y : MethodName} {bytes : ByteArray} {maxL : Nat} {ret : Option FieldType} {rm : Room} {W index : Nat} {argsL : List Value} {as : Array Value} {sf : List Addr} {Q' : Option Value → Vm → Heap → Prop} (hM : Ct l Z EL nw [] y bytes maxL ret rm as h sf Q') (hown : Z.vm.findClass own = some m.cls) (w1 : (Jvm.Cond.methodLink own index y0).before a0 Z = true) (w2 : (Jvm.Cond.declares y0).before a0 Z = true) (nf : NotFace Z y0) (w3 : (Jvm.Cond.selects C y0 y).before a0 Z = true) (w4 : (Jvm.Cond.instanceMethod y).before a0 Z = true) (E : Exa Z h a C) (wc : (Jvm.Cond.code y bytes maxL ret).before a0 Z = true) (wz : (Jvm.Cond.initialized y.cls).before a0 Z = true)
    (hy : y0.cls ≠ "java/lang/invoke/MethodHandle" ∧ y0.cls ≠ "java/lang/invoke/VarHandle") (hlen : ∀ sig, parseMethodDescriptor y0.desc = some sig → argsL.length = sig.parameters.length) (has : as = (.ref a :: argsL).toArray) (hL : L.size = c.maxLocals) (hW : (st.map fun v => v.category).sum = W) (hd : decode c.code pc = .ok (.invokevirtual index, 3)) (hp : pc + 3 = pc') (hf : rm.frames + 1 ≤ R.frames) (hl : W + (maxL + 11) + rm.locals ≤ R.locals) (hc1 : k + rm.cells ≤ R.cells) (hc2 : n + rm.slots ≤ R.slots) (hsf : ∀ x ∈ sf, h.size > x ∧ Safe Z EL vm h x)
    (K : ∀ (v : Option Value) (vm' : Vm) (h' : Heap), Q' v vm' h' → CHr Z EL vm h vm' h' → Go p l e R s m args below meth c Z a0 EL nw Q vm' h' (k + rm.cells) (n + rm.slots) pc' L (v.toList ++ st)) : Go p l e R s m args below meth c Z a0 EL nw Q vm h k n pc L (argsL.reverse ++ .ref a :: st) := fun T locs k0 hx hk hE X eT hS hk0 hF hZ hN hC hO => by
  subst hp has
  have hown' : (s.setVm vm).vm.findClass own = some m.cls := by
    show vm.findClass own = _
    rw [hZ.alike.findClass]; exact hown
  have hWW : 2 * (mkF m pc L (argsL.reverse ++ .ref a :: st)).monitorRoom + (st.map fun v => v.category).sum ≤ W := by show 2 * 0 + _ ≤ _; rw [Nat.mul_zero, Nat.zero_add]; exact Nat.le_of_eq hW
  have hB := fun len => Ct.back (p := p) (e := e) (below := below) (s := s) (args := args) (len := len) hM hZ wc wz hf hl hE hC.1 hO hsf
  obtain ⟨cB, kB, qa, qb, qc⟩ := isOf (s := s.setVm vm) (T := T) hZ eT E
  obtain ⟨v, vm1, ⟨T', L1, k1, n1⟩, -, X', hS', hg', hP', st'⟩ := X.virtualBackS hx hown' (mv (s := s.setVm vm) hZ w1) (mv (s := s.setVm vm) hZ w2) (nf_warm hZ nf) (mv (s := s.setVm vm) hZ w3) (mv (s := s.setVm vm) hZ w4) hy (hB 3) qa qc (g := mkF m pc L (argsL.reverse ++ .ref a :: st)) rfl hL (Steps.refl _) (argsL := argsL) (rest := st) hlen rfl hWW hd (fun _ _ => ⟨rfl, eT, hc1, hc2⟩)
  dsimp only [Pt.U, Pt.locs, Pt.cells, Pt.slots] at X' hS' hg' hP' st'
  obtain ⟨L2, rfl, rfl, rfl, q1, q2, q3, q4, q5⟩ := hP'
  obtain ⟨t, v', L', r1, r2⟩ := K v T'.vm T'.heap q2 q3 T' _ _ hx hk hE X' rfl (hS.trans hS' (Nat.le_trans hk0 (by rw [← eT]; exact hg'))) (Nat.le_refl _) (Fr.app hF q1) (State.Warmed39.trans (t := s.setVm vm) hZ hS'.1) (fun z => State.WarmedH.trans (t := s.setVm vm) (hN z) (q5 z)) (hC.trans q3) q4
  exact ⟨t, v', L', st'.trans r1, r2⟩
theorem Go.callVU {own C owner : String} {a : Addr} {y0 : MethodName} {y : MethodName} {bytes : ByteArray} {maxL : Nat} {ret : Option FieldType} {rm : Room} {W index : Nat} {argsL : List Value} {as : Array Value} {sf : List Addr} {Q' : Option Value → Vm → Heap → Prop} (hM : Ct l Z EL nw [] y bytes maxL ret rm as h sf Q') (hown : Z.vm.findClass own = some m.cls) (w1 : (Jvm.Cond.methodLink own index y0).before a0 Z = true) (w2 : (Jvm.Cond.sameMethod y0.cls owner y0.name y0.desc).before a0 Z = true) (w5 : (Jvm.Cond.declares ⟨owner, y0.name, y0.desc⟩).before a0 Z = true) (w3 : (Jvm.Cond.selects C y0 y).before a0 Z = true) (w4 : (Jvm.Cond.instanceMethod y).before a0 Z = true) (E : Exa Z h a C) (wc : (Jvm.Cond.code y bytes maxL ret).before a0 Z = true) (wz : (Jvm.Cond.initialized y.cls).before a0 Z = true)
    (hy : owner ≠ "java/lang/invoke/MethodHandle" ∧ owner ≠ "java/lang/invoke/VarHandle") (hlen : ∀ sig, parseMethodDescriptor y0.desc = some sig → argsL.length = sig.parameters.length) (has : as = (.ref a :: argsL).toArray) (hL : L.size = c.maxLocals) (hW : (st.map fun v => v.category).sum = W) (hd : decode c.code pc = .ok (.invokevirtual index, 3)) (hp : pc + 3 = pc') (hf : rm.frames + 1 ≤ R.frames) (hl : W + (maxL + 11) + rm.locals ≤ R.locals) (hc1 : k + rm.cells ≤ R.cells) (hc2 : n + rm.slots ≤ R.slots) (hsf : ∀ x ∈ sf, h.size > x ∧ Safe Z EL vm h x)
    (K : ∀ (v : Option Value) (vm' : Vm) (h' : Heap), Q' v vm' h' → CHr Z EL vm h vm' h' → Go p l e R s m args below meth c Z a0 EL nw Q vm' h' (k + rm.cells) (n + rm.slots) pc' L (v.toList ++ st)) : Go p l e R s m args below meth c Z a0 EL nw Q vm h k n pc L (argsL.reverse ++ .ref a :: st) := fun T locs k0 hx hk hE X eT hS hk0 hF hZ hN hC hO => by
  subst hp has
  have hown' : (s.setVm vm).vm.findClass own = some m.cls := by
    show vm.findClass own = _
    rw [hZ.alike.findClass]; exact hown
  have hWW : 2 * (mkF m pc L (argsL.reverse ++ .ref a :: st)).monitorRoom + (st.map fun v => v.category).sum ≤ W := by show 2 * 0 + _ ≤ _; rw [Nat.mul_zero, Nat.zero_add]; exact Nat.le_of_eq hW
  have hB := fun len => Ct.back (p := p) (e := e) (below := below) (s := s) (args := args) (len := len) hM hZ wc wz hf hl hE hC.1 hO hsf
  obtain ⟨cB, kB, qa, qb, qc⟩ := isOf (s := s.setVm vm) (T := T) hZ eT E
  obtain ⟨v, vm1, ⟨T', L1, k1, n1⟩, -, X', hS', hg', hP', st'⟩ := X.virtualBackUpS hx hown' (mv (s := s.setVm vm) hZ w1) (mv (s := s.setVm vm) hZ w2) (mv (s := s.setVm vm) hZ w5) hy (mv (s := s.setVm vm) hZ w3) (mv (s := s.setVm vm) hZ w4) (hB 3) qa qc (g := mkF m pc L (argsL.reverse ++ .ref a :: st)) rfl hL (Steps.refl _) (argsL := argsL) (rest := st) hlen rfl hWW hd (fun _ _ => ⟨rfl, eT, hc1, hc2⟩)
  dsimp only [Pt.U, Pt.locs, Pt.cells, Pt.slots] at X' hS' hg' hP' st'
  obtain ⟨L2, rfl, rfl, rfl, q1, q2, q3, q4, q5⟩ := hP'
  obtain ⟨t, v', L', r1, r2⟩ := K v T'.vm T'.heap q2 q3 T' _ _ hx hk hE X' rfl (hS.trans hS' (Nat.le_trans hk0 (by rw [← eT]; exact hg'))) (Nat.le_refl _) (Fr.app hF q1) (State.Warmed39.trans (t := s.setVm vm) hZ hS'.1) (fun z => State.WarmedH.trans (t := s.setVm vm) (hN z) (q5 z)) (hC.trans q3) q4
  exact ⟨t, v', L', st'.trans r1, r2⟩
theorem Go.callI {own C : String} {a : Addr} {count : Nat} {y0 : MethodName} {y : MethodName} {bytes : ByteArray} {maxL : Nat} {ret : Option FieldType} {rm : Room} {W index : Nat} {argsL : List Value} {as : Array Value} {sf : List Addr} {Q' : Option Value → Vm → Heap → Prop} (hM : Ct l Z EL nw [] y bytes maxL ret rm as h sf Q') (hown : Z.vm.findClass own = some m.cls) (w1 : (Jvm.Cond.methodLink own index y0).before a0 Z = true) (w2 : (Jvm.Cond.declares y0).before a0 Z = true) (w5 : (Jvm.Cond.interfaceMethod y0.cls y0.cls y0.name y0.desc).before a0 Z = true) (w3 : (Jvm.Cond.selects C y0 y).before a0 Z = true) (w4 : (Jvm.Cond.instanceMethod y).before a0 Z = true) (w6 : (Jvm.Cond.publicMethod y).before a0 Z = true) (w7 : (Jvm.Cond.unhidden C y0.name y0.desc).before a0 Z = true) (w8 : (Jvm.Cond.castable C y0.cls).before a0 Z = true) (h5 : ((Jvm.Cond.interfaceMethod y0.cls y0.cls y0.name y0.desc).onTables && (Jvm.Cond.interfaceMethod y0.cls y0.cls y0.name y0.desc).keepsFace) = true) (E : Exa Z h a C) (wc : (Jvm.Cond.code y bytes maxL ret).before a0 Z = true) (wz : (Jvm.Cond.initialized y.cls).before a0 Z = true)
    (hy : y0.cls ≠ "java/lang/invoke/MethodHandle" ∧ y0.cls ≠ "java/lang/invoke/VarHandle") (hlen : ∀ sig, parseMethodDescriptor y0.desc = some sig → argsL.length = sig.parameters.length) (has : as = (.ref a :: argsL).toArray) (hL : L.size = c.maxLocals) (hW : (st.map fun v => v.category).sum = W) (hd : decode c.code pc = .ok (.invokeinterface index count, 5)) (hp : pc + 5 = pc') (hf : rm.frames + 1 ≤ R.frames) (hl : W + (maxL + 11) + rm.locals ≤ R.locals) (hc1 : k + rm.cells ≤ R.cells) (hc2 : n + rm.slots ≤ R.slots) (hsf : ∀ x ∈ sf, h.size > x ∧ Safe Z EL vm h x)
    (K : ∀ (v : Option Value) (vm' : Vm) (h' : Heap), Q' v vm' h' → CHr Z EL vm h vm' h' → Go p l e R s m args below meth c Z a0 EL nw Q vm' h' (k + rm.cells) (n + rm.slots) pc' L (v.toList ++ st)) : Go p l e R s m args below meth c Z a0 EL nw Q vm h k n pc L (argsL.reverse ++ .ref a :: st) := fun T locs k0 hx hk hE X eT hS hk0 hF hZ hN hC hO => by
  subst hp has
  have hown' : (s.setVm vm).vm.findClass own = some m.cls := by
    show vm.findClass own = _
    rw [hZ.alike.findClass]; exact hown
  have hWW : 2 * (mkF m pc L (argsL.reverse ++ .ref a :: st)).monitorRoom + (st.map fun v => v.category).sum ≤ W := by show 2 * 0 + _ ≤ _; rw [Nat.mul_zero, Nat.zero_add]; exact Nat.le_of_eq hW
  have hB := fun len => Ct.back (p := p) (e := e) (below := below) (s := s) (args := args) (len := len) hM hZ wc wz hf hl hE hC.1 hO hsf
  obtain ⟨cB, kB, qa, qb, qc⟩ := isOf (s := s.setVm vm) (T := T) hZ eT E
  obtain ⟨v, vm1, ⟨T', L1, k1, n1⟩, -, X', hS', hg', hP', st'⟩ := X.interfaceBackS hx hown' (mv (s := s.setVm vm) hZ w1) (mv (s := s.setVm vm) hZ w2) (mv (s := s.setVm vm) hZ w5 h5) (mv (s := s.setVm vm) hZ w3) (mv (s := s.setVm vm) hZ w4) (mv (s := s.setVm vm) hZ w6) (mv (s := s.setVm vm) hZ w7) (mv (s := s.setVm vm) hZ w8) hy (hB 5) qa qb qc (g := mkF m pc L (argsL.reverse ++ .ref a :: st)) rfl hL (Steps.refl _) (argsL := argsL) (rest := st) hlen rfl hWW hd (fun _ _ => ⟨rfl, eT, hc1, hc2⟩)
  dsimp only [Pt.U, Pt.locs, Pt.cells, Pt.slots] at X' hS' hg' hP' st'
  obtain ⟨L2, rfl, rfl, rfl, q1, q2, q3, q4, q5⟩ := hP'
  obtain ⟨t, v', L', r1, r2⟩ := K v T'.vm T'.heap q2 q3 T' _ _ hx hk hE X' rfl (hS.trans hS' (Nat.le_trans hk0 (by rw [← eT]; exact hg'))) (Nat.le_refl _) (Fr.app hF q1) (State.Warmed39.trans (t := s.setVm vm) hZ hS'.1) (fun z => State.WarmedH.trans (t := s.setVm vm) (hN z) (q5 z)) (hC.trans q3) q4
  exact ⟨t, v', L', st'.trans r1, r2⟩
theorem Go.callP {own C : String} {a : Addr} {y : MethodName} {bytes : ByteArray} {maxL : Nat} {ret : Option FieldType} {rm : Room} {W index : Nat} {argsL : List Value} {as : Array Value} {sf : List Addr} {Q' : Option Value → Vm → Heap → Prop} (hM : Ct l Z EL nw [] y bytes maxL ret rm as h sf Q') (hown : Z.vm.findClass own = some m.cls) (w1 : (Jvm.Cond.methodLink own index y).before a0 Z = true) (w2 : (Jvm.Cond.instanceMethod y).before a0 Z = true) (w3 : (Jvm.Cond.selects y.cls y y).before a0 Z = true) (w4 : (Jvm.Cond.privateMethod y).before a0 Z = true) (E : Exa Z h a C) (wc : (Jvm.Cond.code y bytes maxL ret).before a0 Z = true) (wz : (Jvm.Cond.initialized y.cls).before a0 Z = true)
    (hy : y.cls ≠ "java/lang/invoke/MethodHandle" ∧ y.cls ≠ "java/lang/invoke/VarHandle") (hlen : ∀ sig, parseMethodDescriptor y.desc = some sig → argsL.length = sig.parameters.length) (has : as = (.ref a :: argsL).toArray) (hL : L.size = c.maxLocals) (hW : (st.map fun v => v.category).sum = W) (hd : decode c.code pc = .ok (.invokevirtual index, 3)) (hp : pc + 3 = pc') (hf : rm.frames + 1 ≤ R.frames) (hl : W + (maxL + 11) + rm.locals ≤ R.locals) (hc1 : k + rm.cells ≤ R.cells) (hc2 : n + rm.slots ≤ R.slots) (hsf : ∀ x ∈ sf, h.size > x ∧ Safe Z EL vm h x)
    (K : ∀ (v : Option Value) (vm' : Vm) (h' : Heap), Q' v vm' h' → CHr Z EL vm h vm' h' → Go p l e R s m args below meth c Z a0 EL nw Q vm' h' (k + rm.cells) (n + rm.slots) pc' L (v.toList ++ st)) : Go p l e R s m args below meth c Z a0 EL nw Q vm h k n pc L (argsL.reverse ++ .ref a :: st) := fun T locs k0 hx hk hE X eT hS hk0 hF hZ hN hC hO => by
  subst hp has
  have hown' : (s.setVm vm).vm.findClass own = some m.cls := by
    show vm.findClass own = _
    rw [hZ.alike.findClass]; exact hown
  have hWW : 2 * (mkF m pc L (argsL.reverse ++ .ref a :: st)).monitorRoom + (st.map fun v => v.category).sum ≤ W := by show 2 * 0 + _ ≤ _; rw [Nat.mul_zero, Nat.zero_add]; exact Nat.le_of_eq hW
  have hB := fun len => Ct.back (p := p) (e := e) (below := below) (s := s) (args := args) (len := len) hM hZ wc wz hf hl hE hC.1 hO hsf
  obtain ⟨cq, q1', q2'⟩ := E.cell
  obtain ⟨v, vm1, ⟨T', L1, k1, n1⟩, -, X', hS', hg', hP', st'⟩ := X.privateBackS hx hown' (mv (s := s.setVm vm) hZ w1) (mv (s := s.setVm vm) hZ w2) (mv (s := s.setVm vm) hZ w3) (Cond.privateMethod_at (mvP (s := s.setVm vm) hZ w4 (args := #[]))) (mv (s := s.setVm vm) hZ wc) hy (hB 3) (g := mkF m pc L (argsL.reverse ++ .ref a :: st)) rfl hL (Steps.refl _) (a := a) (cell := cq) (by rw [eT]; exact q1') q2' (argsL := argsL) (rest := st) hlen rfl hWW hd (fun _ _ => ⟨rfl, eT, hc1, hc2⟩)
  dsimp only [Pt.U, Pt.locs, Pt.cells, Pt.slots] at X' hS' hg' hP' st'
  obtain ⟨L2, rfl, rfl, rfl, q1, q2, q3, q4, q5⟩ := hP'
  obtain ⟨t, v', L', r1, r2⟩ := K v T'.vm T'.heap q2 q3 T' _ _ hx hk hE X' rfl (hS.trans hS' (Nat.le_trans hk0 (by rw [← eT]; exact hg'))) (Nat.le_refl _) (Fr.app hF q1) (State.Warmed39.trans (t := s.setVm vm) hZ hS'.1) (fun z => State.WarmedH.trans (t := s.setVm vm) (hN z) (q5 z)) (hC.trans q3) q4
  exact ⟨t, v', L', st'.trans r1, r2⟩
end Walk
end Jvm.Own
namespace Jvm.Own
open Sem ClassFile Op Lib Jvm.Free Jvm.Stand Jvm.LawKit Jvm.RoadKit Bundle
theorem nc255 (x : Int32) : nar .char (x &&& 255) = x &&& 255 := i2c_mask x
theorem and_toInt (x : Int32) (m : Nat) (hm : m < 2 ^ 31) : 0 ≤ (x &&& Int32.ofNat m).toInt ∧ (x &&& Int32.ofNat m).toInt ≤ m := by
  have e : (x &&& Int32.ofNat m).toInt = (x.toBitVec &&& BitVec.ofNat 32 m).toInt := rfl
  have h1 : (x.toBitVec &&& BitVec.ofNat 32 m).toNat ≤ m := by
    rw [BitVec.toNat_and]
    refine Nat.le_trans Nat.and_le_right ?_
    rw [BitVec.toNat_ofNat]; exact Nat.mod_le _ _
  rw [e, BitVec.toInt_eq_toNat_of_lt (by omega)]
  omega
theorem m255 (x : Int32) : 0 ≤ (x &&& 255).toInt ∧ (x &&& 255).toInt ≤ 255 := and_toInt x 255 (by decide)
theorem al0 {P : Int32 → Prop} : ∀ x ∈ ([] : List Int32), P x := fun _ h => nomatch h
theorem alS {P : Int32 → Prop} {y : Int32} {L : List Int32} (q : P y) (r : ∀ x ∈ L, P x) : ∀ x ∈ y :: L, P x := fun x hx => (List.mem_cons.mp hx).elim (fun e => e ▸ q) (r x)
/-- the byte that a char becomes -/
def by8 (c : Int32) : Int32 := c.toInt8.toInt32
theorem toInt_nat {n : Nat} (h : n < 2 ^ 31) : n.toInt32.toInt = n := Int32.toInt_ofNat_small h
theorem clamp_nat {n : Nat} (h : n < 2 ^ 31) : n.toInt32.toNatClampNeg = n := by
  rw [← Int32.toNat_toInt, toInt_nat h]; rfl
theorem lt32 {i n : Nat} (hi : i < 2 ^ 31) (hn : n < 2 ^ 31) : i.toInt32 < n.toInt32 ↔ i < n := by
  rw [Int32.lt_iff_toInt_lt, toInt_nat hi, toInt_nat hn]; omega
theorem nneg32 {n : Nat} (h : n < 2 ^ 31) : ¬ n.toInt32 < 0 := by
  rw [Int32.lt_iff_toInt_lt, toInt_nat h]
  have e0 : (0 : Int32).toInt = 0 := rfl
  omega
theorem succ32 (i : Nat) : i.toInt32 + 1 = (i + 1).toInt32 := (Int32.ofNat_add i 1).symm
theorem eq32 {i n : Nat} (hi : i < 2 ^ 31) (hn : n < 2 ^ 31) : i.toInt32 = n.toInt32 ↔ i = n := by
  constructor
  · intro q
    have := congrArg Int32.toInt q
    rw [toInt_nat hi, toInt_nat hn] at this; omega
  · rintro rfl; rfl
theorem nz32 {n : Nat} (h : n < 2 ^ 31) (h0 : 0 < n) : ¬ n.toInt32 = 0 := fun q => by
  have := (eq32 (n := 0) h (by decide)).mp q; omega
theorem nar_by8 (c : Int32) : nar .byte (c.toInt8.toInt32) = by8 c := by
  show (c.toInt8.toInt32).toInt8.toInt32 = _
  simp [by8]
theorem sub0 (x : Int32) : x - x = 0 := by simp
theorem cache_ix {z : Int32} (h1 : ¬ z < -128) (h2 : ¬ (127 : Int32) < z) : ¬ (z + 128) < 0 ∧ (z + 128).toNatClampNeg < 256 := by
  rw [Int32.lt_iff_toInt_lt] at h1 h2
  have e1 : (-128 : Int32).toInt = -128 := rfl
  have e2 : (127 : Int32).toInt = 127 := rfl
  have e3 : (128 : Int32).toInt = 128 := rfl
  have e0 : (0 : Int32).toInt = 0 := rfl
  have q : (z + 128).toInt = z.toInt + 128 := by
    rw [Int32.toInt_add, e3]
    exact Int.bmod_eq_of_le (by omega) (by omega)
  refine ⟨?_, ?_⟩
  · rw [Int32.lt_iff_toInt_lt, q]; omega
  · rw [← Int32.toNat_toInt, q]; omega
theorem cache_ixL {z : Int64} (h1 : ¬ XT.cmpL z (-128) < 0) (h2 : ¬ (0 : Int32) < XT.cmpL z 127) : ¬ (z.toInt32 + 128) < 0 ∧ (z.toInt32 + 128).toNatClampNeg < 256 := by
  have g1 : ¬ z < -128 := fun q => h1 (by
    have a : ¬ (-128 : Int64) < z := fun r => by rw [Int64.lt_iff_toInt_lt] at q r; omega
    have b : ¬ z = -128 := fun r => by rw [r] at q; exact absurd q (by decide)
    rw [XT.cmpL, if_neg a, if_neg b]; decide)
  have g2 : ¬ (127 : Int64) < z := fun q => h2 (by rw [XT.cmpL, if_pos q]; decide)
  rw [Int64.lt_iff_toInt_lt] at g1 g2
  have e1 : (-128 : Int64).toInt = -128 := rfl
  have e2 : (127 : Int64).toInt = 127 := rfl
  have e3 : z.toInt32.toInt = z.toInt := by
    rw [Int64.toInt_toInt32]; exact Int.bmod_eq_of_le (by omega) (by omega)
  refine cache_ix ?_ ?_
  · rw [Int32.lt_iff_toInt_lt, e3]
    have : (-128 : Int32).toInt = -128 := rfl
    omega
  · rw [Int32.lt_iff_toInt_lt, e3]
    have : (127 : Int32).toInt = 127 := rfl
    omega
theorem and_toInt64 (x : Int64) (m : Nat) (hm : m < 2 ^ 63) : 0 ≤ (x &&& Int64.ofNat m).toInt ∧ (x &&& Int64.ofNat m).toInt ≤ m := by
  have e : (x &&& Int64.ofNat m).toInt = (x.toBitVec &&& BitVec.ofNat 64 m).toInt := rfl
  have h1 : (x.toBitVec &&& BitVec.ofNat 64 m).toNat ≤ m := by
    rw [BitVec.toNat_and]
    refine Nat.le_trans Nat.and_le_right ?_
    rw [BitVec.toNat_ofNat]; exact Nat.mod_le _ _
  rw [e, BitVec.toInt_eq_toNat_of_lt (by omega)]
  omega
theorem l255 (x : Int64) : 0 ≤ (x &&& 255).toInt32.toInt ∧ (x &&& 255).toInt32.toInt ≤ 255 := by
  have h : 0 ≤ (x &&& 255).toInt ∧ (x &&& 255).toInt ≤ 255 := and_toInt64 x 255 (by decide)
  have e3 : (x &&& 255).toInt32.toInt = (x &&& 255).toInt := by
    rw [Int64.toInt_toInt32]; exact Int.bmod_eq_of_le (by omega) (by omega)
  rw [e3]; exact h
/-- true and false as ints -/
def bo (q : Prop) [Decidable q] : Int32 := if q then 1 else 0
theorem bo_yes {q : Prop} [Decidable q] (h : q) : bo q = 1 := if_pos h
theorem bo_no {q : Prop} [Decidable q] (h : ¬ q) : bo q = 0 := if_neg h
theorem bo_nar {q : Prop} [Decidable q] : nar .boolean (bo q) = bo q := by unfold bo; split <;> rfl
theorem bo_ne0 {q : Prop} [Decidable q] : (¬ bo q = 0) ↔ q := by unfold bo; split <;> simp_all
theorem bo_cases {q : Prop} [Decidable q] : q ∧ bo q = 1 ∨ ¬ q ∧ bo q = 0 := by by_cases h : q <;> simp [bo, h]
theorem bo_congr {p q : Prop} [Decidable p] [Decidable q] (h : p ↔ q) : bo p = bo q := by unfold bo; simp [h]
theorem toInt_eq {x : Int32} {n : Int} (h : x.toInt = n) : x = Int32.ofInt n := by rw [← h, Int32.ofInt_toInt]
theorem and3 (x : Int32) : x &&& 3 = 0 ∨ x &&& 3 = 1 ∨ x &&& 3 = 2 ∨ x &&& 3 = 3 := by
  have h := and_toInt x 3 (by decide)
  have e : (x &&& Int32.ofNat 3) = x &&& 3 := rfl
  rw [e] at h
  have : (x &&& 3).toInt = 0 ∨ (x &&& 3).toInt = 1 ∨ (x &&& 3).toInt = 2 ∨ (x &&& 3).toInt = 3 := by omega
  rcases this with q | q | q | q
  · exact Or.inl (toInt_eq q)
  · exact Or.inr (Or.inl (toInt_eq q))
  · exact Or.inr (Or.inr (Or.inl (toInt_eq q)))
  · exact Or.inr (Or.inr (Or.inr (toInt_eq q)))
theorem rem3 (x : Int32) : (x &&& 3) % 3 = 0 ∨ (x &&& 3) % 3 = 1 ∨ (x &&& 3) % 3 = 2 := by
  rcases and3 x with q | q | q | q <;> rw [q] <;> decide
theorem by8_toInt (c : Int32) : (by8 c).toInt = c.toInt.bmod 256 := by
  show (c.toInt8.toInt32).toInt = _
  rw [Int8.toInt_toInt32, Int32.toInt_toInt8]
theorem by8_inj {x y : Int32} (hx : 0 ≤ x.toInt ∧ x.toInt ≤ 255) (hy : 0 ≤ y.toInt ∧ y.toInt ≤ 255) (h : by8 x = by8 y) : x = y := by
  have q := congrArg Int32.toInt h
  rw [by8_toInt, by8_toInt] at q
  apply Int32.toInt_inj.mp
  have h1 : (x.toInt.bmod 256) % 256 = x.toInt % 256 := Int.bmod_emod
  have h2 : (y.toInt.bmod 256) % 256 = y.toInt % 256 := Int.bmod_emod
  rw [q] at h1
  omega
theorem nch {x : Int32} (h : 0 ≤ x.toInt ∧ x.toInt ≤ 255) : nar .char x = x := by
  have e : x &&& 255 = x := by
    apply Int32.toBitVec_inj.mp
    show x.toBitVec &&& 255#32 = x.toBitVec
    apply BitVec.eq_of_toNat_eq
    have hn : x.toBitVec.toNat ≤ 255 := by
      have h2 : x.toInt = x.toBitVec.toInt := rfl
      rw [h2, BitVec.toInt_eq_toNat_cond] at h
      have := x.toBitVec.isLt
      split at h <;> omega
    rw [BitVec.toNat_and]
    show x.toBitVec.toNat &&& (2 ^ 8 - 1) = _
    rw [Nat.and_two_pow_sub_one_eq_mod]; omega
  rw [← e]; exact nc255 x
theorem le255 {x : Int32} (h : 0 ≤ x.toInt ∧ x.toInt ≤ 255) : ¬ (255 : Int32) < x := by
  rw [Int32.lt_iff_toInt_lt]
  have : (255 : Int32).toInt = 255 := rfl
  omega
theorem chL (x : Int64) : 0 ≤ (nar .char (nar .char (x &&& 255).toInt32)).toInt ∧ (nar .char (nar .char (x &&& 255).toInt32)).toInt ≤ 255 := by
  rw [nch (l255 x), nch (l255 x)]; exact l255 x
theorem fill_set {α : Type} (xs : List α) (z : α) (i : Nat) (hi : i < xs.length) : (xs.take i ++ List.replicate (xs.length - i) z).set i xs[i] = xs.take (i + 1) ++ List.replicate (xs.length - (i + 1)) z := by
  have h1 : (xs.take i).length = i := by simp; omega
  have h2 : xs.length - i = (xs.length - (i + 1)) + 1 := by omega
  rw [List.set_append_right _ _ (by omega), h1, Nat.sub_self, h2, List.replicate_succ, List.set_cons_zero, List.take_succ_eq_append_getElem hi, List.append_assoc]; rfl
end Jvm.Own
namespace Jvm.Pilot.@@N@@
open Jvm Jvm.ClassFile Sem Op Lib Jvm.Free Jvm.Stand Jvm.LawKit Jvm.RoadKit Bundle Jvm.Own Jvm.Pilot.@@N@@.Jvm.D
def GH (Z : State) (a0 : Array Value) (EL : List (String × Nat)) (zc : Int32) : Prop :=
  (∀ d ∈ tables_1, d.before a0 Z = true) ∧ EW Z a0 EL ∧ (∀ a ∈ Bundle.stringAtoms, a.before a0 Z = true) ∧ (∀ p ∈ consts_1, p ∈ EL) ∧ Sta Z Z.heap "java/lang/String" "COMPACT_STRINGS" "Z" (.int zc) ∧ ¬ zc = 0 ∧ True
theorem wd_0 {Z : State} {a0 : Array Value} {EL : List (String × Nat)} {zc : Int32} (g : GH Z a0 EL zc) : (Jvm.Cond.arrayClass Jvm.ClassFile.FieldType.char).before a0 Z = true := g.1 _ (List.mem_of_getElem? (i := 0) rfl)
theorem wd_1 {Z : State} {a0 : Array Value} {EL : List (String × Nat)} {zc : Int32} (g : GH Z a0 EL zc) : (Jvm.Cond.methodLink "com/example/kunci/kunci/IdsIsReservedPinLaw" (9 : Nat) ({ cls := "com/example/kunci/kunci/IdsIsReservedPinLaw", name := "ch", desc := "(IICJI)C" } : Jvm.MethodName)).before a0 Z = true := g.1 _ (List.mem_of_getElem? (i := 1) rfl)
theorem wd_2 {Z : State} {a0 : Array Value} {EL : List (String × Nat)} {zc : Int32} (g : GH Z a0 EL zc) : (Jvm.Cond.static ({ cls := "com/example/kunci/kunci/IdsIsReservedPinLaw", name := "ch", desc := "(IICJI)C" } : Jvm.MethodName)).before a0 Z = true := g.1 _ (List.mem_of_getElem? (i := 2) rfl)
theorem wd_3 {Z : State} {a0 : Array Value} {EL : List (String × Nat)} {zc : Int32} (g : GH Z a0 EL zc) : (Jvm.Cond.initialized "com/example/kunci/kunci/IdsIsReservedPinLaw").before a0 Z = true := g.1 _ (List.mem_of_getElem? (i := 3) rfl)
theorem wd_4 {Z : State} {a0 : Array Value} {EL : List (String × Nat)} {zc : Int32} (g : GH Z a0 EL zc) : (Jvm.Cond.code ({ cls := "com/example/kunci/kunci/IdsIsReservedPinLaw", name := "ch", desc := "(IICJI)C" } : Jvm.MethodName) method_2_code (8 : Nat) (Option.some Jvm.ClassFile.FieldType.char)).before a0 Z = true := g.1 _ (List.mem_of_getElem? (i := 4) rfl)
theorem wd_5 {Z : State} {a0 : Array Value} {EL : List (String × Nat)} {zc : Int32} (g : GH Z a0 EL zc) : (Jvm.Cond.constantLong "com/example/kunci/kunci/IdsIsReservedPinLaw" (7 : Nat) (255 : Int64)).before a0 Z = true := g.1 _ (List.mem_of_getElem? (i := 5) rfl)
theorem wd_6 {Z : State} {a0 : Array Value} {EL : List (String × Nat)} {zc : Int32} (g : GH Z a0 EL zc) : (Jvm.Cond.methodLink "com/example/kunci/kunci/IdsIsReservedPinLaw" (20 : Nat) ({ cls := "com/example/kunci/kunci/Ids", name := "isReserved", desc := "(Ljava/lang/String;)Z" } : Jvm.MethodName)).before a0 Z = true := g.1 _ (List.mem_of_getElem? (i := 6) rfl)
theorem wd_7 {Z : State} {a0 : Array Value} {EL : List (String × Nat)} {zc : Int32} (g : GH Z a0 EL zc) : (Jvm.Cond.static ({ cls := "com/example/kunci/kunci/Ids", name := "isReserved", desc := "(Ljava/lang/String;)Z" } : Jvm.MethodName)).before a0 Z = true := g.1 _ (List.mem_of_getElem? (i := 7) rfl)
theorem wd_8 {Z : State} {a0 : Array Value} {EL : List (String × Nat)} {zc : Int32} (g : GH Z a0 EL zc) : (Jvm.Cond.initialized "com/example/kunci/kunci/Ids").before a0 Z = true := g.1 _ (List.mem_of_getElem? (i := 8) rfl)
theorem wd_9 {Z : State} {a0 : Array Value} {EL : List (String × Nat)} {zc : Int32} (g : GH Z a0 EL zc) : (Jvm.Cond.code ({ cls := "com/example/kunci/kunci/Ids", name := "isReserved", desc := "(Ljava/lang/String;)Z" } : Jvm.MethodName) prog_3_method_3_code (1 : Nat) (Option.some Jvm.ClassFile.FieldType.boolean)).before a0 Z = true := g.1 _ (List.mem_of_getElem? (i := 9) rfl)
theorem wd_10 {Z : State} {a0 : Array Value} {EL : List (String × Nat)} {zc : Int32} (g : GH Z a0 EL zc) : (Jvm.Cond.stringLink "com/example/kunci/kunci/Ids" (27 : Nat) "root").before a0 Z = true := g.1 _ (List.mem_of_getElem? (i := 10) rfl)
theorem wd_11 {Z : State} {a0 : Array Value} {EL : List (String × Nat)} {zc : Int32} (g : GH Z a0 EL zc) : (Jvm.Cond.initialized "java/lang/String").before a0 Z = true := g.1 _ (List.mem_of_getElem? (i := 11) rfl)
theorem wd_12 {Z : State} {a0 : Array Value} {EL : List (String × Nat)} {zc : Int32} (g : GH Z a0 EL zc) : (Jvm.Cond.instantiable "java/lang/String" (4 : Nat)).before a0 Z = true := g.1 _ (List.mem_of_getElem? (i := 12) rfl)
theorem wd_13 {Z : State} {a0 : Array Value} {EL : List (String × Nat)} {zc : Int32} (g : GH Z a0 EL zc) : (Jvm.Cond.arrayClass Jvm.ClassFile.FieldType.byte).before a0 Z = true := g.1 _ (List.mem_of_getElem? (i := 13) rfl)
theorem wd_14 {Z : State} {a0 : Array Value} {EL : List (String × Nat)} {zc : Int32} (g : GH Z a0 EL zc) : (Jvm.Cond.laysFinal "java/lang/String" "java/lang/String" "value" "[B").before a0 Z = true := g.1 _ (List.mem_of_getElem? (i := 14) rfl)
theorem wd_15 {Z : State} {a0 : Array Value} {EL : List (String × Nat)} {zc : Int32} (g : GH Z a0 EL zc) : (Jvm.Cond.laysFinal "java/lang/String" "java/lang/String" "coder" "B").before a0 Z = true := g.1 _ (List.mem_of_getElem? (i := 15) rfl)
theorem wd_18 {Z : State} {a0 : Array Value} {EL : List (String × Nat)} {zc : Int32} (g : GH Z a0 EL zc) : (Jvm.Cond.methodLink "com/example/kunci/kunci/Ids" (29 : Nat) ({ cls := "java/lang/String", name := "equals", desc := "(Ljava/lang/Object;)Z" } : Jvm.MethodName)).before a0 Z = true := g.1 _ (List.mem_of_getElem? (i := 18) rfl)
theorem wd_19 {Z : State} {a0 : Array Value} {EL : List (String × Nat)} {zc : Int32} (g : GH Z a0 EL zc) : (Jvm.Cond.declares ({ cls := "java/lang/String", name := "equals", desc := "(Ljava/lang/Object;)Z" } : Jvm.MethodName)).before a0 Z = true := g.1 _ (List.mem_of_getElem? (i := 19) rfl)
theorem wd_20 {Z : State} {a0 : Array Value} {EL : List (String × Nat)} {zc : Int32} (g : GH Z a0 EL zc) : (Jvm.Cond.instanceMethod ({ cls := "java/lang/String", name := "equals", desc := "(Ljava/lang/Object;)Z" } : Jvm.MethodName)).before a0 Z = true := g.1 _ (List.mem_of_getElem? (i := 20) rfl)
theorem wd_21 {Z : State} {a0 : Array Value} {EL : List (String × Nat)} {zc : Int32} (g : GH Z a0 EL zc) : (Jvm.Cond.selects "java/lang/String" ({ cls := "java/lang/String", name := "equals", desc := "(Ljava/lang/Object;)Z" } : Jvm.MethodName) ({ cls := "java/lang/String", name := "equals", desc := "(Ljava/lang/Object;)Z" } : Jvm.MethodName)).before a0 Z = true := g.1 _ (List.mem_of_getElem? (i := 21) rfl)
theorem wd_22 {Z : State} {a0 : Array Value} {EL : List (String × Nat)} {zc : Int32} (g : GH Z a0 EL zc) : (Jvm.Cond.code ({ cls := "java/lang/String", name := "equals", desc := "(Ljava/lang/Object;)Z" } : Jvm.MethodName) jdk_42_method_66_code (3 : Nat) (Option.some Jvm.ClassFile.FieldType.boolean)).before a0 Z = true := g.1 _ (List.mem_of_getElem? (i := 22) rfl)
theorem wd_23 {Z : State} {a0 : Array Value} {EL : List (String × Nat)} {zc : Int32} (g : GH Z a0 EL zc) : (Jvm.Cond.stringLink "com/example/kunci/kunci/Ids" (33 : Nat) "everyone").before a0 Z = true := g.1 _ (List.mem_of_getElem? (i := 23) rfl)
theorem wd_24 {Z : State} {a0 : Array Value} {EL : List (String × Nat)} {zc : Int32} (g : GH Z a0 EL zc) : (Jvm.Cond.classLink "com/example/kunci/kunci/IdsIsReservedPinLaw" (15 : Nat) "java/lang/String").before a0 Z = true := g.1 _ (List.mem_of_getElem? (i := 24) rfl)
theorem wd_25 {Z : State} {a0 : Array Value} {EL : List (String × Nat)} {zc : Int32} (g : GH Z a0 EL zc) : (Jvm.Cond.methodLink "com/example/kunci/kunci/IdsIsReservedPinLaw" (17 : Nat) ({ cls := "java/lang/String", name := "<init>", desc := "([C)V" } : Jvm.MethodName)).before a0 Z = true := g.1 _ (List.mem_of_getElem? (i := 25) rfl)
theorem wd_26 {Z : State} {a0 : Array Value} {EL : List (String × Nat)} {zc : Int32} (g : GH Z a0 EL zc) : (Jvm.Cond.instanceMethod ({ cls := "java/lang/String", name := "<init>", desc := "([C)V" } : Jvm.MethodName)).before a0 Z = true := g.1 _ (List.mem_of_getElem? (i := 26) rfl)
theorem wd_27 {Z : State} {a0 : Array Value} {EL : List (String × Nat)} {zc : Int32} (g : GH Z a0 EL zc) : (Jvm.Cond.code ({ cls := "java/lang/String", name := "<init>", desc := "([C)V" } : Jvm.MethodName) jdk_42_method_3_code (2 : Nat) (Option.none : Option Jvm.ClassFile.FieldType)).before a0 Z = true := g.1 _ (List.mem_of_getElem? (i := 27) rfl)
theorem wd_28 {Z : State} {a0 : Array Value} {EL : List (String × Nat)} {zc : Int32} (g : GH Z a0 EL zc) : (Jvm.Cond.methodLink "java/lang/String" (27 : Nat) ({ cls := "java/lang/String", name := "<init>", desc := "([CIILjava/lang/Void;)V" } : Jvm.MethodName)).before a0 Z = true := g.1 _ (List.mem_of_getElem? (i := 28) rfl)
theorem wd_29 {Z : State} {a0 : Array Value} {EL : List (String × Nat)} {zc : Int32} (g : GH Z a0 EL zc) : (Jvm.Cond.instanceMethod ({ cls := "java/lang/String", name := "<init>", desc := "([CIILjava/lang/Void;)V" } : Jvm.MethodName)).before a0 Z = true := g.1 _ (List.mem_of_getElem? (i := 29) rfl)
theorem wd_31 {Z : State} {a0 : Array Value} {EL : List (String × Nat)} {zc : Int32} (g : GH Z a0 EL zc) : (Jvm.Cond.code ({ cls := "java/lang/String", name := "<init>", desc := "([CIILjava/lang/Void;)V" } : Jvm.MethodName) jdk_42_method_149_code (6 : Nat) (Option.none : Option Jvm.ClassFile.FieldType)).before a0 Z = true := g.1 _ (List.mem_of_getElem? (i := 31) rfl)
theorem wd_32 {Z : State} {a0 : Array Value} {EL : List (String × Nat)} {zc : Int32} (g : GH Z a0 EL zc) : (Jvm.Cond.methodLink "java/lang/String" (1 : Nat) ({ cls := "java/lang/Object", name := "<init>", desc := "()V" } : Jvm.MethodName)).before a0 Z = true := g.1 _ (List.mem_of_getElem? (i := 32) rfl)
theorem wd_33 {Z : State} {a0 : Array Value} {EL : List (String × Nat)} {zc : Int32} (g : GH Z a0 EL zc) : (Jvm.Cond.instanceMethod ({ cls := "java/lang/Object", name := "<init>", desc := "()V" } : Jvm.MethodName)).before a0 Z = true := g.1 _ (List.mem_of_getElem? (i := 33) rfl)
theorem wd_34 {Z : State} {a0 : Array Value} {EL : List (String × Nat)} {zc : Int32} (g : GH Z a0 EL zc) : (Jvm.Cond.code ({ cls := "java/lang/Object", name := "<init>", desc := "()V" } : Jvm.MethodName) object_method_1_code (1 : Nat) (Option.none : Option Jvm.ClassFile.FieldType)).before a0 Z = true := g.1 _ (List.mem_of_getElem? (i := 34) rfl)
theorem wd_35 {Z : State} {a0 : Array Value} {EL : List (String × Nat)} {zc : Int32} (g : GH Z a0 EL zc) : (Jvm.Cond.fieldLink "java/lang/String" (38 : Nat) "java/lang/String" "COMPACT_STRINGS" "Z").before a0 Z = true := g.1 _ (List.mem_of_getElem? (i := 35) rfl)
theorem wd_36 {Z : State} {a0 : Array Value} {EL : List (String × Nat)} {zc : Int32} (g : GH Z a0 EL zc) : (Jvm.Cond.methodLink "java/lang/String" (177 : Nat) ({ cls := "java/lang/StringUTF16", name := "compress", desc := "([CII)[B" } : Jvm.MethodName)).before a0 Z = true := g.1 _ (List.mem_of_getElem? (i := 36) rfl)
theorem wd_37 {Z : State} {a0 : Array Value} {EL : List (String × Nat)} {zc : Int32} (g : GH Z a0 EL zc) : (Jvm.Cond.static ({ cls := "java/lang/StringUTF16", name := "compress", desc := "([CII)[B" } : Jvm.MethodName)).before a0 Z = true := g.1 _ (List.mem_of_getElem? (i := 37) rfl)
theorem wd_38 {Z : State} {a0 : Array Value} {EL : List (String × Nat)} {zc : Int32} (g : GH Z a0 EL zc) : (Jvm.Cond.initialized "java/lang/StringUTF16").before a0 Z = true := g.1 _ (List.mem_of_getElem? (i := 38) rfl)
theorem wd_39 {Z : State} {a0 : Array Value} {EL : List (String × Nat)} {zc : Int32} (g : GH Z a0 EL zc) : (Jvm.Cond.code ({ cls := "java/lang/StringUTF16", name := "compress", desc := "([CII)[B" } : Jvm.MethodName) jdk_52_method_16_code (6 : Nat) (Option.some (Jvm.ClassFile.FieldType.array Jvm.ClassFile.FieldType.byte))).before a0 Z = true := g.1 _ (List.mem_of_getElem? (i := 39) rfl)
theorem wd_40 {Z : State} {a0 : Array Value} {EL : List (String × Nat)} {zc : Int32} (g : GH Z a0 EL zc) : (Jvm.Cond.methodLink "java/lang/StringUTF16" (115 : Nat) ({ cls := "java/lang/StringUTF16", name := "compress", desc := "([CI[BII)I" } : Jvm.MethodName)).before a0 Z = true := g.1 _ (List.mem_of_getElem? (i := 40) rfl)
theorem wd_41 {Z : State} {a0 : Array Value} {EL : List (String × Nat)} {zc : Int32} (g : GH Z a0 EL zc) : (Jvm.Cond.static ({ cls := "java/lang/StringUTF16", name := "compress", desc := "([CI[BII)I" } : Jvm.MethodName)).before a0 Z = true := g.1 _ (List.mem_of_getElem? (i := 41) rfl)
theorem wd_42 {Z : State} {a0 : Array Value} {EL : List (String × Nat)} {zc : Int32} (g : GH Z a0 EL zc) : (Jvm.Cond.code ({ cls := "java/lang/StringUTF16", name := "compress", desc := "([CI[BII)I" } : Jvm.MethodName) jdk_52_method_21_code (7 : Nat) (Option.some Jvm.ClassFile.FieldType.int)).before a0 Z = true := g.1 _ (List.mem_of_getElem? (i := 42) rfl)
theorem wd_43 {Z : State} {a0 : Array Value} {EL : List (String × Nat)} {zc : Int32} (g : GH Z a0 EL zc) : (Jvm.Cond.methodLink "java/lang/String" (47 : Nat) ({ cls := "java/lang/StringUTF16", name := "coderFromArrayLen", desc := "([BI)B" } : Jvm.MethodName)).before a0 Z = true := g.1 _ (List.mem_of_getElem? (i := 43) rfl)
theorem wd_44 {Z : State} {a0 : Array Value} {EL : List (String × Nat)} {zc : Int32} (g : GH Z a0 EL zc) : (Jvm.Cond.static ({ cls := "java/lang/StringUTF16", name := "coderFromArrayLen", desc := "([BI)B" } : Jvm.MethodName)).before a0 Z = true := g.1 _ (List.mem_of_getElem? (i := 44) rfl)
theorem wd_45 {Z : State} {a0 : Array Value} {EL : List (String × Nat)} {zc : Int32} (g : GH Z a0 EL zc) : (Jvm.Cond.code ({ cls := "java/lang/StringUTF16", name := "coderFromArrayLen", desc := "([BI)B" } : Jvm.MethodName) jdk_52_method_15_code (2 : Nat) (Option.some Jvm.ClassFile.FieldType.byte)).before a0 Z = true := g.1 _ (List.mem_of_getElem? (i := 45) rfl)
theorem wd_46 {Z : State} {a0 : Array Value} {EL : List (String × Nat)} {zc : Int32} (g : GH Z a0 EL zc) : (Jvm.Cond.fieldLink "java/lang/String" (15 : Nat) "java/lang/String" "coder" "B").before a0 Z = true := g.1 _ (List.mem_of_getElem? (i := 46) rfl)
theorem wd_47 {Z : State} {a0 : Array Value} {EL : List (String × Nat)} {zc : Int32} (g : GH Z a0 EL zc) : (Jvm.Cond.fieldLink "java/lang/String" (9 : Nat) "java/lang/String" "value" "[B").before a0 Z = true := g.1 _ (List.mem_of_getElem? (i := 47) rfl)
theorem wd_48 {Z : State} {a0 : Array Value} {EL : List (String × Nat)} {zc : Int32} (g : GH Z a0 EL zc) : (Jvm.Cond.classLink "java/lang/String" (10 : Nat) "java/lang/String").before a0 Z = true := g.1 _ (List.mem_of_getElem? (i := 48) rfl)
theorem wd_49 {Z : State} {a0 : Array Value} {EL : List (String × Nat)} {zc : Int32} (g : GH Z a0 EL zc) : (Jvm.Cond.methodLink "java/lang/String" (541 : Nat) ({ cls := "java/lang/StringLatin1", name := "equals", desc := "([B[B)Z" } : Jvm.MethodName)).before a0 Z = true := g.1 _ (List.mem_of_getElem? (i := 49) rfl)
theorem wd_50 {Z : State} {a0 : Array Value} {EL : List (String × Nat)} {zc : Int32} (g : GH Z a0 EL zc) : (Jvm.Cond.static ({ cls := "java/lang/StringLatin1", name := "equals", desc := "([B[B)Z" } : Jvm.MethodName)).before a0 Z = true := g.1 _ (List.mem_of_getElem? (i := 50) rfl)
theorem wd_51 {Z : State} {a0 : Array Value} {EL : List (String × Nat)} {zc : Int32} (g : GH Z a0 EL zc) : (Jvm.Cond.initialized "java/lang/StringLatin1").before a0 Z = true := g.1 _ (List.mem_of_getElem? (i := 51) rfl)
theorem wd_52 {Z : State} {a0 : Array Value} {EL : List (String × Nat)} {zc : Int32} (g : GH Z a0 EL zc) : (Jvm.Cond.code ({ cls := "java/lang/StringLatin1", name := "equals", desc := "([B[B)Z" } : Jvm.MethodName) jdk_43_method_13_code (3 : Nat) (Option.some Jvm.ClassFile.FieldType.boolean)).before a0 Z = true := g.1 _ (List.mem_of_getElem? (i := 52) rfl)
theorem wd_53 {Z : State} {a0 : Array Value} {EL : List (String × Nat)} {zc : Int32} (g : GH Z a0 EL zc) : (Jvm.Cond.stringLink "java/lang/String" (7 : Nat) "").before a0 Z = true := g.1 _ (List.mem_of_getElem? (i := 53) rfl)
theorem D_prog_3_method_3_code_0 : decode prog_3_method_3_code 0 = .ok (.ldc 27, 2) := by decide +kernel
theorem D_prog_3_method_3_code_11 : decode prog_3_method_3_code 11 = .ok (.aload_n 0, 1) := by decide +kernel
theorem D_prog_3_method_3_code_12 : decode prog_3_method_3_code 12 = .ok (.invokevirtual 29, 3) := by decide +kernel
theorem D_prog_3_method_3_code_15 : decode prog_3_method_3_code 15 = .ok (.ifCond .eq 7, 3) := by decide +kernel
theorem D_prog_3_method_3_code_18 : decode prog_3_method_3_code 18 = .ok (.iconst 1, 1) := by decide +kernel
theorem D_prog_3_method_3_code_19 : decode prog_3_method_3_code 19 = .ok (.goto 4, 3) := by decide +kernel
theorem D_prog_3_method_3_code_2 : decode prog_3_method_3_code 2 = .ok (.aload_n 0, 1) := by decide +kernel
theorem D_prog_3_method_3_code_22 : decode prog_3_method_3_code 22 = .ok (.iconst 0, 1) := by decide +kernel
theorem D_prog_3_method_3_code_23 : decode prog_3_method_3_code 23 = .ok (.ireturn, 1) := by decide +kernel
theorem D_prog_3_method_3_code_3 : decode prog_3_method_3_code 3 = .ok (.invokevirtual 29, 3) := by decide +kernel
theorem D_prog_3_method_3_code_6 : decode prog_3_method_3_code 6 = .ok (.ifCond .ne 12, 3) := by decide +kernel
theorem D_prog_3_method_3_code_9 : decode prog_3_method_3_code 9 = .ok (.ldc 33, 2) := by decide +kernel
theorem D_method_2_code_0 : decode method_2_code 0 = .ok (.iload_n 0, 1) := by decide +kernel
theorem D_method_2_code_1 : decode method_2_code 1 = .ok (.iload_n 1, 1) := by decide +kernel
theorem D_method_2_code_10 : decode method_2_code 10 = .ok (.iload_n 1, 1) := by decide +kernel
theorem D_method_2_code_11 : decode method_2_code 11 = .ok (.bipush 8, 2) := by decide +kernel
theorem D_method_2_code_13 : decode method_2_code 13 = .ok (.if_icmp .ge 12, 3) := by decide +kernel
theorem D_method_2_code_16 : decode method_2_code 16 = .ok (.lload_n 3, 1) := by decide +kernel
theorem D_method_2_code_17 : decode method_2_code 17 = .ok (.bipush 8, 2) := by decide +kernel
theorem D_method_2_code_19 : decode method_2_code 19 = .ok (.iload_n 1, 1) := by decide +kernel
theorem D_method_2_code_2 : decode method_2_code 2 = .ok (.iushr, 1) := by decide +kernel
theorem D_method_2_code_20 : decode method_2_code 20 = .ok (.imul, 1) := by decide +kernel
theorem D_method_2_code_21 : decode method_2_code 21 = .ok (.lushr, 1) := by decide +kernel
theorem D_method_2_code_22 : decode method_2_code 22 = .ok (.goto 6, 3) := by decide +kernel
theorem D_method_2_code_25 : decode method_2_code 25 = .ok (.iload 5, 2) := by decide +kernel
theorem D_method_2_code_27 : decode method_2_code 27 = .ok (.i2l, 1) := by decide +kernel
theorem D_method_2_code_28 : decode method_2_code 28 = .ok (.lstore 6, 2) := by decide +kernel
theorem D_method_2_code_3 : decode method_2_code 3 = .ok (.iconst 1, 1) := by decide +kernel
theorem D_method_2_code_30 : decode method_2_code 30 = .ok (.lload 6, 2) := by decide +kernel
theorem D_method_2_code_32 : decode method_2_code 32 = .ok (.ldc2_w 7, 3) := by decide +kernel
theorem D_method_2_code_35 : decode method_2_code 35 = .ok (.land, 1) := by decide +kernel
theorem D_method_2_code_36 : decode method_2_code 36 = .ok (.l2i, 1) := by decide +kernel
theorem D_method_2_code_37 : decode method_2_code 37 = .ok (.i2c, 1) := by decide +kernel
theorem D_method_2_code_38 : decode method_2_code 38 = .ok (.ireturn, 1) := by decide +kernel
theorem D_method_2_code_4 : decode method_2_code 4 = .ok (.iand, 1) := by decide +kernel
theorem D_method_2_code_5 : decode method_2_code 5 = .ok (.ifCond .eq 5, 3) := by decide +kernel
theorem D_method_2_code_8 : decode method_2_code 8 = .ok (.iload_n 2, 1) := by decide +kernel
theorem D_method_2_code_9 : decode method_2_code 9 = .ok (.ireturn, 1) := by decide +kernel
theorem D_jdk_42_method_3_code_0 : decode jdk_42_method_3_code 0 = .ok (.aload_n 0, 1) := by decide +kernel
theorem D_jdk_42_method_3_code_1 : decode jdk_42_method_3_code 1 = .ok (.aload_n 1, 1) := by decide +kernel
theorem D_jdk_42_method_3_code_2 : decode jdk_42_method_3_code 2 = .ok (.iconst 0, 1) := by decide +kernel
theorem D_jdk_42_method_3_code_3 : decode jdk_42_method_3_code 3 = .ok (.aload_n 1, 1) := by decide +kernel
theorem D_jdk_42_method_3_code_4 : decode jdk_42_method_3_code 4 = .ok (.arraylength, 1) := by decide +kernel
theorem D_jdk_42_method_3_code_5 : decode jdk_42_method_3_code 5 = .ok (.aconst_null, 1) := by decide +kernel
theorem D_jdk_42_method_3_code_6 : decode jdk_42_method_3_code 6 = .ok (.invokespecial 27, 3) := by decide +kernel
theorem D_jdk_42_method_3_code_9 : decode jdk_42_method_3_code 9 = .ok (.return_, 1) := by decide +kernel
theorem D_jdk_42_method_149_code_0 : decode jdk_42_method_149_code 0 = .ok (.aload_n 0, 1) := by decide +kernel
theorem D_jdk_42_method_149_code_1 : decode jdk_42_method_149_code 1 = .ok (.invokespecial 1, 3) := by decide +kernel
theorem D_jdk_42_method_149_code_11 : decode jdk_42_method_149_code 11 = .ok (.getfield 9, 3) := by decide +kernel
theorem D_jdk_42_method_149_code_14 : decode jdk_42_method_149_code 14 = .ok (.putfield 9, 3) := by decide +kernel
theorem D_jdk_42_method_149_code_17 : decode jdk_42_method_149_code 17 = .ok (.aload_n 0, 1) := by decide +kernel
theorem D_jdk_42_method_149_code_18 : decode jdk_42_method_149_code 18 = .ok (.ldc 7, 2) := by decide +kernel
theorem D_jdk_42_method_149_code_20 : decode jdk_42_method_149_code 20 = .ok (.getfield 15, 3) := by decide +kernel
theorem D_jdk_42_method_149_code_23 : decode jdk_42_method_149_code 23 = .ok (.putfield 15, 3) := by decide +kernel
theorem D_jdk_42_method_149_code_26 : decode jdk_42_method_149_code 26 = .ok (.return_, 1) := by decide +kernel
theorem D_jdk_42_method_149_code_27 : decode jdk_42_method_149_code 27 = .ok (.getstatic 38, 3) := by decide +kernel
theorem D_jdk_42_method_149_code_30 : decode jdk_42_method_149_code 30 = .ok (.ifCond .eq 28, 3) := by decide +kernel
theorem D_jdk_42_method_149_code_33 : decode jdk_42_method_149_code 33 = .ok (.aload_n 1, 1) := by decide +kernel
theorem D_jdk_42_method_149_code_34 : decode jdk_42_method_149_code 34 = .ok (.iload_n 2, 1) := by decide +kernel
theorem D_jdk_42_method_149_code_35 : decode jdk_42_method_149_code 35 = .ok (.iload_n 3, 1) := by decide +kernel
theorem D_jdk_42_method_149_code_36 : decode jdk_42_method_149_code 36 = .ok (.invokestatic 177, 3) := by decide +kernel
theorem D_jdk_42_method_149_code_39 : decode jdk_42_method_149_code 39 = .ok (.astore 5, 2) := by decide +kernel
theorem D_jdk_42_method_149_code_4 : decode jdk_42_method_149_code 4 = .ok (.iload_n 3, 1) := by decide +kernel
theorem D_jdk_42_method_149_code_41 : decode jdk_42_method_149_code 41 = .ok (.aload_n 0, 1) := by decide +kernel
theorem D_jdk_42_method_149_code_42 : decode jdk_42_method_149_code 42 = .ok (.aload 5, 2) := by decide +kernel
theorem D_jdk_42_method_149_code_44 : decode jdk_42_method_149_code 44 = .ok (.iload_n 3, 1) := by decide +kernel
theorem D_jdk_42_method_149_code_45 : decode jdk_42_method_149_code 45 = .ok (.invokestatic 47, 3) := by decide +kernel
theorem D_jdk_42_method_149_code_48 : decode jdk_42_method_149_code 48 = .ok (.putfield 15, 3) := by decide +kernel
theorem D_jdk_42_method_149_code_5 : decode jdk_42_method_149_code 5 = .ok (.ifCond .ne 22, 3) := by decide +kernel
theorem D_jdk_42_method_149_code_51 : decode jdk_42_method_149_code 51 = .ok (.aload_n 0, 1) := by decide +kernel
theorem D_jdk_42_method_149_code_52 : decode jdk_42_method_149_code 52 = .ok (.aload 5, 2) := by decide +kernel
theorem D_jdk_42_method_149_code_54 : decode jdk_42_method_149_code 54 = .ok (.putfield 9, 3) := by decide +kernel
theorem D_jdk_42_method_149_code_57 : decode jdk_42_method_149_code 57 = .ok (.return_, 1) := by decide +kernel
theorem D_jdk_42_method_149_code_8 : decode jdk_42_method_149_code 8 = .ok (.aload_n 0, 1) := by decide +kernel
theorem D_jdk_42_method_149_code_9 : decode jdk_42_method_149_code 9 = .ok (.ldc 7, 2) := by decide +kernel
theorem D_jdk_42_method_66_code_0 : decode jdk_42_method_66_code 0 = .ok (.aload_n 0, 1) := by decide +kernel
theorem D_jdk_42_method_66_code_1 : decode jdk_42_method_66_code 1 = .ok (.aload_n 1, 1) := by decide +kernel
theorem D_jdk_42_method_66_code_11 : decode jdk_42_method_66_code 11 = .ok (.ifCond .eq 43, 3) := by decide +kernel
theorem D_jdk_42_method_66_code_14 : decode jdk_42_method_66_code 14 = .ok (.aload_n 1, 1) := by decide +kernel
theorem D_jdk_42_method_66_code_15 : decode jdk_42_method_66_code 15 = .ok (.checkcast 10, 3) := by decide +kernel
theorem D_jdk_42_method_66_code_18 : decode jdk_42_method_66_code 18 = .ok (.astore_n 2, 1) := by decide +kernel
theorem D_jdk_42_method_66_code_19 : decode jdk_42_method_66_code 19 = .ok (.getstatic 38, 3) := by decide +kernel
theorem D_jdk_42_method_66_code_2 : decode jdk_42_method_66_code 2 = .ok (.if_acmp .ne 5, 3) := by decide +kernel
theorem D_jdk_42_method_66_code_22 : decode jdk_42_method_66_code 22 = .ok (.ifCond .eq 14, 3) := by decide +kernel
theorem D_jdk_42_method_66_code_25 : decode jdk_42_method_66_code 25 = .ok (.aload_n 0, 1) := by decide +kernel
theorem D_jdk_42_method_66_code_26 : decode jdk_42_method_66_code 26 = .ok (.getfield 15, 3) := by decide +kernel
theorem D_jdk_42_method_66_code_29 : decode jdk_42_method_66_code 29 = .ok (.aload_n 2, 1) := by decide +kernel
theorem D_jdk_42_method_66_code_30 : decode jdk_42_method_66_code 30 = .ok (.getfield 15, 3) := by decide +kernel
theorem D_jdk_42_method_66_code_33 : decode jdk_42_method_66_code 33 = .ok (.if_icmp .ne 21, 3) := by decide +kernel
theorem D_jdk_42_method_66_code_36 : decode jdk_42_method_66_code 36 = .ok (.aload_n 0, 1) := by decide +kernel
theorem D_jdk_42_method_66_code_37 : decode jdk_42_method_66_code 37 = .ok (.getfield 9, 3) := by decide +kernel
theorem D_jdk_42_method_66_code_40 : decode jdk_42_method_66_code 40 = .ok (.aload_n 2, 1) := by decide +kernel
theorem D_jdk_42_method_66_code_41 : decode jdk_42_method_66_code 41 = .ok (.getfield 9, 3) := by decide +kernel
theorem D_jdk_42_method_66_code_44 : decode jdk_42_method_66_code 44 = .ok (.invokestatic 541, 3) := by decide +kernel
theorem D_jdk_42_method_66_code_47 : decode jdk_42_method_66_code 47 = .ok (.ifCond .eq 7, 3) := by decide +kernel
theorem D_jdk_42_method_66_code_5 : decode jdk_42_method_66_code 5 = .ok (.iconst 1, 1) := by decide +kernel
theorem D_jdk_42_method_66_code_50 : decode jdk_42_method_66_code 50 = .ok (.iconst 1, 1) := by decide +kernel
theorem D_jdk_42_method_66_code_51 : decode jdk_42_method_66_code 51 = .ok (.goto 4, 3) := by decide +kernel
theorem D_jdk_42_method_66_code_54 : decode jdk_42_method_66_code 54 = .ok (.iconst 0, 1) := by decide +kernel
theorem D_jdk_42_method_66_code_55 : decode jdk_42_method_66_code 55 = .ok (.ireturn, 1) := by decide +kernel
theorem D_jdk_42_method_66_code_6 : decode jdk_42_method_66_code 6 = .ok (.ireturn, 1) := by decide +kernel
theorem D_jdk_42_method_66_code_7 : decode jdk_42_method_66_code 7 = .ok (.aload_n 1, 1) := by decide +kernel
theorem D_jdk_42_method_66_code_8 : decode jdk_42_method_66_code 8 = .ok (.instanceof 10, 3) := by decide +kernel
theorem D_jdk_43_method_13_code_0 : decode jdk_43_method_13_code 0 = .ok (.aload_n 0, 1) := by decide +kernel
theorem D_jdk_43_method_13_code_1 : decode jdk_43_method_13_code 1 = .ok (.arraylength, 1) := by decide +kernel
theorem D_jdk_43_method_13_code_10 : decode jdk_43_method_13_code 10 = .ok (.aload_n 0, 1) := by decide +kernel
theorem D_jdk_43_method_13_code_11 : decode jdk_43_method_13_code 11 = .ok (.arraylength, 1) := by decide +kernel
theorem D_jdk_43_method_13_code_12 : decode jdk_43_method_13_code 12 = .ok (.if_icmp .ge 20, 3) := by decide +kernel
theorem D_jdk_43_method_13_code_15 : decode jdk_43_method_13_code 15 = .ok (.aload_n 0, 1) := by decide +kernel
theorem D_jdk_43_method_13_code_16 : decode jdk_43_method_13_code 16 = .ok (.iload_n 2, 1) := by decide +kernel
theorem D_jdk_43_method_13_code_17 : decode jdk_43_method_13_code 17 = .ok (.baload, 1) := by decide +kernel
theorem D_jdk_43_method_13_code_18 : decode jdk_43_method_13_code 18 = .ok (.aload_n 1, 1) := by decide +kernel
theorem D_jdk_43_method_13_code_19 : decode jdk_43_method_13_code 19 = .ok (.iload_n 2, 1) := by decide +kernel
theorem D_jdk_43_method_13_code_2 : decode jdk_43_method_13_code 2 = .ok (.aload_n 1, 1) := by decide +kernel
theorem D_jdk_43_method_13_code_20 : decode jdk_43_method_13_code 20 = .ok (.baload, 1) := by decide +kernel
theorem D_jdk_43_method_13_code_21 : decode jdk_43_method_13_code 21 = .ok (.if_icmp .eq 5, 3) := by decide +kernel
theorem D_jdk_43_method_13_code_24 : decode jdk_43_method_13_code 24 = .ok (.iconst 0, 1) := by decide +kernel
theorem D_jdk_43_method_13_code_25 : decode jdk_43_method_13_code 25 = .ok (.ireturn, 1) := by decide +kernel
theorem D_jdk_43_method_13_code_26 : decode jdk_43_method_13_code 26 = .ok (.iinc 2 1, 3) := by decide +kernel
theorem D_jdk_43_method_13_code_29 : decode jdk_43_method_13_code 29 = .ok (.goto (-20), 3) := by decide +kernel
theorem D_jdk_43_method_13_code_3 : decode jdk_43_method_13_code 3 = .ok (.arraylength, 1) := by decide +kernel
theorem D_jdk_43_method_13_code_32 : decode jdk_43_method_13_code 32 = .ok (.iconst 1, 1) := by decide +kernel
theorem D_jdk_43_method_13_code_33 : decode jdk_43_method_13_code 33 = .ok (.ireturn, 1) := by decide +kernel
theorem D_jdk_43_method_13_code_34 : decode jdk_43_method_13_code 34 = .ok (.iconst 0, 1) := by decide +kernel
theorem D_jdk_43_method_13_code_35 : decode jdk_43_method_13_code 35 = .ok (.ireturn, 1) := by decide +kernel
theorem D_jdk_43_method_13_code_4 : decode jdk_43_method_13_code 4 = .ok (.if_icmp .ne 30, 3) := by decide +kernel
theorem D_jdk_43_method_13_code_7 : decode jdk_43_method_13_code 7 = .ok (.iconst 0, 1) := by decide +kernel
theorem D_jdk_43_method_13_code_8 : decode jdk_43_method_13_code 8 = .ok (.istore_n 2, 1) := by decide +kernel
theorem D_jdk_43_method_13_code_9 : decode jdk_43_method_13_code 9 = .ok (.iload_n 2, 1) := by decide +kernel
theorem D_jdk_52_method_15_code_0 : decode jdk_52_method_15_code 0 = .ok (.iload_n 1, 1) := by decide +kernel
theorem D_jdk_52_method_15_code_1 : decode jdk_52_method_15_code 1 = .ok (.aload_n 0, 1) := by decide +kernel
theorem D_jdk_52_method_15_code_2 : decode jdk_52_method_15_code 2 = .ok (.arraylength, 1) := by decide +kernel
theorem D_jdk_52_method_15_code_3 : decode jdk_52_method_15_code 3 = .ok (.isub, 1) := by decide +kernel
theorem D_jdk_52_method_15_code_4 : decode jdk_52_method_15_code 4 = .ok (.bipush 31, 2) := by decide +kernel
theorem D_jdk_52_method_15_code_6 : decode jdk_52_method_15_code 6 = .ok (.iushr, 1) := by decide +kernel
theorem D_jdk_52_method_15_code_7 : decode jdk_52_method_15_code 7 = .ok (.i2b, 1) := by decide +kernel
theorem D_jdk_52_method_15_code_8 : decode jdk_52_method_15_code 8 = .ok (.ireturn, 1) := by decide +kernel
theorem D_jdk_52_method_16_code_0 : decode jdk_52_method_16_code 0 = .ok (.iload_n 2, 1) := by decide +kernel
theorem D_jdk_52_method_16_code_1 : decode jdk_52_method_16_code 1 = .ok (.newarray .byte, 2) := by decide +kernel
theorem D_jdk_52_method_16_code_12 : decode jdk_52_method_16_code 12 = .ok (.istore 4, 2) := by decide +kernel
theorem D_jdk_52_method_16_code_14 : decode jdk_52_method_16_code 14 = .ok (.iload 4, 2) := by decide +kernel
theorem D_jdk_52_method_16_code_16 : decode jdk_52_method_16_code 16 = .ok (.iload_n 2, 1) := by decide +kernel
theorem D_jdk_52_method_16_code_17 : decode jdk_52_method_16_code 17 = .ok (.if_icmp .eq 40, 3) := by decide +kernel
theorem D_jdk_52_method_16_code_3 : decode jdk_52_method_16_code 3 = .ok (.astore_n 3, 1) := by decide +kernel
theorem D_jdk_52_method_16_code_4 : decode jdk_52_method_16_code 4 = .ok (.aload_n 0, 1) := by decide +kernel
theorem D_jdk_52_method_16_code_5 : decode jdk_52_method_16_code 5 = .ok (.iload_n 1, 1) := by decide +kernel
theorem D_jdk_52_method_16_code_57 : decode jdk_52_method_16_code 57 = .ok (.aload_n 3, 1) := by decide +kernel
theorem D_jdk_52_method_16_code_58 : decode jdk_52_method_16_code 58 = .ok (.areturn, 1) := by decide +kernel
theorem D_jdk_52_method_16_code_6 : decode jdk_52_method_16_code 6 = .ok (.aload_n 3, 1) := by decide +kernel
theorem D_jdk_52_method_16_code_7 : decode jdk_52_method_16_code 7 = .ok (.iconst 0, 1) := by decide +kernel
theorem D_jdk_52_method_16_code_8 : decode jdk_52_method_16_code 8 = .ok (.iload_n 2, 1) := by decide +kernel
theorem D_jdk_52_method_16_code_9 : decode jdk_52_method_16_code 9 = .ok (.invokestatic 115, 3) := by decide +kernel
theorem D_jdk_52_method_21_code_0 : decode jdk_52_method_21_code 0 = .ok (.iconst 0, 1) := by decide +kernel
theorem D_jdk_52_method_21_code_1 : decode jdk_52_method_21_code 1 = .ok (.istore 5, 2) := by decide +kernel
theorem D_jdk_52_method_21_code_10 : decode jdk_52_method_21_code 10 = .ok (.aload_n 0, 1) := by decide +kernel
theorem D_jdk_52_method_21_code_11 : decode jdk_52_method_21_code 11 = .ok (.iload_n 1, 1) := by decide +kernel
theorem D_jdk_52_method_21_code_12 : decode jdk_52_method_21_code 12 = .ok (.caload, 1) := by decide +kernel
theorem D_jdk_52_method_21_code_13 : decode jdk_52_method_21_code 13 = .ok (.istore 6, 2) := by decide +kernel
theorem D_jdk_52_method_21_code_15 : decode jdk_52_method_21_code 15 = .ok (.iload 6, 2) := by decide +kernel
theorem D_jdk_52_method_21_code_17 : decode jdk_52_method_21_code 17 = .ok (.sipush 255, 3) := by decide +kernel
theorem D_jdk_52_method_21_code_20 : decode jdk_52_method_21_code 20 = .ok (.if_icmp .le 6, 3) := by decide +kernel
theorem D_jdk_52_method_21_code_26 : decode jdk_52_method_21_code 26 = .ok (.aload_n 2, 1) := by decide +kernel
theorem D_jdk_52_method_21_code_27 : decode jdk_52_method_21_code 27 = .ok (.iload_n 3, 1) := by decide +kernel
theorem D_jdk_52_method_21_code_28 : decode jdk_52_method_21_code 28 = .ok (.iload 6, 2) := by decide +kernel
theorem D_jdk_52_method_21_code_3 : decode jdk_52_method_21_code 3 = .ok (.iload 5, 2) := by decide +kernel
theorem D_jdk_52_method_21_code_30 : decode jdk_52_method_21_code 30 = .ok (.i2b, 1) := by decide +kernel
theorem D_jdk_52_method_21_code_31 : decode jdk_52_method_21_code 31 = .ok (.bastore, 1) := by decide +kernel
theorem D_jdk_52_method_21_code_32 : decode jdk_52_method_21_code 32 = .ok (.iinc 1 1, 3) := by decide +kernel
theorem D_jdk_52_method_21_code_35 : decode jdk_52_method_21_code 35 = .ok (.iinc 3 1, 3) := by decide +kernel
theorem D_jdk_52_method_21_code_38 : decode jdk_52_method_21_code 38 = .ok (.iinc 5 1, 3) := by decide +kernel
theorem D_jdk_52_method_21_code_41 : decode jdk_52_method_21_code 41 = .ok (.goto (-38), 3) := by decide +kernel
theorem D_jdk_52_method_21_code_44 : decode jdk_52_method_21_code 44 = .ok (.iload 4, 2) := by decide +kernel
theorem D_jdk_52_method_21_code_46 : decode jdk_52_method_21_code 46 = .ok (.ireturn, 1) := by decide +kernel
theorem D_jdk_52_method_21_code_5 : decode jdk_52_method_21_code 5 = .ok (.iload 4, 2) := by decide +kernel
theorem D_jdk_52_method_21_code_7 : decode jdk_52_method_21_code 7 = .ok (.if_icmp .ge 37, 3) := by decide +kernel
theorem pd_0 : parseMethodDescriptor "([CI[BII)I" = some ⟨[(.array .char), .int, (.array .byte), .int, .int], some .int⟩ := by decide +kernel
theorem pd_1 : parseMethodDescriptor "([CII)[B" = some ⟨[(.array .char), .int, .int], some (.array .byte)⟩ := by decide +kernel
theorem pd_2 : parseMethodDescriptor "([BI)B" = some ⟨[(.array .byte), .int], some .byte⟩ := by decide +kernel
theorem pd_3 : parseMethodDescriptor "([CIILjava/lang/Void;)V" = some ⟨[(.array .char), .int, .int, (.object "java/lang/Void")], none⟩ := by decide +kernel
theorem pd_4 : parseMethodDescriptor "([B[B)Z" = some ⟨[(.array .byte), (.array .byte)], some .boolean⟩ := by decide +kernel
theorem pd_5 : parseMethodDescriptor "(Ljava/lang/Object;)Z" = some ⟨[(.object "java/lang/Object")], some .boolean⟩ := by decide +kernel
theorem pd_6 : parseMethodDescriptor "(IICJI)C" = some ⟨[.int, .int, .char, .long, .int], some .char⟩ := by decide +kernel
theorem pd_7 : parseMethodDescriptor "([C)V" = some ⟨[(.array .char)], none⟩ := by decide +kernel
theorem pd_8 : parseMethodDescriptor "(Ljava/lang/String;)Z" = some ⟨[(.object "java/lang/String")], some .boolean⟩ := by decide +kernel
theorem pn_0 : plainName "java/lang/StringUTF16" = true := by first | (simp [plainName, overriddenIn]; done) | decide +kernel
theorem pn_1 : plainName "java/lang/String" = true := by first | (simp [plainName, overriddenIn]; done) | decide +kernel
theorem pn_2 : plainName "java/lang/StringLatin1" = true := by first | (simp [plainName, overriddenIn]; done) | decide +kernel
theorem pn_3 : plainName "com/example/kunci/kunci/IdsIsReservedPinLaw" = true := by first | (simp [plainName, overriddenIn]; done) | decide +kernel
theorem pn_4 : plainName "com/example/kunci/kunci/Ids" = true := by first | (simp [plainName, overriddenIn]; done) | decide +kernel
set_option maxRecDepth 65536 in
set_option maxHeartbeats 40000000 in
theorem c_compress5 {l : Launch} {Z : State} {a0 : Array Value} {EL : List (String × Nat)} {nw : Prop} {zc : Int32} (g : GH Z a0 EL zc) (h : Heap) (b : Addr) (kb : ClassId) (cs : List Int32) (d : Addr) (kd : ClassId) (hcs : ∀ c ∈ cs, 0 ≤ c.toInt ∧ c.toInt ≤ 255) (hl : cs.length ≤ 4000) (hne : ¬ b = d) (gd : Z.heap.size ≤ d) (e0 : Ar Z h b kb .char (cs.map Value.int)) (e1 : Ar Z h d kd .byte ((List.replicate cs.length (0 : Int32)).map Value.int)) (zz : Z.heap.size ≤ h.size) :
    Ct l Z EL nw [] ⟨"java/lang/StringUTF16", "compress", "([CI[BII)I"⟩ jdk_52_method_21_code 7 (some .int) ({ frames := 0, cells := 0, slots := 0, locals := 0 } : Room) #[(.ref b), (.int (0 : Int32)), (.ref d), (.int (0 : Int32)), (.int (cs.length.toInt32))] h [d] (fun res vm' h' => res = some (.int (cs.length.toInt32)) ∧ Keep h h' [d] ∧ Ar Z h' d kd .byte ((cs.map by8).map Value.int) ∧ Safe Z EL vm' h' d) := by
  have ye0 := ltN e0.lt
  have ye1 := ltN e1.lt
  refine Ct.of_go (a0 := a0) g.2.1 pn_0 (L0 := #[.val (.ref b), .val (.int (0 : Int32)), .val (.ref d), .val (.int (0 : Int32)), .val (.int (cs.length.toInt32)), .unset, .unset]) (fun m => by first | (simp [entryFrame, mkF, argsToLocals, Value.category, own_rep]; done) | rfl) ?_
  intro p e s m below meth c hown hby hml hret hnm hZ hC hO hsf
  refine Go.iconst (hb hby D_jdk_52_method_21_code_0) (pc' := 1) rfl (z := (0 : Int32)) rfl ?_
  refine Go.istore (hb hby D_jdk_52_method_21_code_1) (pc' := 3) rfl (L' := #[.val (.ref b), .val (.int (0 : Int32)), .val (.ref d), .val (.int (0 : Int32)), .val (.int (cs.length.toInt32)), .val (.int (0 : Int32)), .unset]) rfl ?_
  refine Go.loop (Inv := fun r vmI hI kI nI LI => vmI = s.vm ∧ kI = 0 ∧ nI = 0 ∧ ∃ (i : Nat) (s6 : Slot), i + r = cs.length ∧ (s6 = .unset ∨ ∃ w, s6 = .val (.int w)) ∧ LI = #[.val (.ref b), .val (.int i.toInt32), .val (.ref d), .val (.int i.toInt32), .val (.int (cs.length.toInt32)), .val (.int i.toInt32), s6] ∧ Keep h hI [d] ∧ Ar Z hI d kd .byte (((cs.map by8).take i ++ List.replicate ((cs.map by8).length - i) 0).map Value.int) ∧ Safe Z EL s.vm hI d) ?_ cs.length _ _ _ _ _ ⟨rfl, rfl, rfl, 0, .unset, Nat.zero_add _, Or.inl rfl, rfl, Keep.refl _ _, by simpa using e1, hsf _ (by simp)⟩
  rintro r vmI hI kI nI LI ⟨rfl, rfl, rfl, i, s6, hir, hs6, rfl, KI, AI, SI⟩ ih
  have yI := KI.1
  have hi31 : i < 2 ^ 31 := by omega
  have hn31 : cs.length < 2 ^ 31 := by omega
  rcases hs6 with rfl | ⟨w6, rfl⟩
  · refine Go.iload (hb hby D_jdk_52_method_21_code_3) (pc' := 5) rfl rfl ?_
    refine Go.iload (hb hby D_jdk_52_method_21_code_5) (pc' := 7) rfl rfl ?_
    refine Go.icmp (hb hby D_jdk_52_method_21_code_7) (by decide) (pc' := 44) (by decide) (pc2 := 10) rfl (fun (q7 : ¬ i.toInt32 < (cs.length.toInt32)) => ?_) (fun (q7 : ¬ (¬ i.toInt32 < (cs.length.toInt32))) => ?_)
    · have hi : ¬ i < cs.length := fun z => q7 ((lt32 hi31 hn31).mpr z)
      have hi' : i = cs.length := by omega
      subst hi'
      have AI' : Ar Z hI d kd .byte ((cs.map by8).map Value.int) := by have q := AI; rw [show (cs.map by8).take cs.length ++ List.replicate ((cs.map by8).length - cs.length) 0 = cs.map by8 by simp [List.take_of_length_le]] at q; exact q
      refine Go.iload (hb hby D_jdk_52_method_21_code_44) (pc' := 46) rfl rfl ?_
      refine Go.retI hret (hb hby D_jdk_52_method_21_code_46) (by decide) (by decide) ?_
      intro vmR CR
      exact ⟨(by first | rfl | (simp only [own_nar]; done) | (congr 2; done)), ((Keep.refl h [d]).trans KI (allS (by first | (left; simp; done) | (right; omega)) all0)), AI', (Safe.to CR (by omega) SI)⟩
    · refine Go.aloadN (hb hby D_jdk_52_method_21_code_10) (pc' := 11) rfl rfl rfl ?_
      refine Go.iloadN (hb hby D_jdk_52_method_21_code_11) (pc' := 12) rfl rfl ?_
      have f1 : Ar Z hI b kb .char (cs.map Value.int) := (e0.keep KI (ninS hne nin0))
      have hi : i < cs.length := (lt32 hi31 hn31).mp (Classical.not_not.mp q7)
      obtain ⟨cx, hc⟩ : ∃ cx, cs[i] = cx := ⟨_, rfl⟩
      have hcb := hcs cx (hc ▸ List.getElem_mem hi)
      refine Go.caload f1 (v := (.int cx)) (nneg32 hi31) (by rw [clamp_nat hi31]; simp [hi, hc]) (hb hby D_jdk_52_method_21_code_12) (pc' := 13) rfl ?_
      refine Go.istore (hb hby D_jdk_52_method_21_code_13) (pc' := 15) rfl (L' := #[.val (.ref b), .val (.int i.toInt32), .val (.ref d), .val (.int i.toInt32), .val (.int (cs.length.toInt32)), .val (.int i.toInt32), .val (.int cx)]) rfl ?_
      refine Go.iload (hb hby D_jdk_52_method_21_code_15) (pc' := 17) rfl rfl ?_
      refine Go.sipush (hb hby D_jdk_52_method_21_code_17) (pc' := 20) rfl (z := (255 : Int32)) rfl ?_
      refine Go.icmpY (hb hby D_jdk_52_method_21_code_20) (by decide) (pc' := 26) (by decide) (by show ¬ (255 : Int32) < cx; rw [Int32.lt_iff_toInt_lt]; have : (255 : Int32).toInt = 255 := rfl; omega) ?_
      refine Go.aloadN (hb hby D_jdk_52_method_21_code_26) (pc' := 27) rfl rfl rfl ?_
      refine Go.iloadN (hb hby D_jdk_52_method_21_code_27) (pc' := 28) rfl rfl ?_
      refine Go.iload (hb hby D_jdk_52_method_21_code_28) (pc' := 30) rfl rfl ?_
      refine Go.i2b (hb hby D_jdk_52_method_21_code_30) (pc' := 31) rfl ?_
      refine Go.bastore AI (nneg32 hi31) (by rw [clamp_nat hi31]; simp; omega) SI (by omega) (hb hby D_jdk_52_method_21_code_31) (pc' := 32) rfl ?_
      intro h2 A3 z4 K5 S6 C7
      have A3 : Ar Z h2 d kd .byte ((((cs.map by8).take i ++ List.replicate ((cs.map by8).length - i) 0).map Value.int).set i.toInt32.toNatClampNeg (.int (nar .byte cx.toInt8.toInt32))) := A3
      refine Go.iinc (hb hby D_jdk_52_method_21_code_32) (pc' := 35) rfl rfl (L' := #[.val (.ref b), .val (.int (i.toInt32 + 1)), .val (.ref d), .val (.int i.toInt32), .val (.int (cs.length.toInt32)), .val (.int i.toInt32), .val (.int cx)]) rfl ?_
      refine Go.iinc (hb hby D_jdk_52_method_21_code_35) (pc' := 38) rfl rfl (L' := #[.val (.ref b), .val (.int (i.toInt32 + 1)), .val (.ref d), .val (.int (i.toInt32 + 1)), .val (.int (cs.length.toInt32)), .val (.int i.toInt32), .val (.int cx)]) rfl ?_
      refine Go.iinc (hb hby D_jdk_52_method_21_code_38) (pc' := 41) rfl rfl (L' := #[.val (.ref b), .val (.int (i.toInt32 + 1)), .val (.ref d), .val (.int (i.toInt32 + 1)), .val (.int (cs.length.toInt32)), .val (.int (i.toInt32 + 1)), .val (.int cx)]) rfl ?_
      refine Go.goto (hb hby D_jdk_52_method_21_code_41) (by decide) (pc' := 3) (by decide) ?_
      have hset := fill_set (cs.map by8) 0 i (by simpa using hi)
      rw [succ32 i]
      refine ih (r - 1) _ _ _ _ _ (by omega) ⟨rfl, rfl, rfl, i + 1, _, by omega, Or.inr ⟨_, rfl⟩, rfl, Keep.tr KI K5, ?_, S6⟩
      rw [nar_by8, clamp_nat hi31] at A3
      have e2 : (cs.map by8)[i]'(by simpa using hi) = by8 cx := by simp [hc]
      rw [← hset, e2, List.map_set]; exact A3
  · refine Go.iload (hb hby D_jdk_52_method_21_code_3) (pc' := 5) rfl rfl ?_
    refine Go.iload (hb hby D_jdk_52_method_21_code_5) (pc' := 7) rfl rfl ?_
    refine Go.icmp (hb hby D_jdk_52_method_21_code_7) (by decide) (pc' := 44) (by decide) (pc2 := 10) rfl (fun (q7 : ¬ i.toInt32 < (cs.length.toInt32)) => ?_) (fun (q7 : ¬ (¬ i.toInt32 < (cs.length.toInt32))) => ?_)
    · have hi : ¬ i < cs.length := fun z => q7 ((lt32 hi31 hn31).mpr z)
      have hi' : i = cs.length := by omega
      subst hi'
      have AI' : Ar Z hI d kd .byte ((cs.map by8).map Value.int) := by have q := AI; rw [show (cs.map by8).take cs.length ++ List.replicate ((cs.map by8).length - cs.length) 0 = cs.map by8 by simp [List.take_of_length_le]] at q; exact q
      refine Go.iload (hb hby D_jdk_52_method_21_code_44) (pc' := 46) rfl rfl ?_
      refine Go.retI hret (hb hby D_jdk_52_method_21_code_46) (by decide) (by decide) ?_
      intro vmR CR
      exact ⟨(by first | rfl | (simp only [own_nar]; done) | (congr 2; done)), ((Keep.refl h [d]).trans KI (allS (by first | (left; simp; done) | (right; omega)) all0)), AI', (Safe.to CR (by omega) SI)⟩
    · refine Go.aloadN (hb hby D_jdk_52_method_21_code_10) (pc' := 11) rfl rfl rfl ?_
      refine Go.iloadN (hb hby D_jdk_52_method_21_code_11) (pc' := 12) rfl rfl ?_
      have f8 : Ar Z hI b kb .char (cs.map Value.int) := (e0.keep KI (ninS hne nin0))
      have hi : i < cs.length := (lt32 hi31 hn31).mp (Classical.not_not.mp q7)
      obtain ⟨cx, hc⟩ : ∃ cx, cs[i] = cx := ⟨_, rfl⟩
      have hcb := hcs cx (hc ▸ List.getElem_mem hi)
      refine Go.caload f8 (v := (.int cx)) (nneg32 hi31) (by rw [clamp_nat hi31]; simp [hi, hc]) (hb hby D_jdk_52_method_21_code_12) (pc' := 13) rfl ?_
      refine Go.istore (hb hby D_jdk_52_method_21_code_13) (pc' := 15) rfl (L' := #[.val (.ref b), .val (.int i.toInt32), .val (.ref d), .val (.int i.toInt32), .val (.int (cs.length.toInt32)), .val (.int i.toInt32), .val (.int cx)]) rfl ?_
      refine Go.iload (hb hby D_jdk_52_method_21_code_15) (pc' := 17) rfl rfl ?_
      refine Go.sipush (hb hby D_jdk_52_method_21_code_17) (pc' := 20) rfl (z := (255 : Int32)) rfl ?_
      refine Go.icmpY (hb hby D_jdk_52_method_21_code_20) (by decide) (pc' := 26) (by decide) (by show ¬ (255 : Int32) < cx; rw [Int32.lt_iff_toInt_lt]; have : (255 : Int32).toInt = 255 := rfl; omega) ?_
      refine Go.aloadN (hb hby D_jdk_52_method_21_code_26) (pc' := 27) rfl rfl rfl ?_
      refine Go.iloadN (hb hby D_jdk_52_method_21_code_27) (pc' := 28) rfl rfl ?_
      refine Go.iload (hb hby D_jdk_52_method_21_code_28) (pc' := 30) rfl rfl ?_
      refine Go.i2b (hb hby D_jdk_52_method_21_code_30) (pc' := 31) rfl ?_
      refine Go.bastore AI (nneg32 hi31) (by rw [clamp_nat hi31]; simp; omega) SI (by omega) (hb hby D_jdk_52_method_21_code_31) (pc' := 32) rfl ?_
      intro h9 A10 z11 K12 S13 C14
      have A10 : Ar Z h9 d kd .byte ((((cs.map by8).take i ++ List.replicate ((cs.map by8).length - i) 0).map Value.int).set i.toInt32.toNatClampNeg (.int (nar .byte cx.toInt8.toInt32))) := A10
      refine Go.iinc (hb hby D_jdk_52_method_21_code_32) (pc' := 35) rfl rfl (L' := #[.val (.ref b), .val (.int (i.toInt32 + 1)), .val (.ref d), .val (.int i.toInt32), .val (.int (cs.length.toInt32)), .val (.int i.toInt32), .val (.int cx)]) rfl ?_
      refine Go.iinc (hb hby D_jdk_52_method_21_code_35) (pc' := 38) rfl rfl (L' := #[.val (.ref b), .val (.int (i.toInt32 + 1)), .val (.ref d), .val (.int (i.toInt32 + 1)), .val (.int (cs.length.toInt32)), .val (.int i.toInt32), .val (.int cx)]) rfl ?_
      refine Go.iinc (hb hby D_jdk_52_method_21_code_38) (pc' := 41) rfl rfl (L' := #[.val (.ref b), .val (.int (i.toInt32 + 1)), .val (.ref d), .val (.int (i.toInt32 + 1)), .val (.int (cs.length.toInt32)), .val (.int (i.toInt32 + 1)), .val (.int cx)]) rfl ?_
      refine Go.goto (hb hby D_jdk_52_method_21_code_41) (by decide) (pc' := 3) (by decide) ?_
      have hset := fill_set (cs.map by8) 0 i (by simpa using hi)
      rw [succ32 i]
      refine ih (r - 1) _ _ _ _ _ (by omega) ⟨rfl, rfl, rfl, i + 1, _, by omega, Or.inr ⟨_, rfl⟩, rfl, Keep.tr KI K12, ?_, S13⟩
      rw [nar_by8, clamp_nat hi31] at A10
      have e2 : (cs.map by8)[i]'(by simpa using hi) = by8 cx := by simp [hc]
      rw [← hset, e2, List.map_set]; exact A10
set_option maxRecDepth 65536 in
set_option maxHeartbeats 40000000 in
theorem c_compress3 {l : Launch} {Z : State} {a0 : Array Value} {EL : List (String × Nat)} {nw : Prop} {zc : Int32} (g : GH Z a0 EL zc) (h : Heap) (b : Addr) (kb : ClassId) (cs : List Int32) (hcs : ∀ c ∈ cs, 0 ≤ c.toInt ∧ c.toInt ≤ 255) (hl : cs.length ≤ 16) (e0 : Ar Z h b kb .char (cs.map Value.int)) (zz : Z.heap.size ≤ h.size) :
    Ct l Z EL nw [] ⟨"java/lang/StringUTF16", "compress", "([CII)[B"⟩ jdk_52_method_16_code 6 (some (.array .byte)) ({ frames := 1, cells := 1, slots := 16, locals := 18 } : Room) #[(.ref b), (.int (0 : Int32)), (.int (cs.length.toInt32))] h [] (fun res vm' h' => ∃ d : Addr, ∃ kd : ClassId, res = some (.ref d) ∧ Keep h h' [] ∧ h.size ≤ d ∧ Ar Z h' d kd .byte ((cs.map by8).map Value.int) ∧ Safe Z EL vm' h' d) := by
  have ye0 := ltN e0.lt
  refine Ct.of_go (a0 := a0) g.2.1 pn_0 (L0 := #[.val (.ref b), .val (.int (0 : Int32)), .val (.int (cs.length.toInt32)), .unset, .unset, .unset]) (fun m => by first | (simp [entryFrame, mkF, argsToLocals, Value.category, own_rep]; done) | rfl) ?_
  intro p e s m below meth c hown hby hml hret hnm hZ hC hO hsf
  refine Go.iloadN (hb hby D_jdk_52_method_16_code_0) (pc' := 1) rfl rfl ?_
  refine Go.newP (ty := .byte) rfl (wd_13 g) (hb hby D_jdk_52_method_16_code_1) (pc' := 3) rfl (nneg32 (by omega)) (cap := 16) (by rw [clamp_nat (by omega)]; exact hl) (by decide) (by decide) (by decide) ?_
  intro h1 a2 k3 g4 l5 E6 A7 S8 C9
  have KE6 := Keep.ofExt E6; have zE6 := E6.1
  have A7 : Ar Z h1 a2 k3 .byte (List.replicate (cs.length.toInt32).toNatClampNeg (.int 0)) := A7
  have A10 : Ar Z h1 a2 k3 .byte ((List.replicate cs.length (0 : Int32)).map Value.int) := by rw [clamp_nat (by omega)] at A7; rw [List.map_replicate]; exact A7
  refine Go.astoreN (hb hby D_jdk_52_method_16_code_3) (pc' := 4) rfl rfl (L' := #[.val (.ref b), .val (.int (0 : Int32)), .val (.int (cs.length.toInt32)), .val (.ref a2), .unset, .unset]) rfl ?_
  refine Go.aloadN (hb hby D_jdk_52_method_16_code_4) (pc' := 5) rfl rfl rfl ?_
  refine Go.iloadN (hb hby D_jdk_52_method_16_code_5) (pc' := 6) rfl rfl ?_
  refine Go.aloadN (hb hby D_jdk_52_method_16_code_6) (pc' := 7) rfl rfl rfl ?_
  refine Go.iconst (hb hby D_jdk_52_method_16_code_7) (pc' := 8) rfl (z := (0 : Int32)) rfl ?_
  refine Go.iloadN (hb hby D_jdk_52_method_16_code_8) (pc' := 9) rfl rfl ?_
  have f11 : Ar Z h1 b kb .char (cs.map Value.int) := (e0.keep KE6 nin0)
  refine Go.callS (c_compress5 (l := l) (nw := nw) g h1 b kb cs a2 k3 hcs (by omega) (neN (by omega)) (by omega) f11 A10 (by omega)) hown (wd_40 g) (wd_41 g) (wd_42 g) (wd_38 g) (by decide) (argsL := [(.ref b), (.int (0 : Int32)), (.ref a2), (.int (0 : Int32)), (.int (cs.length.toInt32))]) (lenOf pd_0 rfl) rfl (by rw [hml]; rfl) (W := 0) rfl (hb hby D_jdk_52_method_16_code_9) (pc' := 12) rfl (by decide) (by decide) (by decide) (by decide) (allS ⟨by omega, S8⟩ all0) ?_
  rintro _ vm12 h12 ⟨rfl, K12, o12_0, o12_1⟩ C12
  have z12 := K12.1
  have yo12_0 := ltN o12_0.lt
  -- pc 12
  refine Go.istore (hb hby D_jdk_52_method_16_code_12) (pc' := 14) rfl (L' := #[.val (.ref b), .val (.int (0 : Int32)), .val (.int (cs.length.toInt32)), .val (.ref a2), .val (.int (cs.length.toInt32)), .unset]) rfl ?_
  refine Go.iload (hb hby D_jdk_52_method_16_code_14) (pc' := 16) rfl rfl ?_
  refine Go.iloadN (hb hby D_jdk_52_method_16_code_16) (pc' := 17) rfl rfl ?_
  refine Go.icmpY (hb hby D_jdk_52_method_16_code_17) (by decide) (pc' := 57) (by decide) rfl ?_
  refine Go.aloadN (hb hby D_jdk_52_method_16_code_57) (pc' := 58) rfl rfl rfl ?_
  refine Go.retA hret rfl rfl (hb hby D_jdk_52_method_16_code_58) (by decide) (by decide) ?_
  intro vmR CR
  exact ⟨a2, k3, (by first | rfl | (simp only [own_nar]; done) | (congr 2; done)), (((Keep.refl h []).trans KE6 all0).trans K12 (allS (by first | (left; simp; done) | (right; omega)) all0)), (by omega), o12_0, (Safe.to CR (by omega) o12_1)⟩
set_option maxRecDepth 65536 in
set_option maxHeartbeats 40000000 in
theorem c_coderOf {l : Launch} {Z : State} {a0 : Array Value} {EL : List (String × Nat)} {nw : Prop} {zc : Int32} (g : GH Z a0 EL zc) (h : Heap) (d : Addr) (kd : ClassId) (bs : List Int32) (z : Int32) (hz : bs.length.toInt32 = z) (e0 : Ar Z h d kd .byte (bs.map Value.int)) (zz : Z.heap.size ≤ h.size) :
    Ct l Z EL nw [] ⟨"java/lang/StringUTF16", "coderFromArrayLen", "([BI)B"⟩ jdk_52_method_15_code 2 (some .byte) ({ frames := 0, cells := 0, slots := 0, locals := 0 } : Room) #[(.ref d), (.int z)] h [] (fun res vm' h' => res = some (.int (0 : Int32)) ∧ Keep h h' []) := by
  have ye0 := ltN e0.lt
  refine Ct.of_go (a0 := a0) g.2.1 pn_0 (L0 := #[.val (.ref d), .val (.int z)]) (fun m => by first | (simp [entryFrame, mkF, argsToLocals, Value.category, own_rep]; done) | rfl) ?_
  intro p e s m below meth c hown hby hml hret hnm hZ hC hO hsf
  refine Go.iloadN (hb hby D_jdk_52_method_15_code_0) (pc' := 1) rfl rfl ?_
  refine Go.aloadN (hb hby D_jdk_52_method_15_code_1) (pc' := 2) rfl rfl rfl ?_
  refine Go.alen e0 (z := (bs.length.toInt32)) (by rw [List.length_map]) (hb hby D_jdk_52_method_15_code_2) (pc' := 3) rfl ?_
  refine Go.isub (hb hby D_jdk_52_method_15_code_3) (pc' := 4) rfl ?_
  refine Go.bipush (hb hby D_jdk_52_method_15_code_4) (pc' := 6) rfl (z := (31 : Int32)) rfl ?_
  refine Go.iushr (hb hby D_jdk_52_method_15_code_6) (pc' := 7) rfl ?_
  refine Go.i2b (hb hby D_jdk_52_method_15_code_7) (pc' := 8) rfl ?_
  refine Go.retN (t := .byte) hret (by simp) (hb hby D_jdk_52_method_15_code_8) (by decide) (by decide) ?_
  intro vmR CR
  exact ⟨(by rw [hz, sub0]; rfl), (Keep.refl h [])⟩
set_option maxRecDepth 65536 in
set_option maxHeartbeats 40000000 in
theorem c_strinit4 {l : Launch} {Z : State} {a0 : Array Value} {EL : List (String × Nat)} {nw : Prop} {zc : Int32} (g : GH Z a0 EL zc) (h : Heap) (a : Addr) (b : Addr) (kb : ClassId) (cs : List Int32) (hcs : ∀ c ∈ cs, 0 ≤ c.toInt ∧ c.toInt ≤ 255) (h0 : 0 < cs.length) (hl : cs.length ≤ 16) (ga : Z.heap.size ≤ a) (e0 : Exa Z h a "java/lang/String") (e1 : Fld Z h a "java/lang/String" "coder" "B" (.int 0)) (e2 : Fld Z h a "java/lang/String" "value" "[B" .null) (e3 : Ar Z h b kb .char (cs.map Value.int)) (zz : Z.heap.size ≤ h.size) :
    Ct l Z EL nw [] ⟨"java/lang/String", "<init>", "([CIILjava/lang/Void;)V"⟩ jdk_42_method_149_code 6 none ({ frames := 2, cells := 1, slots := 16, locals := 35 } : Room) #[(.ref a), (.ref b), (.int (0 : Int32)), (.int (cs.length.toInt32)), .null] h [a] (fun res vm' h' => ∃ d : Addr, ∃ kd : ClassId, res = none ∧ Keep h h' [a] ∧ h.size ≤ d ∧ St Z h' a d kd (cs.map by8)) := by
  have ye0 := ltN e0.lt
  have ye1 := ltN e1.lt
  have ye2 := ltN e2.lt
  have ye3 := ltN e3.lt
  refine Ct.of_go (a0 := a0) g.2.1 pn_1 (L0 := #[.val (.ref a), .val (.ref b), .val (.int (0 : Int32)), .val (.int (cs.length.toInt32)), .val .null, .unset]) (fun m => by first | (simp [entryFrame, mkF, argsToLocals, Value.category, own_rep]; done) | rfl) ?_
  intro p e s m below meth c hown hby hml hret hnm hZ hC hO hsf
  refine Go.aloadN (hb hby D_jdk_42_method_149_code_0) (pc' := 1) rfl rfl rfl ?_
  refine Go.initO hown (wd_32 g) (wd_33 g) (wd_34 g) (by rw [hml]; rfl) (hb hby D_jdk_42_method_149_code_1) (by decide) (W := 0) rfl (by decide) (pc' := 4) rfl ?_
  refine Go.iloadN (hb hby D_jdk_42_method_149_code_4) (pc' := 5) rfl rfl ?_
  refine Go.ifY (hb hby D_jdk_42_method_149_code_5) (by decide) (pc' := 27) (by decide) (nz32 (by omega) h0) ?_
  refine Go.getS hown (wd_35 g) Via.refl g.2.2.2.2.1 (hb hby D_jdk_42_method_149_code_27) (pc' := 30) rfl ?_
  refine Go.ifN (hb hby D_jdk_42_method_149_code_30) (pc' := 33) rfl g.2.2.2.2.2.1 ?_
  refine Go.aloadN (hb hby D_jdk_42_method_149_code_33) (pc' := 34) rfl rfl rfl ?_
  refine Go.iloadN (hb hby D_jdk_42_method_149_code_34) (pc' := 35) rfl rfl ?_
  refine Go.iloadN (hb hby D_jdk_42_method_149_code_35) (pc' := 36) rfl rfl ?_
  refine Go.callS (c_compress3 (l := l) (nw := nw) g h b kb cs hcs hl e3 (by omega)) hown (wd_36 g) (wd_37 g) (wd_39 g) (wd_38 g) (by decide) (argsL := [(.ref b), (.int (0 : Int32)), (.int (cs.length.toInt32))]) (lenOf pd_1 rfl) rfl (by rw [hml]; rfl) (W := 0) rfl (hb hby D_jdk_42_method_149_code_36) (pc' := 39) rfl (by decide) (by decide) (by decide) (by decide) all0 ?_
  rintro _ vm1 h1 ⟨d_1, kd_1, rfl, K1, p1_0, o1_0, o1_1⟩ C1
  have z1 := K1.1
  have yo1_0 := ltN o1_0.lt
  -- pc 39
  refine Go.astore (hb hby D_jdk_42_method_149_code_39) (pc' := 41) rfl rfl (L' := #[.val (.ref a), .val (.ref b), .val (.int (0 : Int32)), .val (.int (cs.length.toInt32)), .val .null, .val (.ref d_1)]) rfl ?_
  refine Go.aloadN (hb hby D_jdk_42_method_149_code_41) (pc' := 42) rfl rfl rfl ?_
  refine Go.aload (hb hby D_jdk_42_method_149_code_42) (pc' := 44) rfl rfl rfl ?_
  refine Go.iloadN (hb hby D_jdk_42_method_149_code_44) (pc' := 45) rfl rfl ?_
  refine Go.callS (c_coderOf (l := l) (nw := nw) g h1 d_1 kd_1 (cs.map by8) (cs.length.toInt32) (by rw [List.length_map]) o1_0 (by omega)) hown (wd_43 g) (wd_44 g) (wd_45 g) (wd_38 g) (by decide) (argsL := [(.ref d_1), (.int (cs.length.toInt32))]) (lenOf pd_2 rfl) rfl (by rw [hml]; rfl) (W := 1) rfl (hb hby D_jdk_42_method_149_code_45) (pc' := 48) rfl (by decide) (by decide) (by decide) (by decide) all0 ?_
  rintro _ vm2 h2 ⟨rfl, K2⟩ C2
  have z2 := K2.1
  -- pc 48
  have f3 : Fld Z h2 a "java/lang/String" "coder" "B" (.int 0) := ((e1.keep K1 nin0).keep K2 nin0)
  have f4 : Exa Z h2 a "java/lang/String" := ((e0.keep K1).keep K2)
  have f5 : Safe Z EL vm2 h2 a := (Safe.to C2 (by omega) (Safe.to C1 (by omega) (hsf _ (by simp))))
  refine Go.putF hown (wd_46 g) Via.refl f3 f4 (Or.inr ⟨(wd_15 g), rfl, hnm⟩) (wd_12 g) (ty := .byte) (by decide) (v' := (.int (0 : Int32))) rfl (by first | rfl | exact fits_nar_byte _ ) (Or.inr f5) (by omega) (hb hby D_jdk_42_method_149_code_48) (pc' := 51) rfl ?_
  intro h6 W7 z9 K8 C10
  have f11 : Fld Z h2 a "java/lang/String" "value" "[B" .null := ((e2.keep K1 nin0).keep K2 nin0)
  have f12 : Fld Z h6 a "java/lang/String" "coder" "B" (.int (0 : Int32)) := (Fld.same W7 f3)
  have f13 : Fld Z h6 a "java/lang/String" "value" "[B" .null := (Fld.other W7 f11 (Or.inr (slot_ne (Or.inr (wd_14 g)) (Or.inr (wd_15 g)) (by decide) (t := (.array .byte)) (t' := .byte) (by decide) (by decide))))
  refine Go.aloadN (hb hby D_jdk_42_method_149_code_51) (pc' := 52) rfl rfl rfl ?_
  refine Go.aload (hb hby D_jdk_42_method_149_code_52) (pc' := 54) rfl rfl rfl ?_
  have f14 : Exa Z h6 a "java/lang/String" := (f4.keep K8)
  have f15 : Safe Z EL vm2 h6 a := (Safe.to C10 (by omega) f5)
  refine Go.putF hown (wd_47 g) Via.refl f13 f14 (Or.inr ⟨(wd_14 g), rfl, hnm⟩) (wd_12 g) (ty := (.array .byte)) (by decide) rfl rfl (Or.inr f15) (by omega) (hb hby D_jdk_42_method_149_code_54) (pc' := 57) rfl ?_
  intro h16 W17 z19 K18 C20
  have f21 : Fld Z h16 a "java/lang/String" "coder" "B" (.int (0 : Int32)) := (Fld.other W17 f12 (Or.inr (slot_ne (Or.inr (wd_15 g)) (Or.inr (wd_14 g)) (by decide) (t := .byte) (t' := (.array .byte)) (by decide) (by decide))))
  have f22 : Fld Z h16 a "java/lang/String" "value" "[B" (.ref d_1) := (Fld.same W17 f13)
  have f24 : Exa Z h16 a "java/lang/String" := (f14.keep K18)
  have f25 : Ar Z h16 d_1 kd_1 .byte ((cs.map by8).map Value.int) := (((o1_0.keep K2 nin0).keep K8 (ninS (Ne.symm (Ar.ne_exa (o1_0.keep K2 nin0) ((e0.keep K1).keep K2) (wd_12 g))) nin0)).keep K18 (ninS (Ne.symm (Ar.ne_exa ((o1_0.keep K2 nin0).keep K8 (ninS (Ne.symm (Ar.ne_exa (o1_0.keep K2 nin0) ((e0.keep K1).keep K2) (wd_12 g))) nin0)) (((e0.keep K1).keep K2).keep K8) (wd_12 g))) nin0))
  have f23 : St Z h16 a d_1 kd_1 (cs.map by8) := ⟨f24, f21, f22, f25, by rw [List.length_map]; omega⟩
  refine Go.ret hret (hb hby D_jdk_42_method_149_code_57) (by decide) (by decide) ?_
  intro vmR CR
  exact ⟨d_1, kd_1, rfl, (((((Keep.refl h [a]).trans K1 all0).trans K2 all0).trans K8 (allS (by first | (left; simp; done) | (right; omega)) all0)).trans K18 (allS (by first | (left; simp; done) | (right; omega)) all0)), (by omega), f23⟩
set_option maxRecDepth 65536 in
set_option maxHeartbeats 40000000 in
theorem c_strinit {l : Launch} {Z : State} {a0 : Array Value} {EL : List (String × Nat)} {nw : Prop} {zc : Int32} (g : GH Z a0 EL zc) (h : Heap) (a : Addr) (b : Addr) (kb : ClassId) (cs : List Int32) (hcs : ∀ c ∈ cs, 0 ≤ c.toInt ∧ c.toInt ≤ 255) (h0 : 0 < cs.length) (hl : cs.length ≤ 16) (ga : Z.heap.size ≤ a) (e0 : Exa Z h a "java/lang/String") (e1 : Fld Z h a "java/lang/String" "coder" "B" (.int 0)) (e2 : Fld Z h a "java/lang/String" "value" "[B" .null) (e3 : Ar Z h b kb .char (cs.map Value.int)) (zz : Z.heap.size ≤ h.size) :
    Ct l Z EL nw [] ⟨"java/lang/String", "<init>", "([C)V"⟩ jdk_42_method_3_code 2 none ({ frames := 3, cells := 1, slots := 16, locals := 52 } : Room) #[(.ref a), (.ref b)] h [a] (fun res vm' h' => ∃ d : Addr, ∃ kd : ClassId, res = none ∧ Keep h h' [a] ∧ h.size ≤ d ∧ St Z h' a d kd (cs.map by8)) := by
  have ye0 := ltN e0.lt
  have ye1 := ltN e1.lt
  have ye2 := ltN e2.lt
  have ye3 := ltN e3.lt
  refine Ct.of_go (a0 := a0) g.2.1 pn_1 (L0 := #[.val (.ref a), .val (.ref b)]) (fun m => by first | (simp [entryFrame, mkF, argsToLocals, Value.category, own_rep]; done) | rfl) ?_
  intro p e s m below meth c hown hby hml hret hnm hZ hC hO hsf
  refine Go.aloadN (hb hby D_jdk_42_method_3_code_0) (pc' := 1) rfl rfl rfl ?_
  refine Go.aloadN (hb hby D_jdk_42_method_3_code_1) (pc' := 2) rfl rfl rfl ?_
  refine Go.iconst (hb hby D_jdk_42_method_3_code_2) (pc' := 3) rfl (z := (0 : Int32)) rfl ?_
  refine Go.aloadN (hb hby D_jdk_42_method_3_code_3) (pc' := 4) rfl rfl rfl ?_
  refine Go.alen e3 (z := (cs.length.toInt32)) (by rw [List.length_map]) (hb hby D_jdk_42_method_3_code_4) (pc' := 5) rfl ?_
  refine Go.aconstNull (hb hby D_jdk_42_method_3_code_5) (pc' := 6) rfl ?_
  refine Go.callC (c_strinit4 (l := l) (nw := nw) g h a b kb cs hcs h0 hl ga e0 e1 e2 e3 (by omega)) hown rfl rfl (wd_28 g) (wd_29 g) (wd_31 g) (wd_11 g) (by decide) (argsL := [(.ref b), (.int (0 : Int32)), (.int (cs.length.toInt32)), .null]) (lenOf pd_3 rfl) rfl (by rw [hml]; rfl) (W := 0) rfl (hb hby D_jdk_42_method_3_code_6) (pc' := 9) rfl (by decide) (by decide) (by decide) (by decide) (allS ⟨by omega, (hsf _ (by simp))⟩ all0) ?_
  rintro _ vm1 h1 ⟨d_1, kd_1, rfl, K1, p1_0, o1_0⟩ C1
  have z1 := K1.1
  have yo1_0 := ltN o1_0.lt; have yo1_0' := ltN o1_0.ltb
  -- pc 9
  refine Go.ret hret (hb hby D_jdk_42_method_3_code_9) (by decide) (by decide) ?_
  intro vmR CR
  exact ⟨d_1, kd_1, rfl, ((Keep.refl h [a]).trans K1 (allS (by first | (left; simp; done) | (right; omega)) all0)), (by omega), o1_0⟩
set_option maxRecDepth 65536 in
set_option maxHeartbeats 40000000 in
theorem c_strinit40 {l : Launch} {Z : State} {a0 : Array Value} {EL : List (String × Nat)} {nw : Prop} {zc : Int32} (g : GH Z a0 EL zc) (hnw : ¬ nw) (h : Heap) (a : Addr) (b : Addr) (ga : Z.heap.size ≤ a) (e0 : Exa Z h a "java/lang/String") (e1 : Fld Z h a "java/lang/String" "coder" "B" (.int 0)) (e2 : Fld Z h a "java/lang/String" "value" "[B" .null) (zz : Z.heap.size ≤ h.size) :
    Ct l Z EL nw [] ⟨"java/lang/String", "<init>", "([CIILjava/lang/Void;)V"⟩ jdk_42_method_149_code 6 none ({ frames := 1, cells := 4, slots := 8, locals := 12 } : Room) #[(.ref a), (.ref b), (.int (0 : Int32)), (.int (0 : Int32)), .null] h [a] (fun res vm' h' => ∃ d : Addr, ∃ kd : ClassId, res = none ∧ Keep h h' [a] ∧ St Z h' a d kd []) := by
  have ye0 := ltN e0.lt
  have ye1 := ltN e1.lt
  have ye2 := ltN e2.lt
  refine Ct.of_go (a0 := a0) g.2.1 pn_1 (L0 := #[.val (.ref a), .val (.ref b), .val (.int (0 : Int32)), .val (.int (0 : Int32)), .val .null, .unset]) (fun m => by first | (simp [entryFrame, mkF, argsToLocals, Value.category, own_rep]; done) | rfl) ?_
  intro p e s m below meth c hown hby hml hret hnm hZ hC hO hsf
  refine Go.aloadN (hb hby D_jdk_42_method_149_code_0) (pc' := 1) rfl rfl rfl ?_
  refine Go.initO hown (wd_32 g) (wd_33 g) (wd_34 g) (by rw [hml]; rfl) (hb hby D_jdk_42_method_149_code_1) (by decide) (W := 0) rfl (by decide) (pc' := 4) rfl ?_
  refine Go.iloadN (hb hby D_jdk_42_method_149_code_4) (pc' := 5) rfl rfl ?_
  refine Go.ifN (hb hby D_jdk_42_method_149_code_5) (pc' := 8) rfl (show ¬ (¬ (0 : Int32) = (0 : Int32)) from by decide) ?_
  refine Go.aloadN (hb hby D_jdk_42_method_149_code_8) (pc' := 9) rfl rfl rfl ?_
  refine Go.ldcStr (n0 := 0) (vs := ([] : List Int32).map Value.int) hnw hown (wd_53 g) g.2.2.1 (g.2.2.2.1 _ (by decide)) (by decide) (hb hby D_jdk_42_method_149_code_9) (pc' := 11) rfl (by decide) (by decide) (by decide) (by decide) ?_
  intro vm1 h2 a3 b4 k5 E6 C7 X8 F9 F10 A11 l12 l13 N14
  have KE6 := Keep.ofExt E6; have zE6 := E6.1
  have f15 : St Z h2 a3 b4 k5 [] := ⟨X8, F9, F10, A11, by decide⟩
  refine Go.getF hown (wd_47 g) Via.refl f15.2.2.1 (hb hby D_jdk_42_method_149_code_11) (pc' := 14) rfl ?_
  have f16 : Fld Z h2 a "java/lang/String" "value" "[B" .null := (e2.keep KE6 nin0)
  have f17 : Exa Z h2 a "java/lang/String" := (e0.keep KE6)
  have f18 : Safe Z EL vm1 h2 a := (Safe.to C7 (by omega) (hsf _ (by simp)))
  refine Go.putF hown (wd_47 g) Via.refl f16 f17 (Or.inr ⟨(wd_14 g), rfl, hnm⟩) (wd_12 g) (ty := (.array .byte)) (by decide) rfl rfl (Or.inr f18) (by omega) (hb hby D_jdk_42_method_149_code_14) (pc' := 17) rfl ?_
  intro h19 W20 z22 K21 C23
  have f24 : Fld Z h2 a "java/lang/String" "coder" "B" (.int 0) := (e1.keep KE6 nin0)
  have f25 : Fld Z h19 a "java/lang/String" "coder" "B" (.int 0) := (Fld.other W20 f24 (Or.inr (slot_ne (Or.inr (wd_15 g)) (Or.inr (wd_14 g)) (by decide) (t := .byte) (t' := (.array .byte)) (by decide) (by decide))))
  have f26 : Fld Z h19 a "java/lang/String" "value" "[B" (.ref b4) := (Fld.same W20 f16)
  refine Go.aloadN (hb hby D_jdk_42_method_149_code_17) (pc' := 18) rfl rfl rfl ?_
  refine Go.ldcStr (n0 := 0) (vs := ([] : List Int32).map Value.int) hnw hown (wd_53 g) g.2.2.1 (g.2.2.2.1 _ (by decide)) (by decide) (hb hby D_jdk_42_method_149_code_18) (pc' := 20) rfl (by decide) (by decide) (by decide) (by decide) ?_
  intro vm27 h28 a29 b30 k31 E32 C33 X34 F35 F36 A37 l38 l39 N40
  have KE32 := Keep.ofExt E32; have zE32 := E32.1
  have f41 : St Z h28 a29 b30 k31 [] := ⟨X34, F35, F36, A37, by decide⟩
  refine Go.getF hown (wd_46 g) Via.refl f41.2.1 (hb hby D_jdk_42_method_149_code_20) (pc' := 23) rfl ?_
  have f42 : Fld Z h28 a "java/lang/String" "coder" "B" (.int 0) := (f25.keep KE32 nin0)
  have f43 : Exa Z h28 a "java/lang/String" := ((f17.keep K21).keep KE32)
  have f44 : Safe Z EL vm27 h28 a := (Safe.to C33 (by omega) (Safe.to C23 (by omega) f18))
  refine Go.putF hown (wd_46 g) Via.refl f42 f43 (Or.inr ⟨(wd_15 g), rfl, hnm⟩) (wd_12 g) (ty := .byte) (by decide) (v' := (.int (nar .byte 0))) rfl (by first | rfl | exact fits_nar_byte _ ) (Or.inr f44) (by omega) (hb hby D_jdk_42_method_149_code_23) (pc' := 26) rfl ?_
  intro h45 W46 z48 K47 C49
  have f50 : Fld Z h28 a "java/lang/String" "value" "[B" (.ref b4) := (f26.keep KE32 nin0)
  have f51 : Fld Z h45 a "java/lang/String" "coder" "B" (.int (nar .byte 0)) := (Fld.same W46 f42)
  have f52 : Fld Z h45 a "java/lang/String" "value" "[B" (.ref b4) := (Fld.other W46 f50 (Or.inr (slot_ne (Or.inr (wd_14 g)) (Or.inr (wd_15 g)) (by decide) (t := (.array .byte)) (t' := .byte) (by decide) (by decide))))
  have f54 : Exa Z h45 a "java/lang/String" := (f43.keep K47)
  have f55 : Ar Z h45 b4 k5 .byte ([].map Value.int) := (((f15.2.2.2.1.keep K21 (ninS (Ne.symm (Ar.ne_exa f15.2.2.2.1 (e0.keep KE6) (wd_12 g))) nin0)).keep KE32 nin0).keep K47 (ninS (Ne.symm (Ar.ne_exa ((f15.2.2.2.1.keep K21 (ninS (Ne.symm (Ar.ne_exa f15.2.2.2.1 (e0.keep KE6) (wd_12 g))) nin0)).keep KE32 nin0) (((e0.keep KE6).keep K21).keep KE32) (wd_12 g))) nin0))
  have f53 : St Z h45 a b4 k5 [] := ⟨f54, f51, f52, f55, by decide⟩
  refine Go.ret hret (hb hby D_jdk_42_method_149_code_26) (by decide) (by decide) ?_
  intro vmR CR
  exact ⟨b4, k5, rfl, (((((Keep.refl h [a]).trans KE6 all0).trans K21 (allS (by first | (left; simp; done) | (right; omega)) all0)).trans KE32 all0).trans K47 (allS (by first | (left; simp; done) | (right; omega)) all0)), f53⟩
set_option maxRecDepth 65536 in
set_option maxHeartbeats 40000000 in
theorem c_strinit0 {l : Launch} {Z : State} {a0 : Array Value} {EL : List (String × Nat)} {nw : Prop} {zc : Int32} (g : GH Z a0 EL zc) (hnw : ¬ nw) (h : Heap) (a : Addr) (b : Addr) (kb : ClassId) (ga : Z.heap.size ≤ a) (e0 : Exa Z h a "java/lang/String") (e1 : Fld Z h a "java/lang/String" "coder" "B" (.int 0)) (e2 : Fld Z h a "java/lang/String" "value" "[B" .null) (e3 : Ar Z h b kb .char []) (zz : Z.heap.size ≤ h.size) :
    Ct l Z EL nw [] ⟨"java/lang/String", "<init>", "([C)V"⟩ jdk_42_method_3_code 2 none ({ frames := 2, cells := 4, slots := 8, locals := 29 } : Room) #[(.ref a), (.ref b)] h [a] (fun res vm' h' => ∃ d : Addr, ∃ kd : ClassId, res = none ∧ Keep h h' [a] ∧ St Z h' a d kd []) := by
  have ye0 := ltN e0.lt
  have ye1 := ltN e1.lt
  have ye2 := ltN e2.lt
  have ye3 := ltN e3.lt
  refine Ct.of_go (a0 := a0) g.2.1 pn_1 (L0 := #[.val (.ref a), .val (.ref b)]) (fun m => by first | (simp [entryFrame, mkF, argsToLocals, Value.category, own_rep]; done) | rfl) ?_
  intro p e s m below meth c hown hby hml hret hnm hZ hC hO hsf
  refine Go.aloadN (hb hby D_jdk_42_method_3_code_0) (pc' := 1) rfl rfl rfl ?_
  refine Go.aloadN (hb hby D_jdk_42_method_3_code_1) (pc' := 2) rfl rfl rfl ?_
  refine Go.iconst (hb hby D_jdk_42_method_3_code_2) (pc' := 3) rfl (z := (0 : Int32)) rfl ?_
  refine Go.aloadN (hb hby D_jdk_42_method_3_code_3) (pc' := 4) rfl rfl rfl ?_
  refine Go.alen e3 (z := (0 : Int32)) rfl (hb hby D_jdk_42_method_3_code_4) (pc' := 5) rfl ?_
  refine Go.aconstNull (hb hby D_jdk_42_method_3_code_5) (pc' := 6) rfl ?_
  refine Go.callC (c_strinit40 (l := l) (nw := nw) g hnw h a b (by first | omega | assumption | decide) e0 e1 e2 (by omega)) hown rfl rfl (wd_28 g) (wd_29 g) (wd_31 g) (wd_11 g) (by decide) (argsL := [(.ref b), (.int (0 : Int32)), (.int (0 : Int32)), .null]) (lenOf pd_3 rfl) rfl (by rw [hml]; rfl) (W := 0) rfl (hb hby D_jdk_42_method_3_code_6) (pc' := 9) rfl (by decide) (by decide) (by decide) (by decide) (allS ⟨by omega, (hsf _ (by simp))⟩ all0) ?_
  rintro _ vm1 h1 ⟨d_1, kd_1, rfl, K1, o1_0⟩ C1
  have z1 := K1.1
  have yo1_0 := ltN o1_0.lt; have yo1_0' := ltN o1_0.ltb
  -- pc 9
  refine Go.ret hret (hb hby D_jdk_42_method_3_code_9) (by decide) (by decide) ?_
  intro vmR CR
  exact ⟨d_1, kd_1, rfl, ((Keep.refl h [a]).trans K1 (allS (by first | (left; simp; done) | (right; omega)) all0)), o1_0⟩
set_option maxRecDepth 65536 in
set_option maxHeartbeats 40000000 in
theorem c_l1eq {l : Launch} {Z : State} {a0 : Array Value} {EL : List (String × Nat)} {nw : Prop} {zc : Int32} (g : GH Z a0 EL zc) (h : Heap) (a : Addr) (ka : ClassId) (bs : List Int32) (b : Addr) (kb : ClassId) (cs : List Int32) (hl1 : bs.length < 536870912) (hl2 : cs.length < 536870912) (e0 : Ar Z h a ka .byte (bs.map Value.int)) (e1 : Ar Z h b kb .byte (cs.map Value.int)) (zz : Z.heap.size ≤ h.size) :
    Ct l Z EL nw [] ⟨"java/lang/StringLatin1", "equals", "([B[B)Z"⟩ jdk_43_method_13_code 3 (some .boolean) ({ frames := 0, cells := 0, slots := 0, locals := 0 } : Room) #[(.ref a), (.ref b)] h [] (fun res vm' h' => res = some (.int (bo (bs = cs))) ∧ Keep h h' []) := by
  have ye0 := ltN e0.lt
  have ye1 := ltN e1.lt
  refine Ct.of_go (a0 := a0) g.2.1 pn_2 (L0 := #[.val (.ref a), .val (.ref b), .unset]) (fun m => by first | (simp [entryFrame, mkF, argsToLocals, Value.category, own_rep]; done) | rfl) ?_
  intro p e s m below meth c hown hby hml hret hnm hZ hC hO hsf
  refine Go.aloadN (hb hby D_jdk_43_method_13_code_0) (pc' := 1) rfl rfl rfl ?_
  refine Go.alen e0 (z := (bs.length.toInt32)) (by rw [List.length_map]) (hb hby D_jdk_43_method_13_code_1) (pc' := 2) rfl ?_
  refine Go.aloadN (hb hby D_jdk_43_method_13_code_2) (pc' := 3) rfl rfl rfl ?_
  refine Go.alen e1 (z := (cs.length.toInt32)) (by rw [List.length_map]) (hb hby D_jdk_43_method_13_code_3) (pc' := 4) rfl ?_
  refine Go.icmp (hb hby D_jdk_43_method_13_code_4) (by decide) (pc' := 34) (by decide) (pc2 := 7) rfl (fun (q4 : ¬ (bs.length.toInt32) = (cs.length.toInt32)) => ?_) (fun (q4 : ¬ (¬ (bs.length.toInt32) = (cs.length.toInt32))) => ?_)
  · refine Go.iconst (hb hby D_jdk_43_method_13_code_34) (pc' := 35) rfl (z := (0 : Int32)) rfl ?_
    refine Go.retN (t := .boolean) hret (by simp) (hb hby D_jdk_43_method_13_code_35) (by decide) (by decide) ?_
    intro vmR CR
    exact ⟨(by rw [bo_no (fun z => q4 (by rw [z]))]; rfl), (Keep.refl h [])⟩
  · refine Go.iconst (hb hby D_jdk_43_method_13_code_7) (pc' := 8) rfl (z := (0 : Int32)) rfl ?_
    refine Go.istoreN (hb hby D_jdk_43_method_13_code_8) (pc' := 9) rfl (L' := #[.val (.ref a), .val (.ref b), .val (.int (0 : Int32))]) rfl ?_
    have hlen : bs.length = cs.length := (eq32 (by omega) (by omega)).mp (Classical.not_not.mp q4)
    refine Go.loop (Inv := fun r vmI hI kI nI LI => vmI = s.vm ∧ h = hI ∧ kI = 0 ∧ nI = 0 ∧ ∃ (i : Nat), i + r = bs.length ∧ LI = #[.val (.ref a), .val (.ref b), .val (.int i.toInt32)] ∧ ∀ j, j < i → bs[j]? = cs[j]?) ?_ bs.length _ _ _ _ _ ⟨rfl, rfl, rfl, rfl, 0, Nat.zero_add _, rfl, fun j hj => absurd hj (Nat.not_lt_zero _)⟩
    rintro r vmI hI kI nI LI ⟨rfl, rfl, rfl, rfl, i, hir, rfl, hsame⟩ ih
    have hi31 : i < 2 ^ 31 := by omega
    have hn31 : bs.length < 2 ^ 31 := by omega
    refine Go.iloadN (hb hby D_jdk_43_method_13_code_9) (pc' := 10) rfl rfl ?_
    refine Go.aloadN (hb hby D_jdk_43_method_13_code_10) (pc' := 11) rfl rfl rfl ?_
    refine Go.alen e0 (z := (bs.length.toInt32)) (by rw [List.length_map]) (hb hby D_jdk_43_method_13_code_11) (pc' := 12) rfl ?_
    refine Go.icmp (hb hby D_jdk_43_method_13_code_12) (by decide) (pc' := 32) (by decide) (pc2 := 15) rfl (fun (q12 : ¬ i.toInt32 < (bs.length.toInt32)) => ?_) (fun (q12 : ¬ (¬ i.toInt32 < (bs.length.toInt32))) => ?_)
    · refine Go.iconst (hb hby D_jdk_43_method_13_code_32) (pc' := 33) rfl (z := (1 : Int32)) rfl ?_
      refine Go.retN (t := .boolean) hret (by simp) (hb hby D_jdk_43_method_13_code_33) (by decide) (by decide) ?_
      intro vmR CR
      exact ⟨(by rw [bo_yes (List.ext_getElem? fun j => by by_cases hj : j < i; exact hsame j hj; have : ¬ i < bs.length := fun z => q12 ((lt32 hi31 hn31).mpr z); rw [List.getElem?_eq_none (by omega), List.getElem?_eq_none (by omega)])]; rfl), (Keep.refl h [])⟩
    · refine Go.aloadN (hb hby D_jdk_43_method_13_code_15) (pc' := 16) rfl rfl rfl ?_
      refine Go.iloadN (hb hby D_jdk_43_method_13_code_16) (pc' := 17) rfl rfl ?_
      have hi : i < bs.length := (lt32 hi31 hn31).mp (Classical.not_not.mp q12)
      obtain ⟨x, hx⟩ : ∃ x, bs[i] = x := ⟨_, rfl⟩
      obtain ⟨y, hy⟩ : ∃ y, cs[i]'(hlen ▸ hi) = y := ⟨_, rfl⟩
      refine Go.baload e0 (v := (.int x)) (nneg32 hi31) (by rw [clamp_nat hi31]; simp [hi, hx]) (hb hby D_jdk_43_method_13_code_17) (pc' := 18) rfl ?_
      refine Go.aloadN (hb hby D_jdk_43_method_13_code_18) (pc' := 19) rfl rfl rfl ?_
      refine Go.iloadN (hb hby D_jdk_43_method_13_code_19) (pc' := 20) rfl rfl ?_
      refine Go.baload e1 (v := (.int y)) (nneg32 hi31) (by rw [clamp_nat hi31]; simp [hlen ▸ hi, hy]) (hb hby D_jdk_43_method_13_code_20) (pc' := 21) rfl ?_
      refine Go.icmp (hb hby D_jdk_43_method_13_code_21) (by decide) (pc' := 26) (by decide) (pc2 := 24) rfl (fun (q21 : x = y) => ?_) (fun (q21 : ¬ (x = y)) => ?_)
      · refine Go.iinc (hb hby D_jdk_43_method_13_code_26) (pc' := 29) rfl rfl (L' := #[.val (.ref a), .val (.ref b), .val (.int (i.toInt32 + 1))]) rfl ?_
        refine Go.goto (hb hby D_jdk_43_method_13_code_29) (by decide) (pc' := 9) (by decide) ?_
        rw [succ32 i]
        refine ih (r - 1) _ _ _ _ _ (by omega) ⟨rfl, rfl, rfl, rfl, i + 1, by omega, rfl, fun j hj => ?_⟩
        rcases Nat.lt_succ_iff_lt_or_eq.mp hj with hj | rfl
        · exact hsame j hj
        · rw [List.getElem?_eq_getElem hi, List.getElem?_eq_getElem (hlen ▸ hi), hx, hy, q21]
      · refine Go.iconst (hb hby D_jdk_43_method_13_code_24) (pc' := 25) rfl (z := (0 : Int32)) rfl ?_
        refine Go.retN (t := .boolean) hret (by simp) (hb hby D_jdk_43_method_13_code_25) (by decide) (by decide) ?_
        intro vmR CR
        exact ⟨(by rw [bo_no (fun z => q21 (by subst z; rw [← hx, ← hy]))]; rfl), (Keep.refl h [])⟩
set_option maxRecDepth 65536 in
set_option maxHeartbeats 40000000 in
theorem c_eq {l : Launch} {Z : State} {a0 : Array Value} {EL : List (String × Nat)} {nw : Prop} {zc : Int32} (g : GH Z a0 EL zc) (h : Heap) (a : Addr) (d : Addr) (kd : ClassId) (bs : List Int32) (b : Addr) (f : Addr) (kf : ClassId) (cs : List Int32) (e0 : St Z h a d kd bs) (e1 : St Z h b f kf cs) (zz : Z.heap.size ≤ h.size) :
    Ct l Z EL nw [] ⟨"java/lang/String", "equals", "(Ljava/lang/Object;)Z"⟩ jdk_42_method_66_code 3 (some .boolean) ({ frames := 1, cells := 0, slots := 0, locals := 14 } : Room) #[(.ref a), (.ref b)] h [] (fun res vm' h' => res = some (.int (bo (bs = cs))) ∧ Keep h h' []) := by
  have ye0 := ltN e0.lt; have ye0' := ltN e0.ltb
  have ye1 := ltN e1.lt; have ye1' := ltN e1.ltb
  refine Ct.of_go (a0 := a0) g.2.1 pn_1 (L0 := #[.val (.ref a), .val (.ref b), .unset]) (fun m => by first | (simp [entryFrame, mkF, argsToLocals, Value.category, own_rep]; done) | rfl) ?_
  intro p e s m below meth c hown hby hml hret hnm hZ hC hO hsf
  by_cases hab : a = b
  · subst hab
    refine Go.aloadN (hb hby D_jdk_42_method_66_code_0) (pc' := 1) rfl rfl rfl ?_
    refine Go.aloadN (hb hby D_jdk_42_method_66_code_1) (pc' := 2) rfl rfl rfl ?_
    refine Go.acmpN (hb hby D_jdk_42_method_66_code_2) (pc' := 5) rfl rfl rfl (by simp [XT.acmp]) ?_
    refine Go.iconst (hb hby D_jdk_42_method_66_code_5) (pc' := 6) rfl (z := (1 : Int32)) rfl ?_
    refine Go.retN (t := .boolean) hret (by simp) (hb hby D_jdk_42_method_66_code_6) (by decide) (by decide) ?_
    intro vmR CR
    exact ⟨(by rw [bo_yes (St.uniq e0 e1)]; rfl), (Keep.refl h [])⟩
  · refine Go.aloadN (hb hby D_jdk_42_method_66_code_0) (pc' := 1) rfl rfl rfl ?_
    refine Go.aloadN (hb hby D_jdk_42_method_66_code_1) (pc' := 2) rfl rfl rfl ?_
    refine Go.acmpY (hb hby D_jdk_42_method_66_code_2) (by decide) (pc' := 7) (by decide) rfl rfl (by simp [XT.acmp, hab]) ?_
    refine Go.aloadN (hb hby D_jdk_42_method_66_code_7) (pc' := 8) rfl rfl rfl ?_
    refine Go.instY hown (wd_48 g) (Ins.self e1.1) (hb hby D_jdk_42_method_66_code_8) (pc' := 11) rfl ?_
    refine Go.ifN (hb hby D_jdk_42_method_66_code_11) (pc' := 14) rfl (show ¬ ((1 : Int32) = (0 : Int32)) from by decide) ?_
    refine Go.aloadN (hb hby D_jdk_42_method_66_code_14) (pc' := 15) rfl rfl rfl ?_
    refine Go.castY hown (wd_48 g) (Ins.self e1.1) (hb hby D_jdk_42_method_66_code_15) (pc' := 18) rfl ?_
    refine Go.astoreN (hb hby D_jdk_42_method_66_code_18) (pc' := 19) rfl rfl (L' := #[.val (.ref a), .val (.ref b), .val (.ref b)]) rfl ?_
    refine Go.getS hown (wd_35 g) Via.refl g.2.2.2.2.1 (hb hby D_jdk_42_method_66_code_19) (pc' := 22) rfl ?_
    refine Go.ifN (hb hby D_jdk_42_method_66_code_22) (pc' := 25) rfl g.2.2.2.2.2.1 ?_
    refine Go.aloadN (hb hby D_jdk_42_method_66_code_25) (pc' := 26) rfl rfl rfl ?_
    refine Go.getF hown (wd_46 g) Via.refl e0.2.1 (hb hby D_jdk_42_method_66_code_26) (pc' := 29) rfl ?_
    refine Go.aloadN (hb hby D_jdk_42_method_66_code_29) (pc' := 30) rfl rfl rfl ?_
    refine Go.getF hown (wd_46 g) Via.refl e1.2.1 (hb hby D_jdk_42_method_66_code_30) (pc' := 33) rfl ?_
    refine Go.icmpN (hb hby D_jdk_42_method_66_code_33) (pc' := 36) rfl (fun q => q rfl) ?_
    refine Go.aloadN (hb hby D_jdk_42_method_66_code_36) (pc' := 37) rfl rfl rfl ?_
    refine Go.getF hown (wd_47 g) Via.refl e0.2.2.1 (hb hby D_jdk_42_method_66_code_37) (pc' := 40) rfl ?_
    refine Go.aloadN (hb hby D_jdk_42_method_66_code_40) (pc' := 41) rfl rfl rfl ?_
    refine Go.getF hown (wd_47 g) Via.refl e1.2.2.1 (hb hby D_jdk_42_method_66_code_41) (pc' := 44) rfl ?_
    refine Go.callS (c_l1eq (l := l) (nw := nw) g h d kd bs f kf cs e0.2.2.2.2 e1.2.2.2.2 e0.2.2.2.1 e1.2.2.2.1 (by omega)) hown (wd_49 g) (wd_50 g) (wd_52 g) (wd_51 g) (by decide) (argsL := [(.ref d), (.ref f)]) (lenOf pd_4 rfl) rfl (by rw [hml]; rfl) (W := 0) rfl (hb hby D_jdk_42_method_66_code_44) (pc' := 47) rfl (by decide) (by decide) (by decide) (by decide) all0 ?_
    rintro _ vm1 h1 ⟨rfl, K1⟩ C1
    have z1 := K1.1
    -- pc 47
    refine Go.ifc (hb hby D_jdk_42_method_66_code_47) (by decide) (pc' := 54) (by decide) (pc2 := 50) rfl (fun (q47 : (bo (bs = cs)) = (0 : Int32)) => ?_) (fun (q47 : ¬ ((bo (bs = cs)) = (0 : Int32))) => ?_)
    · refine Go.iconst (hb hby D_jdk_42_method_66_code_54) (pc' := 55) rfl (z := (0 : Int32)) rfl ?_
      refine Go.retN (t := .boolean) hret (by simp) (hb hby D_jdk_42_method_66_code_55) (by decide) (by decide) ?_
      intro vmR CR
      exact ⟨(by first | (rw [bo_yes (bo_ne0.mp q47)]; rfl) | (rw [bo_no (fun z => (bo_ne0.mpr z) q47)]; rfl)), ((Keep.refl h []).trans K1 all0)⟩
    · refine Go.iconst (hb hby D_jdk_42_method_66_code_50) (pc' := 51) rfl (z := (1 : Int32)) rfl ?_
      refine Go.goto (hb hby D_jdk_42_method_66_code_51) (by decide) (pc' := 55) (by decide) ?_
      refine Go.retN (t := .boolean) hret (by simp) (hb hby D_jdk_42_method_66_code_55) (by decide) (by decide) ?_
      intro vmR CR
      exact ⟨(by first | (rw [bo_yes (bo_ne0.mp q47)]; rfl) | (rw [bo_no (fun z => (bo_ne0.mpr z) q47)]; rfl)), ((Keep.refl h []).trans K1 all0)⟩
set_option maxRecDepth 65536 in
set_option maxHeartbeats 40000000 in
theorem c_eqnull {l : Launch} {Z : State} {a0 : Array Value} {EL : List (String × Nat)} {nw : Prop} {zc : Int32} (g : GH Z a0 EL zc) (h : Heap) (a : Addr) (zz : Z.heap.size ≤ h.size) :
    Ct l Z EL nw [] ⟨"java/lang/String", "equals", "(Ljava/lang/Object;)Z"⟩ jdk_42_method_66_code 3 (some .boolean) ({ frames := 0, cells := 0, slots := 0, locals := 0 } : Room) #[(.ref a), .null] h [] (fun res vm' h' => res = some (.int (0 : Int32)) ∧ Keep h h' []) := by
  refine Ct.of_go (a0 := a0) g.2.1 pn_1 (L0 := #[.val (.ref a), .val .null, .unset]) (fun m => by first | (simp [entryFrame, mkF, argsToLocals, Value.category, own_rep]; done) | rfl) ?_
  intro p e s m below meth c hown hby hml hret hnm hZ hC hO hsf
  refine Go.aloadN (hb hby D_jdk_42_method_66_code_0) (pc' := 1) rfl rfl rfl ?_
  refine Go.aloadN (hb hby D_jdk_42_method_66_code_1) (pc' := 2) rfl rfl rfl ?_
  refine Go.acmpY (hb hby D_jdk_42_method_66_code_2) (by decide) (pc' := 7) (by decide) rfl rfl (by simp [XT.acmp]) ?_
  refine Go.aloadN (hb hby D_jdk_42_method_66_code_7) (pc' := 8) rfl rfl rfl ?_
  refine Go.instNull (hb hby D_jdk_42_method_66_code_8) (pc' := 11) rfl ?_
  refine Go.ifY (hb hby D_jdk_42_method_66_code_11) (by decide) (pc' := 54) (by decide) (show (0 : Int32) = (0 : Int32) from by decide) ?_
  refine Go.iconst (hb hby D_jdk_42_method_66_code_54) (pc' := 55) rfl (z := (0 : Int32)) rfl ?_
  refine Go.retN (t := .boolean) hret (by simp) (hb hby D_jdk_42_method_66_code_55) (by decide) (by decide) ?_
  intro vmR CR
  exact ⟨(by first | rfl | (simp only [own_nar]; done) | (congr 2; done)), (Keep.refl h [])⟩
set_option maxRecDepth 65536 in
set_option maxHeartbeats 40000000 in
theorem c_ch {l : Launch} {Z : State} {a0 : Array Value} {EL : List (String × Nat)} {nw : Prop} {zc : Int32} (g : GH Z a0 EL zc) (h : Heap) (n1 : Int32) (ix : Int32) (t : Int32) (bb : Int64) (cc : Int32) (ht : 0 ≤ t.toInt ∧ t.toInt ≤ 255) (zz : Z.heap.size ≤ h.size) :
    Ct l Z EL nw [] ⟨"com/example/kunci/kunci/IdsIsReservedPinLaw", "ch", "(IICJI)C"⟩ method_2_code 8 (some .char) ({ frames := 0, cells := 0, slots := 0, locals := 0 } : Room) #[(.int n1), (.int ix), (.int t), (.long bb), (.int cc)] h [] (fun res vm' h' => ∃ z : Int32, res = some (.int z) ∧ Keep h h' [] ∧ 0 ≤ z.toInt ∧ z.toInt ≤ 255) := by
  refine Ct.of_go (a0 := a0) g.2.1 pn_3 (L0 := #[.val (.int n1), .val (.int ix), .val (.int t), .val (.long bb), .second, .val (.int cc), .unset, .unset]) (fun m => by first | (simp [entryFrame, mkF, argsToLocals, Value.category, own_rep]; done) | rfl) ?_
  intro p e s m below meth c hown hby hml hret hnm hZ hC hO hsf
  refine Go.iloadN (hb hby D_method_2_code_0) (pc' := 1) rfl rfl ?_
  refine Go.iloadN (hb hby D_method_2_code_1) (pc' := 2) rfl rfl ?_
  refine Go.iushr (hb hby D_method_2_code_2) (pc' := 3) rfl ?_
  refine Go.iconst (hb hby D_method_2_code_3) (pc' := 4) rfl (z := (1 : Int32)) rfl ?_
  refine Go.iand (hb hby D_method_2_code_4) (pc' := 5) rfl ?_
  refine Go.ifc (hb hby D_method_2_code_5) (by decide) (pc' := 10) (by decide) (pc2 := 8) rfl (fun (q5 : ((XT.ushr n1 ix) &&& (1 : Int32)) = (0 : Int32)) => ?_) (fun (q5 : ¬ (((XT.ushr n1 ix) &&& (1 : Int32)) = (0 : Int32))) => ?_)
  · refine Go.iloadN (hb hby D_method_2_code_10) (pc' := 11) rfl rfl ?_
    refine Go.bipush (hb hby D_method_2_code_11) (pc' := 13) rfl (z := (8 : Int32)) rfl ?_
    refine Go.icmp (hb hby D_method_2_code_13) (by decide) (pc' := 25) (by decide) (pc2 := 16) rfl (fun (q13 : ¬ ix < (8 : Int32)) => ?_) (fun (q13 : ¬ (¬ ix < (8 : Int32))) => ?_)
    · refine Go.iload (hb hby D_method_2_code_25) (pc' := 27) rfl rfl ?_
      refine Go.i2l (hb hby D_method_2_code_27) (pc' := 28) rfl ?_
      refine Go.lstore (hb hby D_method_2_code_28) (pc' := 30) rfl (L' := #[.val (.int n1), .val (.int ix), .val (.int t), .val (.long bb), .second, .val (.int cc), .val (.long cc.toInt64), .second]) rfl ?_
      refine Go.lload (hb hby D_method_2_code_30) (pc' := 32) rfl rfl ?_
      refine Go.ldc2Long hown (wd_5 g) (hb hby D_method_2_code_32) (pc' := 35) rfl ?_
      refine Go.land (hb hby D_method_2_code_35) (pc' := 36) rfl ?_
      refine Go.l2i (hb hby D_method_2_code_36) (pc' := 37) rfl ?_
      refine Go.i2c (hb hby D_method_2_code_37) (pc' := 38) rfl ?_
      refine Go.retN (t := .char) hret (by simp) (hb hby D_method_2_code_38) (by decide) (by decide) ?_
      intro vmR CR
      exact ⟨(nar .char (nar .char (cc.toInt64 &&& (255 : Int64)).toInt32)), (by first | rfl | (simp only [own_nar]; done) | (congr 2; done)), (Keep.refl h []), (chL _)⟩
    · refine Go.lloadN (hb hby D_method_2_code_16) (pc' := 17) rfl rfl ?_
      refine Go.bipush (hb hby D_method_2_code_17) (pc' := 19) rfl (z := (8 : Int32)) rfl ?_
      refine Go.iloadN (hb hby D_method_2_code_19) (pc' := 20) rfl rfl ?_
      refine Go.imul (hb hby D_method_2_code_20) (pc' := 21) rfl ?_
      refine Go.lushr (hb hby D_method_2_code_21) (pc' := 22) rfl ?_
      refine Go.goto (hb hby D_method_2_code_22) (by decide) (pc' := 28) (by decide) ?_
      refine Go.lstore (hb hby D_method_2_code_28) (pc' := 30) rfl (L' := #[.val (.int n1), .val (.int ix), .val (.int t), .val (.long bb), .second, .val (.int cc), .val (.long (XT.ushrL bb ((8 : Int32) * ix))), .second]) rfl ?_
      refine Go.lload (hb hby D_method_2_code_30) (pc' := 32) rfl rfl ?_
      refine Go.ldc2Long hown (wd_5 g) (hb hby D_method_2_code_32) (pc' := 35) rfl ?_
      refine Go.land (hb hby D_method_2_code_35) (pc' := 36) rfl ?_
      refine Go.l2i (hb hby D_method_2_code_36) (pc' := 37) rfl ?_
      refine Go.i2c (hb hby D_method_2_code_37) (pc' := 38) rfl ?_
      refine Go.retN (t := .char) hret (by simp) (hb hby D_method_2_code_38) (by decide) (by decide) ?_
      intro vmR CR
      exact ⟨(nar .char (nar .char ((XT.ushrL bb ((8 : Int32) * ix)) &&& (255 : Int64)).toInt32)), (by first | rfl | (simp only [own_nar]; done) | (congr 2; done)), (Keep.refl h []), (chL _)⟩
  · refine Go.iloadN (hb hby D_method_2_code_8) (pc' := 9) rfl rfl ?_
    refine Go.retN (t := .char) hret (by simp) (hb hby D_method_2_code_9) (by decide) (by decide) ?_
    intro vmR CR
    exact ⟨(nar .char t), (by first | rfl | (simp only [own_nar]; done) | (congr 2; done)), (Keep.refl h []), (by rw [nch ht]; exact ht)⟩
set_option maxRecDepth 65536 in
set_option maxHeartbeats 40000000 in
theorem c_resnull {l : Launch} {Z : State} {a0 : Array Value} {EL : List (String × Nat)} {nw : Prop} {zc : Int32} (g : GH Z a0 EL zc) (hnw : ¬ nw) (h : Heap) (zz : Z.heap.size ≤ h.size) :
    Ct l Z EL nw [] ⟨"com/example/kunci/kunci/Ids", "isReserved", "(Ljava/lang/String;)Z"⟩ prog_3_method_3_code 1 (some .boolean) ({ frames := 1, cells := 4, slots := 56, locals := 14 } : Room) #[.null] h [] (fun res vm' h' => res = some (.int (0 : Int32)) ∧ Keep h h' []) := by
  refine Ct.of_go (a0 := a0) g.2.1 pn_4 (L0 := #[.val .null]) (fun m => by first | (simp [entryFrame, mkF, argsToLocals, Value.category, own_rep]; done) | rfl) ?_
  intro p e s m below meth c hown hby hml hret hnm hZ hC hO hsf
  refine Go.ldcStr (n0 := 16) (vs := ([(114 : Int32), (111 : Int32), (111 : Int32), (116 : Int32)] : List Int32).map Value.int) hnw hown (wd_10 g) g.2.2.1 (g.2.2.2.1 _ (by decide)) (by decide) (hb hby D_prog_3_method_3_code_0) (pc' := 2) rfl (by decide) (by decide) (by decide) (by decide) ?_
  intro vm1 h2 a3 b4 k5 E6 C7 X8 F9 F10 A11 l12 l13 N14
  have KE6 := Keep.ofExt E6; have zE6 := E6.1
  have f15 : St Z h2 a3 b4 k5 [(114 : Int32), (111 : Int32), (111 : Int32), (116 : Int32)] := ⟨X8, F9, F10, A11, by decide⟩
  refine Go.aloadN (hb hby D_prog_3_method_3_code_2) (pc' := 3) rfl rfl rfl ?_
  refine Go.callV (y0 := ⟨"java/lang/String", "equals", "(Ljava/lang/Object;)Z"⟩) (c_eqnull (l := l) (nw := nw) g h2 a3 (by omega)) hown (wd_18 g) (wd_19 g) (notFace_of_selects (wd_21 g)) (wd_21 g) (wd_20 g) f15.1 (wd_22 g) (wd_11 g) (by decide) (argsL := [.null]) (lenOf pd_5 rfl) rfl (by rw [hml]; rfl) (W := 0) rfl (hb hby D_prog_3_method_3_code_3) (pc' := 6) rfl (by decide) (by decide) (by decide) (by decide) all0 ?_
  rintro _ vm16 h16 ⟨rfl, K16⟩ C16
  have z16 := K16.1
  -- pc 6
  refine Go.ifN (hb hby D_prog_3_method_3_code_6) (pc' := 9) rfl (show ¬ (¬ (0 : Int32) = (0 : Int32)) from by decide) ?_
  refine Go.ldcStr (n0 := 32) (vs := ([(101 : Int32), (118 : Int32), (101 : Int32), (114 : Int32), (121 : Int32), (111 : Int32), (110 : Int32), (101 : Int32)] : List Int32).map Value.int) hnw hown (wd_23 g) g.2.2.1 (g.2.2.2.1 _ (by decide)) (by decide) (hb hby D_prog_3_method_3_code_9) (pc' := 11) rfl (by decide) (by decide) (by decide) (by decide) ?_
  intro vm17 h18 a19 b20 k21 E22 C23 X24 F25 F26 A27 l28 l29 N30
  have KE22 := Keep.ofExt E22; have zE22 := E22.1
  have f31 : St Z h18 a19 b20 k21 [(101 : Int32), (118 : Int32), (101 : Int32), (114 : Int32), (121 : Int32), (111 : Int32), (110 : Int32), (101 : Int32)] := ⟨X24, F25, F26, A27, by decide⟩
  refine Go.aloadN (hb hby D_prog_3_method_3_code_11) (pc' := 12) rfl rfl rfl ?_
  refine Go.callV (y0 := ⟨"java/lang/String", "equals", "(Ljava/lang/Object;)Z"⟩) (c_eqnull (l := l) (nw := nw) g h18 a19 (by omega)) hown (wd_18 g) (wd_19 g) (notFace_of_selects (wd_21 g)) (wd_21 g) (wd_20 g) f31.1 (wd_22 g) (wd_11 g) (by decide) (argsL := [.null]) (lenOf pd_5 rfl) rfl (by rw [hml]; rfl) (W := 0) rfl (hb hby D_prog_3_method_3_code_12) (pc' := 15) rfl (by decide) (by decide) (by decide) (by decide) all0 ?_
  rintro _ vm32 h32 ⟨rfl, K32⟩ C32
  have z32 := K32.1
  -- pc 15
  refine Go.ifY (hb hby D_prog_3_method_3_code_15) (by decide) (pc' := 22) (by decide) (show (0 : Int32) = (0 : Int32) from by decide) ?_
  refine Go.iconst (hb hby D_prog_3_method_3_code_22) (pc' := 23) rfl (z := (0 : Int32)) rfl ?_
  refine Go.retN (t := .boolean) hret (by simp) (hb hby D_prog_3_method_3_code_23) (by decide) (by decide) ?_
  intro vmR CR
  exact ⟨(by first | rfl | (simp only [own_nar]; done) | (congr 2; done)), (((((Keep.refl h []).trans KE6 all0).trans K16 all0).trans KE22 all0).trans K32 all0)⟩
set_option maxRecDepth 65536 in
set_option maxHeartbeats 40000000 in
theorem c_res {l : Launch} {Z : State} {a0 : Array Value} {EL : List (String × Nat)} {nw : Prop} {zc : Int32} (g : GH Z a0 EL zc) (hnw : ¬ nw) (h : Heap) (a : Addr) (d : Addr) (kd : ClassId) (bs : List Int32) (e0 : St Z h a d kd bs) (zz : Z.heap.size ≤ h.size) :
    Ct l Z EL nw [] ⟨"com/example/kunci/kunci/Ids", "isReserved", "(Ljava/lang/String;)Z"⟩ prog_3_method_3_code 1 (some .boolean) ({ frames := 2, cells := 4, slots := 56, locals := 28 } : Room) #[(.ref a)] h [] (fun res vm' h' => res = some (.int (bo (bs = [(114 : Int32), (111 : Int32), (111 : Int32), (116 : Int32)] ∨ bs = [(101 : Int32), (118 : Int32), (101 : Int32), (114 : Int32), (121 : Int32), (111 : Int32), (110 : Int32), (101 : Int32)]))) ∧ Keep h h' []) := by
  have ye0 := ltN e0.lt; have ye0' := ltN e0.ltb
  refine Ct.of_go (a0 := a0) g.2.1 pn_4 (L0 := #[.val (.ref a)]) (fun m => by first | (simp [entryFrame, mkF, argsToLocals, Value.category, own_rep]; done) | rfl) ?_
  intro p e s m below meth c hown hby hml hret hnm hZ hC hO hsf
  refine Go.ldcStr (n0 := 16) (vs := ([(114 : Int32), (111 : Int32), (111 : Int32), (116 : Int32)] : List Int32).map Value.int) hnw hown (wd_10 g) g.2.2.1 (g.2.2.2.1 _ (by decide)) (by decide) (hb hby D_prog_3_method_3_code_0) (pc' := 2) rfl (by decide) (by decide) (by decide) (by decide) ?_
  intro vm1 h2 a3 b4 k5 E6 C7 X8 F9 F10 A11 l12 l13 N14
  have KE6 := Keep.ofExt E6; have zE6 := E6.1
  have f15 : St Z h2 a3 b4 k5 [(114 : Int32), (111 : Int32), (111 : Int32), (116 : Int32)] := ⟨X8, F9, F10, A11, by decide⟩
  refine Go.aloadN (hb hby D_prog_3_method_3_code_2) (pc' := 3) rfl rfl rfl ?_
  have f16 : St Z h2 a d kd bs := (e0.keep KE6 nin0 nin0)
  refine Go.callV (y0 := ⟨"java/lang/String", "equals", "(Ljava/lang/Object;)Z"⟩) (c_eq (l := l) (nw := nw) g h2 a3 b4 k5 [(114 : Int32), (111 : Int32), (111 : Int32), (116 : Int32)] a d kd bs f15 f16 (by omega)) hown (wd_18 g) (wd_19 g) (notFace_of_selects (wd_21 g)) (wd_21 g) (wd_20 g) f15.1 (wd_22 g) (wd_11 g) (by decide) (argsL := [(.ref a)]) (lenOf pd_5 rfl) rfl (by rw [hml]; rfl) (W := 0) rfl (hb hby D_prog_3_method_3_code_3) (pc' := 6) rfl (by decide) (by decide) (by decide) (by decide) all0 ?_
  rintro _ vm17 h17 ⟨rfl, K17⟩ C17
  have z17 := K17.1
  -- pc 6
  refine Go.ifc (hb hby D_prog_3_method_3_code_6) (by decide) (pc' := 18) (by decide) (pc2 := 9) rfl (fun (q6 : ¬ (bo ([(114 : Int32), (111 : Int32), (111 : Int32), (116 : Int32)] = bs)) = (0 : Int32)) => ?_) (fun (q6 : ¬ (¬ (bo ([(114 : Int32), (111 : Int32), (111 : Int32), (116 : Int32)] = bs)) = (0 : Int32))) => ?_)
  · refine Go.iconst (hb hby D_prog_3_method_3_code_18) (pc' := 19) rfl (z := (1 : Int32)) rfl ?_
    refine Go.goto (hb hby D_prog_3_method_3_code_19) (by decide) (pc' := 23) (by decide) ?_
    refine Go.retN (t := .boolean) hret (by simp) (hb hby D_prog_3_method_3_code_23) (by decide) (by decide) ?_
    intro vmR CR
    exact ⟨(by rw [bo_yes (Or.inl (bo_ne0.mp q6).symm)]; rfl), (((Keep.refl h []).trans KE6 all0).trans K17 all0)⟩
  · refine Go.ldcStr (n0 := 32) (vs := ([(101 : Int32), (118 : Int32), (101 : Int32), (114 : Int32), (121 : Int32), (111 : Int32), (110 : Int32), (101 : Int32)] : List Int32).map Value.int) hnw hown (wd_23 g) g.2.2.1 (g.2.2.2.1 _ (by decide)) (by decide) (hb hby D_prog_3_method_3_code_9) (pc' := 11) rfl (by decide) (by decide) (by decide) (by decide) ?_
    intro vm18 h19 a20 b21 k22 E23 C24 X25 F26 F27 A28 l29 l30 N31
    have KE23 := Keep.ofExt E23; have zE23 := E23.1
    have f32 : St Z h19 a20 b21 k22 [(101 : Int32), (118 : Int32), (101 : Int32), (114 : Int32), (121 : Int32), (111 : Int32), (110 : Int32), (101 : Int32)] := ⟨X25, F26, F27, A28, by decide⟩
    refine Go.aloadN (hb hby D_prog_3_method_3_code_11) (pc' := 12) rfl rfl rfl ?_
    have f33 : St Z h19 a d kd bs := ((f16.keep K17 nin0 nin0).keep KE23 nin0 nin0)
    refine Go.callV (y0 := ⟨"java/lang/String", "equals", "(Ljava/lang/Object;)Z"⟩) (c_eq (l := l) (nw := nw) g h19 a20 b21 k22 [(101 : Int32), (118 : Int32), (101 : Int32), (114 : Int32), (121 : Int32), (111 : Int32), (110 : Int32), (101 : Int32)] a d kd bs f32 f33 (by omega)) hown (wd_18 g) (wd_19 g) (notFace_of_selects (wd_21 g)) (wd_21 g) (wd_20 g) f32.1 (wd_22 g) (wd_11 g) (by decide) (argsL := [(.ref a)]) (lenOf pd_5 rfl) rfl (by rw [hml]; rfl) (W := 0) rfl (hb hby D_prog_3_method_3_code_12) (pc' := 15) rfl (by decide) (by decide) (by decide) (by decide) all0 ?_
    rintro _ vm34 h34 ⟨rfl, K34⟩ C34
    have z34 := K34.1
    -- pc 15
    refine Go.ifc (hb hby D_prog_3_method_3_code_15) (by decide) (pc' := 22) (by decide) (pc2 := 18) rfl (fun (q15 : (bo ([(101 : Int32), (118 : Int32), (101 : Int32), (114 : Int32), (121 : Int32), (111 : Int32), (110 : Int32), (101 : Int32)] = bs)) = (0 : Int32)) => ?_) (fun (q15 : ¬ ((bo ([(101 : Int32), (118 : Int32), (101 : Int32), (114 : Int32), (121 : Int32), (111 : Int32), (110 : Int32), (101 : Int32)] = bs)) = (0 : Int32))) => ?_)
    · refine Go.iconst (hb hby D_prog_3_method_3_code_22) (pc' := 23) rfl (z := (0 : Int32)) rfl ?_
      refine Go.retN (t := .boolean) hret (by simp) (hb hby D_prog_3_method_3_code_23) (by decide) (by decide) ?_
      intro vmR CR
      exact ⟨(by rw [bo_no (fun z => z.elim (fun z => q6 (bo_ne0.mpr z.symm)) (fun z => bo_ne0.mpr z.symm q15))]; rfl), (((((Keep.refl h []).trans KE6 all0).trans K17 all0).trans KE23 all0).trans K34 all0)⟩
    · refine Go.iconst (hb hby D_prog_3_method_3_code_18) (pc' := 19) rfl (z := (1 : Int32)) rfl ?_
      refine Go.goto (hb hby D_prog_3_method_3_code_19) (by decide) (pc' := 23) (by decide) ?_
      refine Go.retN (t := .boolean) hret (by simp) (hb hby D_prog_3_method_3_code_23) (by decide) (by decide) ?_
      intro vmR CR
      exact ⟨(by rw [bo_yes (Or.inr (bo_ne0.mp q15).symm)]; rfl), (((((Keep.refl h []).trans KE6 all0).trans K17 all0).trans KE23 all0).trans K34 all0)⟩
set_option maxRecDepth 65536 in
set_option maxHeartbeats 40000000 in
theorem c_law {l : Launch} {Z : State} {a0 : Array Value} {EL : List (String × Nat)} {nw : Prop} {zc : Int32} (g : GH Z a0 EL zc) (hnw : ¬ nw) (ws : List Jvm.Cond) (h : Heap) (i0 : Int32) (i1 : Int32) (i2 : Int64) (i3 : Int32) (zz : Z.heap.size ≤ h.size) :
    Ct l Z EL nw ws x code maxLocals ret room_1 #[(.int i0), (.int i1), (.long i2), (.int i3)] h [] (fun res vm' h' => res = some (.int (1 : Int32)) ∧ Keep h h' []) := by
  refine Ct.of_go (a0 := a0) g.2.1 pn_3 (L0 := #[.val (.int i0), .val (.int i1), .val (.long i2), .second, .val (.int i3), .unset, .unset, .unset, .unset, .unset, .unset, .unset, .unset, .unset, .unset]) (fun m => by first | (simp [entryFrame, mkF, argsToLocals, Value.category, own_rep, maxLocals]; done) | rfl) ?_
  intro p e s m below meth c hown hby hml hret hnm hZ hC hO hsf
  refine Go.iloadN (hb hby at_0) (pc' := 1) rfl rfl ?_
  refine Go.bipush (hb hby at_1) (pc' := 3) rfl (z := (7 : Int32)) rfl ?_
  refine Go.iand (hb hby at_3) (pc' := 4) rfl ?_
  refine Go.istore (hb hby at_4) (pc' := 6) rfl (L' := #[.val (.int i0), .val (.int i1), .val (.long i2), .second, .val (.int i3), .val (.int (i0 &&& (7 : Int32))), .unset, .unset, .unset, .unset, .unset, .unset, .unset, .unset, .unset]) rfl ?_
  generalize hk : (i0 &&& (7 : Int32)) = k
  refine Go.iload (hb hby at_6) (pc' := 8) rfl rfl ?_
  refine Go.iconst (hb hby at_8) (pc' := 9) rfl (z := (2 : Int32)) rfl ?_
  refine Go.icmp (hb hby at_9) (by decide) (pc' := 24) (by decide) (pc2 := 12) rfl (fun (q9 : k = (2 : Int32)) => ?_) (fun (q9 : ¬ (k = (2 : Int32))) => ?_)
  · subst q9
    refine Go.iconst (hb hby at_24) (pc' := 25) rfl (z := (1 : Int32)) rfl ?_
    refine Go.goto (hb hby at_25) (by decide) (pc' := 29) (by decide) ?_
    refine Go.istore (hb hby at_29) (pc' := 31) rfl (L' := #[.val (.int i0), .val (.int i1), .val (.long i2), .second, .val (.int i3), .val (.int (2 : Int32)), .val (.int (1 : Int32)), .unset, .unset, .unset, .unset, .unset, .unset, .unset, .unset]) rfl ?_
    refine Go.bipush (hb hby at_31) (pc' := 33) rfl (z := (9 : Int32)) rfl ?_
    refine Go.newP (ty := .char) rfl (wd_0 g) (hb hby at_33) (pc' := 35) rfl (by decide) (cap := 9) (by decide) (by decide) (by decide) (by decide) ?_
    intro h1 a2 k3 g4 l5 E6 A7 S8 C9
    have KE6 := Keep.ofExt E6; have zE6 := E6.1
    have A7 : Ar Z h1 a2 k3 .char [(.int 0), (.int 0), (.int 0), (.int 0), (.int 0), (.int 0), (.int 0), (.int 0), (.int 0)] := A7
    refine Go.dup (hb hby at_35) (pc' := 36) rfl rfl ?_
    refine Go.iconst (hb hby at_36) (pc' := 37) rfl (z := (0 : Int32)) rfl ?_
    refine Go.bipush (hb hby at_37) (pc' := 39) rfl (z := (114 : Int32)) rfl ?_
    refine Go.castore A7 (by decide) (Nat.lt_of_lt_of_eq (by decide : Int32.toNatClampNeg (0 : Int32) < 9) rfl) (by omega) (hb hby at_39) (pc' := 40) rfl ?_
    intro h10 A11 z12 K13 S14 C15
    have A11 : Ar Z h10 a2 k3 .char [(.int (114 : Int32)), (.int 0), (.int 0), (.int 0), (.int 0), (.int 0), (.int 0), (.int 0), (.int 0)] := A11
    refine Go.dup (hb hby at_40) (pc' := 41) rfl rfl ?_
    refine Go.iconst (hb hby at_41) (pc' := 42) rfl (z := (1 : Int32)) rfl ?_
    refine Go.bipush (hb hby at_42) (pc' := 44) rfl (z := (111 : Int32)) rfl ?_
    refine Go.castore A11 (by decide) (Nat.lt_of_lt_of_eq (by decide : Int32.toNatClampNeg (1 : Int32) < 9) rfl) (by omega) (hb hby at_44) (pc' := 45) rfl ?_
    intro h16 A17 z18 K19 S20 C21
    have A17 : Ar Z h16 a2 k3 .char [(.int (114 : Int32)), (.int (111 : Int32)), (.int 0), (.int 0), (.int 0), (.int 0), (.int 0), (.int 0), (.int 0)] := A17
    refine Go.dup (hb hby at_45) (pc' := 46) rfl rfl ?_
    refine Go.iconst (hb hby at_46) (pc' := 47) rfl (z := (2 : Int32)) rfl ?_
    refine Go.bipush (hb hby at_47) (pc' := 49) rfl (z := (111 : Int32)) rfl ?_
    refine Go.castore A17 (by decide) (Nat.lt_of_lt_of_eq (by decide : Int32.toNatClampNeg (2 : Int32) < 9) rfl) (by omega) (hb hby at_49) (pc' := 50) rfl ?_
    intro h22 A23 z24 K25 S26 C27
    have A23 : Ar Z h22 a2 k3 .char [(.int (114 : Int32)), (.int (111 : Int32)), (.int (111 : Int32)), (.int 0), (.int 0), (.int 0), (.int 0), (.int 0), (.int 0)] := A23
    refine Go.dup (hb hby at_50) (pc' := 51) rfl rfl ?_
    refine Go.iconst (hb hby at_51) (pc' := 52) rfl (z := (3 : Int32)) rfl ?_
    refine Go.bipush (hb hby at_52) (pc' := 54) rfl (z := (116 : Int32)) rfl ?_
    refine Go.castore A23 (by decide) (Nat.lt_of_lt_of_eq (by decide : Int32.toNatClampNeg (3 : Int32) < 9) rfl) (by omega) (hb hby at_54) (pc' := 55) rfl ?_
    intro h28 A29 z30 K31 S32 C33
    have A29 : Ar Z h28 a2 k3 .char [(.int (114 : Int32)), (.int (111 : Int32)), (.int (111 : Int32)), (.int (116 : Int32)), (.int 0), (.int 0), (.int 0), (.int 0), (.int 0)] := A29
    refine Go.dup (hb hby at_55) (pc' := 56) rfl rfl ?_
    refine Go.iconst (hb hby at_56) (pc' := 57) rfl (z := (4 : Int32)) rfl ?_
    refine Go.bipush (hb hby at_57) (pc' := 59) rfl (z := (115 : Int32)) rfl ?_
    refine Go.castore A29 (by decide) (Nat.lt_of_lt_of_eq (by decide : Int32.toNatClampNeg (4 : Int32) < 9) rfl) (by omega) (hb hby at_59) (pc' := 60) rfl ?_
    intro h34 A35 z36 K37 S38 C39
    have A35 : Ar Z h34 a2 k3 .char [(.int (114 : Int32)), (.int (111 : Int32)), (.int (111 : Int32)), (.int (116 : Int32)), (.int (115 : Int32)), (.int 0), (.int 0), (.int 0), (.int 0)] := A35
    refine Go.dup (hb hby at_60) (pc' := 61) rfl rfl ?_
    refine Go.iconst (hb hby at_61) (pc' := 62) rfl (z := (5 : Int32)) rfl ?_
    refine Go.bipush (hb hby at_62) (pc' := 64) rfl (z := (120 : Int32)) rfl ?_
    refine Go.castore A35 (by decide) (Nat.lt_of_lt_of_eq (by decide : Int32.toNatClampNeg (5 : Int32) < 9) rfl) (by omega) (hb hby at_64) (pc' := 65) rfl ?_
    intro h40 A41 z42 K43 S44 C45
    have A41 : Ar Z h40 a2 k3 .char [(.int (114 : Int32)), (.int (111 : Int32)), (.int (111 : Int32)), (.int (116 : Int32)), (.int (115 : Int32)), (.int (120 : Int32)), (.int 0), (.int 0), (.int 0)] := A41
    refine Go.dup (hb hby at_65) (pc' := 66) rfl rfl ?_
    refine Go.bipush (hb hby at_66) (pc' := 68) rfl (z := (6 : Int32)) rfl ?_
    refine Go.bipush (hb hby at_68) (pc' := 70) rfl (z := (120 : Int32)) rfl ?_
    refine Go.castore A41 (by decide) (Nat.lt_of_lt_of_eq (by decide : Int32.toNatClampNeg (6 : Int32) < 9) rfl) (by omega) (hb hby at_70) (pc' := 71) rfl ?_
    intro h46 A47 z48 K49 S50 C51
    have A47 : Ar Z h46 a2 k3 .char [(.int (114 : Int32)), (.int (111 : Int32)), (.int (111 : Int32)), (.int (116 : Int32)), (.int (115 : Int32)), (.int (120 : Int32)), (.int (120 : Int32)), (.int 0), (.int 0)] := A47
    refine Go.dup (hb hby at_71) (pc' := 72) rfl rfl ?_
    refine Go.bipush (hb hby at_72) (pc' := 74) rfl (z := (7 : Int32)) rfl ?_
    refine Go.bipush (hb hby at_74) (pc' := 76) rfl (z := (120 : Int32)) rfl ?_
    refine Go.castore A47 (by decide) (Nat.lt_of_lt_of_eq (by decide : Int32.toNatClampNeg (7 : Int32) < 9) rfl) (by omega) (hb hby at_76) (pc' := 77) rfl ?_
    intro h52 A53 z54 K55 S56 C57
    have A53 : Ar Z h52 a2 k3 .char [(.int (114 : Int32)), (.int (111 : Int32)), (.int (111 : Int32)), (.int (116 : Int32)), (.int (115 : Int32)), (.int (120 : Int32)), (.int (120 : Int32)), (.int (120 : Int32)), (.int 0)] := A53
    refine Go.dup (hb hby at_77) (pc' := 78) rfl rfl ?_
    refine Go.bipush (hb hby at_78) (pc' := 80) rfl (z := (8 : Int32)) rfl ?_
    refine Go.bipush (hb hby at_80) (pc' := 82) rfl (z := (120 : Int32)) rfl ?_
    refine Go.castore A53 (by decide) (Nat.lt_of_lt_of_eq (by decide : Int32.toNatClampNeg (8 : Int32) < 9) rfl) (by omega) (hb hby at_82) (pc' := 83) rfl ?_
    intro h58 A59 z60 K61 S62 C63
    have A59 : Ar Z h58 a2 k3 .char [(.int (114 : Int32)), (.int (111 : Int32)), (.int (111 : Int32)), (.int (116 : Int32)), (.int (115 : Int32)), (.int (120 : Int32)), (.int (120 : Int32)), (.int (120 : Int32)), (.int (120 : Int32))] := A59
    refine Go.astore (hb hby at_83) (pc' := 85) rfl rfl (L' := #[.val (.int i0), .val (.int i1), .val (.long i2), .second, .val (.int i3), .val (.int (2 : Int32)), .val (.int (1 : Int32)), .val (.ref a2), .unset, .unset, .unset, .unset, .unset, .unset, .unset]) rfl ?_
    refine Go.bipush (hb hby at_85) (pc' := 87) rfl (z := (9 : Int32)) rfl ?_
    refine Go.newP (ty := .char) rfl (wd_0 g) (hb hby at_87) (pc' := 89) rfl (by decide) (cap := 9) (by decide) (by decide) (by decide) (by decide) ?_
    intro h64 a65 k66 g67 l68 E69 A70 S71 C72
    have KE69 := Keep.ofExt E69; have zE69 := E69.1
    have A70 : Ar Z h64 a65 k66 .char [(.int 0), (.int 0), (.int 0), (.int 0), (.int 0), (.int 0), (.int 0), (.int 0), (.int 0)] := A70
    refine Go.dup (hb hby at_89) (pc' := 90) rfl rfl ?_
    refine Go.iconst (hb hby at_90) (pc' := 91) rfl (z := (0 : Int32)) rfl ?_
    refine Go.bipush (hb hby at_91) (pc' := 93) rfl (z := (101 : Int32)) rfl ?_
    refine Go.castore A70 (by decide) (Nat.lt_of_lt_of_eq (by decide : Int32.toNatClampNeg (0 : Int32) < 9) rfl) (by omega) (hb hby at_93) (pc' := 94) rfl ?_
    intro h73 A74 z75 K76 S77 C78
    have A74 : Ar Z h73 a65 k66 .char [(.int (101 : Int32)), (.int 0), (.int 0), (.int 0), (.int 0), (.int 0), (.int 0), (.int 0), (.int 0)] := A74
    refine Go.dup (hb hby at_94) (pc' := 95) rfl rfl ?_
    refine Go.iconst (hb hby at_95) (pc' := 96) rfl (z := (1 : Int32)) rfl ?_
    refine Go.bipush (hb hby at_96) (pc' := 98) rfl (z := (118 : Int32)) rfl ?_
    refine Go.castore A74 (by decide) (Nat.lt_of_lt_of_eq (by decide : Int32.toNatClampNeg (1 : Int32) < 9) rfl) (by omega) (hb hby at_98) (pc' := 99) rfl ?_
    intro h79 A80 z81 K82 S83 C84
    have A80 : Ar Z h79 a65 k66 .char [(.int (101 : Int32)), (.int (118 : Int32)), (.int 0), (.int 0), (.int 0), (.int 0), (.int 0), (.int 0), (.int 0)] := A80
    refine Go.dup (hb hby at_99) (pc' := 100) rfl rfl ?_
    refine Go.iconst (hb hby at_100) (pc' := 101) rfl (z := (2 : Int32)) rfl ?_
    refine Go.bipush (hb hby at_101) (pc' := 103) rfl (z := (101 : Int32)) rfl ?_
    refine Go.castore A80 (by decide) (Nat.lt_of_lt_of_eq (by decide : Int32.toNatClampNeg (2 : Int32) < 9) rfl) (by omega) (hb hby at_103) (pc' := 104) rfl ?_
    intro h85 A86 z87 K88 S89 C90
    have A86 : Ar Z h85 a65 k66 .char [(.int (101 : Int32)), (.int (118 : Int32)), (.int (101 : Int32)), (.int 0), (.int 0), (.int 0), (.int 0), (.int 0), (.int 0)] := A86
    refine Go.dup (hb hby at_104) (pc' := 105) rfl rfl ?_
    refine Go.iconst (hb hby at_105) (pc' := 106) rfl (z := (3 : Int32)) rfl ?_
    refine Go.bipush (hb hby at_106) (pc' := 108) rfl (z := (114 : Int32)) rfl ?_
    refine Go.castore A86 (by decide) (Nat.lt_of_lt_of_eq (by decide : Int32.toNatClampNeg (3 : Int32) < 9) rfl) (by omega) (hb hby at_108) (pc' := 109) rfl ?_
    intro h91 A92 z93 K94 S95 C96
    have A92 : Ar Z h91 a65 k66 .char [(.int (101 : Int32)), (.int (118 : Int32)), (.int (101 : Int32)), (.int (114 : Int32)), (.int 0), (.int 0), (.int 0), (.int 0), (.int 0)] := A92
    refine Go.dup (hb hby at_109) (pc' := 110) rfl rfl ?_
    refine Go.iconst (hb hby at_110) (pc' := 111) rfl (z := (4 : Int32)) rfl ?_
    refine Go.bipush (hb hby at_111) (pc' := 113) rfl (z := (121 : Int32)) rfl ?_
    refine Go.castore A92 (by decide) (Nat.lt_of_lt_of_eq (by decide : Int32.toNatClampNeg (4 : Int32) < 9) rfl) (by omega) (hb hby at_113) (pc' := 114) rfl ?_
    intro h97 A98 z99 K100 S101 C102
    have A98 : Ar Z h97 a65 k66 .char [(.int (101 : Int32)), (.int (118 : Int32)), (.int (101 : Int32)), (.int (114 : Int32)), (.int (121 : Int32)), (.int 0), (.int 0), (.int 0), (.int 0)] := A98
    refine Go.dup (hb hby at_114) (pc' := 115) rfl rfl ?_
    refine Go.iconst (hb hby at_115) (pc' := 116) rfl (z := (5 : Int32)) rfl ?_
    refine Go.bipush (hb hby at_116) (pc' := 118) rfl (z := (111 : Int32)) rfl ?_
    refine Go.castore A98 (by decide) (Nat.lt_of_lt_of_eq (by decide : Int32.toNatClampNeg (5 : Int32) < 9) rfl) (by omega) (hb hby at_118) (pc' := 119) rfl ?_
    intro h103 A104 z105 K106 S107 C108
    have A104 : Ar Z h103 a65 k66 .char [(.int (101 : Int32)), (.int (118 : Int32)), (.int (101 : Int32)), (.int (114 : Int32)), (.int (121 : Int32)), (.int (111 : Int32)), (.int 0), (.int 0), (.int 0)] := A104
    refine Go.dup (hb hby at_119) (pc' := 120) rfl rfl ?_
    refine Go.bipush (hb hby at_120) (pc' := 122) rfl (z := (6 : Int32)) rfl ?_
    refine Go.bipush (hb hby at_122) (pc' := 124) rfl (z := (110 : Int32)) rfl ?_
    refine Go.castore A104 (by decide) (Nat.lt_of_lt_of_eq (by decide : Int32.toNatClampNeg (6 : Int32) < 9) rfl) (by omega) (hb hby at_124) (pc' := 125) rfl ?_
    intro h109 A110 z111 K112 S113 C114
    have A110 : Ar Z h109 a65 k66 .char [(.int (101 : Int32)), (.int (118 : Int32)), (.int (101 : Int32)), (.int (114 : Int32)), (.int (121 : Int32)), (.int (111 : Int32)), (.int (110 : Int32)), (.int 0), (.int 0)] := A110
    refine Go.dup (hb hby at_125) (pc' := 126) rfl rfl ?_
    refine Go.bipush (hb hby at_126) (pc' := 128) rfl (z := (7 : Int32)) rfl ?_
    refine Go.bipush (hb hby at_128) (pc' := 130) rfl (z := (101 : Int32)) rfl ?_
    refine Go.castore A110 (by decide) (Nat.lt_of_lt_of_eq (by decide : Int32.toNatClampNeg (7 : Int32) < 9) rfl) (by omega) (hb hby at_130) (pc' := 131) rfl ?_
    intro h115 A116 z117 K118 S119 C120
    have A116 : Ar Z h115 a65 k66 .char [(.int (101 : Int32)), (.int (118 : Int32)), (.int (101 : Int32)), (.int (114 : Int32)), (.int (121 : Int32)), (.int (111 : Int32)), (.int (110 : Int32)), (.int (101 : Int32)), (.int 0)] := A116
    refine Go.dup (hb hby at_131) (pc' := 132) rfl rfl ?_
    refine Go.bipush (hb hby at_132) (pc' := 134) rfl (z := (8 : Int32)) rfl ?_
    refine Go.bipush (hb hby at_134) (pc' := 136) rfl (z := (115 : Int32)) rfl ?_
    refine Go.castore A116 (by decide) (Nat.lt_of_lt_of_eq (by decide : Int32.toNatClampNeg (8 : Int32) < 9) rfl) (by omega) (hb hby at_136) (pc' := 137) rfl ?_
    intro h121 A122 z123 K124 S125 C126
    have A122 : Ar Z h121 a65 k66 .char [(.int (101 : Int32)), (.int (118 : Int32)), (.int (101 : Int32)), (.int (114 : Int32)), (.int (121 : Int32)), (.int (111 : Int32)), (.int (110 : Int32)), (.int (101 : Int32)), (.int (115 : Int32))] := A122
    refine Go.astore (hb hby at_137) (pc' := 139) rfl rfl (L' := #[.val (.int i0), .val (.int i1), .val (.long i2), .second, .val (.int i3), .val (.int (2 : Int32)), .val (.int (1 : Int32)), .val (.ref a2), .val (.ref a65), .unset, .unset, .unset, .unset, .unset, .unset]) rfl ?_
    refine Go.iload (hb hby at_139) (pc' := 141) rfl rfl ?_
    refine Go.ifN (hb hby at_141) (pc' := 144) rfl (show ¬ ((1 : Int32) = (0 : Int32)) from by decide) ?_
    refine Go.aload (hb hby at_144) (pc' := 146) rfl rfl rfl ?_
    refine Go.goto (hb hby at_146) (by decide) (pc' := 151) (by decide) ?_
    refine Go.astore (hb hby at_151) (pc' := 153) rfl rfl (L' := #[.val (.int i0), .val (.int i1), .val (.long i2), .second, .val (.int i3), .val (.int (2 : Int32)), .val (.int (1 : Int32)), .val (.ref a2), .val (.ref a65), .val (.ref a2), .unset, .unset, .unset, .unset, .unset]) rfl ?_
    refine Go.bipush (hb hby at_153) (pc' := 155) rfl (z := (9 : Int32)) rfl ?_
    refine Go.newP (ty := .char) rfl (wd_0 g) (hb hby at_155) (pc' := 157) rfl (by decide) (cap := 9) (by decide) (by decide) (by decide) (by decide) ?_
    intro h127 a128 k129 g130 l131 E132 A133 S134 C135
    have KE132 := Keep.ofExt E132; have zE132 := E132.1
    have A133 : Ar Z h127 a128 k129 .char [(.int 0), (.int 0), (.int 0), (.int 0), (.int 0), (.int 0), (.int 0), (.int 0), (.int 0)] := A133
    refine Go.astore (hb hby at_157) (pc' := 159) rfl rfl (L' := #[.val (.int i0), .val (.int i1), .val (.long i2), .second, .val (.int i3), .val (.int (2 : Int32)), .val (.int (1 : Int32)), .val (.ref a2), .val (.ref a65), .val (.ref a2), .val (.ref a128), .unset, .unset, .unset, .unset]) rfl ?_
    refine Go.aload (hb hby at_159) (pc' := 161) rfl rfl rfl ?_
    refine Go.iconst (hb hby at_161) (pc' := 162) rfl (z := (0 : Int32)) rfl ?_
    refine Go.iloadN (hb hby at_162) (pc' := 163) rfl rfl ?_
    refine Go.iconst (hb hby at_163) (pc' := 164) rfl (z := (0 : Int32)) rfl ?_
    refine Go.aload (hb hby at_164) (pc' := 166) rfl rfl rfl ?_
    refine Go.iconst (hb hby at_166) (pc' := 167) rfl (z := (0 : Int32)) rfl ?_
    have f136 : Ar Z h127 a2 k3 .char [(.int (114 : Int32)), (.int (111 : Int32)), (.int (111 : Int32)), (.int (116 : Int32)), (.int (115 : Int32)), (.int (120 : Int32)), (.int (120 : Int32)), (.int (120 : Int32)), (.int (120 : Int32))] := (((((((((((A59.keep KE69 nin0).keep K76 (ninS (neN (by omega)) nin0)).keep K82 (ninS (neN (by omega)) nin0)).keep K88 (ninS (neN (by omega)) nin0)).keep K94 (ninS (neN (by omega)) nin0)).keep K100 (ninS (neN (by omega)) nin0)).keep K106 (ninS (neN (by omega)) nin0)).keep K112 (ninS (neN (by omega)) nin0)).keep K118 (ninS (neN (by omega)) nin0)).keep K124 (ninS (neN (by omega)) nin0)).keep KE132 nin0)
    refine Go.caload f136 (v := (.int (114 : Int32))) (by decide) rfl (hb hby at_167) (pc' := 168) rfl ?_
    refine Go.lloadN (hb hby at_168) (pc' := 169) rfl rfl ?_
    refine Go.iload (hb hby at_169) (pc' := 171) rfl rfl ?_
    refine Go.callS (c_ch (l := l) (nw := nw) g h127 i1 (0 : Int32) (114 : Int32) i2 i3 (by decide) (by omega)) hown (wd_1 g) (wd_2 g) (wd_4 g) (wd_3 g) (by decide) (argsL := [(.int i1), (.int (0 : Int32)), (.int (114 : Int32)), (.long i2), (.int i3)]) (lenOf pd_6 rfl) rfl (by rw [hml]; rfl) (W := 2) rfl (hb hby at_171) (pc' := 174) rfl (by decide) (by decide) (by decide) (by decide) all0 ?_
    rintro _ vm137 h137 ⟨z_137, rfl, K137, p137_0⟩ C137
    have z137 := K137.1
    -- pc 174
    have f138 : Ar Z h137 a128 k129 .char [(.int 0), (.int 0), (.int 0), (.int 0), (.int 0), (.int 0), (.int 0), (.int 0), (.int 0)] := (A133.keep K137 nin0)
    refine Go.castore f138 (by decide) (Nat.lt_of_lt_of_eq (by decide : Int32.toNatClampNeg (0 : Int32) < 9) rfl) (by omega) (hb hby at_174) (pc' := 175) rfl ?_
    intro h139 A140 z141 K142 S143 C144
    rw [nch p137_0] at A140
    have A140 : Ar Z h139 a128 k129 .char [(.int z_137), (.int 0), (.int 0), (.int 0), (.int 0), (.int 0), (.int 0), (.int 0), (.int 0)] := A140
    refine Go.aload (hb hby at_175) (pc' := 177) rfl rfl rfl ?_
    refine Go.iconst (hb hby at_177) (pc' := 178) rfl (z := (1 : Int32)) rfl ?_
    refine Go.iloadN (hb hby at_178) (pc' := 179) rfl rfl ?_
    refine Go.iconst (hb hby at_179) (pc' := 180) rfl (z := (1 : Int32)) rfl ?_
    refine Go.aload (hb hby at_180) (pc' := 182) rfl rfl rfl ?_
    refine Go.iconst (hb hby at_182) (pc' := 183) rfl (z := (1 : Int32)) rfl ?_
    have f145 : Ar Z h139 a2 k3 .char [(.int (114 : Int32)), (.int (111 : Int32)), (.int (111 : Int32)), (.int (116 : Int32)), (.int (115 : Int32)), (.int (120 : Int32)), (.int (120 : Int32)), (.int (120 : Int32)), (.int (120 : Int32))] := ((f136.keep K137 nin0).keep K142 (ninS (neN (by omega)) nin0))
    refine Go.caload f145 (v := (.int (111 : Int32))) (by decide) rfl (hb hby at_183) (pc' := 184) rfl ?_
    refine Go.lloadN (hb hby at_184) (pc' := 185) rfl rfl ?_
    refine Go.iload (hb hby at_185) (pc' := 187) rfl rfl ?_
    refine Go.callS (c_ch (l := l) (nw := nw) g h139 i1 (1 : Int32) (111 : Int32) i2 i3 (by decide) (by omega)) hown (wd_1 g) (wd_2 g) (wd_4 g) (wd_3 g) (by decide) (argsL := [(.int i1), (.int (1 : Int32)), (.int (111 : Int32)), (.long i2), (.int i3)]) (lenOf pd_6 rfl) rfl (by rw [hml]; rfl) (W := 2) rfl (hb hby at_187) (pc' := 190) rfl (by decide) (by decide) (by decide) (by decide) all0 ?_
    rintro _ vm146 h146 ⟨z_146, rfl, K146, p146_0⟩ C146
    have z146 := K146.1
    -- pc 190
    have f147 : Ar Z h146 a128 k129 .char [(.int z_137), (.int 0), (.int 0), (.int 0), (.int 0), (.int 0), (.int 0), (.int 0), (.int 0)] := (A140.keep K146 nin0)
    refine Go.castore f147 (by decide) (Nat.lt_of_lt_of_eq (by decide : Int32.toNatClampNeg (1 : Int32) < 9) rfl) (by omega) (hb hby at_190) (pc' := 191) rfl ?_
    intro h148 A149 z150 K151 S152 C153
    rw [nch p146_0] at A149
    have A149 : Ar Z h148 a128 k129 .char [(.int z_137), (.int z_146), (.int 0), (.int 0), (.int 0), (.int 0), (.int 0), (.int 0), (.int 0)] := A149
    refine Go.aload (hb hby at_191) (pc' := 193) rfl rfl rfl ?_
    refine Go.iconst (hb hby at_193) (pc' := 194) rfl (z := (2 : Int32)) rfl ?_
    refine Go.iloadN (hb hby at_194) (pc' := 195) rfl rfl ?_
    refine Go.iconst (hb hby at_195) (pc' := 196) rfl (z := (2 : Int32)) rfl ?_
    refine Go.aload (hb hby at_196) (pc' := 198) rfl rfl rfl ?_
    refine Go.iconst (hb hby at_198) (pc' := 199) rfl (z := (2 : Int32)) rfl ?_
    have f154 : Ar Z h148 a2 k3 .char [(.int (114 : Int32)), (.int (111 : Int32)), (.int (111 : Int32)), (.int (116 : Int32)), (.int (115 : Int32)), (.int (120 : Int32)), (.int (120 : Int32)), (.int (120 : Int32)), (.int (120 : Int32))] := ((f145.keep K146 nin0).keep K151 (ninS (neN (by omega)) nin0))
    refine Go.caload f154 (v := (.int (111 : Int32))) (by decide) rfl (hb hby at_199) (pc' := 200) rfl ?_
    refine Go.lloadN (hb hby at_200) (pc' := 201) rfl rfl ?_
    refine Go.iload (hb hby at_201) (pc' := 203) rfl rfl ?_
    refine Go.callS (c_ch (l := l) (nw := nw) g h148 i1 (2 : Int32) (111 : Int32) i2 i3 (by decide) (by omega)) hown (wd_1 g) (wd_2 g) (wd_4 g) (wd_3 g) (by decide) (argsL := [(.int i1), (.int (2 : Int32)), (.int (111 : Int32)), (.long i2), (.int i3)]) (lenOf pd_6 rfl) rfl (by rw [hml]; rfl) (W := 2) rfl (hb hby at_203) (pc' := 206) rfl (by decide) (by decide) (by decide) (by decide) all0 ?_
    rintro _ vm155 h155 ⟨z_155, rfl, K155, p155_0⟩ C155
    have z155 := K155.1
    -- pc 206
    have f156 : Ar Z h155 a128 k129 .char [(.int z_137), (.int z_146), (.int 0), (.int 0), (.int 0), (.int 0), (.int 0), (.int 0), (.int 0)] := (A149.keep K155 nin0)
    refine Go.castore f156 (by decide) (Nat.lt_of_lt_of_eq (by decide : Int32.toNatClampNeg (2 : Int32) < 9) rfl) (by omega) (hb hby at_206) (pc' := 207) rfl ?_
    intro h157 A158 z159 K160 S161 C162
    rw [nch p155_0] at A158
    have A158 : Ar Z h157 a128 k129 .char [(.int z_137), (.int z_146), (.int z_155), (.int 0), (.int 0), (.int 0), (.int 0), (.int 0), (.int 0)] := A158
    refine Go.aload (hb hby at_207) (pc' := 209) rfl rfl rfl ?_
    refine Go.iconst (hb hby at_209) (pc' := 210) rfl (z := (3 : Int32)) rfl ?_
    refine Go.iloadN (hb hby at_210) (pc' := 211) rfl rfl ?_
    refine Go.iconst (hb hby at_211) (pc' := 212) rfl (z := (3 : Int32)) rfl ?_
    refine Go.aload (hb hby at_212) (pc' := 214) rfl rfl rfl ?_
    refine Go.iconst (hb hby at_214) (pc' := 215) rfl (z := (3 : Int32)) rfl ?_
    have f163 : Ar Z h157 a2 k3 .char [(.int (114 : Int32)), (.int (111 : Int32)), (.int (111 : Int32)), (.int (116 : Int32)), (.int (115 : Int32)), (.int (120 : Int32)), (.int (120 : Int32)), (.int (120 : Int32)), (.int (120 : Int32))] := ((f154.keep K155 nin0).keep K160 (ninS (neN (by omega)) nin0))
    refine Go.caload f163 (v := (.int (116 : Int32))) (by decide) rfl (hb hby at_215) (pc' := 216) rfl ?_
    refine Go.lloadN (hb hby at_216) (pc' := 217) rfl rfl ?_
    refine Go.iload (hb hby at_217) (pc' := 219) rfl rfl ?_
    refine Go.callS (c_ch (l := l) (nw := nw) g h157 i1 (3 : Int32) (116 : Int32) i2 i3 (by decide) (by omega)) hown (wd_1 g) (wd_2 g) (wd_4 g) (wd_3 g) (by decide) (argsL := [(.int i1), (.int (3 : Int32)), (.int (116 : Int32)), (.long i2), (.int i3)]) (lenOf pd_6 rfl) rfl (by rw [hml]; rfl) (W := 2) rfl (hb hby at_219) (pc' := 222) rfl (by decide) (by decide) (by decide) (by decide) all0 ?_
    rintro _ vm164 h164 ⟨z_164, rfl, K164, p164_0⟩ C164
    have z164 := K164.1
    -- pc 222
    have f165 : Ar Z h164 a128 k129 .char [(.int z_137), (.int z_146), (.int z_155), (.int 0), (.int 0), (.int 0), (.int 0), (.int 0), (.int 0)] := (A158.keep K164 nin0)
    refine Go.castore f165 (by decide) (Nat.lt_of_lt_of_eq (by decide : Int32.toNatClampNeg (3 : Int32) < 9) rfl) (by omega) (hb hby at_222) (pc' := 223) rfl ?_
    intro h166 A167 z168 K169 S170 C171
    rw [nch p164_0] at A167
    have A167 : Ar Z h166 a128 k129 .char [(.int z_137), (.int z_146), (.int z_155), (.int z_164), (.int 0), (.int 0), (.int 0), (.int 0), (.int 0)] := A167
    refine Go.aload (hb hby at_223) (pc' := 225) rfl rfl rfl ?_
    refine Go.iconst (hb hby at_225) (pc' := 226) rfl (z := (4 : Int32)) rfl ?_
    refine Go.iloadN (hb hby at_226) (pc' := 227) rfl rfl ?_
    refine Go.iconst (hb hby at_227) (pc' := 228) rfl (z := (4 : Int32)) rfl ?_
    refine Go.aload (hb hby at_228) (pc' := 230) rfl rfl rfl ?_
    refine Go.iconst (hb hby at_230) (pc' := 231) rfl (z := (4 : Int32)) rfl ?_
    have f172 : Ar Z h166 a2 k3 .char [(.int (114 : Int32)), (.int (111 : Int32)), (.int (111 : Int32)), (.int (116 : Int32)), (.int (115 : Int32)), (.int (120 : Int32)), (.int (120 : Int32)), (.int (120 : Int32)), (.int (120 : Int32))] := ((f163.keep K164 nin0).keep K169 (ninS (neN (by omega)) nin0))
    refine Go.caload f172 (v := (.int (115 : Int32))) (by decide) rfl (hb hby at_231) (pc' := 232) rfl ?_
    refine Go.lloadN (hb hby at_232) (pc' := 233) rfl rfl ?_
    refine Go.iload (hb hby at_233) (pc' := 235) rfl rfl ?_
    refine Go.callS (c_ch (l := l) (nw := nw) g h166 i1 (4 : Int32) (115 : Int32) i2 i3 (by decide) (by omega)) hown (wd_1 g) (wd_2 g) (wd_4 g) (wd_3 g) (by decide) (argsL := [(.int i1), (.int (4 : Int32)), (.int (115 : Int32)), (.long i2), (.int i3)]) (lenOf pd_6 rfl) rfl (by rw [hml]; rfl) (W := 2) rfl (hb hby at_235) (pc' := 238) rfl (by decide) (by decide) (by decide) (by decide) all0 ?_
    rintro _ vm173 h173 ⟨z_173, rfl, K173, p173_0⟩ C173
    have z173 := K173.1
    -- pc 238
    have f174 : Ar Z h173 a128 k129 .char [(.int z_137), (.int z_146), (.int z_155), (.int z_164), (.int 0), (.int 0), (.int 0), (.int 0), (.int 0)] := (A167.keep K173 nin0)
    refine Go.castore f174 (by decide) (Nat.lt_of_lt_of_eq (by decide : Int32.toNatClampNeg (4 : Int32) < 9) rfl) (by omega) (hb hby at_238) (pc' := 239) rfl ?_
    intro h175 A176 z177 K178 S179 C180
    rw [nch p173_0] at A176
    have A176 : Ar Z h175 a128 k129 .char [(.int z_137), (.int z_146), (.int z_155), (.int z_164), (.int z_173), (.int 0), (.int 0), (.int 0), (.int 0)] := A176
    refine Go.aload (hb hby at_239) (pc' := 241) rfl rfl rfl ?_
    refine Go.iconst (hb hby at_241) (pc' := 242) rfl (z := (5 : Int32)) rfl ?_
    refine Go.iloadN (hb hby at_242) (pc' := 243) rfl rfl ?_
    refine Go.iconst (hb hby at_243) (pc' := 244) rfl (z := (5 : Int32)) rfl ?_
    refine Go.aload (hb hby at_244) (pc' := 246) rfl rfl rfl ?_
    refine Go.iconst (hb hby at_246) (pc' := 247) rfl (z := (5 : Int32)) rfl ?_
    have f181 : Ar Z h175 a2 k3 .char [(.int (114 : Int32)), (.int (111 : Int32)), (.int (111 : Int32)), (.int (116 : Int32)), (.int (115 : Int32)), (.int (120 : Int32)), (.int (120 : Int32)), (.int (120 : Int32)), (.int (120 : Int32))] := ((f172.keep K173 nin0).keep K178 (ninS (neN (by omega)) nin0))
    refine Go.caload f181 (v := (.int (120 : Int32))) (by decide) rfl (hb hby at_247) (pc' := 248) rfl ?_
    refine Go.lloadN (hb hby at_248) (pc' := 249) rfl rfl ?_
    refine Go.iload (hb hby at_249) (pc' := 251) rfl rfl ?_
    refine Go.callS (c_ch (l := l) (nw := nw) g h175 i1 (5 : Int32) (120 : Int32) i2 i3 (by decide) (by omega)) hown (wd_1 g) (wd_2 g) (wd_4 g) (wd_3 g) (by decide) (argsL := [(.int i1), (.int (5 : Int32)), (.int (120 : Int32)), (.long i2), (.int i3)]) (lenOf pd_6 rfl) rfl (by rw [hml]; rfl) (W := 2) rfl (hb hby at_251) (pc' := 254) rfl (by decide) (by decide) (by decide) (by decide) all0 ?_
    rintro _ vm182 h182 ⟨z_182, rfl, K182, p182_0⟩ C182
    have z182 := K182.1
    -- pc 254
    have f183 : Ar Z h182 a128 k129 .char [(.int z_137), (.int z_146), (.int z_155), (.int z_164), (.int z_173), (.int 0), (.int 0), (.int 0), (.int 0)] := (A176.keep K182 nin0)
    refine Go.castore f183 (by decide) (Nat.lt_of_lt_of_eq (by decide : Int32.toNatClampNeg (5 : Int32) < 9) rfl) (by omega) (hb hby at_254) (pc' := 255) rfl ?_
    intro h184 A185 z186 K187 S188 C189
    rw [nch p182_0] at A185
    have A185 : Ar Z h184 a128 k129 .char [(.int z_137), (.int z_146), (.int z_155), (.int z_164), (.int z_173), (.int z_182), (.int 0), (.int 0), (.int 0)] := A185
    refine Go.aload (hb hby at_255) (pc' := 257) rfl rfl rfl ?_
    refine Go.bipush (hb hby at_257) (pc' := 259) rfl (z := (6 : Int32)) rfl ?_
    refine Go.iloadN (hb hby at_259) (pc' := 260) rfl rfl ?_
    refine Go.bipush (hb hby at_260) (pc' := 262) rfl (z := (6 : Int32)) rfl ?_
    refine Go.aload (hb hby at_262) (pc' := 264) rfl rfl rfl ?_
    refine Go.bipush (hb hby at_264) (pc' := 266) rfl (z := (6 : Int32)) rfl ?_
    have f190 : Ar Z h184 a2 k3 .char [(.int (114 : Int32)), (.int (111 : Int32)), (.int (111 : Int32)), (.int (116 : Int32)), (.int (115 : Int32)), (.int (120 : Int32)), (.int (120 : Int32)), (.int (120 : Int32)), (.int (120 : Int32))] := ((f181.keep K182 nin0).keep K187 (ninS (neN (by omega)) nin0))
    refine Go.caload f190 (v := (.int (120 : Int32))) (by decide) rfl (hb hby at_266) (pc' := 267) rfl ?_
    refine Go.lloadN (hb hby at_267) (pc' := 268) rfl rfl ?_
    refine Go.iload (hb hby at_268) (pc' := 270) rfl rfl ?_
    refine Go.callS (c_ch (l := l) (nw := nw) g h184 i1 (6 : Int32) (120 : Int32) i2 i3 (by decide) (by omega)) hown (wd_1 g) (wd_2 g) (wd_4 g) (wd_3 g) (by decide) (argsL := [(.int i1), (.int (6 : Int32)), (.int (120 : Int32)), (.long i2), (.int i3)]) (lenOf pd_6 rfl) rfl (by rw [hml]; rfl) (W := 2) rfl (hb hby at_270) (pc' := 273) rfl (by decide) (by decide) (by decide) (by decide) all0 ?_
    rintro _ vm191 h191 ⟨z_191, rfl, K191, p191_0⟩ C191
    have z191 := K191.1
    -- pc 273
    have f192 : Ar Z h191 a128 k129 .char [(.int z_137), (.int z_146), (.int z_155), (.int z_164), (.int z_173), (.int z_182), (.int 0), (.int 0), (.int 0)] := (A185.keep K191 nin0)
    refine Go.castore f192 (by decide) (Nat.lt_of_lt_of_eq (by decide : Int32.toNatClampNeg (6 : Int32) < 9) rfl) (by omega) (hb hby at_273) (pc' := 274) rfl ?_
    intro h193 A194 z195 K196 S197 C198
    rw [nch p191_0] at A194
    have A194 : Ar Z h193 a128 k129 .char [(.int z_137), (.int z_146), (.int z_155), (.int z_164), (.int z_173), (.int z_182), (.int z_191), (.int 0), (.int 0)] := A194
    refine Go.aload (hb hby at_274) (pc' := 276) rfl rfl rfl ?_
    refine Go.bipush (hb hby at_276) (pc' := 278) rfl (z := (7 : Int32)) rfl ?_
    refine Go.iloadN (hb hby at_278) (pc' := 279) rfl rfl ?_
    refine Go.bipush (hb hby at_279) (pc' := 281) rfl (z := (7 : Int32)) rfl ?_
    refine Go.aload (hb hby at_281) (pc' := 283) rfl rfl rfl ?_
    refine Go.bipush (hb hby at_283) (pc' := 285) rfl (z := (7 : Int32)) rfl ?_
    have f199 : Ar Z h193 a2 k3 .char [(.int (114 : Int32)), (.int (111 : Int32)), (.int (111 : Int32)), (.int (116 : Int32)), (.int (115 : Int32)), (.int (120 : Int32)), (.int (120 : Int32)), (.int (120 : Int32)), (.int (120 : Int32))] := ((f190.keep K191 nin0).keep K196 (ninS (neN (by omega)) nin0))
    refine Go.caload f199 (v := (.int (120 : Int32))) (by decide) rfl (hb hby at_285) (pc' := 286) rfl ?_
    refine Go.lloadN (hb hby at_286) (pc' := 287) rfl rfl ?_
    refine Go.iload (hb hby at_287) (pc' := 289) rfl rfl ?_
    refine Go.callS (c_ch (l := l) (nw := nw) g h193 i1 (7 : Int32) (120 : Int32) i2 i3 (by decide) (by omega)) hown (wd_1 g) (wd_2 g) (wd_4 g) (wd_3 g) (by decide) (argsL := [(.int i1), (.int (7 : Int32)), (.int (120 : Int32)), (.long i2), (.int i3)]) (lenOf pd_6 rfl) rfl (by rw [hml]; rfl) (W := 2) rfl (hb hby at_289) (pc' := 292) rfl (by decide) (by decide) (by decide) (by decide) all0 ?_
    rintro _ vm200 h200 ⟨z_200, rfl, K200, p200_0⟩ C200
    have z200 := K200.1
    -- pc 292
    have f201 : Ar Z h200 a128 k129 .char [(.int z_137), (.int z_146), (.int z_155), (.int z_164), (.int z_173), (.int z_182), (.int z_191), (.int 0), (.int 0)] := (A194.keep K200 nin0)
    refine Go.castore f201 (by decide) (Nat.lt_of_lt_of_eq (by decide : Int32.toNatClampNeg (7 : Int32) < 9) rfl) (by omega) (hb hby at_292) (pc' := 293) rfl ?_
    intro h202 A203 z204 K205 S206 C207
    rw [nch p200_0] at A203
    have A203 : Ar Z h202 a128 k129 .char [(.int z_137), (.int z_146), (.int z_155), (.int z_164), (.int z_173), (.int z_182), (.int z_191), (.int z_200), (.int 0)] := A203
    refine Go.aload (hb hby at_293) (pc' := 295) rfl rfl rfl ?_
    refine Go.bipush (hb hby at_295) (pc' := 297) rfl (z := (8 : Int32)) rfl ?_
    refine Go.iloadN (hb hby at_297) (pc' := 298) rfl rfl ?_
    refine Go.bipush (hb hby at_298) (pc' := 300) rfl (z := (8 : Int32)) rfl ?_
    refine Go.aload (hb hby at_300) (pc' := 302) rfl rfl rfl ?_
    refine Go.bipush (hb hby at_302) (pc' := 304) rfl (z := (8 : Int32)) rfl ?_
    have f208 : Ar Z h202 a2 k3 .char [(.int (114 : Int32)), (.int (111 : Int32)), (.int (111 : Int32)), (.int (116 : Int32)), (.int (115 : Int32)), (.int (120 : Int32)), (.int (120 : Int32)), (.int (120 : Int32)), (.int (120 : Int32))] := ((f199.keep K200 nin0).keep K205 (ninS (neN (by omega)) nin0))
    refine Go.caload f208 (v := (.int (120 : Int32))) (by decide) rfl (hb hby at_304) (pc' := 305) rfl ?_
    refine Go.lloadN (hb hby at_305) (pc' := 306) rfl rfl ?_
    refine Go.iload (hb hby at_306) (pc' := 308) rfl rfl ?_
    refine Go.callS (c_ch (l := l) (nw := nw) g h202 i1 (8 : Int32) (120 : Int32) i2 i3 (by decide) (by omega)) hown (wd_1 g) (wd_2 g) (wd_4 g) (wd_3 g) (by decide) (argsL := [(.int i1), (.int (8 : Int32)), (.int (120 : Int32)), (.long i2), (.int i3)]) (lenOf pd_6 rfl) rfl (by rw [hml]; rfl) (W := 2) rfl (hb hby at_308) (pc' := 311) rfl (by decide) (by decide) (by decide) (by decide) all0 ?_
    rintro _ vm209 h209 ⟨z_209, rfl, K209, p209_0⟩ C209
    have z209 := K209.1
    -- pc 311
    have f210 : Ar Z h209 a128 k129 .char [(.int z_137), (.int z_146), (.int z_155), (.int z_164), (.int z_173), (.int z_182), (.int z_191), (.int z_200), (.int 0)] := (A203.keep K209 nin0)
    refine Go.castore f210 (by decide) (Nat.lt_of_lt_of_eq (by decide : Int32.toNatClampNeg (8 : Int32) < 9) rfl) (by omega) (hb hby at_311) (pc' := 312) rfl ?_
    intro h211 A212 z213 K214 S215 C216
    rw [nch p209_0] at A212
    have A212 : Ar Z h211 a128 k129 .char [(.int z_137), (.int z_146), (.int z_155), (.int z_164), (.int z_173), (.int z_182), (.int z_191), (.int z_200), (.int z_209)] := A212
    refine Go.iload (hb hby at_312) (pc' := 314) rfl rfl ?_
    refine Go.ifY (hb hby at_314) (by decide) (pc' := 323) (by decide) (show ¬ (2 : Int32) = (0 : Int32) from by decide) ?_
    refine Go.iload (hb hby at_323) (pc' := 325) rfl rfl ?_
    refine Go.iconst (hb hby at_325) (pc' := 326) rfl (z := (1 : Int32)) rfl ?_
    refine Go.icmpY (hb hby at_326) (by decide) (pc' := 344) (by decide) (show ¬ (2 : Int32) = (1 : Int32) from by decide) ?_
    refine Go.iload (hb hby at_344) (pc' := 346) rfl rfl ?_
    refine Go.iconst (hb hby at_346) (pc' := 347) rfl (z := (2 : Int32)) rfl ?_
    refine Go.icmpN (hb hby at_347) (pc' := 350) rfl (show ¬ (¬ (2 : Int32) = (2 : Int32)) from by decide) ?_
    refine Go.newO hown (wd_24 g) (wd_12 g) (wd_11 g) (hb hby at_350) (pc' := 353) rfl (by decide) (by decide) ?_
    intro h217 a218 g219 l220 E221 X222 D223 S224 C225
    have KE221 := Keep.ofExt E221; have zE221 := E221.1
    have f226 : Fld Z h217 a218 "java/lang/String" "value" "[B" .null := D223 (Or.inr (wd_14 g)) (ty := (.array .byte)) (by decide)
    have f227 : Fld Z h217 a218 "java/lang/String" "coder" "B" (.int 0) := D223 (Or.inr (wd_15 g)) (ty := .byte) (by decide)
    refine Go.dup (hb hby at_353) (pc' := 354) rfl rfl ?_
    refine Go.iconst (hb hby at_354) (pc' := 355) rfl (z := (4 : Int32)) rfl ?_
    refine Go.newP (ty := .char) rfl (wd_0 g) (hb hby at_355) (pc' := 357) rfl (by decide) (cap := 4) (by decide) (by decide) (by decide) (by decide) ?_
    intro h228 a229 k230 g231 l232 E233 A234 S235 C236
    have KE233 := Keep.ofExt E233; have zE233 := E233.1
    have A234 : Ar Z h228 a229 k230 .char [(.int 0), (.int 0), (.int 0), (.int 0)] := A234
    refine Go.dup (hb hby at_357) (pc' := 358) rfl rfl ?_
    refine Go.iconst (hb hby at_358) (pc' := 359) rfl (z := (0 : Int32)) rfl ?_
    refine Go.aload (hb hby at_359) (pc' := 361) rfl rfl rfl ?_
    refine Go.iconst (hb hby at_361) (pc' := 362) rfl (z := (0 : Int32)) rfl ?_
    have f237 : Ar Z h228 a128 k129 .char [(.int z_137), (.int z_146), (.int z_155), (.int z_164), (.int z_173), (.int z_182), (.int z_191), (.int z_200), (.int z_209)] := ((A212.keep KE221 nin0).keep KE233 nin0)
    refine Go.caload f237 (v := (.int z_137)) (by decide) rfl (hb hby at_362) (pc' := 363) rfl ?_
    refine Go.castore A234 (by decide) (Nat.lt_of_lt_of_eq (by decide : Int32.toNatClampNeg (0 : Int32) < 4) rfl) (by omega) (hb hby at_363) (pc' := 364) rfl ?_
    intro h238 A239 z240 K241 S242 C243
    rw [nch p137_0] at A239
    have A239 : Ar Z h238 a229 k230 .char [(.int z_137), (.int 0), (.int 0), (.int 0)] := A239
    refine Go.dup (hb hby at_364) (pc' := 365) rfl rfl ?_
    refine Go.iconst (hb hby at_365) (pc' := 366) rfl (z := (1 : Int32)) rfl ?_
    refine Go.aload (hb hby at_366) (pc' := 368) rfl rfl rfl ?_
    refine Go.iconst (hb hby at_368) (pc' := 369) rfl (z := (1 : Int32)) rfl ?_
    have f244 : Ar Z h238 a128 k129 .char [(.int z_137), (.int z_146), (.int z_155), (.int z_164), (.int z_173), (.int z_182), (.int z_191), (.int z_200), (.int z_209)] := (f237.keep K241 (ninS (neN (by omega)) nin0))
    refine Go.caload f244 (v := (.int z_146)) (by decide) rfl (hb hby at_369) (pc' := 370) rfl ?_
    refine Go.castore A239 (by decide) (Nat.lt_of_lt_of_eq (by decide : Int32.toNatClampNeg (1 : Int32) < 4) rfl) (by omega) (hb hby at_370) (pc' := 371) rfl ?_
    intro h245 A246 z247 K248 S249 C250
    rw [nch p146_0] at A246
    have A246 : Ar Z h245 a229 k230 .char [(.int z_137), (.int z_146), (.int 0), (.int 0)] := A246
    refine Go.dup (hb hby at_371) (pc' := 372) rfl rfl ?_
    refine Go.iconst (hb hby at_372) (pc' := 373) rfl (z := (2 : Int32)) rfl ?_
    refine Go.aload (hb hby at_373) (pc' := 375) rfl rfl rfl ?_
    refine Go.iconst (hb hby at_375) (pc' := 376) rfl (z := (2 : Int32)) rfl ?_
    have f251 : Ar Z h245 a128 k129 .char [(.int z_137), (.int z_146), (.int z_155), (.int z_164), (.int z_173), (.int z_182), (.int z_191), (.int z_200), (.int z_209)] := (f244.keep K248 (ninS (neN (by omega)) nin0))
    refine Go.caload f251 (v := (.int z_155)) (by decide) rfl (hb hby at_376) (pc' := 377) rfl ?_
    refine Go.castore A246 (by decide) (Nat.lt_of_lt_of_eq (by decide : Int32.toNatClampNeg (2 : Int32) < 4) rfl) (by omega) (hb hby at_377) (pc' := 378) rfl ?_
    intro h252 A253 z254 K255 S256 C257
    rw [nch p155_0] at A253
    have A253 : Ar Z h252 a229 k230 .char [(.int z_137), (.int z_146), (.int z_155), (.int 0)] := A253
    refine Go.dup (hb hby at_378) (pc' := 379) rfl rfl ?_
    refine Go.iconst (hb hby at_379) (pc' := 380) rfl (z := (3 : Int32)) rfl ?_
    refine Go.aload (hb hby at_380) (pc' := 382) rfl rfl rfl ?_
    refine Go.iconst (hb hby at_382) (pc' := 383) rfl (z := (3 : Int32)) rfl ?_
    have f258 : Ar Z h252 a128 k129 .char [(.int z_137), (.int z_146), (.int z_155), (.int z_164), (.int z_173), (.int z_182), (.int z_191), (.int z_200), (.int z_209)] := (f251.keep K255 (ninS (neN (by omega)) nin0))
    refine Go.caload f258 (v := (.int z_164)) (by decide) rfl (hb hby at_383) (pc' := 384) rfl ?_
    refine Go.castore A253 (by decide) (Nat.lt_of_lt_of_eq (by decide : Int32.toNatClampNeg (3 : Int32) < 4) rfl) (by omega) (hb hby at_384) (pc' := 385) rfl ?_
    intro h259 A260 z261 K262 S263 C264
    rw [nch p164_0] at A260
    have A260 : Ar Z h259 a229 k230 .char [(.int z_137), (.int z_146), (.int z_155), (.int z_164)] := A260
    have f265 : Exa Z h259 a218 "java/lang/String" := (((((X222.keep KE233).keep K241).keep K248).keep K255).keep K262)
    have f266 : Fld Z h259 a218 "java/lang/String" "coder" "B" (.int 0) := (((((f227.keep KE233 nin0).keep K241 (ninS (neN (by omega)) nin0)).keep K248 (ninS (neN (by omega)) nin0)).keep K255 (ninS (neN (by omega)) nin0)).keep K262 (ninS (neN (by omega)) nin0))
    have f267 : Fld Z h259 a218 "java/lang/String" "value" "[B" .null := (((((f226.keep KE233 nin0).keep K241 (ninS (neN (by omega)) nin0)).keep K248 (ninS (neN (by omega)) nin0)).keep K255 (ninS (neN (by omega)) nin0)).keep K262 (ninS (neN (by omega)) nin0))
    have f268 : Safe Z EL vm209 h259 a218 := (Safe.to C264 (by omega) (Safe.to C257 (by omega) (Safe.to C250 (by omega) (Safe.to C243 (by omega) (Safe.to C236 (by omega) S224)))))
    refine Go.callC (c_strinit (l := l) (nw := nw) g h259 a218 a229 k230 [z_137, z_146, z_155, z_164] (alS p137_0 (alS p146_0 (alS p155_0 (alS p164_0 al0)))) (by simp) (by simp) (by first | omega | assumption | decide) f265 f266 f267 A260 (by omega)) hown rfl rfl (wd_25 g) (wd_26 g) (wd_27 g) (wd_11 g) (by decide) (argsL := [(.ref a229)]) (lenOf pd_7 rfl) rfl (by rw [hml]; rfl) (W := 1) rfl (hb hby at_385) (pc' := 388) rfl (by decide) (by decide) (by decide) (by decide) (allS ⟨by omega, f268⟩ all0) ?_
    rintro _ vm269 h269 ⟨d_269, kd_269, rfl, K269, p269_0, o269_0⟩ C269
    have z269 := K269.1
    have yo269_0 := ltN o269_0.lt; have yo269_0' := ltN o269_0.ltb
    -- pc 388
    refine Go.astore (hb hby at_388) (pc' := 390) rfl rfl (L' := #[.val (.int i0), .val (.int i1), .val (.long i2), .second, .val (.int i3), .val (.int (2 : Int32)), .val (.int (1 : Int32)), .val (.ref a2), .val (.ref a65), .val (.ref a2), .val (.ref a128), .val (.ref a218), .unset, .unset, .unset]) rfl ?_
    refine Go.goto (hb hby at_390) (by decide) (pc' := 729) (by decide) ?_
    refine Go.iload (hb hby at_729) (pc' := 731) rfl rfl ?_
    refine Go.iconst (hb hby at_731) (pc' := 732) rfl (z := (2 : Int32)) rfl ?_
    refine Go.icmpN (hb hby at_732) (pc' := 735) rfl (show ¬ (¬ (2 : Int32) = (2 : Int32)) from by decide) ?_
    refine Go.aload (hb hby at_735) (pc' := 737) rfl rfl rfl ?_
    refine Go.iconst (hb hby at_737) (pc' := 738) rfl (z := (0 : Int32)) rfl ?_
    have f270 : Ar Z h269 a128 k129 .char [(.int z_137), (.int z_146), (.int z_155), (.int z_164), (.int z_173), (.int z_182), (.int z_191), (.int z_200), (.int z_209)] := ((f258.keep K262 (ninS (neN (by omega)) nin0)).keep K269 (ninS (neN (by omega)) nin0))
    refine Go.caload f270 (v := (.int z_137)) (by decide) rfl (hb hby at_738) (pc' := 739) rfl ?_
    refine Go.bipush (hb hby at_739) (pc' := 741) rfl (z := (114 : Int32)) rfl ?_
    refine Go.icmp (hb hby at_741) (by decide) (pc' := 775) (by decide) (pc2 := 744) rfl (fun (q741 : ¬ z_137 = (114 : Int32)) => ?_) (fun (q741 : ¬ (¬ z_137 = (114 : Int32))) => ?_)
    · refine Go.iconst (hb hby at_775) (pc' := 776) rfl (z := (0 : Int32)) rfl ?_
      refine Go.istore (hb hby at_776) (pc' := 778) rfl (L' := #[.val (.int i0), .val (.int i1), .val (.long i2), .second, .val (.int i3), .val (.int (2 : Int32)), .val (.int (1 : Int32)), .val (.ref a2), .val (.ref a65), .val (.ref a2), .val (.ref a128), .val (.ref a218), .val (.int (0 : Int32)), .unset, .unset]) rfl ?_
      refine Go.iload (hb hby at_778) (pc' := 780) rfl rfl ?_
      refine Go.iconst (hb hby at_780) (pc' := 781) rfl (z := (3 : Int32)) rfl ?_
      refine Go.icmpY (hb hby at_781) (by decide) (pc' := 862) (by decide) (show ¬ (2 : Int32) = (3 : Int32) from by decide) ?_
      refine Go.iconst (hb hby at_862) (pc' := 863) rfl (z := (0 : Int32)) rfl ?_
      refine Go.istore (hb hby at_863) (pc' := 865) rfl (L' := #[.val (.int i0), .val (.int i1), .val (.long i2), .second, .val (.int i3), .val (.int (2 : Int32)), .val (.int (1 : Int32)), .val (.ref a2), .val (.ref a65), .val (.ref a2), .val (.ref a128), .val (.ref a218), .val (.int (0 : Int32)), .val (.int (0 : Int32)), .unset]) rfl ?_
      refine Go.iload (hb hby at_865) (pc' := 867) rfl rfl ?_
      refine Go.ifN (hb hby at_867) (pc' := 870) rfl (show ¬ (¬ (0 : Int32) = (0 : Int32)) from by decide) ?_
      refine Go.iload (hb hby at_870) (pc' := 872) rfl rfl ?_
      refine Go.ifY (hb hby at_872) (by decide) (pc' := 879) (by decide) (show (0 : Int32) = (0 : Int32) from by decide) ?_
      refine Go.iconst (hb hby at_879) (pc' := 880) rfl (z := (0 : Int32)) rfl ?_
      refine Go.istore (hb hby at_880) (pc' := 882) rfl (L' := #[.val (.int i0), .val (.int i1), .val (.long i2), .second, .val (.int i3), .val (.int (2 : Int32)), .val (.int (1 : Int32)), .val (.ref a2), .val (.ref a65), .val (.ref a2), .val (.ref a128), .val (.ref a218), .val (.int (0 : Int32)), .val (.int (0 : Int32)), .val (.int (0 : Int32))]) rfl ?_
      refine Go.aload (hb hby at_882) (pc' := 884) rfl rfl rfl ?_
      refine Go.callS (c_res (l := l) (nw := nw) g hnw h269 a218 d_269 kd_269 ([z_137, z_146, z_155, z_164].map by8) o269_0 (by omega)) hown (wd_6 g) (wd_7 g) (wd_9 g) (wd_8 g) (by decide) (argsL := [(.ref a218)]) (lenOf pd_8 rfl) rfl (by rw [hml]; rfl) (W := 0) rfl (hb hby at_884) (pc' := 887) rfl (by decide) (by decide) (by decide) (by decide) all0 ?_
      rintro _ vm271 h271 ⟨rfl, K271⟩ C271
      have z271 := K271.1
      -- pc 887
      refine Go.iload (hb hby at_887) (pc' := 889) rfl rfl ?_
      refine Go.icmpN (hb hby at_889) (pc' := 892) rfl (fun q => q (bo_no (fun z => z.elim (fun z => q741 (by have q := z; simp only [List.map_cons, List.map_nil, List.cons.injEq, and_true] at q; exact by8_inj p137_0 (by decide) ((q.1).trans (by decide)))) (fun z => absurd (congrArg List.length z) (by simp))))) ?_
      refine Go.iconst (hb hby at_892) (pc' := 893) rfl (z := (1 : Int32)) rfl ?_
      refine Go.goto (hb hby at_893) (by decide) (pc' := 897) (by decide) ?_
      refine Go.retN (t := .boolean) hret (by simp) (hb hby at_897) (by decide) (by decide) ?_
      intro vmR CR
      exact ⟨(by first | rfl | (simp only [own_nar]; done) | (congr 2; done)), ((((((((((((((((((((((((((((((((((((((((((((((((Keep.refl h []).trans KE6 all0).trans K13 (allS (by first | (left; simp; done) | (right; omega)) all0)).trans K19 (allS (by first | (left; simp; done) | (right; omega)) all0)).trans K25 (allS (by first | (left; simp; done) | (right; omega)) all0)).trans K31 (allS (by first | (left; simp; done) | (right; omega)) all0)).trans K37 (allS (by first | (left; simp; done) | (right; omega)) all0)).trans K43 (allS (by first | (left; simp; done) | (right; omega)) all0)).trans K49 (allS (by first | (left; simp; done) | (right; omega)) all0)).trans K55 (allS (by first | (left; simp; done) | (right; omega)) all0)).trans K61 (allS (by first | (left; simp; done) | (right; omega)) all0)).trans KE69 all0).trans K76 (allS (by first | (left; simp; done) | (right; omega)) all0)).trans K82 (allS (by first | (left; simp; done) | (right; omega)) all0)).trans K88 (allS (by first | (left; simp; done) | (right; omega)) all0)).trans K94 (allS (by first | (left; simp; done) | (right; omega)) all0)).trans K100 (allS (by first | (left; simp; done) | (right; omega)) all0)).trans K106 (allS (by first | (left; simp; done) | (right; omega)) all0)).trans K112 (allS (by first | (left; simp; done) | (right; omega)) all0)).trans K118 (allS (by first | (left; simp; done) | (right; omega)) all0)).trans K124 (allS (by first | (left; simp; done) | (right; omega)) all0)).trans KE132 all0).trans K137 all0).trans K142 (allS (by first | (left; simp; done) | (right; omega)) all0)).trans K146 all0).trans K151 (allS (by first | (left; simp; done) | (right; omega)) all0)).trans K155 all0).trans K160 (allS (by first | (left; simp; done) | (right; omega)) all0)).trans K164 all0).trans K169 (allS (by first | (left; simp; done) | (right; omega)) all0)).trans K173 all0).trans K178 (allS (by first | (left; simp; done) | (right; omega)) all0)).trans K182 all0).trans K187 (allS (by first | (left; simp; done) | (right; omega)) all0)).trans K191 all0).trans K196 (allS (by first | (left; simp; done) | (right; omega)) all0)).trans K200 all0).trans K205 (allS (by first | (left; simp; done) | (right; omega)) all0)).trans K209 all0).trans K214 (allS (by first | (left; simp; done) | (right; omega)) all0)).trans KE221 all0).trans KE233 all0).trans K241 (allS (by first | (left; simp; done) | (right; omega)) all0)).trans K248 (allS (by first | (left; simp; done) | (right; omega)) all0)).trans K255 (allS (by first | (left; simp; done) | (right; omega)) all0)).trans K262 (allS (by first | (left; simp; done) | (right; omega)) all0)).trans K269 (allS (by first | (left; simp; done) | (right; omega)) all0)).trans K271 all0)⟩
    · refine Go.aload (hb hby at_744) (pc' := 746) rfl rfl rfl ?_
      refine Go.iconst (hb hby at_746) (pc' := 747) rfl (z := (1 : Int32)) rfl ?_
      refine Go.caload f270 (v := (.int z_146)) (by decide) rfl (hb hby at_747) (pc' := 748) rfl ?_
      refine Go.bipush (hb hby at_748) (pc' := 750) rfl (z := (111 : Int32)) rfl ?_
      refine Go.icmp (hb hby at_750) (by decide) (pc' := 775) (by decide) (pc2 := 753) rfl (fun (q750 : ¬ z_146 = (111 : Int32)) => ?_) (fun (q750 : ¬ (¬ z_146 = (111 : Int32))) => ?_)
      · refine Go.iconst (hb hby at_775) (pc' := 776) rfl (z := (0 : Int32)) rfl ?_
        refine Go.istore (hb hby at_776) (pc' := 778) rfl (L' := #[.val (.int i0), .val (.int i1), .val (.long i2), .second, .val (.int i3), .val (.int (2 : Int32)), .val (.int (1 : Int32)), .val (.ref a2), .val (.ref a65), .val (.ref a2), .val (.ref a128), .val (.ref a218), .val (.int (0 : Int32)), .unset, .unset]) rfl ?_
        refine Go.iload (hb hby at_778) (pc' := 780) rfl rfl ?_
        refine Go.iconst (hb hby at_780) (pc' := 781) rfl (z := (3 : Int32)) rfl ?_
        refine Go.icmpY (hb hby at_781) (by decide) (pc' := 862) (by decide) (show ¬ (2 : Int32) = (3 : Int32) from by decide) ?_
        refine Go.iconst (hb hby at_862) (pc' := 863) rfl (z := (0 : Int32)) rfl ?_
        refine Go.istore (hb hby at_863) (pc' := 865) rfl (L' := #[.val (.int i0), .val (.int i1), .val (.long i2), .second, .val (.int i3), .val (.int (2 : Int32)), .val (.int (1 : Int32)), .val (.ref a2), .val (.ref a65), .val (.ref a2), .val (.ref a128), .val (.ref a218), .val (.int (0 : Int32)), .val (.int (0 : Int32)), .unset]) rfl ?_
        refine Go.iload (hb hby at_865) (pc' := 867) rfl rfl ?_
        refine Go.ifN (hb hby at_867) (pc' := 870) rfl (show ¬ (¬ (0 : Int32) = (0 : Int32)) from by decide) ?_
        refine Go.iload (hb hby at_870) (pc' := 872) rfl rfl ?_
        refine Go.ifY (hb hby at_872) (by decide) (pc' := 879) (by decide) (show (0 : Int32) = (0 : Int32) from by decide) ?_
        refine Go.iconst (hb hby at_879) (pc' := 880) rfl (z := (0 : Int32)) rfl ?_
        refine Go.istore (hb hby at_880) (pc' := 882) rfl (L' := #[.val (.int i0), .val (.int i1), .val (.long i2), .second, .val (.int i3), .val (.int (2 : Int32)), .val (.int (1 : Int32)), .val (.ref a2), .val (.ref a65), .val (.ref a2), .val (.ref a128), .val (.ref a218), .val (.int (0 : Int32)), .val (.int (0 : Int32)), .val (.int (0 : Int32))]) rfl ?_
        refine Go.aload (hb hby at_882) (pc' := 884) rfl rfl rfl ?_
        refine Go.callS (c_res (l := l) (nw := nw) g hnw h269 a218 d_269 kd_269 ([z_137, z_146, z_155, z_164].map by8) o269_0 (by omega)) hown (wd_6 g) (wd_7 g) (wd_9 g) (wd_8 g) (by decide) (argsL := [(.ref a218)]) (lenOf pd_8 rfl) rfl (by rw [hml]; rfl) (W := 0) rfl (hb hby at_884) (pc' := 887) rfl (by decide) (by decide) (by decide) (by decide) all0 ?_
        rintro _ vm272 h272 ⟨rfl, K272⟩ C272
        have z272 := K272.1
        -- pc 887
        refine Go.iload (hb hby at_887) (pc' := 889) rfl rfl ?_
        refine Go.icmpN (hb hby at_889) (pc' := 892) rfl (fun q => q (bo_no (fun z => z.elim (fun z => q750 (by have q := z; simp only [List.map_cons, List.map_nil, List.cons.injEq, and_true] at q; exact by8_inj p146_0 (by decide) ((q.2.1).trans (by decide)))) (fun z => absurd (congrArg List.length z) (by simp))))) ?_
        refine Go.iconst (hb hby at_892) (pc' := 893) rfl (z := (1 : Int32)) rfl ?_
        refine Go.goto (hb hby at_893) (by decide) (pc' := 897) (by decide) ?_
        refine Go.retN (t := .boolean) hret (by simp) (hb hby at_897) (by decide) (by decide) ?_
        intro vmR CR
        exact ⟨(by first | rfl | (simp only [own_nar]; done) | (congr 2; done)), ((((((((((((((((((((((((((((((((((((((((((((((((Keep.refl h []).trans KE6 all0).trans K13 (allS (by first | (left; simp; done) | (right; omega)) all0)).trans K19 (allS (by first | (left; simp; done) | (right; omega)) all0)).trans K25 (allS (by first | (left; simp; done) | (right; omega)) all0)).trans K31 (allS (by first | (left; simp; done) | (right; omega)) all0)).trans K37 (allS (by first | (left; simp; done) | (right; omega)) all0)).trans K43 (allS (by first | (left; simp; done) | (right; omega)) all0)).trans K49 (allS (by first | (left; simp; done) | (right; omega)) all0)).trans K55 (allS (by first | (left; simp; done) | (right; omega)) all0)).trans K61 (allS (by first | (left; simp; done) | (right; omega)) all0)).trans KE69 all0).trans K76 (allS (by first | (left; simp; done) | (right; omega)) all0)).trans K82 (allS (by first | (left; simp; done) | (right; omega)) all0)).trans K88 (allS (by first | (left; simp; done) | (right; omega)) all0)).trans K94 (allS (by first | (left; simp; done) | (right; omega)) all0)).trans K100 (allS (by first | (left; simp; done) | (right; omega)) all0)).trans K106 (allS (by first | (left; simp; done) | (right; omega)) all0)).trans K112 (allS (by first | (left; simp; done) | (right; omega)) all0)).trans K118 (allS (by first | (left; simp; done) | (right; omega)) all0)).trans K124 (allS (by first | (left; simp; done) | (right; omega)) all0)).trans KE132 all0).trans K137 all0).trans K142 (allS (by first | (left; simp; done) | (right; omega)) all0)).trans K146 all0).trans K151 (allS (by first | (left; simp; done) | (right; omega)) all0)).trans K155 all0).trans K160 (allS (by first | (left; simp; done) | (right; omega)) all0)).trans K164 all0).trans K169 (allS (by first | (left; simp; done) | (right; omega)) all0)).trans K173 all0).trans K178 (allS (by first | (left; simp; done) | (right; omega)) all0)).trans K182 all0).trans K187 (allS (by first | (left; simp; done) | (right; omega)) all0)).trans K191 all0).trans K196 (allS (by first | (left; simp; done) | (right; omega)) all0)).trans K200 all0).trans K205 (allS (by first | (left; simp; done) | (right; omega)) all0)).trans K209 all0).trans K214 (allS (by first | (left; simp; done) | (right; omega)) all0)).trans KE221 all0).trans KE233 all0).trans K241 (allS (by first | (left; simp; done) | (right; omega)) all0)).trans K248 (allS (by first | (left; simp; done) | (right; omega)) all0)).trans K255 (allS (by first | (left; simp; done) | (right; omega)) all0)).trans K262 (allS (by first | (left; simp; done) | (right; omega)) all0)).trans K269 (allS (by first | (left; simp; done) | (right; omega)) all0)).trans K272 all0)⟩
      · refine Go.aload (hb hby at_753) (pc' := 755) rfl rfl rfl ?_
        refine Go.iconst (hb hby at_755) (pc' := 756) rfl (z := (2 : Int32)) rfl ?_
        refine Go.caload f270 (v := (.int z_155)) (by decide) rfl (hb hby at_756) (pc' := 757) rfl ?_
        refine Go.bipush (hb hby at_757) (pc' := 759) rfl (z := (111 : Int32)) rfl ?_
        refine Go.icmp (hb hby at_759) (by decide) (pc' := 775) (by decide) (pc2 := 762) rfl (fun (q759 : ¬ z_155 = (111 : Int32)) => ?_) (fun (q759 : ¬ (¬ z_155 = (111 : Int32))) => ?_)
        · refine Go.iconst (hb hby at_775) (pc' := 776) rfl (z := (0 : Int32)) rfl ?_
          refine Go.istore (hb hby at_776) (pc' := 778) rfl (L' := #[.val (.int i0), .val (.int i1), .val (.long i2), .second, .val (.int i3), .val (.int (2 : Int32)), .val (.int (1 : Int32)), .val (.ref a2), .val (.ref a65), .val (.ref a2), .val (.ref a128), .val (.ref a218), .val (.int (0 : Int32)), .unset, .unset]) rfl ?_
          refine Go.iload (hb hby at_778) (pc' := 780) rfl rfl ?_
          refine Go.iconst (hb hby at_780) (pc' := 781) rfl (z := (3 : Int32)) rfl ?_
          refine Go.icmpY (hb hby at_781) (by decide) (pc' := 862) (by decide) (show ¬ (2 : Int32) = (3 : Int32) from by decide) ?_
          refine Go.iconst (hb hby at_862) (pc' := 863) rfl (z := (0 : Int32)) rfl ?_
          refine Go.istore (hb hby at_863) (pc' := 865) rfl (L' := #[.val (.int i0), .val (.int i1), .val (.long i2), .second, .val (.int i3), .val (.int (2 : Int32)), .val (.int (1 : Int32)), .val (.ref a2), .val (.ref a65), .val (.ref a2), .val (.ref a128), .val (.ref a218), .val (.int (0 : Int32)), .val (.int (0 : Int32)), .unset]) rfl ?_
          refine Go.iload (hb hby at_865) (pc' := 867) rfl rfl ?_
          refine Go.ifN (hb hby at_867) (pc' := 870) rfl (show ¬ (¬ (0 : Int32) = (0 : Int32)) from by decide) ?_
          refine Go.iload (hb hby at_870) (pc' := 872) rfl rfl ?_
          refine Go.ifY (hb hby at_872) (by decide) (pc' := 879) (by decide) (show (0 : Int32) = (0 : Int32) from by decide) ?_
          refine Go.iconst (hb hby at_879) (pc' := 880) rfl (z := (0 : Int32)) rfl ?_
          refine Go.istore (hb hby at_880) (pc' := 882) rfl (L' := #[.val (.int i0), .val (.int i1), .val (.long i2), .second, .val (.int i3), .val (.int (2 : Int32)), .val (.int (1 : Int32)), .val (.ref a2), .val (.ref a65), .val (.ref a2), .val (.ref a128), .val (.ref a218), .val (.int (0 : Int32)), .val (.int (0 : Int32)), .val (.int (0 : Int32))]) rfl ?_
          refine Go.aload (hb hby at_882) (pc' := 884) rfl rfl rfl ?_
          refine Go.callS (c_res (l := l) (nw := nw) g hnw h269 a218 d_269 kd_269 ([z_137, z_146, z_155, z_164].map by8) o269_0 (by omega)) hown (wd_6 g) (wd_7 g) (wd_9 g) (wd_8 g) (by decide) (argsL := [(.ref a218)]) (lenOf pd_8 rfl) rfl (by rw [hml]; rfl) (W := 0) rfl (hb hby at_884) (pc' := 887) rfl (by decide) (by decide) (by decide) (by decide) all0 ?_
          rintro _ vm273 h273 ⟨rfl, K273⟩ C273
          have z273 := K273.1
          -- pc 887
          refine Go.iload (hb hby at_887) (pc' := 889) rfl rfl ?_
          refine Go.icmpN (hb hby at_889) (pc' := 892) rfl (fun q => q (bo_no (fun z => z.elim (fun z => q759 (by have q := z; simp only [List.map_cons, List.map_nil, List.cons.injEq, and_true] at q; exact by8_inj p155_0 (by decide) ((q.2.2.1).trans (by decide)))) (fun z => absurd (congrArg List.length z) (by simp))))) ?_
          refine Go.iconst (hb hby at_892) (pc' := 893) rfl (z := (1 : Int32)) rfl ?_
          refine Go.goto (hb hby at_893) (by decide) (pc' := 897) (by decide) ?_
          refine Go.retN (t := .boolean) hret (by simp) (hb hby at_897) (by decide) (by decide) ?_
          intro vmR CR
          exact ⟨(by first | rfl | (simp only [own_nar]; done) | (congr 2; done)), ((((((((((((((((((((((((((((((((((((((((((((((((Keep.refl h []).trans KE6 all0).trans K13 (allS (by first | (left; simp; done) | (right; omega)) all0)).trans K19 (allS (by first | (left; simp; done) | (right; omega)) all0)).trans K25 (allS (by first | (left; simp; done) | (right; omega)) all0)).trans K31 (allS (by first | (left; simp; done) | (right; omega)) all0)).trans K37 (allS (by first | (left; simp; done) | (right; omega)) all0)).trans K43 (allS (by first | (left; simp; done) | (right; omega)) all0)).trans K49 (allS (by first | (left; simp; done) | (right; omega)) all0)).trans K55 (allS (by first | (left; simp; done) | (right; omega)) all0)).trans K61 (allS (by first | (left; simp; done) | (right; omega)) all0)).trans KE69 all0).trans K76 (allS (by first | (left; simp; done) | (right; omega)) all0)).trans K82 (allS (by first | (left; simp; done) | (right; omega)) all0)).trans K88 (allS (by first | (left; simp; done) | (right; omega)) all0)).trans K94 (allS (by first | (left; simp; done) | (right; omega)) all0)).trans K100 (allS (by first | (left; simp; done) | (right; omega)) all0)).trans K106 (allS (by first | (left; simp; done) | (right; omega)) all0)).trans K112 (allS (by first | (left; simp; done) | (right; omega)) all0)).trans K118 (allS (by first | (left; simp; done) | (right; omega)) all0)).trans K124 (allS (by first | (left; simp; done) | (right; omega)) all0)).trans KE132 all0).trans K137 all0).trans K142 (allS (by first | (left; simp; done) | (right; omega)) all0)).trans K146 all0).trans K151 (allS (by first | (left; simp; done) | (right; omega)) all0)).trans K155 all0).trans K160 (allS (by first | (left; simp; done) | (right; omega)) all0)).trans K164 all0).trans K169 (allS (by first | (left; simp; done) | (right; omega)) all0)).trans K173 all0).trans K178 (allS (by first | (left; simp; done) | (right; omega)) all0)).trans K182 all0).trans K187 (allS (by first | (left; simp; done) | (right; omega)) all0)).trans K191 all0).trans K196 (allS (by first | (left; simp; done) | (right; omega)) all0)).trans K200 all0).trans K205 (allS (by first | (left; simp; done) | (right; omega)) all0)).trans K209 all0).trans K214 (allS (by first | (left; simp; done) | (right; omega)) all0)).trans KE221 all0).trans KE233 all0).trans K241 (allS (by first | (left; simp; done) | (right; omega)) all0)).trans K248 (allS (by first | (left; simp; done) | (right; omega)) all0)).trans K255 (allS (by first | (left; simp; done) | (right; omega)) all0)).trans K262 (allS (by first | (left; simp; done) | (right; omega)) all0)).trans K269 (allS (by first | (left; simp; done) | (right; omega)) all0)).trans K273 all0)⟩
        · refine Go.aload (hb hby at_762) (pc' := 764) rfl rfl rfl ?_
          refine Go.iconst (hb hby at_764) (pc' := 765) rfl (z := (3 : Int32)) rfl ?_
          refine Go.caload f270 (v := (.int z_164)) (by decide) rfl (hb hby at_765) (pc' := 766) rfl ?_
          refine Go.bipush (hb hby at_766) (pc' := 768) rfl (z := (116 : Int32)) rfl ?_
          refine Go.icmp (hb hby at_768) (by decide) (pc' := 775) (by decide) (pc2 := 771) rfl (fun (q768 : ¬ z_164 = (116 : Int32)) => ?_) (fun (q768 : ¬ (¬ z_164 = (116 : Int32))) => ?_)
          · refine Go.iconst (hb hby at_775) (pc' := 776) rfl (z := (0 : Int32)) rfl ?_
            refine Go.istore (hb hby at_776) (pc' := 778) rfl (L' := #[.val (.int i0), .val (.int i1), .val (.long i2), .second, .val (.int i3), .val (.int (2 : Int32)), .val (.int (1 : Int32)), .val (.ref a2), .val (.ref a65), .val (.ref a2), .val (.ref a128), .val (.ref a218), .val (.int (0 : Int32)), .unset, .unset]) rfl ?_
            refine Go.iload (hb hby at_778) (pc' := 780) rfl rfl ?_
            refine Go.iconst (hb hby at_780) (pc' := 781) rfl (z := (3 : Int32)) rfl ?_
            refine Go.icmpY (hb hby at_781) (by decide) (pc' := 862) (by decide) (show ¬ (2 : Int32) = (3 : Int32) from by decide) ?_
            refine Go.iconst (hb hby at_862) (pc' := 863) rfl (z := (0 : Int32)) rfl ?_
            refine Go.istore (hb hby at_863) (pc' := 865) rfl (L' := #[.val (.int i0), .val (.int i1), .val (.long i2), .second, .val (.int i3), .val (.int (2 : Int32)), .val (.int (1 : Int32)), .val (.ref a2), .val (.ref a65), .val (.ref a2), .val (.ref a128), .val (.ref a218), .val (.int (0 : Int32)), .val (.int (0 : Int32)), .unset]) rfl ?_
            refine Go.iload (hb hby at_865) (pc' := 867) rfl rfl ?_
            refine Go.ifN (hb hby at_867) (pc' := 870) rfl (show ¬ (¬ (0 : Int32) = (0 : Int32)) from by decide) ?_
            refine Go.iload (hb hby at_870) (pc' := 872) rfl rfl ?_
            refine Go.ifY (hb hby at_872) (by decide) (pc' := 879) (by decide) (show (0 : Int32) = (0 : Int32) from by decide) ?_
            refine Go.iconst (hb hby at_879) (pc' := 880) rfl (z := (0 : Int32)) rfl ?_
            refine Go.istore (hb hby at_880) (pc' := 882) rfl (L' := #[.val (.int i0), .val (.int i1), .val (.long i2), .second, .val (.int i3), .val (.int (2 : Int32)), .val (.int (1 : Int32)), .val (.ref a2), .val (.ref a65), .val (.ref a2), .val (.ref a128), .val (.ref a218), .val (.int (0 : Int32)), .val (.int (0 : Int32)), .val (.int (0 : Int32))]) rfl ?_
            refine Go.aload (hb hby at_882) (pc' := 884) rfl rfl rfl ?_
            refine Go.callS (c_res (l := l) (nw := nw) g hnw h269 a218 d_269 kd_269 ([z_137, z_146, z_155, z_164].map by8) o269_0 (by omega)) hown (wd_6 g) (wd_7 g) (wd_9 g) (wd_8 g) (by decide) (argsL := [(.ref a218)]) (lenOf pd_8 rfl) rfl (by rw [hml]; rfl) (W := 0) rfl (hb hby at_884) (pc' := 887) rfl (by decide) (by decide) (by decide) (by decide) all0 ?_
            rintro _ vm274 h274 ⟨rfl, K274⟩ C274
            have z274 := K274.1
            -- pc 887
            refine Go.iload (hb hby at_887) (pc' := 889) rfl rfl ?_
            refine Go.icmpN (hb hby at_889) (pc' := 892) rfl (fun q => q (bo_no (fun z => z.elim (fun z => q768 (by have q := z; simp only [List.map_cons, List.map_nil, List.cons.injEq, and_true] at q; exact by8_inj p164_0 (by decide) ((q.2.2.2).trans (by decide)))) (fun z => absurd (congrArg List.length z) (by simp))))) ?_
            refine Go.iconst (hb hby at_892) (pc' := 893) rfl (z := (1 : Int32)) rfl ?_
            refine Go.goto (hb hby at_893) (by decide) (pc' := 897) (by decide) ?_
            refine Go.retN (t := .boolean) hret (by simp) (hb hby at_897) (by decide) (by decide) ?_
            intro vmR CR
            exact ⟨(by first | rfl | (simp only [own_nar]; done) | (congr 2; done)), ((((((((((((((((((((((((((((((((((((((((((((((((Keep.refl h []).trans KE6 all0).trans K13 (allS (by first | (left; simp; done) | (right; omega)) all0)).trans K19 (allS (by first | (left; simp; done) | (right; omega)) all0)).trans K25 (allS (by first | (left; simp; done) | (right; omega)) all0)).trans K31 (allS (by first | (left; simp; done) | (right; omega)) all0)).trans K37 (allS (by first | (left; simp; done) | (right; omega)) all0)).trans K43 (allS (by first | (left; simp; done) | (right; omega)) all0)).trans K49 (allS (by first | (left; simp; done) | (right; omega)) all0)).trans K55 (allS (by first | (left; simp; done) | (right; omega)) all0)).trans K61 (allS (by first | (left; simp; done) | (right; omega)) all0)).trans KE69 all0).trans K76 (allS (by first | (left; simp; done) | (right; omega)) all0)).trans K82 (allS (by first | (left; simp; done) | (right; omega)) all0)).trans K88 (allS (by first | (left; simp; done) | (right; omega)) all0)).trans K94 (allS (by first | (left; simp; done) | (right; omega)) all0)).trans K100 (allS (by first | (left; simp; done) | (right; omega)) all0)).trans K106 (allS (by first | (left; simp; done) | (right; omega)) all0)).trans K112 (allS (by first | (left; simp; done) | (right; omega)) all0)).trans K118 (allS (by first | (left; simp; done) | (right; omega)) all0)).trans K124 (allS (by first | (left; simp; done) | (right; omega)) all0)).trans KE132 all0).trans K137 all0).trans K142 (allS (by first | (left; simp; done) | (right; omega)) all0)).trans K146 all0).trans K151 (allS (by first | (left; simp; done) | (right; omega)) all0)).trans K155 all0).trans K160 (allS (by first | (left; simp; done) | (right; omega)) all0)).trans K164 all0).trans K169 (allS (by first | (left; simp; done) | (right; omega)) all0)).trans K173 all0).trans K178 (allS (by first | (left; simp; done) | (right; omega)) all0)).trans K182 all0).trans K187 (allS (by first | (left; simp; done) | (right; omega)) all0)).trans K191 all0).trans K196 (allS (by first | (left; simp; done) | (right; omega)) all0)).trans K200 all0).trans K205 (allS (by first | (left; simp; done) | (right; omega)) all0)).trans K209 all0).trans K214 (allS (by first | (left; simp; done) | (right; omega)) all0)).trans KE221 all0).trans KE233 all0).trans K241 (allS (by first | (left; simp; done) | (right; omega)) all0)).trans K248 (allS (by first | (left; simp; done) | (right; omega)) all0)).trans K255 (allS (by first | (left; simp; done) | (right; omega)) all0)).trans K262 (allS (by first | (left; simp; done) | (right; omega)) all0)).trans K269 (allS (by first | (left; simp; done) | (right; omega)) all0)).trans K274 all0)⟩
          · refine Go.iconst (hb hby at_771) (pc' := 772) rfl (z := (1 : Int32)) rfl ?_
            refine Go.goto (hb hby at_772) (by decide) (pc' := 776) (by decide) ?_
            refine Go.istore (hb hby at_776) (pc' := 778) rfl (L' := #[.val (.int i0), .val (.int i1), .val (.long i2), .second, .val (.int i3), .val (.int (2 : Int32)), .val (.int (1 : Int32)), .val (.ref a2), .val (.ref a65), .val (.ref a2), .val (.ref a128), .val (.ref a218), .val (.int (1 : Int32)), .unset, .unset]) rfl ?_
            refine Go.iload (hb hby at_778) (pc' := 780) rfl rfl ?_
            refine Go.iconst (hb hby at_780) (pc' := 781) rfl (z := (3 : Int32)) rfl ?_
            refine Go.icmpY (hb hby at_781) (by decide) (pc' := 862) (by decide) (show ¬ (2 : Int32) = (3 : Int32) from by decide) ?_
            refine Go.iconst (hb hby at_862) (pc' := 863) rfl (z := (0 : Int32)) rfl ?_
            refine Go.istore (hb hby at_863) (pc' := 865) rfl (L' := #[.val (.int i0), .val (.int i1), .val (.long i2), .second, .val (.int i3), .val (.int (2 : Int32)), .val (.int (1 : Int32)), .val (.ref a2), .val (.ref a65), .val (.ref a2), .val (.ref a128), .val (.ref a218), .val (.int (1 : Int32)), .val (.int (0 : Int32)), .unset]) rfl ?_
            refine Go.iload (hb hby at_865) (pc' := 867) rfl rfl ?_
            refine Go.ifY (hb hby at_867) (by decide) (pc' := 875) (by decide) (show ¬ (1 : Int32) = (0 : Int32) from by decide) ?_
            refine Go.iconst (hb hby at_875) (pc' := 876) rfl (z := (1 : Int32)) rfl ?_
            refine Go.goto (hb hby at_876) (by decide) (pc' := 880) (by decide) ?_
            refine Go.istore (hb hby at_880) (pc' := 882) rfl (L' := #[.val (.int i0), .val (.int i1), .val (.long i2), .second, .val (.int i3), .val (.int (2 : Int32)), .val (.int (1 : Int32)), .val (.ref a2), .val (.ref a65), .val (.ref a2), .val (.ref a128), .val (.ref a218), .val (.int (1 : Int32)), .val (.int (0 : Int32)), .val (.int (1 : Int32))]) rfl ?_
            refine Go.aload (hb hby at_882) (pc' := 884) rfl rfl rfl ?_
            refine Go.callS (c_res (l := l) (nw := nw) g hnw h269 a218 d_269 kd_269 ([z_137, z_146, z_155, z_164].map by8) o269_0 (by omega)) hown (wd_6 g) (wd_7 g) (wd_9 g) (wd_8 g) (by decide) (argsL := [(.ref a218)]) (lenOf pd_8 rfl) rfl (by rw [hml]; rfl) (W := 0) rfl (hb hby at_884) (pc' := 887) rfl (by decide) (by decide) (by decide) (by decide) all0 ?_
            rintro _ vm275 h275 ⟨rfl, K275⟩ C275
            have z275 := K275.1
            -- pc 887
            refine Go.iload (hb hby at_887) (pc' := 889) rfl rfl ?_
            refine Go.icmpN (hb hby at_889) (pc' := 892) rfl (fun q => q (bo_yes (Or.inl (by rw [Classical.not_not.mp q741, Classical.not_not.mp q750, Classical.not_not.mp q759, Classical.not_not.mp q768]; rfl)))) ?_
            refine Go.iconst (hb hby at_892) (pc' := 893) rfl (z := (1 : Int32)) rfl ?_
            refine Go.goto (hb hby at_893) (by decide) (pc' := 897) (by decide) ?_
            refine Go.retN (t := .boolean) hret (by simp) (hb hby at_897) (by decide) (by decide) ?_
            intro vmR CR
            exact ⟨(by first | rfl | (simp only [own_nar]; done) | (congr 2; done)), ((((((((((((((((((((((((((((((((((((((((((((((((Keep.refl h []).trans KE6 all0).trans K13 (allS (by first | (left; simp; done) | (right; omega)) all0)).trans K19 (allS (by first | (left; simp; done) | (right; omega)) all0)).trans K25 (allS (by first | (left; simp; done) | (right; omega)) all0)).trans K31 (allS (by first | (left; simp; done) | (right; omega)) all0)).trans K37 (allS (by first | (left; simp; done) | (right; omega)) all0)).trans K43 (allS (by first | (left; simp; done) | (right; omega)) all0)).trans K49 (allS (by first | (left; simp; done) | (right; omega)) all0)).trans K55 (allS (by first | (left; simp; done) | (right; omega)) all0)).trans K61 (allS (by first | (left; simp; done) | (right; omega)) all0)).trans KE69 all0).trans K76 (allS (by first | (left; simp; done) | (right; omega)) all0)).trans K82 (allS (by first | (left; simp; done) | (right; omega)) all0)).trans K88 (allS (by first | (left; simp; done) | (right; omega)) all0)).trans K94 (allS (by first | (left; simp; done) | (right; omega)) all0)).trans K100 (allS (by first | (left; simp; done) | (right; omega)) all0)).trans K106 (allS (by first | (left; simp; done) | (right; omega)) all0)).trans K112 (allS (by first | (left; simp; done) | (right; omega)) all0)).trans K118 (allS (by first | (left; simp; done) | (right; omega)) all0)).trans K124 (allS (by first | (left; simp; done) | (right; omega)) all0)).trans KE132 all0).trans K137 all0).trans K142 (allS (by first | (left; simp; done) | (right; omega)) all0)).trans K146 all0).trans K151 (allS (by first | (left; simp; done) | (right; omega)) all0)).trans K155 all0).trans K160 (allS (by first | (left; simp; done) | (right; omega)) all0)).trans K164 all0).trans K169 (allS (by first | (left; simp; done) | (right; omega)) all0)).trans K173 all0).trans K178 (allS (by first | (left; simp; done) | (right; omega)) all0)).trans K182 all0).trans K187 (allS (by first | (left; simp; done) | (right; omega)) all0)).trans K191 all0).trans K196 (allS (by first | (left; simp; done) | (right; omega)) all0)).trans K200 all0).trans K205 (allS (by first | (left; simp; done) | (right; omega)) all0)).trans K209 all0).trans K214 (allS (by first | (left; simp; done) | (right; omega)) all0)).trans KE221 all0).trans KE233 all0).trans K241 (allS (by first | (left; simp; done) | (right; omega)) all0)).trans K248 (allS (by first | (left; simp; done) | (right; omega)) all0)).trans K255 (allS (by first | (left; simp; done) | (right; omega)) all0)).trans K262 (allS (by first | (left; simp; done) | (right; omega)) all0)).trans K269 (allS (by first | (left; simp; done) | (right; omega)) all0)).trans K275 all0)⟩
  · refine Go.iload (hb hby at_12) (pc' := 14) rfl rfl ?_
    refine Go.iconst (hb hby at_14) (pc' := 15) rfl (z := (4 : Int32)) rfl ?_
    refine Go.icmp (hb hby at_15) (by decide) (pc' := 24) (by decide) (pc2 := 18) rfl (fun (q15 : k = (4 : Int32)) => ?_) (fun (q15 : ¬ (k = (4 : Int32))) => ?_)
    · subst q15
      refine Go.iconst (hb hby at_24) (pc' := 25) rfl (z := (1 : Int32)) rfl ?_
      refine Go.goto (hb hby at_25) (by decide) (pc' := 29) (by decide) ?_
      refine Go.istore (hb hby at_29) (pc' := 31) rfl (L' := #[.val (.int i0), .val (.int i1), .val (.long i2), .second, .val (.int i3), .val (.int (4 : Int32)), .val (.int (1 : Int32)), .unset, .unset, .unset, .unset, .unset, .unset, .unset, .unset]) rfl ?_
      refine Go.bipush (hb hby at_31) (pc' := 33) rfl (z := (9 : Int32)) rfl ?_
      refine Go.newP (ty := .char) rfl (wd_0 g) (hb hby at_33) (pc' := 35) rfl (by decide) (cap := 9) (by decide) (by decide) (by decide) (by decide) ?_
      intro h276 a277 k278 g279 l280 E281 A282 S283 C284
      have KE281 := Keep.ofExt E281; have zE281 := E281.1
      have A282 : Ar Z h276 a277 k278 .char [(.int 0), (.int 0), (.int 0), (.int 0), (.int 0), (.int 0), (.int 0), (.int 0), (.int 0)] := A282
      refine Go.dup (hb hby at_35) (pc' := 36) rfl rfl ?_
      refine Go.iconst (hb hby at_36) (pc' := 37) rfl (z := (0 : Int32)) rfl ?_
      refine Go.bipush (hb hby at_37) (pc' := 39) rfl (z := (114 : Int32)) rfl ?_
      refine Go.castore A282 (by decide) (Nat.lt_of_lt_of_eq (by decide : Int32.toNatClampNeg (0 : Int32) < 9) rfl) (by omega) (hb hby at_39) (pc' := 40) rfl ?_
      intro h285 A286 z287 K288 S289 C290
      have A286 : Ar Z h285 a277 k278 .char [(.int (114 : Int32)), (.int 0), (.int 0), (.int 0), (.int 0), (.int 0), (.int 0), (.int 0), (.int 0)] := A286
      refine Go.dup (hb hby at_40) (pc' := 41) rfl rfl ?_
      refine Go.iconst (hb hby at_41) (pc' := 42) rfl (z := (1 : Int32)) rfl ?_
      refine Go.bipush (hb hby at_42) (pc' := 44) rfl (z := (111 : Int32)) rfl ?_
      refine Go.castore A286 (by decide) (Nat.lt_of_lt_of_eq (by decide : Int32.toNatClampNeg (1 : Int32) < 9) rfl) (by omega) (hb hby at_44) (pc' := 45) rfl ?_
      intro h291 A292 z293 K294 S295 C296
      have A292 : Ar Z h291 a277 k278 .char [(.int (114 : Int32)), (.int (111 : Int32)), (.int 0), (.int 0), (.int 0), (.int 0), (.int 0), (.int 0), (.int 0)] := A292
      refine Go.dup (hb hby at_45) (pc' := 46) rfl rfl ?_
      refine Go.iconst (hb hby at_46) (pc' := 47) rfl (z := (2 : Int32)) rfl ?_
      refine Go.bipush (hb hby at_47) (pc' := 49) rfl (z := (111 : Int32)) rfl ?_
      refine Go.castore A292 (by decide) (Nat.lt_of_lt_of_eq (by decide : Int32.toNatClampNeg (2 : Int32) < 9) rfl) (by omega) (hb hby at_49) (pc' := 50) rfl ?_
      intro h297 A298 z299 K300 S301 C302
      have A298 : Ar Z h297 a277 k278 .char [(.int (114 : Int32)), (.int (111 : Int32)), (.int (111 : Int32)), (.int 0), (.int 0), (.int 0), (.int 0), (.int 0), (.int 0)] := A298
      refine Go.dup (hb hby at_50) (pc' := 51) rfl rfl ?_
      refine Go.iconst (hb hby at_51) (pc' := 52) rfl (z := (3 : Int32)) rfl ?_
      refine Go.bipush (hb hby at_52) (pc' := 54) rfl (z := (116 : Int32)) rfl ?_
      refine Go.castore A298 (by decide) (Nat.lt_of_lt_of_eq (by decide : Int32.toNatClampNeg (3 : Int32) < 9) rfl) (by omega) (hb hby at_54) (pc' := 55) rfl ?_
      intro h303 A304 z305 K306 S307 C308
      have A304 : Ar Z h303 a277 k278 .char [(.int (114 : Int32)), (.int (111 : Int32)), (.int (111 : Int32)), (.int (116 : Int32)), (.int 0), (.int 0), (.int 0), (.int 0), (.int 0)] := A304
      refine Go.dup (hb hby at_55) (pc' := 56) rfl rfl ?_
      refine Go.iconst (hb hby at_56) (pc' := 57) rfl (z := (4 : Int32)) rfl ?_
      refine Go.bipush (hb hby at_57) (pc' := 59) rfl (z := (115 : Int32)) rfl ?_
      refine Go.castore A304 (by decide) (Nat.lt_of_lt_of_eq (by decide : Int32.toNatClampNeg (4 : Int32) < 9) rfl) (by omega) (hb hby at_59) (pc' := 60) rfl ?_
      intro h309 A310 z311 K312 S313 C314
      have A310 : Ar Z h309 a277 k278 .char [(.int (114 : Int32)), (.int (111 : Int32)), (.int (111 : Int32)), (.int (116 : Int32)), (.int (115 : Int32)), (.int 0), (.int 0), (.int 0), (.int 0)] := A310
      refine Go.dup (hb hby at_60) (pc' := 61) rfl rfl ?_
      refine Go.iconst (hb hby at_61) (pc' := 62) rfl (z := (5 : Int32)) rfl ?_
      refine Go.bipush (hb hby at_62) (pc' := 64) rfl (z := (120 : Int32)) rfl ?_
      refine Go.castore A310 (by decide) (Nat.lt_of_lt_of_eq (by decide : Int32.toNatClampNeg (5 : Int32) < 9) rfl) (by omega) (hb hby at_64) (pc' := 65) rfl ?_
      intro h315 A316 z317 K318 S319 C320
      have A316 : Ar Z h315 a277 k278 .char [(.int (114 : Int32)), (.int (111 : Int32)), (.int (111 : Int32)), (.int (116 : Int32)), (.int (115 : Int32)), (.int (120 : Int32)), (.int 0), (.int 0), (.int 0)] := A316
      refine Go.dup (hb hby at_65) (pc' := 66) rfl rfl ?_
      refine Go.bipush (hb hby at_66) (pc' := 68) rfl (z := (6 : Int32)) rfl ?_
      refine Go.bipush (hb hby at_68) (pc' := 70) rfl (z := (120 : Int32)) rfl ?_
      refine Go.castore A316 (by decide) (Nat.lt_of_lt_of_eq (by decide : Int32.toNatClampNeg (6 : Int32) < 9) rfl) (by omega) (hb hby at_70) (pc' := 71) rfl ?_
      intro h321 A322 z323 K324 S325 C326
      have A322 : Ar Z h321 a277 k278 .char [(.int (114 : Int32)), (.int (111 : Int32)), (.int (111 : Int32)), (.int (116 : Int32)), (.int (115 : Int32)), (.int (120 : Int32)), (.int (120 : Int32)), (.int 0), (.int 0)] := A322
      refine Go.dup (hb hby at_71) (pc' := 72) rfl rfl ?_
      refine Go.bipush (hb hby at_72) (pc' := 74) rfl (z := (7 : Int32)) rfl ?_
      refine Go.bipush (hb hby at_74) (pc' := 76) rfl (z := (120 : Int32)) rfl ?_
      refine Go.castore A322 (by decide) (Nat.lt_of_lt_of_eq (by decide : Int32.toNatClampNeg (7 : Int32) < 9) rfl) (by omega) (hb hby at_76) (pc' := 77) rfl ?_
      intro h327 A328 z329 K330 S331 C332
      have A328 : Ar Z h327 a277 k278 .char [(.int (114 : Int32)), (.int (111 : Int32)), (.int (111 : Int32)), (.int (116 : Int32)), (.int (115 : Int32)), (.int (120 : Int32)), (.int (120 : Int32)), (.int (120 : Int32)), (.int 0)] := A328
      refine Go.dup (hb hby at_77) (pc' := 78) rfl rfl ?_
      refine Go.bipush (hb hby at_78) (pc' := 80) rfl (z := (8 : Int32)) rfl ?_
      refine Go.bipush (hb hby at_80) (pc' := 82) rfl (z := (120 : Int32)) rfl ?_
      refine Go.castore A328 (by decide) (Nat.lt_of_lt_of_eq (by decide : Int32.toNatClampNeg (8 : Int32) < 9) rfl) (by omega) (hb hby at_82) (pc' := 83) rfl ?_
      intro h333 A334 z335 K336 S337 C338
      have A334 : Ar Z h333 a277 k278 .char [(.int (114 : Int32)), (.int (111 : Int32)), (.int (111 : Int32)), (.int (116 : Int32)), (.int (115 : Int32)), (.int (120 : Int32)), (.int (120 : Int32)), (.int (120 : Int32)), (.int (120 : Int32))] := A334
      refine Go.astore (hb hby at_83) (pc' := 85) rfl rfl (L' := #[.val (.int i0), .val (.int i1), .val (.long i2), .second, .val (.int i3), .val (.int (4 : Int32)), .val (.int (1 : Int32)), .val (.ref a277), .unset, .unset, .unset, .unset, .unset, .unset, .unset]) rfl ?_
      refine Go.bipush (hb hby at_85) (pc' := 87) rfl (z := (9 : Int32)) rfl ?_
      refine Go.newP (ty := .char) rfl (wd_0 g) (hb hby at_87) (pc' := 89) rfl (by decide) (cap := 9) (by decide) (by decide) (by decide) (by decide) ?_
      intro h339 a340 k341 g342 l343 E344 A345 S346 C347
      have KE344 := Keep.ofExt E344; have zE344 := E344.1
      have A345 : Ar Z h339 a340 k341 .char [(.int 0), (.int 0), (.int 0), (.int 0), (.int 0), (.int 0), (.int 0), (.int 0), (.int 0)] := A345
      refine Go.dup (hb hby at_89) (pc' := 90) rfl rfl ?_
      refine Go.iconst (hb hby at_90) (pc' := 91) rfl (z := (0 : Int32)) rfl ?_
      refine Go.bipush (hb hby at_91) (pc' := 93) rfl (z := (101 : Int32)) rfl ?_
      refine Go.castore A345 (by decide) (Nat.lt_of_lt_of_eq (by decide : Int32.toNatClampNeg (0 : Int32) < 9) rfl) (by omega) (hb hby at_93) (pc' := 94) rfl ?_
      intro h348 A349 z350 K351 S352 C353
      have A349 : Ar Z h348 a340 k341 .char [(.int (101 : Int32)), (.int 0), (.int 0), (.int 0), (.int 0), (.int 0), (.int 0), (.int 0), (.int 0)] := A349
      refine Go.dup (hb hby at_94) (pc' := 95) rfl rfl ?_
      refine Go.iconst (hb hby at_95) (pc' := 96) rfl (z := (1 : Int32)) rfl ?_
      refine Go.bipush (hb hby at_96) (pc' := 98) rfl (z := (118 : Int32)) rfl ?_
      refine Go.castore A349 (by decide) (Nat.lt_of_lt_of_eq (by decide : Int32.toNatClampNeg (1 : Int32) < 9) rfl) (by omega) (hb hby at_98) (pc' := 99) rfl ?_
      intro h354 A355 z356 K357 S358 C359
      have A355 : Ar Z h354 a340 k341 .char [(.int (101 : Int32)), (.int (118 : Int32)), (.int 0), (.int 0), (.int 0), (.int 0), (.int 0), (.int 0), (.int 0)] := A355
      refine Go.dup (hb hby at_99) (pc' := 100) rfl rfl ?_
      refine Go.iconst (hb hby at_100) (pc' := 101) rfl (z := (2 : Int32)) rfl ?_
      refine Go.bipush (hb hby at_101) (pc' := 103) rfl (z := (101 : Int32)) rfl ?_
      refine Go.castore A355 (by decide) (Nat.lt_of_lt_of_eq (by decide : Int32.toNatClampNeg (2 : Int32) < 9) rfl) (by omega) (hb hby at_103) (pc' := 104) rfl ?_
      intro h360 A361 z362 K363 S364 C365
      have A361 : Ar Z h360 a340 k341 .char [(.int (101 : Int32)), (.int (118 : Int32)), (.int (101 : Int32)), (.int 0), (.int 0), (.int 0), (.int 0), (.int 0), (.int 0)] := A361
      refine Go.dup (hb hby at_104) (pc' := 105) rfl rfl ?_
      refine Go.iconst (hb hby at_105) (pc' := 106) rfl (z := (3 : Int32)) rfl ?_
      refine Go.bipush (hb hby at_106) (pc' := 108) rfl (z := (114 : Int32)) rfl ?_
      refine Go.castore A361 (by decide) (Nat.lt_of_lt_of_eq (by decide : Int32.toNatClampNeg (3 : Int32) < 9) rfl) (by omega) (hb hby at_108) (pc' := 109) rfl ?_
      intro h366 A367 z368 K369 S370 C371
      have A367 : Ar Z h366 a340 k341 .char [(.int (101 : Int32)), (.int (118 : Int32)), (.int (101 : Int32)), (.int (114 : Int32)), (.int 0), (.int 0), (.int 0), (.int 0), (.int 0)] := A367
      refine Go.dup (hb hby at_109) (pc' := 110) rfl rfl ?_
      refine Go.iconst (hb hby at_110) (pc' := 111) rfl (z := (4 : Int32)) rfl ?_
      refine Go.bipush (hb hby at_111) (pc' := 113) rfl (z := (121 : Int32)) rfl ?_
      refine Go.castore A367 (by decide) (Nat.lt_of_lt_of_eq (by decide : Int32.toNatClampNeg (4 : Int32) < 9) rfl) (by omega) (hb hby at_113) (pc' := 114) rfl ?_
      intro h372 A373 z374 K375 S376 C377
      have A373 : Ar Z h372 a340 k341 .char [(.int (101 : Int32)), (.int (118 : Int32)), (.int (101 : Int32)), (.int (114 : Int32)), (.int (121 : Int32)), (.int 0), (.int 0), (.int 0), (.int 0)] := A373
      refine Go.dup (hb hby at_114) (pc' := 115) rfl rfl ?_
      refine Go.iconst (hb hby at_115) (pc' := 116) rfl (z := (5 : Int32)) rfl ?_
      refine Go.bipush (hb hby at_116) (pc' := 118) rfl (z := (111 : Int32)) rfl ?_
      refine Go.castore A373 (by decide) (Nat.lt_of_lt_of_eq (by decide : Int32.toNatClampNeg (5 : Int32) < 9) rfl) (by omega) (hb hby at_118) (pc' := 119) rfl ?_
      intro h378 A379 z380 K381 S382 C383
      have A379 : Ar Z h378 a340 k341 .char [(.int (101 : Int32)), (.int (118 : Int32)), (.int (101 : Int32)), (.int (114 : Int32)), (.int (121 : Int32)), (.int (111 : Int32)), (.int 0), (.int 0), (.int 0)] := A379
      refine Go.dup (hb hby at_119) (pc' := 120) rfl rfl ?_
      refine Go.bipush (hb hby at_120) (pc' := 122) rfl (z := (6 : Int32)) rfl ?_
      refine Go.bipush (hb hby at_122) (pc' := 124) rfl (z := (110 : Int32)) rfl ?_
      refine Go.castore A379 (by decide) (Nat.lt_of_lt_of_eq (by decide : Int32.toNatClampNeg (6 : Int32) < 9) rfl) (by omega) (hb hby at_124) (pc' := 125) rfl ?_
      intro h384 A385 z386 K387 S388 C389
      have A385 : Ar Z h384 a340 k341 .char [(.int (101 : Int32)), (.int (118 : Int32)), (.int (101 : Int32)), (.int (114 : Int32)), (.int (121 : Int32)), (.int (111 : Int32)), (.int (110 : Int32)), (.int 0), (.int 0)] := A385
      refine Go.dup (hb hby at_125) (pc' := 126) rfl rfl ?_
      refine Go.bipush (hb hby at_126) (pc' := 128) rfl (z := (7 : Int32)) rfl ?_
      refine Go.bipush (hb hby at_128) (pc' := 130) rfl (z := (101 : Int32)) rfl ?_
      refine Go.castore A385 (by decide) (Nat.lt_of_lt_of_eq (by decide : Int32.toNatClampNeg (7 : Int32) < 9) rfl) (by omega) (hb hby at_130) (pc' := 131) rfl ?_
      intro h390 A391 z392 K393 S394 C395
      have A391 : Ar Z h390 a340 k341 .char [(.int (101 : Int32)), (.int (118 : Int32)), (.int (101 : Int32)), (.int (114 : Int32)), (.int (121 : Int32)), (.int (111 : Int32)), (.int (110 : Int32)), (.int (101 : Int32)), (.int 0)] := A391
      refine Go.dup (hb hby at_131) (pc' := 132) rfl rfl ?_
      refine Go.bipush (hb hby at_132) (pc' := 134) rfl (z := (8 : Int32)) rfl ?_
      refine Go.bipush (hb hby at_134) (pc' := 136) rfl (z := (115 : Int32)) rfl ?_
      refine Go.castore A391 (by decide) (Nat.lt_of_lt_of_eq (by decide : Int32.toNatClampNeg (8 : Int32) < 9) rfl) (by omega) (hb hby at_136) (pc' := 137) rfl ?_
      intro h396 A397 z398 K399 S400 C401
      have A397 : Ar Z h396 a340 k341 .char [(.int (101 : Int32)), (.int (118 : Int32)), (.int (101 : Int32)), (.int (114 : Int32)), (.int (121 : Int32)), (.int (111 : Int32)), (.int (110 : Int32)), (.int (101 : Int32)), (.int (115 : Int32))] := A397
      refine Go.astore (hb hby at_137) (pc' := 139) rfl rfl (L' := #[.val (.int i0), .val (.int i1), .val (.long i2), .second, .val (.int i3), .val (.int (4 : Int32)), .val (.int (1 : Int32)), .val (.ref a277), .val (.ref a340), .unset, .unset, .unset, .unset, .unset, .unset]) rfl ?_
      refine Go.iload (hb hby at_139) (pc' := 141) rfl rfl ?_
      refine Go.ifN (hb hby at_141) (pc' := 144) rfl (show ¬ ((1 : Int32) = (0 : Int32)) from by decide) ?_
      refine Go.aload (hb hby at_144) (pc' := 146) rfl rfl rfl ?_
      refine Go.goto (hb hby at_146) (by decide) (pc' := 151) (by decide) ?_
      refine Go.astore (hb hby at_151) (pc' := 153) rfl rfl (L' := #[.val (.int i0), .val (.int i1), .val (.long i2), .second, .val (.int i3), .val (.int (4 : Int32)), .val (.int (1 : Int32)), .val (.ref a277), .val (.ref a340), .val (.ref a277), .unset, .unset, .unset, .unset, .unset]) rfl ?_
      refine Go.bipush (hb hby at_153) (pc' := 155) rfl (z := (9 : Int32)) rfl ?_
      refine Go.newP (ty := .char) rfl (wd_0 g) (hb hby at_155) (pc' := 157) rfl (by decide) (cap := 9) (by decide) (by decide) (by decide) (by decide) ?_
      intro h402 a403 k404 g405 l406 E407 A408 S409 C410
      have KE407 := Keep.ofExt E407; have zE407 := E407.1
      have A408 : Ar Z h402 a403 k404 .char [(.int 0), (.int 0), (.int 0), (.int 0), (.int 0), (.int 0), (.int 0), (.int 0), (.int 0)] := A408
      refine Go.astore (hb hby at_157) (pc' := 159) rfl rfl (L' := #[.val (.int i0), .val (.int i1), .val (.long i2), .second, .val (.int i3), .val (.int (4 : Int32)), .val (.int (1 : Int32)), .val (.ref a277), .val (.ref a340), .val (.ref a277), .val (.ref a403), .unset, .unset, .unset, .unset]) rfl ?_
      refine Go.aload (hb hby at_159) (pc' := 161) rfl rfl rfl ?_
      refine Go.iconst (hb hby at_161) (pc' := 162) rfl (z := (0 : Int32)) rfl ?_
      refine Go.iloadN (hb hby at_162) (pc' := 163) rfl rfl ?_
      refine Go.iconst (hb hby at_163) (pc' := 164) rfl (z := (0 : Int32)) rfl ?_
      refine Go.aload (hb hby at_164) (pc' := 166) rfl rfl rfl ?_
      refine Go.iconst (hb hby at_166) (pc' := 167) rfl (z := (0 : Int32)) rfl ?_
      have f411 : Ar Z h402 a277 k278 .char [(.int (114 : Int32)), (.int (111 : Int32)), (.int (111 : Int32)), (.int (116 : Int32)), (.int (115 : Int32)), (.int (120 : Int32)), (.int (120 : Int32)), (.int (120 : Int32)), (.int (120 : Int32))] := (((((((((((A334.keep KE344 nin0).keep K351 (ninS (neN (by omega)) nin0)).keep K357 (ninS (neN (by omega)) nin0)).keep K363 (ninS (neN (by omega)) nin0)).keep K369 (ninS (neN (by omega)) nin0)).keep K375 (ninS (neN (by omega)) nin0)).keep K381 (ninS (neN (by omega)) nin0)).keep K387 (ninS (neN (by omega)) nin0)).keep K393 (ninS (neN (by omega)) nin0)).keep K399 (ninS (neN (by omega)) nin0)).keep KE407 nin0)
      refine Go.caload f411 (v := (.int (114 : Int32))) (by decide) rfl (hb hby at_167) (pc' := 168) rfl ?_
      refine Go.lloadN (hb hby at_168) (pc' := 169) rfl rfl ?_
      refine Go.iload (hb hby at_169) (pc' := 171) rfl rfl ?_
      refine Go.callS (c_ch (l := l) (nw := nw) g h402 i1 (0 : Int32) (114 : Int32) i2 i3 (by decide) (by omega)) hown (wd_1 g) (wd_2 g) (wd_4 g) (wd_3 g) (by decide) (argsL := [(.int i1), (.int (0 : Int32)), (.int (114 : Int32)), (.long i2), (.int i3)]) (lenOf pd_6 rfl) rfl (by rw [hml]; rfl) (W := 2) rfl (hb hby at_171) (pc' := 174) rfl (by decide) (by decide) (by decide) (by decide) all0 ?_
      rintro _ vm412 h412 ⟨z_412, rfl, K412, p412_0⟩ C412
      have z412 := K412.1
      -- pc 174
      have f413 : Ar Z h412 a403 k404 .char [(.int 0), (.int 0), (.int 0), (.int 0), (.int 0), (.int 0), (.int 0), (.int 0), (.int 0)] := (A408.keep K412 nin0)
      refine Go.castore f413 (by decide) (Nat.lt_of_lt_of_eq (by decide : Int32.toNatClampNeg (0 : Int32) < 9) rfl) (by omega) (hb hby at_174) (pc' := 175) rfl ?_
      intro h414 A415 z416 K417 S418 C419
      rw [nch p412_0] at A415
      have A415 : Ar Z h414 a403 k404 .char [(.int z_412), (.int 0), (.int 0), (.int 0), (.int 0), (.int 0), (.int 0), (.int 0), (.int 0)] := A415
      refine Go.aload (hb hby at_175) (pc' := 177) rfl rfl rfl ?_
      refine Go.iconst (hb hby at_177) (pc' := 178) rfl (z := (1 : Int32)) rfl ?_
      refine Go.iloadN (hb hby at_178) (pc' := 179) rfl rfl ?_
      refine Go.iconst (hb hby at_179) (pc' := 180) rfl (z := (1 : Int32)) rfl ?_
      refine Go.aload (hb hby at_180) (pc' := 182) rfl rfl rfl ?_
      refine Go.iconst (hb hby at_182) (pc' := 183) rfl (z := (1 : Int32)) rfl ?_
      have f420 : Ar Z h414 a277 k278 .char [(.int (114 : Int32)), (.int (111 : Int32)), (.int (111 : Int32)), (.int (116 : Int32)), (.int (115 : Int32)), (.int (120 : Int32)), (.int (120 : Int32)), (.int (120 : Int32)), (.int (120 : Int32))] := ((f411.keep K412 nin0).keep K417 (ninS (neN (by omega)) nin0))
      refine Go.caload f420 (v := (.int (111 : Int32))) (by decide) rfl (hb hby at_183) (pc' := 184) rfl ?_
      refine Go.lloadN (hb hby at_184) (pc' := 185) rfl rfl ?_
      refine Go.iload (hb hby at_185) (pc' := 187) rfl rfl ?_
      refine Go.callS (c_ch (l := l) (nw := nw) g h414 i1 (1 : Int32) (111 : Int32) i2 i3 (by decide) (by omega)) hown (wd_1 g) (wd_2 g) (wd_4 g) (wd_3 g) (by decide) (argsL := [(.int i1), (.int (1 : Int32)), (.int (111 : Int32)), (.long i2), (.int i3)]) (lenOf pd_6 rfl) rfl (by rw [hml]; rfl) (W := 2) rfl (hb hby at_187) (pc' := 190) rfl (by decide) (by decide) (by decide) (by decide) all0 ?_
      rintro _ vm421 h421 ⟨z_421, rfl, K421, p421_0⟩ C421
      have z421 := K421.1
      -- pc 190
      have f422 : Ar Z h421 a403 k404 .char [(.int z_412), (.int 0), (.int 0), (.int 0), (.int 0), (.int 0), (.int 0), (.int 0), (.int 0)] := (A415.keep K421 nin0)
      refine Go.castore f422 (by decide) (Nat.lt_of_lt_of_eq (by decide : Int32.toNatClampNeg (1 : Int32) < 9) rfl) (by omega) (hb hby at_190) (pc' := 191) rfl ?_
      intro h423 A424 z425 K426 S427 C428
      rw [nch p421_0] at A424
      have A424 : Ar Z h423 a403 k404 .char [(.int z_412), (.int z_421), (.int 0), (.int 0), (.int 0), (.int 0), (.int 0), (.int 0), (.int 0)] := A424
      refine Go.aload (hb hby at_191) (pc' := 193) rfl rfl rfl ?_
      refine Go.iconst (hb hby at_193) (pc' := 194) rfl (z := (2 : Int32)) rfl ?_
      refine Go.iloadN (hb hby at_194) (pc' := 195) rfl rfl ?_
      refine Go.iconst (hb hby at_195) (pc' := 196) rfl (z := (2 : Int32)) rfl ?_
      refine Go.aload (hb hby at_196) (pc' := 198) rfl rfl rfl ?_
      refine Go.iconst (hb hby at_198) (pc' := 199) rfl (z := (2 : Int32)) rfl ?_
      have f429 : Ar Z h423 a277 k278 .char [(.int (114 : Int32)), (.int (111 : Int32)), (.int (111 : Int32)), (.int (116 : Int32)), (.int (115 : Int32)), (.int (120 : Int32)), (.int (120 : Int32)), (.int (120 : Int32)), (.int (120 : Int32))] := ((f420.keep K421 nin0).keep K426 (ninS (neN (by omega)) nin0))
      refine Go.caload f429 (v := (.int (111 : Int32))) (by decide) rfl (hb hby at_199) (pc' := 200) rfl ?_
      refine Go.lloadN (hb hby at_200) (pc' := 201) rfl rfl ?_
      refine Go.iload (hb hby at_201) (pc' := 203) rfl rfl ?_
      refine Go.callS (c_ch (l := l) (nw := nw) g h423 i1 (2 : Int32) (111 : Int32) i2 i3 (by decide) (by omega)) hown (wd_1 g) (wd_2 g) (wd_4 g) (wd_3 g) (by decide) (argsL := [(.int i1), (.int (2 : Int32)), (.int (111 : Int32)), (.long i2), (.int i3)]) (lenOf pd_6 rfl) rfl (by rw [hml]; rfl) (W := 2) rfl (hb hby at_203) (pc' := 206) rfl (by decide) (by decide) (by decide) (by decide) all0 ?_
      rintro _ vm430 h430 ⟨z_430, rfl, K430, p430_0⟩ C430
      have z430 := K430.1
      -- pc 206
      have f431 : Ar Z h430 a403 k404 .char [(.int z_412), (.int z_421), (.int 0), (.int 0), (.int 0), (.int 0), (.int 0), (.int 0), (.int 0)] := (A424.keep K430 nin0)
      refine Go.castore f431 (by decide) (Nat.lt_of_lt_of_eq (by decide : Int32.toNatClampNeg (2 : Int32) < 9) rfl) (by omega) (hb hby at_206) (pc' := 207) rfl ?_
      intro h432 A433 z434 K435 S436 C437
      rw [nch p430_0] at A433
      have A433 : Ar Z h432 a403 k404 .char [(.int z_412), (.int z_421), (.int z_430), (.int 0), (.int 0), (.int 0), (.int 0), (.int 0), (.int 0)] := A433
      refine Go.aload (hb hby at_207) (pc' := 209) rfl rfl rfl ?_
      refine Go.iconst (hb hby at_209) (pc' := 210) rfl (z := (3 : Int32)) rfl ?_
      refine Go.iloadN (hb hby at_210) (pc' := 211) rfl rfl ?_
      refine Go.iconst (hb hby at_211) (pc' := 212) rfl (z := (3 : Int32)) rfl ?_
      refine Go.aload (hb hby at_212) (pc' := 214) rfl rfl rfl ?_
      refine Go.iconst (hb hby at_214) (pc' := 215) rfl (z := (3 : Int32)) rfl ?_
      have f438 : Ar Z h432 a277 k278 .char [(.int (114 : Int32)), (.int (111 : Int32)), (.int (111 : Int32)), (.int (116 : Int32)), (.int (115 : Int32)), (.int (120 : Int32)), (.int (120 : Int32)), (.int (120 : Int32)), (.int (120 : Int32))] := ((f429.keep K430 nin0).keep K435 (ninS (neN (by omega)) nin0))
      refine Go.caload f438 (v := (.int (116 : Int32))) (by decide) rfl (hb hby at_215) (pc' := 216) rfl ?_
      refine Go.lloadN (hb hby at_216) (pc' := 217) rfl rfl ?_
      refine Go.iload (hb hby at_217) (pc' := 219) rfl rfl ?_
      refine Go.callS (c_ch (l := l) (nw := nw) g h432 i1 (3 : Int32) (116 : Int32) i2 i3 (by decide) (by omega)) hown (wd_1 g) (wd_2 g) (wd_4 g) (wd_3 g) (by decide) (argsL := [(.int i1), (.int (3 : Int32)), (.int (116 : Int32)), (.long i2), (.int i3)]) (lenOf pd_6 rfl) rfl (by rw [hml]; rfl) (W := 2) rfl (hb hby at_219) (pc' := 222) rfl (by decide) (by decide) (by decide) (by decide) all0 ?_
      rintro _ vm439 h439 ⟨z_439, rfl, K439, p439_0⟩ C439
      have z439 := K439.1
      -- pc 222
      have f440 : Ar Z h439 a403 k404 .char [(.int z_412), (.int z_421), (.int z_430), (.int 0), (.int 0), (.int 0), (.int 0), (.int 0), (.int 0)] := (A433.keep K439 nin0)
      refine Go.castore f440 (by decide) (Nat.lt_of_lt_of_eq (by decide : Int32.toNatClampNeg (3 : Int32) < 9) rfl) (by omega) (hb hby at_222) (pc' := 223) rfl ?_
      intro h441 A442 z443 K444 S445 C446
      rw [nch p439_0] at A442
      have A442 : Ar Z h441 a403 k404 .char [(.int z_412), (.int z_421), (.int z_430), (.int z_439), (.int 0), (.int 0), (.int 0), (.int 0), (.int 0)] := A442
      refine Go.aload (hb hby at_223) (pc' := 225) rfl rfl rfl ?_
      refine Go.iconst (hb hby at_225) (pc' := 226) rfl (z := (4 : Int32)) rfl ?_
      refine Go.iloadN (hb hby at_226) (pc' := 227) rfl rfl ?_
      refine Go.iconst (hb hby at_227) (pc' := 228) rfl (z := (4 : Int32)) rfl ?_
      refine Go.aload (hb hby at_228) (pc' := 230) rfl rfl rfl ?_
      refine Go.iconst (hb hby at_230) (pc' := 231) rfl (z := (4 : Int32)) rfl ?_
      have f447 : Ar Z h441 a277 k278 .char [(.int (114 : Int32)), (.int (111 : Int32)), (.int (111 : Int32)), (.int (116 : Int32)), (.int (115 : Int32)), (.int (120 : Int32)), (.int (120 : Int32)), (.int (120 : Int32)), (.int (120 : Int32))] := ((f438.keep K439 nin0).keep K444 (ninS (neN (by omega)) nin0))
      refine Go.caload f447 (v := (.int (115 : Int32))) (by decide) rfl (hb hby at_231) (pc' := 232) rfl ?_
      refine Go.lloadN (hb hby at_232) (pc' := 233) rfl rfl ?_
      refine Go.iload (hb hby at_233) (pc' := 235) rfl rfl ?_
      refine Go.callS (c_ch (l := l) (nw := nw) g h441 i1 (4 : Int32) (115 : Int32) i2 i3 (by decide) (by omega)) hown (wd_1 g) (wd_2 g) (wd_4 g) (wd_3 g) (by decide) (argsL := [(.int i1), (.int (4 : Int32)), (.int (115 : Int32)), (.long i2), (.int i3)]) (lenOf pd_6 rfl) rfl (by rw [hml]; rfl) (W := 2) rfl (hb hby at_235) (pc' := 238) rfl (by decide) (by decide) (by decide) (by decide) all0 ?_
      rintro _ vm448 h448 ⟨z_448, rfl, K448, p448_0⟩ C448
      have z448 := K448.1
      -- pc 238
      have f449 : Ar Z h448 a403 k404 .char [(.int z_412), (.int z_421), (.int z_430), (.int z_439), (.int 0), (.int 0), (.int 0), (.int 0), (.int 0)] := (A442.keep K448 nin0)
      refine Go.castore f449 (by decide) (Nat.lt_of_lt_of_eq (by decide : Int32.toNatClampNeg (4 : Int32) < 9) rfl) (by omega) (hb hby at_238) (pc' := 239) rfl ?_
      intro h450 A451 z452 K453 S454 C455
      rw [nch p448_0] at A451
      have A451 : Ar Z h450 a403 k404 .char [(.int z_412), (.int z_421), (.int z_430), (.int z_439), (.int z_448), (.int 0), (.int 0), (.int 0), (.int 0)] := A451
      refine Go.aload (hb hby at_239) (pc' := 241) rfl rfl rfl ?_
      refine Go.iconst (hb hby at_241) (pc' := 242) rfl (z := (5 : Int32)) rfl ?_
      refine Go.iloadN (hb hby at_242) (pc' := 243) rfl rfl ?_
      refine Go.iconst (hb hby at_243) (pc' := 244) rfl (z := (5 : Int32)) rfl ?_
      refine Go.aload (hb hby at_244) (pc' := 246) rfl rfl rfl ?_
      refine Go.iconst (hb hby at_246) (pc' := 247) rfl (z := (5 : Int32)) rfl ?_
      have f456 : Ar Z h450 a277 k278 .char [(.int (114 : Int32)), (.int (111 : Int32)), (.int (111 : Int32)), (.int (116 : Int32)), (.int (115 : Int32)), (.int (120 : Int32)), (.int (120 : Int32)), (.int (120 : Int32)), (.int (120 : Int32))] := ((f447.keep K448 nin0).keep K453 (ninS (neN (by omega)) nin0))
      refine Go.caload f456 (v := (.int (120 : Int32))) (by decide) rfl (hb hby at_247) (pc' := 248) rfl ?_
      refine Go.lloadN (hb hby at_248) (pc' := 249) rfl rfl ?_
      refine Go.iload (hb hby at_249) (pc' := 251) rfl rfl ?_
      refine Go.callS (c_ch (l := l) (nw := nw) g h450 i1 (5 : Int32) (120 : Int32) i2 i3 (by decide) (by omega)) hown (wd_1 g) (wd_2 g) (wd_4 g) (wd_3 g) (by decide) (argsL := [(.int i1), (.int (5 : Int32)), (.int (120 : Int32)), (.long i2), (.int i3)]) (lenOf pd_6 rfl) rfl (by rw [hml]; rfl) (W := 2) rfl (hb hby at_251) (pc' := 254) rfl (by decide) (by decide) (by decide) (by decide) all0 ?_
      rintro _ vm457 h457 ⟨z_457, rfl, K457, p457_0⟩ C457
      have z457 := K457.1
      -- pc 254
      have f458 : Ar Z h457 a403 k404 .char [(.int z_412), (.int z_421), (.int z_430), (.int z_439), (.int z_448), (.int 0), (.int 0), (.int 0), (.int 0)] := (A451.keep K457 nin0)
      refine Go.castore f458 (by decide) (Nat.lt_of_lt_of_eq (by decide : Int32.toNatClampNeg (5 : Int32) < 9) rfl) (by omega) (hb hby at_254) (pc' := 255) rfl ?_
      intro h459 A460 z461 K462 S463 C464
      rw [nch p457_0] at A460
      have A460 : Ar Z h459 a403 k404 .char [(.int z_412), (.int z_421), (.int z_430), (.int z_439), (.int z_448), (.int z_457), (.int 0), (.int 0), (.int 0)] := A460
      refine Go.aload (hb hby at_255) (pc' := 257) rfl rfl rfl ?_
      refine Go.bipush (hb hby at_257) (pc' := 259) rfl (z := (6 : Int32)) rfl ?_
      refine Go.iloadN (hb hby at_259) (pc' := 260) rfl rfl ?_
      refine Go.bipush (hb hby at_260) (pc' := 262) rfl (z := (6 : Int32)) rfl ?_
      refine Go.aload (hb hby at_262) (pc' := 264) rfl rfl rfl ?_
      refine Go.bipush (hb hby at_264) (pc' := 266) rfl (z := (6 : Int32)) rfl ?_
      have f465 : Ar Z h459 a277 k278 .char [(.int (114 : Int32)), (.int (111 : Int32)), (.int (111 : Int32)), (.int (116 : Int32)), (.int (115 : Int32)), (.int (120 : Int32)), (.int (120 : Int32)), (.int (120 : Int32)), (.int (120 : Int32))] := ((f456.keep K457 nin0).keep K462 (ninS (neN (by omega)) nin0))
      refine Go.caload f465 (v := (.int (120 : Int32))) (by decide) rfl (hb hby at_266) (pc' := 267) rfl ?_
      refine Go.lloadN (hb hby at_267) (pc' := 268) rfl rfl ?_
      refine Go.iload (hb hby at_268) (pc' := 270) rfl rfl ?_
      refine Go.callS (c_ch (l := l) (nw := nw) g h459 i1 (6 : Int32) (120 : Int32) i2 i3 (by decide) (by omega)) hown (wd_1 g) (wd_2 g) (wd_4 g) (wd_3 g) (by decide) (argsL := [(.int i1), (.int (6 : Int32)), (.int (120 : Int32)), (.long i2), (.int i3)]) (lenOf pd_6 rfl) rfl (by rw [hml]; rfl) (W := 2) rfl (hb hby at_270) (pc' := 273) rfl (by decide) (by decide) (by decide) (by decide) all0 ?_
      rintro _ vm466 h466 ⟨z_466, rfl, K466, p466_0⟩ C466
      have z466 := K466.1
      -- pc 273
      have f467 : Ar Z h466 a403 k404 .char [(.int z_412), (.int z_421), (.int z_430), (.int z_439), (.int z_448), (.int z_457), (.int 0), (.int 0), (.int 0)] := (A460.keep K466 nin0)
      refine Go.castore f467 (by decide) (Nat.lt_of_lt_of_eq (by decide : Int32.toNatClampNeg (6 : Int32) < 9) rfl) (by omega) (hb hby at_273) (pc' := 274) rfl ?_
      intro h468 A469 z470 K471 S472 C473
      rw [nch p466_0] at A469
      have A469 : Ar Z h468 a403 k404 .char [(.int z_412), (.int z_421), (.int z_430), (.int z_439), (.int z_448), (.int z_457), (.int z_466), (.int 0), (.int 0)] := A469
      refine Go.aload (hb hby at_274) (pc' := 276) rfl rfl rfl ?_
      refine Go.bipush (hb hby at_276) (pc' := 278) rfl (z := (7 : Int32)) rfl ?_
      refine Go.iloadN (hb hby at_278) (pc' := 279) rfl rfl ?_
      refine Go.bipush (hb hby at_279) (pc' := 281) rfl (z := (7 : Int32)) rfl ?_
      refine Go.aload (hb hby at_281) (pc' := 283) rfl rfl rfl ?_
      refine Go.bipush (hb hby at_283) (pc' := 285) rfl (z := (7 : Int32)) rfl ?_
      have f474 : Ar Z h468 a277 k278 .char [(.int (114 : Int32)), (.int (111 : Int32)), (.int (111 : Int32)), (.int (116 : Int32)), (.int (115 : Int32)), (.int (120 : Int32)), (.int (120 : Int32)), (.int (120 : Int32)), (.int (120 : Int32))] := ((f465.keep K466 nin0).keep K471 (ninS (neN (by omega)) nin0))
      refine Go.caload f474 (v := (.int (120 : Int32))) (by decide) rfl (hb hby at_285) (pc' := 286) rfl ?_
      refine Go.lloadN (hb hby at_286) (pc' := 287) rfl rfl ?_
      refine Go.iload (hb hby at_287) (pc' := 289) rfl rfl ?_
      refine Go.callS (c_ch (l := l) (nw := nw) g h468 i1 (7 : Int32) (120 : Int32) i2 i3 (by decide) (by omega)) hown (wd_1 g) (wd_2 g) (wd_4 g) (wd_3 g) (by decide) (argsL := [(.int i1), (.int (7 : Int32)), (.int (120 : Int32)), (.long i2), (.int i3)]) (lenOf pd_6 rfl) rfl (by rw [hml]; rfl) (W := 2) rfl (hb hby at_289) (pc' := 292) rfl (by decide) (by decide) (by decide) (by decide) all0 ?_
      rintro _ vm475 h475 ⟨z_475, rfl, K475, p475_0⟩ C475
      have z475 := K475.1
      -- pc 292
      have f476 : Ar Z h475 a403 k404 .char [(.int z_412), (.int z_421), (.int z_430), (.int z_439), (.int z_448), (.int z_457), (.int z_466), (.int 0), (.int 0)] := (A469.keep K475 nin0)
      refine Go.castore f476 (by decide) (Nat.lt_of_lt_of_eq (by decide : Int32.toNatClampNeg (7 : Int32) < 9) rfl) (by omega) (hb hby at_292) (pc' := 293) rfl ?_
      intro h477 A478 z479 K480 S481 C482
      rw [nch p475_0] at A478
      have A478 : Ar Z h477 a403 k404 .char [(.int z_412), (.int z_421), (.int z_430), (.int z_439), (.int z_448), (.int z_457), (.int z_466), (.int z_475), (.int 0)] := A478
      refine Go.aload (hb hby at_293) (pc' := 295) rfl rfl rfl ?_
      refine Go.bipush (hb hby at_295) (pc' := 297) rfl (z := (8 : Int32)) rfl ?_
      refine Go.iloadN (hb hby at_297) (pc' := 298) rfl rfl ?_
      refine Go.bipush (hb hby at_298) (pc' := 300) rfl (z := (8 : Int32)) rfl ?_
      refine Go.aload (hb hby at_300) (pc' := 302) rfl rfl rfl ?_
      refine Go.bipush (hb hby at_302) (pc' := 304) rfl (z := (8 : Int32)) rfl ?_
      have f483 : Ar Z h477 a277 k278 .char [(.int (114 : Int32)), (.int (111 : Int32)), (.int (111 : Int32)), (.int (116 : Int32)), (.int (115 : Int32)), (.int (120 : Int32)), (.int (120 : Int32)), (.int (120 : Int32)), (.int (120 : Int32))] := ((f474.keep K475 nin0).keep K480 (ninS (neN (by omega)) nin0))
      refine Go.caload f483 (v := (.int (120 : Int32))) (by decide) rfl (hb hby at_304) (pc' := 305) rfl ?_
      refine Go.lloadN (hb hby at_305) (pc' := 306) rfl rfl ?_
      refine Go.iload (hb hby at_306) (pc' := 308) rfl rfl ?_
      refine Go.callS (c_ch (l := l) (nw := nw) g h477 i1 (8 : Int32) (120 : Int32) i2 i3 (by decide) (by omega)) hown (wd_1 g) (wd_2 g) (wd_4 g) (wd_3 g) (by decide) (argsL := [(.int i1), (.int (8 : Int32)), (.int (120 : Int32)), (.long i2), (.int i3)]) (lenOf pd_6 rfl) rfl (by rw [hml]; rfl) (W := 2) rfl (hb hby at_308) (pc' := 311) rfl (by decide) (by decide) (by decide) (by decide) all0 ?_
      rintro _ vm484 h484 ⟨z_484, rfl, K484, p484_0⟩ C484
      have z484 := K484.1
      -- pc 311
      have f485 : Ar Z h484 a403 k404 .char [(.int z_412), (.int z_421), (.int z_430), (.int z_439), (.int z_448), (.int z_457), (.int z_466), (.int z_475), (.int 0)] := (A478.keep K484 nin0)
      refine Go.castore f485 (by decide) (Nat.lt_of_lt_of_eq (by decide : Int32.toNatClampNeg (8 : Int32) < 9) rfl) (by omega) (hb hby at_311) (pc' := 312) rfl ?_
      intro h486 A487 z488 K489 S490 C491
      rw [nch p484_0] at A487
      have A487 : Ar Z h486 a403 k404 .char [(.int z_412), (.int z_421), (.int z_430), (.int z_439), (.int z_448), (.int z_457), (.int z_466), (.int z_475), (.int z_484)] := A487
      refine Go.iload (hb hby at_312) (pc' := 314) rfl rfl ?_
      refine Go.ifY (hb hby at_314) (by decide) (pc' := 323) (by decide) (show ¬ (4 : Int32) = (0 : Int32) from by decide) ?_
      refine Go.iload (hb hby at_323) (pc' := 325) rfl rfl ?_
      refine Go.iconst (hb hby at_325) (pc' := 326) rfl (z := (1 : Int32)) rfl ?_
      refine Go.icmpY (hb hby at_326) (by decide) (pc' := 344) (by decide) (show ¬ (4 : Int32) = (1 : Int32) from by decide) ?_
      refine Go.iload (hb hby at_344) (pc' := 346) rfl rfl ?_
      refine Go.iconst (hb hby at_346) (pc' := 347) rfl (z := (2 : Int32)) rfl ?_
      refine Go.icmpY (hb hby at_347) (by decide) (pc' := 393) (by decide) (show ¬ (4 : Int32) = (2 : Int32) from by decide) ?_
      refine Go.iload (hb hby at_393) (pc' := 395) rfl rfl ?_
      refine Go.iconst (hb hby at_395) (pc' := 396) rfl (z := (3 : Int32)) rfl ?_
      refine Go.icmpY (hb hby at_396) (by decide) (pc' := 475) (by decide) (show ¬ (4 : Int32) = (3 : Int32) from by decide) ?_
      refine Go.iload (hb hby at_475) (pc' := 477) rfl rfl ?_
      refine Go.iconst (hb hby at_477) (pc' := 478) rfl (z := (4 : Int32)) rfl ?_
      refine Go.icmpN (hb hby at_478) (pc' := 481) rfl (show ¬ (¬ (4 : Int32) = (4 : Int32)) from by decide) ?_
      refine Go.newO hown (wd_24 g) (wd_12 g) (wd_11 g) (hb hby at_481) (pc' := 484) rfl (by decide) (by decide) ?_
      intro h492 a493 g494 l495 E496 X497 D498 S499 C500
      have KE496 := Keep.ofExt E496; have zE496 := E496.1
      have f501 : Fld Z h492 a493 "java/lang/String" "value" "[B" .null := D498 (Or.inr (wd_14 g)) (ty := (.array .byte)) (by decide)
      have f502 : Fld Z h492 a493 "java/lang/String" "coder" "B" (.int 0) := D498 (Or.inr (wd_15 g)) (ty := .byte) (by decide)
      refine Go.dup (hb hby at_484) (pc' := 485) rfl rfl ?_
      refine Go.iconst (hb hby at_485) (pc' := 486) rfl (z := (3 : Int32)) rfl ?_
      refine Go.newP (ty := .char) rfl (wd_0 g) (hb hby at_486) (pc' := 488) rfl (by decide) (cap := 3) (by decide) (by decide) (by decide) (by decide) ?_
      intro h503 a504 k505 g506 l507 E508 A509 S510 C511
      have KE508 := Keep.ofExt E508; have zE508 := E508.1
      have A509 : Ar Z h503 a504 k505 .char [(.int 0), (.int 0), (.int 0)] := A509
      refine Go.dup (hb hby at_488) (pc' := 489) rfl rfl ?_
      refine Go.iconst (hb hby at_489) (pc' := 490) rfl (z := (0 : Int32)) rfl ?_
      refine Go.aload (hb hby at_490) (pc' := 492) rfl rfl rfl ?_
      refine Go.iconst (hb hby at_492) (pc' := 493) rfl (z := (0 : Int32)) rfl ?_
      have f512 : Ar Z h503 a403 k404 .char [(.int z_412), (.int z_421), (.int z_430), (.int z_439), (.int z_448), (.int z_457), (.int z_466), (.int z_475), (.int z_484)] := ((A487.keep KE496 nin0).keep KE508 nin0)
      refine Go.caload f512 (v := (.int z_412)) (by decide) rfl (hb hby at_493) (pc' := 494) rfl ?_
      refine Go.castore A509 (by decide) (Nat.lt_of_lt_of_eq (by decide : Int32.toNatClampNeg (0 : Int32) < 3) rfl) (by omega) (hb hby at_494) (pc' := 495) rfl ?_
      intro h513 A514 z515 K516 S517 C518
      rw [nch p412_0] at A514
      have A514 : Ar Z h513 a504 k505 .char [(.int z_412), (.int 0), (.int 0)] := A514
      refine Go.dup (hb hby at_495) (pc' := 496) rfl rfl ?_
      refine Go.iconst (hb hby at_496) (pc' := 497) rfl (z := (1 : Int32)) rfl ?_
      refine Go.aload (hb hby at_497) (pc' := 499) rfl rfl rfl ?_
      refine Go.iconst (hb hby at_499) (pc' := 500) rfl (z := (1 : Int32)) rfl ?_
      have f519 : Ar Z h513 a403 k404 .char [(.int z_412), (.int z_421), (.int z_430), (.int z_439), (.int z_448), (.int z_457), (.int z_466), (.int z_475), (.int z_484)] := (f512.keep K516 (ninS (neN (by omega)) nin0))
      refine Go.caload f519 (v := (.int z_421)) (by decide) rfl (hb hby at_500) (pc' := 501) rfl ?_
      refine Go.castore A514 (by decide) (Nat.lt_of_lt_of_eq (by decide : Int32.toNatClampNeg (1 : Int32) < 3) rfl) (by omega) (hb hby at_501) (pc' := 502) rfl ?_
      intro h520 A521 z522 K523 S524 C525
      rw [nch p421_0] at A521
      have A521 : Ar Z h520 a504 k505 .char [(.int z_412), (.int z_421), (.int 0)] := A521
      refine Go.dup (hb hby at_502) (pc' := 503) rfl rfl ?_
      refine Go.iconst (hb hby at_503) (pc' := 504) rfl (z := (2 : Int32)) rfl ?_
      refine Go.aload (hb hby at_504) (pc' := 506) rfl rfl rfl ?_
      refine Go.iconst (hb hby at_506) (pc' := 507) rfl (z := (2 : Int32)) rfl ?_
      have f526 : Ar Z h520 a403 k404 .char [(.int z_412), (.int z_421), (.int z_430), (.int z_439), (.int z_448), (.int z_457), (.int z_466), (.int z_475), (.int z_484)] := (f519.keep K523 (ninS (neN (by omega)) nin0))
      refine Go.caload f526 (v := (.int z_430)) (by decide) rfl (hb hby at_507) (pc' := 508) rfl ?_
      refine Go.castore A521 (by decide) (Nat.lt_of_lt_of_eq (by decide : Int32.toNatClampNeg (2 : Int32) < 3) rfl) (by omega) (hb hby at_508) (pc' := 509) rfl ?_
      intro h527 A528 z529 K530 S531 C532
      rw [nch p430_0] at A528
      have A528 : Ar Z h527 a504 k505 .char [(.int z_412), (.int z_421), (.int z_430)] := A528
      have f533 : Exa Z h527 a493 "java/lang/String" := ((((X497.keep KE508).keep K516).keep K523).keep K530)
      have f534 : Fld Z h527 a493 "java/lang/String" "coder" "B" (.int 0) := ((((f502.keep KE508 nin0).keep K516 (ninS (neN (by omega)) nin0)).keep K523 (ninS (neN (by omega)) nin0)).keep K530 (ninS (neN (by omega)) nin0))
      have f535 : Fld Z h527 a493 "java/lang/String" "value" "[B" .null := ((((f501.keep KE508 nin0).keep K516 (ninS (neN (by omega)) nin0)).keep K523 (ninS (neN (by omega)) nin0)).keep K530 (ninS (neN (by omega)) nin0))
      have f536 : Safe Z EL vm484 h527 a493 := (Safe.to C532 (by omega) (Safe.to C525 (by omega) (Safe.to C518 (by omega) (Safe.to C511 (by omega) S499))))
      refine Go.callC (c_strinit (l := l) (nw := nw) g h527 a493 a504 k505 [z_412, z_421, z_430] (alS p412_0 (alS p421_0 (alS p430_0 al0))) (by simp) (by simp) (by first | omega | assumption | decide) f533 f534 f535 A528 (by omega)) hown rfl rfl (wd_25 g) (wd_26 g) (wd_27 g) (wd_11 g) (by decide) (argsL := [(.ref a504)]) (lenOf pd_7 rfl) rfl (by rw [hml]; rfl) (W := 1) rfl (hb hby at_509) (pc' := 512) rfl (by decide) (by decide) (by decide) (by decide) (allS ⟨by omega, f536⟩ all0) ?_
      rintro _ vm537 h537 ⟨d_537, kd_537, rfl, K537, p537_0, o537_0⟩ C537
      have z537 := K537.1
      have yo537_0 := ltN o537_0.lt; have yo537_0' := ltN o537_0.ltb
      -- pc 512
      refine Go.astore (hb hby at_512) (pc' := 514) rfl rfl (L' := #[.val (.int i0), .val (.int i1), .val (.long i2), .second, .val (.int i3), .val (.int (4 : Int32)), .val (.int (1 : Int32)), .val (.ref a277), .val (.ref a340), .val (.ref a277), .val (.ref a403), .val (.ref a493), .unset, .unset, .unset]) rfl ?_
      refine Go.goto (hb hby at_514) (by decide) (pc' := 729) (by decide) ?_
      refine Go.iload (hb hby at_729) (pc' := 731) rfl rfl ?_
      refine Go.iconst (hb hby at_731) (pc' := 732) rfl (z := (2 : Int32)) rfl ?_
      refine Go.icmpY (hb hby at_732) (by decide) (pc' := 775) (by decide) (show ¬ (4 : Int32) = (2 : Int32) from by decide) ?_
      refine Go.iconst (hb hby at_775) (pc' := 776) rfl (z := (0 : Int32)) rfl ?_
      refine Go.istore (hb hby at_776) (pc' := 778) rfl (L' := #[.val (.int i0), .val (.int i1), .val (.long i2), .second, .val (.int i3), .val (.int (4 : Int32)), .val (.int (1 : Int32)), .val (.ref a277), .val (.ref a340), .val (.ref a277), .val (.ref a403), .val (.ref a493), .val (.int (0 : Int32)), .unset, .unset]) rfl ?_
      refine Go.iload (hb hby at_778) (pc' := 780) rfl rfl ?_
      refine Go.iconst (hb hby at_780) (pc' := 781) rfl (z := (3 : Int32)) rfl ?_
      refine Go.icmpY (hb hby at_781) (by decide) (pc' := 862) (by decide) (show ¬ (4 : Int32) = (3 : Int32) from by decide) ?_
      refine Go.iconst (hb hby at_862) (pc' := 863) rfl (z := (0 : Int32)) rfl ?_
      refine Go.istore (hb hby at_863) (pc' := 865) rfl (L' := #[.val (.int i0), .val (.int i1), .val (.long i2), .second, .val (.int i3), .val (.int (4 : Int32)), .val (.int (1 : Int32)), .val (.ref a277), .val (.ref a340), .val (.ref a277), .val (.ref a403), .val (.ref a493), .val (.int (0 : Int32)), .val (.int (0 : Int32)), .unset]) rfl ?_
      refine Go.iload (hb hby at_865) (pc' := 867) rfl rfl ?_
      refine Go.ifN (hb hby at_867) (pc' := 870) rfl (show ¬ (¬ (0 : Int32) = (0 : Int32)) from by decide) ?_
      refine Go.iload (hb hby at_870) (pc' := 872) rfl rfl ?_
      refine Go.ifY (hb hby at_872) (by decide) (pc' := 879) (by decide) (show (0 : Int32) = (0 : Int32) from by decide) ?_
      refine Go.iconst (hb hby at_879) (pc' := 880) rfl (z := (0 : Int32)) rfl ?_
      refine Go.istore (hb hby at_880) (pc' := 882) rfl (L' := #[.val (.int i0), .val (.int i1), .val (.long i2), .second, .val (.int i3), .val (.int (4 : Int32)), .val (.int (1 : Int32)), .val (.ref a277), .val (.ref a340), .val (.ref a277), .val (.ref a403), .val (.ref a493), .val (.int (0 : Int32)), .val (.int (0 : Int32)), .val (.int (0 : Int32))]) rfl ?_
      refine Go.aload (hb hby at_882) (pc' := 884) rfl rfl rfl ?_
      refine Go.callS (c_res (l := l) (nw := nw) g hnw h537 a493 d_537 kd_537 ([z_412, z_421, z_430].map by8) o537_0 (by omega)) hown (wd_6 g) (wd_7 g) (wd_9 g) (wd_8 g) (by decide) (argsL := [(.ref a493)]) (lenOf pd_8 rfl) rfl (by rw [hml]; rfl) (W := 0) rfl (hb hby at_884) (pc' := 887) rfl (by decide) (by decide) (by decide) (by decide) all0 ?_
      rintro _ vm538 h538 ⟨rfl, K538⟩ C538
      have z538 := K538.1
      -- pc 887
      refine Go.iload (hb hby at_887) (pc' := 889) rfl rfl ?_
      refine Go.icmpN (hb hby at_889) (pc' := 892) rfl (fun q => q (bo_no (fun z => z.elim (fun z => absurd (congrArg List.length z) (by simp)) (fun z => absurd (congrArg List.length z) (by simp))))) ?_
      refine Go.iconst (hb hby at_892) (pc' := 893) rfl (z := (1 : Int32)) rfl ?_
      refine Go.goto (hb hby at_893) (by decide) (pc' := 897) (by decide) ?_
      refine Go.retN (t := .boolean) hret (by simp) (hb hby at_897) (by decide) (by decide) ?_
      intro vmR CR
      exact ⟨(by first | rfl | (simp only [own_nar]; done) | (congr 2; done)), (((((((((((((((((((((((((((((((((((((((((((((((Keep.refl h []).trans KE281 all0).trans K288 (allS (by first | (left; simp; done) | (right; omega)) all0)).trans K294 (allS (by first | (left; simp; done) | (right; omega)) all0)).trans K300 (allS (by first | (left; simp; done) | (right; omega)) all0)).trans K306 (allS (by first | (left; simp; done) | (right; omega)) all0)).trans K312 (allS (by first | (left; simp; done) | (right; omega)) all0)).trans K318 (allS (by first | (left; simp; done) | (right; omega)) all0)).trans K324 (allS (by first | (left; simp; done) | (right; omega)) all0)).trans K330 (allS (by first | (left; simp; done) | (right; omega)) all0)).trans K336 (allS (by first | (left; simp; done) | (right; omega)) all0)).trans KE344 all0).trans K351 (allS (by first | (left; simp; done) | (right; omega)) all0)).trans K357 (allS (by first | (left; simp; done) | (right; omega)) all0)).trans K363 (allS (by first | (left; simp; done) | (right; omega)) all0)).trans K369 (allS (by first | (left; simp; done) | (right; omega)) all0)).trans K375 (allS (by first | (left; simp; done) | (right; omega)) all0)).trans K381 (allS (by first | (left; simp; done) | (right; omega)) all0)).trans K387 (allS (by first | (left; simp; done) | (right; omega)) all0)).trans K393 (allS (by first | (left; simp; done) | (right; omega)) all0)).trans K399 (allS (by first | (left; simp; done) | (right; omega)) all0)).trans KE407 all0).trans K412 all0).trans K417 (allS (by first | (left; simp; done) | (right; omega)) all0)).trans K421 all0).trans K426 (allS (by first | (left; simp; done) | (right; omega)) all0)).trans K430 all0).trans K435 (allS (by first | (left; simp; done) | (right; omega)) all0)).trans K439 all0).trans K444 (allS (by first | (left; simp; done) | (right; omega)) all0)).trans K448 all0).trans K453 (allS (by first | (left; simp; done) | (right; omega)) all0)).trans K457 all0).trans K462 (allS (by first | (left; simp; done) | (right; omega)) all0)).trans K466 all0).trans K471 (allS (by first | (left; simp; done) | (right; omega)) all0)).trans K475 all0).trans K480 (allS (by first | (left; simp; done) | (right; omega)) all0)).trans K484 all0).trans K489 (allS (by first | (left; simp; done) | (right; omega)) all0)).trans KE496 all0).trans KE508 all0).trans K516 (allS (by first | (left; simp; done) | (right; omega)) all0)).trans K523 (allS (by first | (left; simp; done) | (right; omega)) all0)).trans K530 (allS (by first | (left; simp; done) | (right; omega)) all0)).trans K537 (allS (by first | (left; simp; done) | (right; omega)) all0)).trans K538 all0)⟩
    · refine Go.iload (hb hby at_18) (pc' := 20) rfl rfl ?_
      refine Go.iconst (hb hby at_20) (pc' := 21) rfl (z := (5 : Int32)) rfl ?_
      refine Go.icmp (hb hby at_21) (by decide) (pc' := 28) (by decide) (pc2 := 24) rfl (fun (q21 : ¬ k = (5 : Int32)) => ?_) (fun (q21 : ¬ (¬ k = (5 : Int32))) => ?_)
      · refine Go.iconst (hb hby at_28) (pc' := 29) rfl (z := (0 : Int32)) rfl ?_
        refine Go.istore (hb hby at_29) (pc' := 31) rfl (L' := #[.val (.int i0), .val (.int i1), .val (.long i2), .second, .val (.int i3), .val (.int k), .val (.int (0 : Int32)), .unset, .unset, .unset, .unset, .unset, .unset, .unset, .unset]) rfl ?_
        refine Go.bipush (hb hby at_31) (pc' := 33) rfl (z := (9 : Int32)) rfl ?_
        refine Go.newP (ty := .char) rfl (wd_0 g) (hb hby at_33) (pc' := 35) rfl (by decide) (cap := 9) (by decide) (by decide) (by decide) (by decide) ?_
        intro h539 a540 k541 g542 l543 E544 A545 S546 C547
        have KE544 := Keep.ofExt E544; have zE544 := E544.1
        have A545 : Ar Z h539 a540 k541 .char [(.int 0), (.int 0), (.int 0), (.int 0), (.int 0), (.int 0), (.int 0), (.int 0), (.int 0)] := A545
        refine Go.dup (hb hby at_35) (pc' := 36) rfl rfl ?_
        refine Go.iconst (hb hby at_36) (pc' := 37) rfl (z := (0 : Int32)) rfl ?_
        refine Go.bipush (hb hby at_37) (pc' := 39) rfl (z := (114 : Int32)) rfl ?_
        refine Go.castore A545 (by decide) (Nat.lt_of_lt_of_eq (by decide : Int32.toNatClampNeg (0 : Int32) < 9) rfl) (by omega) (hb hby at_39) (pc' := 40) rfl ?_
        intro h548 A549 z550 K551 S552 C553
        have A549 : Ar Z h548 a540 k541 .char [(.int (114 : Int32)), (.int 0), (.int 0), (.int 0), (.int 0), (.int 0), (.int 0), (.int 0), (.int 0)] := A549
        refine Go.dup (hb hby at_40) (pc' := 41) rfl rfl ?_
        refine Go.iconst (hb hby at_41) (pc' := 42) rfl (z := (1 : Int32)) rfl ?_
        refine Go.bipush (hb hby at_42) (pc' := 44) rfl (z := (111 : Int32)) rfl ?_
        refine Go.castore A549 (by decide) (Nat.lt_of_lt_of_eq (by decide : Int32.toNatClampNeg (1 : Int32) < 9) rfl) (by omega) (hb hby at_44) (pc' := 45) rfl ?_
        intro h554 A555 z556 K557 S558 C559
        have A555 : Ar Z h554 a540 k541 .char [(.int (114 : Int32)), (.int (111 : Int32)), (.int 0), (.int 0), (.int 0), (.int 0), (.int 0), (.int 0), (.int 0)] := A555
        refine Go.dup (hb hby at_45) (pc' := 46) rfl rfl ?_
        refine Go.iconst (hb hby at_46) (pc' := 47) rfl (z := (2 : Int32)) rfl ?_
        refine Go.bipush (hb hby at_47) (pc' := 49) rfl (z := (111 : Int32)) rfl ?_
        refine Go.castore A555 (by decide) (Nat.lt_of_lt_of_eq (by decide : Int32.toNatClampNeg (2 : Int32) < 9) rfl) (by omega) (hb hby at_49) (pc' := 50) rfl ?_
        intro h560 A561 z562 K563 S564 C565
        have A561 : Ar Z h560 a540 k541 .char [(.int (114 : Int32)), (.int (111 : Int32)), (.int (111 : Int32)), (.int 0), (.int 0), (.int 0), (.int 0), (.int 0), (.int 0)] := A561
        refine Go.dup (hb hby at_50) (pc' := 51) rfl rfl ?_
        refine Go.iconst (hb hby at_51) (pc' := 52) rfl (z := (3 : Int32)) rfl ?_
        refine Go.bipush (hb hby at_52) (pc' := 54) rfl (z := (116 : Int32)) rfl ?_
        refine Go.castore A561 (by decide) (Nat.lt_of_lt_of_eq (by decide : Int32.toNatClampNeg (3 : Int32) < 9) rfl) (by omega) (hb hby at_54) (pc' := 55) rfl ?_
        intro h566 A567 z568 K569 S570 C571
        have A567 : Ar Z h566 a540 k541 .char [(.int (114 : Int32)), (.int (111 : Int32)), (.int (111 : Int32)), (.int (116 : Int32)), (.int 0), (.int 0), (.int 0), (.int 0), (.int 0)] := A567
        refine Go.dup (hb hby at_55) (pc' := 56) rfl rfl ?_
        refine Go.iconst (hb hby at_56) (pc' := 57) rfl (z := (4 : Int32)) rfl ?_
        refine Go.bipush (hb hby at_57) (pc' := 59) rfl (z := (115 : Int32)) rfl ?_
        refine Go.castore A567 (by decide) (Nat.lt_of_lt_of_eq (by decide : Int32.toNatClampNeg (4 : Int32) < 9) rfl) (by omega) (hb hby at_59) (pc' := 60) rfl ?_
        intro h572 A573 z574 K575 S576 C577
        have A573 : Ar Z h572 a540 k541 .char [(.int (114 : Int32)), (.int (111 : Int32)), (.int (111 : Int32)), (.int (116 : Int32)), (.int (115 : Int32)), (.int 0), (.int 0), (.int 0), (.int 0)] := A573
        refine Go.dup (hb hby at_60) (pc' := 61) rfl rfl ?_
        refine Go.iconst (hb hby at_61) (pc' := 62) rfl (z := (5 : Int32)) rfl ?_
        refine Go.bipush (hb hby at_62) (pc' := 64) rfl (z := (120 : Int32)) rfl ?_
        refine Go.castore A573 (by decide) (Nat.lt_of_lt_of_eq (by decide : Int32.toNatClampNeg (5 : Int32) < 9) rfl) (by omega) (hb hby at_64) (pc' := 65) rfl ?_
        intro h578 A579 z580 K581 S582 C583
        have A579 : Ar Z h578 a540 k541 .char [(.int (114 : Int32)), (.int (111 : Int32)), (.int (111 : Int32)), (.int (116 : Int32)), (.int (115 : Int32)), (.int (120 : Int32)), (.int 0), (.int 0), (.int 0)] := A579
        refine Go.dup (hb hby at_65) (pc' := 66) rfl rfl ?_
        refine Go.bipush (hb hby at_66) (pc' := 68) rfl (z := (6 : Int32)) rfl ?_
        refine Go.bipush (hb hby at_68) (pc' := 70) rfl (z := (120 : Int32)) rfl ?_
        refine Go.castore A579 (by decide) (Nat.lt_of_lt_of_eq (by decide : Int32.toNatClampNeg (6 : Int32) < 9) rfl) (by omega) (hb hby at_70) (pc' := 71) rfl ?_
        intro h584 A585 z586 K587 S588 C589
        have A585 : Ar Z h584 a540 k541 .char [(.int (114 : Int32)), (.int (111 : Int32)), (.int (111 : Int32)), (.int (116 : Int32)), (.int (115 : Int32)), (.int (120 : Int32)), (.int (120 : Int32)), (.int 0), (.int 0)] := A585
        refine Go.dup (hb hby at_71) (pc' := 72) rfl rfl ?_
        refine Go.bipush (hb hby at_72) (pc' := 74) rfl (z := (7 : Int32)) rfl ?_
        refine Go.bipush (hb hby at_74) (pc' := 76) rfl (z := (120 : Int32)) rfl ?_
        refine Go.castore A585 (by decide) (Nat.lt_of_lt_of_eq (by decide : Int32.toNatClampNeg (7 : Int32) < 9) rfl) (by omega) (hb hby at_76) (pc' := 77) rfl ?_
        intro h590 A591 z592 K593 S594 C595
        have A591 : Ar Z h590 a540 k541 .char [(.int (114 : Int32)), (.int (111 : Int32)), (.int (111 : Int32)), (.int (116 : Int32)), (.int (115 : Int32)), (.int (120 : Int32)), (.int (120 : Int32)), (.int (120 : Int32)), (.int 0)] := A591
        refine Go.dup (hb hby at_77) (pc' := 78) rfl rfl ?_
        refine Go.bipush (hb hby at_78) (pc' := 80) rfl (z := (8 : Int32)) rfl ?_
        refine Go.bipush (hb hby at_80) (pc' := 82) rfl (z := (120 : Int32)) rfl ?_
        refine Go.castore A591 (by decide) (Nat.lt_of_lt_of_eq (by decide : Int32.toNatClampNeg (8 : Int32) < 9) rfl) (by omega) (hb hby at_82) (pc' := 83) rfl ?_
        intro h596 A597 z598 K599 S600 C601
        have A597 : Ar Z h596 a540 k541 .char [(.int (114 : Int32)), (.int (111 : Int32)), (.int (111 : Int32)), (.int (116 : Int32)), (.int (115 : Int32)), (.int (120 : Int32)), (.int (120 : Int32)), (.int (120 : Int32)), (.int (120 : Int32))] := A597
        refine Go.astore (hb hby at_83) (pc' := 85) rfl rfl (L' := #[.val (.int i0), .val (.int i1), .val (.long i2), .second, .val (.int i3), .val (.int k), .val (.int (0 : Int32)), .val (.ref a540), .unset, .unset, .unset, .unset, .unset, .unset, .unset]) rfl ?_
        refine Go.bipush (hb hby at_85) (pc' := 87) rfl (z := (9 : Int32)) rfl ?_
        refine Go.newP (ty := .char) rfl (wd_0 g) (hb hby at_87) (pc' := 89) rfl (by decide) (cap := 9) (by decide) (by decide) (by decide) (by decide) ?_
        intro h602 a603 k604 g605 l606 E607 A608 S609 C610
        have KE607 := Keep.ofExt E607; have zE607 := E607.1
        have A608 : Ar Z h602 a603 k604 .char [(.int 0), (.int 0), (.int 0), (.int 0), (.int 0), (.int 0), (.int 0), (.int 0), (.int 0)] := A608
        refine Go.dup (hb hby at_89) (pc' := 90) rfl rfl ?_
        refine Go.iconst (hb hby at_90) (pc' := 91) rfl (z := (0 : Int32)) rfl ?_
        refine Go.bipush (hb hby at_91) (pc' := 93) rfl (z := (101 : Int32)) rfl ?_
        refine Go.castore A608 (by decide) (Nat.lt_of_lt_of_eq (by decide : Int32.toNatClampNeg (0 : Int32) < 9) rfl) (by omega) (hb hby at_93) (pc' := 94) rfl ?_
        intro h611 A612 z613 K614 S615 C616
        have A612 : Ar Z h611 a603 k604 .char [(.int (101 : Int32)), (.int 0), (.int 0), (.int 0), (.int 0), (.int 0), (.int 0), (.int 0), (.int 0)] := A612
        refine Go.dup (hb hby at_94) (pc' := 95) rfl rfl ?_
        refine Go.iconst (hb hby at_95) (pc' := 96) rfl (z := (1 : Int32)) rfl ?_
        refine Go.bipush (hb hby at_96) (pc' := 98) rfl (z := (118 : Int32)) rfl ?_
        refine Go.castore A612 (by decide) (Nat.lt_of_lt_of_eq (by decide : Int32.toNatClampNeg (1 : Int32) < 9) rfl) (by omega) (hb hby at_98) (pc' := 99) rfl ?_
        intro h617 A618 z619 K620 S621 C622
        have A618 : Ar Z h617 a603 k604 .char [(.int (101 : Int32)), (.int (118 : Int32)), (.int 0), (.int 0), (.int 0), (.int 0), (.int 0), (.int 0), (.int 0)] := A618
        refine Go.dup (hb hby at_99) (pc' := 100) rfl rfl ?_
        refine Go.iconst (hb hby at_100) (pc' := 101) rfl (z := (2 : Int32)) rfl ?_
        refine Go.bipush (hb hby at_101) (pc' := 103) rfl (z := (101 : Int32)) rfl ?_
        refine Go.castore A618 (by decide) (Nat.lt_of_lt_of_eq (by decide : Int32.toNatClampNeg (2 : Int32) < 9) rfl) (by omega) (hb hby at_103) (pc' := 104) rfl ?_
        intro h623 A624 z625 K626 S627 C628
        have A624 : Ar Z h623 a603 k604 .char [(.int (101 : Int32)), (.int (118 : Int32)), (.int (101 : Int32)), (.int 0), (.int 0), (.int 0), (.int 0), (.int 0), (.int 0)] := A624
        refine Go.dup (hb hby at_104) (pc' := 105) rfl rfl ?_
        refine Go.iconst (hb hby at_105) (pc' := 106) rfl (z := (3 : Int32)) rfl ?_
        refine Go.bipush (hb hby at_106) (pc' := 108) rfl (z := (114 : Int32)) rfl ?_
        refine Go.castore A624 (by decide) (Nat.lt_of_lt_of_eq (by decide : Int32.toNatClampNeg (3 : Int32) < 9) rfl) (by omega) (hb hby at_108) (pc' := 109) rfl ?_
        intro h629 A630 z631 K632 S633 C634
        have A630 : Ar Z h629 a603 k604 .char [(.int (101 : Int32)), (.int (118 : Int32)), (.int (101 : Int32)), (.int (114 : Int32)), (.int 0), (.int 0), (.int 0), (.int 0), (.int 0)] := A630
        refine Go.dup (hb hby at_109) (pc' := 110) rfl rfl ?_
        refine Go.iconst (hb hby at_110) (pc' := 111) rfl (z := (4 : Int32)) rfl ?_
        refine Go.bipush (hb hby at_111) (pc' := 113) rfl (z := (121 : Int32)) rfl ?_
        refine Go.castore A630 (by decide) (Nat.lt_of_lt_of_eq (by decide : Int32.toNatClampNeg (4 : Int32) < 9) rfl) (by omega) (hb hby at_113) (pc' := 114) rfl ?_
        intro h635 A636 z637 K638 S639 C640
        have A636 : Ar Z h635 a603 k604 .char [(.int (101 : Int32)), (.int (118 : Int32)), (.int (101 : Int32)), (.int (114 : Int32)), (.int (121 : Int32)), (.int 0), (.int 0), (.int 0), (.int 0)] := A636
        refine Go.dup (hb hby at_114) (pc' := 115) rfl rfl ?_
        refine Go.iconst (hb hby at_115) (pc' := 116) rfl (z := (5 : Int32)) rfl ?_
        refine Go.bipush (hb hby at_116) (pc' := 118) rfl (z := (111 : Int32)) rfl ?_
        refine Go.castore A636 (by decide) (Nat.lt_of_lt_of_eq (by decide : Int32.toNatClampNeg (5 : Int32) < 9) rfl) (by omega) (hb hby at_118) (pc' := 119) rfl ?_
        intro h641 A642 z643 K644 S645 C646
        have A642 : Ar Z h641 a603 k604 .char [(.int (101 : Int32)), (.int (118 : Int32)), (.int (101 : Int32)), (.int (114 : Int32)), (.int (121 : Int32)), (.int (111 : Int32)), (.int 0), (.int 0), (.int 0)] := A642
        refine Go.dup (hb hby at_119) (pc' := 120) rfl rfl ?_
        refine Go.bipush (hb hby at_120) (pc' := 122) rfl (z := (6 : Int32)) rfl ?_
        refine Go.bipush (hb hby at_122) (pc' := 124) rfl (z := (110 : Int32)) rfl ?_
        refine Go.castore A642 (by decide) (Nat.lt_of_lt_of_eq (by decide : Int32.toNatClampNeg (6 : Int32) < 9) rfl) (by omega) (hb hby at_124) (pc' := 125) rfl ?_
        intro h647 A648 z649 K650 S651 C652
        have A648 : Ar Z h647 a603 k604 .char [(.int (101 : Int32)), (.int (118 : Int32)), (.int (101 : Int32)), (.int (114 : Int32)), (.int (121 : Int32)), (.int (111 : Int32)), (.int (110 : Int32)), (.int 0), (.int 0)] := A648
        refine Go.dup (hb hby at_125) (pc' := 126) rfl rfl ?_
        refine Go.bipush (hb hby at_126) (pc' := 128) rfl (z := (7 : Int32)) rfl ?_
        refine Go.bipush (hb hby at_128) (pc' := 130) rfl (z := (101 : Int32)) rfl ?_
        refine Go.castore A648 (by decide) (Nat.lt_of_lt_of_eq (by decide : Int32.toNatClampNeg (7 : Int32) < 9) rfl) (by omega) (hb hby at_130) (pc' := 131) rfl ?_
        intro h653 A654 z655 K656 S657 C658
        have A654 : Ar Z h653 a603 k604 .char [(.int (101 : Int32)), (.int (118 : Int32)), (.int (101 : Int32)), (.int (114 : Int32)), (.int (121 : Int32)), (.int (111 : Int32)), (.int (110 : Int32)), (.int (101 : Int32)), (.int 0)] := A654
        refine Go.dup (hb hby at_131) (pc' := 132) rfl rfl ?_
        refine Go.bipush (hb hby at_132) (pc' := 134) rfl (z := (8 : Int32)) rfl ?_
        refine Go.bipush (hb hby at_134) (pc' := 136) rfl (z := (115 : Int32)) rfl ?_
        refine Go.castore A654 (by decide) (Nat.lt_of_lt_of_eq (by decide : Int32.toNatClampNeg (8 : Int32) < 9) rfl) (by omega) (hb hby at_136) (pc' := 137) rfl ?_
        intro h659 A660 z661 K662 S663 C664
        have A660 : Ar Z h659 a603 k604 .char [(.int (101 : Int32)), (.int (118 : Int32)), (.int (101 : Int32)), (.int (114 : Int32)), (.int (121 : Int32)), (.int (111 : Int32)), (.int (110 : Int32)), (.int (101 : Int32)), (.int (115 : Int32))] := A660
        refine Go.astore (hb hby at_137) (pc' := 139) rfl rfl (L' := #[.val (.int i0), .val (.int i1), .val (.long i2), .second, .val (.int i3), .val (.int k), .val (.int (0 : Int32)), .val (.ref a540), .val (.ref a603), .unset, .unset, .unset, .unset, .unset, .unset]) rfl ?_
        refine Go.iload (hb hby at_139) (pc' := 141) rfl rfl ?_
        refine Go.ifY (hb hby at_141) (by decide) (pc' := 149) (by decide) (show (0 : Int32) = (0 : Int32) from by decide) ?_
        refine Go.aload (hb hby at_149) (pc' := 151) rfl rfl rfl ?_
        refine Go.astore (hb hby at_151) (pc' := 153) rfl rfl (L' := #[.val (.int i0), .val (.int i1), .val (.long i2), .second, .val (.int i3), .val (.int k), .val (.int (0 : Int32)), .val (.ref a540), .val (.ref a603), .val (.ref a603), .unset, .unset, .unset, .unset, .unset]) rfl ?_
        refine Go.bipush (hb hby at_153) (pc' := 155) rfl (z := (9 : Int32)) rfl ?_
        refine Go.newP (ty := .char) rfl (wd_0 g) (hb hby at_155) (pc' := 157) rfl (by decide) (cap := 9) (by decide) (by decide) (by decide) (by decide) ?_
        intro h665 a666 k667 g668 l669 E670 A671 S672 C673
        have KE670 := Keep.ofExt E670; have zE670 := E670.1
        have A671 : Ar Z h665 a666 k667 .char [(.int 0), (.int 0), (.int 0), (.int 0), (.int 0), (.int 0), (.int 0), (.int 0), (.int 0)] := A671
        refine Go.astore (hb hby at_157) (pc' := 159) rfl rfl (L' := #[.val (.int i0), .val (.int i1), .val (.long i2), .second, .val (.int i3), .val (.int k), .val (.int (0 : Int32)), .val (.ref a540), .val (.ref a603), .val (.ref a603), .val (.ref a666), .unset, .unset, .unset, .unset]) rfl ?_
        refine Go.aload (hb hby at_159) (pc' := 161) rfl rfl rfl ?_
        refine Go.iconst (hb hby at_161) (pc' := 162) rfl (z := (0 : Int32)) rfl ?_
        refine Go.iloadN (hb hby at_162) (pc' := 163) rfl rfl ?_
        refine Go.iconst (hb hby at_163) (pc' := 164) rfl (z := (0 : Int32)) rfl ?_
        refine Go.aload (hb hby at_164) (pc' := 166) rfl rfl rfl ?_
        refine Go.iconst (hb hby at_166) (pc' := 167) rfl (z := (0 : Int32)) rfl ?_
        have f674 : Ar Z h665 a603 k604 .char [(.int (101 : Int32)), (.int (118 : Int32)), (.int (101 : Int32)), (.int (114 : Int32)), (.int (121 : Int32)), (.int (111 : Int32)), (.int (110 : Int32)), (.int (101 : Int32)), (.int (115 : Int32))] := (A660.keep KE670 nin0)
        refine Go.caload f674 (v := (.int (101 : Int32))) (by decide) rfl (hb hby at_167) (pc' := 168) rfl ?_
        refine Go.lloadN (hb hby at_168) (pc' := 169) rfl rfl ?_
        refine Go.iload (hb hby at_169) (pc' := 171) rfl rfl ?_
        refine Go.callS (c_ch (l := l) (nw := nw) g h665 i1 (0 : Int32) (101 : Int32) i2 i3 (by decide) (by omega)) hown (wd_1 g) (wd_2 g) (wd_4 g) (wd_3 g) (by decide) (argsL := [(.int i1), (.int (0 : Int32)), (.int (101 : Int32)), (.long i2), (.int i3)]) (lenOf pd_6 rfl) rfl (by rw [hml]; rfl) (W := 2) rfl (hb hby at_171) (pc' := 174) rfl (by decide) (by decide) (by decide) (by decide) all0 ?_
        rintro _ vm675 h675 ⟨z_675, rfl, K675, p675_0⟩ C675
        have z675 := K675.1
        -- pc 174
        have f676 : Ar Z h675 a666 k667 .char [(.int 0), (.int 0), (.int 0), (.int 0), (.int 0), (.int 0), (.int 0), (.int 0), (.int 0)] := (A671.keep K675 nin0)
        refine Go.castore f676 (by decide) (Nat.lt_of_lt_of_eq (by decide : Int32.toNatClampNeg (0 : Int32) < 9) rfl) (by omega) (hb hby at_174) (pc' := 175) rfl ?_
        intro h677 A678 z679 K680 S681 C682
        rw [nch p675_0] at A678
        have A678 : Ar Z h677 a666 k667 .char [(.int z_675), (.int 0), (.int 0), (.int 0), (.int 0), (.int 0), (.int 0), (.int 0), (.int 0)] := A678
        refine Go.aload (hb hby at_175) (pc' := 177) rfl rfl rfl ?_
        refine Go.iconst (hb hby at_177) (pc' := 178) rfl (z := (1 : Int32)) rfl ?_
        refine Go.iloadN (hb hby at_178) (pc' := 179) rfl rfl ?_
        refine Go.iconst (hb hby at_179) (pc' := 180) rfl (z := (1 : Int32)) rfl ?_
        refine Go.aload (hb hby at_180) (pc' := 182) rfl rfl rfl ?_
        refine Go.iconst (hb hby at_182) (pc' := 183) rfl (z := (1 : Int32)) rfl ?_
        have f683 : Ar Z h677 a603 k604 .char [(.int (101 : Int32)), (.int (118 : Int32)), (.int (101 : Int32)), (.int (114 : Int32)), (.int (121 : Int32)), (.int (111 : Int32)), (.int (110 : Int32)), (.int (101 : Int32)), (.int (115 : Int32))] := ((f674.keep K675 nin0).keep K680 (ninS (neN (by omega)) nin0))
        refine Go.caload f683 (v := (.int (118 : Int32))) (by decide) rfl (hb hby at_183) (pc' := 184) rfl ?_
        refine Go.lloadN (hb hby at_184) (pc' := 185) rfl rfl ?_
        refine Go.iload (hb hby at_185) (pc' := 187) rfl rfl ?_
        refine Go.callS (c_ch (l := l) (nw := nw) g h677 i1 (1 : Int32) (118 : Int32) i2 i3 (by decide) (by omega)) hown (wd_1 g) (wd_2 g) (wd_4 g) (wd_3 g) (by decide) (argsL := [(.int i1), (.int (1 : Int32)), (.int (118 : Int32)), (.long i2), (.int i3)]) (lenOf pd_6 rfl) rfl (by rw [hml]; rfl) (W := 2) rfl (hb hby at_187) (pc' := 190) rfl (by decide) (by decide) (by decide) (by decide) all0 ?_
        rintro _ vm684 h684 ⟨z_684, rfl, K684, p684_0⟩ C684
        have z684 := K684.1
        -- pc 190
        have f685 : Ar Z h684 a666 k667 .char [(.int z_675), (.int 0), (.int 0), (.int 0), (.int 0), (.int 0), (.int 0), (.int 0), (.int 0)] := (A678.keep K684 nin0)
        refine Go.castore f685 (by decide) (Nat.lt_of_lt_of_eq (by decide : Int32.toNatClampNeg (1 : Int32) < 9) rfl) (by omega) (hb hby at_190) (pc' := 191) rfl ?_
        intro h686 A687 z688 K689 S690 C691
        rw [nch p684_0] at A687
        have A687 : Ar Z h686 a666 k667 .char [(.int z_675), (.int z_684), (.int 0), (.int 0), (.int 0), (.int 0), (.int 0), (.int 0), (.int 0)] := A687
        refine Go.aload (hb hby at_191) (pc' := 193) rfl rfl rfl ?_
        refine Go.iconst (hb hby at_193) (pc' := 194) rfl (z := (2 : Int32)) rfl ?_
        refine Go.iloadN (hb hby at_194) (pc' := 195) rfl rfl ?_
        refine Go.iconst (hb hby at_195) (pc' := 196) rfl (z := (2 : Int32)) rfl ?_
        refine Go.aload (hb hby at_196) (pc' := 198) rfl rfl rfl ?_
        refine Go.iconst (hb hby at_198) (pc' := 199) rfl (z := (2 : Int32)) rfl ?_
        have f692 : Ar Z h686 a603 k604 .char [(.int (101 : Int32)), (.int (118 : Int32)), (.int (101 : Int32)), (.int (114 : Int32)), (.int (121 : Int32)), (.int (111 : Int32)), (.int (110 : Int32)), (.int (101 : Int32)), (.int (115 : Int32))] := ((f683.keep K684 nin0).keep K689 (ninS (neN (by omega)) nin0))
        refine Go.caload f692 (v := (.int (101 : Int32))) (by decide) rfl (hb hby at_199) (pc' := 200) rfl ?_
        refine Go.lloadN (hb hby at_200) (pc' := 201) rfl rfl ?_
        refine Go.iload (hb hby at_201) (pc' := 203) rfl rfl ?_
        refine Go.callS (c_ch (l := l) (nw := nw) g h686 i1 (2 : Int32) (101 : Int32) i2 i3 (by decide) (by omega)) hown (wd_1 g) (wd_2 g) (wd_4 g) (wd_3 g) (by decide) (argsL := [(.int i1), (.int (2 : Int32)), (.int (101 : Int32)), (.long i2), (.int i3)]) (lenOf pd_6 rfl) rfl (by rw [hml]; rfl) (W := 2) rfl (hb hby at_203) (pc' := 206) rfl (by decide) (by decide) (by decide) (by decide) all0 ?_
        rintro _ vm693 h693 ⟨z_693, rfl, K693, p693_0⟩ C693
        have z693 := K693.1
        -- pc 206
        have f694 : Ar Z h693 a666 k667 .char [(.int z_675), (.int z_684), (.int 0), (.int 0), (.int 0), (.int 0), (.int 0), (.int 0), (.int 0)] := (A687.keep K693 nin0)
        refine Go.castore f694 (by decide) (Nat.lt_of_lt_of_eq (by decide : Int32.toNatClampNeg (2 : Int32) < 9) rfl) (by omega) (hb hby at_206) (pc' := 207) rfl ?_
        intro h695 A696 z697 K698 S699 C700
        rw [nch p693_0] at A696
        have A696 : Ar Z h695 a666 k667 .char [(.int z_675), (.int z_684), (.int z_693), (.int 0), (.int 0), (.int 0), (.int 0), (.int 0), (.int 0)] := A696
        refine Go.aload (hb hby at_207) (pc' := 209) rfl rfl rfl ?_
        refine Go.iconst (hb hby at_209) (pc' := 210) rfl (z := (3 : Int32)) rfl ?_
        refine Go.iloadN (hb hby at_210) (pc' := 211) rfl rfl ?_
        refine Go.iconst (hb hby at_211) (pc' := 212) rfl (z := (3 : Int32)) rfl ?_
        refine Go.aload (hb hby at_212) (pc' := 214) rfl rfl rfl ?_
        refine Go.iconst (hb hby at_214) (pc' := 215) rfl (z := (3 : Int32)) rfl ?_
        have f701 : Ar Z h695 a603 k604 .char [(.int (101 : Int32)), (.int (118 : Int32)), (.int (101 : Int32)), (.int (114 : Int32)), (.int (121 : Int32)), (.int (111 : Int32)), (.int (110 : Int32)), (.int (101 : Int32)), (.int (115 : Int32))] := ((f692.keep K693 nin0).keep K698 (ninS (neN (by omega)) nin0))
        refine Go.caload f701 (v := (.int (114 : Int32))) (by decide) rfl (hb hby at_215) (pc' := 216) rfl ?_
        refine Go.lloadN (hb hby at_216) (pc' := 217) rfl rfl ?_
        refine Go.iload (hb hby at_217) (pc' := 219) rfl rfl ?_
        refine Go.callS (c_ch (l := l) (nw := nw) g h695 i1 (3 : Int32) (114 : Int32) i2 i3 (by decide) (by omega)) hown (wd_1 g) (wd_2 g) (wd_4 g) (wd_3 g) (by decide) (argsL := [(.int i1), (.int (3 : Int32)), (.int (114 : Int32)), (.long i2), (.int i3)]) (lenOf pd_6 rfl) rfl (by rw [hml]; rfl) (W := 2) rfl (hb hby at_219) (pc' := 222) rfl (by decide) (by decide) (by decide) (by decide) all0 ?_
        rintro _ vm702 h702 ⟨z_702, rfl, K702, p702_0⟩ C702
        have z702 := K702.1
        -- pc 222
        have f703 : Ar Z h702 a666 k667 .char [(.int z_675), (.int z_684), (.int z_693), (.int 0), (.int 0), (.int 0), (.int 0), (.int 0), (.int 0)] := (A696.keep K702 nin0)
        refine Go.castore f703 (by decide) (Nat.lt_of_lt_of_eq (by decide : Int32.toNatClampNeg (3 : Int32) < 9) rfl) (by omega) (hb hby at_222) (pc' := 223) rfl ?_
        intro h704 A705 z706 K707 S708 C709
        rw [nch p702_0] at A705
        have A705 : Ar Z h704 a666 k667 .char [(.int z_675), (.int z_684), (.int z_693), (.int z_702), (.int 0), (.int 0), (.int 0), (.int 0), (.int 0)] := A705
        refine Go.aload (hb hby at_223) (pc' := 225) rfl rfl rfl ?_
        refine Go.iconst (hb hby at_225) (pc' := 226) rfl (z := (4 : Int32)) rfl ?_
        refine Go.iloadN (hb hby at_226) (pc' := 227) rfl rfl ?_
        refine Go.iconst (hb hby at_227) (pc' := 228) rfl (z := (4 : Int32)) rfl ?_
        refine Go.aload (hb hby at_228) (pc' := 230) rfl rfl rfl ?_
        refine Go.iconst (hb hby at_230) (pc' := 231) rfl (z := (4 : Int32)) rfl ?_
        have f710 : Ar Z h704 a603 k604 .char [(.int (101 : Int32)), (.int (118 : Int32)), (.int (101 : Int32)), (.int (114 : Int32)), (.int (121 : Int32)), (.int (111 : Int32)), (.int (110 : Int32)), (.int (101 : Int32)), (.int (115 : Int32))] := ((f701.keep K702 nin0).keep K707 (ninS (neN (by omega)) nin0))
        refine Go.caload f710 (v := (.int (121 : Int32))) (by decide) rfl (hb hby at_231) (pc' := 232) rfl ?_
        refine Go.lloadN (hb hby at_232) (pc' := 233) rfl rfl ?_
        refine Go.iload (hb hby at_233) (pc' := 235) rfl rfl ?_
        refine Go.callS (c_ch (l := l) (nw := nw) g h704 i1 (4 : Int32) (121 : Int32) i2 i3 (by decide) (by omega)) hown (wd_1 g) (wd_2 g) (wd_4 g) (wd_3 g) (by decide) (argsL := [(.int i1), (.int (4 : Int32)), (.int (121 : Int32)), (.long i2), (.int i3)]) (lenOf pd_6 rfl) rfl (by rw [hml]; rfl) (W := 2) rfl (hb hby at_235) (pc' := 238) rfl (by decide) (by decide) (by decide) (by decide) all0 ?_
        rintro _ vm711 h711 ⟨z_711, rfl, K711, p711_0⟩ C711
        have z711 := K711.1
        -- pc 238
        have f712 : Ar Z h711 a666 k667 .char [(.int z_675), (.int z_684), (.int z_693), (.int z_702), (.int 0), (.int 0), (.int 0), (.int 0), (.int 0)] := (A705.keep K711 nin0)
        refine Go.castore f712 (by decide) (Nat.lt_of_lt_of_eq (by decide : Int32.toNatClampNeg (4 : Int32) < 9) rfl) (by omega) (hb hby at_238) (pc' := 239) rfl ?_
        intro h713 A714 z715 K716 S717 C718
        rw [nch p711_0] at A714
        have A714 : Ar Z h713 a666 k667 .char [(.int z_675), (.int z_684), (.int z_693), (.int z_702), (.int z_711), (.int 0), (.int 0), (.int 0), (.int 0)] := A714
        refine Go.aload (hb hby at_239) (pc' := 241) rfl rfl rfl ?_
        refine Go.iconst (hb hby at_241) (pc' := 242) rfl (z := (5 : Int32)) rfl ?_
        refine Go.iloadN (hb hby at_242) (pc' := 243) rfl rfl ?_
        refine Go.iconst (hb hby at_243) (pc' := 244) rfl (z := (5 : Int32)) rfl ?_
        refine Go.aload (hb hby at_244) (pc' := 246) rfl rfl rfl ?_
        refine Go.iconst (hb hby at_246) (pc' := 247) rfl (z := (5 : Int32)) rfl ?_
        have f719 : Ar Z h713 a603 k604 .char [(.int (101 : Int32)), (.int (118 : Int32)), (.int (101 : Int32)), (.int (114 : Int32)), (.int (121 : Int32)), (.int (111 : Int32)), (.int (110 : Int32)), (.int (101 : Int32)), (.int (115 : Int32))] := ((f710.keep K711 nin0).keep K716 (ninS (neN (by omega)) nin0))
        refine Go.caload f719 (v := (.int (111 : Int32))) (by decide) rfl (hb hby at_247) (pc' := 248) rfl ?_
        refine Go.lloadN (hb hby at_248) (pc' := 249) rfl rfl ?_
        refine Go.iload (hb hby at_249) (pc' := 251) rfl rfl ?_
        refine Go.callS (c_ch (l := l) (nw := nw) g h713 i1 (5 : Int32) (111 : Int32) i2 i3 (by decide) (by omega)) hown (wd_1 g) (wd_2 g) (wd_4 g) (wd_3 g) (by decide) (argsL := [(.int i1), (.int (5 : Int32)), (.int (111 : Int32)), (.long i2), (.int i3)]) (lenOf pd_6 rfl) rfl (by rw [hml]; rfl) (W := 2) rfl (hb hby at_251) (pc' := 254) rfl (by decide) (by decide) (by decide) (by decide) all0 ?_
        rintro _ vm720 h720 ⟨z_720, rfl, K720, p720_0⟩ C720
        have z720 := K720.1
        -- pc 254
        have f721 : Ar Z h720 a666 k667 .char [(.int z_675), (.int z_684), (.int z_693), (.int z_702), (.int z_711), (.int 0), (.int 0), (.int 0), (.int 0)] := (A714.keep K720 nin0)
        refine Go.castore f721 (by decide) (Nat.lt_of_lt_of_eq (by decide : Int32.toNatClampNeg (5 : Int32) < 9) rfl) (by omega) (hb hby at_254) (pc' := 255) rfl ?_
        intro h722 A723 z724 K725 S726 C727
        rw [nch p720_0] at A723
        have A723 : Ar Z h722 a666 k667 .char [(.int z_675), (.int z_684), (.int z_693), (.int z_702), (.int z_711), (.int z_720), (.int 0), (.int 0), (.int 0)] := A723
        refine Go.aload (hb hby at_255) (pc' := 257) rfl rfl rfl ?_
        refine Go.bipush (hb hby at_257) (pc' := 259) rfl (z := (6 : Int32)) rfl ?_
        refine Go.iloadN (hb hby at_259) (pc' := 260) rfl rfl ?_
        refine Go.bipush (hb hby at_260) (pc' := 262) rfl (z := (6 : Int32)) rfl ?_
        refine Go.aload (hb hby at_262) (pc' := 264) rfl rfl rfl ?_
        refine Go.bipush (hb hby at_264) (pc' := 266) rfl (z := (6 : Int32)) rfl ?_
        have f728 : Ar Z h722 a603 k604 .char [(.int (101 : Int32)), (.int (118 : Int32)), (.int (101 : Int32)), (.int (114 : Int32)), (.int (121 : Int32)), (.int (111 : Int32)), (.int (110 : Int32)), (.int (101 : Int32)), (.int (115 : Int32))] := ((f719.keep K720 nin0).keep K725 (ninS (neN (by omega)) nin0))
        refine Go.caload f728 (v := (.int (110 : Int32))) (by decide) rfl (hb hby at_266) (pc' := 267) rfl ?_
        refine Go.lloadN (hb hby at_267) (pc' := 268) rfl rfl ?_
        refine Go.iload (hb hby at_268) (pc' := 270) rfl rfl ?_
        refine Go.callS (c_ch (l := l) (nw := nw) g h722 i1 (6 : Int32) (110 : Int32) i2 i3 (by decide) (by omega)) hown (wd_1 g) (wd_2 g) (wd_4 g) (wd_3 g) (by decide) (argsL := [(.int i1), (.int (6 : Int32)), (.int (110 : Int32)), (.long i2), (.int i3)]) (lenOf pd_6 rfl) rfl (by rw [hml]; rfl) (W := 2) rfl (hb hby at_270) (pc' := 273) rfl (by decide) (by decide) (by decide) (by decide) all0 ?_
        rintro _ vm729 h729 ⟨z_729, rfl, K729, p729_0⟩ C729
        have z729 := K729.1
        -- pc 273
        have f730 : Ar Z h729 a666 k667 .char [(.int z_675), (.int z_684), (.int z_693), (.int z_702), (.int z_711), (.int z_720), (.int 0), (.int 0), (.int 0)] := (A723.keep K729 nin0)
        refine Go.castore f730 (by decide) (Nat.lt_of_lt_of_eq (by decide : Int32.toNatClampNeg (6 : Int32) < 9) rfl) (by omega) (hb hby at_273) (pc' := 274) rfl ?_
        intro h731 A732 z733 K734 S735 C736
        rw [nch p729_0] at A732
        have A732 : Ar Z h731 a666 k667 .char [(.int z_675), (.int z_684), (.int z_693), (.int z_702), (.int z_711), (.int z_720), (.int z_729), (.int 0), (.int 0)] := A732
        refine Go.aload (hb hby at_274) (pc' := 276) rfl rfl rfl ?_
        refine Go.bipush (hb hby at_276) (pc' := 278) rfl (z := (7 : Int32)) rfl ?_
        refine Go.iloadN (hb hby at_278) (pc' := 279) rfl rfl ?_
        refine Go.bipush (hb hby at_279) (pc' := 281) rfl (z := (7 : Int32)) rfl ?_
        refine Go.aload (hb hby at_281) (pc' := 283) rfl rfl rfl ?_
        refine Go.bipush (hb hby at_283) (pc' := 285) rfl (z := (7 : Int32)) rfl ?_
        have f737 : Ar Z h731 a603 k604 .char [(.int (101 : Int32)), (.int (118 : Int32)), (.int (101 : Int32)), (.int (114 : Int32)), (.int (121 : Int32)), (.int (111 : Int32)), (.int (110 : Int32)), (.int (101 : Int32)), (.int (115 : Int32))] := ((f728.keep K729 nin0).keep K734 (ninS (neN (by omega)) nin0))
        refine Go.caload f737 (v := (.int (101 : Int32))) (by decide) rfl (hb hby at_285) (pc' := 286) rfl ?_
        refine Go.lloadN (hb hby at_286) (pc' := 287) rfl rfl ?_
        refine Go.iload (hb hby at_287) (pc' := 289) rfl rfl ?_
        refine Go.callS (c_ch (l := l) (nw := nw) g h731 i1 (7 : Int32) (101 : Int32) i2 i3 (by decide) (by omega)) hown (wd_1 g) (wd_2 g) (wd_4 g) (wd_3 g) (by decide) (argsL := [(.int i1), (.int (7 : Int32)), (.int (101 : Int32)), (.long i2), (.int i3)]) (lenOf pd_6 rfl) rfl (by rw [hml]; rfl) (W := 2) rfl (hb hby at_289) (pc' := 292) rfl (by decide) (by decide) (by decide) (by decide) all0 ?_
        rintro _ vm738 h738 ⟨z_738, rfl, K738, p738_0⟩ C738
        have z738 := K738.1
        -- pc 292
        have f739 : Ar Z h738 a666 k667 .char [(.int z_675), (.int z_684), (.int z_693), (.int z_702), (.int z_711), (.int z_720), (.int z_729), (.int 0), (.int 0)] := (A732.keep K738 nin0)
        refine Go.castore f739 (by decide) (Nat.lt_of_lt_of_eq (by decide : Int32.toNatClampNeg (7 : Int32) < 9) rfl) (by omega) (hb hby at_292) (pc' := 293) rfl ?_
        intro h740 A741 z742 K743 S744 C745
        rw [nch p738_0] at A741
        have A741 : Ar Z h740 a666 k667 .char [(.int z_675), (.int z_684), (.int z_693), (.int z_702), (.int z_711), (.int z_720), (.int z_729), (.int z_738), (.int 0)] := A741
        refine Go.aload (hb hby at_293) (pc' := 295) rfl rfl rfl ?_
        refine Go.bipush (hb hby at_295) (pc' := 297) rfl (z := (8 : Int32)) rfl ?_
        refine Go.iloadN (hb hby at_297) (pc' := 298) rfl rfl ?_
        refine Go.bipush (hb hby at_298) (pc' := 300) rfl (z := (8 : Int32)) rfl ?_
        refine Go.aload (hb hby at_300) (pc' := 302) rfl rfl rfl ?_
        refine Go.bipush (hb hby at_302) (pc' := 304) rfl (z := (8 : Int32)) rfl ?_
        have f746 : Ar Z h740 a603 k604 .char [(.int (101 : Int32)), (.int (118 : Int32)), (.int (101 : Int32)), (.int (114 : Int32)), (.int (121 : Int32)), (.int (111 : Int32)), (.int (110 : Int32)), (.int (101 : Int32)), (.int (115 : Int32))] := ((f737.keep K738 nin0).keep K743 (ninS (neN (by omega)) nin0))
        refine Go.caload f746 (v := (.int (115 : Int32))) (by decide) rfl (hb hby at_304) (pc' := 305) rfl ?_
        refine Go.lloadN (hb hby at_305) (pc' := 306) rfl rfl ?_
        refine Go.iload (hb hby at_306) (pc' := 308) rfl rfl ?_
        refine Go.callS (c_ch (l := l) (nw := nw) g h740 i1 (8 : Int32) (115 : Int32) i2 i3 (by decide) (by omega)) hown (wd_1 g) (wd_2 g) (wd_4 g) (wd_3 g) (by decide) (argsL := [(.int i1), (.int (8 : Int32)), (.int (115 : Int32)), (.long i2), (.int i3)]) (lenOf pd_6 rfl) rfl (by rw [hml]; rfl) (W := 2) rfl (hb hby at_308) (pc' := 311) rfl (by decide) (by decide) (by decide) (by decide) all0 ?_
        rintro _ vm747 h747 ⟨z_747, rfl, K747, p747_0⟩ C747
        have z747 := K747.1
        -- pc 311
        have f748 : Ar Z h747 a666 k667 .char [(.int z_675), (.int z_684), (.int z_693), (.int z_702), (.int z_711), (.int z_720), (.int z_729), (.int z_738), (.int 0)] := (A741.keep K747 nin0)
        refine Go.castore f748 (by decide) (Nat.lt_of_lt_of_eq (by decide : Int32.toNatClampNeg (8 : Int32) < 9) rfl) (by omega) (hb hby at_311) (pc' := 312) rfl ?_
        intro h749 A750 z751 K752 S753 C754
        rw [nch p747_0] at A750
        have A750 : Ar Z h749 a666 k667 .char [(.int z_675), (.int z_684), (.int z_693), (.int z_702), (.int z_711), (.int z_720), (.int z_729), (.int z_738), (.int z_747)] := A750
        refine Go.iload (hb hby at_312) (pc' := 314) rfl rfl ?_
        refine Go.ifc (hb hby at_314) (by decide) (pc' := 323) (by decide) (pc2 := 317) rfl (fun (q314 : ¬ k = (0 : Int32)) => ?_) (fun (q314 : ¬ (¬ k = (0 : Int32))) => ?_)
        · refine Go.iload (hb hby at_323) (pc' := 325) rfl rfl ?_
          refine Go.iconst (hb hby at_325) (pc' := 326) rfl (z := (1 : Int32)) rfl ?_
          refine Go.icmp (hb hby at_326) (by decide) (pc' := 344) (by decide) (pc2 := 329) rfl (fun (q326 : ¬ k = (1 : Int32)) => ?_) (fun (q326 : ¬ (¬ k = (1 : Int32))) => ?_)
          · refine Go.iload (hb hby at_344) (pc' := 346) rfl rfl ?_
            refine Go.iconst (hb hby at_346) (pc' := 347) rfl (z := (2 : Int32)) rfl ?_
            refine Go.icmpY (hb hby at_347) (by decide) (pc' := 393) (by decide) q9 ?_
            refine Go.iload (hb hby at_393) (pc' := 395) rfl rfl ?_
            refine Go.iconst (hb hby at_395) (pc' := 396) rfl (z := (3 : Int32)) rfl ?_
            refine Go.icmp (hb hby at_396) (by decide) (pc' := 475) (by decide) (pc2 := 399) rfl (fun (q396 : ¬ k = (3 : Int32)) => ?_) (fun (q396 : ¬ (¬ k = (3 : Int32))) => ?_)
            · refine Go.iload (hb hby at_475) (pc' := 477) rfl rfl ?_
              refine Go.iconst (hb hby at_477) (pc' := 478) rfl (z := (4 : Int32)) rfl ?_
              refine Go.icmpY (hb hby at_478) (by decide) (pc' := 517) (by decide) q15 ?_
              refine Go.iload (hb hby at_517) (pc' := 519) rfl rfl ?_
              refine Go.iconst (hb hby at_519) (pc' := 520) rfl (z := (5 : Int32)) rfl ?_
              refine Go.icmpY (hb hby at_520) (by decide) (pc' := 573) (by decide) q21 ?_
              refine Go.iload (hb hby at_573) (pc' := 575) rfl rfl ?_
              refine Go.bipush (hb hby at_575) (pc' := 577) rfl (z := (6 : Int32)) rfl ?_
              refine Go.icmp (hb hby at_577) (by decide) (pc' := 647) (by decide) (pc2 := 580) rfl (fun (q577 : ¬ k = (6 : Int32)) => ?_) (fun (q577 : ¬ (¬ k = (6 : Int32))) => ?_)
              · refine Go.newO hown (wd_24 g) (wd_12 g) (wd_11 g) (hb hby at_647) (pc' := 650) rfl (by decide) (by decide) ?_
                intro h755 a756 g757 l758 E759 X760 D761 S762 C763
                have KE759 := Keep.ofExt E759; have zE759 := E759.1
                have f764 : Fld Z h755 a756 "java/lang/String" "value" "[B" .null := D761 (Or.inr (wd_14 g)) (ty := (.array .byte)) (by decide)
                have f765 : Fld Z h755 a756 "java/lang/String" "coder" "B" (.int 0) := D761 (Or.inr (wd_15 g)) (ty := .byte) (by decide)
                refine Go.dup (hb hby at_650) (pc' := 651) rfl rfl ?_
                refine Go.bipush (hb hby at_651) (pc' := 653) rfl (z := (9 : Int32)) rfl ?_
                refine Go.newP (ty := .char) rfl (wd_0 g) (hb hby at_653) (pc' := 655) rfl (by decide) (cap := 9) (by decide) (by decide) (by decide) (by decide) ?_
                intro h766 a767 k768 g769 l770 E771 A772 S773 C774
                have KE771 := Keep.ofExt E771; have zE771 := E771.1
                have A772 : Ar Z h766 a767 k768 .char [(.int 0), (.int 0), (.int 0), (.int 0), (.int 0), (.int 0), (.int 0), (.int 0), (.int 0)] := A772
                refine Go.dup (hb hby at_655) (pc' := 656) rfl rfl ?_
                refine Go.iconst (hb hby at_656) (pc' := 657) rfl (z := (0 : Int32)) rfl ?_
                refine Go.aload (hb hby at_657) (pc' := 659) rfl rfl rfl ?_
                refine Go.iconst (hb hby at_659) (pc' := 660) rfl (z := (0 : Int32)) rfl ?_
                have f775 : Ar Z h766 a666 k667 .char [(.int z_675), (.int z_684), (.int z_693), (.int z_702), (.int z_711), (.int z_720), (.int z_729), (.int z_738), (.int z_747)] := ((A750.keep KE759 nin0).keep KE771 nin0)
                refine Go.caload f775 (v := (.int z_675)) (by decide) rfl (hb hby at_660) (pc' := 661) rfl ?_
                refine Go.castore A772 (by decide) (Nat.lt_of_lt_of_eq (by decide : Int32.toNatClampNeg (0 : Int32) < 9) rfl) (by omega) (hb hby at_661) (pc' := 662) rfl ?_
                intro h776 A777 z778 K779 S780 C781
                rw [nch p675_0] at A777
                have A777 : Ar Z h776 a767 k768 .char [(.int z_675), (.int 0), (.int 0), (.int 0), (.int 0), (.int 0), (.int 0), (.int 0), (.int 0)] := A777
                refine Go.dup (hb hby at_662) (pc' := 663) rfl rfl ?_
                refine Go.iconst (hb hby at_663) (pc' := 664) rfl (z := (1 : Int32)) rfl ?_
                refine Go.aload (hb hby at_664) (pc' := 666) rfl rfl rfl ?_
                refine Go.iconst (hb hby at_666) (pc' := 667) rfl (z := (1 : Int32)) rfl ?_
                have f782 : Ar Z h776 a666 k667 .char [(.int z_675), (.int z_684), (.int z_693), (.int z_702), (.int z_711), (.int z_720), (.int z_729), (.int z_738), (.int z_747)] := (f775.keep K779 (ninS (neN (by omega)) nin0))
                refine Go.caload f782 (v := (.int z_684)) (by decide) rfl (hb hby at_667) (pc' := 668) rfl ?_
                refine Go.castore A777 (by decide) (Nat.lt_of_lt_of_eq (by decide : Int32.toNatClampNeg (1 : Int32) < 9) rfl) (by omega) (hb hby at_668) (pc' := 669) rfl ?_
                intro h783 A784 z785 K786 S787 C788
                rw [nch p684_0] at A784
                have A784 : Ar Z h783 a767 k768 .char [(.int z_675), (.int z_684), (.int 0), (.int 0), (.int 0), (.int 0), (.int 0), (.int 0), (.int 0)] := A784
                refine Go.dup (hb hby at_669) (pc' := 670) rfl rfl ?_
                refine Go.iconst (hb hby at_670) (pc' := 671) rfl (z := (2 : Int32)) rfl ?_
                refine Go.aload (hb hby at_671) (pc' := 673) rfl rfl rfl ?_
                refine Go.iconst (hb hby at_673) (pc' := 674) rfl (z := (2 : Int32)) rfl ?_
                have f789 : Ar Z h783 a666 k667 .char [(.int z_675), (.int z_684), (.int z_693), (.int z_702), (.int z_711), (.int z_720), (.int z_729), (.int z_738), (.int z_747)] := (f782.keep K786 (ninS (neN (by omega)) nin0))
                refine Go.caload f789 (v := (.int z_693)) (by decide) rfl (hb hby at_674) (pc' := 675) rfl ?_
                refine Go.castore A784 (by decide) (Nat.lt_of_lt_of_eq (by decide : Int32.toNatClampNeg (2 : Int32) < 9) rfl) (by omega) (hb hby at_675) (pc' := 676) rfl ?_
                intro h790 A791 z792 K793 S794 C795
                rw [nch p693_0] at A791
                have A791 : Ar Z h790 a767 k768 .char [(.int z_675), (.int z_684), (.int z_693), (.int 0), (.int 0), (.int 0), (.int 0), (.int 0), (.int 0)] := A791
                refine Go.dup (hb hby at_676) (pc' := 677) rfl rfl ?_
                refine Go.iconst (hb hby at_677) (pc' := 678) rfl (z := (3 : Int32)) rfl ?_
                refine Go.aload (hb hby at_678) (pc' := 680) rfl rfl rfl ?_
                refine Go.iconst (hb hby at_680) (pc' := 681) rfl (z := (3 : Int32)) rfl ?_
                have f796 : Ar Z h790 a666 k667 .char [(.int z_675), (.int z_684), (.int z_693), (.int z_702), (.int z_711), (.int z_720), (.int z_729), (.int z_738), (.int z_747)] := (f789.keep K793 (ninS (neN (by omega)) nin0))
                refine Go.caload f796 (v := (.int z_702)) (by decide) rfl (hb hby at_681) (pc' := 682) rfl ?_
                refine Go.castore A791 (by decide) (Nat.lt_of_lt_of_eq (by decide : Int32.toNatClampNeg (3 : Int32) < 9) rfl) (by omega) (hb hby at_682) (pc' := 683) rfl ?_
                intro h797 A798 z799 K800 S801 C802
                rw [nch p702_0] at A798
                have A798 : Ar Z h797 a767 k768 .char [(.int z_675), (.int z_684), (.int z_693), (.int z_702), (.int 0), (.int 0), (.int 0), (.int 0), (.int 0)] := A798
                refine Go.dup (hb hby at_683) (pc' := 684) rfl rfl ?_
                refine Go.iconst (hb hby at_684) (pc' := 685) rfl (z := (4 : Int32)) rfl ?_
                refine Go.aload (hb hby at_685) (pc' := 687) rfl rfl rfl ?_
                refine Go.iconst (hb hby at_687) (pc' := 688) rfl (z := (4 : Int32)) rfl ?_
                have f803 : Ar Z h797 a666 k667 .char [(.int z_675), (.int z_684), (.int z_693), (.int z_702), (.int z_711), (.int z_720), (.int z_729), (.int z_738), (.int z_747)] := (f796.keep K800 (ninS (neN (by omega)) nin0))
                refine Go.caload f803 (v := (.int z_711)) (by decide) rfl (hb hby at_688) (pc' := 689) rfl ?_
                refine Go.castore A798 (by decide) (Nat.lt_of_lt_of_eq (by decide : Int32.toNatClampNeg (4 : Int32) < 9) rfl) (by omega) (hb hby at_689) (pc' := 690) rfl ?_
                intro h804 A805 z806 K807 S808 C809
                rw [nch p711_0] at A805
                have A805 : Ar Z h804 a767 k768 .char [(.int z_675), (.int z_684), (.int z_693), (.int z_702), (.int z_711), (.int 0), (.int 0), (.int 0), (.int 0)] := A805
                refine Go.dup (hb hby at_690) (pc' := 691) rfl rfl ?_
                refine Go.iconst (hb hby at_691) (pc' := 692) rfl (z := (5 : Int32)) rfl ?_
                refine Go.aload (hb hby at_692) (pc' := 694) rfl rfl rfl ?_
                refine Go.iconst (hb hby at_694) (pc' := 695) rfl (z := (5 : Int32)) rfl ?_
                have f810 : Ar Z h804 a666 k667 .char [(.int z_675), (.int z_684), (.int z_693), (.int z_702), (.int z_711), (.int z_720), (.int z_729), (.int z_738), (.int z_747)] := (f803.keep K807 (ninS (neN (by omega)) nin0))
                refine Go.caload f810 (v := (.int z_720)) (by decide) rfl (hb hby at_695) (pc' := 696) rfl ?_
                refine Go.castore A805 (by decide) (Nat.lt_of_lt_of_eq (by decide : Int32.toNatClampNeg (5 : Int32) < 9) rfl) (by omega) (hb hby at_696) (pc' := 697) rfl ?_
                intro h811 A812 z813 K814 S815 C816
                rw [nch p720_0] at A812
                have A812 : Ar Z h811 a767 k768 .char [(.int z_675), (.int z_684), (.int z_693), (.int z_702), (.int z_711), (.int z_720), (.int 0), (.int 0), (.int 0)] := A812
                refine Go.dup (hb hby at_697) (pc' := 698) rfl rfl ?_
                refine Go.bipush (hb hby at_698) (pc' := 700) rfl (z := (6 : Int32)) rfl ?_
                refine Go.aload (hb hby at_700) (pc' := 702) rfl rfl rfl ?_
                refine Go.bipush (hb hby at_702) (pc' := 704) rfl (z := (6 : Int32)) rfl ?_
                have f817 : Ar Z h811 a666 k667 .char [(.int z_675), (.int z_684), (.int z_693), (.int z_702), (.int z_711), (.int z_720), (.int z_729), (.int z_738), (.int z_747)] := (f810.keep K814 (ninS (neN (by omega)) nin0))
                refine Go.caload f817 (v := (.int z_729)) (by decide) rfl (hb hby at_704) (pc' := 705) rfl ?_
                refine Go.castore A812 (by decide) (Nat.lt_of_lt_of_eq (by decide : Int32.toNatClampNeg (6 : Int32) < 9) rfl) (by omega) (hb hby at_705) (pc' := 706) rfl ?_
                intro h818 A819 z820 K821 S822 C823
                rw [nch p729_0] at A819
                have A819 : Ar Z h818 a767 k768 .char [(.int z_675), (.int z_684), (.int z_693), (.int z_702), (.int z_711), (.int z_720), (.int z_729), (.int 0), (.int 0)] := A819
                refine Go.dup (hb hby at_706) (pc' := 707) rfl rfl ?_
                refine Go.bipush (hb hby at_707) (pc' := 709) rfl (z := (7 : Int32)) rfl ?_
                refine Go.aload (hb hby at_709) (pc' := 711) rfl rfl rfl ?_
                refine Go.bipush (hb hby at_711) (pc' := 713) rfl (z := (7 : Int32)) rfl ?_
                have f824 : Ar Z h818 a666 k667 .char [(.int z_675), (.int z_684), (.int z_693), (.int z_702), (.int z_711), (.int z_720), (.int z_729), (.int z_738), (.int z_747)] := (f817.keep K821 (ninS (neN (by omega)) nin0))
                refine Go.caload f824 (v := (.int z_738)) (by decide) rfl (hb hby at_713) (pc' := 714) rfl ?_
                refine Go.castore A819 (by decide) (Nat.lt_of_lt_of_eq (by decide : Int32.toNatClampNeg (7 : Int32) < 9) rfl) (by omega) (hb hby at_714) (pc' := 715) rfl ?_
                intro h825 A826 z827 K828 S829 C830
                rw [nch p738_0] at A826
                have A826 : Ar Z h825 a767 k768 .char [(.int z_675), (.int z_684), (.int z_693), (.int z_702), (.int z_711), (.int z_720), (.int z_729), (.int z_738), (.int 0)] := A826
                refine Go.dup (hb hby at_715) (pc' := 716) rfl rfl ?_
                refine Go.bipush (hb hby at_716) (pc' := 718) rfl (z := (8 : Int32)) rfl ?_
                refine Go.aload (hb hby at_718) (pc' := 720) rfl rfl rfl ?_
                refine Go.bipush (hb hby at_720) (pc' := 722) rfl (z := (8 : Int32)) rfl ?_
                have f831 : Ar Z h825 a666 k667 .char [(.int z_675), (.int z_684), (.int z_693), (.int z_702), (.int z_711), (.int z_720), (.int z_729), (.int z_738), (.int z_747)] := (f824.keep K828 (ninS (neN (by omega)) nin0))
                refine Go.caload f831 (v := (.int z_747)) (by decide) rfl (hb hby at_722) (pc' := 723) rfl ?_
                refine Go.castore A826 (by decide) (Nat.lt_of_lt_of_eq (by decide : Int32.toNatClampNeg (8 : Int32) < 9) rfl) (by omega) (hb hby at_723) (pc' := 724) rfl ?_
                intro h832 A833 z834 K835 S836 C837
                rw [nch p747_0] at A833
                have A833 : Ar Z h832 a767 k768 .char [(.int z_675), (.int z_684), (.int z_693), (.int z_702), (.int z_711), (.int z_720), (.int z_729), (.int z_738), (.int z_747)] := A833
                have f838 : Exa Z h832 a756 "java/lang/String" := ((((((((((X760.keep KE771).keep K779).keep K786).keep K793).keep K800).keep K807).keep K814).keep K821).keep K828).keep K835)
                have f839 : Fld Z h832 a756 "java/lang/String" "coder" "B" (.int 0) := ((((((((((f765.keep KE771 nin0).keep K779 (ninS (neN (by omega)) nin0)).keep K786 (ninS (neN (by omega)) nin0)).keep K793 (ninS (neN (by omega)) nin0)).keep K800 (ninS (neN (by omega)) nin0)).keep K807 (ninS (neN (by omega)) nin0)).keep K814 (ninS (neN (by omega)) nin0)).keep K821 (ninS (neN (by omega)) nin0)).keep K828 (ninS (neN (by omega)) nin0)).keep K835 (ninS (neN (by omega)) nin0))
                have f840 : Fld Z h832 a756 "java/lang/String" "value" "[B" .null := ((((((((((f764.keep KE771 nin0).keep K779 (ninS (neN (by omega)) nin0)).keep K786 (ninS (neN (by omega)) nin0)).keep K793 (ninS (neN (by omega)) nin0)).keep K800 (ninS (neN (by omega)) nin0)).keep K807 (ninS (neN (by omega)) nin0)).keep K814 (ninS (neN (by omega)) nin0)).keep K821 (ninS (neN (by omega)) nin0)).keep K828 (ninS (neN (by omega)) nin0)).keep K835 (ninS (neN (by omega)) nin0))
                have f841 : Safe Z EL vm747 h832 a756 := (Safe.to C837 (by omega) (Safe.to C830 (by omega) (Safe.to C823 (by omega) (Safe.to C816 (by omega) (Safe.to C809 (by omega) (Safe.to C802 (by omega) (Safe.to C795 (by omega) (Safe.to C788 (by omega) (Safe.to C781 (by omega) (Safe.to C774 (by omega) S762))))))))))
                refine Go.callC (c_strinit (l := l) (nw := nw) g h832 a756 a767 k768 [z_675, z_684, z_693, z_702, z_711, z_720, z_729, z_738, z_747] (alS p675_0 (alS p684_0 (alS p693_0 (alS p702_0 (alS p711_0 (alS p720_0 (alS p729_0 (alS p738_0 (alS p747_0 al0))))))))) (by simp) (by simp) (by first | omega | assumption | decide) f838 f839 f840 A833 (by omega)) hown rfl rfl (wd_25 g) (wd_26 g) (wd_27 g) (wd_11 g) (by decide) (argsL := [(.ref a767)]) (lenOf pd_7 rfl) rfl (by rw [hml]; rfl) (W := 1) rfl (hb hby at_724) (pc' := 727) rfl (by decide) (by decide) (by decide) (by decide) (allS ⟨by omega, f841⟩ all0) ?_
                rintro _ vm842 h842 ⟨d_842, kd_842, rfl, K842, p842_0, o842_0⟩ C842
                have z842 := K842.1
                have yo842_0 := ltN o842_0.lt; have yo842_0' := ltN o842_0.ltb
                -- pc 727
                refine Go.astore (hb hby at_727) (pc' := 729) rfl rfl (L' := #[.val (.int i0), .val (.int i1), .val (.long i2), .second, .val (.int i3), .val (.int k), .val (.int (0 : Int32)), .val (.ref a540), .val (.ref a603), .val (.ref a603), .val (.ref a666), .val (.ref a756), .unset, .unset, .unset]) rfl ?_
                refine Go.iload (hb hby at_729) (pc' := 731) rfl rfl ?_
                refine Go.iconst (hb hby at_731) (pc' := 732) rfl (z := (2 : Int32)) rfl ?_
                refine Go.icmpY (hb hby at_732) (by decide) (pc' := 775) (by decide) q9 ?_
                refine Go.iconst (hb hby at_775) (pc' := 776) rfl (z := (0 : Int32)) rfl ?_
                refine Go.istore (hb hby at_776) (pc' := 778) rfl (L' := #[.val (.int i0), .val (.int i1), .val (.long i2), .second, .val (.int i3), .val (.int k), .val (.int (0 : Int32)), .val (.ref a540), .val (.ref a603), .val (.ref a603), .val (.ref a666), .val (.ref a756), .val (.int (0 : Int32)), .unset, .unset]) rfl ?_
                refine Go.iload (hb hby at_778) (pc' := 780) rfl rfl ?_
                refine Go.iconst (hb hby at_780) (pc' := 781) rfl (z := (3 : Int32)) rfl ?_
                refine Go.icmpY (hb hby at_781) (by decide) (pc' := 862) (by decide) q396 ?_
                refine Go.iconst (hb hby at_862) (pc' := 863) rfl (z := (0 : Int32)) rfl ?_
                refine Go.istore (hb hby at_863) (pc' := 865) rfl (L' := #[.val (.int i0), .val (.int i1), .val (.long i2), .second, .val (.int i3), .val (.int k), .val (.int (0 : Int32)), .val (.ref a540), .val (.ref a603), .val (.ref a603), .val (.ref a666), .val (.ref a756), .val (.int (0 : Int32)), .val (.int (0 : Int32)), .unset]) rfl ?_
                refine Go.iload (hb hby at_865) (pc' := 867) rfl rfl ?_
                refine Go.ifN (hb hby at_867) (pc' := 870) rfl (show ¬ (¬ (0 : Int32) = (0 : Int32)) from by decide) ?_
                refine Go.iload (hb hby at_870) (pc' := 872) rfl rfl ?_
                refine Go.ifY (hb hby at_872) (by decide) (pc' := 879) (by decide) (show (0 : Int32) = (0 : Int32) from by decide) ?_
                refine Go.iconst (hb hby at_879) (pc' := 880) rfl (z := (0 : Int32)) rfl ?_
                refine Go.istore (hb hby at_880) (pc' := 882) rfl (L' := #[.val (.int i0), .val (.int i1), .val (.long i2), .second, .val (.int i3), .val (.int k), .val (.int (0 : Int32)), .val (.ref a540), .val (.ref a603), .val (.ref a603), .val (.ref a666), .val (.ref a756), .val (.int (0 : Int32)), .val (.int (0 : Int32)), .val (.int (0 : Int32))]) rfl ?_
                refine Go.aload (hb hby at_882) (pc' := 884) rfl rfl rfl ?_
                refine Go.callS (c_res (l := l) (nw := nw) g hnw h842 a756 d_842 kd_842 ([z_675, z_684, z_693, z_702, z_711, z_720, z_729, z_738, z_747].map by8) o842_0 (by omega)) hown (wd_6 g) (wd_7 g) (wd_9 g) (wd_8 g) (by decide) (argsL := [(.ref a756)]) (lenOf pd_8 rfl) rfl (by rw [hml]; rfl) (W := 0) rfl (hb hby at_884) (pc' := 887) rfl (by decide) (by decide) (by decide) (by decide) all0 ?_
                rintro _ vm843 h843 ⟨rfl, K843⟩ C843
                have z843 := K843.1
                -- pc 887
                refine Go.iload (hb hby at_887) (pc' := 889) rfl rfl ?_
                refine Go.icmpN (hb hby at_889) (pc' := 892) rfl (fun q => q (bo_no (fun z => z.elim (fun z => absurd (congrArg List.length z) (by simp)) (fun z => absurd (congrArg List.length z) (by simp))))) ?_
                refine Go.iconst (hb hby at_892) (pc' := 893) rfl (z := (1 : Int32)) rfl ?_
                refine Go.goto (hb hby at_893) (by decide) (pc' := 897) (by decide) ?_
                refine Go.retN (t := .boolean) hret (by simp) (hb hby at_897) (by decide) (by decide) ?_
                intro vmR CR
                exact ⟨(by first | rfl | (simp only [own_nar]; done) | (congr 2; done)), (((((((((((((((((((((((((((((((((((((((((((((((((((((Keep.refl h []).trans KE544 all0).trans K551 (allS (by first | (left; simp; done) | (right; omega)) all0)).trans K557 (allS (by first | (left; simp; done) | (right; omega)) all0)).trans K563 (allS (by first | (left; simp; done) | (right; omega)) all0)).trans K569 (allS (by first | (left; simp; done) | (right; omega)) all0)).trans K575 (allS (by first | (left; simp; done) | (right; omega)) all0)).trans K581 (allS (by first | (left; simp; done) | (right; omega)) all0)).trans K587 (allS (by first | (left; simp; done) | (right; omega)) all0)).trans K593 (allS (by first | (left; simp; done) | (right; omega)) all0)).trans K599 (allS (by first | (left; simp; done) | (right; omega)) all0)).trans KE607 all0).trans K614 (allS (by first | (left; simp; done) | (right; omega)) all0)).trans K620 (allS (by first | (left; simp; done) | (right; omega)) all0)).trans K626 (allS (by first | (left; simp; done) | (right; omega)) all0)).trans K632 (allS (by first | (left; simp; done) | (right; omega)) all0)).trans K638 (allS (by first | (left; simp; done) | (right; omega)) all0)).trans K644 (allS (by first | (left; simp; done) | (right; omega)) all0)).trans K650 (allS (by first | (left; simp; done) | (right; omega)) all0)).trans K656 (allS (by first | (left; simp; done) | (right; omega)) all0)).trans K662 (allS (by first | (left; simp; done) | (right; omega)) all0)).trans KE670 all0).trans K675 all0).trans K680 (allS (by first | (left; simp; done) | (right; omega)) all0)).trans K684 all0).trans K689 (allS (by first | (left; simp; done) | (right; omega)) all0)).trans K693 all0).trans K698 (allS (by first | (left; simp; done) | (right; omega)) all0)).trans K702 all0).trans K707 (allS (by first | (left; simp; done) | (right; omega)) all0)).trans K711 all0).trans K716 (allS (by first | (left; simp; done) | (right; omega)) all0)).trans K720 all0).trans K725 (allS (by first | (left; simp; done) | (right; omega)) all0)).trans K729 all0).trans K734 (allS (by first | (left; simp; done) | (right; omega)) all0)).trans K738 all0).trans K743 (allS (by first | (left; simp; done) | (right; omega)) all0)).trans K747 all0).trans K752 (allS (by first | (left; simp; done) | (right; omega)) all0)).trans KE759 all0).trans KE771 all0).trans K779 (allS (by first | (left; simp; done) | (right; omega)) all0)).trans K786 (allS (by first | (left; simp; done) | (right; omega)) all0)).trans K793 (allS (by first | (left; simp; done) | (right; omega)) all0)).trans K800 (allS (by first | (left; simp; done) | (right; omega)) all0)).trans K807 (allS (by first | (left; simp; done) | (right; omega)) all0)).trans K814 (allS (by first | (left; simp; done) | (right; omega)) all0)).trans K821 (allS (by first | (left; simp; done) | (right; omega)) all0)).trans K828 (allS (by first | (left; simp; done) | (right; omega)) all0)).trans K835 (allS (by first | (left; simp; done) | (right; omega)) all0)).trans K842 (allS (by first | (left; simp; done) | (right; omega)) all0)).trans K843 all0)⟩
              · have r577 := Classical.not_not.mp q577
                subst r577
                refine Go.newO hown (wd_24 g) (wd_12 g) (wd_11 g) (hb hby at_580) (pc' := 583) rfl (by decide) (by decide) ?_
                intro h844 a845 g846 l847 E848 X849 D850 S851 C852
                have KE848 := Keep.ofExt E848; have zE848 := E848.1
                have f853 : Fld Z h844 a845 "java/lang/String" "value" "[B" .null := D850 (Or.inr (wd_14 g)) (ty := (.array .byte)) (by decide)
                have f854 : Fld Z h844 a845 "java/lang/String" "coder" "B" (.int 0) := D850 (Or.inr (wd_15 g)) (ty := .byte) (by decide)
                refine Go.dup (hb hby at_583) (pc' := 584) rfl rfl ?_
                refine Go.bipush (hb hby at_584) (pc' := 586) rfl (z := (7 : Int32)) rfl ?_
                refine Go.newP (ty := .char) rfl (wd_0 g) (hb hby at_586) (pc' := 588) rfl (by decide) (cap := 7) (by decide) (by decide) (by decide) (by decide) ?_
                intro h855 a856 k857 g858 l859 E860 A861 S862 C863
                have KE860 := Keep.ofExt E860; have zE860 := E860.1
                have A861 : Ar Z h855 a856 k857 .char [(.int 0), (.int 0), (.int 0), (.int 0), (.int 0), (.int 0), (.int 0)] := A861
                refine Go.dup (hb hby at_588) (pc' := 589) rfl rfl ?_
                refine Go.iconst (hb hby at_589) (pc' := 590) rfl (z := (0 : Int32)) rfl ?_
                refine Go.aload (hb hby at_590) (pc' := 592) rfl rfl rfl ?_
                refine Go.iconst (hb hby at_592) (pc' := 593) rfl (z := (0 : Int32)) rfl ?_
                have f864 : Ar Z h855 a666 k667 .char [(.int z_675), (.int z_684), (.int z_693), (.int z_702), (.int z_711), (.int z_720), (.int z_729), (.int z_738), (.int z_747)] := ((A750.keep KE848 nin0).keep KE860 nin0)
                refine Go.caload f864 (v := (.int z_675)) (by decide) rfl (hb hby at_593) (pc' := 594) rfl ?_
                refine Go.castore A861 (by decide) (Nat.lt_of_lt_of_eq (by decide : Int32.toNatClampNeg (0 : Int32) < 7) rfl) (by omega) (hb hby at_594) (pc' := 595) rfl ?_
                intro h865 A866 z867 K868 S869 C870
                rw [nch p675_0] at A866
                have A866 : Ar Z h865 a856 k857 .char [(.int z_675), (.int 0), (.int 0), (.int 0), (.int 0), (.int 0), (.int 0)] := A866
                refine Go.dup (hb hby at_595) (pc' := 596) rfl rfl ?_
                refine Go.iconst (hb hby at_596) (pc' := 597) rfl (z := (1 : Int32)) rfl ?_
                refine Go.aload (hb hby at_597) (pc' := 599) rfl rfl rfl ?_
                refine Go.iconst (hb hby at_599) (pc' := 600) rfl (z := (1 : Int32)) rfl ?_
                have f871 : Ar Z h865 a666 k667 .char [(.int z_675), (.int z_684), (.int z_693), (.int z_702), (.int z_711), (.int z_720), (.int z_729), (.int z_738), (.int z_747)] := (f864.keep K868 (ninS (neN (by omega)) nin0))
                refine Go.caload f871 (v := (.int z_684)) (by decide) rfl (hb hby at_600) (pc' := 601) rfl ?_
                refine Go.castore A866 (by decide) (Nat.lt_of_lt_of_eq (by decide : Int32.toNatClampNeg (1 : Int32) < 7) rfl) (by omega) (hb hby at_601) (pc' := 602) rfl ?_
                intro h872 A873 z874 K875 S876 C877
                rw [nch p684_0] at A873
                have A873 : Ar Z h872 a856 k857 .char [(.int z_675), (.int z_684), (.int 0), (.int 0), (.int 0), (.int 0), (.int 0)] := A873
                refine Go.dup (hb hby at_602) (pc' := 603) rfl rfl ?_
                refine Go.iconst (hb hby at_603) (pc' := 604) rfl (z := (2 : Int32)) rfl ?_
                refine Go.aload (hb hby at_604) (pc' := 606) rfl rfl rfl ?_
                refine Go.iconst (hb hby at_606) (pc' := 607) rfl (z := (2 : Int32)) rfl ?_
                have f878 : Ar Z h872 a666 k667 .char [(.int z_675), (.int z_684), (.int z_693), (.int z_702), (.int z_711), (.int z_720), (.int z_729), (.int z_738), (.int z_747)] := (f871.keep K875 (ninS (neN (by omega)) nin0))
                refine Go.caload f878 (v := (.int z_693)) (by decide) rfl (hb hby at_607) (pc' := 608) rfl ?_
                refine Go.castore A873 (by decide) (Nat.lt_of_lt_of_eq (by decide : Int32.toNatClampNeg (2 : Int32) < 7) rfl) (by omega) (hb hby at_608) (pc' := 609) rfl ?_
                intro h879 A880 z881 K882 S883 C884
                rw [nch p693_0] at A880
                have A880 : Ar Z h879 a856 k857 .char [(.int z_675), (.int z_684), (.int z_693), (.int 0), (.int 0), (.int 0), (.int 0)] := A880
                refine Go.dup (hb hby at_609) (pc' := 610) rfl rfl ?_
                refine Go.iconst (hb hby at_610) (pc' := 611) rfl (z := (3 : Int32)) rfl ?_
                refine Go.aload (hb hby at_611) (pc' := 613) rfl rfl rfl ?_
                refine Go.iconst (hb hby at_613) (pc' := 614) rfl (z := (3 : Int32)) rfl ?_
                have f885 : Ar Z h879 a666 k667 .char [(.int z_675), (.int z_684), (.int z_693), (.int z_702), (.int z_711), (.int z_720), (.int z_729), (.int z_738), (.int z_747)] := (f878.keep K882 (ninS (neN (by omega)) nin0))
                refine Go.caload f885 (v := (.int z_702)) (by decide) rfl (hb hby at_614) (pc' := 615) rfl ?_
                refine Go.castore A880 (by decide) (Nat.lt_of_lt_of_eq (by decide : Int32.toNatClampNeg (3 : Int32) < 7) rfl) (by omega) (hb hby at_615) (pc' := 616) rfl ?_
                intro h886 A887 z888 K889 S890 C891
                rw [nch p702_0] at A887
                have A887 : Ar Z h886 a856 k857 .char [(.int z_675), (.int z_684), (.int z_693), (.int z_702), (.int 0), (.int 0), (.int 0)] := A887
                refine Go.dup (hb hby at_616) (pc' := 617) rfl rfl ?_
                refine Go.iconst (hb hby at_617) (pc' := 618) rfl (z := (4 : Int32)) rfl ?_
                refine Go.aload (hb hby at_618) (pc' := 620) rfl rfl rfl ?_
                refine Go.iconst (hb hby at_620) (pc' := 621) rfl (z := (4 : Int32)) rfl ?_
                have f892 : Ar Z h886 a666 k667 .char [(.int z_675), (.int z_684), (.int z_693), (.int z_702), (.int z_711), (.int z_720), (.int z_729), (.int z_738), (.int z_747)] := (f885.keep K889 (ninS (neN (by omega)) nin0))
                refine Go.caload f892 (v := (.int z_711)) (by decide) rfl (hb hby at_621) (pc' := 622) rfl ?_
                refine Go.castore A887 (by decide) (Nat.lt_of_lt_of_eq (by decide : Int32.toNatClampNeg (4 : Int32) < 7) rfl) (by omega) (hb hby at_622) (pc' := 623) rfl ?_
                intro h893 A894 z895 K896 S897 C898
                rw [nch p711_0] at A894
                have A894 : Ar Z h893 a856 k857 .char [(.int z_675), (.int z_684), (.int z_693), (.int z_702), (.int z_711), (.int 0), (.int 0)] := A894
                refine Go.dup (hb hby at_623) (pc' := 624) rfl rfl ?_
                refine Go.iconst (hb hby at_624) (pc' := 625) rfl (z := (5 : Int32)) rfl ?_
                refine Go.aload (hb hby at_625) (pc' := 627) rfl rfl rfl ?_
                refine Go.iconst (hb hby at_627) (pc' := 628) rfl (z := (5 : Int32)) rfl ?_
                have f899 : Ar Z h893 a666 k667 .char [(.int z_675), (.int z_684), (.int z_693), (.int z_702), (.int z_711), (.int z_720), (.int z_729), (.int z_738), (.int z_747)] := (f892.keep K896 (ninS (neN (by omega)) nin0))
                refine Go.caload f899 (v := (.int z_720)) (by decide) rfl (hb hby at_628) (pc' := 629) rfl ?_
                refine Go.castore A894 (by decide) (Nat.lt_of_lt_of_eq (by decide : Int32.toNatClampNeg (5 : Int32) < 7) rfl) (by omega) (hb hby at_629) (pc' := 630) rfl ?_
                intro h900 A901 z902 K903 S904 C905
                rw [nch p720_0] at A901
                have A901 : Ar Z h900 a856 k857 .char [(.int z_675), (.int z_684), (.int z_693), (.int z_702), (.int z_711), (.int z_720), (.int 0)] := A901
                refine Go.dup (hb hby at_630) (pc' := 631) rfl rfl ?_
                refine Go.bipush (hb hby at_631) (pc' := 633) rfl (z := (6 : Int32)) rfl ?_
                refine Go.aload (hb hby at_633) (pc' := 635) rfl rfl rfl ?_
                refine Go.bipush (hb hby at_635) (pc' := 637) rfl (z := (6 : Int32)) rfl ?_
                have f906 : Ar Z h900 a666 k667 .char [(.int z_675), (.int z_684), (.int z_693), (.int z_702), (.int z_711), (.int z_720), (.int z_729), (.int z_738), (.int z_747)] := (f899.keep K903 (ninS (neN (by omega)) nin0))
                refine Go.caload f906 (v := (.int z_729)) (by decide) rfl (hb hby at_637) (pc' := 638) rfl ?_
                refine Go.castore A901 (by decide) (Nat.lt_of_lt_of_eq (by decide : Int32.toNatClampNeg (6 : Int32) < 7) rfl) (by omega) (hb hby at_638) (pc' := 639) rfl ?_
                intro h907 A908 z909 K910 S911 C912
                rw [nch p729_0] at A908
                have A908 : Ar Z h907 a856 k857 .char [(.int z_675), (.int z_684), (.int z_693), (.int z_702), (.int z_711), (.int z_720), (.int z_729)] := A908
                have f913 : Exa Z h907 a845 "java/lang/String" := ((((((((X849.keep KE860).keep K868).keep K875).keep K882).keep K889).keep K896).keep K903).keep K910)
                have f914 : Fld Z h907 a845 "java/lang/String" "coder" "B" (.int 0) := ((((((((f854.keep KE860 nin0).keep K868 (ninS (neN (by omega)) nin0)).keep K875 (ninS (neN (by omega)) nin0)).keep K882 (ninS (neN (by omega)) nin0)).keep K889 (ninS (neN (by omega)) nin0)).keep K896 (ninS (neN (by omega)) nin0)).keep K903 (ninS (neN (by omega)) nin0)).keep K910 (ninS (neN (by omega)) nin0))
                have f915 : Fld Z h907 a845 "java/lang/String" "value" "[B" .null := ((((((((f853.keep KE860 nin0).keep K868 (ninS (neN (by omega)) nin0)).keep K875 (ninS (neN (by omega)) nin0)).keep K882 (ninS (neN (by omega)) nin0)).keep K889 (ninS (neN (by omega)) nin0)).keep K896 (ninS (neN (by omega)) nin0)).keep K903 (ninS (neN (by omega)) nin0)).keep K910 (ninS (neN (by omega)) nin0))
                have f916 : Safe Z EL vm747 h907 a845 := (Safe.to C912 (by omega) (Safe.to C905 (by omega) (Safe.to C898 (by omega) (Safe.to C891 (by omega) (Safe.to C884 (by omega) (Safe.to C877 (by omega) (Safe.to C870 (by omega) (Safe.to C863 (by omega) S851))))))))
                refine Go.callC (c_strinit (l := l) (nw := nw) g h907 a845 a856 k857 [z_675, z_684, z_693, z_702, z_711, z_720, z_729] (alS p675_0 (alS p684_0 (alS p693_0 (alS p702_0 (alS p711_0 (alS p720_0 (alS p729_0 al0))))))) (by simp) (by simp) (by first | omega | assumption | decide) f913 f914 f915 A908 (by omega)) hown rfl rfl (wd_25 g) (wd_26 g) (wd_27 g) (wd_11 g) (by decide) (argsL := [(.ref a856)]) (lenOf pd_7 rfl) rfl (by rw [hml]; rfl) (W := 1) rfl (hb hby at_639) (pc' := 642) rfl (by decide) (by decide) (by decide) (by decide) (allS ⟨by omega, f916⟩ all0) ?_
                rintro _ vm917 h917 ⟨d_917, kd_917, rfl, K917, p917_0, o917_0⟩ C917
                have z917 := K917.1
                have yo917_0 := ltN o917_0.lt; have yo917_0' := ltN o917_0.ltb
                -- pc 642
                refine Go.astore (hb hby at_642) (pc' := 644) rfl rfl (L' := #[.val (.int i0), .val (.int i1), .val (.long i2), .second, .val (.int i3), .val (.int (6 : Int32)), .val (.int (0 : Int32)), .val (.ref a540), .val (.ref a603), .val (.ref a603), .val (.ref a666), .val (.ref a845), .unset, .unset, .unset]) rfl ?_
                refine Go.goto (hb hby at_644) (by decide) (pc' := 729) (by decide) ?_
                refine Go.iload (hb hby at_729) (pc' := 731) rfl rfl ?_
                refine Go.iconst (hb hby at_731) (pc' := 732) rfl (z := (2 : Int32)) rfl ?_
                refine Go.icmpY (hb hby at_732) (by decide) (pc' := 775) (by decide) (show ¬ (6 : Int32) = (2 : Int32) from by decide) ?_
                refine Go.iconst (hb hby at_775) (pc' := 776) rfl (z := (0 : Int32)) rfl ?_
                refine Go.istore (hb hby at_776) (pc' := 778) rfl (L' := #[.val (.int i0), .val (.int i1), .val (.long i2), .second, .val (.int i3), .val (.int (6 : Int32)), .val (.int (0 : Int32)), .val (.ref a540), .val (.ref a603), .val (.ref a603), .val (.ref a666), .val (.ref a845), .val (.int (0 : Int32)), .unset, .unset]) rfl ?_
                refine Go.iload (hb hby at_778) (pc' := 780) rfl rfl ?_
                refine Go.iconst (hb hby at_780) (pc' := 781) rfl (z := (3 : Int32)) rfl ?_
                refine Go.icmpY (hb hby at_781) (by decide) (pc' := 862) (by decide) (show ¬ (6 : Int32) = (3 : Int32) from by decide) ?_
                refine Go.iconst (hb hby at_862) (pc' := 863) rfl (z := (0 : Int32)) rfl ?_
                refine Go.istore (hb hby at_863) (pc' := 865) rfl (L' := #[.val (.int i0), .val (.int i1), .val (.long i2), .second, .val (.int i3), .val (.int (6 : Int32)), .val (.int (0 : Int32)), .val (.ref a540), .val (.ref a603), .val (.ref a603), .val (.ref a666), .val (.ref a845), .val (.int (0 : Int32)), .val (.int (0 : Int32)), .unset]) rfl ?_
                refine Go.iload (hb hby at_865) (pc' := 867) rfl rfl ?_
                refine Go.ifN (hb hby at_867) (pc' := 870) rfl (show ¬ (¬ (0 : Int32) = (0 : Int32)) from by decide) ?_
                refine Go.iload (hb hby at_870) (pc' := 872) rfl rfl ?_
                refine Go.ifY (hb hby at_872) (by decide) (pc' := 879) (by decide) (show (0 : Int32) = (0 : Int32) from by decide) ?_
                refine Go.iconst (hb hby at_879) (pc' := 880) rfl (z := (0 : Int32)) rfl ?_
                refine Go.istore (hb hby at_880) (pc' := 882) rfl (L' := #[.val (.int i0), .val (.int i1), .val (.long i2), .second, .val (.int i3), .val (.int (6 : Int32)), .val (.int (0 : Int32)), .val (.ref a540), .val (.ref a603), .val (.ref a603), .val (.ref a666), .val (.ref a845), .val (.int (0 : Int32)), .val (.int (0 : Int32)), .val (.int (0 : Int32))]) rfl ?_
                refine Go.aload (hb hby at_882) (pc' := 884) rfl rfl rfl ?_
                refine Go.callS (c_res (l := l) (nw := nw) g hnw h917 a845 d_917 kd_917 ([z_675, z_684, z_693, z_702, z_711, z_720, z_729].map by8) o917_0 (by omega)) hown (wd_6 g) (wd_7 g) (wd_9 g) (wd_8 g) (by decide) (argsL := [(.ref a845)]) (lenOf pd_8 rfl) rfl (by rw [hml]; rfl) (W := 0) rfl (hb hby at_884) (pc' := 887) rfl (by decide) (by decide) (by decide) (by decide) all0 ?_
                rintro _ vm918 h918 ⟨rfl, K918⟩ C918
                have z918 := K918.1
                -- pc 887
                refine Go.iload (hb hby at_887) (pc' := 889) rfl rfl ?_
                refine Go.icmpN (hb hby at_889) (pc' := 892) rfl (fun q => q (bo_no (fun z => z.elim (fun z => absurd (congrArg List.length z) (by simp)) (fun z => absurd (congrArg List.length z) (by simp))))) ?_
                refine Go.iconst (hb hby at_892) (pc' := 893) rfl (z := (1 : Int32)) rfl ?_
                refine Go.goto (hb hby at_893) (by decide) (pc' := 897) (by decide) ?_
                refine Go.retN (t := .boolean) hret (by simp) (hb hby at_897) (by decide) (by decide) ?_
                intro vmR CR
                exact ⟨(by first | rfl | (simp only [own_nar]; done) | (congr 2; done)), (((((((((((((((((((((((((((((((((((((((((((((((((((Keep.refl h []).trans KE544 all0).trans K551 (allS (by first | (left; simp; done) | (right; omega)) all0)).trans K557 (allS (by first | (left; simp; done) | (right; omega)) all0)).trans K563 (allS (by first | (left; simp; done) | (right; omega)) all0)).trans K569 (allS (by first | (left; simp; done) | (right; omega)) all0)).trans K575 (allS (by first | (left; simp; done) | (right; omega)) all0)).trans K581 (allS (by first | (left; simp; done) | (right; omega)) all0)).trans K587 (allS (by first | (left; simp; done) | (right; omega)) all0)).trans K593 (allS (by first | (left; simp; done) | (right; omega)) all0)).trans K599 (allS (by first | (left; simp; done) | (right; omega)) all0)).trans KE607 all0).trans K614 (allS (by first | (left; simp; done) | (right; omega)) all0)).trans K620 (allS (by first | (left; simp; done) | (right; omega)) all0)).trans K626 (allS (by first | (left; simp; done) | (right; omega)) all0)).trans K632 (allS (by first | (left; simp; done) | (right; omega)) all0)).trans K638 (allS (by first | (left; simp; done) | (right; omega)) all0)).trans K644 (allS (by first | (left; simp; done) | (right; omega)) all0)).trans K650 (allS (by first | (left; simp; done) | (right; omega)) all0)).trans K656 (allS (by first | (left; simp; done) | (right; omega)) all0)).trans K662 (allS (by first | (left; simp; done) | (right; omega)) all0)).trans KE670 all0).trans K675 all0).trans K680 (allS (by first | (left; simp; done) | (right; omega)) all0)).trans K684 all0).trans K689 (allS (by first | (left; simp; done) | (right; omega)) all0)).trans K693 all0).trans K698 (allS (by first | (left; simp; done) | (right; omega)) all0)).trans K702 all0).trans K707 (allS (by first | (left; simp; done) | (right; omega)) all0)).trans K711 all0).trans K716 (allS (by first | (left; simp; done) | (right; omega)) all0)).trans K720 all0).trans K725 (allS (by first | (left; simp; done) | (right; omega)) all0)).trans K729 all0).trans K734 (allS (by first | (left; simp; done) | (right; omega)) all0)).trans K738 all0).trans K743 (allS (by first | (left; simp; done) | (right; omega)) all0)).trans K747 all0).trans K752 (allS (by first | (left; simp; done) | (right; omega)) all0)).trans KE848 all0).trans KE860 all0).trans K868 (allS (by first | (left; simp; done) | (right; omega)) all0)).trans K875 (allS (by first | (left; simp; done) | (right; omega)) all0)).trans K882 (allS (by first | (left; simp; done) | (right; omega)) all0)).trans K889 (allS (by first | (left; simp; done) | (right; omega)) all0)).trans K896 (allS (by first | (left; simp; done) | (right; omega)) all0)).trans K903 (allS (by first | (left; simp; done) | (right; omega)) all0)).trans K910 (allS (by first | (left; simp; done) | (right; omega)) all0)).trans K917 (allS (by first | (left; simp; done) | (right; omega)) all0)).trans K918 all0)⟩
            · have r396 := Classical.not_not.mp q396
              subst r396
              refine Go.newO hown (wd_24 g) (wd_12 g) (wd_11 g) (hb hby at_399) (pc' := 402) rfl (by decide) (by decide) ?_
              intro h919 a920 g921 l922 E923 X924 D925 S926 C927
              have KE923 := Keep.ofExt E923; have zE923 := E923.1
              have f928 : Fld Z h919 a920 "java/lang/String" "value" "[B" .null := D925 (Or.inr (wd_14 g)) (ty := (.array .byte)) (by decide)
              have f929 : Fld Z h919 a920 "java/lang/String" "coder" "B" (.int 0) := D925 (Or.inr (wd_15 g)) (ty := .byte) (by decide)
              refine Go.dup (hb hby at_402) (pc' := 403) rfl rfl ?_
              refine Go.bipush (hb hby at_403) (pc' := 405) rfl (z := (8 : Int32)) rfl ?_
              refine Go.newP (ty := .char) rfl (wd_0 g) (hb hby at_405) (pc' := 407) rfl (by decide) (cap := 8) (by decide) (by decide) (by decide) (by decide) ?_
              intro h930 a931 k932 g933 l934 E935 A936 S937 C938
              have KE935 := Keep.ofExt E935; have zE935 := E935.1
              have A936 : Ar Z h930 a931 k932 .char [(.int 0), (.int 0), (.int 0), (.int 0), (.int 0), (.int 0), (.int 0), (.int 0)] := A936
              refine Go.dup (hb hby at_407) (pc' := 408) rfl rfl ?_
              refine Go.iconst (hb hby at_408) (pc' := 409) rfl (z := (0 : Int32)) rfl ?_
              refine Go.aload (hb hby at_409) (pc' := 411) rfl rfl rfl ?_
              refine Go.iconst (hb hby at_411) (pc' := 412) rfl (z := (0 : Int32)) rfl ?_
              have f939 : Ar Z h930 a666 k667 .char [(.int z_675), (.int z_684), (.int z_693), (.int z_702), (.int z_711), (.int z_720), (.int z_729), (.int z_738), (.int z_747)] := ((A750.keep KE923 nin0).keep KE935 nin0)
              refine Go.caload f939 (v := (.int z_675)) (by decide) rfl (hb hby at_412) (pc' := 413) rfl ?_
              refine Go.castore A936 (by decide) (Nat.lt_of_lt_of_eq (by decide : Int32.toNatClampNeg (0 : Int32) < 8) rfl) (by omega) (hb hby at_413) (pc' := 414) rfl ?_
              intro h940 A941 z942 K943 S944 C945
              rw [nch p675_0] at A941
              have A941 : Ar Z h940 a931 k932 .char [(.int z_675), (.int 0), (.int 0), (.int 0), (.int 0), (.int 0), (.int 0), (.int 0)] := A941
              refine Go.dup (hb hby at_414) (pc' := 415) rfl rfl ?_
              refine Go.iconst (hb hby at_415) (pc' := 416) rfl (z := (1 : Int32)) rfl ?_
              refine Go.aload (hb hby at_416) (pc' := 418) rfl rfl rfl ?_
              refine Go.iconst (hb hby at_418) (pc' := 419) rfl (z := (1 : Int32)) rfl ?_
              have f946 : Ar Z h940 a666 k667 .char [(.int z_675), (.int z_684), (.int z_693), (.int z_702), (.int z_711), (.int z_720), (.int z_729), (.int z_738), (.int z_747)] := (f939.keep K943 (ninS (neN (by omega)) nin0))
              refine Go.caload f946 (v := (.int z_684)) (by decide) rfl (hb hby at_419) (pc' := 420) rfl ?_
              refine Go.castore A941 (by decide) (Nat.lt_of_lt_of_eq (by decide : Int32.toNatClampNeg (1 : Int32) < 8) rfl) (by omega) (hb hby at_420) (pc' := 421) rfl ?_
              intro h947 A948 z949 K950 S951 C952
              rw [nch p684_0] at A948
              have A948 : Ar Z h947 a931 k932 .char [(.int z_675), (.int z_684), (.int 0), (.int 0), (.int 0), (.int 0), (.int 0), (.int 0)] := A948
              refine Go.dup (hb hby at_421) (pc' := 422) rfl rfl ?_
              refine Go.iconst (hb hby at_422) (pc' := 423) rfl (z := (2 : Int32)) rfl ?_
              refine Go.aload (hb hby at_423) (pc' := 425) rfl rfl rfl ?_
              refine Go.iconst (hb hby at_425) (pc' := 426) rfl (z := (2 : Int32)) rfl ?_
              have f953 : Ar Z h947 a666 k667 .char [(.int z_675), (.int z_684), (.int z_693), (.int z_702), (.int z_711), (.int z_720), (.int z_729), (.int z_738), (.int z_747)] := (f946.keep K950 (ninS (neN (by omega)) nin0))
              refine Go.caload f953 (v := (.int z_693)) (by decide) rfl (hb hby at_426) (pc' := 427) rfl ?_
              refine Go.castore A948 (by decide) (Nat.lt_of_lt_of_eq (by decide : Int32.toNatClampNeg (2 : Int32) < 8) rfl) (by omega) (hb hby at_427) (pc' := 428) rfl ?_
              intro h954 A955 z956 K957 S958 C959
              rw [nch p693_0] at A955
              have A955 : Ar Z h954 a931 k932 .char [(.int z_675), (.int z_684), (.int z_693), (.int 0), (.int 0), (.int 0), (.int 0), (.int 0)] := A955
              refine Go.dup (hb hby at_428) (pc' := 429) rfl rfl ?_
              refine Go.iconst (hb hby at_429) (pc' := 430) rfl (z := (3 : Int32)) rfl ?_
              refine Go.aload (hb hby at_430) (pc' := 432) rfl rfl rfl ?_
              refine Go.iconst (hb hby at_432) (pc' := 433) rfl (z := (3 : Int32)) rfl ?_
              have f960 : Ar Z h954 a666 k667 .char [(.int z_675), (.int z_684), (.int z_693), (.int z_702), (.int z_711), (.int z_720), (.int z_729), (.int z_738), (.int z_747)] := (f953.keep K957 (ninS (neN (by omega)) nin0))
              refine Go.caload f960 (v := (.int z_702)) (by decide) rfl (hb hby at_433) (pc' := 434) rfl ?_
              refine Go.castore A955 (by decide) (Nat.lt_of_lt_of_eq (by decide : Int32.toNatClampNeg (3 : Int32) < 8) rfl) (by omega) (hb hby at_434) (pc' := 435) rfl ?_
              intro h961 A962 z963 K964 S965 C966
              rw [nch p702_0] at A962
              have A962 : Ar Z h961 a931 k932 .char [(.int z_675), (.int z_684), (.int z_693), (.int z_702), (.int 0), (.int 0), (.int 0), (.int 0)] := A962
              refine Go.dup (hb hby at_435) (pc' := 436) rfl rfl ?_
              refine Go.iconst (hb hby at_436) (pc' := 437) rfl (z := (4 : Int32)) rfl ?_
              refine Go.aload (hb hby at_437) (pc' := 439) rfl rfl rfl ?_
              refine Go.iconst (hb hby at_439) (pc' := 440) rfl (z := (4 : Int32)) rfl ?_
              have f967 : Ar Z h961 a666 k667 .char [(.int z_675), (.int z_684), (.int z_693), (.int z_702), (.int z_711), (.int z_720), (.int z_729), (.int z_738), (.int z_747)] := (f960.keep K964 (ninS (neN (by omega)) nin0))
              refine Go.caload f967 (v := (.int z_711)) (by decide) rfl (hb hby at_440) (pc' := 441) rfl ?_
              refine Go.castore A962 (by decide) (Nat.lt_of_lt_of_eq (by decide : Int32.toNatClampNeg (4 : Int32) < 8) rfl) (by omega) (hb hby at_441) (pc' := 442) rfl ?_
              intro h968 A969 z970 K971 S972 C973
              rw [nch p711_0] at A969
              have A969 : Ar Z h968 a931 k932 .char [(.int z_675), (.int z_684), (.int z_693), (.int z_702), (.int z_711), (.int 0), (.int 0), (.int 0)] := A969
              refine Go.dup (hb hby at_442) (pc' := 443) rfl rfl ?_
              refine Go.iconst (hb hby at_443) (pc' := 444) rfl (z := (5 : Int32)) rfl ?_
              refine Go.aload (hb hby at_444) (pc' := 446) rfl rfl rfl ?_
              refine Go.iconst (hb hby at_446) (pc' := 447) rfl (z := (5 : Int32)) rfl ?_
              have f974 : Ar Z h968 a666 k667 .char [(.int z_675), (.int z_684), (.int z_693), (.int z_702), (.int z_711), (.int z_720), (.int z_729), (.int z_738), (.int z_747)] := (f967.keep K971 (ninS (neN (by omega)) nin0))
              refine Go.caload f974 (v := (.int z_720)) (by decide) rfl (hb hby at_447) (pc' := 448) rfl ?_
              refine Go.castore A969 (by decide) (Nat.lt_of_lt_of_eq (by decide : Int32.toNatClampNeg (5 : Int32) < 8) rfl) (by omega) (hb hby at_448) (pc' := 449) rfl ?_
              intro h975 A976 z977 K978 S979 C980
              rw [nch p720_0] at A976
              have A976 : Ar Z h975 a931 k932 .char [(.int z_675), (.int z_684), (.int z_693), (.int z_702), (.int z_711), (.int z_720), (.int 0), (.int 0)] := A976
              refine Go.dup (hb hby at_449) (pc' := 450) rfl rfl ?_
              refine Go.bipush (hb hby at_450) (pc' := 452) rfl (z := (6 : Int32)) rfl ?_
              refine Go.aload (hb hby at_452) (pc' := 454) rfl rfl rfl ?_
              refine Go.bipush (hb hby at_454) (pc' := 456) rfl (z := (6 : Int32)) rfl ?_
              have f981 : Ar Z h975 a666 k667 .char [(.int z_675), (.int z_684), (.int z_693), (.int z_702), (.int z_711), (.int z_720), (.int z_729), (.int z_738), (.int z_747)] := (f974.keep K978 (ninS (neN (by omega)) nin0))
              refine Go.caload f981 (v := (.int z_729)) (by decide) rfl (hb hby at_456) (pc' := 457) rfl ?_
              refine Go.castore A976 (by decide) (Nat.lt_of_lt_of_eq (by decide : Int32.toNatClampNeg (6 : Int32) < 8) rfl) (by omega) (hb hby at_457) (pc' := 458) rfl ?_
              intro h982 A983 z984 K985 S986 C987
              rw [nch p729_0] at A983
              have A983 : Ar Z h982 a931 k932 .char [(.int z_675), (.int z_684), (.int z_693), (.int z_702), (.int z_711), (.int z_720), (.int z_729), (.int 0)] := A983
              refine Go.dup (hb hby at_458) (pc' := 459) rfl rfl ?_
              refine Go.bipush (hb hby at_459) (pc' := 461) rfl (z := (7 : Int32)) rfl ?_
              refine Go.aload (hb hby at_461) (pc' := 463) rfl rfl rfl ?_
              refine Go.bipush (hb hby at_463) (pc' := 465) rfl (z := (7 : Int32)) rfl ?_
              have f988 : Ar Z h982 a666 k667 .char [(.int z_675), (.int z_684), (.int z_693), (.int z_702), (.int z_711), (.int z_720), (.int z_729), (.int z_738), (.int z_747)] := (f981.keep K985 (ninS (neN (by omega)) nin0))
              refine Go.caload f988 (v := (.int z_738)) (by decide) rfl (hb hby at_465) (pc' := 466) rfl ?_
              refine Go.castore A983 (by decide) (Nat.lt_of_lt_of_eq (by decide : Int32.toNatClampNeg (7 : Int32) < 8) rfl) (by omega) (hb hby at_466) (pc' := 467) rfl ?_
              intro h989 A990 z991 K992 S993 C994
              rw [nch p738_0] at A990
              have A990 : Ar Z h989 a931 k932 .char [(.int z_675), (.int z_684), (.int z_693), (.int z_702), (.int z_711), (.int z_720), (.int z_729), (.int z_738)] := A990
              have f995 : Exa Z h989 a920 "java/lang/String" := (((((((((X924.keep KE935).keep K943).keep K950).keep K957).keep K964).keep K971).keep K978).keep K985).keep K992)
              have f996 : Fld Z h989 a920 "java/lang/String" "coder" "B" (.int 0) := (((((((((f929.keep KE935 nin0).keep K943 (ninS (neN (by omega)) nin0)).keep K950 (ninS (neN (by omega)) nin0)).keep K957 (ninS (neN (by omega)) nin0)).keep K964 (ninS (neN (by omega)) nin0)).keep K971 (ninS (neN (by omega)) nin0)).keep K978 (ninS (neN (by omega)) nin0)).keep K985 (ninS (neN (by omega)) nin0)).keep K992 (ninS (neN (by omega)) nin0))
              have f997 : Fld Z h989 a920 "java/lang/String" "value" "[B" .null := (((((((((f928.keep KE935 nin0).keep K943 (ninS (neN (by omega)) nin0)).keep K950 (ninS (neN (by omega)) nin0)).keep K957 (ninS (neN (by omega)) nin0)).keep K964 (ninS (neN (by omega)) nin0)).keep K971 (ninS (neN (by omega)) nin0)).keep K978 (ninS (neN (by omega)) nin0)).keep K985 (ninS (neN (by omega)) nin0)).keep K992 (ninS (neN (by omega)) nin0))
              have f998 : Safe Z EL vm747 h989 a920 := (Safe.to C994 (by omega) (Safe.to C987 (by omega) (Safe.to C980 (by omega) (Safe.to C973 (by omega) (Safe.to C966 (by omega) (Safe.to C959 (by omega) (Safe.to C952 (by omega) (Safe.to C945 (by omega) (Safe.to C938 (by omega) S926)))))))))
              refine Go.callC (c_strinit (l := l) (nw := nw) g h989 a920 a931 k932 [z_675, z_684, z_693, z_702, z_711, z_720, z_729, z_738] (alS p675_0 (alS p684_0 (alS p693_0 (alS p702_0 (alS p711_0 (alS p720_0 (alS p729_0 (alS p738_0 al0)))))))) (by simp) (by simp) (by first | omega | assumption | decide) f995 f996 f997 A990 (by omega)) hown rfl rfl (wd_25 g) (wd_26 g) (wd_27 g) (wd_11 g) (by decide) (argsL := [(.ref a931)]) (lenOf pd_7 rfl) rfl (by rw [hml]; rfl) (W := 1) rfl (hb hby at_467) (pc' := 470) rfl (by decide) (by decide) (by decide) (by decide) (allS ⟨by omega, f998⟩ all0) ?_
              rintro _ vm999 h999 ⟨d_999, kd_999, rfl, K999, p999_0, o999_0⟩ C999
              have z999 := K999.1
              have yo999_0 := ltN o999_0.lt; have yo999_0' := ltN o999_0.ltb
              -- pc 470
              refine Go.astore (hb hby at_470) (pc' := 472) rfl rfl (L' := #[.val (.int i0), .val (.int i1), .val (.long i2), .second, .val (.int i3), .val (.int (3 : Int32)), .val (.int (0 : Int32)), .val (.ref a540), .val (.ref a603), .val (.ref a603), .val (.ref a666), .val (.ref a920), .unset, .unset, .unset]) rfl ?_
              refine Go.goto (hb hby at_472) (by decide) (pc' := 729) (by decide) ?_
              refine Go.iload (hb hby at_729) (pc' := 731) rfl rfl ?_
              refine Go.iconst (hb hby at_731) (pc' := 732) rfl (z := (2 : Int32)) rfl ?_
              refine Go.icmpY (hb hby at_732) (by decide) (pc' := 775) (by decide) (show ¬ (3 : Int32) = (2 : Int32) from by decide) ?_
              refine Go.iconst (hb hby at_775) (pc' := 776) rfl (z := (0 : Int32)) rfl ?_
              refine Go.istore (hb hby at_776) (pc' := 778) rfl (L' := #[.val (.int i0), .val (.int i1), .val (.long i2), .second, .val (.int i3), .val (.int (3 : Int32)), .val (.int (0 : Int32)), .val (.ref a540), .val (.ref a603), .val (.ref a603), .val (.ref a666), .val (.ref a920), .val (.int (0 : Int32)), .unset, .unset]) rfl ?_
              refine Go.iload (hb hby at_778) (pc' := 780) rfl rfl ?_
              refine Go.iconst (hb hby at_780) (pc' := 781) rfl (z := (3 : Int32)) rfl ?_
              refine Go.icmpN (hb hby at_781) (pc' := 784) rfl (show ¬ (¬ (3 : Int32) = (3 : Int32)) from by decide) ?_
              refine Go.aload (hb hby at_784) (pc' := 786) rfl rfl rfl ?_
              refine Go.iconst (hb hby at_786) (pc' := 787) rfl (z := (0 : Int32)) rfl ?_
              have f1000 : Ar Z h999 a666 k667 .char [(.int z_675), (.int z_684), (.int z_693), (.int z_702), (.int z_711), (.int z_720), (.int z_729), (.int z_738), (.int z_747)] := ((f988.keep K992 (ninS (neN (by omega)) nin0)).keep K999 (ninS (neN (by omega)) nin0))
              refine Go.caload f1000 (v := (.int z_675)) (by decide) rfl (hb hby at_787) (pc' := 788) rfl ?_
              refine Go.bipush (hb hby at_788) (pc' := 790) rfl (z := (101 : Int32)) rfl ?_
              refine Go.icmp (hb hby at_790) (by decide) (pc' := 862) (by decide) (pc2 := 793) rfl (fun (q790 : ¬ z_675 = (101 : Int32)) => ?_) (fun (q790 : ¬ (¬ z_675 = (101 : Int32))) => ?_)
              · refine Go.iconst (hb hby at_862) (pc' := 863) rfl (z := (0 : Int32)) rfl ?_
                refine Go.istore (hb hby at_863) (pc' := 865) rfl (L' := #[.val (.int i0), .val (.int i1), .val (.long i2), .second, .val (.int i3), .val (.int (3 : Int32)), .val (.int (0 : Int32)), .val (.ref a540), .val (.ref a603), .val (.ref a603), .val (.ref a666), .val (.ref a920), .val (.int (0 : Int32)), .val (.int (0 : Int32)), .unset]) rfl ?_
                refine Go.iload (hb hby at_865) (pc' := 867) rfl rfl ?_
                refine Go.ifN (hb hby at_867) (pc' := 870) rfl (show ¬ (¬ (0 : Int32) = (0 : Int32)) from by decide) ?_
                refine Go.iload (hb hby at_870) (pc' := 872) rfl rfl ?_
                refine Go.ifY (hb hby at_872) (by decide) (pc' := 879) (by decide) (show (0 : Int32) = (0 : Int32) from by decide) ?_
                refine Go.iconst (hb hby at_879) (pc' := 880) rfl (z := (0 : Int32)) rfl ?_
                refine Go.istore (hb hby at_880) (pc' := 882) rfl (L' := #[.val (.int i0), .val (.int i1), .val (.long i2), .second, .val (.int i3), .val (.int (3 : Int32)), .val (.int (0 : Int32)), .val (.ref a540), .val (.ref a603), .val (.ref a603), .val (.ref a666), .val (.ref a920), .val (.int (0 : Int32)), .val (.int (0 : Int32)), .val (.int (0 : Int32))]) rfl ?_
                refine Go.aload (hb hby at_882) (pc' := 884) rfl rfl rfl ?_
                refine Go.callS (c_res (l := l) (nw := nw) g hnw h999 a920 d_999 kd_999 ([z_675, z_684, z_693, z_702, z_711, z_720, z_729, z_738].map by8) o999_0 (by omega)) hown (wd_6 g) (wd_7 g) (wd_9 g) (wd_8 g) (by decide) (argsL := [(.ref a920)]) (lenOf pd_8 rfl) rfl (by rw [hml]; rfl) (W := 0) rfl (hb hby at_884) (pc' := 887) rfl (by decide) (by decide) (by decide) (by decide) all0 ?_
                rintro _ vm1001 h1001 ⟨rfl, K1001⟩ C1001
                have z1001 := K1001.1
                -- pc 887
                refine Go.iload (hb hby at_887) (pc' := 889) rfl rfl ?_
                refine Go.icmpN (hb hby at_889) (pc' := 892) rfl (fun q => q (bo_no (fun z => z.elim (fun z => absurd (congrArg List.length z) (by simp)) (fun z => q790 (by have q := z; simp only [List.map_cons, List.map_nil, List.cons.injEq, and_true] at q; exact by8_inj p675_0 (by decide) ((q.1).trans (by decide))))))) ?_
                refine Go.iconst (hb hby at_892) (pc' := 893) rfl (z := (1 : Int32)) rfl ?_
                refine Go.goto (hb hby at_893) (by decide) (pc' := 897) (by decide) ?_
                refine Go.retN (t := .boolean) hret (by simp) (hb hby at_897) (by decide) (by decide) ?_
                intro vmR CR
                exact ⟨(by first | rfl | (simp only [own_nar]; done) | (congr 2; done)), ((((((((((((((((((((((((((((((((((((((((((((((((((((Keep.refl h []).trans KE544 all0).trans K551 (allS (by first | (left; simp; done) | (right; omega)) all0)).trans K557 (allS (by first | (left; simp; done) | (right; omega)) all0)).trans K563 (allS (by first | (left; simp; done) | (right; omega)) all0)).trans K569 (allS (by first | (left; simp; done) | (right; omega)) all0)).trans K575 (allS (by first | (left; simp; done) | (right; omega)) all0)).trans K581 (allS (by first | (left; simp; done) | (right; omega)) all0)).trans K587 (allS (by first | (left; simp; done) | (right; omega)) all0)).trans K593 (allS (by first | (left; simp; done) | (right; omega)) all0)).trans K599 (allS (by first | (left; simp; done) | (right; omega)) all0)).trans KE607 all0).trans K614 (allS (by first | (left; simp; done) | (right; omega)) all0)).trans K620 (allS (by first | (left; simp; done) | (right; omega)) all0)).trans K626 (allS (by first | (left; simp; done) | (right; omega)) all0)).trans K632 (allS (by first | (left; simp; done) | (right; omega)) all0)).trans K638 (allS (by first | (left; simp; done) | (right; omega)) all0)).trans K644 (allS (by first | (left; simp; done) | (right; omega)) all0)).trans K650 (allS (by first | (left; simp; done) | (right; omega)) all0)).trans K656 (allS (by first | (left; simp; done) | (right; omega)) all0)).trans K662 (allS (by first | (left; simp; done) | (right; omega)) all0)).trans KE670 all0).trans K675 all0).trans K680 (allS (by first | (left; simp; done) | (right; omega)) all0)).trans K684 all0).trans K689 (allS (by first | (left; simp; done) | (right; omega)) all0)).trans K693 all0).trans K698 (allS (by first | (left; simp; done) | (right; omega)) all0)).trans K702 all0).trans K707 (allS (by first | (left; simp; done) | (right; omega)) all0)).trans K711 all0).trans K716 (allS (by first | (left; simp; done) | (right; omega)) all0)).trans K720 all0).trans K725 (allS (by first | (left; simp; done) | (right; omega)) all0)).trans K729 all0).trans K734 (allS (by first | (left; simp; done) | (right; omega)) all0)).trans K738 all0).trans K743 (allS (by first | (left; simp; done) | (right; omega)) all0)).trans K747 all0).trans K752 (allS (by first | (left; simp; done) | (right; omega)) all0)).trans KE923 all0).trans KE935 all0).trans K943 (allS (by first | (left; simp; done) | (right; omega)) all0)).trans K950 (allS (by first | (left; simp; done) | (right; omega)) all0)).trans K957 (allS (by first | (left; simp; done) | (right; omega)) all0)).trans K964 (allS (by first | (left; simp; done) | (right; omega)) all0)).trans K971 (allS (by first | (left; simp; done) | (right; omega)) all0)).trans K978 (allS (by first | (left; simp; done) | (right; omega)) all0)).trans K985 (allS (by first | (left; simp; done) | (right; omega)) all0)).trans K992 (allS (by first | (left; simp; done) | (right; omega)) all0)).trans K999 (allS (by first | (left; simp; done) | (right; omega)) all0)).trans K1001 all0)⟩
              · refine Go.aload (hb hby at_793) (pc' := 795) rfl rfl rfl ?_
                refine Go.iconst (hb hby at_795) (pc' := 796) rfl (z := (1 : Int32)) rfl ?_
                refine Go.caload f1000 (v := (.int z_684)) (by decide) rfl (hb hby at_796) (pc' := 797) rfl ?_
                refine Go.bipush (hb hby at_797) (pc' := 799) rfl (z := (118 : Int32)) rfl ?_
                refine Go.icmp (hb hby at_799) (by decide) (pc' := 862) (by decide) (pc2 := 802) rfl (fun (q799 : ¬ z_684 = (118 : Int32)) => ?_) (fun (q799 : ¬ (¬ z_684 = (118 : Int32))) => ?_)
                · refine Go.iconst (hb hby at_862) (pc' := 863) rfl (z := (0 : Int32)) rfl ?_
                  refine Go.istore (hb hby at_863) (pc' := 865) rfl (L' := #[.val (.int i0), .val (.int i1), .val (.long i2), .second, .val (.int i3), .val (.int (3 : Int32)), .val (.int (0 : Int32)), .val (.ref a540), .val (.ref a603), .val (.ref a603), .val (.ref a666), .val (.ref a920), .val (.int (0 : Int32)), .val (.int (0 : Int32)), .unset]) rfl ?_
                  refine Go.iload (hb hby at_865) (pc' := 867) rfl rfl ?_
                  refine Go.ifN (hb hby at_867) (pc' := 870) rfl (show ¬ (¬ (0 : Int32) = (0 : Int32)) from by decide) ?_
                  refine Go.iload (hb hby at_870) (pc' := 872) rfl rfl ?_
                  refine Go.ifY (hb hby at_872) (by decide) (pc' := 879) (by decide) (show (0 : Int32) = (0 : Int32) from by decide) ?_
                  refine Go.iconst (hb hby at_879) (pc' := 880) rfl (z := (0 : Int32)) rfl ?_
                  refine Go.istore (hb hby at_880) (pc' := 882) rfl (L' := #[.val (.int i0), .val (.int i1), .val (.long i2), .second, .val (.int i3), .val (.int (3 : Int32)), .val (.int (0 : Int32)), .val (.ref a540), .val (.ref a603), .val (.ref a603), .val (.ref a666), .val (.ref a920), .val (.int (0 : Int32)), .val (.int (0 : Int32)), .val (.int (0 : Int32))]) rfl ?_
                  refine Go.aload (hb hby at_882) (pc' := 884) rfl rfl rfl ?_
                  refine Go.callS (c_res (l := l) (nw := nw) g hnw h999 a920 d_999 kd_999 ([z_675, z_684, z_693, z_702, z_711, z_720, z_729, z_738].map by8) o999_0 (by omega)) hown (wd_6 g) (wd_7 g) (wd_9 g) (wd_8 g) (by decide) (argsL := [(.ref a920)]) (lenOf pd_8 rfl) rfl (by rw [hml]; rfl) (W := 0) rfl (hb hby at_884) (pc' := 887) rfl (by decide) (by decide) (by decide) (by decide) all0 ?_
                  rintro _ vm1002 h1002 ⟨rfl, K1002⟩ C1002
                  have z1002 := K1002.1
                  -- pc 887
                  refine Go.iload (hb hby at_887) (pc' := 889) rfl rfl ?_
                  refine Go.icmpN (hb hby at_889) (pc' := 892) rfl (fun q => q (bo_no (fun z => z.elim (fun z => absurd (congrArg List.length z) (by simp)) (fun z => q799 (by have q := z; simp only [List.map_cons, List.map_nil, List.cons.injEq, and_true] at q; exact by8_inj p684_0 (by decide) ((q.2.1).trans (by decide))))))) ?_
                  refine Go.iconst (hb hby at_892) (pc' := 893) rfl (z := (1 : Int32)) rfl ?_
                  refine Go.goto (hb hby at_893) (by decide) (pc' := 897) (by decide) ?_
                  refine Go.retN (t := .boolean) hret (by simp) (hb hby at_897) (by decide) (by decide) ?_
                  intro vmR CR
                  exact ⟨(by first | rfl | (simp only [own_nar]; done) | (congr 2; done)), ((((((((((((((((((((((((((((((((((((((((((((((((((((Keep.refl h []).trans KE544 all0).trans K551 (allS (by first | (left; simp; done) | (right; omega)) all0)).trans K557 (allS (by first | (left; simp; done) | (right; omega)) all0)).trans K563 (allS (by first | (left; simp; done) | (right; omega)) all0)).trans K569 (allS (by first | (left; simp; done) | (right; omega)) all0)).trans K575 (allS (by first | (left; simp; done) | (right; omega)) all0)).trans K581 (allS (by first | (left; simp; done) | (right; omega)) all0)).trans K587 (allS (by first | (left; simp; done) | (right; omega)) all0)).trans K593 (allS (by first | (left; simp; done) | (right; omega)) all0)).trans K599 (allS (by first | (left; simp; done) | (right; omega)) all0)).trans KE607 all0).trans K614 (allS (by first | (left; simp; done) | (right; omega)) all0)).trans K620 (allS (by first | (left; simp; done) | (right; omega)) all0)).trans K626 (allS (by first | (left; simp; done) | (right; omega)) all0)).trans K632 (allS (by first | (left; simp; done) | (right; omega)) all0)).trans K638 (allS (by first | (left; simp; done) | (right; omega)) all0)).trans K644 (allS (by first | (left; simp; done) | (right; omega)) all0)).trans K650 (allS (by first | (left; simp; done) | (right; omega)) all0)).trans K656 (allS (by first | (left; simp; done) | (right; omega)) all0)).trans K662 (allS (by first | (left; simp; done) | (right; omega)) all0)).trans KE670 all0).trans K675 all0).trans K680 (allS (by first | (left; simp; done) | (right; omega)) all0)).trans K684 all0).trans K689 (allS (by first | (left; simp; done) | (right; omega)) all0)).trans K693 all0).trans K698 (allS (by first | (left; simp; done) | (right; omega)) all0)).trans K702 all0).trans K707 (allS (by first | (left; simp; done) | (right; omega)) all0)).trans K711 all0).trans K716 (allS (by first | (left; simp; done) | (right; omega)) all0)).trans K720 all0).trans K725 (allS (by first | (left; simp; done) | (right; omega)) all0)).trans K729 all0).trans K734 (allS (by first | (left; simp; done) | (right; omega)) all0)).trans K738 all0).trans K743 (allS (by first | (left; simp; done) | (right; omega)) all0)).trans K747 all0).trans K752 (allS (by first | (left; simp; done) | (right; omega)) all0)).trans KE923 all0).trans KE935 all0).trans K943 (allS (by first | (left; simp; done) | (right; omega)) all0)).trans K950 (allS (by first | (left; simp; done) | (right; omega)) all0)).trans K957 (allS (by first | (left; simp; done) | (right; omega)) all0)).trans K964 (allS (by first | (left; simp; done) | (right; omega)) all0)).trans K971 (allS (by first | (left; simp; done) | (right; omega)) all0)).trans K978 (allS (by first | (left; simp; done) | (right; omega)) all0)).trans K985 (allS (by first | (left; simp; done) | (right; omega)) all0)).trans K992 (allS (by first | (left; simp; done) | (right; omega)) all0)).trans K999 (allS (by first | (left; simp; done) | (right; omega)) all0)).trans K1002 all0)⟩
                · refine Go.aload (hb hby at_802) (pc' := 804) rfl rfl rfl ?_
                  refine Go.iconst (hb hby at_804) (pc' := 805) rfl (z := (2 : Int32)) rfl ?_
                  refine Go.caload f1000 (v := (.int z_693)) (by decide) rfl (hb hby at_805) (pc' := 806) rfl ?_
                  refine Go.bipush (hb hby at_806) (pc' := 808) rfl (z := (101 : Int32)) rfl ?_
                  refine Go.icmp (hb hby at_808) (by decide) (pc' := 862) (by decide) (pc2 := 811) rfl (fun (q808 : ¬ z_693 = (101 : Int32)) => ?_) (fun (q808 : ¬ (¬ z_693 = (101 : Int32))) => ?_)
                  · refine Go.iconst (hb hby at_862) (pc' := 863) rfl (z := (0 : Int32)) rfl ?_
                    refine Go.istore (hb hby at_863) (pc' := 865) rfl (L' := #[.val (.int i0), .val (.int i1), .val (.long i2), .second, .val (.int i3), .val (.int (3 : Int32)), .val (.int (0 : Int32)), .val (.ref a540), .val (.ref a603), .val (.ref a603), .val (.ref a666), .val (.ref a920), .val (.int (0 : Int32)), .val (.int (0 : Int32)), .unset]) rfl ?_
                    refine Go.iload (hb hby at_865) (pc' := 867) rfl rfl ?_
                    refine Go.ifN (hb hby at_867) (pc' := 870) rfl (show ¬ (¬ (0 : Int32) = (0 : Int32)) from by decide) ?_
                    refine Go.iload (hb hby at_870) (pc' := 872) rfl rfl ?_
                    refine Go.ifY (hb hby at_872) (by decide) (pc' := 879) (by decide) (show (0 : Int32) = (0 : Int32) from by decide) ?_
                    refine Go.iconst (hb hby at_879) (pc' := 880) rfl (z := (0 : Int32)) rfl ?_
                    refine Go.istore (hb hby at_880) (pc' := 882) rfl (L' := #[.val (.int i0), .val (.int i1), .val (.long i2), .second, .val (.int i3), .val (.int (3 : Int32)), .val (.int (0 : Int32)), .val (.ref a540), .val (.ref a603), .val (.ref a603), .val (.ref a666), .val (.ref a920), .val (.int (0 : Int32)), .val (.int (0 : Int32)), .val (.int (0 : Int32))]) rfl ?_
                    refine Go.aload (hb hby at_882) (pc' := 884) rfl rfl rfl ?_
                    refine Go.callS (c_res (l := l) (nw := nw) g hnw h999 a920 d_999 kd_999 ([z_675, z_684, z_693, z_702, z_711, z_720, z_729, z_738].map by8) o999_0 (by omega)) hown (wd_6 g) (wd_7 g) (wd_9 g) (wd_8 g) (by decide) (argsL := [(.ref a920)]) (lenOf pd_8 rfl) rfl (by rw [hml]; rfl) (W := 0) rfl (hb hby at_884) (pc' := 887) rfl (by decide) (by decide) (by decide) (by decide) all0 ?_
                    rintro _ vm1003 h1003 ⟨rfl, K1003⟩ C1003
                    have z1003 := K1003.1
                    -- pc 887
                    refine Go.iload (hb hby at_887) (pc' := 889) rfl rfl ?_
                    refine Go.icmpN (hb hby at_889) (pc' := 892) rfl (fun q => q (bo_no (fun z => z.elim (fun z => absurd (congrArg List.length z) (by simp)) (fun z => q808 (by have q := z; simp only [List.map_cons, List.map_nil, List.cons.injEq, and_true] at q; exact by8_inj p693_0 (by decide) ((q.2.2.1).trans (by decide))))))) ?_
                    refine Go.iconst (hb hby at_892) (pc' := 893) rfl (z := (1 : Int32)) rfl ?_
                    refine Go.goto (hb hby at_893) (by decide) (pc' := 897) (by decide) ?_
                    refine Go.retN (t := .boolean) hret (by simp) (hb hby at_897) (by decide) (by decide) ?_
                    intro vmR CR
                    exact ⟨(by first | rfl | (simp only [own_nar]; done) | (congr 2; done)), ((((((((((((((((((((((((((((((((((((((((((((((((((((Keep.refl h []).trans KE544 all0).trans K551 (allS (by first | (left; simp; done) | (right; omega)) all0)).trans K557 (allS (by first | (left; simp; done) | (right; omega)) all0)).trans K563 (allS (by first | (left; simp; done) | (right; omega)) all0)).trans K569 (allS (by first | (left; simp; done) | (right; omega)) all0)).trans K575 (allS (by first | (left; simp; done) | (right; omega)) all0)).trans K581 (allS (by first | (left; simp; done) | (right; omega)) all0)).trans K587 (allS (by first | (left; simp; done) | (right; omega)) all0)).trans K593 (allS (by first | (left; simp; done) | (right; omega)) all0)).trans K599 (allS (by first | (left; simp; done) | (right; omega)) all0)).trans KE607 all0).trans K614 (allS (by first | (left; simp; done) | (right; omega)) all0)).trans K620 (allS (by first | (left; simp; done) | (right; omega)) all0)).trans K626 (allS (by first | (left; simp; done) | (right; omega)) all0)).trans K632 (allS (by first | (left; simp; done) | (right; omega)) all0)).trans K638 (allS (by first | (left; simp; done) | (right; omega)) all0)).trans K644 (allS (by first | (left; simp; done) | (right; omega)) all0)).trans K650 (allS (by first | (left; simp; done) | (right; omega)) all0)).trans K656 (allS (by first | (left; simp; done) | (right; omega)) all0)).trans K662 (allS (by first | (left; simp; done) | (right; omega)) all0)).trans KE670 all0).trans K675 all0).trans K680 (allS (by first | (left; simp; done) | (right; omega)) all0)).trans K684 all0).trans K689 (allS (by first | (left; simp; done) | (right; omega)) all0)).trans K693 all0).trans K698 (allS (by first | (left; simp; done) | (right; omega)) all0)).trans K702 all0).trans K707 (allS (by first | (left; simp; done) | (right; omega)) all0)).trans K711 all0).trans K716 (allS (by first | (left; simp; done) | (right; omega)) all0)).trans K720 all0).trans K725 (allS (by first | (left; simp; done) | (right; omega)) all0)).trans K729 all0).trans K734 (allS (by first | (left; simp; done) | (right; omega)) all0)).trans K738 all0).trans K743 (allS (by first | (left; simp; done) | (right; omega)) all0)).trans K747 all0).trans K752 (allS (by first | (left; simp; done) | (right; omega)) all0)).trans KE923 all0).trans KE935 all0).trans K943 (allS (by first | (left; simp; done) | (right; omega)) all0)).trans K950 (allS (by first | (left; simp; done) | (right; omega)) all0)).trans K957 (allS (by first | (left; simp; done) | (right; omega)) all0)).trans K964 (allS (by first | (left; simp; done) | (right; omega)) all0)).trans K971 (allS (by first | (left; simp; done) | (right; omega)) all0)).trans K978 (allS (by first | (left; simp; done) | (right; omega)) all0)).trans K985 (allS (by first | (left; simp; done) | (right; omega)) all0)).trans K992 (allS (by first | (left; simp; done) | (right; omega)) all0)).trans K999 (allS (by first | (left; simp; done) | (right; omega)) all0)).trans K1003 all0)⟩
                  · refine Go.aload (hb hby at_811) (pc' := 813) rfl rfl rfl ?_
                    refine Go.iconst (hb hby at_813) (pc' := 814) rfl (z := (3 : Int32)) rfl ?_
                    refine Go.caload f1000 (v := (.int z_702)) (by decide) rfl (hb hby at_814) (pc' := 815) rfl ?_
                    refine Go.bipush (hb hby at_815) (pc' := 817) rfl (z := (114 : Int32)) rfl ?_
                    refine Go.icmp (hb hby at_817) (by decide) (pc' := 862) (by decide) (pc2 := 820) rfl (fun (q817 : ¬ z_702 = (114 : Int32)) => ?_) (fun (q817 : ¬ (¬ z_702 = (114 : Int32))) => ?_)
                    · refine Go.iconst (hb hby at_862) (pc' := 863) rfl (z := (0 : Int32)) rfl ?_
                      refine Go.istore (hb hby at_863) (pc' := 865) rfl (L' := #[.val (.int i0), .val (.int i1), .val (.long i2), .second, .val (.int i3), .val (.int (3 : Int32)), .val (.int (0 : Int32)), .val (.ref a540), .val (.ref a603), .val (.ref a603), .val (.ref a666), .val (.ref a920), .val (.int (0 : Int32)), .val (.int (0 : Int32)), .unset]) rfl ?_
                      refine Go.iload (hb hby at_865) (pc' := 867) rfl rfl ?_
                      refine Go.ifN (hb hby at_867) (pc' := 870) rfl (show ¬ (¬ (0 : Int32) = (0 : Int32)) from by decide) ?_
                      refine Go.iload (hb hby at_870) (pc' := 872) rfl rfl ?_
                      refine Go.ifY (hb hby at_872) (by decide) (pc' := 879) (by decide) (show (0 : Int32) = (0 : Int32) from by decide) ?_
                      refine Go.iconst (hb hby at_879) (pc' := 880) rfl (z := (0 : Int32)) rfl ?_
                      refine Go.istore (hb hby at_880) (pc' := 882) rfl (L' := #[.val (.int i0), .val (.int i1), .val (.long i2), .second, .val (.int i3), .val (.int (3 : Int32)), .val (.int (0 : Int32)), .val (.ref a540), .val (.ref a603), .val (.ref a603), .val (.ref a666), .val (.ref a920), .val (.int (0 : Int32)), .val (.int (0 : Int32)), .val (.int (0 : Int32))]) rfl ?_
                      refine Go.aload (hb hby at_882) (pc' := 884) rfl rfl rfl ?_
                      refine Go.callS (c_res (l := l) (nw := nw) g hnw h999 a920 d_999 kd_999 ([z_675, z_684, z_693, z_702, z_711, z_720, z_729, z_738].map by8) o999_0 (by omega)) hown (wd_6 g) (wd_7 g) (wd_9 g) (wd_8 g) (by decide) (argsL := [(.ref a920)]) (lenOf pd_8 rfl) rfl (by rw [hml]; rfl) (W := 0) rfl (hb hby at_884) (pc' := 887) rfl (by decide) (by decide) (by decide) (by decide) all0 ?_
                      rintro _ vm1004 h1004 ⟨rfl, K1004⟩ C1004
                      have z1004 := K1004.1
                      -- pc 887
                      refine Go.iload (hb hby at_887) (pc' := 889) rfl rfl ?_
                      refine Go.icmpN (hb hby at_889) (pc' := 892) rfl (fun q => q (bo_no (fun z => z.elim (fun z => absurd (congrArg List.length z) (by simp)) (fun z => q817 (by have q := z; simp only [List.map_cons, List.map_nil, List.cons.injEq, and_true] at q; exact by8_inj p702_0 (by decide) ((q.2.2.2.1).trans (by decide))))))) ?_
                      refine Go.iconst (hb hby at_892) (pc' := 893) rfl (z := (1 : Int32)) rfl ?_
                      refine Go.goto (hb hby at_893) (by decide) (pc' := 897) (by decide) ?_
                      refine Go.retN (t := .boolean) hret (by simp) (hb hby at_897) (by decide) (by decide) ?_
                      intro vmR CR
                      exact ⟨(by first | rfl | (simp only [own_nar]; done) | (congr 2; done)), ((((((((((((((((((((((((((((((((((((((((((((((((((((Keep.refl h []).trans KE544 all0).trans K551 (allS (by first | (left; simp; done) | (right; omega)) all0)).trans K557 (allS (by first | (left; simp; done) | (right; omega)) all0)).trans K563 (allS (by first | (left; simp; done) | (right; omega)) all0)).trans K569 (allS (by first | (left; simp; done) | (right; omega)) all0)).trans K575 (allS (by first | (left; simp; done) | (right; omega)) all0)).trans K581 (allS (by first | (left; simp; done) | (right; omega)) all0)).trans K587 (allS (by first | (left; simp; done) | (right; omega)) all0)).trans K593 (allS (by first | (left; simp; done) | (right; omega)) all0)).trans K599 (allS (by first | (left; simp; done) | (right; omega)) all0)).trans KE607 all0).trans K614 (allS (by first | (left; simp; done) | (right; omega)) all0)).trans K620 (allS (by first | (left; simp; done) | (right; omega)) all0)).trans K626 (allS (by first | (left; simp; done) | (right; omega)) all0)).trans K632 (allS (by first | (left; simp; done) | (right; omega)) all0)).trans K638 (allS (by first | (left; simp; done) | (right; omega)) all0)).trans K644 (allS (by first | (left; simp; done) | (right; omega)) all0)).trans K650 (allS (by first | (left; simp; done) | (right; omega)) all0)).trans K656 (allS (by first | (left; simp; done) | (right; omega)) all0)).trans K662 (allS (by first | (left; simp; done) | (right; omega)) all0)).trans KE670 all0).trans K675 all0).trans K680 (allS (by first | (left; simp; done) | (right; omega)) all0)).trans K684 all0).trans K689 (allS (by first | (left; simp; done) | (right; omega)) all0)).trans K693 all0).trans K698 (allS (by first | (left; simp; done) | (right; omega)) all0)).trans K702 all0).trans K707 (allS (by first | (left; simp; done) | (right; omega)) all0)).trans K711 all0).trans K716 (allS (by first | (left; simp; done) | (right; omega)) all0)).trans K720 all0).trans K725 (allS (by first | (left; simp; done) | (right; omega)) all0)).trans K729 all0).trans K734 (allS (by first | (left; simp; done) | (right; omega)) all0)).trans K738 all0).trans K743 (allS (by first | (left; simp; done) | (right; omega)) all0)).trans K747 all0).trans K752 (allS (by first | (left; simp; done) | (right; omega)) all0)).trans KE923 all0).trans KE935 all0).trans K943 (allS (by first | (left; simp; done) | (right; omega)) all0)).trans K950 (allS (by first | (left; simp; done) | (right; omega)) all0)).trans K957 (allS (by first | (left; simp; done) | (right; omega)) all0)).trans K964 (allS (by first | (left; simp; done) | (right; omega)) all0)).trans K971 (allS (by first | (left; simp; done) | (right; omega)) all0)).trans K978 (allS (by first | (left; simp; done) | (right; omega)) all0)).trans K985 (allS (by first | (left; simp; done) | (right; omega)) all0)).trans K992 (allS (by first | (left; simp; done) | (right; omega)) all0)).trans K999 (allS (by first | (left; simp; done) | (right; omega)) all0)).trans K1004 all0)⟩
                    · refine Go.aload (hb hby at_820) (pc' := 822) rfl rfl rfl ?_
                      refine Go.iconst (hb hby at_822) (pc' := 823) rfl (z := (4 : Int32)) rfl ?_
                      refine Go.caload f1000 (v := (.int z_711)) (by decide) rfl (hb hby at_823) (pc' := 824) rfl ?_
                      refine Go.bipush (hb hby at_824) (pc' := 826) rfl (z := (121 : Int32)) rfl ?_
                      refine Go.icmp (hb hby at_826) (by decide) (pc' := 862) (by decide) (pc2 := 829) rfl (fun (q826 : ¬ z_711 = (121 : Int32)) => ?_) (fun (q826 : ¬ (¬ z_711 = (121 : Int32))) => ?_)
                      · refine Go.iconst (hb hby at_862) (pc' := 863) rfl (z := (0 : Int32)) rfl ?_
                        refine Go.istore (hb hby at_863) (pc' := 865) rfl (L' := #[.val (.int i0), .val (.int i1), .val (.long i2), .second, .val (.int i3), .val (.int (3 : Int32)), .val (.int (0 : Int32)), .val (.ref a540), .val (.ref a603), .val (.ref a603), .val (.ref a666), .val (.ref a920), .val (.int (0 : Int32)), .val (.int (0 : Int32)), .unset]) rfl ?_
                        refine Go.iload (hb hby at_865) (pc' := 867) rfl rfl ?_
                        refine Go.ifN (hb hby at_867) (pc' := 870) rfl (show ¬ (¬ (0 : Int32) = (0 : Int32)) from by decide) ?_
                        refine Go.iload (hb hby at_870) (pc' := 872) rfl rfl ?_
                        refine Go.ifY (hb hby at_872) (by decide) (pc' := 879) (by decide) (show (0 : Int32) = (0 : Int32) from by decide) ?_
                        refine Go.iconst (hb hby at_879) (pc' := 880) rfl (z := (0 : Int32)) rfl ?_
                        refine Go.istore (hb hby at_880) (pc' := 882) rfl (L' := #[.val (.int i0), .val (.int i1), .val (.long i2), .second, .val (.int i3), .val (.int (3 : Int32)), .val (.int (0 : Int32)), .val (.ref a540), .val (.ref a603), .val (.ref a603), .val (.ref a666), .val (.ref a920), .val (.int (0 : Int32)), .val (.int (0 : Int32)), .val (.int (0 : Int32))]) rfl ?_
                        refine Go.aload (hb hby at_882) (pc' := 884) rfl rfl rfl ?_
                        refine Go.callS (c_res (l := l) (nw := nw) g hnw h999 a920 d_999 kd_999 ([z_675, z_684, z_693, z_702, z_711, z_720, z_729, z_738].map by8) o999_0 (by omega)) hown (wd_6 g) (wd_7 g) (wd_9 g) (wd_8 g) (by decide) (argsL := [(.ref a920)]) (lenOf pd_8 rfl) rfl (by rw [hml]; rfl) (W := 0) rfl (hb hby at_884) (pc' := 887) rfl (by decide) (by decide) (by decide) (by decide) all0 ?_
                        rintro _ vm1005 h1005 ⟨rfl, K1005⟩ C1005
                        have z1005 := K1005.1
                        -- pc 887
                        refine Go.iload (hb hby at_887) (pc' := 889) rfl rfl ?_
                        refine Go.icmpN (hb hby at_889) (pc' := 892) rfl (fun q => q (bo_no (fun z => z.elim (fun z => absurd (congrArg List.length z) (by simp)) (fun z => q826 (by have q := z; simp only [List.map_cons, List.map_nil, List.cons.injEq, and_true] at q; exact by8_inj p711_0 (by decide) ((q.2.2.2.2.1).trans (by decide))))))) ?_
                        refine Go.iconst (hb hby at_892) (pc' := 893) rfl (z := (1 : Int32)) rfl ?_
                        refine Go.goto (hb hby at_893) (by decide) (pc' := 897) (by decide) ?_
                        refine Go.retN (t := .boolean) hret (by simp) (hb hby at_897) (by decide) (by decide) ?_
                        intro vmR CR
                        exact ⟨(by first | rfl | (simp only [own_nar]; done) | (congr 2; done)), ((((((((((((((((((((((((((((((((((((((((((((((((((((Keep.refl h []).trans KE544 all0).trans K551 (allS (by first | (left; simp; done) | (right; omega)) all0)).trans K557 (allS (by first | (left; simp; done) | (right; omega)) all0)).trans K563 (allS (by first | (left; simp; done) | (right; omega)) all0)).trans K569 (allS (by first | (left; simp; done) | (right; omega)) all0)).trans K575 (allS (by first | (left; simp; done) | (right; omega)) all0)).trans K581 (allS (by first | (left; simp; done) | (right; omega)) all0)).trans K587 (allS (by first | (left; simp; done) | (right; omega)) all0)).trans K593 (allS (by first | (left; simp; done) | (right; omega)) all0)).trans K599 (allS (by first | (left; simp; done) | (right; omega)) all0)).trans KE607 all0).trans K614 (allS (by first | (left; simp; done) | (right; omega)) all0)).trans K620 (allS (by first | (left; simp; done) | (right; omega)) all0)).trans K626 (allS (by first | (left; simp; done) | (right; omega)) all0)).trans K632 (allS (by first | (left; simp; done) | (right; omega)) all0)).trans K638 (allS (by first | (left; simp; done) | (right; omega)) all0)).trans K644 (allS (by first | (left; simp; done) | (right; omega)) all0)).trans K650 (allS (by first | (left; simp; done) | (right; omega)) all0)).trans K656 (allS (by first | (left; simp; done) | (right; omega)) all0)).trans K662 (allS (by first | (left; simp; done) | (right; omega)) all0)).trans KE670 all0).trans K675 all0).trans K680 (allS (by first | (left; simp; done) | (right; omega)) all0)).trans K684 all0).trans K689 (allS (by first | (left; simp; done) | (right; omega)) all0)).trans K693 all0).trans K698 (allS (by first | (left; simp; done) | (right; omega)) all0)).trans K702 all0).trans K707 (allS (by first | (left; simp; done) | (right; omega)) all0)).trans K711 all0).trans K716 (allS (by first | (left; simp; done) | (right; omega)) all0)).trans K720 all0).trans K725 (allS (by first | (left; simp; done) | (right; omega)) all0)).trans K729 all0).trans K734 (allS (by first | (left; simp; done) | (right; omega)) all0)).trans K738 all0).trans K743 (allS (by first | (left; simp; done) | (right; omega)) all0)).trans K747 all0).trans K752 (allS (by first | (left; simp; done) | (right; omega)) all0)).trans KE923 all0).trans KE935 all0).trans K943 (allS (by first | (left; simp; done) | (right; omega)) all0)).trans K950 (allS (by first | (left; simp; done) | (right; omega)) all0)).trans K957 (allS (by first | (left; simp; done) | (right; omega)) all0)).trans K964 (allS (by first | (left; simp; done) | (right; omega)) all0)).trans K971 (allS (by first | (left; simp; done) | (right; omega)) all0)).trans K978 (allS (by first | (left; simp; done) | (right; omega)) all0)).trans K985 (allS (by first | (left; simp; done) | (right; omega)) all0)).trans K992 (allS (by first | (left; simp; done) | (right; omega)) all0)).trans K999 (allS (by first | (left; simp; done) | (right; omega)) all0)).trans K1005 all0)⟩
                      · refine Go.aload (hb hby at_829) (pc' := 831) rfl rfl rfl ?_
                        refine Go.iconst (hb hby at_831) (pc' := 832) rfl (z := (5 : Int32)) rfl ?_
                        refine Go.caload f1000 (v := (.int z_720)) (by decide) rfl (hb hby at_832) (pc' := 833) rfl ?_
                        refine Go.bipush (hb hby at_833) (pc' := 835) rfl (z := (111 : Int32)) rfl ?_
                        refine Go.icmp (hb hby at_835) (by decide) (pc' := 862) (by decide) (pc2 := 838) rfl (fun (q835 : ¬ z_720 = (111 : Int32)) => ?_) (fun (q835 : ¬ (¬ z_720 = (111 : Int32))) => ?_)
                        · refine Go.iconst (hb hby at_862) (pc' := 863) rfl (z := (0 : Int32)) rfl ?_
                          refine Go.istore (hb hby at_863) (pc' := 865) rfl (L' := #[.val (.int i0), .val (.int i1), .val (.long i2), .second, .val (.int i3), .val (.int (3 : Int32)), .val (.int (0 : Int32)), .val (.ref a540), .val (.ref a603), .val (.ref a603), .val (.ref a666), .val (.ref a920), .val (.int (0 : Int32)), .val (.int (0 : Int32)), .unset]) rfl ?_
                          refine Go.iload (hb hby at_865) (pc' := 867) rfl rfl ?_
                          refine Go.ifN (hb hby at_867) (pc' := 870) rfl (show ¬ (¬ (0 : Int32) = (0 : Int32)) from by decide) ?_
                          refine Go.iload (hb hby at_870) (pc' := 872) rfl rfl ?_
                          refine Go.ifY (hb hby at_872) (by decide) (pc' := 879) (by decide) (show (0 : Int32) = (0 : Int32) from by decide) ?_
                          refine Go.iconst (hb hby at_879) (pc' := 880) rfl (z := (0 : Int32)) rfl ?_
                          refine Go.istore (hb hby at_880) (pc' := 882) rfl (L' := #[.val (.int i0), .val (.int i1), .val (.long i2), .second, .val (.int i3), .val (.int (3 : Int32)), .val (.int (0 : Int32)), .val (.ref a540), .val (.ref a603), .val (.ref a603), .val (.ref a666), .val (.ref a920), .val (.int (0 : Int32)), .val (.int (0 : Int32)), .val (.int (0 : Int32))]) rfl ?_
                          refine Go.aload (hb hby at_882) (pc' := 884) rfl rfl rfl ?_
                          refine Go.callS (c_res (l := l) (nw := nw) g hnw h999 a920 d_999 kd_999 ([z_675, z_684, z_693, z_702, z_711, z_720, z_729, z_738].map by8) o999_0 (by omega)) hown (wd_6 g) (wd_7 g) (wd_9 g) (wd_8 g) (by decide) (argsL := [(.ref a920)]) (lenOf pd_8 rfl) rfl (by rw [hml]; rfl) (W := 0) rfl (hb hby at_884) (pc' := 887) rfl (by decide) (by decide) (by decide) (by decide) all0 ?_
                          rintro _ vm1006 h1006 ⟨rfl, K1006⟩ C1006
                          have z1006 := K1006.1
                          -- pc 887
                          refine Go.iload (hb hby at_887) (pc' := 889) rfl rfl ?_
                          refine Go.icmpN (hb hby at_889) (pc' := 892) rfl (fun q => q (bo_no (fun z => z.elim (fun z => absurd (congrArg List.length z) (by simp)) (fun z => q835 (by have q := z; simp only [List.map_cons, List.map_nil, List.cons.injEq, and_true] at q; exact by8_inj p720_0 (by decide) ((q.2.2.2.2.2.1).trans (by decide))))))) ?_
                          refine Go.iconst (hb hby at_892) (pc' := 893) rfl (z := (1 : Int32)) rfl ?_
                          refine Go.goto (hb hby at_893) (by decide) (pc' := 897) (by decide) ?_
                          refine Go.retN (t := .boolean) hret (by simp) (hb hby at_897) (by decide) (by decide) ?_
                          intro vmR CR
                          exact ⟨(by first | rfl | (simp only [own_nar]; done) | (congr 2; done)), ((((((((((((((((((((((((((((((((((((((((((((((((((((Keep.refl h []).trans KE544 all0).trans K551 (allS (by first | (left; simp; done) | (right; omega)) all0)).trans K557 (allS (by first | (left; simp; done) | (right; omega)) all0)).trans K563 (allS (by first | (left; simp; done) | (right; omega)) all0)).trans K569 (allS (by first | (left; simp; done) | (right; omega)) all0)).trans K575 (allS (by first | (left; simp; done) | (right; omega)) all0)).trans K581 (allS (by first | (left; simp; done) | (right; omega)) all0)).trans K587 (allS (by first | (left; simp; done) | (right; omega)) all0)).trans K593 (allS (by first | (left; simp; done) | (right; omega)) all0)).trans K599 (allS (by first | (left; simp; done) | (right; omega)) all0)).trans KE607 all0).trans K614 (allS (by first | (left; simp; done) | (right; omega)) all0)).trans K620 (allS (by first | (left; simp; done) | (right; omega)) all0)).trans K626 (allS (by first | (left; simp; done) | (right; omega)) all0)).trans K632 (allS (by first | (left; simp; done) | (right; omega)) all0)).trans K638 (allS (by first | (left; simp; done) | (right; omega)) all0)).trans K644 (allS (by first | (left; simp; done) | (right; omega)) all0)).trans K650 (allS (by first | (left; simp; done) | (right; omega)) all0)).trans K656 (allS (by first | (left; simp; done) | (right; omega)) all0)).trans K662 (allS (by first | (left; simp; done) | (right; omega)) all0)).trans KE670 all0).trans K675 all0).trans K680 (allS (by first | (left; simp; done) | (right; omega)) all0)).trans K684 all0).trans K689 (allS (by first | (left; simp; done) | (right; omega)) all0)).trans K693 all0).trans K698 (allS (by first | (left; simp; done) | (right; omega)) all0)).trans K702 all0).trans K707 (allS (by first | (left; simp; done) | (right; omega)) all0)).trans K711 all0).trans K716 (allS (by first | (left; simp; done) | (right; omega)) all0)).trans K720 all0).trans K725 (allS (by first | (left; simp; done) | (right; omega)) all0)).trans K729 all0).trans K734 (allS (by first | (left; simp; done) | (right; omega)) all0)).trans K738 all0).trans K743 (allS (by first | (left; simp; done) | (right; omega)) all0)).trans K747 all0).trans K752 (allS (by first | (left; simp; done) | (right; omega)) all0)).trans KE923 all0).trans KE935 all0).trans K943 (allS (by first | (left; simp; done) | (right; omega)) all0)).trans K950 (allS (by first | (left; simp; done) | (right; omega)) all0)).trans K957 (allS (by first | (left; simp; done) | (right; omega)) all0)).trans K964 (allS (by first | (left; simp; done) | (right; omega)) all0)).trans K971 (allS (by first | (left; simp; done) | (right; omega)) all0)).trans K978 (allS (by first | (left; simp; done) | (right; omega)) all0)).trans K985 (allS (by first | (left; simp; done) | (right; omega)) all0)).trans K992 (allS (by first | (left; simp; done) | (right; omega)) all0)).trans K999 (allS (by first | (left; simp; done) | (right; omega)) all0)).trans K1006 all0)⟩
                        · refine Go.aload (hb hby at_838) (pc' := 840) rfl rfl rfl ?_
                          refine Go.bipush (hb hby at_840) (pc' := 842) rfl (z := (6 : Int32)) rfl ?_
                          refine Go.caload f1000 (v := (.int z_729)) (by decide) rfl (hb hby at_842) (pc' := 843) rfl ?_
                          refine Go.bipush (hb hby at_843) (pc' := 845) rfl (z := (110 : Int32)) rfl ?_
                          refine Go.icmp (hb hby at_845) (by decide) (pc' := 862) (by decide) (pc2 := 848) rfl (fun (q845 : ¬ z_729 = (110 : Int32)) => ?_) (fun (q845 : ¬ (¬ z_729 = (110 : Int32))) => ?_)
                          · refine Go.iconst (hb hby at_862) (pc' := 863) rfl (z := (0 : Int32)) rfl ?_
                            refine Go.istore (hb hby at_863) (pc' := 865) rfl (L' := #[.val (.int i0), .val (.int i1), .val (.long i2), .second, .val (.int i3), .val (.int (3 : Int32)), .val (.int (0 : Int32)), .val (.ref a540), .val (.ref a603), .val (.ref a603), .val (.ref a666), .val (.ref a920), .val (.int (0 : Int32)), .val (.int (0 : Int32)), .unset]) rfl ?_
                            refine Go.iload (hb hby at_865) (pc' := 867) rfl rfl ?_
                            refine Go.ifN (hb hby at_867) (pc' := 870) rfl (show ¬ (¬ (0 : Int32) = (0 : Int32)) from by decide) ?_
                            refine Go.iload (hb hby at_870) (pc' := 872) rfl rfl ?_
                            refine Go.ifY (hb hby at_872) (by decide) (pc' := 879) (by decide) (show (0 : Int32) = (0 : Int32) from by decide) ?_
                            refine Go.iconst (hb hby at_879) (pc' := 880) rfl (z := (0 : Int32)) rfl ?_
                            refine Go.istore (hb hby at_880) (pc' := 882) rfl (L' := #[.val (.int i0), .val (.int i1), .val (.long i2), .second, .val (.int i3), .val (.int (3 : Int32)), .val (.int (0 : Int32)), .val (.ref a540), .val (.ref a603), .val (.ref a603), .val (.ref a666), .val (.ref a920), .val (.int (0 : Int32)), .val (.int (0 : Int32)), .val (.int (0 : Int32))]) rfl ?_
                            refine Go.aload (hb hby at_882) (pc' := 884) rfl rfl rfl ?_
                            refine Go.callS (c_res (l := l) (nw := nw) g hnw h999 a920 d_999 kd_999 ([z_675, z_684, z_693, z_702, z_711, z_720, z_729, z_738].map by8) o999_0 (by omega)) hown (wd_6 g) (wd_7 g) (wd_9 g) (wd_8 g) (by decide) (argsL := [(.ref a920)]) (lenOf pd_8 rfl) rfl (by rw [hml]; rfl) (W := 0) rfl (hb hby at_884) (pc' := 887) rfl (by decide) (by decide) (by decide) (by decide) all0 ?_
                            rintro _ vm1007 h1007 ⟨rfl, K1007⟩ C1007
                            have z1007 := K1007.1
                            -- pc 887
                            refine Go.iload (hb hby at_887) (pc' := 889) rfl rfl ?_
                            refine Go.icmpN (hb hby at_889) (pc' := 892) rfl (fun q => q (bo_no (fun z => z.elim (fun z => absurd (congrArg List.length z) (by simp)) (fun z => q845 (by have q := z; simp only [List.map_cons, List.map_nil, List.cons.injEq, and_true] at q; exact by8_inj p729_0 (by decide) ((q.2.2.2.2.2.2.1).trans (by decide))))))) ?_
                            refine Go.iconst (hb hby at_892) (pc' := 893) rfl (z := (1 : Int32)) rfl ?_
                            refine Go.goto (hb hby at_893) (by decide) (pc' := 897) (by decide) ?_
                            refine Go.retN (t := .boolean) hret (by simp) (hb hby at_897) (by decide) (by decide) ?_
                            intro vmR CR
                            exact ⟨(by first | rfl | (simp only [own_nar]; done) | (congr 2; done)), ((((((((((((((((((((((((((((((((((((((((((((((((((((Keep.refl h []).trans KE544 all0).trans K551 (allS (by first | (left; simp; done) | (right; omega)) all0)).trans K557 (allS (by first | (left; simp; done) | (right; omega)) all0)).trans K563 (allS (by first | (left; simp; done) | (right; omega)) all0)).trans K569 (allS (by first | (left; simp; done) | (right; omega)) all0)).trans K575 (allS (by first | (left; simp; done) | (right; omega)) all0)).trans K581 (allS (by first | (left; simp; done) | (right; omega)) all0)).trans K587 (allS (by first | (left; simp; done) | (right; omega)) all0)).trans K593 (allS (by first | (left; simp; done) | (right; omega)) all0)).trans K599 (allS (by first | (left; simp; done) | (right; omega)) all0)).trans KE607 all0).trans K614 (allS (by first | (left; simp; done) | (right; omega)) all0)).trans K620 (allS (by first | (left; simp; done) | (right; omega)) all0)).trans K626 (allS (by first | (left; simp; done) | (right; omega)) all0)).trans K632 (allS (by first | (left; simp; done) | (right; omega)) all0)).trans K638 (allS (by first | (left; simp; done) | (right; omega)) all0)).trans K644 (allS (by first | (left; simp; done) | (right; omega)) all0)).trans K650 (allS (by first | (left; simp; done) | (right; omega)) all0)).trans K656 (allS (by first | (left; simp; done) | (right; omega)) all0)).trans K662 (allS (by first | (left; simp; done) | (right; omega)) all0)).trans KE670 all0).trans K675 all0).trans K680 (allS (by first | (left; simp; done) | (right; omega)) all0)).trans K684 all0).trans K689 (allS (by first | (left; simp; done) | (right; omega)) all0)).trans K693 all0).trans K698 (allS (by first | (left; simp; done) | (right; omega)) all0)).trans K702 all0).trans K707 (allS (by first | (left; simp; done) | (right; omega)) all0)).trans K711 all0).trans K716 (allS (by first | (left; simp; done) | (right; omega)) all0)).trans K720 all0).trans K725 (allS (by first | (left; simp; done) | (right; omega)) all0)).trans K729 all0).trans K734 (allS (by first | (left; simp; done) | (right; omega)) all0)).trans K738 all0).trans K743 (allS (by first | (left; simp; done) | (right; omega)) all0)).trans K747 all0).trans K752 (allS (by first | (left; simp; done) | (right; omega)) all0)).trans KE923 all0).trans KE935 all0).trans K943 (allS (by first | (left; simp; done) | (right; omega)) all0)).trans K950 (allS (by first | (left; simp; done) | (right; omega)) all0)).trans K957 (allS (by first | (left; simp; done) | (right; omega)) all0)).trans K964 (allS (by first | (left; simp; done) | (right; omega)) all0)).trans K971 (allS (by first | (left; simp; done) | (right; omega)) all0)).trans K978 (allS (by first | (left; simp; done) | (right; omega)) all0)).trans K985 (allS (by first | (left; simp; done) | (right; omega)) all0)).trans K992 (allS (by first | (left; simp; done) | (right; omega)) all0)).trans K999 (allS (by first | (left; simp; done) | (right; omega)) all0)).trans K1007 all0)⟩
                          · refine Go.aload (hb hby at_848) (pc' := 850) rfl rfl rfl ?_
                            refine Go.bipush (hb hby at_850) (pc' := 852) rfl (z := (7 : Int32)) rfl ?_
                            refine Go.caload f1000 (v := (.int z_738)) (by decide) rfl (hb hby at_852) (pc' := 853) rfl ?_
                            refine Go.bipush (hb hby at_853) (pc' := 855) rfl (z := (101 : Int32)) rfl ?_
                            refine Go.icmp (hb hby at_855) (by decide) (pc' := 862) (by decide) (pc2 := 858) rfl (fun (q855 : ¬ z_738 = (101 : Int32)) => ?_) (fun (q855 : ¬ (¬ z_738 = (101 : Int32))) => ?_)
                            · refine Go.iconst (hb hby at_862) (pc' := 863) rfl (z := (0 : Int32)) rfl ?_
                              refine Go.istore (hb hby at_863) (pc' := 865) rfl (L' := #[.val (.int i0), .val (.int i1), .val (.long i2), .second, .val (.int i3), .val (.int (3 : Int32)), .val (.int (0 : Int32)), .val (.ref a540), .val (.ref a603), .val (.ref a603), .val (.ref a666), .val (.ref a920), .val (.int (0 : Int32)), .val (.int (0 : Int32)), .unset]) rfl ?_
                              refine Go.iload (hb hby at_865) (pc' := 867) rfl rfl ?_
                              refine Go.ifN (hb hby at_867) (pc' := 870) rfl (show ¬ (¬ (0 : Int32) = (0 : Int32)) from by decide) ?_
                              refine Go.iload (hb hby at_870) (pc' := 872) rfl rfl ?_
                              refine Go.ifY (hb hby at_872) (by decide) (pc' := 879) (by decide) (show (0 : Int32) = (0 : Int32) from by decide) ?_
                              refine Go.iconst (hb hby at_879) (pc' := 880) rfl (z := (0 : Int32)) rfl ?_
                              refine Go.istore (hb hby at_880) (pc' := 882) rfl (L' := #[.val (.int i0), .val (.int i1), .val (.long i2), .second, .val (.int i3), .val (.int (3 : Int32)), .val (.int (0 : Int32)), .val (.ref a540), .val (.ref a603), .val (.ref a603), .val (.ref a666), .val (.ref a920), .val (.int (0 : Int32)), .val (.int (0 : Int32)), .val (.int (0 : Int32))]) rfl ?_
                              refine Go.aload (hb hby at_882) (pc' := 884) rfl rfl rfl ?_
                              refine Go.callS (c_res (l := l) (nw := nw) g hnw h999 a920 d_999 kd_999 ([z_675, z_684, z_693, z_702, z_711, z_720, z_729, z_738].map by8) o999_0 (by omega)) hown (wd_6 g) (wd_7 g) (wd_9 g) (wd_8 g) (by decide) (argsL := [(.ref a920)]) (lenOf pd_8 rfl) rfl (by rw [hml]; rfl) (W := 0) rfl (hb hby at_884) (pc' := 887) rfl (by decide) (by decide) (by decide) (by decide) all0 ?_
                              rintro _ vm1008 h1008 ⟨rfl, K1008⟩ C1008
                              have z1008 := K1008.1
                              -- pc 887
                              refine Go.iload (hb hby at_887) (pc' := 889) rfl rfl ?_
                              refine Go.icmpN (hb hby at_889) (pc' := 892) rfl (fun q => q (bo_no (fun z => z.elim (fun z => absurd (congrArg List.length z) (by simp)) (fun z => q855 (by have q := z; simp only [List.map_cons, List.map_nil, List.cons.injEq, and_true] at q; exact by8_inj p738_0 (by decide) ((q.2.2.2.2.2.2.2).trans (by decide))))))) ?_
                              refine Go.iconst (hb hby at_892) (pc' := 893) rfl (z := (1 : Int32)) rfl ?_
                              refine Go.goto (hb hby at_893) (by decide) (pc' := 897) (by decide) ?_
                              refine Go.retN (t := .boolean) hret (by simp) (hb hby at_897) (by decide) (by decide) ?_
                              intro vmR CR
                              exact ⟨(by first | rfl | (simp only [own_nar]; done) | (congr 2; done)), ((((((((((((((((((((((((((((((((((((((((((((((((((((Keep.refl h []).trans KE544 all0).trans K551 (allS (by first | (left; simp; done) | (right; omega)) all0)).trans K557 (allS (by first | (left; simp; done) | (right; omega)) all0)).trans K563 (allS (by first | (left; simp; done) | (right; omega)) all0)).trans K569 (allS (by first | (left; simp; done) | (right; omega)) all0)).trans K575 (allS (by first | (left; simp; done) | (right; omega)) all0)).trans K581 (allS (by first | (left; simp; done) | (right; omega)) all0)).trans K587 (allS (by first | (left; simp; done) | (right; omega)) all0)).trans K593 (allS (by first | (left; simp; done) | (right; omega)) all0)).trans K599 (allS (by first | (left; simp; done) | (right; omega)) all0)).trans KE607 all0).trans K614 (allS (by first | (left; simp; done) | (right; omega)) all0)).trans K620 (allS (by first | (left; simp; done) | (right; omega)) all0)).trans K626 (allS (by first | (left; simp; done) | (right; omega)) all0)).trans K632 (allS (by first | (left; simp; done) | (right; omega)) all0)).trans K638 (allS (by first | (left; simp; done) | (right; omega)) all0)).trans K644 (allS (by first | (left; simp; done) | (right; omega)) all0)).trans K650 (allS (by first | (left; simp; done) | (right; omega)) all0)).trans K656 (allS (by first | (left; simp; done) | (right; omega)) all0)).trans K662 (allS (by first | (left; simp; done) | (right; omega)) all0)).trans KE670 all0).trans K675 all0).trans K680 (allS (by first | (left; simp; done) | (right; omega)) all0)).trans K684 all0).trans K689 (allS (by first | (left; simp; done) | (right; omega)) all0)).trans K693 all0).trans K698 (allS (by first | (left; simp; done) | (right; omega)) all0)).trans K702 all0).trans K707 (allS (by first | (left; simp; done) | (right; omega)) all0)).trans K711 all0).trans K716 (allS (by first | (left; simp; done) | (right; omega)) all0)).trans K720 all0).trans K725 (allS (by first | (left; simp; done) | (right; omega)) all0)).trans K729 all0).trans K734 (allS (by first | (left; simp; done) | (right; omega)) all0)).trans K738 all0).trans K743 (allS (by first | (left; simp; done) | (right; omega)) all0)).trans K747 all0).trans K752 (allS (by first | (left; simp; done) | (right; omega)) all0)).trans KE923 all0).trans KE935 all0).trans K943 (allS (by first | (left; simp; done) | (right; omega)) all0)).trans K950 (allS (by first | (left; simp; done) | (right; omega)) all0)).trans K957 (allS (by first | (left; simp; done) | (right; omega)) all0)).trans K964 (allS (by first | (left; simp; done) | (right; omega)) all0)).trans K971 (allS (by first | (left; simp; done) | (right; omega)) all0)).trans K978 (allS (by first | (left; simp; done) | (right; omega)) all0)).trans K985 (allS (by first | (left; simp; done) | (right; omega)) all0)).trans K992 (allS (by first | (left; simp; done) | (right; omega)) all0)).trans K999 (allS (by first | (left; simp; done) | (right; omega)) all0)).trans K1008 all0)⟩
                            · refine Go.iconst (hb hby at_858) (pc' := 859) rfl (z := (1 : Int32)) rfl ?_
                              refine Go.goto (hb hby at_859) (by decide) (pc' := 863) (by decide) ?_
                              refine Go.istore (hb hby at_863) (pc' := 865) rfl (L' := #[.val (.int i0), .val (.int i1), .val (.long i2), .second, .val (.int i3), .val (.int (3 : Int32)), .val (.int (0 : Int32)), .val (.ref a540), .val (.ref a603), .val (.ref a603), .val (.ref a666), .val (.ref a920), .val (.int (0 : Int32)), .val (.int (1 : Int32)), .unset]) rfl ?_
                              refine Go.iload (hb hby at_865) (pc' := 867) rfl rfl ?_
                              refine Go.ifN (hb hby at_867) (pc' := 870) rfl (show ¬ (¬ (0 : Int32) = (0 : Int32)) from by decide) ?_
                              refine Go.iload (hb hby at_870) (pc' := 872) rfl rfl ?_
                              refine Go.ifN (hb hby at_872) (pc' := 875) rfl (show ¬ ((1 : Int32) = (0 : Int32)) from by decide) ?_
                              refine Go.iconst (hb hby at_875) (pc' := 876) rfl (z := (1 : Int32)) rfl ?_
                              refine Go.goto (hb hby at_876) (by decide) (pc' := 880) (by decide) ?_
                              refine Go.istore (hb hby at_880) (pc' := 882) rfl (L' := #[.val (.int i0), .val (.int i1), .val (.long i2), .second, .val (.int i3), .val (.int (3 : Int32)), .val (.int (0 : Int32)), .val (.ref a540), .val (.ref a603), .val (.ref a603), .val (.ref a666), .val (.ref a920), .val (.int (0 : Int32)), .val (.int (1 : Int32)), .val (.int (1 : Int32))]) rfl ?_
                              refine Go.aload (hb hby at_882) (pc' := 884) rfl rfl rfl ?_
                              refine Go.callS (c_res (l := l) (nw := nw) g hnw h999 a920 d_999 kd_999 ([z_675, z_684, z_693, z_702, z_711, z_720, z_729, z_738].map by8) o999_0 (by omega)) hown (wd_6 g) (wd_7 g) (wd_9 g) (wd_8 g) (by decide) (argsL := [(.ref a920)]) (lenOf pd_8 rfl) rfl (by rw [hml]; rfl) (W := 0) rfl (hb hby at_884) (pc' := 887) rfl (by decide) (by decide) (by decide) (by decide) all0 ?_
                              rintro _ vm1009 h1009 ⟨rfl, K1009⟩ C1009
                              have z1009 := K1009.1
                              -- pc 887
                              refine Go.iload (hb hby at_887) (pc' := 889) rfl rfl ?_
                              refine Go.icmpN (hb hby at_889) (pc' := 892) rfl (fun q => q (bo_yes (Or.inr (by rw [Classical.not_not.mp q790, Classical.not_not.mp q799, Classical.not_not.mp q808, Classical.not_not.mp q817, Classical.not_not.mp q826, Classical.not_not.mp q835, Classical.not_not.mp q845, Classical.not_not.mp q855]; rfl)))) ?_
                              refine Go.iconst (hb hby at_892) (pc' := 893) rfl (z := (1 : Int32)) rfl ?_
                              refine Go.goto (hb hby at_893) (by decide) (pc' := 897) (by decide) ?_
                              refine Go.retN (t := .boolean) hret (by simp) (hb hby at_897) (by decide) (by decide) ?_
                              intro vmR CR
                              exact ⟨(by first | rfl | (simp only [own_nar]; done) | (congr 2; done)), ((((((((((((((((((((((((((((((((((((((((((((((((((((Keep.refl h []).trans KE544 all0).trans K551 (allS (by first | (left; simp; done) | (right; omega)) all0)).trans K557 (allS (by first | (left; simp; done) | (right; omega)) all0)).trans K563 (allS (by first | (left; simp; done) | (right; omega)) all0)).trans K569 (allS (by first | (left; simp; done) | (right; omega)) all0)).trans K575 (allS (by first | (left; simp; done) | (right; omega)) all0)).trans K581 (allS (by first | (left; simp; done) | (right; omega)) all0)).trans K587 (allS (by first | (left; simp; done) | (right; omega)) all0)).trans K593 (allS (by first | (left; simp; done) | (right; omega)) all0)).trans K599 (allS (by first | (left; simp; done) | (right; omega)) all0)).trans KE607 all0).trans K614 (allS (by first | (left; simp; done) | (right; omega)) all0)).trans K620 (allS (by first | (left; simp; done) | (right; omega)) all0)).trans K626 (allS (by first | (left; simp; done) | (right; omega)) all0)).trans K632 (allS (by first | (left; simp; done) | (right; omega)) all0)).trans K638 (allS (by first | (left; simp; done) | (right; omega)) all0)).trans K644 (allS (by first | (left; simp; done) | (right; omega)) all0)).trans K650 (allS (by first | (left; simp; done) | (right; omega)) all0)).trans K656 (allS (by first | (left; simp; done) | (right; omega)) all0)).trans K662 (allS (by first | (left; simp; done) | (right; omega)) all0)).trans KE670 all0).trans K675 all0).trans K680 (allS (by first | (left; simp; done) | (right; omega)) all0)).trans K684 all0).trans K689 (allS (by first | (left; simp; done) | (right; omega)) all0)).trans K693 all0).trans K698 (allS (by first | (left; simp; done) | (right; omega)) all0)).trans K702 all0).trans K707 (allS (by first | (left; simp; done) | (right; omega)) all0)).trans K711 all0).trans K716 (allS (by first | (left; simp; done) | (right; omega)) all0)).trans K720 all0).trans K725 (allS (by first | (left; simp; done) | (right; omega)) all0)).trans K729 all0).trans K734 (allS (by first | (left; simp; done) | (right; omega)) all0)).trans K738 all0).trans K743 (allS (by first | (left; simp; done) | (right; omega)) all0)).trans K747 all0).trans K752 (allS (by first | (left; simp; done) | (right; omega)) all0)).trans KE923 all0).trans KE935 all0).trans K943 (allS (by first | (left; simp; done) | (right; omega)) all0)).trans K950 (allS (by first | (left; simp; done) | (right; omega)) all0)).trans K957 (allS (by first | (left; simp; done) | (right; omega)) all0)).trans K964 (allS (by first | (left; simp; done) | (right; omega)) all0)).trans K971 (allS (by first | (left; simp; done) | (right; omega)) all0)).trans K978 (allS (by first | (left; simp; done) | (right; omega)) all0)).trans K985 (allS (by first | (left; simp; done) | (right; omega)) all0)).trans K992 (allS (by first | (left; simp; done) | (right; omega)) all0)).trans K999 (allS (by first | (left; simp; done) | (right; omega)) all0)).trans K1009 all0)⟩
          · have r326 := Classical.not_not.mp q326
            subst r326
            refine Go.newO hown (wd_24 g) (wd_12 g) (wd_11 g) (hb hby at_329) (pc' := 332) rfl (by decide) (by decide) ?_
            intro h1010 a1011 g1012 l1013 E1014 X1015 D1016 S1017 C1018
            have KE1014 := Keep.ofExt E1014; have zE1014 := E1014.1
            have f1019 : Fld Z h1010 a1011 "java/lang/String" "value" "[B" .null := D1016 (Or.inr (wd_14 g)) (ty := (.array .byte)) (by decide)
            have f1020 : Fld Z h1010 a1011 "java/lang/String" "coder" "B" (.int 0) := D1016 (Or.inr (wd_15 g)) (ty := .byte) (by decide)
            refine Go.dup (hb hby at_332) (pc' := 333) rfl rfl ?_
            refine Go.iconst (hb hby at_333) (pc' := 334) rfl (z := (0 : Int32)) rfl ?_
            refine Go.newP (ty := .char) rfl (wd_0 g) (hb hby at_334) (pc' := 336) rfl (by decide) (cap := 0) (by decide) (by decide) (by decide) (by decide) ?_
            intro h1021 a1022 k1023 g1024 l1025 E1026 A1027 S1028 C1029
            have KE1026 := Keep.ofExt E1026; have zE1026 := E1026.1
            have A1027 : Ar Z h1021 a1022 k1023 .char [] := A1027
            have f1030 : Exa Z h1021 a1011 "java/lang/String" := (X1015.keep KE1026)
            have f1031 : Fld Z h1021 a1011 "java/lang/String" "coder" "B" (.int 0) := (f1020.keep KE1026 nin0)
            have f1032 : Fld Z h1021 a1011 "java/lang/String" "value" "[B" .null := (f1019.keep KE1026 nin0)
            have f1033 : Safe Z EL vm747 h1021 a1011 := (Safe.to C1029 (by omega) S1017)
            refine Go.callC (c_strinit0 (l := l) (nw := nw) g hnw h1021 a1011 a1022 k1023 (by first | omega | assumption | decide) f1030 f1031 f1032 A1027 (by omega)) hown rfl rfl (wd_25 g) (wd_26 g) (wd_27 g) (wd_11 g) (by decide) (argsL := [(.ref a1022)]) (lenOf pd_7 rfl) rfl (by rw [hml]; rfl) (W := 1) rfl (hb hby at_336) (pc' := 339) rfl (by decide) (by decide) (by decide) (by decide) (allS ⟨by omega, f1033⟩ all0) ?_
            rintro _ vm1034 h1034 ⟨d_1034, kd_1034, rfl, K1034, o1034_0⟩ C1034
            have z1034 := K1034.1
            have yo1034_0 := ltN o1034_0.lt; have yo1034_0' := ltN o1034_0.ltb
            -- pc 339
            refine Go.astore (hb hby at_339) (pc' := 341) rfl rfl (L' := #[.val (.int i0), .val (.int i1), .val (.long i2), .second, .val (.int i3), .val (.int (1 : Int32)), .val (.int (0 : Int32)), .val (.ref a540), .val (.ref a603), .val (.ref a603), .val (.ref a666), .val (.ref a1011), .unset, .unset, .unset]) rfl ?_
            refine Go.goto (hb hby at_341) (by decide) (pc' := 729) (by decide) ?_
            refine Go.iload (hb hby at_729) (pc' := 731) rfl rfl ?_
            refine Go.iconst (hb hby at_731) (pc' := 732) rfl (z := (2 : Int32)) rfl ?_
            refine Go.icmpY (hb hby at_732) (by decide) (pc' := 775) (by decide) (show ¬ (1 : Int32) = (2 : Int32) from by decide) ?_
            refine Go.iconst (hb hby at_775) (pc' := 776) rfl (z := (0 : Int32)) rfl ?_
            refine Go.istore (hb hby at_776) (pc' := 778) rfl (L' := #[.val (.int i0), .val (.int i1), .val (.long i2), .second, .val (.int i3), .val (.int (1 : Int32)), .val (.int (0 : Int32)), .val (.ref a540), .val (.ref a603), .val (.ref a603), .val (.ref a666), .val (.ref a1011), .val (.int (0 : Int32)), .unset, .unset]) rfl ?_
            refine Go.iload (hb hby at_778) (pc' := 780) rfl rfl ?_
            refine Go.iconst (hb hby at_780) (pc' := 781) rfl (z := (3 : Int32)) rfl ?_
            refine Go.icmpY (hb hby at_781) (by decide) (pc' := 862) (by decide) (show ¬ (1 : Int32) = (3 : Int32) from by decide) ?_
            refine Go.iconst (hb hby at_862) (pc' := 863) rfl (z := (0 : Int32)) rfl ?_
            refine Go.istore (hb hby at_863) (pc' := 865) rfl (L' := #[.val (.int i0), .val (.int i1), .val (.long i2), .second, .val (.int i3), .val (.int (1 : Int32)), .val (.int (0 : Int32)), .val (.ref a540), .val (.ref a603), .val (.ref a603), .val (.ref a666), .val (.ref a1011), .val (.int (0 : Int32)), .val (.int (0 : Int32)), .unset]) rfl ?_
            refine Go.iload (hb hby at_865) (pc' := 867) rfl rfl ?_
            refine Go.ifN (hb hby at_867) (pc' := 870) rfl (show ¬ (¬ (0 : Int32) = (0 : Int32)) from by decide) ?_
            refine Go.iload (hb hby at_870) (pc' := 872) rfl rfl ?_
            refine Go.ifY (hb hby at_872) (by decide) (pc' := 879) (by decide) (show (0 : Int32) = (0 : Int32) from by decide) ?_
            refine Go.iconst (hb hby at_879) (pc' := 880) rfl (z := (0 : Int32)) rfl ?_
            refine Go.istore (hb hby at_880) (pc' := 882) rfl (L' := #[.val (.int i0), .val (.int i1), .val (.long i2), .second, .val (.int i3), .val (.int (1 : Int32)), .val (.int (0 : Int32)), .val (.ref a540), .val (.ref a603), .val (.ref a603), .val (.ref a666), .val (.ref a1011), .val (.int (0 : Int32)), .val (.int (0 : Int32)), .val (.int (0 : Int32))]) rfl ?_
            refine Go.aload (hb hby at_882) (pc' := 884) rfl rfl rfl ?_
            refine Go.callS (c_res (l := l) (nw := nw) g hnw h1034 a1011 d_1034 kd_1034 [] o1034_0 (by omega)) hown (wd_6 g) (wd_7 g) (wd_9 g) (wd_8 g) (by decide) (argsL := [(.ref a1011)]) (lenOf pd_8 rfl) rfl (by rw [hml]; rfl) (W := 0) rfl (hb hby at_884) (pc' := 887) rfl (by decide) (by decide) (by decide) (by decide) all0 ?_
            rintro _ vm1035 h1035 ⟨rfl, K1035⟩ C1035
            have z1035 := K1035.1
            -- pc 887
            refine Go.iload (hb hby at_887) (pc' := 889) rfl rfl ?_
            refine Go.icmpN (hb hby at_889) (pc' := 892) rfl (fun q => q (bo_no (fun z => z.elim (fun z => absurd (congrArg List.length z) (by simp)) (fun z => absurd (congrArg List.length z) (by simp))))) ?_
            refine Go.iconst (hb hby at_892) (pc' := 893) rfl (z := (1 : Int32)) rfl ?_
            refine Go.goto (hb hby at_893) (by decide) (pc' := 897) (by decide) ?_
            refine Go.retN (t := .boolean) hret (by simp) (hb hby at_897) (by decide) (by decide) ?_
            intro vmR CR
            exact ⟨(by first | rfl | (simp only [own_nar]; done) | (congr 2; done)), ((((((((((((((((((((((((((((((((((((((((((((Keep.refl h []).trans KE544 all0).trans K551 (allS (by first | (left; simp; done) | (right; omega)) all0)).trans K557 (allS (by first | (left; simp; done) | (right; omega)) all0)).trans K563 (allS (by first | (left; simp; done) | (right; omega)) all0)).trans K569 (allS (by first | (left; simp; done) | (right; omega)) all0)).trans K575 (allS (by first | (left; simp; done) | (right; omega)) all0)).trans K581 (allS (by first | (left; simp; done) | (right; omega)) all0)).trans K587 (allS (by first | (left; simp; done) | (right; omega)) all0)).trans K593 (allS (by first | (left; simp; done) | (right; omega)) all0)).trans K599 (allS (by first | (left; simp; done) | (right; omega)) all0)).trans KE607 all0).trans K614 (allS (by first | (left; simp; done) | (right; omega)) all0)).trans K620 (allS (by first | (left; simp; done) | (right; omega)) all0)).trans K626 (allS (by first | (left; simp; done) | (right; omega)) all0)).trans K632 (allS (by first | (left; simp; done) | (right; omega)) all0)).trans K638 (allS (by first | (left; simp; done) | (right; omega)) all0)).trans K644 (allS (by first | (left; simp; done) | (right; omega)) all0)).trans K650 (allS (by first | (left; simp; done) | (right; omega)) all0)).trans K656 (allS (by first | (left; simp; done) | (right; omega)) all0)).trans K662 (allS (by first | (left; simp; done) | (right; omega)) all0)).trans KE670 all0).trans K675 all0).trans K680 (allS (by first | (left; simp; done) | (right; omega)) all0)).trans K684 all0).trans K689 (allS (by first | (left; simp; done) | (right; omega)) all0)).trans K693 all0).trans K698 (allS (by first | (left; simp; done) | (right; omega)) all0)).trans K702 all0).trans K707 (allS (by first | (left; simp; done) | (right; omega)) all0)).trans K711 all0).trans K716 (allS (by first | (left; simp; done) | (right; omega)) all0)).trans K720 all0).trans K725 (allS (by first | (left; simp; done) | (right; omega)) all0)).trans K729 all0).trans K734 (allS (by first | (left; simp; done) | (right; omega)) all0)).trans K738 all0).trans K743 (allS (by first | (left; simp; done) | (right; omega)) all0)).trans K747 all0).trans K752 (allS (by first | (left; simp; done) | (right; omega)) all0)).trans KE1014 all0).trans KE1026 all0).trans K1034 (allS (by first | (left; simp; done) | (right; omega)) all0)).trans K1035 all0)⟩
        · have r314 := Classical.not_not.mp q314
          subst r314
          refine Go.aconstNull (hb hby at_317) (pc' := 318) rfl ?_
          refine Go.astore (hb hby at_318) (pc' := 320) rfl rfl (L' := #[.val (.int i0), .val (.int i1), .val (.long i2), .second, .val (.int i3), .val (.int (0 : Int32)), .val (.int (0 : Int32)), .val (.ref a540), .val (.ref a603), .val (.ref a603), .val (.ref a666), .val .null, .unset, .unset, .unset]) rfl ?_
          refine Go.goto (hb hby at_320) (by decide) (pc' := 729) (by decide) ?_
          refine Go.iload (hb hby at_729) (pc' := 731) rfl rfl ?_
          refine Go.iconst (hb hby at_731) (pc' := 732) rfl (z := (2 : Int32)) rfl ?_
          refine Go.icmpY (hb hby at_732) (by decide) (pc' := 775) (by decide) (show ¬ (0 : Int32) = (2 : Int32) from by decide) ?_
          refine Go.iconst (hb hby at_775) (pc' := 776) rfl (z := (0 : Int32)) rfl ?_
          refine Go.istore (hb hby at_776) (pc' := 778) rfl (L' := #[.val (.int i0), .val (.int i1), .val (.long i2), .second, .val (.int i3), .val (.int (0 : Int32)), .val (.int (0 : Int32)), .val (.ref a540), .val (.ref a603), .val (.ref a603), .val (.ref a666), .val .null, .val (.int (0 : Int32)), .unset, .unset]) rfl ?_
          refine Go.iload (hb hby at_778) (pc' := 780) rfl rfl ?_
          refine Go.iconst (hb hby at_780) (pc' := 781) rfl (z := (3 : Int32)) rfl ?_
          refine Go.icmpY (hb hby at_781) (by decide) (pc' := 862) (by decide) (show ¬ (0 : Int32) = (3 : Int32) from by decide) ?_
          refine Go.iconst (hb hby at_862) (pc' := 863) rfl (z := (0 : Int32)) rfl ?_
          refine Go.istore (hb hby at_863) (pc' := 865) rfl (L' := #[.val (.int i0), .val (.int i1), .val (.long i2), .second, .val (.int i3), .val (.int (0 : Int32)), .val (.int (0 : Int32)), .val (.ref a540), .val (.ref a603), .val (.ref a603), .val (.ref a666), .val .null, .val (.int (0 : Int32)), .val (.int (0 : Int32)), .unset]) rfl ?_
          refine Go.iload (hb hby at_865) (pc' := 867) rfl rfl ?_
          refine Go.ifN (hb hby at_867) (pc' := 870) rfl (show ¬ (¬ (0 : Int32) = (0 : Int32)) from by decide) ?_
          refine Go.iload (hb hby at_870) (pc' := 872) rfl rfl ?_
          refine Go.ifY (hb hby at_872) (by decide) (pc' := 879) (by decide) (show (0 : Int32) = (0 : Int32) from by decide) ?_
          refine Go.iconst (hb hby at_879) (pc' := 880) rfl (z := (0 : Int32)) rfl ?_
          refine Go.istore (hb hby at_880) (pc' := 882) rfl (L' := #[.val (.int i0), .val (.int i1), .val (.long i2), .second, .val (.int i3), .val (.int (0 : Int32)), .val (.int (0 : Int32)), .val (.ref a540), .val (.ref a603), .val (.ref a603), .val (.ref a666), .val .null, .val (.int (0 : Int32)), .val (.int (0 : Int32)), .val (.int (0 : Int32))]) rfl ?_
          refine Go.aload (hb hby at_882) (pc' := 884) rfl rfl rfl ?_
          refine Go.callS (c_resnull (l := l) (nw := nw) g hnw h749 (by omega)) hown (wd_6 g) (wd_7 g) (wd_9 g) (wd_8 g) (by decide) (argsL := [.null]) (lenOf pd_8 rfl) rfl (by rw [hml]; rfl) (W := 0) rfl (hb hby at_884) (pc' := 887) rfl (by decide) (by decide) (by decide) (by decide) all0 ?_
          rintro _ vm1036 h1036 ⟨rfl, K1036⟩ C1036
          have z1036 := K1036.1
          -- pc 887
          refine Go.iload (hb hby at_887) (pc' := 889) rfl rfl ?_
          refine Go.icmpN (hb hby at_889) (pc' := 892) rfl (show ¬ (¬ (0 : Int32) = (0 : Int32)) from by decide) ?_
          refine Go.iconst (hb hby at_892) (pc' := 893) rfl (z := (1 : Int32)) rfl ?_
          refine Go.goto (hb hby at_893) (by decide) (pc' := 897) (by decide) ?_
          refine Go.retN (t := .boolean) hret (by simp) (hb hby at_897) (by decide) (by decide) ?_
          intro vmR CR
          exact ⟨(by first | rfl | (simp only [own_nar]; done) | (congr 2; done)), (((((((((((((((((((((((((((((((((((((((((Keep.refl h []).trans KE544 all0).trans K551 (allS (by first | (left; simp; done) | (right; omega)) all0)).trans K557 (allS (by first | (left; simp; done) | (right; omega)) all0)).trans K563 (allS (by first | (left; simp; done) | (right; omega)) all0)).trans K569 (allS (by first | (left; simp; done) | (right; omega)) all0)).trans K575 (allS (by first | (left; simp; done) | (right; omega)) all0)).trans K581 (allS (by first | (left; simp; done) | (right; omega)) all0)).trans K587 (allS (by first | (left; simp; done) | (right; omega)) all0)).trans K593 (allS (by first | (left; simp; done) | (right; omega)) all0)).trans K599 (allS (by first | (left; simp; done) | (right; omega)) all0)).trans KE607 all0).trans K614 (allS (by first | (left; simp; done) | (right; omega)) all0)).trans K620 (allS (by first | (left; simp; done) | (right; omega)) all0)).trans K626 (allS (by first | (left; simp; done) | (right; omega)) all0)).trans K632 (allS (by first | (left; simp; done) | (right; omega)) all0)).trans K638 (allS (by first | (left; simp; done) | (right; omega)) all0)).trans K644 (allS (by first | (left; simp; done) | (right; omega)) all0)).trans K650 (allS (by first | (left; simp; done) | (right; omega)) all0)).trans K656 (allS (by first | (left; simp; done) | (right; omega)) all0)).trans K662 (allS (by first | (left; simp; done) | (right; omega)) all0)).trans KE670 all0).trans K675 all0).trans K680 (allS (by first | (left; simp; done) | (right; omega)) all0)).trans K684 all0).trans K689 (allS (by first | (left; simp; done) | (right; omega)) all0)).trans K693 all0).trans K698 (allS (by first | (left; simp; done) | (right; omega)) all0)).trans K702 all0).trans K707 (allS (by first | (left; simp; done) | (right; omega)) all0)).trans K711 all0).trans K716 (allS (by first | (left; simp; done) | (right; omega)) all0)).trans K720 all0).trans K725 (allS (by first | (left; simp; done) | (right; omega)) all0)).trans K729 all0).trans K734 (allS (by first | (left; simp; done) | (right; omega)) all0)).trans K738 all0).trans K743 (allS (by first | (left; simp; done) | (right; omega)) all0)).trans K747 all0).trans K752 (allS (by first | (left; simp; done) | (right; omega)) all0)).trans K1036 all0)⟩
      · have r21 := Classical.not_not.mp q21
        subst r21
        refine Go.iconst (hb hby at_24) (pc' := 25) rfl (z := (1 : Int32)) rfl ?_
        refine Go.goto (hb hby at_25) (by decide) (pc' := 29) (by decide) ?_
        refine Go.istore (hb hby at_29) (pc' := 31) rfl (L' := #[.val (.int i0), .val (.int i1), .val (.long i2), .second, .val (.int i3), .val (.int (5 : Int32)), .val (.int (1 : Int32)), .unset, .unset, .unset, .unset, .unset, .unset, .unset, .unset]) rfl ?_
        refine Go.bipush (hb hby at_31) (pc' := 33) rfl (z := (9 : Int32)) rfl ?_
        refine Go.newP (ty := .char) rfl (wd_0 g) (hb hby at_33) (pc' := 35) rfl (by decide) (cap := 9) (by decide) (by decide) (by decide) (by decide) ?_
        intro h1037 a1038 k1039 g1040 l1041 E1042 A1043 S1044 C1045
        have KE1042 := Keep.ofExt E1042; have zE1042 := E1042.1
        have A1043 : Ar Z h1037 a1038 k1039 .char [(.int 0), (.int 0), (.int 0), (.int 0), (.int 0), (.int 0), (.int 0), (.int 0), (.int 0)] := A1043
        refine Go.dup (hb hby at_35) (pc' := 36) rfl rfl ?_
        refine Go.iconst (hb hby at_36) (pc' := 37) rfl (z := (0 : Int32)) rfl ?_
        refine Go.bipush (hb hby at_37) (pc' := 39) rfl (z := (114 : Int32)) rfl ?_
        refine Go.castore A1043 (by decide) (Nat.lt_of_lt_of_eq (by decide : Int32.toNatClampNeg (0 : Int32) < 9) rfl) (by omega) (hb hby at_39) (pc' := 40) rfl ?_
        intro h1046 A1047 z1048 K1049 S1050 C1051
        have A1047 : Ar Z h1046 a1038 k1039 .char [(.int (114 : Int32)), (.int 0), (.int 0), (.int 0), (.int 0), (.int 0), (.int 0), (.int 0), (.int 0)] := A1047
        refine Go.dup (hb hby at_40) (pc' := 41) rfl rfl ?_
        refine Go.iconst (hb hby at_41) (pc' := 42) rfl (z := (1 : Int32)) rfl ?_
        refine Go.bipush (hb hby at_42) (pc' := 44) rfl (z := (111 : Int32)) rfl ?_
        refine Go.castore A1047 (by decide) (Nat.lt_of_lt_of_eq (by decide : Int32.toNatClampNeg (1 : Int32) < 9) rfl) (by omega) (hb hby at_44) (pc' := 45) rfl ?_
        intro h1052 A1053 z1054 K1055 S1056 C1057
        have A1053 : Ar Z h1052 a1038 k1039 .char [(.int (114 : Int32)), (.int (111 : Int32)), (.int 0), (.int 0), (.int 0), (.int 0), (.int 0), (.int 0), (.int 0)] := A1053
        refine Go.dup (hb hby at_45) (pc' := 46) rfl rfl ?_
        refine Go.iconst (hb hby at_46) (pc' := 47) rfl (z := (2 : Int32)) rfl ?_
        refine Go.bipush (hb hby at_47) (pc' := 49) rfl (z := (111 : Int32)) rfl ?_
        refine Go.castore A1053 (by decide) (Nat.lt_of_lt_of_eq (by decide : Int32.toNatClampNeg (2 : Int32) < 9) rfl) (by omega) (hb hby at_49) (pc' := 50) rfl ?_
        intro h1058 A1059 z1060 K1061 S1062 C1063
        have A1059 : Ar Z h1058 a1038 k1039 .char [(.int (114 : Int32)), (.int (111 : Int32)), (.int (111 : Int32)), (.int 0), (.int 0), (.int 0), (.int 0), (.int 0), (.int 0)] := A1059
        refine Go.dup (hb hby at_50) (pc' := 51) rfl rfl ?_
        refine Go.iconst (hb hby at_51) (pc' := 52) rfl (z := (3 : Int32)) rfl ?_
        refine Go.bipush (hb hby at_52) (pc' := 54) rfl (z := (116 : Int32)) rfl ?_
        refine Go.castore A1059 (by decide) (Nat.lt_of_lt_of_eq (by decide : Int32.toNatClampNeg (3 : Int32) < 9) rfl) (by omega) (hb hby at_54) (pc' := 55) rfl ?_
        intro h1064 A1065 z1066 K1067 S1068 C1069
        have A1065 : Ar Z h1064 a1038 k1039 .char [(.int (114 : Int32)), (.int (111 : Int32)), (.int (111 : Int32)), (.int (116 : Int32)), (.int 0), (.int 0), (.int 0), (.int 0), (.int 0)] := A1065
        refine Go.dup (hb hby at_55) (pc' := 56) rfl rfl ?_
        refine Go.iconst (hb hby at_56) (pc' := 57) rfl (z := (4 : Int32)) rfl ?_
        refine Go.bipush (hb hby at_57) (pc' := 59) rfl (z := (115 : Int32)) rfl ?_
        refine Go.castore A1065 (by decide) (Nat.lt_of_lt_of_eq (by decide : Int32.toNatClampNeg (4 : Int32) < 9) rfl) (by omega) (hb hby at_59) (pc' := 60) rfl ?_
        intro h1070 A1071 z1072 K1073 S1074 C1075
        have A1071 : Ar Z h1070 a1038 k1039 .char [(.int (114 : Int32)), (.int (111 : Int32)), (.int (111 : Int32)), (.int (116 : Int32)), (.int (115 : Int32)), (.int 0), (.int 0), (.int 0), (.int 0)] := A1071
        refine Go.dup (hb hby at_60) (pc' := 61) rfl rfl ?_
        refine Go.iconst (hb hby at_61) (pc' := 62) rfl (z := (5 : Int32)) rfl ?_
        refine Go.bipush (hb hby at_62) (pc' := 64) rfl (z := (120 : Int32)) rfl ?_
        refine Go.castore A1071 (by decide) (Nat.lt_of_lt_of_eq (by decide : Int32.toNatClampNeg (5 : Int32) < 9) rfl) (by omega) (hb hby at_64) (pc' := 65) rfl ?_
        intro h1076 A1077 z1078 K1079 S1080 C1081
        have A1077 : Ar Z h1076 a1038 k1039 .char [(.int (114 : Int32)), (.int (111 : Int32)), (.int (111 : Int32)), (.int (116 : Int32)), (.int (115 : Int32)), (.int (120 : Int32)), (.int 0), (.int 0), (.int 0)] := A1077
        refine Go.dup (hb hby at_65) (pc' := 66) rfl rfl ?_
        refine Go.bipush (hb hby at_66) (pc' := 68) rfl (z := (6 : Int32)) rfl ?_
        refine Go.bipush (hb hby at_68) (pc' := 70) rfl (z := (120 : Int32)) rfl ?_
        refine Go.castore A1077 (by decide) (Nat.lt_of_lt_of_eq (by decide : Int32.toNatClampNeg (6 : Int32) < 9) rfl) (by omega) (hb hby at_70) (pc' := 71) rfl ?_
        intro h1082 A1083 z1084 K1085 S1086 C1087
        have A1083 : Ar Z h1082 a1038 k1039 .char [(.int (114 : Int32)), (.int (111 : Int32)), (.int (111 : Int32)), (.int (116 : Int32)), (.int (115 : Int32)), (.int (120 : Int32)), (.int (120 : Int32)), (.int 0), (.int 0)] := A1083
        refine Go.dup (hb hby at_71) (pc' := 72) rfl rfl ?_
        refine Go.bipush (hb hby at_72) (pc' := 74) rfl (z := (7 : Int32)) rfl ?_
        refine Go.bipush (hb hby at_74) (pc' := 76) rfl (z := (120 : Int32)) rfl ?_
        refine Go.castore A1083 (by decide) (Nat.lt_of_lt_of_eq (by decide : Int32.toNatClampNeg (7 : Int32) < 9) rfl) (by omega) (hb hby at_76) (pc' := 77) rfl ?_
        intro h1088 A1089 z1090 K1091 S1092 C1093
        have A1089 : Ar Z h1088 a1038 k1039 .char [(.int (114 : Int32)), (.int (111 : Int32)), (.int (111 : Int32)), (.int (116 : Int32)), (.int (115 : Int32)), (.int (120 : Int32)), (.int (120 : Int32)), (.int (120 : Int32)), (.int 0)] := A1089
        refine Go.dup (hb hby at_77) (pc' := 78) rfl rfl ?_
        refine Go.bipush (hb hby at_78) (pc' := 80) rfl (z := (8 : Int32)) rfl ?_
        refine Go.bipush (hb hby at_80) (pc' := 82) rfl (z := (120 : Int32)) rfl ?_
        refine Go.castore A1089 (by decide) (Nat.lt_of_lt_of_eq (by decide : Int32.toNatClampNeg (8 : Int32) < 9) rfl) (by omega) (hb hby at_82) (pc' := 83) rfl ?_
        intro h1094 A1095 z1096 K1097 S1098 C1099
        have A1095 : Ar Z h1094 a1038 k1039 .char [(.int (114 : Int32)), (.int (111 : Int32)), (.int (111 : Int32)), (.int (116 : Int32)), (.int (115 : Int32)), (.int (120 : Int32)), (.int (120 : Int32)), (.int (120 : Int32)), (.int (120 : Int32))] := A1095
        refine Go.astore (hb hby at_83) (pc' := 85) rfl rfl (L' := #[.val (.int i0), .val (.int i1), .val (.long i2), .second, .val (.int i3), .val (.int (5 : Int32)), .val (.int (1 : Int32)), .val (.ref a1038), .unset, .unset, .unset, .unset, .unset, .unset, .unset]) rfl ?_
        refine Go.bipush (hb hby at_85) (pc' := 87) rfl (z := (9 : Int32)) rfl ?_
        refine Go.newP (ty := .char) rfl (wd_0 g) (hb hby at_87) (pc' := 89) rfl (by decide) (cap := 9) (by decide) (by decide) (by decide) (by decide) ?_
        intro h1100 a1101 k1102 g1103 l1104 E1105 A1106 S1107 C1108
        have KE1105 := Keep.ofExt E1105; have zE1105 := E1105.1
        have A1106 : Ar Z h1100 a1101 k1102 .char [(.int 0), (.int 0), (.int 0), (.int 0), (.int 0), (.int 0), (.int 0), (.int 0), (.int 0)] := A1106
        refine Go.dup (hb hby at_89) (pc' := 90) rfl rfl ?_
        refine Go.iconst (hb hby at_90) (pc' := 91) rfl (z := (0 : Int32)) rfl ?_
        refine Go.bipush (hb hby at_91) (pc' := 93) rfl (z := (101 : Int32)) rfl ?_
        refine Go.castore A1106 (by decide) (Nat.lt_of_lt_of_eq (by decide : Int32.toNatClampNeg (0 : Int32) < 9) rfl) (by omega) (hb hby at_93) (pc' := 94) rfl ?_
        intro h1109 A1110 z1111 K1112 S1113 C1114
        have A1110 : Ar Z h1109 a1101 k1102 .char [(.int (101 : Int32)), (.int 0), (.int 0), (.int 0), (.int 0), (.int 0), (.int 0), (.int 0), (.int 0)] := A1110
        refine Go.dup (hb hby at_94) (pc' := 95) rfl rfl ?_
        refine Go.iconst (hb hby at_95) (pc' := 96) rfl (z := (1 : Int32)) rfl ?_
        refine Go.bipush (hb hby at_96) (pc' := 98) rfl (z := (118 : Int32)) rfl ?_
        refine Go.castore A1110 (by decide) (Nat.lt_of_lt_of_eq (by decide : Int32.toNatClampNeg (1 : Int32) < 9) rfl) (by omega) (hb hby at_98) (pc' := 99) rfl ?_
        intro h1115 A1116 z1117 K1118 S1119 C1120
        have A1116 : Ar Z h1115 a1101 k1102 .char [(.int (101 : Int32)), (.int (118 : Int32)), (.int 0), (.int 0), (.int 0), (.int 0), (.int 0), (.int 0), (.int 0)] := A1116
        refine Go.dup (hb hby at_99) (pc' := 100) rfl rfl ?_
        refine Go.iconst (hb hby at_100) (pc' := 101) rfl (z := (2 : Int32)) rfl ?_
        refine Go.bipush (hb hby at_101) (pc' := 103) rfl (z := (101 : Int32)) rfl ?_
        refine Go.castore A1116 (by decide) (Nat.lt_of_lt_of_eq (by decide : Int32.toNatClampNeg (2 : Int32) < 9) rfl) (by omega) (hb hby at_103) (pc' := 104) rfl ?_
        intro h1121 A1122 z1123 K1124 S1125 C1126
        have A1122 : Ar Z h1121 a1101 k1102 .char [(.int (101 : Int32)), (.int (118 : Int32)), (.int (101 : Int32)), (.int 0), (.int 0), (.int 0), (.int 0), (.int 0), (.int 0)] := A1122
        refine Go.dup (hb hby at_104) (pc' := 105) rfl rfl ?_
        refine Go.iconst (hb hby at_105) (pc' := 106) rfl (z := (3 : Int32)) rfl ?_
        refine Go.bipush (hb hby at_106) (pc' := 108) rfl (z := (114 : Int32)) rfl ?_
        refine Go.castore A1122 (by decide) (Nat.lt_of_lt_of_eq (by decide : Int32.toNatClampNeg (3 : Int32) < 9) rfl) (by omega) (hb hby at_108) (pc' := 109) rfl ?_
        intro h1127 A1128 z1129 K1130 S1131 C1132
        have A1128 : Ar Z h1127 a1101 k1102 .char [(.int (101 : Int32)), (.int (118 : Int32)), (.int (101 : Int32)), (.int (114 : Int32)), (.int 0), (.int 0), (.int 0), (.int 0), (.int 0)] := A1128
        refine Go.dup (hb hby at_109) (pc' := 110) rfl rfl ?_
        refine Go.iconst (hb hby at_110) (pc' := 111) rfl (z := (4 : Int32)) rfl ?_
        refine Go.bipush (hb hby at_111) (pc' := 113) rfl (z := (121 : Int32)) rfl ?_
        refine Go.castore A1128 (by decide) (Nat.lt_of_lt_of_eq (by decide : Int32.toNatClampNeg (4 : Int32) < 9) rfl) (by omega) (hb hby at_113) (pc' := 114) rfl ?_
        intro h1133 A1134 z1135 K1136 S1137 C1138
        have A1134 : Ar Z h1133 a1101 k1102 .char [(.int (101 : Int32)), (.int (118 : Int32)), (.int (101 : Int32)), (.int (114 : Int32)), (.int (121 : Int32)), (.int 0), (.int 0), (.int 0), (.int 0)] := A1134
        refine Go.dup (hb hby at_114) (pc' := 115) rfl rfl ?_
        refine Go.iconst (hb hby at_115) (pc' := 116) rfl (z := (5 : Int32)) rfl ?_
        refine Go.bipush (hb hby at_116) (pc' := 118) rfl (z := (111 : Int32)) rfl ?_
        refine Go.castore A1134 (by decide) (Nat.lt_of_lt_of_eq (by decide : Int32.toNatClampNeg (5 : Int32) < 9) rfl) (by omega) (hb hby at_118) (pc' := 119) rfl ?_
        intro h1139 A1140 z1141 K1142 S1143 C1144
        have A1140 : Ar Z h1139 a1101 k1102 .char [(.int (101 : Int32)), (.int (118 : Int32)), (.int (101 : Int32)), (.int (114 : Int32)), (.int (121 : Int32)), (.int (111 : Int32)), (.int 0), (.int 0), (.int 0)] := A1140
        refine Go.dup (hb hby at_119) (pc' := 120) rfl rfl ?_
        refine Go.bipush (hb hby at_120) (pc' := 122) rfl (z := (6 : Int32)) rfl ?_
        refine Go.bipush (hb hby at_122) (pc' := 124) rfl (z := (110 : Int32)) rfl ?_
        refine Go.castore A1140 (by decide) (Nat.lt_of_lt_of_eq (by decide : Int32.toNatClampNeg (6 : Int32) < 9) rfl) (by omega) (hb hby at_124) (pc' := 125) rfl ?_
        intro h1145 A1146 z1147 K1148 S1149 C1150
        have A1146 : Ar Z h1145 a1101 k1102 .char [(.int (101 : Int32)), (.int (118 : Int32)), (.int (101 : Int32)), (.int (114 : Int32)), (.int (121 : Int32)), (.int (111 : Int32)), (.int (110 : Int32)), (.int 0), (.int 0)] := A1146
        refine Go.dup (hb hby at_125) (pc' := 126) rfl rfl ?_
        refine Go.bipush (hb hby at_126) (pc' := 128) rfl (z := (7 : Int32)) rfl ?_
        refine Go.bipush (hb hby at_128) (pc' := 130) rfl (z := (101 : Int32)) rfl ?_
        refine Go.castore A1146 (by decide) (Nat.lt_of_lt_of_eq (by decide : Int32.toNatClampNeg (7 : Int32) < 9) rfl) (by omega) (hb hby at_130) (pc' := 131) rfl ?_
        intro h1151 A1152 z1153 K1154 S1155 C1156
        have A1152 : Ar Z h1151 a1101 k1102 .char [(.int (101 : Int32)), (.int (118 : Int32)), (.int (101 : Int32)), (.int (114 : Int32)), (.int (121 : Int32)), (.int (111 : Int32)), (.int (110 : Int32)), (.int (101 : Int32)), (.int 0)] := A1152
        refine Go.dup (hb hby at_131) (pc' := 132) rfl rfl ?_
        refine Go.bipush (hb hby at_132) (pc' := 134) rfl (z := (8 : Int32)) rfl ?_
        refine Go.bipush (hb hby at_134) (pc' := 136) rfl (z := (115 : Int32)) rfl ?_
        refine Go.castore A1152 (by decide) (Nat.lt_of_lt_of_eq (by decide : Int32.toNatClampNeg (8 : Int32) < 9) rfl) (by omega) (hb hby at_136) (pc' := 137) rfl ?_
        intro h1157 A1158 z1159 K1160 S1161 C1162
        have A1158 : Ar Z h1157 a1101 k1102 .char [(.int (101 : Int32)), (.int (118 : Int32)), (.int (101 : Int32)), (.int (114 : Int32)), (.int (121 : Int32)), (.int (111 : Int32)), (.int (110 : Int32)), (.int (101 : Int32)), (.int (115 : Int32))] := A1158
        refine Go.astore (hb hby at_137) (pc' := 139) rfl rfl (L' := #[.val (.int i0), .val (.int i1), .val (.long i2), .second, .val (.int i3), .val (.int (5 : Int32)), .val (.int (1 : Int32)), .val (.ref a1038), .val (.ref a1101), .unset, .unset, .unset, .unset, .unset, .unset]) rfl ?_
        refine Go.iload (hb hby at_139) (pc' := 141) rfl rfl ?_
        refine Go.ifN (hb hby at_141) (pc' := 144) rfl (show ¬ ((1 : Int32) = (0 : Int32)) from by decide) ?_
        refine Go.aload (hb hby at_144) (pc' := 146) rfl rfl rfl ?_
        refine Go.goto (hb hby at_146) (by decide) (pc' := 151) (by decide) ?_
        refine Go.astore (hb hby at_151) (pc' := 153) rfl rfl (L' := #[.val (.int i0), .val (.int i1), .val (.long i2), .second, .val (.int i3), .val (.int (5 : Int32)), .val (.int (1 : Int32)), .val (.ref a1038), .val (.ref a1101), .val (.ref a1038), .unset, .unset, .unset, .unset, .unset]) rfl ?_
        refine Go.bipush (hb hby at_153) (pc' := 155) rfl (z := (9 : Int32)) rfl ?_
        refine Go.newP (ty := .char) rfl (wd_0 g) (hb hby at_155) (pc' := 157) rfl (by decide) (cap := 9) (by decide) (by decide) (by decide) (by decide) ?_
        intro h1163 a1164 k1165 g1166 l1167 E1168 A1169 S1170 C1171
        have KE1168 := Keep.ofExt E1168; have zE1168 := E1168.1
        have A1169 : Ar Z h1163 a1164 k1165 .char [(.int 0), (.int 0), (.int 0), (.int 0), (.int 0), (.int 0), (.int 0), (.int 0), (.int 0)] := A1169
        refine Go.astore (hb hby at_157) (pc' := 159) rfl rfl (L' := #[.val (.int i0), .val (.int i1), .val (.long i2), .second, .val (.int i3), .val (.int (5 : Int32)), .val (.int (1 : Int32)), .val (.ref a1038), .val (.ref a1101), .val (.ref a1038), .val (.ref a1164), .unset, .unset, .unset, .unset]) rfl ?_
        refine Go.aload (hb hby at_159) (pc' := 161) rfl rfl rfl ?_
        refine Go.iconst (hb hby at_161) (pc' := 162) rfl (z := (0 : Int32)) rfl ?_
        refine Go.iloadN (hb hby at_162) (pc' := 163) rfl rfl ?_
        refine Go.iconst (hb hby at_163) (pc' := 164) rfl (z := (0 : Int32)) rfl ?_
        refine Go.aload (hb hby at_164) (pc' := 166) rfl rfl rfl ?_
        refine Go.iconst (hb hby at_166) (pc' := 167) rfl (z := (0 : Int32)) rfl ?_
        have f1172 : Ar Z h1163 a1038 k1039 .char [(.int (114 : Int32)), (.int (111 : Int32)), (.int (111 : Int32)), (.int (116 : Int32)), (.int (115 : Int32)), (.int (120 : Int32)), (.int (120 : Int32)), (.int (120 : Int32)), (.int (120 : Int32))] := (((((((((((A1095.keep KE1105 nin0).keep K1112 (ninS (neN (by omega)) nin0)).keep K1118 (ninS (neN (by omega)) nin0)).keep K1124 (ninS (neN (by omega)) nin0)).keep K1130 (ninS (neN (by omega)) nin0)).keep K1136 (ninS (neN (by omega)) nin0)).keep K1142 (ninS (neN (by omega)) nin0)).keep K1148 (ninS (neN (by omega)) nin0)).keep K1154 (ninS (neN (by omega)) nin0)).keep K1160 (ninS (neN (by omega)) nin0)).keep KE1168 nin0)
        refine Go.caload f1172 (v := (.int (114 : Int32))) (by decide) rfl (hb hby at_167) (pc' := 168) rfl ?_
        refine Go.lloadN (hb hby at_168) (pc' := 169) rfl rfl ?_
        refine Go.iload (hb hby at_169) (pc' := 171) rfl rfl ?_
        refine Go.callS (c_ch (l := l) (nw := nw) g h1163 i1 (0 : Int32) (114 : Int32) i2 i3 (by decide) (by omega)) hown (wd_1 g) (wd_2 g) (wd_4 g) (wd_3 g) (by decide) (argsL := [(.int i1), (.int (0 : Int32)), (.int (114 : Int32)), (.long i2), (.int i3)]) (lenOf pd_6 rfl) rfl (by rw [hml]; rfl) (W := 2) rfl (hb hby at_171) (pc' := 174) rfl (by decide) (by decide) (by decide) (by decide) all0 ?_
        rintro _ vm1173 h1173 ⟨z_1173, rfl, K1173, p1173_0⟩ C1173
        have z1173 := K1173.1
        -- pc 174
        have f1174 : Ar Z h1173 a1164 k1165 .char [(.int 0), (.int 0), (.int 0), (.int 0), (.int 0), (.int 0), (.int 0), (.int 0), (.int 0)] := (A1169.keep K1173 nin0)
        refine Go.castore f1174 (by decide) (Nat.lt_of_lt_of_eq (by decide : Int32.toNatClampNeg (0 : Int32) < 9) rfl) (by omega) (hb hby at_174) (pc' := 175) rfl ?_
        intro h1175 A1176 z1177 K1178 S1179 C1180
        rw [nch p1173_0] at A1176
        have A1176 : Ar Z h1175 a1164 k1165 .char [(.int z_1173), (.int 0), (.int 0), (.int 0), (.int 0), (.int 0), (.int 0), (.int 0), (.int 0)] := A1176
        refine Go.aload (hb hby at_175) (pc' := 177) rfl rfl rfl ?_
        refine Go.iconst (hb hby at_177) (pc' := 178) rfl (z := (1 : Int32)) rfl ?_
        refine Go.iloadN (hb hby at_178) (pc' := 179) rfl rfl ?_
        refine Go.iconst (hb hby at_179) (pc' := 180) rfl (z := (1 : Int32)) rfl ?_
        refine Go.aload (hb hby at_180) (pc' := 182) rfl rfl rfl ?_
        refine Go.iconst (hb hby at_182) (pc' := 183) rfl (z := (1 : Int32)) rfl ?_
        have f1181 : Ar Z h1175 a1038 k1039 .char [(.int (114 : Int32)), (.int (111 : Int32)), (.int (111 : Int32)), (.int (116 : Int32)), (.int (115 : Int32)), (.int (120 : Int32)), (.int (120 : Int32)), (.int (120 : Int32)), (.int (120 : Int32))] := ((f1172.keep K1173 nin0).keep K1178 (ninS (neN (by omega)) nin0))
        refine Go.caload f1181 (v := (.int (111 : Int32))) (by decide) rfl (hb hby at_183) (pc' := 184) rfl ?_
        refine Go.lloadN (hb hby at_184) (pc' := 185) rfl rfl ?_
        refine Go.iload (hb hby at_185) (pc' := 187) rfl rfl ?_
        refine Go.callS (c_ch (l := l) (nw := nw) g h1175 i1 (1 : Int32) (111 : Int32) i2 i3 (by decide) (by omega)) hown (wd_1 g) (wd_2 g) (wd_4 g) (wd_3 g) (by decide) (argsL := [(.int i1), (.int (1 : Int32)), (.int (111 : Int32)), (.long i2), (.int i3)]) (lenOf pd_6 rfl) rfl (by rw [hml]; rfl) (W := 2) rfl (hb hby at_187) (pc' := 190) rfl (by decide) (by decide) (by decide) (by decide) all0 ?_
        rintro _ vm1182 h1182 ⟨z_1182, rfl, K1182, p1182_0⟩ C1182
        have z1182 := K1182.1
        -- pc 190
        have f1183 : Ar Z h1182 a1164 k1165 .char [(.int z_1173), (.int 0), (.int 0), (.int 0), (.int 0), (.int 0), (.int 0), (.int 0), (.int 0)] := (A1176.keep K1182 nin0)
        refine Go.castore f1183 (by decide) (Nat.lt_of_lt_of_eq (by decide : Int32.toNatClampNeg (1 : Int32) < 9) rfl) (by omega) (hb hby at_190) (pc' := 191) rfl ?_
        intro h1184 A1185 z1186 K1187 S1188 C1189
        rw [nch p1182_0] at A1185
        have A1185 : Ar Z h1184 a1164 k1165 .char [(.int z_1173), (.int z_1182), (.int 0), (.int 0), (.int 0), (.int 0), (.int 0), (.int 0), (.int 0)] := A1185
        refine Go.aload (hb hby at_191) (pc' := 193) rfl rfl rfl ?_
        refine Go.iconst (hb hby at_193) (pc' := 194) rfl (z := (2 : Int32)) rfl ?_
        refine Go.iloadN (hb hby at_194) (pc' := 195) rfl rfl ?_
        refine Go.iconst (hb hby at_195) (pc' := 196) rfl (z := (2 : Int32)) rfl ?_
        refine Go.aload (hb hby at_196) (pc' := 198) rfl rfl rfl ?_
        refine Go.iconst (hb hby at_198) (pc' := 199) rfl (z := (2 : Int32)) rfl ?_
        have f1190 : Ar Z h1184 a1038 k1039 .char [(.int (114 : Int32)), (.int (111 : Int32)), (.int (111 : Int32)), (.int (116 : Int32)), (.int (115 : Int32)), (.int (120 : Int32)), (.int (120 : Int32)), (.int (120 : Int32)), (.int (120 : Int32))] := ((f1181.keep K1182 nin0).keep K1187 (ninS (neN (by omega)) nin0))
        refine Go.caload f1190 (v := (.int (111 : Int32))) (by decide) rfl (hb hby at_199) (pc' := 200) rfl ?_
        refine Go.lloadN (hb hby at_200) (pc' := 201) rfl rfl ?_
        refine Go.iload (hb hby at_201) (pc' := 203) rfl rfl ?_
        refine Go.callS (c_ch (l := l) (nw := nw) g h1184 i1 (2 : Int32) (111 : Int32) i2 i3 (by decide) (by omega)) hown (wd_1 g) (wd_2 g) (wd_4 g) (wd_3 g) (by decide) (argsL := [(.int i1), (.int (2 : Int32)), (.int (111 : Int32)), (.long i2), (.int i3)]) (lenOf pd_6 rfl) rfl (by rw [hml]; rfl) (W := 2) rfl (hb hby at_203) (pc' := 206) rfl (by decide) (by decide) (by decide) (by decide) all0 ?_
        rintro _ vm1191 h1191 ⟨z_1191, rfl, K1191, p1191_0⟩ C1191
        have z1191 := K1191.1
        -- pc 206
        have f1192 : Ar Z h1191 a1164 k1165 .char [(.int z_1173), (.int z_1182), (.int 0), (.int 0), (.int 0), (.int 0), (.int 0), (.int 0), (.int 0)] := (A1185.keep K1191 nin0)
        refine Go.castore f1192 (by decide) (Nat.lt_of_lt_of_eq (by decide : Int32.toNatClampNeg (2 : Int32) < 9) rfl) (by omega) (hb hby at_206) (pc' := 207) rfl ?_
        intro h1193 A1194 z1195 K1196 S1197 C1198
        rw [nch p1191_0] at A1194
        have A1194 : Ar Z h1193 a1164 k1165 .char [(.int z_1173), (.int z_1182), (.int z_1191), (.int 0), (.int 0), (.int 0), (.int 0), (.int 0), (.int 0)] := A1194
        refine Go.aload (hb hby at_207) (pc' := 209) rfl rfl rfl ?_
        refine Go.iconst (hb hby at_209) (pc' := 210) rfl (z := (3 : Int32)) rfl ?_
        refine Go.iloadN (hb hby at_210) (pc' := 211) rfl rfl ?_
        refine Go.iconst (hb hby at_211) (pc' := 212) rfl (z := (3 : Int32)) rfl ?_
        refine Go.aload (hb hby at_212) (pc' := 214) rfl rfl rfl ?_
        refine Go.iconst (hb hby at_214) (pc' := 215) rfl (z := (3 : Int32)) rfl ?_
        have f1199 : Ar Z h1193 a1038 k1039 .char [(.int (114 : Int32)), (.int (111 : Int32)), (.int (111 : Int32)), (.int (116 : Int32)), (.int (115 : Int32)), (.int (120 : Int32)), (.int (120 : Int32)), (.int (120 : Int32)), (.int (120 : Int32))] := ((f1190.keep K1191 nin0).keep K1196 (ninS (neN (by omega)) nin0))
        refine Go.caload f1199 (v := (.int (116 : Int32))) (by decide) rfl (hb hby at_215) (pc' := 216) rfl ?_
        refine Go.lloadN (hb hby at_216) (pc' := 217) rfl rfl ?_
        refine Go.iload (hb hby at_217) (pc' := 219) rfl rfl ?_
        refine Go.callS (c_ch (l := l) (nw := nw) g h1193 i1 (3 : Int32) (116 : Int32) i2 i3 (by decide) (by omega)) hown (wd_1 g) (wd_2 g) (wd_4 g) (wd_3 g) (by decide) (argsL := [(.int i1), (.int (3 : Int32)), (.int (116 : Int32)), (.long i2), (.int i3)]) (lenOf pd_6 rfl) rfl (by rw [hml]; rfl) (W := 2) rfl (hb hby at_219) (pc' := 222) rfl (by decide) (by decide) (by decide) (by decide) all0 ?_
        rintro _ vm1200 h1200 ⟨z_1200, rfl, K1200, p1200_0⟩ C1200
        have z1200 := K1200.1
        -- pc 222
        have f1201 : Ar Z h1200 a1164 k1165 .char [(.int z_1173), (.int z_1182), (.int z_1191), (.int 0), (.int 0), (.int 0), (.int 0), (.int 0), (.int 0)] := (A1194.keep K1200 nin0)
        refine Go.castore f1201 (by decide) (Nat.lt_of_lt_of_eq (by decide : Int32.toNatClampNeg (3 : Int32) < 9) rfl) (by omega) (hb hby at_222) (pc' := 223) rfl ?_
        intro h1202 A1203 z1204 K1205 S1206 C1207
        rw [nch p1200_0] at A1203
        have A1203 : Ar Z h1202 a1164 k1165 .char [(.int z_1173), (.int z_1182), (.int z_1191), (.int z_1200), (.int 0), (.int 0), (.int 0), (.int 0), (.int 0)] := A1203
        refine Go.aload (hb hby at_223) (pc' := 225) rfl rfl rfl ?_
        refine Go.iconst (hb hby at_225) (pc' := 226) rfl (z := (4 : Int32)) rfl ?_
        refine Go.iloadN (hb hby at_226) (pc' := 227) rfl rfl ?_
        refine Go.iconst (hb hby at_227) (pc' := 228) rfl (z := (4 : Int32)) rfl ?_
        refine Go.aload (hb hby at_228) (pc' := 230) rfl rfl rfl ?_
        refine Go.iconst (hb hby at_230) (pc' := 231) rfl (z := (4 : Int32)) rfl ?_
        have f1208 : Ar Z h1202 a1038 k1039 .char [(.int (114 : Int32)), (.int (111 : Int32)), (.int (111 : Int32)), (.int (116 : Int32)), (.int (115 : Int32)), (.int (120 : Int32)), (.int (120 : Int32)), (.int (120 : Int32)), (.int (120 : Int32))] := ((f1199.keep K1200 nin0).keep K1205 (ninS (neN (by omega)) nin0))
        refine Go.caload f1208 (v := (.int (115 : Int32))) (by decide) rfl (hb hby at_231) (pc' := 232) rfl ?_
        refine Go.lloadN (hb hby at_232) (pc' := 233) rfl rfl ?_
        refine Go.iload (hb hby at_233) (pc' := 235) rfl rfl ?_
        refine Go.callS (c_ch (l := l) (nw := nw) g h1202 i1 (4 : Int32) (115 : Int32) i2 i3 (by decide) (by omega)) hown (wd_1 g) (wd_2 g) (wd_4 g) (wd_3 g) (by decide) (argsL := [(.int i1), (.int (4 : Int32)), (.int (115 : Int32)), (.long i2), (.int i3)]) (lenOf pd_6 rfl) rfl (by rw [hml]; rfl) (W := 2) rfl (hb hby at_235) (pc' := 238) rfl (by decide) (by decide) (by decide) (by decide) all0 ?_
        rintro _ vm1209 h1209 ⟨z_1209, rfl, K1209, p1209_0⟩ C1209
        have z1209 := K1209.1
        -- pc 238
        have f1210 : Ar Z h1209 a1164 k1165 .char [(.int z_1173), (.int z_1182), (.int z_1191), (.int z_1200), (.int 0), (.int 0), (.int 0), (.int 0), (.int 0)] := (A1203.keep K1209 nin0)
        refine Go.castore f1210 (by decide) (Nat.lt_of_lt_of_eq (by decide : Int32.toNatClampNeg (4 : Int32) < 9) rfl) (by omega) (hb hby at_238) (pc' := 239) rfl ?_
        intro h1211 A1212 z1213 K1214 S1215 C1216
        rw [nch p1209_0] at A1212
        have A1212 : Ar Z h1211 a1164 k1165 .char [(.int z_1173), (.int z_1182), (.int z_1191), (.int z_1200), (.int z_1209), (.int 0), (.int 0), (.int 0), (.int 0)] := A1212
        refine Go.aload (hb hby at_239) (pc' := 241) rfl rfl rfl ?_
        refine Go.iconst (hb hby at_241) (pc' := 242) rfl (z := (5 : Int32)) rfl ?_
        refine Go.iloadN (hb hby at_242) (pc' := 243) rfl rfl ?_
        refine Go.iconst (hb hby at_243) (pc' := 244) rfl (z := (5 : Int32)) rfl ?_
        refine Go.aload (hb hby at_244) (pc' := 246) rfl rfl rfl ?_
        refine Go.iconst (hb hby at_246) (pc' := 247) rfl (z := (5 : Int32)) rfl ?_
        have f1217 : Ar Z h1211 a1038 k1039 .char [(.int (114 : Int32)), (.int (111 : Int32)), (.int (111 : Int32)), (.int (116 : Int32)), (.int (115 : Int32)), (.int (120 : Int32)), (.int (120 : Int32)), (.int (120 : Int32)), (.int (120 : Int32))] := ((f1208.keep K1209 nin0).keep K1214 (ninS (neN (by omega)) nin0))
        refine Go.caload f1217 (v := (.int (120 : Int32))) (by decide) rfl (hb hby at_247) (pc' := 248) rfl ?_
        refine Go.lloadN (hb hby at_248) (pc' := 249) rfl rfl ?_
        refine Go.iload (hb hby at_249) (pc' := 251) rfl rfl ?_
        refine Go.callS (c_ch (l := l) (nw := nw) g h1211 i1 (5 : Int32) (120 : Int32) i2 i3 (by decide) (by omega)) hown (wd_1 g) (wd_2 g) (wd_4 g) (wd_3 g) (by decide) (argsL := [(.int i1), (.int (5 : Int32)), (.int (120 : Int32)), (.long i2), (.int i3)]) (lenOf pd_6 rfl) rfl (by rw [hml]; rfl) (W := 2) rfl (hb hby at_251) (pc' := 254) rfl (by decide) (by decide) (by decide) (by decide) all0 ?_
        rintro _ vm1218 h1218 ⟨z_1218, rfl, K1218, p1218_0⟩ C1218
        have z1218 := K1218.1
        -- pc 254
        have f1219 : Ar Z h1218 a1164 k1165 .char [(.int z_1173), (.int z_1182), (.int z_1191), (.int z_1200), (.int z_1209), (.int 0), (.int 0), (.int 0), (.int 0)] := (A1212.keep K1218 nin0)
        refine Go.castore f1219 (by decide) (Nat.lt_of_lt_of_eq (by decide : Int32.toNatClampNeg (5 : Int32) < 9) rfl) (by omega) (hb hby at_254) (pc' := 255) rfl ?_
        intro h1220 A1221 z1222 K1223 S1224 C1225
        rw [nch p1218_0] at A1221
        have A1221 : Ar Z h1220 a1164 k1165 .char [(.int z_1173), (.int z_1182), (.int z_1191), (.int z_1200), (.int z_1209), (.int z_1218), (.int 0), (.int 0), (.int 0)] := A1221
        refine Go.aload (hb hby at_255) (pc' := 257) rfl rfl rfl ?_
        refine Go.bipush (hb hby at_257) (pc' := 259) rfl (z := (6 : Int32)) rfl ?_
        refine Go.iloadN (hb hby at_259) (pc' := 260) rfl rfl ?_
        refine Go.bipush (hb hby at_260) (pc' := 262) rfl (z := (6 : Int32)) rfl ?_
        refine Go.aload (hb hby at_262) (pc' := 264) rfl rfl rfl ?_
        refine Go.bipush (hb hby at_264) (pc' := 266) rfl (z := (6 : Int32)) rfl ?_
        have f1226 : Ar Z h1220 a1038 k1039 .char [(.int (114 : Int32)), (.int (111 : Int32)), (.int (111 : Int32)), (.int (116 : Int32)), (.int (115 : Int32)), (.int (120 : Int32)), (.int (120 : Int32)), (.int (120 : Int32)), (.int (120 : Int32))] := ((f1217.keep K1218 nin0).keep K1223 (ninS (neN (by omega)) nin0))
        refine Go.caload f1226 (v := (.int (120 : Int32))) (by decide) rfl (hb hby at_266) (pc' := 267) rfl ?_
        refine Go.lloadN (hb hby at_267) (pc' := 268) rfl rfl ?_
        refine Go.iload (hb hby at_268) (pc' := 270) rfl rfl ?_
        refine Go.callS (c_ch (l := l) (nw := nw) g h1220 i1 (6 : Int32) (120 : Int32) i2 i3 (by decide) (by omega)) hown (wd_1 g) (wd_2 g) (wd_4 g) (wd_3 g) (by decide) (argsL := [(.int i1), (.int (6 : Int32)), (.int (120 : Int32)), (.long i2), (.int i3)]) (lenOf pd_6 rfl) rfl (by rw [hml]; rfl) (W := 2) rfl (hb hby at_270) (pc' := 273) rfl (by decide) (by decide) (by decide) (by decide) all0 ?_
        rintro _ vm1227 h1227 ⟨z_1227, rfl, K1227, p1227_0⟩ C1227
        have z1227 := K1227.1
        -- pc 273
        have f1228 : Ar Z h1227 a1164 k1165 .char [(.int z_1173), (.int z_1182), (.int z_1191), (.int z_1200), (.int z_1209), (.int z_1218), (.int 0), (.int 0), (.int 0)] := (A1221.keep K1227 nin0)
        refine Go.castore f1228 (by decide) (Nat.lt_of_lt_of_eq (by decide : Int32.toNatClampNeg (6 : Int32) < 9) rfl) (by omega) (hb hby at_273) (pc' := 274) rfl ?_
        intro h1229 A1230 z1231 K1232 S1233 C1234
        rw [nch p1227_0] at A1230
        have A1230 : Ar Z h1229 a1164 k1165 .char [(.int z_1173), (.int z_1182), (.int z_1191), (.int z_1200), (.int z_1209), (.int z_1218), (.int z_1227), (.int 0), (.int 0)] := A1230
        refine Go.aload (hb hby at_274) (pc' := 276) rfl rfl rfl ?_
        refine Go.bipush (hb hby at_276) (pc' := 278) rfl (z := (7 : Int32)) rfl ?_
        refine Go.iloadN (hb hby at_278) (pc' := 279) rfl rfl ?_
        refine Go.bipush (hb hby at_279) (pc' := 281) rfl (z := (7 : Int32)) rfl ?_
        refine Go.aload (hb hby at_281) (pc' := 283) rfl rfl rfl ?_
        refine Go.bipush (hb hby at_283) (pc' := 285) rfl (z := (7 : Int32)) rfl ?_
        have f1235 : Ar Z h1229 a1038 k1039 .char [(.int (114 : Int32)), (.int (111 : Int32)), (.int (111 : Int32)), (.int (116 : Int32)), (.int (115 : Int32)), (.int (120 : Int32)), (.int (120 : Int32)), (.int (120 : Int32)), (.int (120 : Int32))] := ((f1226.keep K1227 nin0).keep K1232 (ninS (neN (by omega)) nin0))
        refine Go.caload f1235 (v := (.int (120 : Int32))) (by decide) rfl (hb hby at_285) (pc' := 286) rfl ?_
        refine Go.lloadN (hb hby at_286) (pc' := 287) rfl rfl ?_
        refine Go.iload (hb hby at_287) (pc' := 289) rfl rfl ?_
        refine Go.callS (c_ch (l := l) (nw := nw) g h1229 i1 (7 : Int32) (120 : Int32) i2 i3 (by decide) (by omega)) hown (wd_1 g) (wd_2 g) (wd_4 g) (wd_3 g) (by decide) (argsL := [(.int i1), (.int (7 : Int32)), (.int (120 : Int32)), (.long i2), (.int i3)]) (lenOf pd_6 rfl) rfl (by rw [hml]; rfl) (W := 2) rfl (hb hby at_289) (pc' := 292) rfl (by decide) (by decide) (by decide) (by decide) all0 ?_
        rintro _ vm1236 h1236 ⟨z_1236, rfl, K1236, p1236_0⟩ C1236
        have z1236 := K1236.1
        -- pc 292
        have f1237 : Ar Z h1236 a1164 k1165 .char [(.int z_1173), (.int z_1182), (.int z_1191), (.int z_1200), (.int z_1209), (.int z_1218), (.int z_1227), (.int 0), (.int 0)] := (A1230.keep K1236 nin0)
        refine Go.castore f1237 (by decide) (Nat.lt_of_lt_of_eq (by decide : Int32.toNatClampNeg (7 : Int32) < 9) rfl) (by omega) (hb hby at_292) (pc' := 293) rfl ?_
        intro h1238 A1239 z1240 K1241 S1242 C1243
        rw [nch p1236_0] at A1239
        have A1239 : Ar Z h1238 a1164 k1165 .char [(.int z_1173), (.int z_1182), (.int z_1191), (.int z_1200), (.int z_1209), (.int z_1218), (.int z_1227), (.int z_1236), (.int 0)] := A1239
        refine Go.aload (hb hby at_293) (pc' := 295) rfl rfl rfl ?_
        refine Go.bipush (hb hby at_295) (pc' := 297) rfl (z := (8 : Int32)) rfl ?_
        refine Go.iloadN (hb hby at_297) (pc' := 298) rfl rfl ?_
        refine Go.bipush (hb hby at_298) (pc' := 300) rfl (z := (8 : Int32)) rfl ?_
        refine Go.aload (hb hby at_300) (pc' := 302) rfl rfl rfl ?_
        refine Go.bipush (hb hby at_302) (pc' := 304) rfl (z := (8 : Int32)) rfl ?_
        have f1244 : Ar Z h1238 a1038 k1039 .char [(.int (114 : Int32)), (.int (111 : Int32)), (.int (111 : Int32)), (.int (116 : Int32)), (.int (115 : Int32)), (.int (120 : Int32)), (.int (120 : Int32)), (.int (120 : Int32)), (.int (120 : Int32))] := ((f1235.keep K1236 nin0).keep K1241 (ninS (neN (by omega)) nin0))
        refine Go.caload f1244 (v := (.int (120 : Int32))) (by decide) rfl (hb hby at_304) (pc' := 305) rfl ?_
        refine Go.lloadN (hb hby at_305) (pc' := 306) rfl rfl ?_
        refine Go.iload (hb hby at_306) (pc' := 308) rfl rfl ?_
        refine Go.callS (c_ch (l := l) (nw := nw) g h1238 i1 (8 : Int32) (120 : Int32) i2 i3 (by decide) (by omega)) hown (wd_1 g) (wd_2 g) (wd_4 g) (wd_3 g) (by decide) (argsL := [(.int i1), (.int (8 : Int32)), (.int (120 : Int32)), (.long i2), (.int i3)]) (lenOf pd_6 rfl) rfl (by rw [hml]; rfl) (W := 2) rfl (hb hby at_308) (pc' := 311) rfl (by decide) (by decide) (by decide) (by decide) all0 ?_
        rintro _ vm1245 h1245 ⟨z_1245, rfl, K1245, p1245_0⟩ C1245
        have z1245 := K1245.1
        -- pc 311
        have f1246 : Ar Z h1245 a1164 k1165 .char [(.int z_1173), (.int z_1182), (.int z_1191), (.int z_1200), (.int z_1209), (.int z_1218), (.int z_1227), (.int z_1236), (.int 0)] := (A1239.keep K1245 nin0)
        refine Go.castore f1246 (by decide) (Nat.lt_of_lt_of_eq (by decide : Int32.toNatClampNeg (8 : Int32) < 9) rfl) (by omega) (hb hby at_311) (pc' := 312) rfl ?_
        intro h1247 A1248 z1249 K1250 S1251 C1252
        rw [nch p1245_0] at A1248
        have A1248 : Ar Z h1247 a1164 k1165 .char [(.int z_1173), (.int z_1182), (.int z_1191), (.int z_1200), (.int z_1209), (.int z_1218), (.int z_1227), (.int z_1236), (.int z_1245)] := A1248
        refine Go.iload (hb hby at_312) (pc' := 314) rfl rfl ?_
        refine Go.ifY (hb hby at_314) (by decide) (pc' := 323) (by decide) (show ¬ (5 : Int32) = (0 : Int32) from by decide) ?_
        refine Go.iload (hb hby at_323) (pc' := 325) rfl rfl ?_
        refine Go.iconst (hb hby at_325) (pc' := 326) rfl (z := (1 : Int32)) rfl ?_
        refine Go.icmpY (hb hby at_326) (by decide) (pc' := 344) (by decide) (show ¬ (5 : Int32) = (1 : Int32) from by decide) ?_
        refine Go.iload (hb hby at_344) (pc' := 346) rfl rfl ?_
        refine Go.iconst (hb hby at_346) (pc' := 347) rfl (z := (2 : Int32)) rfl ?_
        refine Go.icmpY (hb hby at_347) (by decide) (pc' := 393) (by decide) (show ¬ (5 : Int32) = (2 : Int32) from by decide) ?_
        refine Go.iload (hb hby at_393) (pc' := 395) rfl rfl ?_
        refine Go.iconst (hb hby at_395) (pc' := 396) rfl (z := (3 : Int32)) rfl ?_
        refine Go.icmpY (hb hby at_396) (by decide) (pc' := 475) (by decide) (show ¬ (5 : Int32) = (3 : Int32) from by decide) ?_
        refine Go.iload (hb hby at_475) (pc' := 477) rfl rfl ?_
        refine Go.iconst (hb hby at_477) (pc' := 478) rfl (z := (4 : Int32)) rfl ?_
        refine Go.icmpY (hb hby at_478) (by decide) (pc' := 517) (by decide) (show ¬ (5 : Int32) = (4 : Int32) from by decide) ?_
        refine Go.iload (hb hby at_517) (pc' := 519) rfl rfl ?_
        refine Go.iconst (hb hby at_519) (pc' := 520) rfl (z := (5 : Int32)) rfl ?_
        refine Go.icmpN (hb hby at_520) (pc' := 523) rfl (show ¬ (¬ (5 : Int32) = (5 : Int32)) from by decide) ?_
        refine Go.newO hown (wd_24 g) (wd_12 g) (wd_11 g) (hb hby at_523) (pc' := 526) rfl (by decide) (by decide) ?_
        intro h1253 a1254 g1255 l1256 E1257 X1258 D1259 S1260 C1261
        have KE1257 := Keep.ofExt E1257; have zE1257 := E1257.1
        have f1262 : Fld Z h1253 a1254 "java/lang/String" "value" "[B" .null := D1259 (Or.inr (wd_14 g)) (ty := (.array .byte)) (by decide)
        have f1263 : Fld Z h1253 a1254 "java/lang/String" "coder" "B" (.int 0) := D1259 (Or.inr (wd_15 g)) (ty := .byte) (by decide)
        refine Go.dup (hb hby at_526) (pc' := 527) rfl rfl ?_
        refine Go.iconst (hb hby at_527) (pc' := 528) rfl (z := (5 : Int32)) rfl ?_
        refine Go.newP (ty := .char) rfl (wd_0 g) (hb hby at_528) (pc' := 530) rfl (by decide) (cap := 5) (by decide) (by decide) (by decide) (by decide) ?_
        intro h1264 a1265 k1266 g1267 l1268 E1269 A1270 S1271 C1272
        have KE1269 := Keep.ofExt E1269; have zE1269 := E1269.1
        have A1270 : Ar Z h1264 a1265 k1266 .char [(.int 0), (.int 0), (.int 0), (.int 0), (.int 0)] := A1270
        refine Go.dup (hb hby at_530) (pc' := 531) rfl rfl ?_
        refine Go.iconst (hb hby at_531) (pc' := 532) rfl (z := (0 : Int32)) rfl ?_
        refine Go.aload (hb hby at_532) (pc' := 534) rfl rfl rfl ?_
        refine Go.iconst (hb hby at_534) (pc' := 535) rfl (z := (0 : Int32)) rfl ?_
        have f1273 : Ar Z h1264 a1164 k1165 .char [(.int z_1173), (.int z_1182), (.int z_1191), (.int z_1200), (.int z_1209), (.int z_1218), (.int z_1227), (.int z_1236), (.int z_1245)] := ((A1248.keep KE1257 nin0).keep KE1269 nin0)
        refine Go.caload f1273 (v := (.int z_1173)) (by decide) rfl (hb hby at_535) (pc' := 536) rfl ?_
        refine Go.castore A1270 (by decide) (Nat.lt_of_lt_of_eq (by decide : Int32.toNatClampNeg (0 : Int32) < 5) rfl) (by omega) (hb hby at_536) (pc' := 537) rfl ?_
        intro h1274 A1275 z1276 K1277 S1278 C1279
        rw [nch p1173_0] at A1275
        have A1275 : Ar Z h1274 a1265 k1266 .char [(.int z_1173), (.int 0), (.int 0), (.int 0), (.int 0)] := A1275
        refine Go.dup (hb hby at_537) (pc' := 538) rfl rfl ?_
        refine Go.iconst (hb hby at_538) (pc' := 539) rfl (z := (1 : Int32)) rfl ?_
        refine Go.aload (hb hby at_539) (pc' := 541) rfl rfl rfl ?_
        refine Go.iconst (hb hby at_541) (pc' := 542) rfl (z := (1 : Int32)) rfl ?_
        have f1280 : Ar Z h1274 a1164 k1165 .char [(.int z_1173), (.int z_1182), (.int z_1191), (.int z_1200), (.int z_1209), (.int z_1218), (.int z_1227), (.int z_1236), (.int z_1245)] := (f1273.keep K1277 (ninS (neN (by omega)) nin0))
        refine Go.caload f1280 (v := (.int z_1182)) (by decide) rfl (hb hby at_542) (pc' := 543) rfl ?_
        refine Go.castore A1275 (by decide) (Nat.lt_of_lt_of_eq (by decide : Int32.toNatClampNeg (1 : Int32) < 5) rfl) (by omega) (hb hby at_543) (pc' := 544) rfl ?_
        intro h1281 A1282 z1283 K1284 S1285 C1286
        rw [nch p1182_0] at A1282
        have A1282 : Ar Z h1281 a1265 k1266 .char [(.int z_1173), (.int z_1182), (.int 0), (.int 0), (.int 0)] := A1282
        refine Go.dup (hb hby at_544) (pc' := 545) rfl rfl ?_
        refine Go.iconst (hb hby at_545) (pc' := 546) rfl (z := (2 : Int32)) rfl ?_
        refine Go.aload (hb hby at_546) (pc' := 548) rfl rfl rfl ?_
        refine Go.iconst (hb hby at_548) (pc' := 549) rfl (z := (2 : Int32)) rfl ?_
        have f1287 : Ar Z h1281 a1164 k1165 .char [(.int z_1173), (.int z_1182), (.int z_1191), (.int z_1200), (.int z_1209), (.int z_1218), (.int z_1227), (.int z_1236), (.int z_1245)] := (f1280.keep K1284 (ninS (neN (by omega)) nin0))
        refine Go.caload f1287 (v := (.int z_1191)) (by decide) rfl (hb hby at_549) (pc' := 550) rfl ?_
        refine Go.castore A1282 (by decide) (Nat.lt_of_lt_of_eq (by decide : Int32.toNatClampNeg (2 : Int32) < 5) rfl) (by omega) (hb hby at_550) (pc' := 551) rfl ?_
        intro h1288 A1289 z1290 K1291 S1292 C1293
        rw [nch p1191_0] at A1289
        have A1289 : Ar Z h1288 a1265 k1266 .char [(.int z_1173), (.int z_1182), (.int z_1191), (.int 0), (.int 0)] := A1289
        refine Go.dup (hb hby at_551) (pc' := 552) rfl rfl ?_
        refine Go.iconst (hb hby at_552) (pc' := 553) rfl (z := (3 : Int32)) rfl ?_
        refine Go.aload (hb hby at_553) (pc' := 555) rfl rfl rfl ?_
        refine Go.iconst (hb hby at_555) (pc' := 556) rfl (z := (3 : Int32)) rfl ?_
        have f1294 : Ar Z h1288 a1164 k1165 .char [(.int z_1173), (.int z_1182), (.int z_1191), (.int z_1200), (.int z_1209), (.int z_1218), (.int z_1227), (.int z_1236), (.int z_1245)] := (f1287.keep K1291 (ninS (neN (by omega)) nin0))
        refine Go.caload f1294 (v := (.int z_1200)) (by decide) rfl (hb hby at_556) (pc' := 557) rfl ?_
        refine Go.castore A1289 (by decide) (Nat.lt_of_lt_of_eq (by decide : Int32.toNatClampNeg (3 : Int32) < 5) rfl) (by omega) (hb hby at_557) (pc' := 558) rfl ?_
        intro h1295 A1296 z1297 K1298 S1299 C1300
        rw [nch p1200_0] at A1296
        have A1296 : Ar Z h1295 a1265 k1266 .char [(.int z_1173), (.int z_1182), (.int z_1191), (.int z_1200), (.int 0)] := A1296
        refine Go.dup (hb hby at_558) (pc' := 559) rfl rfl ?_
        refine Go.iconst (hb hby at_559) (pc' := 560) rfl (z := (4 : Int32)) rfl ?_
        refine Go.aload (hb hby at_560) (pc' := 562) rfl rfl rfl ?_
        refine Go.iconst (hb hby at_562) (pc' := 563) rfl (z := (4 : Int32)) rfl ?_
        have f1301 : Ar Z h1295 a1164 k1165 .char [(.int z_1173), (.int z_1182), (.int z_1191), (.int z_1200), (.int z_1209), (.int z_1218), (.int z_1227), (.int z_1236), (.int z_1245)] := (f1294.keep K1298 (ninS (neN (by omega)) nin0))
        refine Go.caload f1301 (v := (.int z_1209)) (by decide) rfl (hb hby at_563) (pc' := 564) rfl ?_
        refine Go.castore A1296 (by decide) (Nat.lt_of_lt_of_eq (by decide : Int32.toNatClampNeg (4 : Int32) < 5) rfl) (by omega) (hb hby at_564) (pc' := 565) rfl ?_
        intro h1302 A1303 z1304 K1305 S1306 C1307
        rw [nch p1209_0] at A1303
        have A1303 : Ar Z h1302 a1265 k1266 .char [(.int z_1173), (.int z_1182), (.int z_1191), (.int z_1200), (.int z_1209)] := A1303
        have f1308 : Exa Z h1302 a1254 "java/lang/String" := ((((((X1258.keep KE1269).keep K1277).keep K1284).keep K1291).keep K1298).keep K1305)
        have f1309 : Fld Z h1302 a1254 "java/lang/String" "coder" "B" (.int 0) := ((((((f1263.keep KE1269 nin0).keep K1277 (ninS (neN (by omega)) nin0)).keep K1284 (ninS (neN (by omega)) nin0)).keep K1291 (ninS (neN (by omega)) nin0)).keep K1298 (ninS (neN (by omega)) nin0)).keep K1305 (ninS (neN (by omega)) nin0))
        have f1310 : Fld Z h1302 a1254 "java/lang/String" "value" "[B" .null := ((((((f1262.keep KE1269 nin0).keep K1277 (ninS (neN (by omega)) nin0)).keep K1284 (ninS (neN (by omega)) nin0)).keep K1291 (ninS (neN (by omega)) nin0)).keep K1298 (ninS (neN (by omega)) nin0)).keep K1305 (ninS (neN (by omega)) nin0))
        have f1311 : Safe Z EL vm1245 h1302 a1254 := (Safe.to C1307 (by omega) (Safe.to C1300 (by omega) (Safe.to C1293 (by omega) (Safe.to C1286 (by omega) (Safe.to C1279 (by omega) (Safe.to C1272 (by omega) S1260))))))
        refine Go.callC (c_strinit (l := l) (nw := nw) g h1302 a1254 a1265 k1266 [z_1173, z_1182, z_1191, z_1200, z_1209] (alS p1173_0 (alS p1182_0 (alS p1191_0 (alS p1200_0 (alS p1209_0 al0))))) (by simp) (by simp) (by first | omega | assumption | decide) f1308 f1309 f1310 A1303 (by omega)) hown rfl rfl (wd_25 g) (wd_26 g) (wd_27 g) (wd_11 g) (by decide) (argsL := [(.ref a1265)]) (lenOf pd_7 rfl) rfl (by rw [hml]; rfl) (W := 1) rfl (hb hby at_565) (pc' := 568) rfl (by decide) (by decide) (by decide) (by decide) (allS ⟨by omega, f1311⟩ all0) ?_
        rintro _ vm1312 h1312 ⟨d_1312, kd_1312, rfl, K1312, p1312_0, o1312_0⟩ C1312
        have z1312 := K1312.1
        have yo1312_0 := ltN o1312_0.lt; have yo1312_0' := ltN o1312_0.ltb
        -- pc 568
        refine Go.astore (hb hby at_568) (pc' := 570) rfl rfl (L' := #[.val (.int i0), .val (.int i1), .val (.long i2), .second, .val (.int i3), .val (.int (5 : Int32)), .val (.int (1 : Int32)), .val (.ref a1038), .val (.ref a1101), .val (.ref a1038), .val (.ref a1164), .val (.ref a1254), .unset, .unset, .unset]) rfl ?_
        refine Go.goto (hb hby at_570) (by decide) (pc' := 729) (by decide) ?_
        refine Go.iload (hb hby at_729) (pc' := 731) rfl rfl ?_
        refine Go.iconst (hb hby at_731) (pc' := 732) rfl (z := (2 : Int32)) rfl ?_
        refine Go.icmpY (hb hby at_732) (by decide) (pc' := 775) (by decide) (show ¬ (5 : Int32) = (2 : Int32) from by decide) ?_
        refine Go.iconst (hb hby at_775) (pc' := 776) rfl (z := (0 : Int32)) rfl ?_
        refine Go.istore (hb hby at_776) (pc' := 778) rfl (L' := #[.val (.int i0), .val (.int i1), .val (.long i2), .second, .val (.int i3), .val (.int (5 : Int32)), .val (.int (1 : Int32)), .val (.ref a1038), .val (.ref a1101), .val (.ref a1038), .val (.ref a1164), .val (.ref a1254), .val (.int (0 : Int32)), .unset, .unset]) rfl ?_
        refine Go.iload (hb hby at_778) (pc' := 780) rfl rfl ?_
        refine Go.iconst (hb hby at_780) (pc' := 781) rfl (z := (3 : Int32)) rfl ?_
        refine Go.icmpY (hb hby at_781) (by decide) (pc' := 862) (by decide) (show ¬ (5 : Int32) = (3 : Int32) from by decide) ?_
        refine Go.iconst (hb hby at_862) (pc' := 863) rfl (z := (0 : Int32)) rfl ?_
        refine Go.istore (hb hby at_863) (pc' := 865) rfl (L' := #[.val (.int i0), .val (.int i1), .val (.long i2), .second, .val (.int i3), .val (.int (5 : Int32)), .val (.int (1 : Int32)), .val (.ref a1038), .val (.ref a1101), .val (.ref a1038), .val (.ref a1164), .val (.ref a1254), .val (.int (0 : Int32)), .val (.int (0 : Int32)), .unset]) rfl ?_
        refine Go.iload (hb hby at_865) (pc' := 867) rfl rfl ?_
        refine Go.ifN (hb hby at_867) (pc' := 870) rfl (show ¬ (¬ (0 : Int32) = (0 : Int32)) from by decide) ?_
        refine Go.iload (hb hby at_870) (pc' := 872) rfl rfl ?_
        refine Go.ifY (hb hby at_872) (by decide) (pc' := 879) (by decide) (show (0 : Int32) = (0 : Int32) from by decide) ?_
        refine Go.iconst (hb hby at_879) (pc' := 880) rfl (z := (0 : Int32)) rfl ?_
        refine Go.istore (hb hby at_880) (pc' := 882) rfl (L' := #[.val (.int i0), .val (.int i1), .val (.long i2), .second, .val (.int i3), .val (.int (5 : Int32)), .val (.int (1 : Int32)), .val (.ref a1038), .val (.ref a1101), .val (.ref a1038), .val (.ref a1164), .val (.ref a1254), .val (.int (0 : Int32)), .val (.int (0 : Int32)), .val (.int (0 : Int32))]) rfl ?_
        refine Go.aload (hb hby at_882) (pc' := 884) rfl rfl rfl ?_
        refine Go.callS (c_res (l := l) (nw := nw) g hnw h1312 a1254 d_1312 kd_1312 ([z_1173, z_1182, z_1191, z_1200, z_1209].map by8) o1312_0 (by omega)) hown (wd_6 g) (wd_7 g) (wd_9 g) (wd_8 g) (by decide) (argsL := [(.ref a1254)]) (lenOf pd_8 rfl) rfl (by rw [hml]; rfl) (W := 0) rfl (hb hby at_884) (pc' := 887) rfl (by decide) (by decide) (by decide) (by decide) all0 ?_
        rintro _ vm1313 h1313 ⟨rfl, K1313⟩ C1313
        have z1313 := K1313.1
        -- pc 887
        refine Go.iload (hb hby at_887) (pc' := 889) rfl rfl ?_
        refine Go.icmpN (hb hby at_889) (pc' := 892) rfl (fun q => q (bo_no (fun z => z.elim (fun z => absurd (congrArg List.length z) (by simp)) (fun z => absurd (congrArg List.length z) (by simp))))) ?_
        refine Go.iconst (hb hby at_892) (pc' := 893) rfl (z := (1 : Int32)) rfl ?_
        refine Go.goto (hb hby at_893) (by decide) (pc' := 897) (by decide) ?_
        refine Go.retN (t := .boolean) hret (by simp) (hb hby at_897) (by decide) (by decide) ?_
        intro vmR CR
        exact ⟨(by first | rfl | (simp only [own_nar]; done) | (congr 2; done)), (((((((((((((((((((((((((((((((((((((((((((((((((Keep.refl h []).trans KE1042 all0).trans K1049 (allS (by first | (left; simp; done) | (right; omega)) all0)).trans K1055 (allS (by first | (left; simp; done) | (right; omega)) all0)).trans K1061 (allS (by first | (left; simp; done) | (right; omega)) all0)).trans K1067 (allS (by first | (left; simp; done) | (right; omega)) all0)).trans K1073 (allS (by first | (left; simp; done) | (right; omega)) all0)).trans K1079 (allS (by first | (left; simp; done) | (right; omega)) all0)).trans K1085 (allS (by first | (left; simp; done) | (right; omega)) all0)).trans K1091 (allS (by first | (left; simp; done) | (right; omega)) all0)).trans K1097 (allS (by first | (left; simp; done) | (right; omega)) all0)).trans KE1105 all0).trans K1112 (allS (by first | (left; simp; done) | (right; omega)) all0)).trans K1118 (allS (by first | (left; simp; done) | (right; omega)) all0)).trans K1124 (allS (by first | (left; simp; done) | (right; omega)) all0)).trans K1130 (allS (by first | (left; simp; done) | (right; omega)) all0)).trans K1136 (allS (by first | (left; simp; done) | (right; omega)) all0)).trans K1142 (allS (by first | (left; simp; done) | (right; omega)) all0)).trans K1148 (allS (by first | (left; simp; done) | (right; omega)) all0)).trans K1154 (allS (by first | (left; simp; done) | (right; omega)) all0)).trans K1160 (allS (by first | (left; simp; done) | (right; omega)) all0)).trans KE1168 all0).trans K1173 all0).trans K1178 (allS (by first | (left; simp; done) | (right; omega)) all0)).trans K1182 all0).trans K1187 (allS (by first | (left; simp; done) | (right; omega)) all0)).trans K1191 all0).trans K1196 (allS (by first | (left; simp; done) | (right; omega)) all0)).trans K1200 all0).trans K1205 (allS (by first | (left; simp; done) | (right; omega)) all0)).trans K1209 all0).trans K1214 (allS (by first | (left; simp; done) | (right; omega)) all0)).trans K1218 all0).trans K1223 (allS (by first | (left; simp; done) | (right; omega)) all0)).trans K1227 all0).trans K1232 (allS (by first | (left; simp; done) | (right; omega)) all0)).trans K1236 all0).trans K1241 (allS (by first | (left; simp; done) | (right; omega)) all0)).trans K1245 all0).trans K1250 (allS (by first | (left; simp; done) | (right; omega)) all0)).trans KE1257 all0).trans KE1269 all0).trans K1277 (allS (by first | (left; simp; done) | (right; omega)) all0)).trans K1284 (allS (by first | (left; simp; done) | (right; omega)) all0)).trans K1291 (allS (by first | (left; simp; done) | (right; omega)) all0)).trans K1298 (allS (by first | (left; simp; done) | (right; omega)) all0)).trans K1305 (allS (by first | (left; simp; done) | (right; omega)) all0)).trans K1312 (allS (by first | (left; simp; done) | (right; omega)) all0)).trans K1313 all0)⟩
set_option maxRecDepth 65536 in
set_option maxHeartbeats 40000000 in
theorem comes_1 {Post : Tables → Env → Array Value → State → Outcome → State → Prop} (hpost : ∀ tb e args s v u, (limb_1_1.after args s (.returned v) u = true ∧ limb_1_2.after args s (.returned v) u = true ∧ True) → Jvm.D.FramedW s (.returned v) u (Jvm.fieldLocs frame_1_writes args s ++ Jvm.arrayLocs frame_1_arrays args s ++ Jvm.staticLocs frame_1_statics s) 32 3264 → Post tb e args s (.returned v) u) :
    ArmFor flags0 classFile x code maxLocals ret World_1 tables_1 room_1 Calls_1 rest_1 Pre_1 Post := by
  intro l hfl _ _ p e ha hc hk s m args below hf hA hF happ hP
  obtain ⟨hcalls, hrest, hpre⟩ := hP
  obtain ⟨-, -, -, hnamed, -, -, -, hat⟩ := (Spec.applies_iff hf).mp happ
  obtain ⟨hg, hn⟩ := and_e (Cond.before_iff.mp (show (Jvm.Cond.and given_1 narrow_1).before args s = true from hpre))
  obtain ⟨h1, g0⟩ := and_e hg
  obtain ⟨k0, g1⟩ := and_e g0
  obtain ⟨k1, g2⟩ := and_e g1
  obtain ⟨k2, g3⟩ := and_e g2
  have k3 := g3
  obtain ⟨w0, w1, w2, w3, rfl⟩ : ∃ w0 w1 w2 w3 : Value, args = #[w0, w1, w2, w3] := by
    have hs : args.size = 4 := by simpa [Cond.value, given_1] using h1
    obtain ⟨L⟩ := args
    match L, hs with
    | [w0, w1, w2, w3], _ => exact ⟨w0, w1, w2, w3, rfl⟩
  have hw := fun d (hd : d ∈ tables_1) => atoms_spec (ws := Jvm.Cond.code x code maxLocals ret :: tables_1) hat d (List.mem_cons_of_mem _ hd)
  obtain ⟨hsets, hown0⟩ := atoms_of _ (rest_1_c_eq ▸ (show rest_1_c.before _ s = true from hrest))
  have hfit : Fit s := fun {y c} hc i hi => by
    obtain ⟨ha, rfl⟩ := Array.getElem?_eq_some_iff.mp hc
    have q := List.all_eq_true.mp ((Array.all_eq_true_iff_forall_mem.mp hF) _ (Array.getElem_mem ha)) i (List.mem_range.mpr hi)
    simpa [Array.getElem?_eq_getElem hi] using q
  obtain ⟨i0, r0⟩ := is_v k0
  obtain rfl : w0 = (.int i0) := Option.some.inj r0
  obtain ⟨i1, r1⟩ := is_v k1
  obtain rfl : w1 = (.int i1) := Option.some.inj r1
  obtain ⟨i2, r2⟩ := isL_v k2
  obtain rfl : w2 = (.long i2) := Option.some.inj r2
  obtain ⟨i3, r3⟩ := is_v k3
  obtain rfl : w3 = (.int i3) := Option.some.inj r3
  have n5 := not_v (Cond.before_iff.mp (hsets _ (List.mem_of_getElem? (i := 2) rfl)))
  obtain ⟨zc, e10⟩ := is_v (Cond.before_iff.mp (hsets _ (List.mem_of_getElem? (i := 1) rfl)))
  have S12 : Sta s s.heap "java/lang/String" "COMPACT_STRINGS" "Z" (.int zc) := Sta.start e10 (Or.inl (hsets _ (List.mem_of_getElem? (i := 0) rfl)))
  have c17 : ¬ (zc = (0 : Int32)) := gotF (Cond.eq_ints e10 (Term.int_eval (0))) n5
  have hEL : EW s #[(.int i0), (.int i1), (.long i2), (.int i3)] consts_1 := show EW s #[(.int i0), (.int i1), (.long i2), (.int i3)] [("com/example/kunci/kunci/Ids", 27), ("com/example/kunci/kunci/Ids", 33), ("java/lang/String", 7)] from (EW.cons (hw _ (List.mem_of_getElem? (i := 10) rfl)) (by decide) (EW.cons (hw _ (List.mem_of_getElem? (i := 23) rfl)) (by decide) (EW.cons (hw _ (List.mem_of_getElem? (i := 53) rfl)) (by decide) EW.nil)))
  have hCH : CHv s consts_1 s.vm s.heap := CHv.start hEL hcalls.1 (hsets _ (List.mem_of_getElem? (i := 2) rfl)) (hw _ (List.mem_of_getElem? (i := 13) rfl)) (hw _ (List.mem_of_getElem? (i := 12) rfl))
  have hAt : ∀ a ∈ Bundle.stringAtoms, a.before #[(.int i0), (.int i1), (.long i2), (.int i3)] s = true := by
    intro a ha
    simp only [Bundle.stringAtoms, List.mem_cons, List.not_mem_nil, or_false] at ha
    rcases ha with rfl | rfl | rfl | rfl | rfl | rfl | rfl
    · exact (hw _ (List.mem_of_getElem? (i := 11) rfl))
    · exact (hw _ (List.mem_of_getElem? (i := 12) rfl))
    · exact (hw _ (List.mem_of_getElem? (i := 13) rfl))
    · exact (hw _ (List.mem_of_getElem? (i := 14) rfl))
    · exact (hw _ (List.mem_of_getElem? (i := 15) rfl))
    · exact (hw _ (List.mem_of_getElem? (i := 16) rfl))
    · exact (hw _ (List.mem_of_getElem? (i := 17) rfl))
  obtain ⟨n, o, h1, h2, h3, v, L, rfl, N, ⟨rfl, -⟩, -, -, hH, hq⟩ := c_law (l := l) (nw := False) (EL := consts_1) (zc := zc) ⟨hw, hEL, hAt, fun _ q => q, S12, c17, trivial⟩ id tables_1 s.heap i0 i1 i2 i3 (Nat.le_refl _) p e ha hc hk s m _ below hf ((Spec.applies_iff_loose hf).mp happ).1 ⟨rfl, State.Warmed39.refl s, rfl, hCH, ⟨Nat.le_refl _, fun _ _ q => q⟩, all0⟩ trivial
  refine ⟨n, _, h1, h2, h3, hpost _ _ _ _ _ _ ⟨Cond.after_iff.mpr rfl, Cond.after_iff.mpr (eq_i res_at (Term.int_eval (1)) rfl), trivial⟩ ?_⟩
  exact ⟨⟨_, rfl⟩, hq.2.1, hq.2.2.1, (hq.2.2.2.sift fun y hy => Or.inr (N y hy)).mono (by decide) (by decide)⟩
theorem main_1_1 : Claimed_1_1 := comes_1 fun _ _ _ _ _ _ h hF => ⟨h.1, hF⟩
theorem main_1_2 : Claimed_1_2 := comes_1 fun _ _ _ _ _ _ h hF => ⟨h.2.1, hF⟩
end Jvm.Pilot.@@N@@
namespace Jvm.Pilot.@@N@@
open Jvm Jvm.ClassFile Sem Op Lib Jvm.Free Jvm.Stand Jvm.Pilot.@@N@@.Jvm.D
/-! MADE BY PROGRAM (witnessworld.py) out of the Statement's table words and the real class files: 20 classes; the members and pool entries that the words name. The judged class is class 1, her method 2. -/
namespace start1
open Jvm.ClassFile
def u (s : String) : CpInfo := .utf8 (stringToUtf16 s)
/-- a pool by its gaps: so many unusable entries, then the entry; so many at the end -/
def gap : Nat → List CpInfo → List CpInfo
  | 0, r => r
  | n + 1, r => .unusable :: gap n r
def poolList (es : List (Nat × CpInfo)) (last : Nat) : List CpInfo := es.foldr (fun e r => gap e.1 (e.2 :: r)) (gap last [])
def pool (es : List (Nat × CpInfo)) (last : Nat) : Array CpInfo := ⟨poolList es last⟩
def fileOf (pool : Array CpInfo) (this : Nat) (attrs : Array Attribute := #[]) (ms : Array MethodInfo := #[]) (fl : Nat := 33) (sup : Nat := 0) (ifs : Array Nat := #[]) (fds : Array FieldInfo := #[]) : ClassFile where
  minorVersion := 0
  majorVersion := 65
  constantPool := pool
  accessFlags := fl
  thisClass := this
  superClass := sup
  interfaces := ifs
  fields := fds
  methods := ms
  attributes := attrs
def plain (name : String) (sup : Option ClassId) : Class where
  name := name
  kind := .ordinary
  loader := none
  accessFlags := 33
  super := sup
  interfaces := #[]
  cf := none
  fields := #[]
  methods := #[]
  instanceTypes := #[]
  staticTypes := #[]
  resolved := #[]
  callSites := []
  init := .initialized
  statics := none
  mirror := none

def pool0 : Array CpInfo := pool [(5, u "<init>"), (0, u "()V"), (1, .class_ 10), (1, u "java/lang/Object")] 113

def k0c0 : Code := { maxStack := 0, maxLocals := 1, code := object_method_1_code, exceptionTable := #[], attributes := #[] }
def k0m0 : Method := { name := "<init>", desc := "()V", sig := { parameters := [], returnType := none }, accessFlags := 1, code := some k0c0 }
/-- java/lang/Object -/
def k0 : Class := { plain "java/lang/Object" none with
  accessFlags := 33
  interfaces := #[]
  cf := some (fileOf pool0 8 #[] #[{ accessFlags := 1, nameIndex := 5, descriptorIndex := 6, attributes := #[] }] 33 0 #[] #[])
  fields := #[]
  methods := #[k0m0]
  instanceTypes := #[]
  staticTypes := #[]
  resolved := Array.replicate 124 none
  statics := none }

def pool1 : Array CpInfo := pool [(2, .class_ 4), (1, u "java/lang/Object"), (0, u "<init>"), (0, u "()V"), (0, .long 255), (1, .methodref 10 11), (0, .class_ 12), (0, .nameAndType 13 14), (0, u "com/example/kunci/kunci/IdsIsReservedPinLaw"), (0, u "ch"), (0, u "(IICJI)C"), (0, .class_ 16), (0, u "java/lang/String"), (0, .methodref 15 18), (0, .nameAndType 5 19), (0, u "([C)V"), (0, .methodref 21 22), (0, .class_ 23), (0, .nameAndType 24 25), (0, u "com/example/kunci/kunci/Ids"), (0, u "isReserved"), (0, u "(Ljava/lang/String;)Z"), (3, u "law"), (0, u "(IIJI)Z")] 4

def k1m0 : Method := { name := "<init>", desc := "()V", sig := { parameters := [], returnType := none }, accessFlags := 1, code := none }
def k1c1 : Code := { maxStack := 4, maxLocals := 8, code := method_2_code, exceptionTable := #[], attributes := #[] }
def k1m1 : Method := { name := "ch", desc := "(IICJI)C", sig := { parameters := [.int, .int, .char, .long, .int], returnType := some .char }, accessFlags := 10, code := some k1c1 }
def k1c2 : Code := { maxStack := 8, maxLocals := 15, code := code, exceptionTable := #[], attributes := #[] }
def k1m2 : Method := { name := "law", desc := "(IIJI)Z", sig := { parameters := [.int, .int, .long, .int], returnType := some .boolean }, accessFlags := 9, code := some k1c2 }
/-- com/example/kunci/kunci/IdsIsReservedPinLaw -/
def k1 : Class := { plain "com/example/kunci/kunci/IdsIsReservedPinLaw" (some 0) with
  accessFlags := 49
  interfaces := #[]
  cf := some (fileOf pool1 10 #[] #[{ accessFlags := 1, nameIndex := 5, descriptorIndex := 6, attributes := #[] }, { accessFlags := 10, nameIndex := 13, descriptorIndex := 14, attributes := #[] }, { accessFlags := 9, nameIndex := 29, descriptorIndex := 30, attributes := #[] }] 49 2 #[] #[])
  fields := #[]
  methods := #[k1m0, k1m1, k1m2]
  instanceTypes := #[]
  staticTypes := #[]
  resolved := Array.replicate 35 none
  statics := none }

def pool2 : Array CpInfo := pool [(2, .class_ 4), (1, u "java/lang/Object"), (0, u "<init>"), (0, u "()V"), (1, .class_ 10), (1, u "java/lang/String"), (6, .class_ 18), (0, u "com/example/kunci/kunci/Ids"), (8, .string 28), (0, u "root"), (0, .methodref 8 30), (0, .nameAndType 31 32), (0, u "equals"), (0, u "(Ljava/lang/Object;)Z"), (0, .string 34), (0, u "everyone"), (6, u "ROOT"), (0, u "Ljava/lang/String;"), (1, u "EVERYONE"), (0, u "MAX_LENGTH"), (0, u "I"), (4, u "(Ljava/lang/String;)Z"), (1, u "isReserved")] 2

def k2m0 : Method := { name := "<init>", desc := "()V", sig := { parameters := [], returnType := none }, accessFlags := 2, code := none }
def k2c1 : Code := { maxStack := 2, maxLocals := 1, code := prog_3_method_3_code, exceptionTable := #[], attributes := #[] }
def k2m1 : Method := { name := "isReserved", desc := "(Ljava/lang/String;)Z", sig := { parameters := [(.object "java/lang/String")], returnType := some .boolean }, accessFlags := 9, code := some k2c1 }
/-- com/example/kunci/kunci/Ids -/
def k2 : Class := { plain "com/example/kunci/kunci/Ids" (some 0) with
  accessFlags := 49
  interfaces := #[]
  cf := some (fileOf pool2 17 #[] #[{ accessFlags := 2, nameIndex := 5, descriptorIndex := 6, attributes := #[] }, { accessFlags := 9, nameIndex := 53, descriptorIndex := 51, attributes := #[] }] 49 2 #[] #[{ accessFlags := 25, nameIndex := 41, descriptorIndex := 42, attributes := #[] }, { accessFlags := 25, nameIndex := 44, descriptorIndex := 42, attributes := #[] }, { accessFlags := 25, nameIndex := 45, descriptorIndex := 46, attributes := #[] }])
  fields := #[{ name := "ROOT", type := (.object "java/lang/String"), accessFlags := 25, slot := 0, constantValue := 0 }, { name := "EVERYONE", type := (.object "java/lang/String"), accessFlags := 25, slot := 1, constantValue := 0 }, { name := "MAX_LENGTH", type := .int, accessFlags := 25, slot := 2, constantValue := 0 }]
  methods := #[k2m0, k2m1]
  instanceTypes := #[]
  staticTypes := #[(.object "java/lang/String"), (.object "java/lang/String"), .int]
  resolved := Array.replicate 56 none
  statics := none }

def pool3 : Array CpInfo := pool [(1, .class_ 2), (0, u "java/io/Serializable"), (0, .class_ 4), (0, u "java/lang/Object")] 2

/-- java/io/Serializable -/
def k3 : Class := { plain "java/io/Serializable" (some 0) with
  accessFlags := 1537
  interfaces := #[]
  cf := some (fileOf pool3 1 #[] #[] 1537 3 #[] #[])
  fields := #[]
  methods := #[]
  instanceTypes := #[]
  staticTypes := #[]
  resolved := Array.replicate 7 none
  statics := none }

def pool4 : Array CpInfo := pool [(1, .class_ 2), (0, u "java/lang/Comparable"), (0, .class_ 4), (0, u "java/lang/Object")] 7

/-- java/lang/Comparable -/
def k4 : Class := { plain "java/lang/Comparable" (some 0) with
  accessFlags := 1537
  interfaces := #[]
  cf := some (fileOf pool4 1 #[] #[] 1537 3 #[] #[])
  fields := #[]
  methods := #[]
  instanceTypes := #[]
  staticTypes := #[]
  resolved := Array.replicate 12 none
  statics := none }

def pool5 : Array CpInfo := pool [(2, .class_ 4), (1, u "java/lang/CharSequence"), (42, .class_ 48), (0, u "java/lang/CharSequence$1CodePointIterator"), (10, .class_ 60), (0, u "java/lang/CharSequence$1CharIterator"), (5, .class_ 67), (0, u "java/lang/Object")] 63

/-- java/lang/CharSequence -/
def k5 : Class := { plain "java/lang/CharSequence" (some 0) with
  accessFlags := 1537
  interfaces := #[]
  cf := some (fileOf pool5 2 #[.nestMembers #[47, 59]] #[] 1537 66 #[] #[])
  fields := #[]
  methods := #[]
  instanceTypes := #[]
  staticTypes := #[]
  resolved := Array.replicate 131 none
  statics := none }

def pool6 : Array CpInfo := pool [(1, .class_ 2), (0, u "java/lang/constant/Constable"), (0, .class_ 4), (0, u "java/lang/Object")] 6

/-- java/lang/constant/Constable -/
def k6 : Class := { plain "java/lang/constant/Constable" (some 0) with
  accessFlags := 1537
  interfaces := #[]
  cf := some (fileOf pool6 1 #[] #[] 1537 3 #[] #[])
  fields := #[]
  methods := #[]
  instanceTypes := #[]
  staticTypes := #[]
  resolved := Array.replicate 11 none
  statics := none }

def pool7 : Array CpInfo := pool [(1, .class_ 2), (0, u "java/lang/constant/ConstantDesc"), (0, .class_ 4), (0, u "java/lang/Object")] 32

/-- java/lang/constant/ConstantDesc -/
def k7 : Class := { plain "java/lang/constant/ConstantDesc" (some 0) with
  accessFlags := 1537
  interfaces := #[]
  cf := some (fileOf pool7 1 #[] #[] 1537 3 #[] #[])
  fields := #[]
  methods := #[]
  instanceTypes := #[]
  staticTypes := #[]
  resolved := Array.replicate 37 none
  statics := none }

def pool8 : Array CpInfo := pool [(1, .methodref 2 3), (0, .class_ 4), (0, .nameAndType 5 6), (0, u "java/lang/Object"), (0, u "<init>"), (0, u "()V"), (0, .string 8), (0, u ""), (0, .fieldref 10 11), (0, .class_ 12), (0, .nameAndType 13 14), (0, u "java/lang/String"), (0, u "value"), (0, u "[B"), (0, .fieldref 10 16), (0, .nameAndType 17 18), (0, u "coder"), (0, u "B"), (2, u "hash"), (0, u "I"), (2, u "hashIsZero"), (0, u "Z"), (0, .methodref 10 28), (0, .nameAndType 5 29), (0, u "([CIILjava/lang/Void;)V"), (8, .fieldref 10 39), (0, .nameAndType 40 26), (0, u "COMPACT_STRINGS"), (1, .class_ 44), (1, u "java/lang/StringUTF16"), (0, u "compress"), (1, .methodref 42 48), (0, .nameAndType 49 50), (0, u "coderFromArrayLen"), (0, u "([BI)B"), (56, .class_ 109), (1, u "java/lang/StringLatin1"), (67, .methodref 42 178), (0, .nameAndType 45 179), (0, u "([CII)[B"), (361, .methodref 107 542), (0, .nameAndType 543 544), (0, u "equals"), (0, u "([B[B)Z"), (28, u "(Ljava/lang/Object;)Z"), (1, .class_ 576), (0, u "java/lang/CharSequence"), (22, u "CASE_INSENSITIVE_ORDER"), (0, u "Ljava/util/Comparator;"), (409, u "([C)V"), (90, u "serialPersistentFields"), (0, u "[Ljava/io/ObjectStreamField;"), (0, .class_ 1104), (0, u "java/lang/String$CaseInsensitiveComparator"), (1, .class_ 1107), (0, u "java/io/Serializable"), (0, .class_ 1109), (0, u "java/lang/Comparable"), (0, .class_ 1111), (0, u "java/lang/constant/Constable"), (0, .class_ 1113), (0, u "java/lang/constant/ConstantDesc"), (2, u "serialVersionUID"), (0, u "J"), (3, u "REPL"), (0, u "C"), (2, u "LATIN1"), (1, u "UTF16")] 323

def k8m0 : Method := { name := "<init>", desc := "()V", sig := { parameters := [], returnType := none }, accessFlags := 1, code := none }
def k8c1 : Code := { maxStack := 5, maxLocals := 2, code := jdk_42_method_3_code, exceptionTable := #[], attributes := #[] }
def k8m1 : Method := { name := "<init>", desc := "([C)V", sig := { parameters := [(.array .char)], returnType := none }, accessFlags := 1, code := some k8c1 }
def k8c2 : Code := { maxStack := 2, maxLocals := 3, code := jdk_42_method_66_code, exceptionTable := #[], attributes := #[] }
def k8m2 : Method := { name := "equals", desc := "(Ljava/lang/Object;)Z", sig := { parameters := [(.object "java/lang/Object")], returnType := some .boolean }, accessFlags := 1, code := some k8c2 }
def k8c3 : Code := { maxStack := 4, maxLocals := 6, code := jdk_42_method_149_code, exceptionTable := #[], attributes := #[] }
def k8m3 : Method := { name := "<init>", desc := "([CIILjava/lang/Void;)V", sig := { parameters := [(.array .char), .int, .int, (.object "java/lang/Void")], returnType := none }, accessFlags := 2, code := some k8c3 }
/-- java/lang/String -/
def k8 : Class := { plain "java/lang/String" (some 0) with
  accessFlags := 49
  interfaces := #[3, 4, 5, 6, 7]
  cf := some (fileOf pool8 10 #[.nestMembers #[1103]] #[{ accessFlags := 1, nameIndex := 5, descriptorIndex := 6, attributes := #[] }, { accessFlags := 1, nameIndex := 5, descriptorIndex := 1010, attributes := #[] }, { accessFlags := 1, nameIndex := 543, descriptorIndex := 573, attributes := #[] }, { accessFlags := 2, nameIndex := 5, descriptorIndex := 29, attributes := #[] }] 49 2 #[1106, 1108, 575, 1110, 1112] #[{ accessFlags := 18, nameIndex := 13, descriptorIndex := 14, attributes := #[] }, { accessFlags := 18, nameIndex := 17, descriptorIndex := 18, attributes := #[] }, { accessFlags := 2, nameIndex := 21, descriptorIndex := 22, attributes := #[] }, { accessFlags := 2, nameIndex := 25, descriptorIndex := 26, attributes := #[] }, { accessFlags := 26, nameIndex := 1116, descriptorIndex := 1117, attributes := #[] }, { accessFlags := 24, nameIndex := 40, descriptorIndex := 26, attributes := #[] }, { accessFlags := 26, nameIndex := 1101, descriptorIndex := 1102, attributes := #[] }, { accessFlags := 26, nameIndex := 1121, descriptorIndex := 1122, attributes := #[] }, { accessFlags := 25, nameIndex := 599, descriptorIndex := 600, attributes := #[] }, { accessFlags := 24, nameIndex := 1125, descriptorIndex := 18, attributes := #[] }, { accessFlags := 24, nameIndex := 1127, descriptorIndex := 18, attributes := #[] }])
  fields := #[{ name := "value", type := (.array .byte), accessFlags := 18, slot := 0, constantValue := 0 }, { name := "coder", type := .byte, accessFlags := 18, slot := 1, constantValue := 0 }, { name := "hash", type := .int, accessFlags := 2, slot := 2, constantValue := 0 }, { name := "hashIsZero", type := .boolean, accessFlags := 2, slot := 3, constantValue := 0 }, { name := "serialVersionUID", type := .long, accessFlags := 26, slot := 0, constantValue := 0 }, { name := "COMPACT_STRINGS", type := .boolean, accessFlags := 24, slot := 1, constantValue := 0 }, { name := "serialPersistentFields", type := (.array (.object "java/io/ObjectStreamField")), accessFlags := 26, slot := 2, constantValue := 0 }, { name := "REPL", type := .char, accessFlags := 26, slot := 3, constantValue := 0 }, { name := "CASE_INSENSITIVE_ORDER", type := (.object "java/util/Comparator"), accessFlags := 25, slot := 4, constantValue := 0 }, { name := "LATIN1", type := .byte, accessFlags := 24, slot := 5, constantValue := 0 }, { name := "UTF16", type := .byte, accessFlags := 24, slot := 6, constantValue := 0 }]
  methods := #[k8m0, k8m1, k8m2, k8m3]
  instanceTypes := #[(.array .byte), .byte, .int, .boolean]
  staticTypes := #[.long, .boolean, (.array (.object "java/io/ObjectStreamField")), .char, (.object "java/util/Comparator"), .byte, .byte]
  resolved := Array.replicate 1451 none
  statics := some 0 }

def pool9 : Array CpInfo := pool [(6, .class_ 8), (1, u "java/lang/Object"), (0, u "<init>"), (0, u "()V"), (1, .class_ 14), (1, u "java/lang/StringUTF16"), (31, u "$assertionsDisabled"), (0, u "Z"), (13, u "HI_BYTE_SHIFT"), (0, u "I"), (2, u "LO_BYTE_SHIFT"), (49, .methodref 12 116), (0, .nameAndType 117 118), (0, u "compress"), (0, u "([CI[BII)I"), (3, u "([CII)[B"), (138, u "coderFromArrayLen"), (0, u "([BI)B"), (106, .class_ 371), (1, u "java/lang/StringUTF16$LinesSpliterator"), (58, u "MAX_LENGTH"), (196, .class_ 628), (0, u "java/lang/StringUTF16$CodePointsSpliterator"), (0, .class_ 630), (0, u "java/lang/StringUTF16$CharsSpliterator")] 4

def k9m0 : Method := { name := "<init>", desc := "()V", sig := { parameters := [], returnType := none }, accessFlags := 0, code := none }
def k9c1 : Code := { maxStack := 2, maxLocals := 2, code := jdk_52_method_15_code, exceptionTable := #[], attributes := #[] }
def k9m1 : Method := { name := "coderFromArrayLen", desc := "([BI)B", sig := { parameters := [(.array .byte), .int], returnType := some .byte }, accessFlags := 8, code := some k9c1 }
def k9c2 : Code := { maxStack := 5, maxLocals := 6, code := jdk_52_method_16_code, exceptionTable := #[], attributes := #[] }
def k9m2 : Method := { name := "compress", desc := "([CII)[B", sig := { parameters := [(.array .char), .int, .int], returnType := some (.array .byte) }, accessFlags := 9, code := some k9c2 }
def k9c3 : Code := { maxStack := 3, maxLocals := 7, code := jdk_52_method_21_code, exceptionTable := #[], attributes := #[] }
def k9m3 : Method := { name := "compress", desc := "([CI[BII)I", sig := { parameters := [(.array .char), .int, (.array .byte), .int, .int], returnType := some .int }, accessFlags := 9, code := some k9c3 }
/-- java/lang/StringUTF16 -/
def k9 : Class := { plain "java/lang/StringUTF16" (some 0) with
  accessFlags := 48
  interfaces := #[]
  cf := some (fileOf pool9 12 #[.nestMembers #[627, 629, 369]] #[{ accessFlags := 0, nameIndex := 9, descriptorIndex := 10, attributes := #[] }, { accessFlags := 8, nameIndex := 261, descriptorIndex := 262, attributes := #[] }, { accessFlags := 9, nameIndex := 117, descriptorIndex := 122, attributes := #[] }, { accessFlags := 9, nameIndex := 117, descriptorIndex := 118, attributes := #[] }] 48 6 #[] #[{ accessFlags := 26, nameIndex := 61, descriptorIndex := 62, attributes := #[] }, { accessFlags := 26, nameIndex := 65, descriptorIndex := 62, attributes := #[] }, { accessFlags := 24, nameIndex := 430, descriptorIndex := 62, attributes := #[] }, { accessFlags := 4120, nameIndex := 46, descriptorIndex := 47, attributes := #[] }])
  fields := #[{ name := "HI_BYTE_SHIFT", type := .int, accessFlags := 26, slot := 0, constantValue := 0 }, { name := "LO_BYTE_SHIFT", type := .int, accessFlags := 26, slot := 1, constantValue := 0 }, { name := "MAX_LENGTH", type := .int, accessFlags := 24, slot := 2, constantValue := 0 }, { name := "$assertionsDisabled", type := .boolean, accessFlags := 4120, slot := 3, constantValue := 0 }]
  methods := #[k9m0, k9m1, k9m2, k9m3]
  instanceTypes := #[]
  staticTypes := #[.int, .int, .int, .boolean]
  resolved := Array.replicate 635 none
  statics := none }

def pool10 : Array CpInfo := pool [(4, .class_ 6), (1, u "java/lang/Object"), (0, u "<init>"), (0, u "()V"), (5, .class_ 16), (1, u "java/lang/StringLatin1"), (104, u "$assertionsDisabled"), (0, u "Z"), (98, .class_ 223), (1, u "java/lang/StringLatin1$LinesSpliterator"), (57, u "equals"), (0, u "([B[B)Z"), (107, .class_ 391), (0, u "java/lang/StringLatin1$CharsSpliterator")] 3

def k10m0 : Method := { name := "<init>", desc := "()V", sig := { parameters := [], returnType := none }, accessFlags := 0, code := none }
def k10c1 : Code := { maxStack := 3, maxLocals := 3, code := jdk_43_method_13_code, exceptionTable := #[], attributes := #[] }
def k10m1 : Method := { name := "equals", desc := "([B[B)Z", sig := { parameters := [(.array .byte), (.array .byte)], returnType := some .boolean }, accessFlags := 9, code := some k10c1 }
/-- java/lang/StringLatin1 -/
def k10 : Class := { plain "java/lang/StringLatin1" (some 0) with
  accessFlags := 48
  interfaces := #[]
  cf := some (fileOf pool10 14 #[.nestMembers #[390, 221]] #[{ accessFlags := 0, nameIndex := 7, descriptorIndex := 8, attributes := #[] }, { accessFlags := 9, nameIndex := 281, descriptorIndex := 282, attributes := #[] }] 48 4 #[] #[{ accessFlags := 4120, nameIndex := 121, descriptorIndex := 122, attributes := #[] }])
  fields := #[{ name := "$assertionsDisabled", type := .boolean, accessFlags := 4120, slot := 0, constantValue := 0 }]
  methods := #[k10m0, k10m1]
  instanceTypes := #[]
  staticTypes := #[.boolean]
  resolved := Array.replicate 395 none
  statics := none }

def pool11 : Array CpInfo := pool [(2, .class_ 4), (1, u "java/lang/Object"), (0, u "<init>"), (0, u "()V"), (17, .class_ 26), (1, u "jdk/internal/util/Preconditions"), (28, .class_ 56), (0, u "jdk/internal/util/Preconditions$4"), (57, .class_ 115), (0, u "jdk/internal/util/Preconditions$1"), (7, u "SIOOBE_FORMATTER"), (0, u "Ljava/util/function/BiFunction;"), (0, .class_ 126), (0, u "jdk/internal/util/Preconditions$2"), (3, u "AIOOBE_FORMATTER"), (0, .class_ 132), (0, u "jdk/internal/util/Preconditions$3"), (3, u "IOOBE_FORMATTER")] 57

def k11m0 : Method := { name := "<init>", desc := "()V", sig := { parameters := [], returnType := none }, accessFlags := 1, code := none }
/-- jdk/internal/util/Preconditions -/
def k11 : Class := { plain "jdk/internal/util/Preconditions" (some 0) with
  accessFlags := 33
  interfaces := #[]
  cf := some (fileOf pool11 24 #[.nestMembers #[55, 131, 125, 114]] #[{ accessFlags := 1, nameIndex := 5, descriptorIndex := 6, attributes := #[] }] 33 2 #[] #[{ accessFlags := 25, nameIndex := 123, descriptorIndex := 124, attributes := #[] }, { accessFlags := 25, nameIndex := 130, descriptorIndex := 124, attributes := #[] }, { accessFlags := 25, nameIndex := 136, descriptorIndex := 124, attributes := #[] }])
  fields := #[{ name := "SIOOBE_FORMATTER", type := (.object "java/util/function/BiFunction"), accessFlags := 25, slot := 0, constantValue := 0 }, { name := "AIOOBE_FORMATTER", type := (.object "java/util/function/BiFunction"), accessFlags := 25, slot := 1, constantValue := 0 }, { name := "IOOBE_FORMATTER", type := (.object "java/util/function/BiFunction"), accessFlags := 25, slot := 2, constantValue := 0 }]
  methods := #[k11m0]
  instanceTypes := #[]
  staticTypes := #[(.object "java/util/function/BiFunction"), (.object "java/util/function/BiFunction"), (.object "java/util/function/BiFunction")]
  resolved := Array.replicate 194 none
  statics := some 1 }

def pool12 : Array CpInfo := pool [(9, u "<init>"), (6, .class_ 18), (1, u "java/lang/Object"), (0, u "()V"), (1, .class_ 23), (1, u "jdk/internal/util/ArraysSupport"), (0, u "LOG2_ARRAY_LONG_INDEX_SCALE"), (0, u "I"), (2, u "U"), (0, u "Ljdk/internal/misc/Unsafe;"), (8, u "BIG_ENDIAN"), (0, u "Z"), (8, u "LOG2_BYTE_BIT_SIZE"), (4, u "LOG2_ARRAY_INT_INDEX_SCALE"), (54, u "JLA"), (0, u "Ljdk/internal/access/JavaLangAccess;"), (11, u "LOG2_ARRAY_BOOLEAN_INDEX_SCALE"), (9, u "LOG2_ARRAY_BYTE_INDEX_SCALE"), (5, u "LOG2_ARRAY_CHAR_INDEX_SCALE"), (5, u "LOG2_ARRAY_SHORT_INDEX_SCALE"), (18, u "LOG2_ARRAY_FLOAT_INDEX_SCALE"), (24, u "LOG2_ARRAY_DOUBLE_INDEX_SCALE"), (89, u "T_BOOLEAN"), (2, u "T_CHAR"), (1, u "T_FLOAT"), (1, u "T_DOUBLE"), (1, u "T_BYTE"), (1, u "T_SHORT"), (1, u "T_INT"), (1, u "T_LONG"), (1, u "SOFT_MAX_ARRAY_LENGTH")] 83

def k12m0 : Method := { name := "<init>", desc := "()V", sig := { parameters := [], returnType := none }, accessFlags := 2, code := none }
/-- jdk/internal/util/ArraysSupport -/
def k12 : Class := { plain "jdk/internal/util/ArraysSupport" (some 0) with
  accessFlags := 33
  interfaces := #[]
  cf := some (fileOf pool12 21 #[] #[{ accessFlags := 2, nameIndex := 9, descriptorIndex := 19, attributes := #[] }] 33 16 #[] #[{ accessFlags := 24, nameIndex := 28, descriptorIndex := 29, attributes := #[] }, { accessFlags := 26, nameIndex := 38, descriptorIndex := 39, attributes := #[] }, { accessFlags := 25, nameIndex := 121, descriptorIndex := 25, attributes := #[] }, { accessFlags := 25, nameIndex := 131, descriptorIndex := 25, attributes := #[] }, { accessFlags := 25, nameIndex := 137, descriptorIndex := 25, attributes := #[] }, { accessFlags := 25, nameIndex := 143, descriptorIndex := 25, attributes := #[] }, { accessFlags := 25, nameIndex := 53, descriptorIndex := 25, attributes := #[] }, { accessFlags := 25, nameIndex := 24, descriptorIndex := 25, attributes := #[] }, { accessFlags := 25, nameIndex := 162, descriptorIndex := 25, attributes := #[] }, { accessFlags := 25, nameIndex := 187, descriptorIndex := 25, attributes := #[] }, { accessFlags := 26, nameIndex := 48, descriptorIndex := 25, attributes := #[] }, { accessFlags := 25, nameIndex := 277, descriptorIndex := 25, attributes := #[] }, { accessFlags := 25, nameIndex := 280, descriptorIndex := 25, attributes := #[] }, { accessFlags := 25, nameIndex := 282, descriptorIndex := 25, attributes := #[] }, { accessFlags := 25, nameIndex := 284, descriptorIndex := 25, attributes := #[] }, { accessFlags := 25, nameIndex := 286, descriptorIndex := 25, attributes := #[] }, { accessFlags := 25, nameIndex := 288, descriptorIndex := 25, attributes := #[] }, { accessFlags := 25, nameIndex := 290, descriptorIndex := 25, attributes := #[] }, { accessFlags := 25, nameIndex := 292, descriptorIndex := 25, attributes := #[] }, { accessFlags := 26, nameIndex := 108, descriptorIndex := 109, attributes := #[] }, { accessFlags := 25, nameIndex := 294, descriptorIndex := 25, attributes := #[] }])
  fields := #[{ name := "U", type := (.object "jdk/internal/misc/Unsafe"), accessFlags := 24, slot := 0, constantValue := 0 }, { name := "BIG_ENDIAN", type := .boolean, accessFlags := 26, slot := 1, constantValue := 0 }, { name := "LOG2_ARRAY_BOOLEAN_INDEX_SCALE", type := .int, accessFlags := 25, slot := 2, constantValue := 0 }, { name := "LOG2_ARRAY_BYTE_INDEX_SCALE", type := .int, accessFlags := 25, slot := 3, constantValue := 0 }, { name := "LOG2_ARRAY_CHAR_INDEX_SCALE", type := .int, accessFlags := 25, slot := 4, constantValue := 0 }, { name := "LOG2_ARRAY_SHORT_INDEX_SCALE", type := .int, accessFlags := 25, slot := 5, constantValue := 0 }, { name := "LOG2_ARRAY_INT_INDEX_SCALE", type := .int, accessFlags := 25, slot := 6, constantValue := 0 }, { name := "LOG2_ARRAY_LONG_INDEX_SCALE", type := .int, accessFlags := 25, slot := 7, constantValue := 0 }, { name := "LOG2_ARRAY_FLOAT_INDEX_SCALE", type := .int, accessFlags := 25, slot := 8, constantValue := 0 }, { name := "LOG2_ARRAY_DOUBLE_INDEX_SCALE", type := .int, accessFlags := 25, slot := 9, constantValue := 0 }, { name := "LOG2_BYTE_BIT_SIZE", type := .int, accessFlags := 26, slot := 10, constantValue := 0 }, { name := "T_BOOLEAN", type := .int, accessFlags := 25, slot := 11, constantValue := 0 }, { name := "T_CHAR", type := .int, accessFlags := 25, slot := 12, constantValue := 0 }, { name := "T_FLOAT", type := .int, accessFlags := 25, slot := 13, constantValue := 0 }, { name := "T_DOUBLE", type := .int, accessFlags := 25, slot := 14, constantValue := 0 }, { name := "T_BYTE", type := .int, accessFlags := 25, slot := 15, constantValue := 0 }, { name := "T_SHORT", type := .int, accessFlags := 25, slot := 16, constantValue := 0 }, { name := "T_INT", type := .int, accessFlags := 25, slot := 17, constantValue := 0 }, { name := "T_LONG", type := .int, accessFlags := 25, slot := 18, constantValue := 0 }, { name := "JLA", type := (.object "jdk/internal/access/JavaLangAccess"), accessFlags := 26, slot := 19, constantValue := 0 }, { name := "SOFT_MAX_ARRAY_LENGTH", type := .int, accessFlags := 25, slot := 20, constantValue := 0 }]
  methods := #[k12m0]
  instanceTypes := #[]
  staticTypes := #[(.object "jdk/internal/misc/Unsafe"), .boolean, .int, .int, .int, .int, .int, .int, .int, .int, .int, .int, .int, .int, .int, .int, .int, .int, .int, (.object "jdk/internal/access/JavaLangAccess"), .int]
  resolved := Array.replicate 378 none
  statics := none }

def pool13 : Array CpInfo := pool [(1, u "java/lang/Cloneable"), (0, .class_ 1), (0, u "java/lang/Object"), (0, .class_ 3)] 3

/-- java/lang/Cloneable -/
def k13 : Class := { plain "java/lang/Cloneable" (some 0) with
  accessFlags := 1537
  interfaces := #[]
  cf := some (fileOf pool13 2 #[] #[] 1537 4 #[] #[])
  fields := #[]
  methods := #[]
  instanceTypes := #[]
  staticTypes := #[]
  resolved := Array.replicate 8 none
  statics := none }

/-- the primitive byte -/
def k14 : Class := { plain "byte" none with kind := .primitive 'B', accessFlags := 0x411 }
/-- [B -/
def k15 : Class := { plain "[B" (some 0) with kind := .array 14 .byte, interfaces := #[13, 3], accessFlags := 1041 }

/-- the primitive char -/
def k16 : Class := { plain "char" none with kind := .primitive 'C', accessFlags := 0x411 }
/-- [C -/
def k17 : Class := { plain "[C" (some 0) with kind := .array 16 .char, interfaces := #[13, 3], accessFlags := 1041 }

/-- the primitive int -/
def k18 : Class := { plain "int" none with kind := .primitive 'I', accessFlags := 0x411 }
/-- [I -/
def k19 : Class := { plain "[I" (some 0) with kind := .array 18 .int, interfaces := #[13, 3], accessFlags := 1041 }

def heap : Heap := #[{ cls := 8, slots := #[.long 0, .int 1, .null, .int 0, .null, .int 0, .int 0], vm := .statics 8 },
  { cls := 11, slots := #[.null, .null, .null], vm := .statics 11 }]
def classes : Array Class := #[k0, k1, k2, k3, k4, k5, k6, k7, k8, k9, k10, k11, k12, k13, k14, k15, k16, k17, k18, k19]
def interned : List (Array UInt16 × Addr) := []
def slotsUsed : Nat := 10
def theMethod : MethodId := ⟨1, 2⟩
def args0 : Array Value := #[.int 2, .int 2, .long 7, .int 1]
def aboutOver (below : List Frame) : State where
  vm := { classes := classes, interned := interned.toArray }
  heap := heap
  slotsUsed := slotsUsed
  threads := #[{ frames := .invoking theMethod args0 :: below }]
def below0 : List Frame := [.native { method := ⟨0, 0⟩, args := #[] }]
def about1 : State := aboutOver below0
def p0 : Program := .bare "" "" ""
def e0 : Env := launch0.env 0 0 0
theorem w_frames : about1.frames = Frame.invoking theMethod args0 :: below0 := rfl
set_option maxRecDepth 65536 in
theorem w_args : argsFit about1.vm theMethod args0 = true := by decide +kernel
set_option maxRecDepth 65536 in
theorem w_heap : heapFits about1 = true := by decide +kernel
set_option maxRecDepth 65536 in
theorem w_runnable : about1.curStatus? = some .runnable := by decide +kernel
set_option maxRecDepth 65536 in
theorem w_alone : about1.alone = true := by decide +kernel
set_option maxRecDepth 65536 in
theorem w_named : about1.methodNamed? x = some theMethod := by decide +kernel
set_option maxRecDepth 65536 in
theorem w_hears : about1.hears theMethod below0 = true := by decide +kernel
set_option maxRecDepth 65536 in
theorem w_ripe : about1.ripe theMethod args0 below0 = true := by decide +kernel
theorem w_running : about1.status = .running := rfl
set_option maxRecDepth 65536 in
theorem w_room : about1.hasRoom e0.platform room_1 = true :=
  launch0.hasRoom_least _ room_1 (by decide +kernel) (by decide +kernel) (by decide +kernel) (by decide +kernel) (by decide +kernel) (by decide +kernel)
theorem allAtoms_all (ts : List Jvm.Cond) (a : Array Jvm.Value) (st : Jvm.State) : (allAtoms ts).before a st = ts.all (fun c => c.before a st) := by
  induction ts with
  | nil => rfl
  | cons c t ih =>
    show (Jvm.Cond.and c (allAtoms t)).before a st = _
    rw [Jvm.Cond.before_and, ih, List.all_cons]
def words1 : List Jvm.Cond := Jvm.Cond.code x code maxLocals ret :: tables_1
/-- a 'code' word, met by the world's own term for the bytes: nothing is compared byte by byte -/
theorem code_word {y : MethodName} {bytes : ByteArray} {mx : Nat} {rt : Option FieldType} {a : Array Value} {s : State} {m : MethodId} {meth : Method} {c : Code} (h1 : s.methodNamed? y = some m) (h2 : s.vm.method? m = some meth) (h3 : meth.code = some c) (h4 : c.code = bytes)
    (h5 : (c.maxLocals == mx && c.exceptionTable.isEmpty && decide (c.maxStack ≤ mostOperands) && decide (meth.sig.returnType = rt) && !meth.locks && decide (parseMethodDescriptor y.desc = some meth.sig)) = true) : (Jvm.Cond.code y bytes mx rt).before a s = true := by
  simp only [Bool.and_eq_true, beq_iff_eq, Bool.not_eq_true', decide_eq_true_eq] at h5
  obtain ⟨⟨⟨⟨⟨g1, g2⟩, g3⟩, g4⟩, g5⟩, g6⟩ := h5
  simp [Cond.before, Cond.holds, Cond.value, h1, h2, h3, h4, g1, g2, g3, g4, g5, g6]
def isCode : Jvm.Cond → Bool
  | .code _ _ _ _ => true
  | _ => false
theorem all_split {L : List Jvm.Cond} {P : Jvm.Cond → Bool} (h1 : L.all (fun c => isCode c || P c) = true) (h2 : ∀ c ∈ L.filter isCode, P c = true) : L.all P = true := by
  refine List.all_eq_true.mpr fun c hc => ?_
  have h := List.all_eq_true.mp h1 c hc
  rcases Bool.eq_false_or_eq_true (isCode c) with hi | hi
  · exact h2 c (List.mem_filter.mpr ⟨hc, hi⟩)
  · simpa [hi] using h
set_option maxRecDepth 65536 in
theorem w_c0 : (Jvm.Cond.code x code maxLocals ret).before args0 about1 = true := code_word (m := ⟨1, 2⟩) (meth := k1m2) (c := k1c2) (by decide +kernel) rfl rfl rfl (by decide +kernel)
set_option maxRecDepth 65536 in
theorem w_c1 : (Jvm.Cond.code ({ cls := "com/example/kunci/kunci/IdsIsReservedPinLaw", name := "ch", desc := "(IICJI)C" } : Jvm.MethodName) method_2_code (8 : Nat) (Option.some Jvm.ClassFile.FieldType.char)).before args0 about1 = true := code_word (m := ⟨1, 1⟩) (meth := k1m1) (c := k1c1) (by decide +kernel) rfl rfl rfl (by decide +kernel)
set_option maxRecDepth 65536 in
theorem w_c2 : (Jvm.Cond.code ({ cls := "com/example/kunci/kunci/Ids", name := "isReserved", desc := "(Ljava/lang/String;)Z" } : Jvm.MethodName) prog_3_method_3_code (1 : Nat) (Option.some Jvm.ClassFile.FieldType.boolean)).before args0 about1 = true := code_word (m := ⟨2, 1⟩) (meth := k2m1) (c := k2c1) (by decide +kernel) rfl rfl rfl (by decide +kernel)
set_option maxRecDepth 65536 in
theorem w_c3 : (Jvm.Cond.code ({ cls := "java/lang/String", name := "equals", desc := "(Ljava/lang/Object;)Z" } : Jvm.MethodName) jdk_42_method_66_code (3 : Nat) (Option.some Jvm.ClassFile.FieldType.boolean)).before args0 about1 = true := code_word (m := ⟨8, 2⟩) (meth := k8m2) (c := k8c2) (by decide +kernel) rfl rfl rfl (by decide +kernel)
set_option maxRecDepth 65536 in
theorem w_c4 : (Jvm.Cond.code ({ cls := "java/lang/String", name := "<init>", desc := "([C)V" } : Jvm.MethodName) jdk_42_method_3_code (2 : Nat) (Option.none : Option Jvm.ClassFile.FieldType)).before args0 about1 = true := code_word (m := ⟨8, 1⟩) (meth := k8m1) (c := k8c1) (by decide +kernel) rfl rfl rfl (by decide +kernel)
set_option maxRecDepth 65536 in
theorem w_c5 : (Jvm.Cond.code ({ cls := "java/lang/String", name := "<init>", desc := "([CIILjava/lang/Void;)V" } : Jvm.MethodName) jdk_42_method_149_code (6 : Nat) (Option.none : Option Jvm.ClassFile.FieldType)).before args0 about1 = true := code_word (m := ⟨8, 3⟩) (meth := k8m3) (c := k8c3) (by decide +kernel) rfl rfl rfl (by decide +kernel)
set_option maxRecDepth 65536 in
theorem w_c6 : (Jvm.Cond.code ({ cls := "java/lang/Object", name := "<init>", desc := "()V" } : Jvm.MethodName) object_method_1_code (1 : Nat) (Option.none : Option Jvm.ClassFile.FieldType)).before args0 about1 = true := code_word (m := ⟨0, 0⟩) (meth := k0m0) (c := k0c0) (by decide +kernel) rfl rfl rfl (by decide +kernel)
set_option maxRecDepth 65536 in
theorem w_c7 : (Jvm.Cond.code ({ cls := "java/lang/StringUTF16", name := "compress", desc := "([CII)[B" } : Jvm.MethodName) jdk_52_method_16_code (6 : Nat) (Option.some (Jvm.ClassFile.FieldType.array Jvm.ClassFile.FieldType.byte))).before args0 about1 = true := code_word (m := ⟨9, 2⟩) (meth := k9m2) (c := k9c2) (by decide +kernel) rfl rfl rfl (by decide +kernel)
set_option maxRecDepth 65536 in
theorem w_c8 : (Jvm.Cond.code ({ cls := "java/lang/StringUTF16", name := "compress", desc := "([CI[BII)I" } : Jvm.MethodName) jdk_52_method_21_code (7 : Nat) (Option.some Jvm.ClassFile.FieldType.int)).before args0 about1 = true := code_word (m := ⟨9, 3⟩) (meth := k9m3) (c := k9c3) (by decide +kernel) rfl rfl rfl (by decide +kernel)
set_option maxRecDepth 65536 in
theorem w_c9 : (Jvm.Cond.code ({ cls := "java/lang/StringUTF16", name := "coderFromArrayLen", desc := "([BI)B" } : Jvm.MethodName) jdk_52_method_15_code (2 : Nat) (Option.some Jvm.ClassFile.FieldType.byte)).before args0 about1 = true := code_word (m := ⟨9, 1⟩) (meth := k9m1) (c := k9c1) (by decide +kernel) rfl rfl rfl (by decide +kernel)
set_option maxRecDepth 65536 in
theorem w_c10 : (Jvm.Cond.code ({ cls := "java/lang/StringLatin1", name := "equals", desc := "([B[B)Z" } : Jvm.MethodName) jdk_43_method_13_code (3 : Nat) (Option.some Jvm.ClassFile.FieldType.boolean)).before args0 about1 = true := code_word (m := ⟨10, 1⟩) (meth := k10m1) (c := k10c1) (by decide +kernel) rfl rfl rfl (by decide +kernel)
def codes1 : List Jvm.Cond := [Jvm.Cond.code x code maxLocals ret, Jvm.Cond.code ({ cls := "com/example/kunci/kunci/IdsIsReservedPinLaw", name := "ch", desc := "(IICJI)C" } : Jvm.MethodName) method_2_code (8 : Nat) (Option.some Jvm.ClassFile.FieldType.char), Jvm.Cond.code ({ cls := "com/example/kunci/kunci/Ids", name := "isReserved", desc := "(Ljava/lang/String;)Z" } : Jvm.MethodName) prog_3_method_3_code (1 : Nat) (Option.some Jvm.ClassFile.FieldType.boolean), Jvm.Cond.code ({ cls := "java/lang/String", name := "equals", desc := "(Ljava/lang/Object;)Z" } : Jvm.MethodName) jdk_42_method_66_code (3 : Nat) (Option.some Jvm.ClassFile.FieldType.boolean), Jvm.Cond.code ({ cls := "java/lang/String", name := "<init>", desc := "([C)V" } : Jvm.MethodName) jdk_42_method_3_code (2 : Nat) (Option.none : Option Jvm.ClassFile.FieldType), Jvm.Cond.code ({ cls := "java/lang/String", name := "<init>", desc := "([CIILjava/lang/Void;)V" } : Jvm.MethodName) jdk_42_method_149_code (6 : Nat) (Option.none : Option Jvm.ClassFile.FieldType), Jvm.Cond.code ({ cls := "java/lang/Object", name := "<init>", desc := "()V" } : Jvm.MethodName) object_method_1_code (1 : Nat) (Option.none : Option Jvm.ClassFile.FieldType), Jvm.Cond.code ({ cls := "java/lang/StringUTF16", name := "compress", desc := "([CII)[B" } : Jvm.MethodName) jdk_52_method_16_code (6 : Nat) (Option.some (Jvm.ClassFile.FieldType.array Jvm.ClassFile.FieldType.byte)), Jvm.Cond.code ({ cls := "java/lang/StringUTF16", name := "compress", desc := "([CI[BII)I" } : Jvm.MethodName) jdk_52_method_21_code (7 : Nat) (Option.some Jvm.ClassFile.FieldType.int), Jvm.Cond.code ({ cls := "java/lang/StringUTF16", name := "coderFromArrayLen", desc := "([BI)B" } : Jvm.MethodName) jdk_52_method_15_code (2 : Nat) (Option.some Jvm.ClassFile.FieldType.byte), Jvm.Cond.code ({ cls := "java/lang/StringLatin1", name := "equals", desc := "([B[B)Z" } : Jvm.MethodName) jdk_43_method_13_code (3 : Nat) (Option.some Jvm.ClassFile.FieldType.boolean)]
set_option maxRecDepth 65536 in
theorem codes_eq : words1.filter isCode = codes1 := rfl
theorem w_codes : ∀ c ∈ words1.filter isCode, c.before args0 about1 = true := by
  rw [codes_eq]
  intro c hc
  simp only [codes1, List.mem_cons, List.not_mem_nil, or_false] at hc
  rcases hc with rfl | rfl | rfl | rfl | rfl | rfl | rfl | rfl | rfl | rfl | rfl
  · exact w_c0
  · exact w_c1
  · exact w_c2
  · exact w_c3
  · exact w_c4
  · exact w_c5
  · exact w_c6
  · exact w_c7
  · exact w_c8
  · exact w_c9
  · exact w_c10
set_option maxRecDepth 65536 in
theorem w_t1 : (words1.take 24).all (fun c => isCode c || c.before args0 about1) = true := by decide +kernel
set_option maxRecDepth 65536 in
theorem w_t2 : ((words1.drop 24).take 24).all (fun c => isCode c || c.before args0 about1) = true := by decide +kernel
set_option maxRecDepth 65536 in
theorem w_t3 : ((words1.drop 24).drop 24).all (fun c => isCode c || c.before args0 about1) = true := by decide +kernel
theorem w_tables : (allAtoms (Jvm.Cond.code x code maxLocals ret :: tables_1)).before args0 about1 = true := by
  rw [allAtoms_all]
  show words1.all (fun c => c.before args0 about1) = true
  refine all_split ?_ w_codes
  rw [← List.take_append_drop 24 words1, List.all_append, w_t1, ← List.take_append_drop 24 (words1.drop 24), List.all_append, w_t2, w_t3]
  rfl
set_option maxRecDepth 65536 in
theorem w_rest : rest_1_c.before args0 about1 = true := by decide +kernel
set_option maxRecDepth 65536 in
theorem w_case : (Jvm.Cond.and given_1 narrow_1).before args0 about1 = true := by decide +kernel
set_option maxRecDepth 65536 in
theorem w_consts : constsHeld consts_1 about1 := Jvm.Lit.constsHeldB_iff.mp (by decide +kernel)
theorem w_applies : (headSpec (Jvm.Cond.code x code maxLocals ret :: tables_1) room_1).applies x e0.platform about1 = true :=
  (Spec.applies_iff w_frames).mpr ⟨w_running, w_runnable, w_alone, w_named, w_hears, w_ripe, w_room, w_tables⟩
theorem atStart : AtStart classFile x code maxLocals ret World_1 tables_1 room_1 Calls_1 rest_1 Pre_1 launch0 p0 e0 about1 theMethod args0 below0 :=
  ⟨lists_1, trivial, launch0.admits_env _ _ _, launch0.least_env, fairChoices_fair.cas, fairChoices_fair.clock, w_frames, w_args, w_heap, w_applies, ⟨w_consts, trivial⟩, w_rest, w_case⟩
end start1
theorem witness_1 : WitnessClaimed_1 := ⟨start1.p0, start1.e0, start1.about1, start1.theMethod, start1.args0, start1.below0, start1.atStart⟩
end Jvm.Pilot.@@N@@
