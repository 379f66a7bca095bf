import JvmDerived
import JvmDerived.Pilot.@@N@@Statement
import JvmDerived.Pilot.@@N@@Code
set_option linter.unusedVariables false
set_option linter.unusedSimpArgs false
namespace Jvm.Own
open Sem ClassFile Op Lib Jvm.Free Jvm.Stand Jvm.LawKit Jvm.RoadKit Bundle
/-- the walk of a method's body from one point on: it ends in a return that answers Q -/
def Go (p : Program) (l : Launch) (e : Env) (R : Room) (s : State) (m : MethodId) (args : Array Value) (below : List Frame) (meth : Method) (c : Code) (Z : State) (a0 : Array Value) (EL : List (String × Nat)) (nw : Prop) (Q : Option Value → Vm → Heap → Prop)
    (vm : Vm) (h : Heap) (k n pc : Nat) (L : Array Slot) (st : List Value) : Prop :=
  ∀ (T : State) (locs : List Loc) (k0 : Nat), p.tables.exec = Jvm.exec → meth.locks = false → EW Z a0 EL →
    Stand p l e R (s.setVm vm) m args below meth c T locs k n → T.heap = h → s.Since vm k0 → k0 ≤ h.size → Fr Z.heap.size locs → Z.Warmed39 vm → (nw → s.WarmedH vm) → CHr Z EL s.vm s.heap vm h → Ext Z.heap h →
    ∃ (t : State) (v : Option Value) (L' : List Loc), Steps p.tables e below (T.setTop (mkF m pc L st)) t ∧ t.status = .running ∧ Ended t below (.returned v) ∧ Fr Z.heap.size L' ∧ Q v t.vm t.heap ∧ CHr Z EL s.vm s.heap t.vm t.heap ∧ Ext Z.heap t.heap ∧ ReturnedEndW s (.returned v) t L' R.cells R.slots ∧ (nw → s.WarmedH t.vm)
/-- a method's contract at one call: these arguments, this heap; sf: what it may write of Strings and byte arrays -/
def Ct (l : Launch) (Z : State) (EL : List (String × Nat)) (nw : Prop) (ws : List Jvm.Cond) (y : MethodName) (bytes : ByteArray) (maxL : Nat) (ret : Option FieldType) (rm : Room) (as : Array Value) (h : Heap) (sf : List Addr) (Q : Option Value → Vm → Heap → Prop) : Prop :=
  MetFree l y (head1 (Jvm.Cond.code y bytes maxL ret :: ws) rm) (fun a U => a = as ∧ Z.Warmed39 U.vm ∧ U.heap = h ∧ CHv Z EL U.vm h ∧ Ext Z.heap h ∧ ∀ x ∈ sf, Safe Z EL U.vm h x) (fun _ _ _ _ _ => True)
    (fun _ U o U' => ∃ v L, o = .returned v ∧ Fr Z.heap.size L ∧ Q v U'.vm U'.heap ∧ CHr Z EL U.vm U.heap U'.vm U'.heap ∧ Ext Z.heap U'.heap ∧ (nw → U.WarmedH U'.vm) ∧ ReturnedEndW U o U' L rm.cells rm.slots)
/-- an array, by its components -/
def Ar (Z : State) (h : Heap) (a : Addr) (k : ClassId) (ty : FieldType) (vs : List Value) : Prop := ∃ c : Cell, Arr Z h a c ty ∧ c.cls = k ∧ c.slots.toList = vs
/-- a String of Latin-1 bytes -/
def St (Z : State) (h : Heap) (a b : Addr) (k : ClassId) (bs : List Int32) : Prop := Exa Z h a "java/lang/String" ∧ Fld Z h a "java/lang/String" "coder" "B" (.int 0) ∧ Fld Z h a "java/lang/String" "value" "[B" (.ref b) ∧ Ar Z h b k .byte (bs.map Value.int) ∧ bs.length < 536870912
section Facts
variable {Z : State} {h h' h0 : Heap} {a b w : Addr} {k : ClassId} {ty : FieldType} {vs : List Value} {bs : List Int32} {ws : List Addr} {sl : Nat} {v : Value} {EL : List (String × Nat)} {vm vm' : Vm}
theorem ext_trans {h1 h2 h3 : Heap} (E : Ext h1 h2) (F : Ext h2 h3) : Ext h1 h3 := ⟨Nat.le_trans E.1 F.1, fun a c q => F.2 a c (E.2 a c q)⟩
theorem ext_keep (O : Ext Z.heap h) (K : Keep h h' ws) (q : ∀ x ∈ ws, Z.heap.size ≤ x) : Ext Z.heap h' := (Old.keep (n0 := Z.heap.size) ⟨rfl, O⟩ K q).2
theorem ext_wr (O : Ext Z.heap h) (W : Wr h h' a sl v) (q : Z.heap.size ≤ a) : Ext Z.heap h' := (Old.wr (n0 := Z.heap.size) ⟨rfl, O⟩ W q).2
theorem Ar.lt (F : Ar Z h a k ty vs) : a < h.size := by obtain ⟨c, A, -⟩ := F; exact A.lt
theorem Ar.ext (F : Ar Z h a k ty vs) (E : Ext h h') : Ar Z h' a k ty vs := by obtain ⟨c, A, r⟩ := F; exact ⟨c, A.ext E, r⟩
theorem Ar.other (F : Ar Z h a k ty vs) (W : Wr h h' b sl v) (q : a ≠ b) : Ar Z h' a k ty vs := by obtain ⟨c, A, r⟩ := F; exact ⟨c, A.other W q, r⟩
theorem Ar.keep (F : Ar Z h a k ty vs) (K : Keep h h' ws) (q : a ∉ ws) : Ar Z h' a k ty vs := by obtain ⟨c, A, r⟩ := F; exact ⟨c, ⟨K.2.1 a c A.1 q, A.2⟩, r⟩
theorem Ar.set (F : Ar Z h a k ty vs) (W : Wr h h' a sl v) : Ar Z h' a k ty (vs.set sl v) := by
  obtain ⟨c, A, r1, r2⟩ := F
  refine ⟨_, A.same W, r1, ?_⟩
  simp [Cell.setSlot, r2]
theorem Ar.of_arv {z : Int32} {d : Value} (F : Arv Z h a k ty z vs d) (hl : z.toNatClampNeg = vs.length) : Ar Z h a k ty vs := by
  obtain ⟨c, A, r1, r2, r3, H, -⟩ := F
  refine ⟨c, A, r1, List.ext_getElem? fun i => ?_⟩
  by_cases hi : i < c.slots.size
  · have q := H i hi
    rw [Array.getElem?_toList, q]
    have : i < vs.length := by omega
    simp [List.getD, this]
  · rw [Array.getElem?_toList, Array.getElem?_eq_none (by omega), List.getElem?_eq_none (by omega)]
theorem Ar.safe (hal : Z.vm.Alike vm) (F : Ar Z h a k ty vs) (ht : ty ≠ .byte) : Safe Z EL vm h a := by obtain ⟨c, A, -⟩ := F; exact Safe.arr hal A ht
theorem Ar.ne_exa {C : String} {a0 : Array Value} {kk : Nat} (F : Ar Z h a k ty vs) (E : Exa Z h b C) (wi : (Jvm.Cond.instantiable C kk).before a0 Z = true) : b ≠ a := by obtain ⟨c, A, -⟩ := F; exact ne_arr E wi A
theorem Ar.ne_ty {ty' : FieldType} {k' : ClassId} {vs' : List Value} (F : Ar Z h a k ty vs) (G : Ar Z h b k' ty' vs') (hn : ty ≠ ty') : a ≠ b := by
  rintro rfl
  obtain ⟨c, A, -⟩ := F
  obtain ⟨c', B, -⟩ := G
  cases A.1.symm.trans B.1
  obtain ⟨-, k1, h1, c1, h2⟩ := A.2.1
  obtain ⟨-, k2, g1, c2, g2⟩ := B.2.1
  cases h1.symm.trans g1
  have q := h2.symm.trans g2
  injection q with _ e
  exact hn e
theorem St.lt (F : St Z h a b k bs) : a < h.size := F.1.lt
theorem St.ltb (F : St Z h a b k bs) : b < h.size := F.2.2.2.1.lt
theorem Fld.uniq {C n d : String} {v w : Value} (F : Fld Z h a C n d v) (G : Fld Z h a C n d w) : v = w := Classical.byContradiction fun q => Fld.ne F G q rfl
theorem Ar.uniq {k' : ClassId} {ty' : FieldType} {vs' : List Value} (F : Ar Z h a k ty vs) (G : Ar Z h a k' ty' vs') : vs = vs' := by
  obtain ⟨c, A, -, rfl⟩ := F
  obtain ⟨c', B, -, rfl⟩ := G
  cases A.1.symm.trans B.1; rfl
theorem map_int_inj {xs ys : List Int32} (q : xs.map Value.int = ys.map Value.int) : xs = ys := by
  induction xs generalizing ys with
  | nil => cases ys with | nil => rfl | cons y ys => cases q
  | cons x xs ih => cases ys with
    | nil => cases q
    | cons y ys => simp only [List.map_cons, List.cons.injEq, Value.int.injEq] at q; rw [q.1, ih q.2]
theorem St.uniq {b' : Addr} {k' : ClassId} {bs' : List Int32} (F : St Z h a b k bs) (G : St Z h a b' k' bs') : bs = bs' := by
  cases Value.ref.inj (Fld.uniq F.2.2.1 G.2.2.1)
  exact map_int_inj (Ar.uniq F.2.2.2.1 G.2.2.2.1)
theorem St.ext (F : St Z h a b k bs) (E : Ext h h') : St Z h' a b k bs := ⟨F.1.ext E, F.2.1.ext E, F.2.2.1.ext E, F.2.2.2.1.ext E, F.2.2.2.2⟩
theorem St.keep (F : St Z h a b k bs) (K : Keep h h' ws) (q : a ∉ ws) (q' : b ∉ ws) : St Z h' a b k bs := ⟨F.1.keep K, F.2.1.keep K q, F.2.2.1.keep K q, F.2.2.2.1.keep K q', F.2.2.2.2⟩
theorem St.wr (F : St Z h a b k bs) (W : Wr h h' w sl v) (q : a ≠ w) (q' : b ≠ w) : St Z h' a b k bs := F.keep (Keep.of_wr W) (by simpa using q) (by simpa using q')
theorem Keep.ofExt (E : Ext h h') : Keep h h' [] := (Keep.refl h []).ext E
theorem Keep.tr (K : Keep h0 h ws) (K' : Keep h h' ws) : Keep h0 h' ws := K.trans K' fun x hx => Or.inl hx
theorem Keep.more {ws' : List Addr} (K : Keep h h' ws) (q : ∀ x ∈ ws, x ∈ ws' ∨ h.size ≤ x) : Keep h h' ws' := (Keep.refl h ws').trans K q
theorem ltN {x : Addr} {n : Nat} (q : x < n) : n > x := q
theorem neN {x y : Addr} (q : @Eq Nat x y → False) : x ≠ y := q
theorem Safe.to (C : CHr Z EL vm h vm' h') (lt : h.size > a) (S : Safe Z EL vm h a) : Safe Z EL vm' h' a := C.safe lt S
theorem tr0 (E : Ext h h') : h.size ≤ h'.size := E.1
theorem cat1 {v : Value} (q : v.isRef = true) : v.category = 1 := by cases v <;> simp [Value.isRef] at q <;> rfl
theorem narU {v : Value} {ty : FieldType} (q : v.isRef = true) : narrow ty v = v := by cases v <;> simp [Value.isRef] at q <;> cases ty <;> rfl
theorem fitsU {v : Value} {ty : FieldType} (r : ty.isReference = true) (q : v.isRef = true) : fits ty v = true := by cases ty <;> simp [FieldType.isReference] at r <;> cases v <;> simp [Value.isRef] at q <;> rfl
theorem own_rep {α : Type} (n : Nat) (v : α) : Array.replicate n v = (List.replicate n v).toArray := rfl
theorem Wr.sz (W : Wr h h' a sl v) : h'.size = h.size := W.size
end Facts
section Walk
variable {p : Program} {l : Launch} {e : Env} {R : Room} {s : State} {m : MethodId} {args : Array Value} {below : List Frame} {meth : Method} {c : Code} {Z : State} {a0 : Array Value} {EL : List (String × Nat)} {nw : Prop} {Q : Option Value → Vm → Heap → Prop} {vm : Vm} {h : Heap} {k n pc pc' : Nat} {L : Array Slot} {st : List Value}
theorem Go.plain {pc2 : Nat} {L2 : Array Slot} {st2 : List Value} (hstep : ∀ (T : State) (locs : List Loc), p.tables.exec = Jvm.exec → Stand p l e R (s.setVm vm) m args below meth c T locs k n → ∀ target, Steps p.tables e below (T.setTop (mkF m pc2 L2 st2)) target → Steps p.tables e below (T.setTop (mkF m pc L st)) target)
    (K : Go p l e R s m args below meth c Z a0 EL nw Q vm h k n pc2 L2 st2) : Go p l e R s m args below meth c Z a0 EL nw Q vm h k n pc L st := fun T locs k0 hx hk hE X eT hS hk0 hF hZ hN hC hO => by
  obtain ⟨t, v, L', r1, r2⟩ := K T locs k0 hx hk hE X eT hS hk0 hF hZ hN hC hO
  exact ⟨t, v, L', hstep T locs hx X _ r1, r2⟩
theorem Go.mono {k' n' : Nat} (K : Go p l e R s m args below meth c Z a0 EL nw Q vm h k' n' pc L st) (hk : k ≤ k') (hn : n ≤ n') : Go p l e R s m args below meth c Z a0 EL nw Q vm h k n pc L st := fun T locs k0 hx hl hE X eT hS hk0 hF hZ hN hC hO =>
  K T locs k0 hx hl hE ⟨X.admits, X.cas, X.clock, X.frames, X.room, X.hears, X.method, X.code, X.here, X.tail, X.warmed, X.limits, X.bytes, X.same.mono hk hn⟩ eT hS hk0 hF hZ hN hC hO
theorem Go.aloadN {q : Fin 4} {v : Value} (hd : decode c.code pc = .ok (.aload_n q, 1)) (hp : pc + 1 = pc') (hl : L[q.val]? = some (.val v)) (hv : v.isRef = true) (K : Go p l e R s m args below meth c Z a0 EL nw Q vm h k n pc' L (v :: st)) : Go p l e R s m args below meth c Z a0 EL nw Q vm h k n pc L st := by
  subst hp
  exact Go.plain (fun T _ hx X _ r => XS.aloadN X.here hx rfl hd hl hv r) K
theorem Go.aload {q : Nat} {v : Value} (hd : decode c.code pc = .ok (.aload q, 2)) (hp : pc + 2 = pc') (hl : L[q]? = some (.val v)) (hv : v.isRef = true) (K : Go p l e R s m args below meth c Z a0 EL nw Q vm h k n pc' L (v :: st)) : Go p l e R s m args below meth c Z a0 EL nw Q vm h k n pc L st := by
  subst hp
  exact Go.plain (fun T _ hx X _ r => XS.aload X.here hx rfl hd hl hv r) K
theorem Go.iloadN {q : Fin 4} {z : Int32} (hd : decode c.code pc = .ok (.iload_n q, 1)) (hp : pc + 1 = pc') (hl : L[q.val]? = some (.val (.int z))) (K : Go p l e R s m args below meth c Z a0 EL nw Q vm h k n pc' L (.int z :: st)) : Go p l e R s m args below meth c Z a0 EL nw Q vm h k n pc L st := by
  subst hp
  exact Go.plain (fun T _ hx X _ r => XS.iloadN X.here hx rfl hd hl r) K
theorem Go.iload {q : Nat} {z : Int32} (hd : decode c.code pc = .ok (.iload q, 2)) (hp : pc + 2 = pc') (hl : L[q]? = some (.val (.int z))) (K : Go p l e R s m args below meth c Z a0 EL nw Q vm h k n pc' L (.int z :: st)) : Go p l e R s m args below meth c Z a0 EL nw Q vm h k n pc L st := by
  subst hp
  exact Go.plain (fun T _ hx X _ r => XS.iload X.here hx rfl hd hl r) K
theorem Go.lloadN {q : Fin 4} {z : Int64} (hd : decode c.code pc = .ok (.lload_n q, 1)) (hp : pc + 1 = pc') (hl : L[q.val]? = some (.val (.long z))) (K : Go p l e R s m args below meth c Z a0 EL nw Q vm h k n pc' L (.long z :: st)) : Go p l e R s m args below meth c Z a0 EL nw Q vm h k n pc L st := by
  subst hp
  exact Go.plain (fun T _ hx X _ r => XT.lloadN X.here hx rfl hd hl r) K
theorem Go.lload {q : Nat} {z : Int64} (hd : decode c.code pc = .ok (.lload q, 2)) (hp : pc + 2 = pc') (hl : L[q]? = some (.val (.long z))) (K : Go p l e R s m args below meth c Z a0 EL nw Q vm h k n pc' L (.long z :: st)) : Go p l e R s m args below meth c Z a0 EL nw Q vm h k n pc L st := by
  subst hp
  exact Go.plain (fun T _ hx X _ r => XT.lload X.here hx rfl hd hl r) K
theorem Go.iconst {i : Int} {z : Int32} (hd : decode c.code pc = .ok (.iconst i, 1)) (hp : pc + 1 = pc') (hz : Int32.ofInt i = z) (K : Go p l e R s m args below meth c Z a0 EL nw Q vm h k n pc' L (.int z :: st)) : Go p l e R s m args below meth c Z a0 EL nw Q vm h k n pc L st := by
  subst hp
  exact Go.plain (fun T _ hx X _ r => XS.iconst X.here hx rfl hd (by rw [hz]; exact r)) K
theorem Go.bipush {i : Int} {z : Int32} (hd : decode c.code pc = .ok (.bipush i, 2)) (hp : pc + 2 = pc') (hz : (Int8.ofInt i).toInt32 = z) (K : Go p l e R s m args below meth c Z a0 EL nw Q vm h k n pc' L (.int z :: st)) : Go p l e R s m args below meth c Z a0 EL nw Q vm h k n pc L st := by
  subst hp
  exact Go.plain (fun T _ hx X _ r => XS.bipush X.here hx rfl hd (by rw [hz]; exact r)) K
theorem Go.sipush {i : Int} {z : Int32} (hd : decode c.code pc = .ok (.sipush i, 3)) (hp : pc + 3 = pc') (hz : (Int16.ofInt i).toInt32 = z) (K : Go p l e R s m args below meth c Z a0 EL nw Q vm h k n pc' L (.int z :: st)) : Go p l e R s m args below meth c Z a0 EL nw Q vm h k n pc L st := by
  subst hp
  exact Go.plain (fun T _ hx X _ r => XS.sipush X.here hx rfl hd (by rw [hz]; exact r)) K
theorem Go.lconst {q : Fin 2} (hd : decode c.code pc = .ok (.lconst q, 1)) (hp : pc + 1 = pc') (K : Go p l e R s m args below meth c Z a0 EL nw Q vm h k n pc' L (.long (Int64.ofNat q) :: st)) : Go p l e R s m args below meth c Z a0 EL nw Q vm h k n pc L st := by
  subst hp
  exact Go.plain (fun T _ hx X _ r => XT.lconst X.here hx rfl hd r) K
theorem Go.aconstNull (hd : decode c.code pc = .ok (.aconst_null, 1)) (hp : pc + 1 = pc') (K : Go p l e R s m args below meth c Z a0 EL nw Q vm h k n pc' L (.null :: st)) : Go p l e R s m args below meth c Z a0 EL nw Q vm h k n pc L st := by
  subst hp
  exact Go.plain (fun T _ hx X _ r => XS.aconstNull X.here hx rfl hd r) K
theorem Go.iadd {x y : Int32} (hd : decode c.code pc = .ok (.iadd, 1)) (hp : pc + 1 = pc') (K : Go p l e R s m args below meth c Z a0 EL nw Q vm h k n pc' L (.int (x + y) :: st)) : Go p l e R s m args below meth c Z a0 EL nw Q vm h k n pc L (.int y :: .int x :: st) := by
  subst hp
  exact Go.plain (fun T _ hx X _ r => XS.iadd X.here hx rfl hd rfl r) K
theorem Go.isub {x y : Int32} (hd : decode c.code pc = .ok (.isub, 1)) (hp : pc + 1 = pc') (K : Go p l e R s m args below meth c Z a0 EL nw Q vm h k n pc' L (.int (x - y) :: st)) : Go p l e R s m args below meth c Z a0 EL nw Q vm h k n pc L (.int y :: .int x :: st) := by
  subst hp
  exact Go.plain (fun T _ hx X _ r => XS.isub X.here hx rfl hd rfl r) K
theorem Go.iand {x y : Int32} (hd : decode c.code pc = .ok (.iand, 1)) (hp : pc + 1 = pc') (K : Go p l e R s m args below meth c Z a0 EL nw Q vm h k n pc' L (.int (x &&& y) :: st)) : Go p l e R s m args below meth c Z a0 EL nw Q vm h k n pc L (.int y :: .int x :: st) := by
  subst hp
  exact Go.plain (fun T _ hx X _ r => XS.iand X.here hx rfl hd rfl r) K
theorem Go.imul {x y : Int32} (hd : decode c.code pc = .ok (.imul, 1)) (hp : pc + 1 = pc') (K : Go p l e R s m args below meth c Z a0 EL nw Q vm h k n pc' L (.int (x * y) :: st)) : Go p l e R s m args below meth c Z a0 EL nw Q vm h k n pc L (.int y :: .int x :: st) := by
  subst hp
  exact Go.plain (fun T _ hx X _ r => XS.imul X.here hx rfl hd rfl r) K
theorem Go.ineg {x : Int32} (hd : decode c.code pc = .ok (.ineg, 1)) (hp : pc + 1 = pc') (K : Go p l e R s m args below meth c Z a0 EL nw Q vm h k n pc' L (.int (-x) :: st)) : Go p l e R s m args below meth c Z a0 EL nw Q vm h k n pc L (.int x :: st) := by
  subst hp
  exact Go.plain (fun T _ hx X _ r => XS.ineg X.here hx rfl hd rfl r) K
theorem Go.idiv {x y : Int32} (hd : decode c.code pc = .ok (.idiv, 1)) (hp : pc + 1 = pc') (hy : y ≠ 0) (K : Go p l e R s m args below meth c Z a0 EL nw Q vm h k n pc' L (.int (x / y) :: st)) : Go p l e R s m args below meth c Z a0 EL nw Q vm h k n pc L (.int y :: .int x :: st) := by
  subst hp
  exact Go.plain (fun T _ hx X _ r => XS.idiv X.here hx rfl hd rfl hy r) K
theorem Go.ixor {x y : Int32} (hd : decode c.code pc = .ok (.ixor, 1)) (hp : pc + 1 = pc') (K : Go p l e R s m args below meth c Z a0 EL nw Q vm h k n pc' L (.int (x ^^^ y) :: st)) : Go p l e R s m args below meth c Z a0 EL nw Q vm h k n pc L (.int y :: .int x :: st) := by
  subst hp
  exact Go.plain (fun T _ hx X _ r => XT.ixor X.here hx rfl hd rfl r) K
theorem Go.ior {x y : Int32} (hd : decode c.code pc = .ok (.ior, 1)) (hp : pc + 1 = pc') (K : Go p l e R s m args below meth c Z a0 EL nw Q vm h k n pc' L (.int (x ||| y) :: st)) : Go p l e R s m args below meth c Z a0 EL nw Q vm h k n pc L (.int y :: .int x :: st) := by
  subst hp
  exact Go.plain (fun T _ hx X _ r => XT.ior X.here hx rfl hd rfl r) K
theorem Go.ishl {x y : Int32} (hd : decode c.code pc = .ok (.ishl, 1)) (hp : pc + 1 = pc') (K : Go p l e R s m args below meth c Z a0 EL nw Q vm h k n pc' L (.int (x <<< (y &&& 31)) :: st)) : Go p l e R s m args below meth c Z a0 EL nw Q vm h k n pc L (.int y :: .int x :: st) := by
  subst hp
  exact Go.plain (fun T _ hx X _ r => XT.ishl X.here hx rfl hd rfl r) K
theorem Go.ishr {x y : Int32} (hd : decode c.code pc = .ok (.ishr, 1)) (hp : pc + 1 = pc') (K : Go p l e R s m args below meth c Z a0 EL nw Q vm h k n pc' L (.int (x >>> (y &&& 31)) :: st)) : Go p l e R s m args below meth c Z a0 EL nw Q vm h k n pc L (.int y :: .int x :: st) := by
  subst hp
  exact Go.plain (fun T _ hx X _ r => XT.ishr X.here hx rfl hd rfl r) K
theorem Go.iushr {x y : Int32} (hd : decode c.code pc = .ok (.iushr, 1)) (hp : pc + 1 = pc') (K : Go p l e R s m args below meth c Z a0 EL nw Q vm h k n pc' L (.int (XT.ushr x y) :: st)) : Go p l e R s m args below meth c Z a0 EL nw Q vm h k n pc L (.int y :: .int x :: st) := by
  subst hp
  exact Go.plain (fun T _ hx X _ r => XT.iushr X.here hx rfl hd rfl r) K
theorem Go.ladd {x y : Int64} (hd : decode c.code pc = .ok (.ladd, 1)) (hp : pc + 1 = pc') (K : Go p l e R s m args below meth c Z a0 EL nw Q vm h k n pc' L (.long (x + y) :: st)) : Go p l e R s m args below meth c Z a0 EL nw Q vm h k n pc L (.long y :: .long x :: st) := by
  subst hp
  exact Go.plain (fun T _ hx X _ r => XT.ladd X.here hx rfl hd rfl r) K
theorem Go.lsub {x y : Int64} (hd : decode c.code pc = .ok (.lsub, 1)) (hp : pc + 1 = pc') (K : Go p l e R s m args below meth c Z a0 EL nw Q vm h k n pc' L (.long (x - y) :: st)) : Go p l e R s m args below meth c Z a0 EL nw Q vm h k n pc L (.long y :: .long x :: st) := by
  subst hp
  exact Go.plain (fun T _ hx X _ r => XT.lsub X.here hx rfl hd rfl r) K
theorem Go.lmul {x y : Int64} (hd : decode c.code pc = .ok (.lmul, 1)) (hp : pc + 1 = pc') (K : Go p l e R s m args below meth c Z a0 EL nw Q vm h k n pc' L (.long (x * y) :: st)) : Go p l e R s m args below meth c Z a0 EL nw Q vm h k n pc L (.long y :: .long x :: st) := by
  subst hp
  exact Go.plain (fun T _ hx X _ r => XT.lmul X.here hx rfl hd rfl r) K
theorem Go.land {x y : Int64} (hd : decode c.code pc = .ok (.land, 1)) (hp : pc + 1 = pc') (K : Go p l e R s m args below meth c Z a0 EL nw Q vm h k n pc' L (.long (x &&& y) :: st)) : Go p l e R s m args below meth c Z a0 EL nw Q vm h k n pc L (.long y :: .long x :: st) := by
  subst hp
  exact Go.plain (fun T _ hx X _ r => XT.land X.here hx rfl hd rfl r) K
theorem Go.lor {x y : Int64} (hd : decode c.code pc = .ok (.lor, 1)) (hp : pc + 1 = pc') (K : Go p l e R s m args below meth c Z a0 EL nw Q vm h k n pc' L (.long (x ||| y) :: st)) : Go p l e R s m args below meth c Z a0 EL nw Q vm h k n pc L (.long y :: .long x :: st) := by
  subst hp
  exact Go.plain (fun T _ hx X _ r => XT.lor X.here hx rfl hd rfl r) K
theorem Go.lxor {x y : Int64} (hd : decode c.code pc = .ok (.lxor, 1)) (hp : pc + 1 = pc') (K : Go p l e R s m args below meth c Z a0 EL nw Q vm h k n pc' L (.long (x ^^^ y) :: st)) : Go p l e R s m args below meth c Z a0 EL nw Q vm h k n pc L (.long y :: .long x :: st) := by
  subst hp
  exact Go.plain (fun T _ hx X _ r => XT.lxor X.here hx rfl hd rfl r) K
theorem Go.lshl {x : Int64} {y : Int32} (hd : decode c.code pc = .ok (.lshl, 1)) (hp : pc + 1 = pc') (K : Go p l e R s m args below meth c Z a0 EL nw Q vm h k n pc' L (.long (x <<< (y.toInt64 &&& 63)) :: st)) : Go p l e R s m args below meth c Z a0 EL nw Q vm h k n pc L (.int y :: .long x :: st) := by
  subst hp
  exact Go.plain (fun T _ hx X _ r => XT.lshl X.here hx rfl hd rfl r) K
theorem Go.lshr {x : Int64} {y : Int32} (hd : decode c.code pc = .ok (.lshr, 1)) (hp : pc + 1 = pc') (K : Go p l e R s m args below meth c Z a0 EL nw Q vm h k n pc' L (.long (x >>> (y.toInt64 &&& 63)) :: st)) : Go p l e R s m args below meth c Z a0 EL nw Q vm h k n pc L (.int y :: .long x :: st) := by
  subst hp
  exact Go.plain (fun T _ hx X _ r => XT.lshr X.here hx rfl hd rfl r) K
theorem Go.lushr {x : Int64} {y : Int32} (hd : decode c.code pc = .ok (.lushr, 1)) (hp : pc + 1 = pc') (K : Go p l e R s m args below meth c Z a0 EL nw Q vm h k n pc' L (.long (XT.ushrL x y) :: st)) : Go p l e R s m args below meth c Z a0 EL nw Q vm h k n pc L (.int y :: .long x :: st) := by
  subst hp
  exact Go.plain (fun T _ hx X _ r => XT.lushr X.here hx rfl hd rfl r) K
theorem Go.ldiv {x y : Int64} (hd : decode c.code pc = .ok (.ldiv, 1)) (hp : pc + 1 = pc') (hy : y ≠ 0) (K : Go p l e R s m args below meth c Z a0 EL nw Q vm h k n pc' L (.long (x / y) :: st)) : Go p l e R s m args below meth c Z a0 EL nw Q vm h k n pc L (.long y :: .long x :: st) := by
  subst hp
  exact Go.plain (fun T _ hx X _ r => XT.ldiv X.here hx rfl hd rfl hy r) K
theorem Go.lrem {x y : Int64} (hd : decode c.code pc = .ok (.lrem, 1)) (hp : pc + 1 = pc') (hy : y ≠ 0) (K : Go p l e R s m args below meth c Z a0 EL nw Q vm h k n pc' L (.long (x - (x / y) * y) :: st)) : Go p l e R s m args below meth c Z a0 EL nw Q vm h k n pc L (.long y :: .long x :: st) := by
  subst hp
  exact Go.plain (fun T _ hx X _ r => XT.lrem X.here hx rfl hd rfl hy r) K
theorem Go.lneg {x : Int64} (hd : decode c.code pc = .ok (.lneg, 1)) (hp : pc + 1 = pc') (K : Go p l e R s m args below meth c Z a0 EL nw Q vm h k n pc' L (.long (-x) :: st)) : Go p l e R s m args below meth c Z a0 EL nw Q vm h k n pc L (.long x :: st) := by
  subst hp
  exact Go.plain (fun T _ hx X _ r => XT.lneg X.here hx rfl hd rfl r) K
theorem Go.i2l {x : Int32} (hd : decode c.code pc = .ok (.i2l, 1)) (hp : pc + 1 = pc') (K : Go p l e R s m args below meth c Z a0 EL nw Q vm h k n pc' L (.long x.toInt64 :: st)) : Go p l e R s m args below meth c Z a0 EL nw Q vm h k n pc L (.int x :: st) := by
  subst hp
  exact Go.plain (fun T _ hx X _ r => XT.i2l X.here hx rfl hd rfl r) K
theorem Go.l2i {x : Int64} (hd : decode c.code pc = .ok (.l2i, 1)) (hp : pc + 1 = pc') (K : Go p l e R s m args below meth c Z a0 EL nw Q vm h k n pc' L (.int x.toInt32 :: st)) : Go p l e R s m args below meth c Z a0 EL nw Q vm h k n pc L (.long x :: st) := by
  subst hp
  exact Go.plain (fun T _ hx X _ r => XT.l2i X.here hx rfl hd rfl r) K
theorem Go.i2b {x : Int32} (hd : decode c.code pc = .ok (.i2b, 1)) (hp : pc + 1 = pc') (K : Go p l e R s m args below meth c Z a0 EL nw Q vm h k n pc' L (.int x.toInt8.toInt32 :: st)) : Go p l e R s m args below meth c Z a0 EL nw Q vm h k n pc L (.int x :: st) := by
  subst hp
  exact Go.plain (fun T _ hx X _ r => XT.i2b X.here hx rfl hd rfl r) K
theorem Go.i2c {x : Int32} (hd : decode c.code pc = .ok (.i2c, 1)) (hp : pc + 1 = pc') (K : Go p l e R s m args below meth c Z a0 EL nw Q vm h k n pc' L (.int (nar .char x) :: st)) : Go p l e R s m args below meth c Z a0 EL nw Q vm h k n pc L (.int x :: st) := by
  subst hp
  exact Go.plain (fun T _ hx X _ r => XT.i2c X.here hx rfl hd rfl r) K
theorem Go.i2s {x : Int32} (hd : decode c.code pc = .ok (.i2s, 1)) (hp : pc + 1 = pc') (K : Go p l e R s m args below meth c Z a0 EL nw Q vm h k n pc' L (.int x.toInt16.toInt32 :: st)) : Go p l e R s m args below meth c Z a0 EL nw Q vm h k n pc L (.int x :: st) := by
  subst hp
  exact Go.plain (fun T _ hx X _ r => XT.i2s X.here hx rfl hd rfl r) K
theorem Go.lcmp {x y : Int64} (hd : decode c.code pc = .ok (.lcmp, 1)) (hp : pc + 1 = pc') (K : Go p l e R s m args below meth c Z a0 EL nw Q vm h k n pc' L (.int (XT.cmpL x y) :: st)) : Go p l e R s m args below meth c Z a0 EL nw Q vm h k n pc L (.long y :: .long x :: st) := by
  subst hp
  exact Go.plain (fun T _ hx X _ r => XT.lcmp X.here hx rfl hd rfl r) K
theorem Go.dup {v : Value} (hd : decode c.code pc = .ok (.dup, 1)) (hp : pc + 1 = pc') (hc : v.category = 1) (K : Go p l e R s m args below meth c Z a0 EL nw Q vm h k n pc' L (v :: v :: st)) : Go p l e R s m args below meth c Z a0 EL nw Q vm h k n pc L (v :: st) := by
  subst hp
  exact Go.plain (fun T _ hx X _ r => XS.dup X.here hx rfl hd rfl hc r) K
theorem Go.pop {v : Value} (hd : decode c.code pc = .ok (.pop, 1)) (hp : pc + 1 = pc') (hc : v.category = 1) (K : Go p l e R s m args below meth c Z a0 EL nw Q vm h k n pc' L st) : Go p l e R s m args below meth c Z a0 EL nw Q vm h k n pc L (v :: st) := by
  subst hp
  exact Go.plain (fun T _ hx X _ r => XT.pop X.here hx rfl hd rfl hc r) K
theorem Go.dupX1 {v w : Value} (hd : decode c.code pc = .ok (.dup_x1, 1)) (hp : pc + 1 = pc') (hc : v.category = 1) (hc' : w.category = 1) (K : Go p l e R s m args below meth c Z a0 EL nw Q vm h k n pc' L (v :: w :: v :: st)) : Go p l e R s m args below meth c Z a0 EL nw Q vm h k n pc L (v :: w :: st) := by
  subst hp
  exact Go.plain (fun T _ hx X _ r => XT.dupX1 X.here hx rfl hd rfl hc hc' r) K
theorem Go.dup2 {v w : Value} (hd : decode c.code pc = .ok (.dup2, 1)) (hp : pc + 1 = pc') (hc : v.category = 1) (hc' : w.category = 1) (K : Go p l e R s m args below meth c Z a0 EL nw Q vm h k n pc' L (v :: w :: v :: w :: st)) : Go p l e R s m args below meth c Z a0 EL nw Q vm h k n pc L (v :: w :: st) := by
  subst hp
  exact Go.plain (fun T _ hx X _ r => XT.dup2 X.here hx rfl hd rfl hc hc' r) K
theorem Go.istoreN {q : Fin 4} {z : Int32} {L' : Array Slot} (hd : decode c.code pc = .ok (.istore_n q, 1)) (hp : pc + 1 = pc') (hl : storeLocals L q.val (.int z) = some L') (K : Go p l e R s m args below meth c Z a0 EL nw Q vm h k n pc' L' st) : Go p l e R s m args below meth c Z a0 EL nw Q vm h k n pc L (.int z :: st) := by
  subst hp
  exact Go.plain (fun T _ hx X _ r => XS.istoreN X.here hx rfl hd rfl hl r) K
theorem Go.istore {q : Nat} {z : Int32} {L' : Array Slot} (hd : decode c.code pc = .ok (.istore q, 2)) (hp : pc + 2 = pc') (hl : storeLocals L q (.int z) = some L') (K : Go p l e R s m args below meth c Z a0 EL nw Q vm h k n pc' L' st) : Go p l e R s m args below meth c Z a0 EL nw Q vm h k n pc L (.int z :: st) := by
  subst hp
  exact Go.plain (fun T _ hx X _ r => XS.istore X.here hx rfl hd rfl hl r) K
theorem Go.lstoreN {q : Fin 4} {z : Int64} {L' : Array Slot} (hd : decode c.code pc = .ok (.lstore_n q, 1)) (hp : pc + 1 = pc') (hl : storeLocals L q.val (.long z) = some L') (K : Go p l e R s m args below meth c Z a0 EL nw Q vm h k n pc' L' st) : Go p l e R s m args below meth c Z a0 EL nw Q vm h k n pc L (.long z :: st) := by
  subst hp
  exact Go.plain (fun T _ hx X _ r => XT.lstoreN X.here hx rfl hd rfl hl r) K
theorem Go.lstore {q : Nat} {z : Int64} {L' : Array Slot} (hd : decode c.code pc = .ok (.lstore q, 2)) (hp : pc + 2 = pc') (hl : storeLocals L q (.long z) = some L') (K : Go p l e R s m args below meth c Z a0 EL nw Q vm h k n pc' L' st) : Go p l e R s m args below meth c Z a0 EL nw Q vm h k n pc L (.long z :: st) := by
  subst hp
  exact Go.plain (fun T _ hx X _ r => XT.lstore X.here hx rfl hd rfl hl r) K
theorem Go.astoreN {q : Fin 4} {v : Value} {L' : Array Slot} (hd : decode c.code pc = .ok (.astore_n q, 1)) (hp : pc + 1 = pc') (hv : v.isRef = true) (hl : storeLocals L q.val v = some L') (K : Go p l e R s m args below meth c Z a0 EL nw Q vm h k n pc' L' st) : Go p l e R s m args below meth c Z a0 EL nw Q vm h k n pc L (v :: st) := by
  subst hp
  exact Go.plain (fun T _ hx X _ r => XS.astoreN X.here hx rfl hd rfl hv hl r) K
theorem Go.astore {q : Nat} {v : Value} {L' : Array Slot} (hd : decode c.code pc = .ok (.astore q, 2)) (hp : pc + 2 = pc') (hv : v.isRef = true) (hl : storeLocals L q v = some L') (K : Go p l e R s m args below meth c Z a0 EL nw Q vm h k n pc' L' st) : Go p l e R s m args below meth c Z a0 EL nw Q vm h k n pc L (v :: st) := by
  subst hp
  exact Go.plain (fun T _ hx X _ r => XS.astore X.here hx rfl hd rfl hv hl r) K
theorem Go.iinc {q : Nat} {i : Int} {x : Int32} {L' : Array Slot} (hd : decode c.code pc = .ok (.iinc q i, 3)) (hp : pc + 3 = pc') (hl : L[q]? = some (.val (.int x))) (hl' : storeLocals L q (.int (x + Int32.ofInt i)) = some L') (K : Go p l e R s m args below meth c Z a0 EL nw Q vm h k n pc' L' st) : Go p l e R s m args below meth c Z a0 EL nw Q vm h k n pc L st := by
  subst hp
  exact Go.plain (fun T _ hx X _ r => XS.iinc X.here hx rfl hd hl hl' r) K
theorem Go.irem {x y : Int32} (hd : decode c.code pc = .ok (.irem, 1)) (hp : pc + 1 = pc') (hy : y ≠ 0) (K : Go p l e R s m args below meth c Z a0 EL nw Q vm h k n pc' L (.int (x % y) :: st)) : Go p l e R s m args below meth c Z a0 EL nw Q vm h k n pc L (.int y :: .int x :: st) := by
  subst hp
  exact Go.plain (fun T _ hx X _ r => iremM X hx (g := mkF m pc L (.int y :: .int x :: st)) rfl hd rfl hy r) K
theorem Go.goto {o : Int} (hd : decode c.code pc = .ok (.goto o, 3)) (ho : 0 ≤ (pc : Int) + o) (hp : ((pc : Int) + o).toNat = pc') (K : Go p l e R s m args below meth c Z a0 EL nw Q vm h k n pc' L st) : Go p l e R s m args below meth c Z a0 EL nw Q vm h k n pc L st :=
  Go.plain (fun T _ hx X _ r => XS.goto X.here hx rfl rfl hd ho hp r) K
/-- what a comparison of ints asks -/
def cP : ClassFile.Cond → Int32 → Int32 → Prop
  | .eq, x, y => x = y
  | .ne, x, y => ¬ x = y
  | .lt, x, y => x < y
  | .ge, x, y => ¬ x < y
  | .gt, x, y => y < x
  | .le, x, y => ¬ y < x
theorem cP_t {cd : ClassFile.Cond} {x y : Int32} (q : cP cd x y) : if_icmp.holds cd x y = true := by
  cases cd
  · exact (teq q).1
  · exact (feq q).2
  · exact (tlt q).1
  · exact (flt q).2.1
  · exact (tlt q).2.2.1
  · exact (flt q).2.2.2
theorem cP_f {cd : ClassFile.Cond} {x y : Int32} (q : ¬ cP cd x y) : if_icmp.holds cd x y = false := by
  cases cd
  · exact (feq q).1
  · exact (teq (Classical.not_not.mp q)).2
  · exact (flt q).1
  · exact (tlt (Classical.not_not.mp q)).2.1
  · exact (flt q).2.2.1
  · exact (tlt (Classical.not_not.mp q)).2.2.2
theorem Go.icmp {cd : ClassFile.Cond} {x y : Int32} {o : Int} {pc2 : Nat} (hd : decode c.code pc = .ok (.if_icmp cd o, 3)) (ho : 0 ≤ (pc : Int) + o) (hp : ((pc : Int) + o).toNat = pc') (hp2 : pc + 3 = pc2) (Kt : cP cd x y → Go p l e R s m args below meth c Z a0 EL nw Q vm h k n pc' L st) (Kf : ¬ cP cd x y → Go p l e R s m args below meth c Z a0 EL nw Q vm h k n pc2 L st) : Go p l e R s m args below meth c Z a0 EL nw Q vm h k n pc L (.int y :: .int x :: st) := by
  subst hp2
  by_cases q : cP cd x y
  · exact Go.plain (fun T _ hx X _ r => XS.icmpYes X.here hx rfl rfl hd rfl (cP_t q) ho hp r) (Kt q)
  · exact Go.plain (fun T _ hx X _ r => XS.icmpNo X.here hx rfl hd rfl (cP_f q) r) (Kf q)
theorem Go.icmpY {cd : ClassFile.Cond} {x y : Int32} {o : Int} (hd : decode c.code pc = .ok (.if_icmp cd o, 3)) (ho : 0 ≤ (pc : Int) + o) (hp : ((pc : Int) + o).toNat = pc') (q : cP cd x y) (K : Go p l e R s m args below meth c Z a0 EL nw Q vm h k n pc' L st) : Go p l e R s m args below meth c Z a0 EL nw Q vm h k n pc L (.int y :: .int x :: st) :=
  Go.plain (fun T _ hx X _ r => XS.icmpYes X.here hx rfl rfl hd rfl (cP_t q) ho hp r) K
theorem Go.icmpN {cd : ClassFile.Cond} {x y : Int32} {o : Int} (hd : decode c.code pc = .ok (.if_icmp cd o, 3)) (hp : pc + 3 = pc') (q : ¬ cP cd x y) (K : Go p l e R s m args below meth c Z a0 EL nw Q vm h k n pc' L st) : Go p l e R s m args below meth c Z a0 EL nw Q vm h k n pc L (.int y :: .int x :: st) := by
  subst hp
  exact Go.plain (fun T _ hx X _ r => XS.icmpNo X.here hx rfl hd rfl (cP_f q) r) K
theorem Go.ifc {cd : ClassFile.Cond} {x : Int32} {o : Int} {pc2 : Nat} (hd : decode c.code pc = .ok (.ifCond cd o, 3)) (ho : 0 ≤ (pc : Int) + o) (hp : ((pc : Int) + o).toNat = pc') (hp2 : pc + 3 = pc2) (Kt : cP cd x 0 → Go p l e R s m args below meth c Z a0 EL nw Q vm h k n pc' L st) (Kf : ¬ cP cd x 0 → Go p l e R s m args below meth c Z a0 EL nw Q vm h k n pc2 L st) : Go p l e R s m args below meth c Z a0 EL nw Q vm h k n pc L (.int x :: st) := by
  subst hp2
  by_cases q : cP cd x 0
  · exact Go.plain (fun T _ hx X _ r => XS.ifYes X.here hx rfl rfl hd rfl ((if0 cd x).trans (cP_t q)) ho hp r) (Kt q)
  · exact Go.plain (fun T _ hx X _ r => XS.ifNo X.here hx rfl hd rfl ((if0 cd x).trans (cP_f q)) r) (Kf q)
theorem Go.ifY {cd : ClassFile.Cond} {x : Int32} {o : Int} (hd : decode c.code pc = .ok (.ifCond cd o, 3)) (ho : 0 ≤ (pc : Int) + o) (hp : ((pc : Int) + o).toNat = pc') (q : cP cd x 0) (K : Go p l e R s m args below meth c Z a0 EL nw Q vm h k n pc' L st) : Go p l e R s m args below meth c Z a0 EL nw Q vm h k n pc L (.int x :: st) :=
  Go.plain (fun T _ hx X _ r => XS.ifYes X.here hx rfl rfl hd rfl ((if0 cd x).trans (cP_t q)) ho hp r) K
theorem Go.ifN {cd : ClassFile.Cond} {x : Int32} {o : Int} (hd : decode c.code pc = .ok (.ifCond cd o, 3)) (hp : pc + 3 = pc') (q : ¬ cP cd x 0) (K : Go p l e R s m args below meth c Z a0 EL nw Q vm h k n pc' L st) : Go p l e R s m args below meth c Z a0 EL nw Q vm h k n pc L (.int x :: st) := by
  subst hp
  exact Go.plain (fun T _ hx X _ r => XS.ifNo X.here hx rfl hd rfl ((if0 cd x).trans (cP_f q)) r) K
theorem Go.ifnullY {o : Int} (hd : decode c.code pc = .ok (.ifnull o, 3)) (ho : 0 ≤ (pc : Int) + o) (hp : ((pc : Int) + o).toNat = pc') (K : Go p l e R s m args below meth c Z a0 EL nw Q vm h k n pc' L st) : Go p l e R s m args below meth c Z a0 EL nw Q vm h k n pc L (.null :: st) :=
  Go.plain (fun T _ hx X _ r => XS.ifnullYes X.here hx rfl rfl hd rfl ho hp r) K
theorem Go.ifnullN {o : Int} {b : Addr} (hd : decode c.code pc = .ok (.ifnull o, 3)) (hp : pc + 3 = pc') (K : Go p l e R s m args below meth c Z a0 EL nw Q vm h k n pc' L st) : Go p l e R s m args below meth c Z a0 EL nw Q vm h k n pc L (.ref b :: st) := by
  subst hp
  exact Go.plain (fun T _ hx X _ r => XS.ifnullNo X.here hx rfl hd rfl r) K
theorem Go.ifnonnullY {o : Int} {b : Addr} (hd : decode c.code pc = .ok (.ifnonnull o, 3)) (ho : 0 ≤ (pc : Int) + o) (hp : ((pc : Int) + o).toNat = pc') (K : Go p l e R s m args below meth c Z a0 EL nw Q vm h k n pc' L st) : Go p l e R s m args below meth c Z a0 EL nw Q vm h k n pc L (.ref b :: st) :=
  Go.plain (fun T _ hx X _ r => XT.ifnonnullYes X.here hx rfl rfl hd rfl ho hp r) K
theorem Go.ifnonnullN {o : Int} (hd : decode c.code pc = .ok (.ifnonnull o, 3)) (hp : pc + 3 = pc') (K : Go p l e R s m args below meth c Z a0 EL nw Q vm h k n pc' L st) : Go p l e R s m args below meth c Z a0 EL nw Q vm h k n pc L (.null :: st) := by
  subst hp
  exact Go.plain (fun T _ hx X _ r => XT.ifnonnullNo X.here hx rfl hd rfl r) K
theorem Go.acmpY {cd : ClassFile.ACond} {x y : Value} {o : Int} (hd : decode c.code pc = .ok (.if_acmp cd o, 3)) (ho : 0 ≤ (pc : Int) + o) (hp : ((pc : Int) + o).toNat = pc') (h1 : x.isRef = true) (h2 : y.isRef = true) (q : XT.acmp cd x y = true) (K : Go p l e R s m args below meth c Z a0 EL nw Q vm h k n pc' L st) : Go p l e R s m args below meth c Z a0 EL nw Q vm h k n pc L (y :: x :: st) :=
  Go.plain (fun T _ hx X _ r => XT.acmpYes X.here hx rfl rfl hd rfl h1 h2 q ho hp r) K
theorem Go.acmpN {cd : ClassFile.ACond} {x y : Value} {o : Int} (hd : decode c.code pc = .ok (.if_acmp cd o, 3)) (hp : pc + 3 = pc') (h1 : x.isRef = true) (h2 : y.isRef = true) (q : XT.acmp cd x y = false) (K : Go p l e R s m args below meth c Z a0 EL nw Q vm h k n pc' L st) : Go p l e R s m args below meth c Z a0 EL nw Q vm h k n pc L (y :: x :: st) := by
  subst hp
  exact Go.plain (fun T _ hx X _ r => XT.acmpNo X.here hx rfl hd rfl h1 h2 q r) K
theorem Go.getF {own R0 O nm d : String} {index : Nat} {a : Addr} {v : Value} (hown : Z.vm.findClass own = some m.cls) (w : (Jvm.Cond.fieldLink own index R0 nm d).before a0 Z = true) (via : Via Z R0 O nm d) (F : Fld Z h a O nm d v) (hd : decode c.code pc = .ok (.getfield index, 3)) (hp : pc + 3 = pc') (K : Go p l e R s m args below meth c Z a0 EL nw Q vm h k n pc' L (v :: st)) : Go p l e R s m args below meth c Z a0 EL nw Q vm h k n pc L (.ref a :: st) := fun T locs k0 hx hk hE X eT hS hk0 hF hZ hN hC hO => by
  subst hp
  have hown' : (s.setVm vm).vm.findClass own = some m.cls := by
    show vm.findClass own = _
    rw [hZ.alike.findClass]; exact hown
  obtain ⟨T', X', e', st'⟩ := RoadKit.getF X hx (s := s.setVm vm) hZ hown' (host := "") (Or.inl w) via eT F (g := mkF m pc L (.ref a :: st)) rfl rfl hd
  obtain ⟨t, v, L', r1, r2⟩ := K T' locs k0 hx hk hE X' e' hS hk0 hF hZ hN hC hO
  exact ⟨t, v, L', st' _ r1, r2⟩
theorem Go.getFN {own R0 O nm d host : String} {index : Nat} {a : Addr} {v : Value} (hown : Z.vm.findClass own = some m.cls) (w : (Jvm.Cond.fieldLinkNest own index R0 nm d host).before a0 Z = true) (via : Via Z R0 O nm d) (F : Fld Z h a O nm d v) (hd : decode c.code pc = .ok (.getfield index, 3)) (hp : pc + 3 = pc') (K : Go p l e R s m args below meth c Z a0 EL nw Q vm h k n pc' L (v :: st)) : Go p l e R s m args below meth c Z a0 EL nw Q vm h k n pc L (.ref a :: st) := fun T locs k0 hx hk hE X eT hS hk0 hF hZ hN hC hO => by
  subst hp
  have hown' : (s.setVm vm).vm.findClass own = some m.cls := by
    show vm.findClass own = _
    rw [hZ.alike.findClass]; exact hown
  obtain ⟨T', X', e', st'⟩ := RoadKit.getF X hx (s := s.setVm vm) hZ hown' (Or.inr w) via eT F (g := mkF m pc L (.ref a :: st)) rfl rfl hd
  obtain ⟨t, v, L', r1, r2⟩ := K T' locs k0 hx hk hE X' e' hS hk0 hF hZ hN hC hO
  exact ⟨t, v, L', st' _ r1, r2⟩
theorem Go.getS {own R0 O nm d : String} {index : Nat} {v : Value} (hown : Z.vm.findClass own = some m.cls) (w : (Jvm.Cond.fieldLink own index R0 nm d).before a0 Z = true) (via : Via Z R0 O nm d) (F : Sta Z Z.heap O nm d v) (hd : decode c.code pc = .ok (.getstatic index, 3)) (hp : pc + 3 = pc') (K : Go p l e R s m args below meth c Z a0 EL nw Q vm h k n pc' L (v :: st)) : Go p l e R s m args below meth c Z a0 EL nw Q vm h k n pc L st := fun T locs k0 hx hk hE X eT hS hk0 hF hZ hN hC hO => by
  subst hp
  have hown' : (s.setVm vm).vm.findClass own = some m.cls := by
    show vm.findClass own = _
    rw [hZ.alike.findClass]; exact hown
  obtain ⟨T', X', e', st'⟩ := RoadKit.getS X hx (s := s.setVm vm) hZ (host := "") hown' w via eT (F.ext hO) (g := mkF m pc L st) rfl hd
  obtain ⟨t, v, L', r1, r2⟩ := K T' locs k0 hx hk hE X' e' hS hk0 hF hZ hN hC hO
  exact ⟨t, v, L', st' _ r1, r2⟩
theorem Go.getSN {own R0 O nm d host : String} {index : Nat} {v : Value} (hown : Z.vm.findClass own = some m.cls) (w : (Jvm.Cond.fieldLinkNest own index R0 nm d host).before a0 Z = true) (via : Via Z R0 O nm d) (F : Sta Z Z.heap O nm d v) (hd : decode c.code pc = .ok (.getstatic index, 3)) (hp : pc + 3 = pc') (K : Go p l e R s m args below meth c Z a0 EL nw Q vm h k n pc' L (v :: st)) : Go p l e R s m args below meth c Z a0 EL nw Q vm h k n pc L st := fun T locs k0 hx hk hE X eT hS hk0 hF hZ hN hC hO => by
  subst hp
  have hown' : (s.setVm vm).vm.findClass own = some m.cls := by
    show vm.findClass own = _
    rw [hZ.alike.findClass]; exact hown
  obtain ⟨T', X', e', st'⟩ := RoadKit.getS2 X hx (s := s.setVm vm) hZ hown' (Or.inr w) via eT (F.ext hO) (g := mkF m pc L st) rfl hd
  obtain ⟨t, v, L', r1, r2⟩ := K T' locs k0 hx hk hE X' e' hS hk0 hF hZ hN hC hO
  exact ⟨t, v, L', st' _ r1, r2⟩
theorem Go.castY {own K0 : String} {index : Nat} {a : Addr} (hown : Z.vm.findClass own = some m.cls) (w : (Jvm.Cond.classLink own index K0).before a0 Z = true) (F : Ins Z h a K0 true) (hd : decode c.code pc = .ok (.checkcast index, 3)) (hp : pc + 3 = pc') (K : Go p l e R s m args below meth c Z a0 EL nw Q vm h k n pc' L (.ref a :: st)) : Go p l e R s m args below meth c Z a0 EL nw Q vm h k n pc L (.ref a :: st) := fun T locs k0 hx hk hE X eT hS hk0 hF hZ hN hC hO => by
  subst hp
  have hown' : (s.setVm vm).vm.findClass own = some m.cls := by
    show vm.findClass own = _
    rw [hZ.alike.findClass]; exact hown
  obtain ⟨T', X', e', st'⟩ := RoadKit.castY X hx (s := s.setVm vm) hZ hown' w eT F (g := mkF m pc L (.ref a :: st)) rfl rfl hd
  obtain ⟨t, v, L', r1, r2⟩ := K T' locs k0 hx hk hE X' e' hS hk0 hF hZ hN hC hO
  exact ⟨t, v, L', st' _ r1, r2⟩
theorem Go.instY {own K0 : String} {index : Nat} {a : Addr} (hown : Z.vm.findClass own = some m.cls) (w : (Jvm.Cond.classLink own index K0).before a0 Z = true) (F : Ins Z h a K0 true) (hd : decode c.code pc = .ok (.instanceof index, 3)) (hp : pc + 3 = pc') (K : Go p l e R s m args below meth c Z a0 EL nw Q vm h k n pc' L (.int 1 :: st)) : Go p l e R s m args below meth c Z a0 EL nw Q vm h k n pc L (.ref a :: st) := fun T locs k0 hx hk hE X eT hS hk0 hF hZ hN hC hO => by
  subst hp
  have hown' : (s.setVm vm).vm.findClass own = some m.cls := by
    show vm.findClass own = _
    rw [hZ.alike.findClass]; exact hown
  obtain ⟨T', X', e', st'⟩ := RoadKit.instY X hx (s := s.setVm vm) hZ hown' w eT F (g := mkF m pc L (.ref a :: st)) rfl rfl hd
  obtain ⟨t, v, L', r1, r2⟩ := K T' locs k0 hx hk hE X' e' hS hk0 hF hZ hN hC hO
  exact ⟨t, v, L', st' _ r1, r2⟩
theorem Go.instNo {own K0 C : String} {index : Nat} {a : Addr} (hown : Z.vm.findClass own = some m.cls) (w : (Jvm.Cond.classLink own index K0).before a0 Z = true) (E : Exa Z h a C) (F : ∃ c t, Z.vm.findClass C = some c ∧ Z.vm.findClass K0 = some t ∧ Z.vm.assignable c t = false) (hd : decode c.code pc = .ok (.instanceof index, 3)) (hp : pc + 3 = pc') (K : Go p l e R s m args below meth c Z a0 EL nw Q vm h k n pc' L (.int 0 :: st)) : Go p l e R s m args below meth c Z a0 EL nw Q vm h k n pc L (.ref a :: st) := fun T locs k0 hx hk hE X eT hS hk0 hF hZ hN hC hO => by
  subst hp
  have hown' : (s.setVm vm).vm.findClass own = some m.cls := by
    show vm.findClass own = _
    rw [hZ.alike.findClass]; exact hown
  obtain ⟨T', X', e', st'⟩ := RoadKit.instNo X hx (s := s.setVm vm) hZ hown' w eT E F (g := mkF m pc L (.ref a :: st)) rfl rfl hd
  obtain ⟨t, v, L', r1, r2⟩ := K T' locs k0 hx hk hE X' e' hS hk0 hF hZ hN hC hO
  exact ⟨t, v, L', st' _ r1, r2⟩
theorem Go.initO {own : String} {index W : Nat} {a : Addr} (hown : Z.vm.findClass own = some m.cls) (w1 : (Jvm.Cond.methodLink own index Lib.objectInit).before a0 Z = true) (w2 : (Jvm.Cond.instanceMethod Lib.objectInit).before a0 Z = true) (w3 : (Jvm.Cond.code Lib.objectInit ⟨#[0xb1]⟩ 1 none).before a0 Z = true) (hL : L.size = c.maxLocals) (hd : decode c.code pc = .ok (.invokespecial index, 3)) (hf : 1 ≤ R.frames) (hW : (st.map fun v => v.category).sum = W) (hl : W + 12 ≤ R.locals) (hp : pc + 3 = pc') (K : Go p l e R s m args below meth c Z a0 EL nw Q vm h k n pc' L st) : Go p l e R s m args below meth c Z a0 EL nw Q vm h k n pc L (.ref a :: st) := fun T locs k0 hx hk hE X eT hS hk0 hF hZ hN hC hO => by
  subst hp
  have hown' : (s.setVm vm).vm.findClass own = some m.cls := by
    show vm.findClass own = _
    rw [hZ.alike.findClass]; exact hown
  obtain ⟨T', X', e', st'⟩ := RoadKit.initO X hx (s := s.setVm vm) hZ hown' w1 w2 w3 eT (g := mkF m pc L (.ref a :: st)) rfl hL rfl hd hf (W := W) (by show 2 * 0 + _ ≤ _; rw [Nat.mul_zero, Nat.zero_add]; exact Nat.le_of_eq hW) hl
  obtain ⟨t, v, L', r1, r2⟩ := K T' locs k0 hx hk hE X' e' hS hk0 hF hZ hN hC hO
  exact ⟨t, v, L', st' _ r1, r2⟩
theorem Go.ldcInt {own : String} {index : Nat} {z : Int32} (hown : Z.vm.findClass own = some m.cls) (w : (Jvm.Cond.constant own index z).before a0 Z = true) (hd : decode c.code pc = .ok (.ldc index, 2)) (hp : pc + 2 = pc') (K : Go p l e R s m args below meth c Z a0 EL nw Q vm h k n pc' L (.int z :: st)) : Go p l e R s m args below meth c Z a0 EL nw Q vm h k n pc L st := fun T locs k0 hx hk hE X eT hS hk0 hF hZ hN hC hO => by
  subst hp
  have hown' : (s.setVm vm).vm.findClass own = some m.cls := by
    show vm.findClass own = _
    rw [hZ.alike.findClass]; exact hown
  obtain ⟨t, v, L', r1, r2⟩ := K T locs k0 hx hk hE X eT hS hk0 hF hZ hN hC hO
  exact ⟨t, v, L', X.ldcInt hx hown' (mv (s := s.setVm vm) hZ w) (g := mkF m pc L st) rfl hd _ r1, r2⟩
theorem Go.ldc2Long {own : String} {index : Nat} {z : Int64} (hown : Z.vm.findClass own = some m.cls) (w : (Jvm.Cond.constantLong own index z).before a0 Z = true) (hd : decode c.code pc = .ok (.ldc2_w index, 3)) (hp : pc + 3 = pc') (K : Go p l e R s m args below meth c Z a0 EL nw Q vm h k n pc' L (.long z :: st)) : Go p l e R s m args below meth c Z a0 EL nw Q vm h k n pc L st := fun T locs k0 hx hk hE X eT hS hk0 hF hZ hN hC hO => by
  subst hp
  have hown' : (s.setVm vm).vm.findClass own = some m.cls := by
    show vm.findClass own = _
    rw [hZ.alike.findClass]; exact hown
  obtain ⟨t, v, L', r1, r2⟩ := K T locs k0 hx hk hE X eT hS hk0 hF hZ hN hC hO
  exact ⟨t, v, L', X.ldc2Long hx hown' (mv (s := s.setVm vm) hZ w) (g := mkF m pc L st) rfl hd _ r1, r2⟩
theorem Go.alen {a : Addr} {kA : ClassId} {ty : FieldType} {vs : List Value} {z : Int32} (A : Ar Z h a kA ty vs) (hz : vs.length.toInt32 = z) (hd : decode c.code pc = .ok (.arraylength, 1)) (hp : pc + 1 = pc') (K : Go p l e R s m args below meth c Z a0 EL nw Q vm h k n pc' L (.int z :: st)) : Go p l e R s m args below meth c Z a0 EL nw Q vm h k n pc L (.ref a :: st) := fun T locs k0 hx hk hE X eT hS hk0 hF hZ hN hC hO => by
  subst hp
  obtain ⟨t, v, L', r1, r2⟩ := K T locs k0 hx hk hE X eT hS hk0 hF hZ hN hC hO
  obtain ⟨cl, A, -, rfl⟩ := A
  refine ⟨t, v, L', X.arraylength hx (cell := cl) (by rw [eT]; exact A.1) (State.isArrayOf_alike (s := Z) (T := s.setVm vm) hZ.alike A.2.1) (g := mkF m pc L (.ref a :: st)) rfl rfl hd _ ?_, r2⟩
  have q : cl.slots.size.toInt32 = z := by rw [← hz]; simp
  rw [q]; exact r1
theorem Go.caload {a : Addr} {kA : ClassId} {vs : List Value} {j : Int32} {v : Value} (A : Ar Z h a kA .char vs) (hj : ¬ j < 0) (hv : vs[j.toNatClampNeg]? = some v) (hd : decode c.code pc = .ok (.caload, 1)) (hp : pc + 1 = pc') (K : Go p l e R s m args below meth c Z a0 EL nw Q vm h k n pc' L (v :: st)) : Go p l e R s m args below meth c Z a0 EL nw Q vm h k n pc L (.int j :: .ref a :: st) := fun T locs k0 hx hk hE X eT hS hk0 hF hZ hN hC hO => by
  subst hp
  obtain ⟨t, v', L', r1, r2⟩ := K T locs k0 hx hk hE X eT hS hk0 hF hZ hN hC hO
  obtain ⟨cl, A, -, rfl⟩ := A
  rw [Array.getElem?_toList] at hv
  exact ⟨t, v', L', X.caload hx (cell := cl) (by rw [eT]; exact A.1) (State.isArrayOf_alike (s := Z) (T := s.setVm vm) hZ.alike A.2.1) A.2.2 (fun q => q.elim hj fun q => absurd (Array.getElem?_eq_some_iff.mp hv).1 (Nat.not_lt.mpr q)) hv (g := mkF m pc L (.int j :: .ref a :: st)) rfl rfl hd _ r1, r2⟩
theorem Go.baload {a : Addr} {kA : ClassId} {vs : List Value} {j : Int32} {v : Value} (A : Ar Z h a kA .byte vs) (hj : ¬ j < 0) (hv : vs[j.toNatClampNeg]? = some v) (hd : decode c.code pc = .ok (.baload, 1)) (hp : pc + 1 = pc') (K : Go p l e R s m args below meth c Z a0 EL nw Q vm h k n pc' L (v :: st)) : Go p l e R s m args below meth c Z a0 EL nw Q vm h k n pc L (.int j :: .ref a :: st) := fun T locs k0 hx hk hE X eT hS hk0 hF hZ hN hC hO => by
  subst hp
  obtain ⟨t, v', L', r1, r2⟩ := K T locs k0 hx hk hE X eT hS hk0 hF hZ hN hC hO
  obtain ⟨cl, A, -, rfl⟩ := A
  rw [Array.getElem?_toList] at hv
  exact ⟨t, v', L', X.baloadBytes hx (cell := cl) (by rw [eT]; exact A.1) (State.isArrayOf_alike (s := Z) (T := s.setVm vm) hZ.alike A.2.1) A.2.2 (fun q => q.elim hj fun q => absurd (Array.getElem?_eq_some_iff.mp hv).1 (Nat.not_lt.mpr q)) hv (g := mkF m pc L (.int j :: .ref a :: st)) rfl rfl hd _ r1, r2⟩
theorem Go.iaload {a : Addr} {kA : ClassId} {vs : List Value} {j : Int32} {v : Value} (A : Ar Z h a kA .int vs) (hj : ¬ j < 0) (hv : vs[j.toNatClampNeg]? = some v) (hd : decode c.code pc = .ok (.iaload, 1)) (hp : pc + 1 = pc') (K : Go p l e R s m args below meth c Z a0 EL nw Q vm h k n pc' L (v :: st)) : Go p l e R s m args below meth c Z a0 EL nw Q vm h k n pc L (.int j :: .ref a :: st) := fun T locs k0 hx hk hE X eT hS hk0 hF hZ hN hC hO => by
  subst hp
  obtain ⟨t, v', L', r1, r2⟩ := K T locs k0 hx hk hE X eT hS hk0 hF hZ hN hC hO
  obtain ⟨cl, A, -, rfl⟩ := A
  rw [Array.getElem?_toList] at hv
  exact ⟨t, v', L', X.iaload hx (cell := cl) (by rw [eT]; exact A.1) (State.isArrayOf_alike (s := Z) (T := s.setVm vm) hZ.alike A.2.1) A.2.2 (fun q => q.elim hj fun q => absurd (Array.getElem?_eq_some_iff.mp hv).1 (Nat.not_lt.mpr q)) hv (g := mkF m pc L (.int j :: .ref a :: st)) rfl rfl hd _ r1, r2⟩
theorem Go.laload {a : Addr} {kA : ClassId} {vs : List Value} {j : Int32} {v : Value} (A : Ar Z h a kA .long vs) (hj : ¬ j < 0) (hv : vs[j.toNatClampNeg]? = some v) (hd : decode c.code pc = .ok (.laload, 1)) (hp : pc + 1 = pc') (K : Go p l e R s m args below meth c Z a0 EL nw Q vm h k n pc' L (v :: st)) : Go p l e R s m args below meth c Z a0 EL nw Q vm h k n pc L (.int j :: .ref a :: st) := fun T locs k0 hx hk hE X eT hS hk0 hF hZ hN hC hO => by
  subst hp
  obtain ⟨t, v', L', r1, r2⟩ := K T locs k0 hx hk hE X eT hS hk0 hF hZ hN hC hO
  obtain ⟨cl, A, -, rfl⟩ := A
  rw [Array.getElem?_toList] at hv
  exact ⟨t, v', L', X.laload hx (cell := cl) (by rw [eT]; exact A.1) (State.isArrayOf_alike (s := Z) (T := s.setVm vm) hZ.alike A.2.1) A.2.2 (fun q => q.elim hj fun q => absurd (Array.getElem?_eq_some_iff.mp hv).1 (Nat.not_lt.mpr q)) hv (g := mkF m pc L (.int j :: .ref a :: st)) rfl rfl hd _ r1, r2⟩
theorem Go.aaload {a : Addr} {kA : ClassId} {ty : FieldType} {vs : List Value} {j : Int32} {v : Value} (A : Ar Z h a kA ty vs) (hty : ty.isReference = true) (hj : ¬ j < 0) (hv : vs[j.toNatClampNeg]? = some v) (hd : decode c.code pc = .ok (.aaload, 1)) (hp : pc + 1 = pc') (K : Go p l e R s m args below meth c Z a0 EL nw Q vm h k n pc' L (v :: st)) : Go p l e R s m args below meth c Z a0 EL nw Q vm h k n pc L (.int j :: .ref a :: st) := fun T locs k0 hx hk hE X eT hS hk0 hF hZ hN hC hO => by
  subst hp
  obtain ⟨t, v', L', r1, r2⟩ := K T locs k0 hx hk hE X eT hS hk0 hF hZ hN hC hO
  obtain ⟨cl, A, -, rfl⟩ := A
  rw [Array.getElem?_toList] at hv
  exact ⟨t, v', L', X.aaload hx (cell := cl) (by rw [eT]; exact A.1) (State.isArrayOf_alike (s := Z) (T := s.setVm vm) hZ.alike A.2.1) hty A.2.2 (fun q => q.elim hj fun q => absurd (Array.getElem?_eq_some_iff.mp hv).1 (Nat.not_lt.mpr q)) hv (g := mkF m pc L (.int j :: .ref a :: st)) rfl rfl hd _ r1, r2⟩
theorem Go.newO {own C : String} {index nn : Nat} (hown : Z.vm.findClass own = some m.cls) (w : (Jvm.Cond.classLink own index C).before a0 Z = true) (wi : (Jvm.Cond.instantiable C nn).before a0 Z = true) (wz : (Jvm.Cond.initialized C).before a0 Z = true) (hd : decode c.code pc = .ok (.new index, 3)) (hp : pc + 3 = pc') (hc : k + 1 ≤ R.cells) (hl : n + nn ≤ R.slots)
    (K : ∀ (h' : Heap) (a : Addr), h.size ≤ a → h'.size > a → Ext h h' → Exa Z h' a C → (∀ {O nm d : String} {ty : FieldType}, Laid Z a0 C O nm d → parseFieldDescriptor d = some ty → Fld Z h' a O nm d (defaultValue ty)) → Safe Z EL vm h' a → CHr Z EL vm h vm h' → Go p l e R s m args below meth c Z a0 EL nw Q vm h' (k + 1) (n + nn) pc' L (.ref a :: st)) : Go p l e R s m args below meth c Z a0 EL nw Q vm h k n pc L st := fun T locs k0 hx hk hE X eT hS hk0 hF hZ hN hC hO => by
  subst hp
  have hown' : (s.setVm vm).vm.findClass own = some m.cls := by
    show vm.findClass own = _
    rw [hZ.alike.findClass]; exact hown
  obtain ⟨T', h', X', e', E', A', D', -, st'⟩ := RoadKit.newO X hx (s := s.setVm vm) hZ hown' w wi wz eT (g := mkF m pc L st) rfl hd hc hl
  obtain ⟨t, v, L', r1, r2⟩ := K h' h.size (Nat.le_refl _) A'.lt E' A' D' (Safe.ext E' hC.1 (Safe.new (Nat.le_refl _))) (CHr.ext E' hC.1) T' locs k0 hx hk hE X' e' hS (Nat.le_trans hk0 E'.1) hF hZ hN (hC.trans (CHr.ext E' hC.1)) (ext_trans hO E')
  exact ⟨t, v, L', st' _ r1, r2⟩
theorem Go.newP {aty : ArrayType} {ty : FieldType} {z : Int32} {cap : Nat} (hty : newarray.typeOf aty = ty) (w : (Jvm.Cond.arrayClass ty).before a0 Z = true) (hd : decode c.code pc = .ok (.newarray aty, 2)) (hp : pc + 2 = pc') (hz : ¬ z < 0) (hcap : z.toNatClampNeg ≤ cap) (hb : cap * 8 ≤ 536870912) (hc : k + 1 ≤ R.cells) (hl : n + cap ≤ R.slots)
    (K : ∀ (h' : Heap) (a : Addr) (kA : ClassId), h.size ≤ a → h'.size > a → Ext h h' → Ar Z h' a kA ty (List.replicate z.toNatClampNeg (defaultValue ty)) → Safe Z EL vm h' a → CHr Z EL vm h vm h' → Go p l e R s m args below meth c Z a0 EL nw Q vm h' (k + 1) (n + cap) pc' L (.ref a :: st)) : Go p l e R s m args below meth c Z a0 EL nw Q vm h k n pc L (.int z :: st) := fun T locs k0 hx hk hE X eT hS hk0 hF hZ hN hC hO => by
  subst hp hty
  obtain ⟨T', h', cA, X', e', E', A', st'⟩ := RoadKit.newP X hx (s := s.setVm vm) hZ w eT (g := mkF m pc L (.int z :: st)) rfl hd rfl hz hcap hb hc hl
  obtain ⟨t, v, L', r1, r2⟩ := K h' h.size cA (Nat.le_refl _) A'.lt E' ⟨_, A', rfl, by simp [newA]⟩ (Safe.ext E' hC.1 (Safe.new (Nat.le_refl _))) (CHr.ext E' hC.1) T' locs k0 hx hk hE X' e' hS (Nat.le_trans hk0 E'.1) hF hZ hN (hC.trans (CHr.ext E' hC.1)) (ext_trans hO E')
  exact ⟨t, v, L', st' _ r1, r2⟩
theorem Go.newR {own C : String} {index : Nat} {z : Int32} {cap : Nat} (hown : Z.vm.findClass own = some m.cls) (w1 : (Jvm.Cond.classLink own index C).before a0 Z = true) (w2 : (Jvm.Cond.arrayOver (.object C)).before a0 Z = true) (hd : decode c.code pc = .ok (.anewarray index, 3)) (hp : pc + 3 = pc') (hz : ¬ z < 0) (hcap : z.toNatClampNeg ≤ cap) (hb : cap * 8 ≤ 536870912) (hc : k + 1 ≤ R.cells) (hl : n + cap ≤ R.slots)
    (K : ∀ (h' : Heap) (a : Addr) (kA : ClassId), h.size ≤ a → h'.size > a → Ext h h' → Ar Z h' a kA (.object C) (List.replicate z.toNatClampNeg .null) → Ovr Z kA C → CHr Z EL vm h vm h' → Go p l e R s m args below meth c Z a0 EL nw Q vm h' (k + 1) (n + cap) pc' L (.ref a :: st)) : Go p l e R s m args below meth c Z a0 EL nw Q vm h k n pc L (.int z :: st) := fun T locs k0 hx hk hE X eT hS hk0 hF hZ hN hC hO => by
  subst hp
  have hown' : (s.setVm vm).vm.findClass own = some m.cls := by
    show vm.findClass own = _
    rw [hZ.alike.findClass]; exact hown
  obtain ⟨T', h', cA, X', e', E', A', O', st'⟩ := RoadKit.newR X hx (s := s.setVm vm) hZ hown' w1 w2 eT (g := mkF m pc L (.int z :: st)) rfl hd rfl hz hcap hb hc hl
  obtain ⟨t, v, L', r1, r2⟩ := K h' h.size cA (Nat.le_refl _) A'.lt E' ⟨_, A', rfl, by simp [newA, defaultValue]⟩ O' (CHr.ext E' hC.1) T' locs k0 hx hk hE X' e' hS (Nat.le_trans hk0 E'.1) hF hZ hN (hC.trans (CHr.ext E' hC.1)) (ext_trans hO E')
  exact ⟨t, v, L', st' _ r1, r2⟩
theorem Go.putF {own R0 O nm d C : String} {index kk : Nat} {ty : FieldType} {a : Addr} {v v' old : Value} (hown : Z.vm.findClass own = some m.cls) (w : (Jvm.Cond.fieldLink own index R0 nm d).before a0 Z = true) (via : Via Z R0 O nm d) (F : Fld Z h a O nm d old) (E : Exa Z h a C)
    (Ly : (Jvm.Cond.lays C O nm d).before a0 Z = true ∨ ((Jvm.Cond.laysFinal C O nm d).before a0 Z = true ∧ own = O ∧ meth.name = "<init>")) (wi : (Jvm.Cond.instantiable C kk).before a0 Z = true) (hty : parseFieldDescriptor d = some ty) (hn : narrow ty v = v') (hf : fits ty v' = true) (hs0 : (C ≠ "java/lang/String" ∧ C ≠ "[B") ∨ Safe Z EL vm h a) (hge : Z.heap.size ≤ a) (hd : decode c.code pc = .ok (.putfield index, 3)) (hp : pc + 3 = pc')
    (K : ∀ (h' : Heap), Wr h h' a (RoadKit.slotOf Z O nm d) v' → h'.size = h.size → Keep h h' [a] → CHr Z EL vm h vm h' → Go p l e R s m args below meth c Z a0 EL nw Q vm h' k n pc' L st) : Go p l e R s m args below meth c Z a0 EL nw Q vm h k n pc L (v :: .ref a :: st) := fun T locs k0 hx hk hE X eT hS hk0 hF hZ hN hC hO => by
  subst hp
  have hown' : (s.setVm vm).vm.findClass own = some m.cls := by
    show vm.findClass own = _
    rw [hZ.alike.findClass]; exact hown
  have hs : Safe Z EL vm h a := hs0.elim (fun q => Safe.exa hZ.alike E q.1 q.2) id
  obtain ⟨T', h', X', e', W', st'⟩ := RoadKit.putFN X hx (s := s.setVm vm) hZ hown' w via eT F E Ly wi hty hn hf (g := mkF m pc L (v :: .ref a :: st)) rfl rfl hd
  obtain ⟨t, v, L', r1, r2⟩ := K h' W' W'.size (Keep.of_wr W') (CHr.wr W' hs hC.1) T' _ k0 hx hk hE X' e' hS (by rw [W'.size]; exact hk0) (Fr.snoc X' hF hge) hZ hN (hC.trans (CHr.wr W' hs hC.1)) (ext_wr hO W' hge)
  exact ⟨t, v, L', st' _ r1, r2⟩
theorem Go.putFN {own R0 O nm d C host : String} {index kk : Nat} {ty : FieldType} {a : Addr} {v old : Value} (hown : Z.vm.findClass own = some m.cls) (w : (Jvm.Cond.fieldLinkNest own index R0 nm d host).before a0 Z = true) (via : Via Z R0 O nm d) (F : Fld Z h a O nm d old) (E : Exa Z h a C)
    (Ly : (Jvm.Cond.lays C O nm d).before a0 Z = true ∨ ((Jvm.Cond.laysFinal C O nm d).before a0 Z = true ∧ own = O ∧ meth.name = "<init>")) (wi : (Jvm.Cond.instantiable C kk).before a0 Z = true) (hty : parseFieldDescriptor d = some ty) (hn : narrow ty v = v) (hf : fits ty v = true) (hs0 : (C ≠ "java/lang/String" ∧ C ≠ "[B") ∨ Safe Z EL vm h a) (hge : Z.heap.size ≤ a) (hd : decode c.code pc = .ok (.putfield index, 3)) (hp : pc + 3 = pc')
    (K : ∀ (h' : Heap), Wr h h' a (RoadKit.slotOf Z O nm d) v → h'.size = h.size → Keep h h' [a] → CHr Z EL vm h vm h' → Go p l e R s m args below meth c Z a0 EL nw Q vm h' k n pc' L st) : Go p l e R s m args below meth c Z a0 EL nw Q vm h k n pc L (v :: .ref a :: st) := fun T locs k0 hx hk hE X eT hS hk0 hF hZ hN hC hO => by
  subst hp
  have hown' : (s.setVm vm).vm.findClass own = some m.cls := by
    show vm.findClass own = _
    rw [hZ.alike.findClass]; exact hown
  have hs : Safe Z EL vm h a := hs0.elim (fun q => Safe.exa hZ.alike E q.1 q.2) id
  obtain ⟨T', h', X', e', W', st'⟩ := RoadKit.putF X hx (s := s.setVm vm) hZ hown' (Or.inr w) via eT F E Ly wi hty hn hf (g := mkF m pc L (v :: .ref a :: st)) rfl rfl hd
  obtain ⟨t, v, L', r1, r2⟩ := K h' W' W'.size (Keep.of_wr W') (CHr.wr W' hs hC.1) T' _ k0 hx hk hE X' e' hS (by rw [W'.size]; exact hk0) (Fr.snoc X' hF hge) hZ hN (hC.trans (CHr.wr W' hs hC.1)) (ext_wr hO W' hge)
  exact ⟨t, v, L', st' _ r1, r2⟩
theorem Go.castore {a : Addr} {kA : ClassId} {vs : List Value} {j x : Int32} (A : Ar Z h a kA .char vs) (hj : ¬ j < 0) (hlt : j.toNatClampNeg < vs.length) (hge : Z.heap.size ≤ a) (hd : decode c.code pc = .ok (.castore, 1)) (hp : pc + 1 = pc')
    (K : ∀ (h' : Heap), Ar Z h' a kA .char (vs.set j.toNatClampNeg (.int (nar .char x))) → h'.size = h.size → Keep h h' [a] → Safe Z EL vm h' a → CHr Z EL vm h vm h' → Go p l e R s m args below meth c Z a0 EL nw Q vm h' k n pc' L st) : Go p l e R s m args below meth c Z a0 EL nw Q vm h k n pc L (.int x :: .int j :: .ref a :: st) := fun T locs k0 hx hk hE X eT hS hk0 hF hZ hN hC hO => by
  subst hp
  have A0 := A
  have hs : Safe Z EL vm h a := A.safe hZ.alike (by intro q; cases q)
  obtain ⟨cl, A, -, e2⟩ := A
  have hin : ¬ (j < 0 ∨ cl.slots.size ≤ j.toNatClampNeg) := fun q => q.elim hj fun q => by rw [← e2] at hlt; simp at hlt; omega
  obtain ⟨T', h', X', e', W', st'⟩ := RoadKit.stC X hx (s := s.setVm vm) hZ eT A hin (g := mkF m pc L (.int x :: .int j :: .ref a :: st)) rfl rfl hd
  obtain ⟨t, v, L', r1, r2⟩ := K h' (A0.set W') W'.size (Keep.of_wr W') (Safe.wr W' hs hC.1 hs) (CHr.wr W' hs hC.1) T' _ k0 hx hk hE X' e' hS (by rw [W'.size]; exact hk0) (Fr.snoc X' hF hge) hZ hN (hC.trans (CHr.wr W' hs hC.1)) (ext_wr hO W' hge)
  exact ⟨t, v, L', st' _ r1, r2⟩
theorem Go.bastore {a : Addr} {kA : ClassId} {vs : List Value} {j x : Int32} (A : Ar Z h a kA .byte vs) (hj : ¬ j < 0) (hlt : j.toNatClampNeg < vs.length) (hs : Safe Z EL vm h a) (hge : Z.heap.size ≤ a) (hd : decode c.code pc = .ok (.bastore, 1)) (hp : pc + 1 = pc')
    (K : ∀ (h' : Heap), Ar Z h' a kA .byte (vs.set j.toNatClampNeg (.int (nar .byte x))) → h'.size = h.size → Keep h h' [a] → Safe Z EL vm h' a → CHr Z EL vm h vm h' → Go p l e R s m args below meth c Z a0 EL nw Q vm h' k n pc' L st) : Go p l e R s m args below meth c Z a0 EL nw Q vm h k n pc L (.int x :: .int j :: .ref a :: st) := fun T locs k0 hx hk hE X eT hS hk0 hF hZ hN hC hO => by
  subst hp
  have A0 := A
  obtain ⟨cl, A, -, e2⟩ := A
  have hin : ¬ (j < 0 ∨ cl.slots.size ≤ j.toNatClampNeg) := fun q => q.elim hj fun q => by rw [← e2] at hlt; simp at hlt; omega
  obtain ⟨T', h', X', e', W', st'⟩ := RoadKit.stB X hx (s := s.setVm vm) hZ eT A hin (g := mkF m pc L (.int x :: .int j :: .ref a :: st)) rfl rfl hd
  obtain ⟨t, v, L', r1, r2⟩ := K h' (A0.set W') W'.size (Keep.of_wr W') (Safe.wr W' hs hC.1 hs) (CHr.wr W' hs hC.1) T' _ k0 hx hk hE X' e' hS (by rw [W'.size]; exact hk0) (Fr.snoc X' hF hge) hZ hN (hC.trans (CHr.wr W' hs hC.1)) (ext_wr hO W' hge)
  exact ⟨t, v, L', st' _ r1, r2⟩
theorem Go.zastore {a : Addr} {kA : ClassId} {vs : List Value} {j x : Int32} (A : Ar Z h a kA .boolean vs) (hj : ¬ j < 0) (hlt : j.toNatClampNeg < vs.length) (hge : Z.heap.size ≤ a) (hd : decode c.code pc = .ok (.bastore, 1)) (hp : pc + 1 = pc')
    (K : ∀ (h' : Heap), Ar Z h' a kA .boolean (vs.set j.toNatClampNeg (.int (nar .boolean x))) → h'.size = h.size → Keep h h' [a] → Safe Z EL vm h' a → CHr Z EL vm h vm h' → Go p l e R s m args below meth c Z a0 EL nw Q vm h' k n pc' L st) : Go p l e R s m args below meth c Z a0 EL nw Q vm h k n pc L (.int x :: .int j :: .ref a :: st) := fun T locs k0 hx hk hE X eT hS hk0 hF hZ hN hC hO => by
  subst hp
  have A0 := A
  have hs : Safe Z EL vm h a := A.safe hZ.alike (by intro q; cases q)
  obtain ⟨cl, A, -, e2⟩ := A
  have hin : ¬ (j < 0 ∨ cl.slots.size ≤ j.toNatClampNeg) := fun q => q.elim hj fun q => by rw [← e2] at hlt; simp at hlt; omega
  obtain ⟨T', h', X', e', W', st'⟩ := RoadKit.stZ X hx (s := s.setVm vm) hZ eT A hin (g := mkF m pc L (.int x :: .int j :: .ref a :: st)) rfl rfl hd
  obtain ⟨t, v, L', r1, r2⟩ := K h' (A0.set W') W'.size (Keep.of_wr W') (Safe.wr W' hs hC.1 hs) (CHr.wr W' hs hC.1) T' _ k0 hx hk hE X' e' hS (by rw [W'.size]; exact hk0) (Fr.snoc X' hF hge) hZ hN (hC.trans (CHr.wr W' hs hC.1)) (ext_wr hO W' hge)
  exact ⟨t, v, L', st' _ r1, r2⟩
theorem Go.iastore {a : Addr} {kA : ClassId} {vs : List Value} {j x : Int32} (A : Ar Z h a kA .int vs) (hj : ¬ j < 0) (hlt : j.toNatClampNeg < vs.length) (hge : Z.heap.size ≤ a) (hd : decode c.code pc = .ok (.iastore, 1)) (hp : pc + 1 = pc')
    (K : ∀ (h' : Heap), Ar Z h' a kA .int (vs.set j.toNatClampNeg (.int x)) → h'.size = h.size → Keep h h' [a] → Safe Z EL vm h' a → CHr Z EL vm h vm h' → Go p l e R s m args below meth c Z a0 EL nw Q vm h' k n pc' L st) : Go p l e R s m args below meth c Z a0 EL nw Q vm h k n pc L (.int x :: .int j :: .ref a :: st) := fun T locs k0 hx hk hE X eT hS hk0 hF hZ hN hC hO => by
  subst hp
  have A0 := A
  have hs : Safe Z EL vm h a := A.safe hZ.alike (by intro q; cases q)
  obtain ⟨cl, A, -, e2⟩ := A
  have hin : ¬ (j < 0 ∨ cl.slots.size ≤ j.toNatClampNeg) := fun q => q.elim hj fun q => by rw [← e2] at hlt; simp at hlt; omega
  obtain ⟨T', h', X', e', W', st'⟩ := RoadKit.stI X hx (s := s.setVm vm) hZ eT A hin (g := mkF m pc L (.int x :: .int j :: .ref a :: st)) rfl rfl hd
  obtain ⟨t, v, L', r1, r2⟩ := K h' (A0.set W') W'.size (Keep.of_wr W') (Safe.wr W' hs hC.1 hs) (CHr.wr W' hs hC.1) T' _ k0 hx hk hE X' e' hS (by rw [W'.size]; exact hk0) (Fr.snoc X' hF hge) hZ hN (hC.trans (CHr.wr W' hs hC.1)) (ext_wr hO W' hge)
  exact ⟨t, v, L', st' _ r1, r2⟩
theorem Go.aastore {a : Addr} {kA : ClassId} {ty : FieldType} {vs : List Value} {j : Int32} {v : Value} (A : Ar Z h a kA ty vs) (hty : ty.isReference = true) (hj : ¬ j < 0) (hlt : j.toNatClampNeg < vs.length) (F : Sto Z h a v) (hge : Z.heap.size ≤ a) (hd : decode c.code pc = .ok (.aastore, 1)) (hp : pc + 1 = pc')
    (K : ∀ (h' : Heap), Ar Z h' a kA ty (vs.set j.toNatClampNeg v) → h'.size = h.size → Keep h h' [a] → CHr Z EL vm h vm h' → Go p l e R s m args below meth c Z a0 EL nw Q vm h' k n pc' L st) : Go p l e R s m args below meth c Z a0 EL nw Q vm h k n pc L (v :: .int j :: .ref a :: st) := fun T locs k0 hx hk hE X eT hS hk0 hF hZ hN hC hO => by
  subst hp
  have A0 := A
  have hs : Safe Z EL vm h a := A.safe hZ.alike (by rintro rfl; cases hty)
  obtain ⟨cl, A, -, e2⟩ := A
  have hin : ¬ (j < 0 ∨ cl.slots.size ≤ j.toNatClampNeg) := fun q => q.elim hj fun q => by rw [← e2] at hlt; simp at hlt; omega
  obtain ⟨T', h', X', e', W', st'⟩ := RoadKit.stR X hx (s := s.setVm vm) hZ eT A hin hty F (g := mkF m pc L (v :: .int j :: .ref a :: st)) rfl rfl hd
  obtain ⟨t, v, L', r1, r2⟩ := K h' (A0.set W') W'.size (Keep.of_wr W') (CHr.wr W' hs hC.1) T' _ k0 hx hk hE X' e' hS (by rw [W'.size]; exact hk0) (Fr.snoc X' hF hge) hZ hN (hC.trans (CHr.wr W' hs hC.1)) (ext_wr hO W' hge)
  exact ⟨t, v, L', st' _ r1, r2⟩
theorem Go.know {P : Prop} (q : Z.Warmed39 vm → CHv Z EL vm h → Ext Z.heap h → P) (K : P → Go p l e R s m args below meth c Z a0 EL nw Q vm h k n pc L st) : Go p l e R s m args below meth c Z a0 EL nw Q vm h k n pc L st := fun T locs k0 hx hk hE X eT hS hk0 hF hZ hN hC hO => K (q hZ hC.1 hO) T locs k0 hx hk hE X eT hS hk0 hF hZ hN hC hO
theorem Go.joinH {pcM k1 n1 : Nat} {P : Vm → Heap → Value → Prop} {F : Value → Array Slot} {S : Value → List Value} (J : ∀ vm' h' v, P vm' h' v → Go p l e R s m args below meth c Z a0 EL nw Q vm' h' k1 n1 pcM (F v) (S v)) (K : (∀ vm' h' v, P vm' h' v → Go p l e R s m args below meth c Z a0 EL nw Q vm' h' k1 n1 pcM (F v) (S v)) → Go p l e R s m args below meth c Z a0 EL nw Q vm h k n pc L st) : Go p l e R s m args below meth c Z a0 EL nw Q vm h k n pc L st := K J
theorem Go.joinI {pcM : Nat} {P : Int32 → Prop} {F : Int32 → Array Slot} {S : Int32 → List Value} (J : ∀ x, P x → Go p l e R s m args below meth c Z a0 EL nw Q vm h k n pcM (F x) (S x)) (K : (∀ x, P x → Go p l e R s m args below meth c Z a0 EL nw Q vm h k n pcM (F x) (S x)) → Go p l e R s m args below meth c Z a0 EL nw Q vm h k n pc L st) : Go p l e R s m args below meth c Z a0 EL nw Q vm h k n pc L st := K J
theorem Go.joinJ {pcM : Nat} {P : Int64 → Prop} {F : Int64 → Array Slot} {S : Int64 → List Value} (J : ∀ x, P x → Go p l e R s m args below meth c Z a0 EL nw Q vm h k n pcM (F x) (S x)) (K : (∀ x, P x → Go p l e R s m args below meth c Z a0 EL nw Q vm h k n pcM (F x) (S x)) → Go p l e R s m args below meth c Z a0 EL nw Q vm h k n pc L st) : Go p l e R s m args below meth c Z a0 EL nw Q vm h k n pc L st := K J
theorem Go.loop {pcH : Nat} {st0 : List Value} {Inv : Nat → Vm → Heap → Nat → Nat → Array Slot → Prop} (step : ∀ r vm h k n L, Inv r vm h k n L → (∀ r' vm' h' k' n' L', r' < r → Inv r' vm' h' k' n' L' → Go p l e R s m args below meth c Z a0 EL nw Q vm' h' k' n' pcH L' st0) → Go p l e R s m args below meth c Z a0 EL nw Q vm h k n pcH L st0) : ∀ r vm h k n L, Inv r vm h k n L → Go p l e R s m args below meth c Z a0 EL nw Q vm h k n pcH L st0 := by
  intro r
  induction r using Nat.strongRecOn with
  | ind r ih => intro vm h k n L hI; exact step r vm h k n L hI fun r' vm' h' k' n' L' hr hI' => ih r' hr vm' h' k' n' L' hI'
theorem Go.castNull {index : Nat} (hd : decode c.code pc = .ok (.checkcast index, 3)) (hp : pc + 3 = pc') (K : Go p l e R s m args below meth c Z a0 EL nw Q vm h k n pc' L (.null :: st)) : Go p l e R s m args below meth c Z a0 EL nw Q vm h k n pc L (.null :: st) := by
  subst hp
  exact Go.plain (fun T _ hx X _ r => Stand.checkcastNull X hx (g := mkF m pc L (.null :: st)) rfl (rest := st) rfl hd _ r) K
theorem Go.instNull {index : Nat} (hd : decode c.code pc = .ok (.instanceof index, 3)) (hp : pc + 3 = pc') (K : Go p l e R s m args below meth c Z a0 EL nw Q vm h k n pc' L (.int 0 :: st)) : Go p l e R s m args below meth c Z a0 EL nw Q vm h k n pc L (.null :: st) := by
  subst hp
  exact Go.plain (fun T _ hx X _ r => Stand.instanceofNull X hx (g := mkF m pc L (.null :: st)) rfl (rest := st) rfl hd _ r) K
theorem Go.ldcStr {own text : String} {index n0 : Nat} {vs : List Value} (hnw : ¬ nw) (hown : Z.vm.findClass own = some m.cls) (w : (Jvm.Cond.stringLink own index text).before a0 Z = true) (wS : ∀ a ∈ Bundle.stringAtoms, a.before a0 Z = true) (hmem : (own, index) ∈ EL)
    (ht : (∀ c ∈ text.toList, c.toNat < 256) ∧ text.toList.map (fun c => Value.int (Jvm.Lit.byteI c.toNat.toUInt16)) = vs) (hd : decode c.code pc = .ok (.ldc index, 2)) (hp : pc + 2 = pc') (hn : 4 * text.toList.length ≤ n0) (hbig : n0 ≤ 536870912) (hc : k + 2 ≤ R.cells) (hl : n + (n0 + 4) ≤ R.slots)
    (K : ∀ (vm' : Vm) (h' : Heap) (a b : Addr) (kA : ClassId), Ext h h' → CHr Z EL vm h vm' h' → Exa Z h' a "java/lang/String" → Fld Z h' a "java/lang/String" "coder" "B" (.int 0) → Fld Z h' a "java/lang/String" "value" "[B" (.ref b) → Ar Z h' b kA .byte vs → h'.size > a → h'.size > b → (∀ x, Safe Z EL vm' h' x → x ≠ a ∧ x ≠ b) → Go p l e R s m args below meth c Z a0 EL nw Q vm' h' (k + 2) (n + (n0 + 4)) pc' L (.ref a :: st)) : Go p l e R s m args below meth c Z a0 EL nw Q vm h k n pc L st := fun T locs k0 hx hk hE X eT hS hk0 hF hZ hN hC hO => by
  subst hp
  have hown' : (s.setVm vm).vm.findClass own = some m.cls := by
    show vm.findClass own = _
    rw [hZ.alike.findClass]; exact hown
  have hlen : vs.length = text.toList.length := by rw [← ht.2, List.length_map]
  have hz : ¬ (vs.length.toInt32 < 0) := by
    have q : vs.length < 2 ^ 31 := by omega
    have := Int32.toInt_ofNat_small q
    intro z
    have := Int32.lt_iff_toInt_lt.mp z
    have e0 : (0 : Int32).toInt = 0 := rfl
    have e1 : vs.length.toInt32.toInt = vs.length := Int32.toInt_ofNat_small q
    omega
  have hlz : vs.length.toInt32.toNatClampNeg = vs.length := by
    have q : vs.length < 2 ^ 31 := by omega
    have e1 : vs.length.toInt32.toInt = vs.length := Int32.toInt_ofNat_small q
    rw [← Int32.toNat_toInt, e1]; rfl
  obtain ⟨a, T', h', k1, b, kA, X', e', E', hS', hk', hZ', hown2, x1, x2, x3, x4, x5, x6, hC', -, hsafe, st'⟩ := ldcCH X hx hZ hown' w wS eT hS hk0 hE hmem hC.1 ht hz hlz (g := mkF m pc L st) rfl hd hn hbig hc hl
  obtain ⟨t, v, L', r1, r2⟩ := K T'.vm h' a b kA E' hC' x1 x2 x3 (Ar.of_arv x4 hlz) x5 x6 hsafe T' locs k1 hx hk hE X' e' hS' hk' hF hZ' (fun q => absurd q hnw) (hC.trans hC') (ext_trans hO E')
  exact ⟨t, v, L', st' _ r1, r2⟩
theorem Go.ldcRef {own text : String} {index n0 : Nat} (hnw : ¬ nw) (hown : Z.vm.findClass own = some m.cls) (w : (Jvm.Cond.stringLink own index text).before a0 Z = true) (wS : ∀ a ∈ Bundle.stringAtoms, a.before a0 Z = true)
    (hd : decode c.code pc = .ok (.ldc index, 2)) (hp : pc + 2 = pc') (hn : 4 * text.toList.length ≤ n0) (hbig : n0 ≤ 536870912) (hc : k + 2 ≤ R.cells) (hl : n + (n0 + 4) ≤ R.slots)
    (K : ∀ (vm' : Vm) (h' : Heap) (a : Addr), Ext h h' → CHr Z EL vm h vm' h' → Go p l e R s m args below meth c Z a0 EL nw Q vm' h' (k + 2) (n + (n0 + 4)) pc' L (.ref a :: st)) : Go p l e R s m args below meth c Z a0 EL nw Q vm h k n pc L st := fun T locs k0 hx hk hE X eT hS hk0 hF hZ hN hC hO => by
  subst hp
  have hown' : (s.setVm vm).vm.findClass own = some m.cls := by
    show vm.findClass own = _
    rw [hZ.alike.findClass]; exact hown
  obtain ⟨a, T', h', k1, X', e', E', hS', hk', hZ', hown2, hC', -, st'⟩ := ldcOH X hx hZ hown' w wS eT hS hk0 hE hC.1 (g := mkF m pc L st) rfl hd hn hbig hc hl
  obtain ⟨t, v, L', r1, r2⟩ := K T'.vm h' a E' hC' T' locs k1 hx hk hE X' e' hS' hk' hF hZ' (fun q => absurd q hnw) (hC.trans hC') (ext_trans hO E')
  exact ⟨t, v, L', st' _ r1, r2⟩
theorem Go.ret (hret : meth.sig.returnType = none) (hd : decode c.code pc = .ok (.return_, 1)) (hk1 : k ≤ R.cells) (hn1 : n ≤ R.slots) (q : ∀ vm', CHr Z EL vm h vm' h → Q none vm' h) : Go p l e R s m args below meth c Z a0 EL nw Q vm h k n pc L [] := fun T locs k0 hx hk hE X eT hS hk0 hF hZ hN hC hO => by
  subst eT
  obtain ⟨fs, h1, h2, h3, h4⟩ := X.leaveW hS hk0 (v := none) (fun _ => rfl) hk
  have hA := CHv.at X hZ hE hC.1
  refine ⟨_, none, locs, X.returnOut hx hret hd h1, h2, h3, hF, q _ hA, hC.trans hA, hO, ?_, fun z => State.WarmedH.trans (t := s.setVm vm) (hN z) X.warmed⟩
  exact ⟨h4.1, h4.2.1, h4.2.2.1, h4.2.2.2.mono hk1 hn1⟩
theorem Go.retV {w : Value} {t : FieldType} {i : Instr} (hret : meth.sig.returnType = some t) (hn : narrow t w = w)
    (hi : (i = .ireturn ∧ (t = .int ∨ t = .boolean ∨ t = .byte ∨ t = .char ∨ t = .short) ∧ ∃ z, w = .int z) ∨ (i = .lreturn ∧ t = .long ∧ ∃ z, w = .long z) ∨ (i = .dreturn ∧ t = .double ∧ ∃ z, w = .double z) ∨ (i = .freturn ∧ t = .float ∧ ∃ z, w = .float z) ∨ (i = .areturn ∧ t.isReference = true ∧ w.isRef = true))
    (hd : decode c.code pc = .ok (i, 1)) (hk1 : k ≤ R.cells) (hn1 : n ≤ R.slots) (q : ∀ vm', CHr Z EL vm h vm' h → Q (some w) vm' h) : Go p l e R s m args below meth c Z a0 EL nw Q vm h k n pc L (w :: st) := fun T locs k0 hx hk hE X eT hS hk0 hF hZ hN hC hO => by
  subst eT
  obtain ⟨fs, h1, h2, h3, h4⟩ := X.leaveW hS hk0 (v := some w) (fun z => by rw [hret] at z; cases z) hk
  have hA := CHv.at X hZ hE hC.1
  refine ⟨_, some w, locs, retOut X hx hret hn hi hd h1, h2, h3, hF, q _ hA, hC.trans hA, hO, ?_, fun z => State.WarmedH.trans (t := s.setVm vm) (hN z) X.warmed⟩
  exact ⟨h4.1, h4.2.1, h4.2.2.1, h4.2.2.2.mono hk1 hn1⟩
theorem Go.retA {w : Value} {t : FieldType} (hret : meth.sig.returnType = some t) (ht : t.isReference = true) (hw : w.isRef = true) (hd : decode c.code pc = .ok (.areturn, 1)) (hk1 : k ≤ R.cells) (hn1 : n ≤ R.slots) (q : ∀ vm', CHr Z EL vm h vm' h → Q (some w) vm' h) : Go p l e R s m args below meth c Z a0 EL nw Q vm h k n pc L (w :: st) :=
  Go.retV hret (by cases t <;> simp [FieldType.isReference] at ht <;> cases w <;> simp [Value.isRef] at hw <;> rfl) (Or.inr (Or.inr (Or.inr (Or.inr ⟨rfl, ht, hw⟩)))) hd hk1 hn1 q
theorem Go.retI {z : Int32} (hret : meth.sig.returnType = some .int) (hd : decode c.code pc = .ok (.ireturn, 1)) (hk1 : k ≤ R.cells) (hn1 : n ≤ R.slots) (q : ∀ vm', CHr Z EL vm h vm' h → Q (some (.int z)) vm' h) : Go p l e R s m args below meth c Z a0 EL nw Q vm h k n pc L (.int z :: st) :=
  Go.retV hret rfl (Or.inl ⟨rfl, Or.inl rfl, _, rfl⟩) hd hk1 hn1 q
theorem Go.retJ {z : Int64} (hret : meth.sig.returnType = some .long) (hd : decode c.code pc = .ok (.lreturn, 1)) (hk1 : k ≤ R.cells) (hn1 : n ≤ R.slots) (q : ∀ vm', CHr Z EL vm h vm' h → Q (some (.long z)) vm' h) : Go p l e R s m args below meth c Z a0 EL nw Q vm h k n pc L (.long z :: st) :=
  Go.retV hret rfl (Or.inr (Or.inl ⟨rfl, rfl, _, rfl⟩)) hd hk1 hn1 q
theorem Go.retN {z : Int32} {t : FieldType} (hret : meth.sig.returnType = some t) (ht : t = .boolean ∨ t = .byte ∨ t = .char ∨ t = .short) (hd : decode c.code pc = .ok (.ireturn, 1)) (hk1 : k ≤ R.cells) (hn1 : n ≤ R.slots) (q : ∀ vm', CHr Z EL vm h vm' h → Q (some (.int (nar t z))) vm' h) : Go p l e R s m args below meth c Z a0 EL nw Q vm h k n pc L (.int z :: st) := fun T locs k0 hx hk hE X eT hS hk0 hF hZ hN hC hO => by
  subst eT
  obtain ⟨fs, h1, h2, h3, h4⟩ := X.leaveW hS hk0 (v := some (.int (nar t z))) (fun z => by rw [hret] at z; cases z) hk
  have hA := CHv.at X hZ hE hC.1
  refine ⟨_, some (.int (nar t z)), locs, RoadKit.retN X hx hret ht hd h1, h2, h3, hF, q _ hA, hC.trans hA, hO, ?_, fun z => State.WarmedH.trans (t := s.setVm vm) (hN z) X.warmed⟩
  exact ⟨h4.1, h4.2.1, h4.2.2.1, h4.2.2.2.mono hk1 hn1⟩
theorem Ct.of_go {ws : List Jvm.Cond} {y : MethodName} {bytes : ByteArray} {maxL : Nat} {ret : Option FieldType} {rm : Room} {as : Array Value} {sf : List Addr} {L0 : Array Slot} (hEL : EW Z a0 EL) (pn : plainName y.cls = true) (hL : ∀ m, entryFrame m as maxL = mkF m 0 L0 [])
    (body : ∀ (p : Program) (e : Env) (s : State) (m : MethodId) (below : List Frame) (meth : Method) (c : Code), Z.vm.findClass y.cls = some m.cls → c.code = bytes → c.maxLocals = maxL → meth.sig.returnType = ret → meth.name = y.name → Z.Warmed39 s.vm → CHv Z EL s.vm h → Ext Z.heap h → (∀ x ∈ sf, Safe Z EL s.vm h x) →
      Go p l e rm s m as below meth c Z a0 EL nw Q s.vm h 0 0 0 L0 []) : Ct l Z EL nw ws y bytes maxL ret rm as h sf Q := by
  refine MetFree.of_bodySF (plainFor_of_name pn) hisR ?_
  intro p e s m args below meth c s₁ Bd hml hP hK
  obtain ⟨rfl, hZ, hh, hC, hO, hsf⟩ := hP
  have hown : s.vm.findClass y.cls = some m.cls := findClass_of_methodNamed Bd.named
  have hnm := (name_of_methodNamed Bd.named Bd.method).1
  have X0 : Stand p l e rm (s.setVm s.vm) m args below meth c s₁ [] 0 0 := Stand.of_body Bd
  have e0 : s₁.heap = h := by rw [← hh, Bd.state]; rfl
  have hC0 : CHr Z EL s.vm s.heap s.vm h := by rw [hh]; exact CHr.refl hC
  obtain ⟨t, v, L', r1, r2, r3, r4, r5, r6, r7, r8, r9⟩ := body p e s m below meth c (by rw [← hZ.alike.findClass]; exact hown) Bd.bytes hml Bd.returns hnm hZ hC hO hsf s₁ [] 0 Bd.exec Bd.notSynchronized hEL X0 e0 ((State.WarmedH.refl s).since 0) (Nat.zero_le _) (Fr.nil _) hZ (fun _ => State.WarmedH.refl s) hC0 hO
  exact ⟨t, .returned v, castTop (hL m) r1, r2, r3, v, L', rfl, r4, r5, r6, r7, r9, r8⟩
theorem Ct.back {y : MethodName} {bytes : ByteArray} {maxL : Nat} {ret : Option FieldType} {rm : Room} {len W : Nat} {as : Array Value} {sf : List Addr} {Q' : Option Value → Vm → Heap → Prop} (hM : Ct l Z EL nw [] y bytes maxL ret rm as h sf Q')
    (hZ : Z.Warmed39 vm) (wc : (Jvm.Cond.code y bytes maxL ret).before a0 Z = true) (wz : (Jvm.Cond.initialized y.cls).before a0 Z = true) (hf : rm.frames + 1 ≤ R.frames) (hl : W + (maxL + 11) + rm.locals ≤ R.locals) (hEL : EW Z a0 EL) (H : CHv Z EL vm h) (hO : Ext Z.heap h) (hsf : ∀ x ∈ sf, h.size > x ∧ Safe Z EL vm h x) :
    BackS l R p e below (s.setVm vm) args y len W (fun A a => a = as ∧ A.U.heap = h ∧ A.cells + rm.cells ≤ R.cells ∧ A.slots + rm.slots ≤ R.slots)
      (fun A _ v B => ∃ L, B.locs = A.locs ++ L ∧ B.cells = A.cells + rm.cells ∧ B.slots = A.slots + rm.slots ∧ Fr Z.heap.size L ∧ Q' v B.U.vm B.U.heap ∧ CHr Z EL vm h B.U.vm B.U.heap ∧ Ext Z.heap B.U.heap ∧ (nw → (s.setVm vm).WarmedH B.U.vm)) :=
  BackS.of_freeW (bytes := bytes) (maxL := maxL) (ret := ret) (E := fun _ first o t L k n => k = rm.cells ∧ n = rm.slots ∧ ∃ v, o = .returned v ∧ Fr Z.heap.size L ∧ Q' v t.vm t.heap ∧ CHr Z EL first.vm first.heap t.vm t.heap ∧ Ext Z.heap t.heap ∧ (nw → first.WarmedH t.vm)) hM hf hl
    (fun m meth c A a Y hp => have hU : Z.Warmed39 A.U.vm := wtrans (s := s.setVm vm) hZ Y.warmed
      ⟨by show (Jvm.Cond.and _ .tt).before a A.U = true; rw [Cond.before_and, mv hU wc]; rfl, mv hU wc, mv hU wz, hp.2.2.1, hp.2.2.2⟩)
    (fun m meth c A a g mk Y hp => ⟨hp.1, wtrans (s := s.setVm vm) hZ Y.warmed, hp.2.1, (CHv.at Y hZ hEL H).1, hO, fun x hx => (CHv.at Y hZ hEL H).safe (hsf x hx).1 (hsf x hx).2⟩) (fun _ _ _ _ _ _ _ _ _ => trivial)
    (fun _ _ _ _ ⟨v, L, h1, h2, h3, h4, h5, h6, h7⟩ => ⟨L, _, _, h7, rfl, rfl, v, h1, h2, h3, h4, h5, h6⟩)
    (fun m meth c A a g mk v t L k n Y hp _ _ ⟨e1, e2, v', e3, e4, e5, e6, e7, e8⟩ => by
      cases e3; subst e1 e2
      refine ⟨L, rfl, rfl, rfl, e4, e5, (CHv.at Y hZ hEL H).trans ?_, e7, fun z => State.WarmedH.trans Y.warmed (e8 z)⟩
      rw [← hp.2.1]; exact e6)
theorem nf_warm {y : MethodName} (hZ : Z.Warmed39 vm) (nf : NotFace Z y) : NotFace (s.setVm vm) y := fun r0 hr => by
  have q : Z.methodNamed? y = some r0 := by
    have := State.methodNamed?_setVm (s := Z) (vm' := vm) hZ.alike y
    rw [← this]; exact hr
  obtain ⟨kr, h1, h2⟩ := nf r0 q
  obtain ⟨kr', g1, g2⟩ := hZ.alike.2.2 _ _ h1
  exact ⟨kr', g1, by rw [g2]; exact h2⟩
theorem Go.callS {own : String} {y : MethodName} {bytes : ByteArray} {maxL : Nat} {ret : Option FieldType} {rm : Room} {W index : Nat} {argsL : List Value} {as : Array Value} {sf : List Addr} {Q' : Option Value → Vm → Heap → Prop} (hM : Ct l Z EL nw [] y bytes maxL ret rm as h sf Q') (hown : Z.vm.findClass own = some m.cls) (w1 : (Jvm.Cond.methodLink own index y).before a0 Z = true) (w2 : (Jvm.Cond.static y).before a0 Z = true) (wc : (Jvm.Cond.code y bytes maxL ret).before a0 Z = true) (wz : (Jvm.Cond.initialized y.cls).before a0 Z = true)
    (hy : y.cls ≠ "java/lang/invoke/MethodHandle" ∧ y.cls ≠ "java/lang/invoke/VarHandle") (hlen : ∀ sig, parseMethodDescriptor y.desc = some sig → argsL.length = sig.parameters.length) (has : as = argsL.toArray) (hL : L.size = c.maxLocals) (hW : (st.map fun v => v.category).sum = W) (hd : decode c.code pc = .ok (.invokestatic index, 3)) (hp : pc + 3 = pc') (hf : rm.frames + 1 ≤ R.frames) (hl : W + (maxL + 11) + rm.locals ≤ R.locals) (hc1 : k + rm.cells ≤ R.cells) (hc2 : n + rm.slots ≤ R.slots) (hsf : ∀ x ∈ sf, h.size > x ∧ Safe Z EL vm h x)
    (K : ∀ (v : Option Value) (vm' : Vm) (h' : Heap), Q' v vm' h' → CHr Z EL vm h vm' h' → Go p l e R s m args below meth c Z a0 EL nw Q vm' h' (k + rm.cells) (n + rm.slots) pc' L (v.toList ++ st)) : Go p l e R s m args below meth c Z a0 EL nw Q vm h k n pc L (argsL.reverse ++ st) := fun T locs k0 hx hk hE X eT hS hk0 hF hZ hN hC hO => by
  subst hp has
  have hown' : (s.setVm vm).vm.findClass own = some m.cls := by
    show vm.findClass own = _
    rw [hZ.alike.findClass]; exact hown
  have hWW : 2 * (mkF m pc L (argsL.reverse ++ st)).monitorRoom + (st.map fun v => v.category).sum ≤ W := by show 2 * 0 + _ ≤ _; rw [Nat.mul_zero, Nat.zero_add]; exact Nat.le_of_eq hW
  have hB := fun len => Ct.back (p := p) (e := e) (below := below) (s := s) (args := args) (len := len) hM hZ wc wz hf hl hE hC.1 hO hsf
  obtain ⟨v, vm1, ⟨T', L1, k1, n1⟩, -, X', hS', hg', hP', st'⟩ := callSS X hx hown' (mv (s := s.setVm vm) hZ w1) (mv (s := s.setVm vm) hZ w2) (mv (s := s.setVm vm) hZ wz) (mv (s := s.setVm vm) hZ wc) hy (hB 3) (g := mkF m pc L (argsL.reverse ++ st)) rfl hL hlen rfl hWW hd (fun _ _ => ⟨rfl, eT, hc1, hc2⟩)
  dsimp only [Pt.U, Pt.locs, Pt.cells, Pt.slots] at X' hS' hg' hP' st'
  obtain ⟨L2, rfl, rfl, rfl, q1, q2, q3, q4, q5⟩ := hP'
  obtain ⟨t, v', L', r1, r2⟩ := K v T'.vm T'.heap q2 q3 T' _ _ hx hk hE X' rfl (hS.trans hS' (Nat.le_trans hk0 (by rw [← eT]; exact hg'))) (Nat.le_refl _) (Fr.app hF q1) (State.Warmed39.trans (t := s.setVm vm) hZ hS'.1) (fun z => State.WarmedH.trans (t := s.setVm vm) (hN z) (q5 z)) (hC.trans q3) q4
  exact ⟨t, v', L', st'.trans r1, r2⟩
theorem Go.callSN {own host : String} {y : MethodName} {bytes : ByteArray} {maxL : Nat} {ret : Option FieldType} {rm : Room} {W index : Nat} {argsL : List Value} {as : Array Value} {sf : List Addr} {Q' : Option Value → Vm → Heap → Prop} (hM : Ct l Z EL nw [] y bytes maxL ret rm as h sf Q') (hown : Z.vm.findClass own = some m.cls) (w1 : (Jvm.Cond.methodLinkNest own index y host).before a0 Z = true) (w2 : (Jvm.Cond.static y).before a0 Z = true) (wc : (Jvm.Cond.code y bytes maxL ret).before a0 Z = true) (wz : (Jvm.Cond.initialized y.cls).before a0 Z = true)
    (hy : y.cls ≠ "java/lang/invoke/MethodHandle" ∧ y.cls ≠ "java/lang/invoke/VarHandle") (hlen : ∀ sig, parseMethodDescriptor y.desc = some sig → argsL.length = sig.parameters.length) (has : as = argsL.toArray) (hL : L.size = c.maxLocals) (hW : (st.map fun v => v.category).sum = W) (hd : decode c.code pc = .ok (.invokestatic index, 3)) (hp : pc + 3 = pc') (hf : rm.frames + 1 ≤ R.frames) (hl : W + (maxL + 11) + rm.locals ≤ R.locals) (hc1 : k + rm.cells ≤ R.cells) (hc2 : n + rm.slots ≤ R.slots) (hsf : ∀ x ∈ sf, h.size > x ∧ Safe Z EL vm h x)
    (K : ∀ (v : Option Value) (vm' : Vm) (h' : Heap), Q' v vm' h' → CHr Z EL vm h vm' h' → Go p l e R s m args below meth c Z a0 EL nw Q vm' h' (k + rm.cells) (n + rm.slots) pc' L (v.toList ++ st)) : Go p l e R s m args below meth c Z a0 EL nw Q vm h k n pc L (argsL.reverse ++ st) := fun T locs k0 hx hk hE X eT hS hk0 hF hZ hN hC hO => by
  subst hp has
  have hown' : (s.setVm vm).vm.findClass own = some m.cls := by
    show vm.findClass own = _
    rw [hZ.alike.findClass]; exact hown
  have hWW : 2 * (mkF m pc L (argsL.reverse ++ st)).monitorRoom + (st.map fun v => v.category).sum ≤ W := by show 2 * 0 + _ ≤ _; rw [Nat.mul_zero, Nat.zero_add]; exact Nat.le_of_eq hW
  have hB := fun len => Ct.back (p := p) (e := e) (below := below) (s := s) (args := args) (len := len) hM hZ wc wz hf hl hE hC.1 hO hsf
  obtain ⟨v, vm1, ⟨T', L1, k1, n1⟩, -, X', hS', hg', hP', st'⟩ := callSNS X hx hown' (Cond.methodLinkNest_wide hZ w1 :) (mv (s := s.setVm vm) hZ w2) (mv (s := s.setVm vm) hZ wz) (mv (s := s.setVm vm) hZ wc) hy (hB 3) (g := mkF m pc L (argsL.reverse ++ st)) rfl hL hlen rfl hWW hd (fun _ _ => ⟨rfl, eT, hc1, hc2⟩)
  dsimp only [Pt.U, Pt.locs, Pt.cells, Pt.slots] at X' hS' hg' hP' st'
  obtain ⟨L2, rfl, rfl, rfl, q1, q2, q3, q4, q5⟩ := hP'
  obtain ⟨t, v', L', r1, r2⟩ := K v T'.vm T'.heap q2 q3 T' _ _ hx hk hE X' rfl (hS.trans hS' (Nat.le_trans hk0 (by rw [← eT]; exact hg'))) (Nat.le_refl _) (Fr.app hF q1) (State.Warmed39.trans (t := s.setVm vm) hZ hS'.1) (fun z => State.WarmedH.trans (t := s.setVm vm) (hN z) (q5 z)) (hC.trans q3) q4
  exact ⟨t, v', L', st'.trans r1, r2⟩
theorem Go.callC {own : String} {a : Addr} {y : MethodName} {bytes : ByteArray} {maxL : Nat} {ret : Option FieldType} {rm : Room} {W index : Nat} {argsL : List Value} {as : Array Value} {sf : List Addr} {Q' : Option Value → Vm → Heap → Prop} (hM : Ct l Z EL nw [] y bytes maxL ret rm as h sf Q') (hown : Z.vm.findClass own = some m.cls) (hret0 : ret = none) (hinit : y.name = "<init>") (w1 : (Jvm.Cond.methodLink own index y).before a0 Z = true) (w2 : (Jvm.Cond.instanceMethod y).before a0 Z = true) (wc : (Jvm.Cond.code y bytes maxL ret).before a0 Z = true) (wz : (Jvm.Cond.initialized y.cls).before a0 Z = true)
    (hy : y.cls ≠ "java/lang/invoke/MethodHandle" ∧ y.cls ≠ "java/lang/invoke/VarHandle") (hlen : ∀ sig, parseMethodDescriptor y.desc = some sig → argsL.length = sig.parameters.length) (has : as = (.ref a :: argsL).toArray) (hL : L.size = c.maxLocals) (hW : (st.map fun v => v.category).sum = W) (hd : decode c.code pc = .ok (.invokespecial index, 3)) (hp : pc + 3 = pc') (hf : rm.frames + 1 ≤ R.frames) (hl : W + (maxL + 11) + rm.locals ≤ R.locals) (hc1 : k + rm.cells ≤ R.cells) (hc2 : n + rm.slots ≤ R.slots) (hsf : ∀ x ∈ sf, h.size > x ∧ Safe Z EL vm h x)
    (K : ∀ (v : Option Value) (vm' : Vm) (h' : Heap), Q' v vm' h' → CHr Z EL vm h vm' h' → Go p l e R s m args below meth c Z a0 EL nw Q vm' h' (k + rm.cells) (n + rm.slots) pc' L (v.toList ++ st)) : Go p l e R s m args below meth c Z a0 EL nw Q vm h k n pc L (argsL.reverse ++ .ref a :: st) := fun T locs k0 hx hk hE X eT hS hk0 hF hZ hN hC hO => by
  subst hp has
  have hown' : (s.setVm vm).vm.findClass own = some m.cls := by
    show vm.findClass own = _
    rw [hZ.alike.findClass]; exact hown
  have hWW : 2 * (mkF m pc L (argsL.reverse ++ .ref a :: st)).monitorRoom + (st.map fun v => v.category).sum ≤ W := by show 2 * 0 + _ ≤ _; rw [Nat.mul_zero, Nat.zero_add]; exact Nat.le_of_eq hW
  have hB := fun len => Ct.back (p := p) (e := e) (below := below) (s := s) (args := args) (len := len) hM hZ wc wz hf hl hE hC.1 hO hsf
  subst hret0
  obtain ⟨v, vm1, ⟨T', L1, k1, n1⟩, -, X', hS', hg', hP', st'⟩ := X.specialBackS hx hinit hown' (mv (s := s.setVm vm) hZ w1) (mv (s := s.setVm vm) hZ w2) (mv (s := s.setVm vm) hZ wc) hy (hB 3) (g := mkF m pc L (argsL.reverse ++ .ref a :: st)) rfl hL (Steps.refl _) (a := a) (argsL := argsL) (rest := st) hlen rfl hWW hd (fun _ _ => ⟨rfl, eT, hc1, hc2⟩)
  dsimp only [Pt.U, Pt.locs, Pt.cells, Pt.slots] at X' hS' hg' hP' st'
  obtain ⟨L2, rfl, rfl, rfl, q1, q2, q3, q4, q5⟩ := hP'
  obtain ⟨t, v', L', r1, r2⟩ := K v T'.vm T'.heap q2 q3 T' _ _ hx hk hE X' rfl (hS.trans hS' (Nat.le_trans hk0 (by rw [← eT]; exact hg'))) (Nat.le_refl _) (Fr.app hF q1) (State.Warmed39.trans (t := s.setVm vm) hZ hS'.1) (fun z => State.WarmedH.trans (t := s.setVm vm) (hN z) (q5 z)) (hC.trans q3) q4
  exact ⟨t, v', L', st'.trans r1, r2⟩
theorem Go.callCN {own host : String} {a : Addr} {y : MethodName} {bytes : ByteArray} {maxL : Nat} {ret : Option FieldType} {rm : Room} {W index : Nat} {argsL : List Value} {as : Array Value} {sf : List Addr} {Q' : Option Value → Vm → Heap → Prop} (hM : Ct l Z EL nw [] y bytes maxL ret rm as h sf Q') (hown : Z.vm.findClass own = some m.cls) (hret0 : ret = none) (hinit : y.name = "<init>") (w1 : (Jvm.Cond.methodLinkNest own index y host).before a0 Z = true) (w2 : (Jvm.Cond.instanceMethod y).before a0 Z = true) (wc : (Jvm.Cond.code y bytes maxL ret).before a0 Z = true) (wz : (Jvm.Cond.initialized y.cls).before a0 Z = true)
    (hy : y.cls ≠ "java/lang/invoke/MethodHandle" ∧ y.cls ≠ "java/lang/invoke/VarHandle") (hlen : ∀ sig, parseMethodDescriptor y.desc = some sig → argsL.length = sig.parameters.length) (has : as = (.ref a :: argsL).toArray) (hL : L.size = c.maxLocals) (hW : (st.map fun v => v.category).sum = W) (hd : decode c.code pc = .ok (.invokespecial index, 3)) (hp : pc + 3 = pc') (hf : rm.frames + 1 ≤ R.frames) (hl : W + (maxL + 11) + rm.locals ≤ R.locals) (hc1 : k + rm.cells ≤ R.cells) (hc2 : n + rm.slots ≤ R.slots) (hsf : ∀ x ∈ sf, h.size > x ∧ Safe Z EL vm h x)
    (K : ∀ (v : Option Value) (vm' : Vm) (h' : Heap), Q' v vm' h' → CHr Z EL vm h vm' h' → Go p l e R s m args below meth c Z a0 EL nw Q vm' h' (k + rm.cells) (n + rm.slots) pc' L (v.toList ++ st)) : Go p l e R s m args below meth c Z a0 EL nw Q vm h k n pc L (argsL.reverse ++ .ref a :: st) := fun T locs k0 hx hk hE X eT hS hk0 hF hZ hN hC hO => by
  subst hp has
  have hown' : (s.setVm vm).vm.findClass own = some m.cls := by
    show vm.findClass own = _
    rw [hZ.alike.findClass]; exact hown
  have hWW : 2 * (mkF m pc L (argsL.reverse ++ .ref a :: st)).monitorRoom + (st.map fun v => v.category).sum ≤ W := by show 2 * 0 + _ ≤ _; rw [Nat.mul_zero, Nat.zero_add]; exact Nat.le_of_eq hW
  have hB := fun len => Ct.back (p := p) (e := e) (below := below) (s := s) (args := args) (len := len) hM hZ wc wz hf hl hE hC.1 hO hsf
  subst hret0
  obtain ⟨v, vm1, ⟨T', L1, k1, n1⟩, -, X', hS', hg', hP', st'⟩ := X.specialBackNestS hx hinit hown' (Cond.methodLinkNest_wide hZ w1 :) (mv (s := s.setVm vm) hZ w2) (mv (s := s.setVm vm) hZ wc) hy (hB 3) (g := mkF m pc L (argsL.reverse ++ .ref a :: st)) rfl hL (Steps.refl _) (a := a) (argsL := argsL) (rest := st) hlen rfl hWW hd (fun _ _ => ⟨rfl, eT, hc1, hc2⟩)
  dsimp only [Pt.U, Pt.locs, Pt.cells, Pt.slots] at X' hS' hg' hP' st'
  obtain ⟨L2, rfl, rfl, rfl, q1, q2, q3, q4, q5⟩ := hP'
  obtain ⟨t, v', L', r1, r2⟩ := K v T'.vm T'.heap q2 q3 T' _ _ hx hk hE X' rfl (hS.trans hS' (Nat.le_trans hk0 (by rw [← eT]; exact hg'))) (Nat.le_refl _) (Fr.app hF q1) (State.Warmed39.trans (t := s.setVm vm) hZ hS'.1) (fun z => State.WarmedH.trans (t := s.setVm vm) (hN z) (q5 z)) (hC.trans q3) q4
  exact ⟨t, v', L', st'.trans r1, r2⟩
theorem Go.callV {own C : String} {a : Addr} {y0 : MethodName} {y : MethodName} {bytes : ByteArray} {maxL : Nat} {ret : Option FieldType} {rm : Room} {W index : Nat} {argsL : List Value} {as : Array Value} {sf : List Addr} {Q' : Option Value → Vm → Heap → Prop} (hM : Ct l Z EL nw [] y bytes maxL ret rm as h sf Q') (hown : Z.vm.findClass own = some m.cls) (w1 : (Jvm.Cond.methodLink own index y0).before a0 Z = true) (w2 : (Jvm.Cond.declares y0).before a0 Z = true) (nf : NotFace Z y0) (w3 : (Jvm.Cond.selects C y0 y).before a0 Z = true) (w4 : (Jvm.Cond.instanceMethod y).before a0 Z = true) (E : Exa Z h a C) (wc : (Jvm.Cond.code y bytes maxL ret).before a0 Z = true) (wz : (Jvm.Cond.initialized y.cls).before a0 Z = true)
    (hy : y0.cls ≠ "java/lang/invoke/MethodHandle" ∧ y0.cls ≠ "java/lang/invoke/VarHandle") (hlen : ∀ sig, parseMethodDescriptor y0.desc = some sig → argsL.length = sig.parameters.length) (has : as = (.ref a :: argsL).toArray) (hL : L.size = c.maxLocals) (hW : (st.map fun v => v.category).sum = W) (hd : decode c.code pc = .ok (.invokevirtual index, 3)) (hp : pc + 3 = pc') (hf : rm.frames + 1 ≤ R.frames) (hl : W + (maxL + 11) + rm.locals ≤ R.locals) (hc1 : k + rm.cells ≤ R.cells) (hc2 : n + rm.slots ≤ R.slots) (hsf : ∀ x ∈ sf, h.size > x ∧ Safe Z EL vm h x)
    (K : ∀ (v : Option Value) (vm' : Vm) (h' : Heap), Q' v vm' h' → CHr Z EL vm h vm' h' → Go p l e R s m args below meth c Z a0 EL nw Q vm' h' (k + rm.cells) (n + rm.slots) pc' L (v.toList ++ st)) : Go p l e R s m args below meth c Z a0 EL nw Q vm h k n pc L (argsL.reverse ++ .ref a :: st) := fun T locs k0 hx hk hE X eT hS hk0 hF hZ hN hC hO => by
  subst hp has
  have hown' : (s.setVm vm).vm.findClass own = some m.cls := by
    show vm.findClass own = _
    rw [hZ.alike.findClass]; exact hown
  have hWW : 2 * (mkF m pc L (argsL.reverse ++ .ref a :: st)).monitorRoom + (st.map fun v => v.category).sum ≤ W := by show 2 * 0 + _ ≤ _; rw [Nat.mul_zero, Nat.zero_add]; exact Nat.le_of_eq hW
  have hB := fun len => Ct.back (p := p) (e := e) (below := below) (s := s) (args := args) (len := len) hM hZ wc wz hf hl hE hC.1 hO hsf
  obtain ⟨cB, kB, qa, qb, qc⟩ := isOf (s := s.setVm vm) (T := T) hZ eT E
  obtain ⟨v, vm1, ⟨T', L1, k1, n1⟩, -, X', hS', hg', hP', st'⟩ := X.virtualBackS hx hown' (mv (s := s.setVm vm) hZ w1) (mv (s := s.setVm vm) hZ w2) (nf_warm hZ nf) (mv (s := s.setVm vm) hZ w3) (mv (s := s.setVm vm) hZ w4) hy (hB 3) qa qc (g := mkF m pc L (argsL.reverse ++ .ref a :: st)) rfl hL (Steps.refl _) (argsL := argsL) (rest := st) hlen rfl hWW hd (fun _ _ => ⟨rfl, eT, hc1, hc2⟩)
  dsimp only [Pt.U, Pt.locs, Pt.cells, Pt.slots] at X' hS' hg' hP' st'
  obtain ⟨L2, rfl, rfl, rfl, q1, q2, q3, q4, q5⟩ := hP'
  obtain ⟨t, v', L', r1, r2⟩ := K v T'.vm T'.heap q2 q3 T' _ _ hx hk hE X' rfl (hS.trans hS' (Nat.le_trans hk0 (by rw [← eT]; exact hg'))) (Nat.le_refl _) (Fr.app hF q1) (State.Warmed39.trans (t := s.setVm vm) hZ hS'.1) (fun z => State.WarmedH.trans (t := s.setVm vm) (hN z) (q5 z)) (hC.trans q3) q4
  exact ⟨t, v', L', st'.trans r1, r2⟩
theorem Go.callVU {own C owner : String} {a : Addr} {y0 : MethodName} {y : MethodName} {bytes : ByteArray} {maxL : Nat} {ret : Option FieldType} {rm : Room} {W index : Nat} {argsL : List Value} {as : Array Value} {sf : List Addr} {Q' : Option Value → Vm → Heap → Prop} (hM : Ct l Z EL nw [] y bytes maxL ret rm as h sf Q') (hown : Z.vm.findClass own = some m.cls) (w1 : (Jvm.Cond.methodLink own index y0).before a0 Z = true) (w2 : (Jvm.Cond.sameMethod y0.cls owner y0.name y0.desc).before a0 Z = true) (w5 : (Jvm.Cond.declares ⟨owner, y0.name, y0.desc⟩).before a0 Z = true) (w3 : (Jvm.Cond.selects C y0 y).before a0 Z = true) (w4 : (Jvm.Cond.instanceMethod y).before a0 Z = true) (E : Exa Z h a C) (wc : (Jvm.Cond.code y bytes maxL ret).before a0 Z = true) (wz : (Jvm.Cond.initialized y.cls).before a0 Z = true)
    (hy : owner ≠ "java/lang/invoke/MethodHandle" ∧ owner ≠ "java/lang/invoke/VarHandle") (hlen : ∀ sig, parseMethodDescriptor y0.desc = some sig → argsL.length = sig.parameters.length) (has : as = (.ref a :: argsL).toArray) (hL : L.size = c.maxLocals) (hW : (st.map fun v => v.category).sum = W) (hd : decode c.code pc = .ok (.invokevirtual index, 3)) (hp : pc + 3 = pc') (hf : rm.frames + 1 ≤ R.frames) (hl : W + (maxL + 11) + rm.locals ≤ R.locals) (hc1 : k + rm.cells ≤ R.cells) (hc2 : n + rm.slots ≤ R.slots) (hsf : ∀ x ∈ sf, h.size > x ∧ Safe Z EL vm h x)
    (K : ∀ (v : Option Value) (vm' : Vm) (h' : Heap), Q' v vm' h' → CHr Z EL vm h vm' h' → Go p l e R s m args below meth c Z a0 EL nw Q vm' h' (k + rm.cells) (n + rm.slots) pc' L (v.toList ++ st)) : Go p l e R s m args below meth c Z a0 EL nw Q vm h k n pc L (argsL.reverse ++ .ref a :: st) := fun T locs k0 hx hk hE X eT hS hk0 hF hZ hN hC hO => by
  subst hp has
  have hown' : (s.setVm vm).vm.findClass own = some m.cls := by
    show vm.findClass own = _
    rw [hZ.alike.findClass]; exact hown
  have hWW : 2 * (mkF m pc L (argsL.reverse ++ .ref a :: st)).monitorRoom + (st.map fun v => v.category).sum ≤ W := by show 2 * 0 + _ ≤ _; rw [Nat.mul_zero, Nat.zero_add]; exact Nat.le_of_eq hW
  have hB := fun len => Ct.back (p := p) (e := e) (below := below) (s := s) (args := args) (len := len) hM hZ wc wz hf hl hE hC.1 hO hsf
  obtain ⟨cB, kB, qa, qb, qc⟩ := isOf (s := s.setVm vm) (T := T) hZ eT E
  obtain ⟨v, vm1, ⟨T', L1, k1, n1⟩, -, X', hS', hg', hP', st'⟩ := X.virtualBackUpS hx hown' (mv (s := s.setVm vm) hZ w1) (mv (s := s.setVm vm) hZ w2) (mv (s := s.setVm vm) hZ w5) hy (mv (s := s.setVm vm) hZ w3) (mv (s := s.setVm vm) hZ w4) (hB 3) qa qc (g := mkF m pc L (argsL.reverse ++ .ref a :: st)) rfl hL (Steps.refl _) (argsL := argsL) (rest := st) hlen rfl hWW hd (fun _ _ => ⟨rfl, eT, hc1, hc2⟩)
  dsimp only [Pt.U, Pt.locs, Pt.cells, Pt.slots] at X' hS' hg' hP' st'
  obtain ⟨L2, rfl, rfl, rfl, q1, q2, q3, q4, q5⟩ := hP'
  obtain ⟨t, v', L', r1, r2⟩ := K v T'.vm T'.heap q2 q3 T' _ _ hx hk hE X' rfl (hS.trans hS' (Nat.le_trans hk0 (by rw [← eT]; exact hg'))) (Nat.le_refl _) (Fr.app hF q1) (State.Warmed39.trans (t := s.setVm vm) hZ hS'.1) (fun z => State.WarmedH.trans (t := s.setVm vm) (hN z) (q5 z)) (hC.trans q3) q4
  exact ⟨t, v', L', st'.trans r1, r2⟩
theorem Go.callI {own C : String} {a : Addr} {count : Nat} {y0 : MethodName} {y : MethodName} {bytes : ByteArray} {maxL : Nat} {ret : Option FieldType} {rm : Room} {W index : Nat} {argsL : List Value} {as : Array Value} {sf : List Addr} {Q' : Option Value → Vm → Heap → Prop} (hM : Ct l Z EL nw [] y bytes maxL ret rm as h sf Q') (hown : Z.vm.findClass own = some m.cls) (w1 : (Jvm.Cond.methodLink own index y0).before a0 Z = true) (w2 : (Jvm.Cond.declares y0).before a0 Z = true) (w5 : (Jvm.Cond.interfaceMethod y0.cls y0.cls y0.name y0.desc).before a0 Z = true) (w3 : (Jvm.Cond.selects C y0 y).before a0 Z = true) (w4 : (Jvm.Cond.instanceMethod y).before a0 Z = true) (w6 : (Jvm.Cond.publicMethod y).before a0 Z = true) (w7 : (Jvm.Cond.unhidden C y0.name y0.desc).before a0 Z = true) (w8 : (Jvm.Cond.castable C y0.cls).before a0 Z = true) (h5 : ((Jvm.Cond.interfaceMethod y0.cls y0.cls y0.name y0.desc).onTables && (Jvm.Cond.interfaceMethod y0.cls y0.cls y0.name y0.desc).keepsFace) = true) (E : Exa Z h a C) (wc : (Jvm.Cond.code y bytes maxL ret).before a0 Z = true) (wz : (Jvm.Cond.initialized y.cls).before a0 Z = true)
    (hy : y0.cls ≠ "java/lang/invoke/MethodHandle" ∧ y0.cls ≠ "java/lang/invoke/VarHandle") (hlen : ∀ sig, parseMethodDescriptor y0.desc = some sig → argsL.length = sig.parameters.length) (has : as = (.ref a :: argsL).toArray) (hL : L.size = c.maxLocals) (hW : (st.map fun v => v.category).sum = W) (hd : decode c.code pc = .ok (.invokeinterface index count, 5)) (hp : pc + 5 = pc') (hf : rm.frames + 1 ≤ R.frames) (hl : W + (maxL + 11) + rm.locals ≤ R.locals) (hc1 : k + rm.cells ≤ R.cells) (hc2 : n + rm.slots ≤ R.slots) (hsf : ∀ x ∈ sf, h.size > x ∧ Safe Z EL vm h x)
    (K : ∀ (v : Option Value) (vm' : Vm) (h' : Heap), Q' v vm' h' → CHr Z EL vm h vm' h' → Go p l e R s m args below meth c Z a0 EL nw Q vm' h' (k + rm.cells) (n + rm.slots) pc' L (v.toList ++ st)) : Go p l e R s m args below meth c Z a0 EL nw Q vm h k n pc L (argsL.reverse ++ .ref a :: st) := fun T locs k0 hx hk hE X eT hS hk0 hF hZ hN hC hO => by
  subst hp has
  have hown' : (s.setVm vm).vm.findClass own = some m.cls := by
    show vm.findClass own = _
    rw [hZ.alike.findClass]; exact hown
  have hWW : 2 * (mkF m pc L (argsL.reverse ++ .ref a :: st)).monitorRoom + (st.map fun v => v.category).sum ≤ W := by show 2 * 0 + _ ≤ _; rw [Nat.mul_zero, Nat.zero_add]; exact Nat.le_of_eq hW
  have hB := fun len => Ct.back (p := p) (e := e) (below := below) (s := s) (args := args) (len := len) hM hZ wc wz hf hl hE hC.1 hO hsf
  obtain ⟨cB, kB, qa, qb, qc⟩ := isOf (s := s.setVm vm) (T := T) hZ eT E
  obtain ⟨v, vm1, ⟨T', L1, k1, n1⟩, -, X', hS', hg', hP', st'⟩ := X.interfaceBackS hx hown' (mv (s := s.setVm vm) hZ w1) (mv (s := s.setVm vm) hZ w2) (mv (s := s.setVm vm) hZ w5 h5) (mv (s := s.setVm vm) hZ w3) (mv (s := s.setVm vm) hZ w4) (mv (s := s.setVm vm) hZ w6) (mv (s := s.setVm vm) hZ w7) (mv (s := s.setVm vm) hZ w8) hy (hB 5) qa qb qc (g := mkF m pc L (argsL.reverse ++ .ref a :: st)) rfl hL (Steps.refl _) (argsL := argsL) (rest := st) hlen rfl hWW hd (fun _ _ => ⟨rfl, eT, hc1, hc2⟩)
  dsimp only [Pt.U, Pt.locs, Pt.cells, Pt.slots] at X' hS' hg' hP' st'
  obtain ⟨L2, rfl, rfl, rfl, q1, q2, q3, q4, q5⟩ := hP'
  obtain ⟨t, v', L', r1, r2⟩ := K v T'.vm T'.heap q2 q3 T' _ _ hx hk hE X' rfl (hS.trans hS' (Nat.le_trans hk0 (by rw [← eT]; exact hg'))) (Nat.le_refl _) (Fr.app hF q1) (State.Warmed39.trans (t := s.setVm vm) hZ hS'.1) (fun z => State.WarmedH.trans (t := s.setVm vm) (hN z) (q5 z)) (hC.trans q3) q4
  exact ⟨t, v', L', st'.trans r1, r2⟩
theorem Go.callP {own C : String} {a : Addr} {y : MethodName} {bytes : ByteArray} {maxL : Nat} {ret : Option FieldType} {rm : Room} {W index : Nat} {argsL : List Value} {as : Array Value} {sf : List Addr} {Q' : Option Value → Vm → Heap → Prop} (hM : Ct l Z EL nw [] y bytes maxL ret rm as h sf Q') (hown : Z.vm.findClass own = some m.cls) (w1 : (Jvm.Cond.methodLink own index y).before a0 Z = true) (w2 : (Jvm.Cond.instanceMethod y).before a0 Z = true) (w3 : (Jvm.Cond.selects y.cls y y).before a0 Z = true) (w4 : (Jvm.Cond.privateMethod y).before a0 Z = true) (E : Exa Z h a C) (wc : (Jvm.Cond.code y bytes maxL ret).before a0 Z = true) (wz : (Jvm.Cond.initialized y.cls).before a0 Z = true)
    (hy : y.cls ≠ "java/lang/invoke/MethodHandle" ∧ y.cls ≠ "java/lang/invoke/VarHandle") (hlen : ∀ sig, parseMethodDescriptor y.desc = some sig → argsL.length = sig.parameters.length) (has : as = (.ref a :: argsL).toArray) (hL : L.size = c.maxLocals) (hW : (st.map fun v => v.category).sum = W) (hd : decode c.code pc = .ok (.invokevirtual index, 3)) (hp : pc + 3 = pc') (hf : rm.frames + 1 ≤ R.frames) (hl : W + (maxL + 11) + rm.locals ≤ R.locals) (hc1 : k + rm.cells ≤ R.cells) (hc2 : n + rm.slots ≤ R.slots) (hsf : ∀ x ∈ sf, h.size > x ∧ Safe Z EL vm h x)
    (K : ∀ (v : Option Value) (vm' : Vm) (h' : Heap), Q' v vm' h' → CHr Z EL vm h vm' h' → Go p l e R s m args below meth c Z a0 EL nw Q vm' h' (k + rm.cells) (n + rm.slots) pc' L (v.toList ++ st)) : Go p l e R s m args below meth c Z a0 EL nw Q vm h k n pc L (argsL.reverse ++ .ref a :: st) := fun T locs k0 hx hk hE X eT hS hk0 hF hZ hN hC hO => by
  subst hp has
  have hown' : (s.setVm vm).vm.findClass own = some m.cls := by
    show vm.findClass own = _
    rw [hZ.alike.findClass]; exact hown
  have hWW : 2 * (mkF m pc L (argsL.reverse ++ .ref a :: st)).monitorRoom + (st.map fun v => v.category).sum ≤ W := by show 2 * 0 + _ ≤ _; rw [Nat.mul_zero, Nat.zero_add]; exact Nat.le_of_eq hW
  have hB := fun len => Ct.back (p := p) (e := e) (below := below) (s := s) (args := args) (len := len) hM hZ wc wz hf hl hE hC.1 hO hsf
  obtain ⟨cq, q1', q2'⟩ := E.cell
  obtain ⟨v, vm1, ⟨T', L1, k1, n1⟩, -, X', hS', hg', hP', st'⟩ := X.privateBackS hx hown' (mv (s := s.setVm vm) hZ w1) (mv (s := s.setVm vm) hZ w2) (mv (s := s.setVm vm) hZ w3) (Cond.privateMethod_at (mvP (s := s.setVm vm) hZ w4 (args := #[]))) (mv (s := s.setVm vm) hZ wc) hy (hB 3) (g := mkF m pc L (argsL.reverse ++ .ref a :: st)) rfl hL (Steps.refl _) (a := a) (cell := cq) (by rw [eT]; exact q1') q2' (argsL := argsL) (rest := st) hlen rfl hWW hd (fun _ _ => ⟨rfl, eT, hc1, hc2⟩)
  dsimp only [Pt.U, Pt.locs, Pt.cells, Pt.slots] at X' hS' hg' hP' st'
  obtain ⟨L2, rfl, rfl, rfl, q1, q2, q3, q4, q5⟩ := hP'
  obtain ⟨t, v', L', r1, r2⟩ := K v T'.vm T'.heap q2 q3 T' _ _ hx hk hE X' rfl (hS.trans hS' (Nat.le_trans hk0 (by rw [← eT]; exact hg'))) (Nat.le_refl _) (Fr.app hF q1) (State.Warmed39.trans (t := s.setVm vm) hZ hS'.1) (fun z => State.WarmedH.trans (t := s.setVm vm) (hN z) (q5 z)) (hC.trans q3) q4
  exact ⟨t, v', L', st'.trans r1, r2⟩
end Walk
end Jvm.Own
namespace Jvm.Own
open Sem ClassFile Op Lib Jvm.Free Jvm.Stand Jvm.LawKit Jvm.RoadKit Bundle
theorem nc255 (x : Int32) : nar .char (x &&& 255) = x &&& 255 := i2c_mask x
theorem and_toInt (x : Int32) (m : Nat) (hm : m < 2 ^ 31) : 0 ≤ (x &&& Int32.ofNat m).toInt ∧ (x &&& Int32.ofNat m).toInt ≤ m := by
  have e : (x &&& Int32.ofNat m).toInt = (x.toBitVec &&& BitVec.ofNat 32 m).toInt := rfl
  have h1 : (x.toBitVec &&& BitVec.ofNat 32 m).toNat ≤ m := by
    rw [BitVec.toNat_and]
    refine Nat.le_trans Nat.and_le_right ?_
    rw [BitVec.toNat_ofNat]; exact Nat.mod_le _ _
  rw [e, BitVec.toInt_eq_toNat_of_lt (by omega)]
  omega
theorem m255 (x : Int32) : 0 ≤ (x &&& 255).toInt ∧ (x &&& 255).toInt ≤ 255 := and_toInt x 255 (by decide)
theorem al0 {P : Int32 → Prop} : ∀ x ∈ ([] : List Int32), P x := fun _ h => nomatch h
theorem alS {P : Int32 → Prop} {y : Int32} {L : List Int32} (q : P y) (r : ∀ x ∈ L, P x) : ∀ x ∈ y :: L, P x := fun x hx => (List.mem_cons.mp hx).elim (fun e => e ▸ q) (r x)
/-- the byte that a char becomes -/
def by8 (c : Int32) : Int32 := c.toInt8.toInt32
theorem toInt_nat {n : Nat} (h : n < 2 ^ 31) : n.toInt32.toInt = n := Int32.toInt_ofNat_small h
theorem clamp_nat {n : Nat} (h : n < 2 ^ 31) : n.toInt32.toNatClampNeg = n := by
  rw [← Int32.toNat_toInt, toInt_nat h]; rfl
theorem lt32 {i n : Nat} (hi : i < 2 ^ 31) (hn : n < 2 ^ 31) : i.toInt32 < n.toInt32 ↔ i < n := by
  rw [Int32.lt_iff_toInt_lt, toInt_nat hi, toInt_nat hn]; omega
theorem nneg32 {n : Nat} (h : n < 2 ^ 31) : ¬ n.toInt32 < 0 := by
  rw [Int32.lt_iff_toInt_lt, toInt_nat h]
  have e0 : (0 : Int32).toInt = 0 := rfl
  omega
theorem succ32 (i : Nat) : i.toInt32 + 1 = (i + 1).toInt32 := (Int32.ofNat_add i 1).symm
theorem eq32 {i n : Nat} (hi : i < 2 ^ 31) (hn : n < 2 ^ 31) : i.toInt32 = n.toInt32 ↔ i = n := by
  constructor
  · intro q
    have := congrArg Int32.toInt q
    rw [toInt_nat hi, toInt_nat hn] at this; omega
  · rintro rfl; rfl
theorem nz32 {n : Nat} (h : n < 2 ^ 31) (h0 : 0 < n) : ¬ n.toInt32 = 0 := fun q => by
  have := (eq32 (n := 0) h (by decide)).mp q; omega
theorem nar_by8 (c : Int32) : nar .byte (c.toInt8.toInt32) = by8 c := by
  show (c.toInt8.toInt32).toInt8.toInt32 = _
  simp [by8]
theorem sub0 (x : Int32) : x - x = 0 := by simp
theorem cache_ix {z : Int32} (h1 : ¬ z < -128) (h2 : ¬ (127 : Int32) < z) : ¬ (z + 128) < 0 ∧ (z + 128).toNatClampNeg < 256 := by
  rw [Int32.lt_iff_toInt_lt] at h1 h2
  have e1 : (-128 : Int32).toInt = -128 := rfl
  have e2 : (127 : Int32).toInt = 127 := rfl
  have e3 : (128 : Int32).toInt = 128 := rfl
  have e0 : (0 : Int32).toInt = 0 := rfl
  have q : (z + 128).toInt = z.toInt + 128 := by
    rw [Int32.toInt_add, e3]
    exact Int.bmod_eq_of_le (by omega) (by omega)
  refine ⟨?_, ?_⟩
  · rw [Int32.lt_iff_toInt_lt, q]; omega
  · rw [← Int32.toNat_toInt, q]; omega
/-- true and false as ints -/
def bo (q : Prop) [Decidable q] : Int32 := if q then 1 else 0
theorem bo_yes {q : Prop} [Decidable q] (h : q) : bo q = 1 := if_pos h
theorem bo_no {q : Prop} [Decidable q] (h : ¬ q) : bo q = 0 := if_neg h
theorem bo_nar {q : Prop} [Decidable q] : nar .boolean (bo q) = bo q := by unfold bo; split <;> rfl
theorem bo_ne0 {q : Prop} [Decidable q] : (¬ bo q = 0) ↔ q := by unfold bo; split <;> simp_all
theorem bo_cases {q : Prop} [Decidable q] : q ∧ bo q = 1 ∨ ¬ q ∧ bo q = 0 := by by_cases h : q <;> simp [bo, h]
theorem bo_congr {p q : Prop} [Decidable p] [Decidable q] (h : p ↔ q) : bo p = bo q := by unfold bo; simp [h]
theorem toInt_eq {x : Int32} {n : Int} (h : x.toInt = n) : x = Int32.ofInt n := by rw [← h, Int32.ofInt_toInt]
theorem and3 (x : Int32) : x &&& 3 = 0 ∨ x &&& 3 = 1 ∨ x &&& 3 = 2 ∨ x &&& 3 = 3 := by
  have h := and_toInt x 3 (by decide)
  have e : (x &&& Int32.ofNat 3) = x &&& 3 := rfl
  rw [e] at h
  have : (x &&& 3).toInt = 0 ∨ (x &&& 3).toInt = 1 ∨ (x &&& 3).toInt = 2 ∨ (x &&& 3).toInt = 3 := by omega
  rcases this with q | q | q | q
  · exact Or.inl (toInt_eq q)
  · exact Or.inr (Or.inl (toInt_eq q))
  · exact Or.inr (Or.inr (Or.inl (toInt_eq q)))
  · exact Or.inr (Or.inr (Or.inr (toInt_eq q)))
theorem rem3 (x : Int32) : (x &&& 3) % 3 = 0 ∨ (x &&& 3) % 3 = 1 ∨ (x &&& 3) % 3 = 2 := by
  rcases and3 x with q | q | q | q <;> rw [q] <;> decide
theorem by8_toInt (c : Int32) : (by8 c).toInt = c.toInt.bmod 256 := by
  show (c.toInt8.toInt32).toInt = _
  rw [Int8.toInt_toInt32, Int32.toInt_toInt8]
theorem by8_inj {x y : Int32} (hx : 0 ≤ x.toInt ∧ x.toInt ≤ 255) (hy : 0 ≤ y.toInt ∧ y.toInt ≤ 255) (h : by8 x = by8 y) : x = y := by
  have q := congrArg Int32.toInt h
  rw [by8_toInt, by8_toInt] at q
  apply Int32.toInt_inj.mp
  have h1 : (x.toInt.bmod 256) % 256 = x.toInt % 256 := Int.bmod_emod
  have h2 : (y.toInt.bmod 256) % 256 = y.toInt % 256 := Int.bmod_emod
  rw [q] at h1
  omega
theorem nch {x : Int32} (h : 0 ≤ x.toInt ∧ x.toInt ≤ 255) : nar .char x = x := by
  have e : x &&& 255 = x := by
    apply Int32.toBitVec_inj.mp
    show x.toBitVec &&& 255#32 = x.toBitVec
    apply BitVec.eq_of_toNat_eq
    have hn : x.toBitVec.toNat ≤ 255 := by
      have h2 : x.toInt = x.toBitVec.toInt := rfl
      rw [h2, BitVec.toInt_eq_toNat_cond] at h
      have := x.toBitVec.isLt
      split at h <;> omega
    rw [BitVec.toNat_and]
    show x.toBitVec.toNat &&& (2 ^ 8 - 1) = _
    rw [Nat.and_two_pow_sub_one_eq_mod]; omega
  rw [← e]; exact nc255 x
theorem le255 {x : Int32} (h : 0 ≤ x.toInt ∧ x.toInt ≤ 255) : ¬ (255 : Int32) < x := by
  rw [Int32.lt_iff_toInt_lt]
  have : (255 : Int32).toInt = 255 := rfl
  omega
theorem fill_set {α : Type} (xs : List α) (z : α) (i : Nat) (hi : i < xs.length) : (xs.take i ++ List.replicate (xs.length - i) z).set i xs[i] = xs.take (i + 1) ++ List.replicate (xs.length - (i + 1)) z := by
  have h1 : (xs.take i).length = i := by simp; omega
  have h2 : xs.length - i = (xs.length - (i + 1)) + 1 := by omega
  rw [List.set_append_right _ _ (by omega), h1, Nat.sub_self, h2, List.replicate_succ, List.set_cons_zero, List.take_succ_eq_append_getElem hi, List.append_assoc]; rfl
end Jvm.Own
namespace Jvm.Pilot.@@N@@
open Jvm Jvm.ClassFile Sem Op Lib Jvm.Free Jvm.Stand Jvm.LawKit Jvm.RoadKit Bundle Jvm.Own Jvm.Pilot.@@N@@.Jvm.D
def GH (Z : State) (a0 : Array Value) (EL : List (String × Nat)) (zc : Int32) : Prop :=
  (∀ d ∈ tables_1, d.before a0 Z = true) ∧ EW Z a0 EL ∧ (∀ a ∈ Bundle.stringAtoms, a.before a0 Z = true) ∧ (∀ p ∈ consts_1, p ∈ EL) ∧ Sta Z Z.heap "java/lang/String" "COMPACT_STRINGS" "Z" (.int zc) ∧ ¬ zc = 0 ∧ True
/-- the bytes of the String that make builds -/
def mkS (n x y : Int32) : List Int32 := if n = 0 then [] else if n = 1 then [by8 x] else [by8 x, by8 y]
theorem mkS_bo {n m x y u v : Int32} (hn : n = 0 ∨ n = 1 ∨ n = 2) (hm : m = 0 ∨ m = 1 ∨ m = 2) (hx : 0 ≤ x.toInt ∧ x.toInt ≤ 255) (hy : 0 ≤ y.toInt ∧ y.toInt ≤ 255) (hu : 0 ≤ u.toInt ∧ u.toInt ≤ 255) (hv : 0 ≤ v.toInt ∧ v.toInt ≤ 255) :
    bo (mkS n x y = mkS m u v) = bo (n = m ∧ (n < 1 ∨ x = u) ∧ (n < 2 ∨ y = v)) := by
  apply bo_congr
  have i1 : by8 x = by8 u ↔ x = u := ⟨by8_inj hx hu, fun q => by rw [q]⟩
  have i2 : by8 y = by8 v ↔ y = v := ⟨by8_inj hy hv, fun q => by rw [q]⟩
  rcases hn with rfl | rfl | rfl <;> rcases hm with rfl | rfl | rfl <;> simp [mkS, i1, i2]
theorem wd_0 {Z : State} {a0 : Array Value} {EL : List (String × Nat)} {zc : Int32} (g : GH Z a0 EL zc) : (Jvm.Cond.methodLink "com/example/kunci/kunci/TestOutcomeIsPassedPinLaw" (16 : Nat) ({ cls := "com/example/kunci/kunci/TestOutcomeIsPassedPinLaw", name := "make", desc := "(ICC)Ljava/lang/String;" } : Jvm.MethodName)).before a0 Z = true := g.1 _ (List.mem_of_getElem? (i := 0) rfl)
theorem wd_1 {Z : State} {a0 : Array Value} {EL : List (String × Nat)} {zc : Int32} (g : GH Z a0 EL zc) : (Jvm.Cond.static ({ cls := "com/example/kunci/kunci/TestOutcomeIsPassedPinLaw", name := "make", desc := "(ICC)Ljava/lang/String;" } : Jvm.MethodName)).before a0 Z = true := g.1 _ (List.mem_of_getElem? (i := 1) rfl)
theorem wd_2 {Z : State} {a0 : Array Value} {EL : List (String × Nat)} {zc : Int32} (g : GH Z a0 EL zc) : (Jvm.Cond.initialized "com/example/kunci/kunci/TestOutcomeIsPassedPinLaw").before a0 Z = true := g.1 _ (List.mem_of_getElem? (i := 2) rfl)
theorem wd_3 {Z : State} {a0 : Array Value} {EL : List (String × Nat)} {zc : Int32} (g : GH Z a0 EL zc) : (Jvm.Cond.code ({ cls := "com/example/kunci/kunci/TestOutcomeIsPassedPinLaw", name := "make", desc := "(ICC)Ljava/lang/String;" } : Jvm.MethodName) method_2_code (3 : Nat) (Option.some (Jvm.ClassFile.FieldType.object "java/lang/String"))).before a0 Z = true := g.1 _ (List.mem_of_getElem? (i := 3) rfl)
theorem wd_4 {Z : State} {a0 : Array Value} {EL : List (String × Nat)} {zc : Int32} (g : GH Z a0 EL zc) : (Jvm.Cond.methodLink "com/example/kunci/kunci/TestOutcomeIsPassedPinLaw" (12 : Nat) ({ cls := "java/lang/String", name := "valueOf", desc := "(C)Ljava/lang/String;" } : Jvm.MethodName)).before a0 Z = true := g.1 _ (List.mem_of_getElem? (i := 4) rfl)
theorem wd_5 {Z : State} {a0 : Array Value} {EL : List (String × Nat)} {zc : Int32} (g : GH Z a0 EL zc) : (Jvm.Cond.static ({ cls := "java/lang/String", name := "valueOf", desc := "(C)Ljava/lang/String;" } : Jvm.MethodName)).before a0 Z = true := g.1 _ (List.mem_of_getElem? (i := 5) rfl)
theorem wd_6 {Z : State} {a0 : Array Value} {EL : List (String × Nat)} {zc : Int32} (g : GH Z a0 EL zc) : (Jvm.Cond.initialized "java/lang/String").before a0 Z = true := g.1 _ (List.mem_of_getElem? (i := 6) rfl)
theorem wd_7 {Z : State} {a0 : Array Value} {EL : List (String × Nat)} {zc : Int32} (g : GH Z a0 EL zc) : (Jvm.Cond.code ({ cls := "java/lang/String", name := "valueOf", desc := "(C)Ljava/lang/String;" } : Jvm.MethodName) jdk_42_method_139_code (1 : Nat) (Option.some (Jvm.ClassFile.FieldType.object "java/lang/String"))).before a0 Z = true := g.1 _ (List.mem_of_getElem? (i := 7) rfl)
theorem wd_8 {Z : State} {a0 : Array Value} {EL : List (String × Nat)} {zc : Int32} (g : GH Z a0 EL zc) : (Jvm.Cond.fieldLink "java/lang/String" (38 : Nat) "java/lang/String" "COMPACT_STRINGS" "Z").before a0 Z = true := g.1 _ (List.mem_of_getElem? (i := 8) rfl)
theorem wd_9 {Z : State} {a0 : Array Value} {EL : List (String × Nat)} {zc : Int32} (g : GH Z a0 EL zc) : (Jvm.Cond.methodLink "java/lang/String" (1015 : Nat) ({ cls := "java/lang/StringLatin1", name := "canEncode", desc := "(C)Z" } : Jvm.MethodName)).before a0 Z = true := g.1 _ (List.mem_of_getElem? (i := 9) rfl)
theorem wd_10 {Z : State} {a0 : Array Value} {EL : List (String × Nat)} {zc : Int32} (g : GH Z a0 EL zc) : (Jvm.Cond.static ({ cls := "java/lang/StringLatin1", name := "canEncode", desc := "(C)Z" } : Jvm.MethodName)).before a0 Z = true := g.1 _ (List.mem_of_getElem? (i := 10) rfl)
theorem wd_11 {Z : State} {a0 : Array Value} {EL : List (String × Nat)} {zc : Int32} (g : GH Z a0 EL zc) : (Jvm.Cond.initialized "java/lang/StringLatin1").before a0 Z = true := g.1 _ (List.mem_of_getElem? (i := 11) rfl)
theorem wd_12 {Z : State} {a0 : Array Value} {EL : List (String × Nat)} {zc : Int32} (g : GH Z a0 EL zc) : (Jvm.Cond.code ({ cls := "java/lang/StringLatin1", name := "canEncode", desc := "(C)Z" } : Jvm.MethodName) jdk_43_method_3_code (1 : Nat) (Option.some Jvm.ClassFile.FieldType.boolean)).before a0 Z = true := g.1 _ (List.mem_of_getElem? (i := 12) rfl)
theorem wd_13 {Z : State} {a0 : Array Value} {EL : List (String × Nat)} {zc : Int32} (g : GH Z a0 EL zc) : (Jvm.Cond.classLink "java/lang/String" (10 : Nat) "java/lang/String").before a0 Z = true := g.1 _ (List.mem_of_getElem? (i := 13) rfl)
theorem wd_14 {Z : State} {a0 : Array Value} {EL : List (String × Nat)} {zc : Int32} (g : GH Z a0 EL zc) : (Jvm.Cond.instantiable "java/lang/String" (4 : Nat)).before a0 Z = true := g.1 _ (List.mem_of_getElem? (i := 14) rfl)
theorem wd_15 {Z : State} {a0 : Array Value} {EL : List (String × Nat)} {zc : Int32} (g : GH Z a0 EL zc) : (Jvm.Cond.methodLink "java/lang/String" (1018 : Nat) ({ cls := "java/lang/StringLatin1", name := "toBytes", desc := "(C)[B" } : Jvm.MethodName)).before a0 Z = true := g.1 _ (List.mem_of_getElem? (i := 15) rfl)
theorem wd_16 {Z : State} {a0 : Array Value} {EL : List (String × Nat)} {zc : Int32} (g : GH Z a0 EL zc) : (Jvm.Cond.static ({ cls := "java/lang/StringLatin1", name := "toBytes", desc := "(C)[B" } : Jvm.MethodName)).before a0 Z = true := g.1 _ (List.mem_of_getElem? (i := 16) rfl)
theorem wd_17 {Z : State} {a0 : Array Value} {EL : List (String × Nat)} {zc : Int32} (g : GH Z a0 EL zc) : (Jvm.Cond.code ({ cls := "java/lang/StringLatin1", name := "toBytes", desc := "(C)[B" } : Jvm.MethodName) jdk_43_method_46_code (1 : Nat) (Option.some (Jvm.ClassFile.FieldType.array Jvm.ClassFile.FieldType.byte))).before a0 Z = true := g.1 _ (List.mem_of_getElem? (i := 17) rfl)
theorem wd_18 {Z : State} {a0 : Array Value} {EL : List (String × Nat)} {zc : Int32} (g : GH Z a0 EL zc) : (Jvm.Cond.arrayClass Jvm.ClassFile.FieldType.byte).before a0 Z = true := g.1 _ (List.mem_of_getElem? (i := 18) rfl)
theorem wd_19 {Z : State} {a0 : Array Value} {EL : List (String × Nat)} {zc : Int32} (g : GH Z a0 EL zc) : (Jvm.Cond.methodLink "java/lang/String" (209 : Nat) ({ cls := "java/lang/String", name := "<init>", desc := "([BB)V" } : Jvm.MethodName)).before a0 Z = true := g.1 _ (List.mem_of_getElem? (i := 19) rfl)
theorem wd_20 {Z : State} {a0 : Array Value} {EL : List (String × Nat)} {zc : Int32} (g : GH Z a0 EL zc) : (Jvm.Cond.instanceMethod ({ cls := "java/lang/String", name := "<init>", desc := "([BB)V" } : Jvm.MethodName)).before a0 Z = true := g.1 _ (List.mem_of_getElem? (i := 20) rfl)
theorem wd_22 {Z : State} {a0 : Array Value} {EL : List (String × Nat)} {zc : Int32} (g : GH Z a0 EL zc) : (Jvm.Cond.code ({ cls := "java/lang/String", name := "<init>", desc := "([BB)V" } : Jvm.MethodName) jdk_42_method_151_code (3 : Nat) (Option.none : Option Jvm.ClassFile.FieldType)).before a0 Z = true := g.1 _ (List.mem_of_getElem? (i := 22) rfl)
theorem wd_23 {Z : State} {a0 : Array Value} {EL : List (String × Nat)} {zc : Int32} (g : GH Z a0 EL zc) : (Jvm.Cond.methodLink "java/lang/String" (1 : Nat) ({ cls := "java/lang/Object", name := "<init>", desc := "()V" } : Jvm.MethodName)).before a0 Z = true := g.1 _ (List.mem_of_getElem? (i := 23) rfl)
theorem wd_24 {Z : State} {a0 : Array Value} {EL : List (String × Nat)} {zc : Int32} (g : GH Z a0 EL zc) : (Jvm.Cond.instanceMethod ({ cls := "java/lang/Object", name := "<init>", desc := "()V" } : Jvm.MethodName)).before a0 Z = true := g.1 _ (List.mem_of_getElem? (i := 24) rfl)
theorem wd_25 {Z : State} {a0 : Array Value} {EL : List (String × Nat)} {zc : Int32} (g : GH Z a0 EL zc) : (Jvm.Cond.code ({ cls := "java/lang/Object", name := "<init>", desc := "()V" } : Jvm.MethodName) object_method_1_code (1 : Nat) (Option.none : Option Jvm.ClassFile.FieldType)).before a0 Z = true := g.1 _ (List.mem_of_getElem? (i := 25) rfl)
theorem wd_26 {Z : State} {a0 : Array Value} {EL : List (String × Nat)} {zc : Int32} (g : GH Z a0 EL zc) : (Jvm.Cond.fieldLink "java/lang/String" (9 : Nat) "java/lang/String" "value" "[B").before a0 Z = true := g.1 _ (List.mem_of_getElem? (i := 26) rfl)
theorem wd_27 {Z : State} {a0 : Array Value} {EL : List (String × Nat)} {zc : Int32} (g : GH Z a0 EL zc) : (Jvm.Cond.laysFinal "java/lang/String" "java/lang/String" "value" "[B").before a0 Z = true := g.1 _ (List.mem_of_getElem? (i := 27) rfl)
theorem wd_28 {Z : State} {a0 : Array Value} {EL : List (String × Nat)} {zc : Int32} (g : GH Z a0 EL zc) : (Jvm.Cond.fieldLink "java/lang/String" (15 : Nat) "java/lang/String" "coder" "B").before a0 Z = true := g.1 _ (List.mem_of_getElem? (i := 28) rfl)
theorem wd_29 {Z : State} {a0 : Array Value} {EL : List (String × Nat)} {zc : Int32} (g : GH Z a0 EL zc) : (Jvm.Cond.laysFinal "java/lang/String" "java/lang/String" "coder" "B").before a0 Z = true := g.1 _ (List.mem_of_getElem? (i := 29) rfl)
theorem wd_30 {Z : State} {a0 : Array Value} {EL : List (String × Nat)} {zc : Int32} (g : GH Z a0 EL zc) : (Jvm.Cond.classLink "com/example/kunci/kunci/TestOutcomeIsPassedPinLaw" (7 : Nat) "java/lang/String").before a0 Z = true := g.1 _ (List.mem_of_getElem? (i := 30) rfl)
theorem wd_31 {Z : State} {a0 : Array Value} {EL : List (String × Nat)} {zc : Int32} (g : GH Z a0 EL zc) : (Jvm.Cond.arrayClass Jvm.ClassFile.FieldType.char).before a0 Z = true := g.1 _ (List.mem_of_getElem? (i := 31) rfl)
theorem wd_32 {Z : State} {a0 : Array Value} {EL : List (String × Nat)} {zc : Int32} (g : GH Z a0 EL zc) : (Jvm.Cond.methodLink "com/example/kunci/kunci/TestOutcomeIsPassedPinLaw" (9 : Nat) ({ cls := "java/lang/String", name := "<init>", desc := "([C)V" } : Jvm.MethodName)).before a0 Z = true := g.1 _ (List.mem_of_getElem? (i := 32) rfl)
theorem wd_33 {Z : State} {a0 : Array Value} {EL : List (String × Nat)} {zc : Int32} (g : GH Z a0 EL zc) : (Jvm.Cond.instanceMethod ({ cls := "java/lang/String", name := "<init>", desc := "([C)V" } : Jvm.MethodName)).before a0 Z = true := g.1 _ (List.mem_of_getElem? (i := 33) rfl)
theorem wd_34 {Z : State} {a0 : Array Value} {EL : List (String × Nat)} {zc : Int32} (g : GH Z a0 EL zc) : (Jvm.Cond.code ({ cls := "java/lang/String", name := "<init>", desc := "([C)V" } : Jvm.MethodName) jdk_42_method_3_code (2 : Nat) (Option.none : Option Jvm.ClassFile.FieldType)).before a0 Z = true := g.1 _ (List.mem_of_getElem? (i := 34) rfl)
theorem wd_35 {Z : State} {a0 : Array Value} {EL : List (String × Nat)} {zc : Int32} (g : GH Z a0 EL zc) : (Jvm.Cond.methodLink "java/lang/String" (27 : Nat) ({ cls := "java/lang/String", name := "<init>", desc := "([CIILjava/lang/Void;)V" } : Jvm.MethodName)).before a0 Z = true := g.1 _ (List.mem_of_getElem? (i := 35) rfl)
theorem wd_36 {Z : State} {a0 : Array Value} {EL : List (String × Nat)} {zc : Int32} (g : GH Z a0 EL zc) : (Jvm.Cond.instanceMethod ({ cls := "java/lang/String", name := "<init>", desc := "([CIILjava/lang/Void;)V" } : Jvm.MethodName)).before a0 Z = true := g.1 _ (List.mem_of_getElem? (i := 36) rfl)
theorem wd_37 {Z : State} {a0 : Array Value} {EL : List (String × Nat)} {zc : Int32} (g : GH Z a0 EL zc) : (Jvm.Cond.code ({ cls := "java/lang/String", name := "<init>", desc := "([CIILjava/lang/Void;)V" } : Jvm.MethodName) jdk_42_method_149_code (6 : Nat) (Option.none : Option Jvm.ClassFile.FieldType)).before a0 Z = true := g.1 _ (List.mem_of_getElem? (i := 37) rfl)
theorem wd_38 {Z : State} {a0 : Array Value} {EL : List (String × Nat)} {zc : Int32} (g : GH Z a0 EL zc) : (Jvm.Cond.stringLink "java/lang/String" (7 : Nat) "").before a0 Z = true := g.1 _ (List.mem_of_getElem? (i := 38) rfl)
theorem wd_41 {Z : State} {a0 : Array Value} {EL : List (String × Nat)} {zc : Int32} (g : GH Z a0 EL zc) : (Jvm.Cond.classLink "com/example/kunci/kunci/TestOutcomeIsPassedPinLaw" (22 : Nat) "com/example/kunci/kunci/TestOutcome").before a0 Z = true := g.1 _ (List.mem_of_getElem? (i := 41) rfl)
theorem wd_42 {Z : State} {a0 : Array Value} {EL : List (String × Nat)} {zc : Int32} (g : GH Z a0 EL zc) : (Jvm.Cond.instantiable "com/example/kunci/kunci/TestOutcome" (3 : Nat)).before a0 Z = true := g.1 _ (List.mem_of_getElem? (i := 42) rfl)
theorem wd_43 {Z : State} {a0 : Array Value} {EL : List (String × Nat)} {zc : Int32} (g : GH Z a0 EL zc) : (Jvm.Cond.initialized "com/example/kunci/kunci/TestOutcome").before a0 Z = true := g.1 _ (List.mem_of_getElem? (i := 43) rfl)
theorem wd_44 {Z : State} {a0 : Array Value} {EL : List (String × Nat)} {zc : Int32} (g : GH Z a0 EL zc) : (Jvm.Cond.methodLink "com/example/kunci/kunci/TestOutcomeIsPassedPinLaw" (24 : Nat) ({ cls := "com/example/kunci/kunci/TestOutcome", name := "<init>", desc := "(Ljava/lang/String;Ljava/lang/String;Ljava/lang/String;)V" } : Jvm.MethodName)).before a0 Z = true := g.1 _ (List.mem_of_getElem? (i := 44) rfl)
theorem wd_45 {Z : State} {a0 : Array Value} {EL : List (String × Nat)} {zc : Int32} (g : GH Z a0 EL zc) : (Jvm.Cond.instanceMethod ({ cls := "com/example/kunci/kunci/TestOutcome", name := "<init>", desc := "(Ljava/lang/String;Ljava/lang/String;Ljava/lang/String;)V" } : Jvm.MethodName)).before a0 Z = true := g.1 _ (List.mem_of_getElem? (i := 45) rfl)
theorem wd_46 {Z : State} {a0 : Array Value} {EL : List (String × Nat)} {zc : Int32} (g : GH Z a0 EL zc) : (Jvm.Cond.code ({ cls := "com/example/kunci/kunci/TestOutcome", name := "<init>", desc := "(Ljava/lang/String;Ljava/lang/String;Ljava/lang/String;)V" } : Jvm.MethodName) prog_12_method_1_code (4 : Nat) (Option.none : Option Jvm.ClassFile.FieldType)).before a0 Z = true := g.1 _ (List.mem_of_getElem? (i := 46) rfl)
theorem wd_47 {Z : State} {a0 : Array Value} {EL : List (String × Nat)} {zc : Int32} (g : GH Z a0 EL zc) : (Jvm.Cond.methodLink "com/example/kunci/kunci/TestOutcome" (1 : Nat) ({ cls := "java/lang/Object", name := "<init>", desc := "()V" } : Jvm.MethodName)).before a0 Z = true := g.1 _ (List.mem_of_getElem? (i := 47) rfl)
theorem wd_48 {Z : State} {a0 : Array Value} {EL : List (String × Nat)} {zc : Int32} (g : GH Z a0 EL zc) : (Jvm.Cond.fieldLink "com/example/kunci/kunci/TestOutcome" (7 : Nat) "com/example/kunci/kunci/TestOutcome" "question" "Ljava/lang/String;").before a0 Z = true := g.1 _ (List.mem_of_getElem? (i := 48) rfl)
theorem wd_49 {Z : State} {a0 : Array Value} {EL : List (String × Nat)} {zc : Int32} (g : GH Z a0 EL zc) : (Jvm.Cond.laysFinal "com/example/kunci/kunci/TestOutcome" "com/example/kunci/kunci/TestOutcome" "question" "Ljava/lang/String;").before a0 Z = true := g.1 _ (List.mem_of_getElem? (i := 49) rfl)
theorem wd_50 {Z : State} {a0 : Array Value} {EL : List (String × Nat)} {zc : Int32} (g : GH Z a0 EL zc) : (Jvm.Cond.fieldLink "com/example/kunci/kunci/TestOutcome" (13 : Nat) "com/example/kunci/kunci/TestOutcome" "expected" "Ljava/lang/String;").before a0 Z = true := g.1 _ (List.mem_of_getElem? (i := 50) rfl)
theorem wd_51 {Z : State} {a0 : Array Value} {EL : List (String × Nat)} {zc : Int32} (g : GH Z a0 EL zc) : (Jvm.Cond.laysFinal "com/example/kunci/kunci/TestOutcome" "com/example/kunci/kunci/TestOutcome" "expected" "Ljava/lang/String;").before a0 Z = true := g.1 _ (List.mem_of_getElem? (i := 51) rfl)
theorem wd_52 {Z : State} {a0 : Array Value} {EL : List (String × Nat)} {zc : Int32} (g : GH Z a0 EL zc) : (Jvm.Cond.fieldLink "com/example/kunci/kunci/TestOutcome" (16 : Nat) "com/example/kunci/kunci/TestOutcome" "answer" "Ljava/lang/String;").before a0 Z = true := g.1 _ (List.mem_of_getElem? (i := 52) rfl)
theorem wd_53 {Z : State} {a0 : Array Value} {EL : List (String × Nat)} {zc : Int32} (g : GH Z a0 EL zc) : (Jvm.Cond.laysFinal "com/example/kunci/kunci/TestOutcome" "com/example/kunci/kunci/TestOutcome" "answer" "Ljava/lang/String;").before a0 Z = true := g.1 _ (List.mem_of_getElem? (i := 53) rfl)
theorem wd_54 {Z : State} {a0 : Array Value} {EL : List (String × Nat)} {zc : Int32} (g : GH Z a0 EL zc) : (Jvm.Cond.methodLink "com/example/kunci/kunci/TestOutcomeIsPassedPinLaw" (27 : Nat) ({ cls := "com/example/kunci/kunci/TestOutcome", name := "isPassed", desc := "()Z" } : Jvm.MethodName)).before a0 Z = true := g.1 _ (List.mem_of_getElem? (i := 54) rfl)
theorem wd_55 {Z : State} {a0 : Array Value} {EL : List (String × Nat)} {zc : Int32} (g : GH Z a0 EL zc) : (Jvm.Cond.declares ({ cls := "com/example/kunci/kunci/TestOutcome", name := "isPassed", desc := "()Z" } : Jvm.MethodName)).before a0 Z = true := g.1 _ (List.mem_of_getElem? (i := 55) rfl)
theorem wd_56 {Z : State} {a0 : Array Value} {EL : List (String × Nat)} {zc : Int32} (g : GH Z a0 EL zc) : (Jvm.Cond.instanceMethod ({ cls := "com/example/kunci/kunci/TestOutcome", name := "isPassed", desc := "()Z" } : Jvm.MethodName)).before a0 Z = true := g.1 _ (List.mem_of_getElem? (i := 56) rfl)
theorem wd_57 {Z : State} {a0 : Array Value} {EL : List (String × Nat)} {zc : Int32} (g : GH Z a0 EL zc) : (Jvm.Cond.selects "com/example/kunci/kunci/TestOutcome" ({ cls := "com/example/kunci/kunci/TestOutcome", name := "isPassed", desc := "()Z" } : Jvm.MethodName) ({ cls := "com/example/kunci/kunci/TestOutcome", name := "isPassed", desc := "()Z" } : Jvm.MethodName)).before a0 Z = true := g.1 _ (List.mem_of_getElem? (i := 57) rfl)
theorem wd_58 {Z : State} {a0 : Array Value} {EL : List (String × Nat)} {zc : Int32} (g : GH Z a0 EL zc) : (Jvm.Cond.code ({ cls := "com/example/kunci/kunci/TestOutcome", name := "isPassed", desc := "()Z" } : Jvm.MethodName) prog_12_method_5_code (1 : Nat) (Option.some Jvm.ClassFile.FieldType.boolean)).before a0 Z = true := g.1 _ (List.mem_of_getElem? (i := 58) rfl)
theorem wd_59 {Z : State} {a0 : Array Value} {EL : List (String × Nat)} {zc : Int32} (g : GH Z a0 EL zc) : (Jvm.Cond.methodLink "com/example/kunci/kunci/TestOutcome" (19 : Nat) ({ cls := "java/lang/String", name := "equals", desc := "(Ljava/lang/Object;)Z" } : Jvm.MethodName)).before a0 Z = true := g.1 _ (List.mem_of_getElem? (i := 59) rfl)
theorem wd_60 {Z : State} {a0 : Array Value} {EL : List (String × Nat)} {zc : Int32} (g : GH Z a0 EL zc) : (Jvm.Cond.declares ({ cls := "java/lang/String", name := "equals", desc := "(Ljava/lang/Object;)Z" } : Jvm.MethodName)).before a0 Z = true := g.1 _ (List.mem_of_getElem? (i := 60) rfl)
theorem wd_61 {Z : State} {a0 : Array Value} {EL : List (String × Nat)} {zc : Int32} (g : GH Z a0 EL zc) : (Jvm.Cond.instanceMethod ({ cls := "java/lang/String", name := "equals", desc := "(Ljava/lang/Object;)Z" } : Jvm.MethodName)).before a0 Z = true := g.1 _ (List.mem_of_getElem? (i := 61) rfl)
theorem wd_62 {Z : State} {a0 : Array Value} {EL : List (String × Nat)} {zc : Int32} (g : GH Z a0 EL zc) : (Jvm.Cond.selects "java/lang/String" ({ cls := "java/lang/String", name := "equals", desc := "(Ljava/lang/Object;)Z" } : Jvm.MethodName) ({ cls := "java/lang/String", name := "equals", desc := "(Ljava/lang/Object;)Z" } : Jvm.MethodName)).before a0 Z = true := g.1 _ (List.mem_of_getElem? (i := 62) rfl)
theorem wd_63 {Z : State} {a0 : Array Value} {EL : List (String × Nat)} {zc : Int32} (g : GH Z a0 EL zc) : (Jvm.Cond.code ({ cls := "java/lang/String", name := "equals", desc := "(Ljava/lang/Object;)Z" } : Jvm.MethodName) jdk_42_method_66_code (3 : Nat) (Option.some Jvm.ClassFile.FieldType.boolean)).before a0 Z = true := g.1 _ (List.mem_of_getElem? (i := 63) rfl)
theorem wd_64 {Z : State} {a0 : Array Value} {EL : List (String × Nat)} {zc : Int32} (g : GH Z a0 EL zc) : (Jvm.Cond.methodLink "java/lang/String" (541 : Nat) ({ cls := "java/lang/StringLatin1", name := "equals", desc := "([B[B)Z" } : Jvm.MethodName)).before a0 Z = true := g.1 _ (List.mem_of_getElem? (i := 64) rfl)
theorem wd_65 {Z : State} {a0 : Array Value} {EL : List (String × Nat)} {zc : Int32} (g : GH Z a0 EL zc) : (Jvm.Cond.static ({ cls := "java/lang/StringLatin1", name := "equals", desc := "([B[B)Z" } : Jvm.MethodName)).before a0 Z = true := g.1 _ (List.mem_of_getElem? (i := 65) rfl)
theorem wd_66 {Z : State} {a0 : Array Value} {EL : List (String × Nat)} {zc : Int32} (g : GH Z a0 EL zc) : (Jvm.Cond.code ({ cls := "java/lang/StringLatin1", name := "equals", desc := "([B[B)Z" } : Jvm.MethodName) jdk_43_method_13_code (3 : Nat) (Option.some Jvm.ClassFile.FieldType.boolean)).before a0 Z = true := g.1 _ (List.mem_of_getElem? (i := 66) rfl)
theorem wd_67 {Z : State} {a0 : Array Value} {EL : List (String × Nat)} {zc : Int32} (g : GH Z a0 EL zc) : (Jvm.Cond.methodLink "java/lang/String" (177 : Nat) ({ cls := "java/lang/StringUTF16", name := "compress", desc := "([CII)[B" } : Jvm.MethodName)).before a0 Z = true := g.1 _ (List.mem_of_getElem? (i := 67) rfl)
theorem wd_68 {Z : State} {a0 : Array Value} {EL : List (String × Nat)} {zc : Int32} (g : GH Z a0 EL zc) : (Jvm.Cond.static ({ cls := "java/lang/StringUTF16", name := "compress", desc := "([CII)[B" } : Jvm.MethodName)).before a0 Z = true := g.1 _ (List.mem_of_getElem? (i := 68) rfl)
theorem wd_69 {Z : State} {a0 : Array Value} {EL : List (String × Nat)} {zc : Int32} (g : GH Z a0 EL zc) : (Jvm.Cond.initialized "java/lang/StringUTF16").before a0 Z = true := g.1 _ (List.mem_of_getElem? (i := 69) rfl)
theorem wd_70 {Z : State} {a0 : Array Value} {EL : List (String × Nat)} {zc : Int32} (g : GH Z a0 EL zc) : (Jvm.Cond.code ({ cls := "java/lang/StringUTF16", name := "compress", desc := "([CII)[B" } : Jvm.MethodName) jdk_52_method_16_code (6 : Nat) (Option.some (Jvm.ClassFile.FieldType.array Jvm.ClassFile.FieldType.byte))).before a0 Z = true := g.1 _ (List.mem_of_getElem? (i := 70) rfl)
theorem wd_71 {Z : State} {a0 : Array Value} {EL : List (String × Nat)} {zc : Int32} (g : GH Z a0 EL zc) : (Jvm.Cond.methodLink "java/lang/StringUTF16" (115 : Nat) ({ cls := "java/lang/StringUTF16", name := "compress", desc := "([CI[BII)I" } : Jvm.MethodName)).before a0 Z = true := g.1 _ (List.mem_of_getElem? (i := 71) rfl)
theorem wd_72 {Z : State} {a0 : Array Value} {EL : List (String × Nat)} {zc : Int32} (g : GH Z a0 EL zc) : (Jvm.Cond.static ({ cls := "java/lang/StringUTF16", name := "compress", desc := "([CI[BII)I" } : Jvm.MethodName)).before a0 Z = true := g.1 _ (List.mem_of_getElem? (i := 72) rfl)
theorem wd_73 {Z : State} {a0 : Array Value} {EL : List (String × Nat)} {zc : Int32} (g : GH Z a0 EL zc) : (Jvm.Cond.code ({ cls := "java/lang/StringUTF16", name := "compress", desc := "([CI[BII)I" } : Jvm.MethodName) jdk_52_method_21_code (7 : Nat) (Option.some Jvm.ClassFile.FieldType.int)).before a0 Z = true := g.1 _ (List.mem_of_getElem? (i := 73) rfl)
theorem wd_74 {Z : State} {a0 : Array Value} {EL : List (String × Nat)} {zc : Int32} (g : GH Z a0 EL zc) : (Jvm.Cond.methodLink "java/lang/String" (47 : Nat) ({ cls := "java/lang/StringUTF16", name := "coderFromArrayLen", desc := "([BI)B" } : Jvm.MethodName)).before a0 Z = true := g.1 _ (List.mem_of_getElem? (i := 74) rfl)
theorem wd_75 {Z : State} {a0 : Array Value} {EL : List (String × Nat)} {zc : Int32} (g : GH Z a0 EL zc) : (Jvm.Cond.static ({ cls := "java/lang/StringUTF16", name := "coderFromArrayLen", desc := "([BI)B" } : Jvm.MethodName)).before a0 Z = true := g.1 _ (List.mem_of_getElem? (i := 75) rfl)
theorem wd_76 {Z : State} {a0 : Array Value} {EL : List (String × Nat)} {zc : Int32} (g : GH Z a0 EL zc) : (Jvm.Cond.code ({ cls := "java/lang/StringUTF16", name := "coderFromArrayLen", desc := "([BI)B" } : Jvm.MethodName) jdk_52_method_15_code (2 : Nat) (Option.some Jvm.ClassFile.FieldType.byte)).before a0 Z = true := g.1 _ (List.mem_of_getElem? (i := 76) rfl)
theorem D_prog_12_method_1_code_0 : decode prog_12_method_1_code 0 = .ok (.aload_n 0, 1) := by decide +kernel
theorem D_prog_12_method_1_code_1 : decode prog_12_method_1_code 1 = .ok (.invokespecial 1, 3) := by decide +kernel
theorem D_prog_12_method_1_code_10 : decode prog_12_method_1_code 10 = .ok (.aload_n 2, 1) := by decide +kernel
theorem D_prog_12_method_1_code_11 : decode prog_12_method_1_code 11 = .ok (.putfield 13, 3) := by decide +kernel
theorem D_prog_12_method_1_code_14 : decode prog_12_method_1_code 14 = .ok (.aload_n 0, 1) := by decide +kernel
theorem D_prog_12_method_1_code_15 : decode prog_12_method_1_code 15 = .ok (.aload_n 3, 1) := by decide +kernel
theorem D_prog_12_method_1_code_16 : decode prog_12_method_1_code 16 = .ok (.putfield 16, 3) := by decide +kernel
theorem D_prog_12_method_1_code_19 : decode prog_12_method_1_code 19 = .ok (.return_, 1) := by decide +kernel
theorem D_prog_12_method_1_code_4 : decode prog_12_method_1_code 4 = .ok (.aload_n 0, 1) := by decide +kernel
theorem D_prog_12_method_1_code_5 : decode prog_12_method_1_code 5 = .ok (.aload_n 1, 1) := by decide +kernel
theorem D_prog_12_method_1_code_6 : decode prog_12_method_1_code 6 = .ok (.putfield 7, 3) := by decide +kernel
theorem D_prog_12_method_1_code_9 : decode prog_12_method_1_code 9 = .ok (.aload_n 0, 1) := by decide +kernel
theorem D_prog_12_method_5_code_0 : decode prog_12_method_5_code 0 = .ok (.aload_n 0, 1) := by decide +kernel
theorem D_prog_12_method_5_code_1 : decode prog_12_method_5_code 1 = .ok (.getfield 13, 3) := by decide +kernel
theorem D_prog_12_method_5_code_11 : decode prog_12_method_5_code 11 = .ok (.ireturn, 1) := by decide +kernel
theorem D_prog_12_method_5_code_4 : decode prog_12_method_5_code 4 = .ok (.aload_n 0, 1) := by decide +kernel
theorem D_prog_12_method_5_code_5 : decode prog_12_method_5_code 5 = .ok (.getfield 16, 3) := by decide +kernel
theorem D_prog_12_method_5_code_8 : decode prog_12_method_5_code 8 = .ok (.invokevirtual 19, 3) := by decide +kernel
theorem D_method_2_code_0 : decode method_2_code 0 = .ok (.iload_n 0, 1) := by decide +kernel
theorem D_method_2_code_1 : decode method_2_code 1 = .ok (.ifCond .ne 14, 3) := by decide +kernel
theorem D_method_2_code_11 : decode method_2_code 11 = .ok (.invokespecial 9, 3) := by decide +kernel
theorem D_method_2_code_14 : decode method_2_code 14 = .ok (.areturn, 1) := by decide +kernel
theorem D_method_2_code_15 : decode method_2_code 15 = .ok (.iload_n 0, 1) := by decide +kernel
theorem D_method_2_code_16 : decode method_2_code 16 = .ok (.iconst 1, 1) := by decide +kernel
theorem D_method_2_code_17 : decode method_2_code 17 = .ok (.if_icmp .ne 8, 3) := by decide +kernel
theorem D_method_2_code_20 : decode method_2_code 20 = .ok (.iload_n 1, 1) := by decide +kernel
theorem D_method_2_code_21 : decode method_2_code 21 = .ok (.invokestatic 12, 3) := by decide +kernel
theorem D_method_2_code_24 : decode method_2_code 24 = .ok (.areturn, 1) := by decide +kernel
theorem D_method_2_code_25 : decode method_2_code 25 = .ok (.new 7, 3) := by decide +kernel
theorem D_method_2_code_28 : decode method_2_code 28 = .ok (.dup, 1) := by decide +kernel
theorem D_method_2_code_29 : decode method_2_code 29 = .ok (.iconst 2, 1) := by decide +kernel
theorem D_method_2_code_30 : decode method_2_code 30 = .ok (.newarray .char, 2) := by decide +kernel
theorem D_method_2_code_32 : decode method_2_code 32 = .ok (.dup, 1) := by decide +kernel
theorem D_method_2_code_33 : decode method_2_code 33 = .ok (.iconst 0, 1) := by decide +kernel
theorem D_method_2_code_34 : decode method_2_code 34 = .ok (.iload_n 1, 1) := by decide +kernel
theorem D_method_2_code_35 : decode method_2_code 35 = .ok (.castore, 1) := by decide +kernel
theorem D_method_2_code_36 : decode method_2_code 36 = .ok (.dup, 1) := by decide +kernel
theorem D_method_2_code_37 : decode method_2_code 37 = .ok (.iconst 1, 1) := by decide +kernel
theorem D_method_2_code_38 : decode method_2_code 38 = .ok (.iload_n 2, 1) := by decide +kernel
theorem D_method_2_code_39 : decode method_2_code 39 = .ok (.castore, 1) := by decide +kernel
theorem D_method_2_code_4 : decode method_2_code 4 = .ok (.new 7, 3) := by decide +kernel
theorem D_method_2_code_40 : decode method_2_code 40 = .ok (.invokespecial 9, 3) := by decide +kernel
theorem D_method_2_code_43 : decode method_2_code 43 = .ok (.areturn, 1) := by decide +kernel
theorem D_method_2_code_7 : decode method_2_code 7 = .ok (.dup, 1) := by decide +kernel
theorem D_method_2_code_8 : decode method_2_code 8 = .ok (.iconst 0, 1) := by decide +kernel
theorem D_method_2_code_9 : decode method_2_code 9 = .ok (.newarray .char, 2) := by decide +kernel
theorem D_jdk_42_method_151_code_0 : decode jdk_42_method_151_code 0 = .ok (.aload_n 0, 1) := by decide +kernel
theorem D_jdk_42_method_151_code_1 : decode jdk_42_method_151_code 1 = .ok (.invokespecial 1, 3) := by decide +kernel
theorem D_jdk_42_method_151_code_10 : decode jdk_42_method_151_code 10 = .ok (.iload_n 2, 1) := by decide +kernel
theorem D_jdk_42_method_151_code_11 : decode jdk_42_method_151_code 11 = .ok (.putfield 15, 3) := by decide +kernel
theorem D_jdk_42_method_151_code_14 : decode jdk_42_method_151_code 14 = .ok (.return_, 1) := by decide +kernel
theorem D_jdk_42_method_151_code_4 : decode jdk_42_method_151_code 4 = .ok (.aload_n 0, 1) := by decide +kernel
theorem D_jdk_42_method_151_code_5 : decode jdk_42_method_151_code 5 = .ok (.aload_n 1, 1) := by decide +kernel
theorem D_jdk_42_method_151_code_6 : decode jdk_42_method_151_code 6 = .ok (.putfield 9, 3) := by decide +kernel
theorem D_jdk_42_method_151_code_9 : decode jdk_42_method_151_code 9 = .ok (.aload_n 0, 1) := by decide +kernel
theorem D_jdk_42_method_3_code_0 : decode jdk_42_method_3_code 0 = .ok (.aload_n 0, 1) := by decide +kernel
theorem D_jdk_42_method_3_code_1 : decode jdk_42_method_3_code 1 = .ok (.aload_n 1, 1) := by decide +kernel
theorem D_jdk_42_method_3_code_2 : decode jdk_42_method_3_code 2 = .ok (.iconst 0, 1) := by decide +kernel
theorem D_jdk_42_method_3_code_3 : decode jdk_42_method_3_code 3 = .ok (.aload_n 1, 1) := by decide +kernel
theorem D_jdk_42_method_3_code_4 : decode jdk_42_method_3_code 4 = .ok (.arraylength, 1) := by decide +kernel
theorem D_jdk_42_method_3_code_5 : decode jdk_42_method_3_code 5 = .ok (.aconst_null, 1) := by decide +kernel
theorem D_jdk_42_method_3_code_6 : decode jdk_42_method_3_code 6 = .ok (.invokespecial 27, 3) := by decide +kernel
theorem D_jdk_42_method_3_code_9 : decode jdk_42_method_3_code 9 = .ok (.return_, 1) := by decide +kernel
theorem D_jdk_42_method_149_code_0 : decode jdk_42_method_149_code 0 = .ok (.aload_n 0, 1) := by decide +kernel
theorem D_jdk_42_method_149_code_1 : decode jdk_42_method_149_code 1 = .ok (.invokespecial 1, 3) := by decide +kernel
theorem D_jdk_42_method_149_code_11 : decode jdk_42_method_149_code 11 = .ok (.getfield 9, 3) := by decide +kernel
theorem D_jdk_42_method_149_code_14 : decode jdk_42_method_149_code 14 = .ok (.putfield 9, 3) := by decide +kernel
theorem D_jdk_42_method_149_code_17 : decode jdk_42_method_149_code 17 = .ok (.aload_n 0, 1) := by decide +kernel
theorem D_jdk_42_method_149_code_18 : decode jdk_42_method_149_code 18 = .ok (.ldc 7, 2) := by decide +kernel
theorem D_jdk_42_method_149_code_20 : decode jdk_42_method_149_code 20 = .ok (.getfield 15, 3) := by decide +kernel
theorem D_jdk_42_method_149_code_23 : decode jdk_42_method_149_code 23 = .ok (.putfield 15, 3) := by decide +kernel
theorem D_jdk_42_method_149_code_26 : decode jdk_42_method_149_code 26 = .ok (.return_, 1) := by decide +kernel
theorem D_jdk_42_method_149_code_27 : decode jdk_42_method_149_code 27 = .ok (.getstatic 38, 3) := by decide +kernel
theorem D_jdk_42_method_149_code_30 : decode jdk_42_method_149_code 30 = .ok (.ifCond .eq 28, 3) := by decide +kernel
theorem D_jdk_42_method_149_code_33 : decode jdk_42_method_149_code 33 = .ok (.aload_n 1, 1) := by decide +kernel
theorem D_jdk_42_method_149_code_34 : decode jdk_42_method_149_code 34 = .ok (.iload_n 2, 1) := by decide +kernel
theorem D_jdk_42_method_149_code_35 : decode jdk_42_method_149_code 35 = .ok (.iload_n 3, 1) := by decide +kernel
theorem D_jdk_42_method_149_code_36 : decode jdk_42_method_149_code 36 = .ok (.invokestatic 177, 3) := by decide +kernel
theorem D_jdk_42_method_149_code_39 : decode jdk_42_method_149_code 39 = .ok (.astore 5, 2) := by decide +kernel
theorem D_jdk_42_method_149_code_4 : decode jdk_42_method_149_code 4 = .ok (.iload_n 3, 1) := by decide +kernel
theorem D_jdk_42_method_149_code_41 : decode jdk_42_method_149_code 41 = .ok (.aload_n 0, 1) := by decide +kernel
theorem D_jdk_42_method_149_code_42 : decode jdk_42_method_149_code 42 = .ok (.aload 5, 2) := by decide +kernel
theorem D_jdk_42_method_149_code_44 : decode jdk_42_method_149_code 44 = .ok (.iload_n 3, 1) := by decide +kernel
theorem D_jdk_42_method_149_code_45 : decode jdk_42_method_149_code 45 = .ok (.invokestatic 47, 3) := by decide +kernel
theorem D_jdk_42_method_149_code_48 : decode jdk_42_method_149_code 48 = .ok (.putfield 15, 3) := by decide +kernel
theorem D_jdk_42_method_149_code_5 : decode jdk_42_method_149_code 5 = .ok (.ifCond .ne 22, 3) := by decide +kernel
theorem D_jdk_42_method_149_code_51 : decode jdk_42_method_149_code 51 = .ok (.aload_n 0, 1) := by decide +kernel
theorem D_jdk_42_method_149_code_52 : decode jdk_42_method_149_code 52 = .ok (.aload 5, 2) := by decide +kernel
theorem D_jdk_42_method_149_code_54 : decode jdk_42_method_149_code 54 = .ok (.putfield 9, 3) := by decide +kernel
theorem D_jdk_42_method_149_code_57 : decode jdk_42_method_149_code 57 = .ok (.return_, 1) := by decide +kernel
theorem D_jdk_42_method_149_code_8 : decode jdk_42_method_149_code 8 = .ok (.aload_n 0, 1) := by decide +kernel
theorem D_jdk_42_method_149_code_9 : decode jdk_42_method_149_code 9 = .ok (.ldc 7, 2) := by decide +kernel
theorem D_jdk_42_method_66_code_0 : decode jdk_42_method_66_code 0 = .ok (.aload_n 0, 1) := by decide +kernel
theorem D_jdk_42_method_66_code_1 : decode jdk_42_method_66_code 1 = .ok (.aload_n 1, 1) := by decide +kernel
theorem D_jdk_42_method_66_code_11 : decode jdk_42_method_66_code 11 = .ok (.ifCond .eq 43, 3) := by decide +kernel
theorem D_jdk_42_method_66_code_14 : decode jdk_42_method_66_code 14 = .ok (.aload_n 1, 1) := by decide +kernel
theorem D_jdk_42_method_66_code_15 : decode jdk_42_method_66_code 15 = .ok (.checkcast 10, 3) := by decide +kernel
theorem D_jdk_42_method_66_code_18 : decode jdk_42_method_66_code 18 = .ok (.astore_n 2, 1) := by decide +kernel
theorem D_jdk_42_method_66_code_19 : decode jdk_42_method_66_code 19 = .ok (.getstatic 38, 3) := by decide +kernel
theorem D_jdk_42_method_66_code_2 : decode jdk_42_method_66_code 2 = .ok (.if_acmp .ne 5, 3) := by decide +kernel
theorem D_jdk_42_method_66_code_22 : decode jdk_42_method_66_code 22 = .ok (.ifCond .eq 14, 3) := by decide +kernel
theorem D_jdk_42_method_66_code_25 : decode jdk_42_method_66_code 25 = .ok (.aload_n 0, 1) := by decide +kernel
theorem D_jdk_42_method_66_code_26 : decode jdk_42_method_66_code 26 = .ok (.getfield 15, 3) := by decide +kernel
theorem D_jdk_42_method_66_code_29 : decode jdk_42_method_66_code 29 = .ok (.aload_n 2, 1) := by decide +kernel
theorem D_jdk_42_method_66_code_30 : decode jdk_42_method_66_code 30 = .ok (.getfield 15, 3) := by decide +kernel
theorem D_jdk_42_method_66_code_33 : decode jdk_42_method_66_code 33 = .ok (.if_icmp .ne 21, 3) := by decide +kernel
theorem D_jdk_42_method_66_code_36 : decode jdk_42_method_66_code 36 = .ok (.aload_n 0, 1) := by decide +kernel
theorem D_jdk_42_method_66_code_37 : decode jdk_42_method_66_code 37 = .ok (.getfield 9, 3) := by decide +kernel
theorem D_jdk_42_method_66_code_40 : decode jdk_42_method_66_code 40 = .ok (.aload_n 2, 1) := by decide +kernel
theorem D_jdk_42_method_66_code_41 : decode jdk_42_method_66_code 41 = .ok (.getfield 9, 3) := by decide +kernel
theorem D_jdk_42_method_66_code_44 : decode jdk_42_method_66_code 44 = .ok (.invokestatic 541, 3) := by decide +kernel
theorem D_jdk_42_method_66_code_47 : decode jdk_42_method_66_code 47 = .ok (.ifCond .eq 7, 3) := by decide +kernel
theorem D_jdk_42_method_66_code_5 : decode jdk_42_method_66_code 5 = .ok (.iconst 1, 1) := by decide +kernel
theorem D_jdk_42_method_66_code_50 : decode jdk_42_method_66_code 50 = .ok (.iconst 1, 1) := by decide +kernel
theorem D_jdk_42_method_66_code_51 : decode jdk_42_method_66_code 51 = .ok (.goto 4, 3) := by decide +kernel
theorem D_jdk_42_method_66_code_54 : decode jdk_42_method_66_code 54 = .ok (.iconst 0, 1) := by decide +kernel
theorem D_jdk_42_method_66_code_55 : decode jdk_42_method_66_code 55 = .ok (.ireturn, 1) := by decide +kernel
theorem D_jdk_42_method_66_code_6 : decode jdk_42_method_66_code 6 = .ok (.ireturn, 1) := by decide +kernel
theorem D_jdk_42_method_66_code_7 : decode jdk_42_method_66_code 7 = .ok (.aload_n 1, 1) := by decide +kernel
theorem D_jdk_42_method_66_code_8 : decode jdk_42_method_66_code 8 = .ok (.instanceof 10, 3) := by decide +kernel
theorem D_jdk_42_method_139_code_0 : decode jdk_42_method_139_code 0 = .ok (.getstatic 38, 3) := by decide +kernel
theorem D_jdk_42_method_139_code_10 : decode jdk_42_method_139_code 10 = .ok (.ifCond .eq 16, 3) := by decide +kernel
theorem D_jdk_42_method_139_code_13 : decode jdk_42_method_139_code 13 = .ok (.new 10, 3) := by decide +kernel
theorem D_jdk_42_method_139_code_16 : decode jdk_42_method_139_code 16 = .ok (.dup, 1) := by decide +kernel
theorem D_jdk_42_method_139_code_17 : decode jdk_42_method_139_code 17 = .ok (.iload_n 0, 1) := by decide +kernel
theorem D_jdk_42_method_139_code_18 : decode jdk_42_method_139_code 18 = .ok (.invokestatic 1018, 3) := by decide +kernel
theorem D_jdk_42_method_139_code_21 : decode jdk_42_method_139_code 21 = .ok (.iconst 0, 1) := by decide +kernel
theorem D_jdk_42_method_139_code_22 : decode jdk_42_method_139_code 22 = .ok (.invokespecial 209, 3) := by decide +kernel
theorem D_jdk_42_method_139_code_25 : decode jdk_42_method_139_code 25 = .ok (.areturn, 1) := by decide +kernel
theorem D_jdk_42_method_139_code_3 : decode jdk_42_method_139_code 3 = .ok (.ifCond .eq 23, 3) := by decide +kernel
theorem D_jdk_42_method_139_code_6 : decode jdk_42_method_139_code 6 = .ok (.iload_n 0, 1) := by decide +kernel
theorem D_jdk_42_method_139_code_7 : decode jdk_42_method_139_code 7 = .ok (.invokestatic 1015, 3) := by decide +kernel
theorem D_jdk_43_method_3_code_0 : decode jdk_43_method_3_code 0 = .ok (.iload_n 0, 1) := by decide +kernel
theorem D_jdk_43_method_3_code_1 : decode jdk_43_method_3_code 1 = .ok (.sipush 255, 3) := by decide +kernel
theorem D_jdk_43_method_3_code_12 : decode jdk_43_method_3_code 12 = .ok (.ireturn, 1) := by decide +kernel
theorem D_jdk_43_method_3_code_4 : decode jdk_43_method_3_code 4 = .ok (.if_icmp .gt 7, 3) := by decide +kernel
theorem D_jdk_43_method_3_code_7 : decode jdk_43_method_3_code 7 = .ok (.iconst 1, 1) := by decide +kernel
theorem D_jdk_43_method_3_code_8 : decode jdk_43_method_3_code 8 = .ok (.goto 4, 3) := by decide +kernel
theorem D_jdk_43_method_13_code_0 : decode jdk_43_method_13_code 0 = .ok (.aload_n 0, 1) := by decide +kernel
theorem D_jdk_43_method_13_code_1 : decode jdk_43_method_13_code 1 = .ok (.arraylength, 1) := by decide +kernel
theorem D_jdk_43_method_13_code_10 : decode jdk_43_method_13_code 10 = .ok (.aload_n 0, 1) := by decide +kernel
theorem D_jdk_43_method_13_code_11 : decode jdk_43_method_13_code 11 = .ok (.arraylength, 1) := by decide +kernel
theorem D_jdk_43_method_13_code_12 : decode jdk_43_method_13_code 12 = .ok (.if_icmp .ge 20, 3) := by decide +kernel
theorem D_jdk_43_method_13_code_15 : decode jdk_43_method_13_code 15 = .ok (.aload_n 0, 1) := by decide +kernel
theorem D_jdk_43_method_13_code_16 : decode jdk_43_method_13_code 16 = .ok (.iload_n 2, 1) := by decide +kernel
theorem D_jdk_43_method_13_code_17 : decode jdk_43_method_13_code 17 = .ok (.baload, 1) := by decide +kernel
theorem D_jdk_43_method_13_code_18 : decode jdk_43_method_13_code 18 = .ok (.aload_n 1, 1) := by decide +kernel
theorem D_jdk_43_method_13_code_19 : decode jdk_43_method_13_code 19 = .ok (.iload_n 2, 1) := by decide +kernel
theorem D_jdk_43_method_13_code_2 : decode jdk_43_method_13_code 2 = .ok (.aload_n 1, 1) := by decide +kernel
theorem D_jdk_43_method_13_code_20 : decode jdk_43_method_13_code 20 = .ok (.baload, 1) := by decide +kernel
theorem D_jdk_43_method_13_code_21 : decode jdk_43_method_13_code 21 = .ok (.if_icmp .eq 5, 3) := by decide +kernel
theorem D_jdk_43_method_13_code_24 : decode jdk_43_method_13_code 24 = .ok (.iconst 0, 1) := by decide +kernel
theorem D_jdk_43_method_13_code_25 : decode jdk_43_method_13_code 25 = .ok (.ireturn, 1) := by decide +kernel
theorem D_jdk_43_method_13_code_26 : decode jdk_43_method_13_code 26 = .ok (.iinc 2 1, 3) := by decide +kernel
theorem D_jdk_43_method_13_code_29 : decode jdk_43_method_13_code 29 = .ok (.goto (-20), 3) := by decide +kernel
theorem D_jdk_43_method_13_code_3 : decode jdk_43_method_13_code 3 = .ok (.arraylength, 1) := by decide +kernel
theorem D_jdk_43_method_13_code_32 : decode jdk_43_method_13_code 32 = .ok (.iconst 1, 1) := by decide +kernel
theorem D_jdk_43_method_13_code_33 : decode jdk_43_method_13_code 33 = .ok (.ireturn, 1) := by decide +kernel
theorem D_jdk_43_method_13_code_34 : decode jdk_43_method_13_code 34 = .ok (.iconst 0, 1) := by decide +kernel
theorem D_jdk_43_method_13_code_35 : decode jdk_43_method_13_code 35 = .ok (.ireturn, 1) := by decide +kernel
theorem D_jdk_43_method_13_code_4 : decode jdk_43_method_13_code 4 = .ok (.if_icmp .ne 30, 3) := by decide +kernel
theorem D_jdk_43_method_13_code_7 : decode jdk_43_method_13_code 7 = .ok (.iconst 0, 1) := by decide +kernel
theorem D_jdk_43_method_13_code_8 : decode jdk_43_method_13_code 8 = .ok (.istore_n 2, 1) := by decide +kernel
theorem D_jdk_43_method_13_code_9 : decode jdk_43_method_13_code 9 = .ok (.iload_n 2, 1) := by decide +kernel
theorem D_jdk_43_method_46_code_0 : decode jdk_43_method_46_code 0 = .ok (.iconst 1, 1) := by decide +kernel
theorem D_jdk_43_method_46_code_1 : decode jdk_43_method_46_code 1 = .ok (.newarray .byte, 2) := by decide +kernel
theorem D_jdk_43_method_46_code_3 : decode jdk_43_method_46_code 3 = .ok (.dup, 1) := by decide +kernel
theorem D_jdk_43_method_46_code_4 : decode jdk_43_method_46_code 4 = .ok (.iconst 0, 1) := by decide +kernel
theorem D_jdk_43_method_46_code_5 : decode jdk_43_method_46_code 5 = .ok (.iload_n 0, 1) := by decide +kernel
theorem D_jdk_43_method_46_code_6 : decode jdk_43_method_46_code 6 = .ok (.i2b, 1) := by decide +kernel
theorem D_jdk_43_method_46_code_7 : decode jdk_43_method_46_code 7 = .ok (.bastore, 1) := by decide +kernel
theorem D_jdk_43_method_46_code_8 : decode jdk_43_method_46_code 8 = .ok (.areturn, 1) := by decide +kernel
theorem D_jdk_52_method_15_code_0 : decode jdk_52_method_15_code 0 = .ok (.iload_n 1, 1) := by decide +kernel
theorem D_jdk_52_method_15_code_1 : decode jdk_52_method_15_code 1 = .ok (.aload_n 0, 1) := by decide +kernel
theorem D_jdk_52_method_15_code_2 : decode jdk_52_method_15_code 2 = .ok (.arraylength, 1) := by decide +kernel
theorem D_jdk_52_method_15_code_3 : decode jdk_52_method_15_code 3 = .ok (.isub, 1) := by decide +kernel
theorem D_jdk_52_method_15_code_4 : decode jdk_52_method_15_code 4 = .ok (.bipush 31, 2) := by decide +kernel
theorem D_jdk_52_method_15_code_6 : decode jdk_52_method_15_code 6 = .ok (.iushr, 1) := by decide +kernel
theorem D_jdk_52_method_15_code_7 : decode jdk_52_method_15_code 7 = .ok (.i2b, 1) := by decide +kernel
theorem D_jdk_52_method_15_code_8 : decode jdk_52_method_15_code 8 = .ok (.ireturn, 1) := by decide +kernel
theorem D_jdk_52_method_16_code_0 : decode jdk_52_method_16_code 0 = .ok (.iload_n 2, 1) := by decide +kernel
theorem D_jdk_52_method_16_code_1 : decode jdk_52_method_16_code 1 = .ok (.newarray .byte, 2) := by decide +kernel
theorem D_jdk_52_method_16_code_12 : decode jdk_52_method_16_code 12 = .ok (.istore 4, 2) := by decide +kernel
theorem D_jdk_52_method_16_code_14 : decode jdk_52_method_16_code 14 = .ok (.iload 4, 2) := by decide +kernel
theorem D_jdk_52_method_16_code_16 : decode jdk_52_method_16_code 16 = .ok (.iload_n 2, 1) := by decide +kernel
theorem D_jdk_52_method_16_code_17 : decode jdk_52_method_16_code 17 = .ok (.if_icmp .eq 40, 3) := by decide +kernel
theorem D_jdk_52_method_16_code_3 : decode jdk_52_method_16_code 3 = .ok (.astore_n 3, 1) := by decide +kernel
theorem D_jdk_52_method_16_code_4 : decode jdk_52_method_16_code 4 = .ok (.aload_n 0, 1) := by decide +kernel
theorem D_jdk_52_method_16_code_5 : decode jdk_52_method_16_code 5 = .ok (.iload_n 1, 1) := by decide +kernel
theorem D_jdk_52_method_16_code_57 : decode jdk_52_method_16_code 57 = .ok (.aload_n 3, 1) := by decide +kernel
theorem D_jdk_52_method_16_code_58 : decode jdk_52_method_16_code 58 = .ok (.areturn, 1) := by decide +kernel
theorem D_jdk_52_method_16_code_6 : decode jdk_52_method_16_code 6 = .ok (.aload_n 3, 1) := by decide +kernel
theorem D_jdk_52_method_16_code_7 : decode jdk_52_method_16_code 7 = .ok (.iconst 0, 1) := by decide +kernel
theorem D_jdk_52_method_16_code_8 : decode jdk_52_method_16_code 8 = .ok (.iload_n 2, 1) := by decide +kernel
theorem D_jdk_52_method_16_code_9 : decode jdk_52_method_16_code 9 = .ok (.invokestatic 115, 3) := by decide +kernel
theorem D_jdk_52_method_21_code_0 : decode jdk_52_method_21_code 0 = .ok (.iconst 0, 1) := by decide +kernel
theorem D_jdk_52_method_21_code_1 : decode jdk_52_method_21_code 1 = .ok (.istore 5, 2) := by decide +kernel
theorem D_jdk_52_method_21_code_10 : decode jdk_52_method_21_code 10 = .ok (.aload_n 0, 1) := by decide +kernel
theorem D_jdk_52_method_21_code_11 : decode jdk_52_method_21_code 11 = .ok (.iload_n 1, 1) := by decide +kernel
theorem D_jdk_52_method_21_code_12 : decode jdk_52_method_21_code 12 = .ok (.caload, 1) := by decide +kernel
theorem D_jdk_52_method_21_code_13 : decode jdk_52_method_21_code 13 = .ok (.istore 6, 2) := by decide +kernel
theorem D_jdk_52_method_21_code_15 : decode jdk_52_method_21_code 15 = .ok (.iload 6, 2) := by decide +kernel
theorem D_jdk_52_method_21_code_17 : decode jdk_52_method_21_code 17 = .ok (.sipush 255, 3) := by decide +kernel
theorem D_jdk_52_method_21_code_20 : decode jdk_52_method_21_code 20 = .ok (.if_icmp .le 6, 3) := by decide +kernel
theorem D_jdk_52_method_21_code_26 : decode jdk_52_method_21_code 26 = .ok (.aload_n 2, 1) := by decide +kernel
theorem D_jdk_52_method_21_code_27 : decode jdk_52_method_21_code 27 = .ok (.iload_n 3, 1) := by decide +kernel
theorem D_jdk_52_method_21_code_28 : decode jdk_52_method_21_code 28 = .ok (.iload 6, 2) := by decide +kernel
theorem D_jdk_52_method_21_code_3 : decode jdk_52_method_21_code 3 = .ok (.iload 5, 2) := by decide +kernel
theorem D_jdk_52_method_21_code_30 : decode jdk_52_method_21_code 30 = .ok (.i2b, 1) := by decide +kernel
theorem D_jdk_52_method_21_code_31 : decode jdk_52_method_21_code 31 = .ok (.bastore, 1) := by decide +kernel
theorem D_jdk_52_method_21_code_32 : decode jdk_52_method_21_code 32 = .ok (.iinc 1 1, 3) := by decide +kernel
theorem D_jdk_52_method_21_code_35 : decode jdk_52_method_21_code 35 = .ok (.iinc 3 1, 3) := by decide +kernel
theorem D_jdk_52_method_21_code_38 : decode jdk_52_method_21_code 38 = .ok (.iinc 5 1, 3) := by decide +kernel
theorem D_jdk_52_method_21_code_41 : decode jdk_52_method_21_code 41 = .ok (.goto (-38), 3) := by decide +kernel
theorem D_jdk_52_method_21_code_44 : decode jdk_52_method_21_code 44 = .ok (.iload 4, 2) := by decide +kernel
theorem D_jdk_52_method_21_code_46 : decode jdk_52_method_21_code 46 = .ok (.ireturn, 1) := by decide +kernel
theorem D_jdk_52_method_21_code_5 : decode jdk_52_method_21_code 5 = .ok (.iload 4, 2) := by decide +kernel
theorem D_jdk_52_method_21_code_7 : decode jdk_52_method_21_code 7 = .ok (.if_icmp .ge 37, 3) := by decide +kernel
theorem pd_0 : parseMethodDescriptor "([CI[BII)I" = some ⟨[(.array .char), .int, (.array .byte), .int, .int], some .int⟩ := by decide +kernel
theorem pd_1 : parseMethodDescriptor "([CII)[B" = some ⟨[(.array .char), .int, .int], some (.array .byte)⟩ := by decide +kernel
theorem pd_2 : parseMethodDescriptor "([BI)B" = some ⟨[(.array .byte), .int], some .byte⟩ := by decide +kernel
theorem pd_3 : parseMethodDescriptor "([CIILjava/lang/Void;)V" = some ⟨[(.array .char), .int, .int, (.object "java/lang/Void")], none⟩ := by decide +kernel
theorem pd_4 : parseMethodDescriptor "(C)Z" = some ⟨[.char], some .boolean⟩ := by decide +kernel
theorem pd_5 : parseMethodDescriptor "(C)[B" = some ⟨[.char], some (.array .byte)⟩ := by decide +kernel
theorem pd_6 : parseMethodDescriptor "([BB)V" = some ⟨[(.array .byte), .byte], none⟩ := by decide +kernel
theorem pd_7 : parseMethodDescriptor "([B[B)Z" = some ⟨[(.array .byte), (.array .byte)], some .boolean⟩ := by decide +kernel
theorem pd_8 : parseMethodDescriptor "([C)V" = some ⟨[(.array .char)], none⟩ := by decide +kernel
theorem pd_9 : parseMethodDescriptor "(C)Ljava/lang/String;" = some ⟨[.char], some (.object "java/lang/String")⟩ := by decide +kernel
theorem pd_10 : parseMethodDescriptor "(Ljava/lang/Object;)Z" = some ⟨[(.object "java/lang/Object")], some .boolean⟩ := by decide +kernel
theorem pd_11 : parseMethodDescriptor "(ICC)Ljava/lang/String;" = some ⟨[.int, .char, .char], some (.object "java/lang/String")⟩ := by decide +kernel
theorem pd_12 : parseMethodDescriptor "(Ljava/lang/String;Ljava/lang/String;Ljava/lang/String;)V" = some ⟨[(.object "java/lang/String"), (.object "java/lang/String"), (.object "java/lang/String")], none⟩ := by decide +kernel
theorem pd_13 : parseMethodDescriptor "()Z" = some ⟨[], some .boolean⟩ := by decide +kernel
theorem pn_0 : plainName "java/lang/StringUTF16" = true := by first | (simp [plainName, overriddenIn]; done) | decide +kernel
theorem pn_1 : plainName "java/lang/String" = true := by first | (simp [plainName, overriddenIn]; done) | decide +kernel
theorem pn_2 : plainName "java/lang/StringLatin1" = true := by first | (simp [plainName, overriddenIn]; done) | decide +kernel
theorem pn_3 : plainName "com/example/kunci/kunci/TestOutcomeIsPassedPinLaw" = true := by first | (simp [plainName, overriddenIn]; done) | decide +kernel
theorem pn_4 : plainName "com/example/kunci/kunci/TestOutcome" = true := by first | (simp [plainName, overriddenIn]; done) | decide +kernel
set_option maxRecDepth 65536 in
set_option maxHeartbeats 40000000 in
theorem c_compress5 {l : Launch} {Z : State} {a0 : Array Value} {EL : List (String × Nat)} {nw : Prop} {zc : Int32} (g : GH Z a0 EL zc) (h : Heap) (b : Addr) (kb : ClassId) (cs : List Int32) (d : Addr) (kd : ClassId) (hcs : ∀ c ∈ cs, 0 ≤ c.toInt ∧ c.toInt ≤ 255) (hl : cs.length ≤ 4000) (hne : ¬ b = d) (gd : Z.heap.size ≤ d) (e0 : Ar Z h b kb .char (cs.map Value.int)) (e1 : Ar Z h d kd .byte ((List.replicate cs.length (0 : Int32)).map Value.int)) (zz : Z.heap.size ≤ h.size) :
    Ct l Z EL nw [] ⟨"java/lang/StringUTF16", "compress", "([CI[BII)I"⟩ jdk_52_method_21_code 7 (some .int) ({ frames := 0, cells := 0, slots := 0, locals := 0 } : Room) #[(.ref b), (.int (0 : Int32)), (.ref d), (.int (0 : Int32)), (.int (cs.length.toInt32))] h [d] (fun res vm' h' => res = some (.int (cs.length.toInt32)) ∧ Keep h h' [d] ∧ Ar Z h' d kd .byte ((cs.map by8).map Value.int) ∧ Safe Z EL vm' h' d) := by
  have ye0 := ltN e0.lt
  have ye1 := ltN e1.lt
  refine Ct.of_go (a0 := a0) g.2.1 pn_0 (L0 := #[.val (.ref b), .val (.int (0 : Int32)), .val (.ref d), .val (.int (0 : Int32)), .val (.int (cs.length.toInt32)), .unset, .unset]) (fun m => by first | (simp [entryFrame, mkF, argsToLocals, Value.category, own_rep]; done) | rfl) ?_
  intro p e s m below meth c hown hby hml hret hnm hZ hC hO hsf
  refine Go.iconst (hb hby D_jdk_52_method_21_code_0) (pc' := 1) rfl (z := (0 : Int32)) rfl ?_
  refine Go.istore (hb hby D_jdk_52_method_21_code_1) (pc' := 3) rfl (L' := #[.val (.ref b), .val (.int (0 : Int32)), .val (.ref d), .val (.int (0 : Int32)), .val (.int (cs.length.toInt32)), .val (.int (0 : Int32)), .unset]) rfl ?_
  refine Go.loop (Inv := fun r vmI hI kI nI LI => vmI = s.vm ∧ kI = 0 ∧ nI = 0 ∧ ∃ (i : Nat) (s6 : Slot), i + r = cs.length ∧ (s6 = .unset ∨ ∃ w, s6 = .val (.int w)) ∧ LI = #[.val (.ref b), .val (.int i.toInt32), .val (.ref d), .val (.int i.toInt32), .val (.int (cs.length.toInt32)), .val (.int i.toInt32), s6] ∧ Keep h hI [d] ∧ Ar Z hI d kd .byte (((cs.map by8).take i ++ List.replicate ((cs.map by8).length - i) 0).map Value.int) ∧ Safe Z EL s.vm hI d) ?_ cs.length _ _ _ _ _ ⟨rfl, rfl, rfl, 0, .unset, Nat.zero_add _, Or.inl rfl, rfl, Keep.refl _ _, by simpa using e1, hsf _ (by simp)⟩
  rintro r vmI hI kI nI LI ⟨rfl, rfl, rfl, i, s6, hir, hs6, rfl, KI, AI, SI⟩ ih
  have yI := KI.1
  have hi31 : i < 2 ^ 31 := by omega
  have hn31 : cs.length < 2 ^ 31 := by omega
  rcases hs6 with rfl | ⟨w6, rfl⟩
  · refine Go.iload (hb hby D_jdk_52_method_21_code_3) (pc' := 5) rfl rfl ?_
    refine Go.iload (hb hby D_jdk_52_method_21_code_5) (pc' := 7) rfl rfl ?_
    refine Go.icmp (hb hby D_jdk_52_method_21_code_7) (by decide) (pc' := 44) (by decide) (pc2 := 10) rfl (fun (q7 : ¬ i.toInt32 < (cs.length.toInt32)) => ?_) (fun (q7 : ¬ (¬ i.toInt32 < (cs.length.toInt32))) => ?_)
    · have hi : ¬ i < cs.length := fun z => q7 ((lt32 hi31 hn31).mpr z)
      have hi' : i = cs.length := by omega
      subst hi'
      have AI' : Ar Z hI d kd .byte ((cs.map by8).map Value.int) := by have q := AI; rw [show (cs.map by8).take cs.length ++ List.replicate ((cs.map by8).length - cs.length) 0 = cs.map by8 by simp [List.take_of_length_le]] at q; exact q
      refine Go.iload (hb hby D_jdk_52_method_21_code_44) (pc' := 46) rfl rfl ?_
      refine Go.retI hret (hb hby D_jdk_52_method_21_code_46) (by decide) (by decide) ?_
      intro vmR CR
      exact ⟨(by first | rfl | (simp only [own_nar]; done) | (congr 2; done)), ((Keep.refl h [d]).trans KI (allS (by first | (left; simp; done) | (right; omega)) all0)), AI', (Safe.to CR (by omega) SI)⟩
    · refine Go.aloadN (hb hby D_jdk_52_method_21_code_10) (pc' := 11) rfl rfl rfl ?_
      refine Go.iloadN (hb hby D_jdk_52_method_21_code_11) (pc' := 12) rfl rfl ?_
      have f1 : Ar Z hI b kb .char (cs.map Value.int) := (e0.keep KI (ninS hne nin0))
      have hi : i < cs.length := (lt32 hi31 hn31).mp (Classical.not_not.mp q7)
      obtain ⟨cx, hc⟩ : ∃ cx, cs[i] = cx := ⟨_, rfl⟩
      have hcb := hcs cx (hc ▸ List.getElem_mem hi)
      refine Go.caload f1 (v := (.int cx)) (nneg32 hi31) (by rw [clamp_nat hi31]; simp [hi, hc]) (hb hby D_jdk_52_method_21_code_12) (pc' := 13) rfl ?_
      refine Go.istore (hb hby D_jdk_52_method_21_code_13) (pc' := 15) rfl (L' := #[.val (.ref b), .val (.int i.toInt32), .val (.ref d), .val (.int i.toInt32), .val (.int (cs.length.toInt32)), .val (.int i.toInt32), .val (.int cx)]) rfl ?_
      refine Go.iload (hb hby D_jdk_52_method_21_code_15) (pc' := 17) rfl rfl ?_
      refine Go.sipush (hb hby D_jdk_52_method_21_code_17) (pc' := 20) rfl (z := (255 : Int32)) rfl ?_
      refine Go.icmpY (hb hby D_jdk_52_method_21_code_20) (by decide) (pc' := 26) (by decide) (by show ¬ (255 : Int32) < cx; rw [Int32.lt_iff_toInt_lt]; have : (255 : Int32).toInt = 255 := rfl; omega) ?_
      refine Go.aloadN (hb hby D_jdk_52_method_21_code_26) (pc' := 27) rfl rfl rfl ?_
      refine Go.iloadN (hb hby D_jdk_52_method_21_code_27) (pc' := 28) rfl rfl ?_
      refine Go.iload (hb hby D_jdk_52_method_21_code_28) (pc' := 30) rfl rfl ?_
      refine Go.i2b (hb hby D_jdk_52_method_21_code_30) (pc' := 31) rfl ?_
      refine Go.bastore AI (nneg32 hi31) (by rw [clamp_nat hi31]; simp; omega) SI (by omega) (hb hby D_jdk_52_method_21_code_31) (pc' := 32) rfl ?_
      intro h2 A3 z4 K5 S6 C7
      have A3 : Ar Z h2 d kd .byte ((((cs.map by8).take i ++ List.replicate ((cs.map by8).length - i) 0).map Value.int).set i.toInt32.toNatClampNeg (.int (nar .byte cx.toInt8.toInt32))) := A3
      refine Go.iinc (hb hby D_jdk_52_method_21_code_32) (pc' := 35) rfl rfl (L' := #[.val (.ref b), .val (.int (i.toInt32 + 1)), .val (.ref d), .val (.int i.toInt32), .val (.int (cs.length.toInt32)), .val (.int i.toInt32), .val (.int cx)]) rfl ?_
      refine Go.iinc (hb hby D_jdk_52_method_21_code_35) (pc' := 38) rfl rfl (L' := #[.val (.ref b), .val (.int (i.toInt32 + 1)), .val (.ref d), .val (.int (i.toInt32 + 1)), .val (.int (cs.length.toInt32)), .val (.int i.toInt32), .val (.int cx)]) rfl ?_
      refine Go.iinc (hb hby D_jdk_52_method_21_code_38) (pc' := 41) rfl rfl (L' := #[.val (.ref b), .val (.int (i.toInt32 + 1)), .val (.ref d), .val (.int (i.toInt32 + 1)), .val (.int (cs.length.toInt32)), .val (.int (i.toInt32 + 1)), .val (.int cx)]) rfl ?_
      refine Go.goto (hb hby D_jdk_52_method_21_code_41) (by decide) (pc' := 3) (by decide) ?_
      have hset := fill_set (cs.map by8) 0 i (by simpa using hi)
      rw [succ32 i]
      refine ih (r - 1) _ _ _ _ _ (by omega) ⟨rfl, rfl, rfl, i + 1, _, by omega, Or.inr ⟨_, rfl⟩, rfl, Keep.tr KI K5, ?_, S6⟩
      rw [nar_by8, clamp_nat hi31] at A3
      have e2 : (cs.map by8)[i]'(by simpa using hi) = by8 cx := by simp [hc]
      rw [← hset, e2, List.map_set]; exact A3
  · refine Go.iload (hb hby D_jdk_52_method_21_code_3) (pc' := 5) rfl rfl ?_
    refine Go.iload (hb hby D_jdk_52_method_21_code_5) (pc' := 7) rfl rfl ?_
    refine Go.icmp (hb hby D_jdk_52_method_21_code_7) (by decide) (pc' := 44) (by decide) (pc2 := 10) rfl (fun (q7 : ¬ i.toInt32 < (cs.length.toInt32)) => ?_) (fun (q7 : ¬ (¬ i.toInt32 < (cs.length.toInt32))) => ?_)
    · have hi : ¬ i < cs.length := fun z => q7 ((lt32 hi31 hn31).mpr z)
      have hi' : i = cs.length := by omega
      subst hi'
      have AI' : Ar Z hI d kd .byte ((cs.map by8).map Value.int) := by have q := AI; rw [show (cs.map by8).take cs.length ++ List.replicate ((cs.map by8).length - cs.length) 0 = cs.map by8 by simp [List.take_of_length_le]] at q; exact q
      refine Go.iload (hb hby D_jdk_52_method_21_code_44) (pc' := 46) rfl rfl ?_
      refine Go.retI hret (hb hby D_jdk_52_method_21_code_46) (by decide) (by decide) ?_
      intro vmR CR
      exact ⟨(by first | rfl | (simp only [own_nar]; done) | (congr 2; done)), ((Keep.refl h [d]).trans KI (allS (by first | (left; simp; done) | (right; omega)) all0)), AI', (Safe.to CR (by omega) SI)⟩
    · refine Go.aloadN (hb hby D_jdk_52_method_21_code_10) (pc' := 11) rfl rfl rfl ?_
      refine Go.iloadN (hb hby D_jdk_52_method_21_code_11) (pc' := 12) rfl rfl ?_
      have f8 : Ar Z hI b kb .char (cs.map Value.int) := (e0.keep KI (ninS hne nin0))
      have hi : i < cs.length := (lt32 hi31 hn31).mp (Classical.not_not.mp q7)
      obtain ⟨cx, hc⟩ : ∃ cx, cs[i] = cx := ⟨_, rfl⟩
      have hcb := hcs cx (hc ▸ List.getElem_mem hi)
      refine Go.caload f8 (v := (.int cx)) (nneg32 hi31) (by rw [clamp_nat hi31]; simp [hi, hc]) (hb hby D_jdk_52_method_21_code_12) (pc' := 13) rfl ?_
      refine Go.istore (hb hby D_jdk_52_method_21_code_13) (pc' := 15) rfl (L' := #[.val (.ref b), .val (.int i.toInt32), .val (.ref d), .val (.int i.toInt32), .val (.int (cs.length.toInt32)), .val (.int i.toInt32), .val (.int cx)]) rfl ?_
      refine Go.iload (hb hby D_jdk_52_method_21_code_15) (pc' := 17) rfl rfl ?_
      refine Go.sipush (hb hby D_jdk_52_method_21_code_17) (pc' := 20) rfl (z := (255 : Int32)) rfl ?_
      refine Go.icmpY (hb hby D_jdk_52_method_21_code_20) (by decide) (pc' := 26) (by decide) (by show ¬ (255 : Int32) < cx; rw [Int32.lt_iff_toInt_lt]; have : (255 : Int32).toInt = 255 := rfl; omega) ?_
      refine Go.aloadN (hb hby D_jdk_52_method_21_code_26) (pc' := 27) rfl rfl rfl ?_
      refine Go.iloadN (hb hby D_jdk_52_method_21_code_27) (pc' := 28) rfl rfl ?_
      refine Go.iload (hb hby D_jdk_52_method_21_code_28) (pc' := 30) rfl rfl ?_
      refine Go.i2b (hb hby D_jdk_52_method_21_code_30) (pc' := 31) rfl ?_
      refine Go.bastore AI (nneg32 hi31) (by rw [clamp_nat hi31]; simp; omega) SI (by omega) (hb hby D_jdk_52_method_21_code_31) (pc' := 32) rfl ?_
      intro h9 A10 z11 K12 S13 C14
      have A10 : Ar Z h9 d kd .byte ((((cs.map by8).take i ++ List.replicate ((cs.map by8).length - i) 0).map Value.int).set i.toInt32.toNatClampNeg (.int (nar .byte cx.toInt8.toInt32))) := A10
      refine Go.iinc (hb hby D_jdk_52_method_21_code_32) (pc' := 35) rfl rfl (L' := #[.val (.ref b), .val (.int (i.toInt32 + 1)), .val (.ref d), .val (.int i.toInt32), .val (.int (cs.length.toInt32)), .val (.int i.toInt32), .val (.int cx)]) rfl ?_
      refine Go.iinc (hb hby D_jdk_52_method_21_code_35) (pc' := 38) rfl rfl (L' := #[.val (.ref b), .val (.int (i.toInt32 + 1)), .val (.ref d), .val (.int (i.toInt32 + 1)), .val (.int (cs.length.toInt32)), .val (.int i.toInt32), .val (.int cx)]) rfl ?_
      refine Go.iinc (hb hby D_jdk_52_method_21_code_38) (pc' := 41) rfl rfl (L' := #[.val (.ref b), .val (.int (i.toInt32 + 1)), .val (.ref d), .val (.int (i.toInt32 + 1)), .val (.int (cs.length.toInt32)), .val (.int (i.toInt32 + 1)), .val (.int cx)]) rfl ?_
      refine Go.goto (hb hby D_jdk_52_method_21_code_41) (by decide) (pc' := 3) (by decide) ?_
      have hset := fill_set (cs.map by8) 0 i (by simpa using hi)
      rw [succ32 i]
      refine ih (r - 1) _ _ _ _ _ (by omega) ⟨rfl, rfl, rfl, i + 1, _, by omega, Or.inr ⟨_, rfl⟩, rfl, Keep.tr KI K12, ?_, S13⟩
      rw [nar_by8, clamp_nat hi31] at A10
      have e2 : (cs.map by8)[i]'(by simpa using hi) = by8 cx := by simp [hc]
      rw [← hset, e2, List.map_set]; exact A10
set_option maxRecDepth 65536 in
set_option maxHeartbeats 40000000 in
theorem c_compress3 {l : Launch} {Z : State} {a0 : Array Value} {EL : List (String × Nat)} {nw : Prop} {zc : Int32} (g : GH Z a0 EL zc) (h : Heap) (b : Addr) (kb : ClassId) (cs : List Int32) (hcs : ∀ c ∈ cs, 0 ≤ c.toInt ∧ c.toInt ≤ 255) (hl : cs.length ≤ 16) (e0 : Ar Z h b kb .char (cs.map Value.int)) (zz : Z.heap.size ≤ h.size) :
    Ct l Z EL nw [] ⟨"java/lang/StringUTF16", "compress", "([CII)[B"⟩ jdk_52_method_16_code 6 (some (.array .byte)) ({ frames := 1, cells := 1, slots := 16, locals := 18 } : Room) #[(.ref b), (.int (0 : Int32)), (.int (cs.length.toInt32))] h [] (fun res vm' h' => ∃ d : Addr, ∃ kd : ClassId, res = some (.ref d) ∧ Keep h h' [] ∧ h.size ≤ d ∧ Ar Z h' d kd .byte ((cs.map by8).map Value.int) ∧ Safe Z EL vm' h' d) := by
  have ye0 := ltN e0.lt
  refine Ct.of_go (a0 := a0) g.2.1 pn_0 (L0 := #[.val (.ref b), .val (.int (0 : Int32)), .val (.int (cs.length.toInt32)), .unset, .unset, .unset]) (fun m => by first | (simp [entryFrame, mkF, argsToLocals, Value.category, own_rep]; done) | rfl) ?_
  intro p e s m below meth c hown hby hml hret hnm hZ hC hO hsf
  refine Go.iloadN (hb hby D_jdk_52_method_16_code_0) (pc' := 1) rfl rfl ?_
  refine Go.newP (ty := .byte) rfl (wd_18 g) (hb hby D_jdk_52_method_16_code_1) (pc' := 3) rfl (nneg32 (by omega)) (cap := 16) (by rw [clamp_nat (by omega)]; exact hl) (by decide) (by decide) (by decide) ?_
  intro h1 a2 k3 g4 l5 E6 A7 S8 C9
  have KE6 := Keep.ofExt E6; have zE6 := E6.1
  have A7 : Ar Z h1 a2 k3 .byte (List.replicate (cs.length.toInt32).toNatClampNeg (.int 0)) := A7
  have A10 : Ar Z h1 a2 k3 .byte ((List.replicate cs.length (0 : Int32)).map Value.int) := by rw [clamp_nat (by omega)] at A7; rw [List.map_replicate]; exact A7
  refine Go.astoreN (hb hby D_jdk_52_method_16_code_3) (pc' := 4) rfl rfl (L' := #[.val (.ref b), .val (.int (0 : Int32)), .val (.int (cs.length.toInt32)), .val (.ref a2), .unset, .unset]) rfl ?_
  refine Go.aloadN (hb hby D_jdk_52_method_16_code_4) (pc' := 5) rfl rfl rfl ?_
  refine Go.iloadN (hb hby D_jdk_52_method_16_code_5) (pc' := 6) rfl rfl ?_
  refine Go.aloadN (hb hby D_jdk_52_method_16_code_6) (pc' := 7) rfl rfl rfl ?_
  refine Go.iconst (hb hby D_jdk_52_method_16_code_7) (pc' := 8) rfl (z := (0 : Int32)) rfl ?_
  refine Go.iloadN (hb hby D_jdk_52_method_16_code_8) (pc' := 9) rfl rfl ?_
  have f11 : Ar Z h1 b kb .char (cs.map Value.int) := (e0.keep KE6 nin0)
  refine Go.callS (c_compress5 (l := l) (nw := nw) g h1 b kb cs a2 k3 hcs (by omega) (neN (by omega)) (by omega) f11 A10 (by omega)) hown (wd_71 g) (wd_72 g) (wd_73 g) (wd_69 g) (by decide) (argsL := [(.ref b), (.int (0 : Int32)), (.ref a2), (.int (0 : Int32)), (.int (cs.length.toInt32))]) (lenOf pd_0 rfl) rfl (by rw [hml]; rfl) (W := 0) rfl (hb hby D_jdk_52_method_16_code_9) (pc' := 12) rfl (by decide) (by decide) (by decide) (by decide) (allS ⟨by omega, S8⟩ all0) ?_
  rintro _ vm12 h12 ⟨rfl, K12, o12_0, o12_1⟩ C12
  have z12 := K12.1
  have yo12_0 := ltN o12_0.lt
  -- pc 12
  refine Go.istore (hb hby D_jdk_52_method_16_code_12) (pc' := 14) rfl (L' := #[.val (.ref b), .val (.int (0 : Int32)), .val (.int (cs.length.toInt32)), .val (.ref a2), .val (.int (cs.length.toInt32)), .unset]) rfl ?_
  refine Go.iload (hb hby D_jdk_52_method_16_code_14) (pc' := 16) rfl rfl ?_
  refine Go.iloadN (hb hby D_jdk_52_method_16_code_16) (pc' := 17) rfl rfl ?_
  refine Go.icmpY (hb hby D_jdk_52_method_16_code_17) (by decide) (pc' := 57) (by decide) rfl ?_
  refine Go.aloadN (hb hby D_jdk_52_method_16_code_57) (pc' := 58) rfl rfl rfl ?_
  refine Go.retA hret rfl rfl (hb hby D_jdk_52_method_16_code_58) (by decide) (by decide) ?_
  intro vmR CR
  exact ⟨a2, k3, (by first | rfl | (simp only [own_nar]; done) | (congr 2; done)), (((Keep.refl h []).trans KE6 all0).trans K12 (allS (by first | (left; simp; done) | (right; omega)) all0)), (by omega), o12_0, (Safe.to CR (by omega) o12_1)⟩
set_option maxRecDepth 65536 in
set_option maxHeartbeats 40000000 in
theorem c_coderOf {l : Launch} {Z : State} {a0 : Array Value} {EL : List (String × Nat)} {nw : Prop} {zc : Int32} (g : GH Z a0 EL zc) (h : Heap) (d : Addr) (kd : ClassId) (bs : List Int32) (z : Int32) (hz : bs.length.toInt32 = z) (e0 : Ar Z h d kd .byte (bs.map Value.int)) (zz : Z.heap.size ≤ h.size) :
    Ct l Z EL nw [] ⟨"java/lang/StringUTF16", "coderFromArrayLen", "([BI)B"⟩ jdk_52_method_15_code 2 (some .byte) ({ frames := 0, cells := 0, slots := 0, locals := 0 } : Room) #[(.ref d), (.int z)] h [] (fun res vm' h' => res = some (.int (0 : Int32)) ∧ Keep h h' []) := by
  have ye0 := ltN e0.lt
  refine Ct.of_go (a0 := a0) g.2.1 pn_0 (L0 := #[.val (.ref d), .val (.int z)]) (fun m => by first | (simp [entryFrame, mkF, argsToLocals, Value.category, own_rep]; done) | rfl) ?_
  intro p e s m below meth c hown hby hml hret hnm hZ hC hO hsf
  refine Go.iloadN (hb hby D_jdk_52_method_15_code_0) (pc' := 1) rfl rfl ?_
  refine Go.aloadN (hb hby D_jdk_52_method_15_code_1) (pc' := 2) rfl rfl rfl ?_
  refine Go.alen e0 (z := (bs.length.toInt32)) (by rw [List.length_map]) (hb hby D_jdk_52_method_15_code_2) (pc' := 3) rfl ?_
  refine Go.isub (hb hby D_jdk_52_method_15_code_3) (pc' := 4) rfl ?_
  refine Go.bipush (hb hby D_jdk_52_method_15_code_4) (pc' := 6) rfl (z := (31 : Int32)) rfl ?_
  refine Go.iushr (hb hby D_jdk_52_method_15_code_6) (pc' := 7) rfl ?_
  refine Go.i2b (hb hby D_jdk_52_method_15_code_7) (pc' := 8) rfl ?_
  refine Go.retN (t := .byte) hret (by simp) (hb hby D_jdk_52_method_15_code_8) (by decide) (by decide) ?_
  intro vmR CR
  exact ⟨(by rw [hz, sub0]; rfl), (Keep.refl h [])⟩
set_option maxRecDepth 65536 in
set_option maxHeartbeats 40000000 in
theorem c_strinit4 {l : Launch} {Z : State} {a0 : Array Value} {EL : List (String × Nat)} {nw : Prop} {zc : Int32} (g : GH Z a0 EL zc) (h : Heap) (a : Addr) (b : Addr) (kb : ClassId) (cs : List Int32) (hcs : ∀ c ∈ cs, 0 ≤ c.toInt ∧ c.toInt ≤ 255) (h0 : 0 < cs.length) (hl : cs.length ≤ 16) (ga : Z.heap.size ≤ a) (e0 : Exa Z h a "java/lang/String") (e1 : Fld Z h a "java/lang/String" "coder" "B" (.int 0)) (e2 : Fld Z h a "java/lang/String" "value" "[B" .null) (e3 : Ar Z h b kb .char (cs.map Value.int)) (zz : Z.heap.size ≤ h.size) :
    Ct l Z EL nw [] ⟨"java/lang/String", "<init>", "([CIILjava/lang/Void;)V"⟩ jdk_42_method_149_code 6 none ({ frames := 2, cells := 1, slots := 16, locals := 35 } : Room) #[(.ref a), (.ref b), (.int (0 : Int32)), (.int (cs.length.toInt32)), .null] h [a] (fun res vm' h' => ∃ d : Addr, ∃ kd : ClassId, res = none ∧ Keep h h' [a] ∧ h.size ≤ d ∧ St Z h' a d kd (cs.map by8)) := by
  have ye0 := ltN e0.lt
  have ye1 := ltN e1.lt
  have ye2 := ltN e2.lt
  have ye3 := ltN e3.lt
  refine Ct.of_go (a0 := a0) g.2.1 pn_1 (L0 := #[.val (.ref a), .val (.ref b), .val (.int (0 : Int32)), .val (.int (cs.length.toInt32)), .val .null, .unset]) (fun m => by first | (simp [entryFrame, mkF, argsToLocals, Value.category, own_rep]; done) | rfl) ?_
  intro p e s m below meth c hown hby hml hret hnm hZ hC hO hsf
  refine Go.aloadN (hb hby D_jdk_42_method_149_code_0) (pc' := 1) rfl rfl rfl ?_
  refine Go.initO hown (wd_23 g) (wd_24 g) (wd_25 g) (by rw [hml]; rfl) (hb hby D_jdk_42_method_149_code_1) (by decide) (W := 0) rfl (by decide) (pc' := 4) rfl ?_
  refine Go.iloadN (hb hby D_jdk_42_method_149_code_4) (pc' := 5) rfl rfl ?_
  refine Go.ifY (hb hby D_jdk_42_method_149_code_5) (by decide) (pc' := 27) (by decide) (nz32 (by omega) h0) ?_
  refine Go.getS hown (wd_8 g) Via.refl g.2.2.2.2.1 (hb hby D_jdk_42_method_149_code_27) (pc' := 30) rfl ?_
  refine Go.ifN (hb hby D_jdk_42_method_149_code_30) (pc' := 33) rfl g.2.2.2.2.2.1 ?_
  refine Go.aloadN (hb hby D_jdk_42_method_149_code_33) (pc' := 34) rfl rfl rfl ?_
  refine Go.iloadN (hb hby D_jdk_42_method_149_code_34) (pc' := 35) rfl rfl ?_
  refine Go.iloadN (hb hby D_jdk_42_method_149_code_35) (pc' := 36) rfl rfl ?_
  refine Go.callS (c_compress3 (l := l) (nw := nw) g h b kb cs hcs hl e3 (by omega)) hown (wd_67 g) (wd_68 g) (wd_70 g) (wd_69 g) (by decide) (argsL := [(.ref b), (.int (0 : Int32)), (.int (cs.length.toInt32))]) (lenOf pd_1 rfl) rfl (by rw [hml]; rfl) (W := 0) rfl (hb hby D_jdk_42_method_149_code_36) (pc' := 39) rfl (by decide) (by decide) (by decide) (by decide) all0 ?_
  rintro _ vm1 h1 ⟨d_1, kd_1, rfl, K1, p1_0, o1_0, o1_1⟩ C1
  have z1 := K1.1
  have yo1_0 := ltN o1_0.lt
  -- pc 39
  refine Go.astore (hb hby D_jdk_42_method_149_code_39) (pc' := 41) rfl rfl (L' := #[.val (.ref a), .val (.ref b), .val (.int (0 : Int32)), .val (.int (cs.length.toInt32)), .val .null, .val (.ref d_1)]) rfl ?_
  refine Go.aloadN (hb hby D_jdk_42_method_149_code_41) (pc' := 42) rfl rfl rfl ?_
  refine Go.aload (hb hby D_jdk_42_method_149_code_42) (pc' := 44) rfl rfl rfl ?_
  refine Go.iloadN (hb hby D_jdk_42_method_149_code_44) (pc' := 45) rfl rfl ?_
  refine Go.callS (c_coderOf (l := l) (nw := nw) g h1 d_1 kd_1 (cs.map by8) (cs.length.toInt32) (by rw [List.length_map]) o1_0 (by omega)) hown (wd_74 g) (wd_75 g) (wd_76 g) (wd_69 g) (by decide) (argsL := [(.ref d_1), (.int (cs.length.toInt32))]) (lenOf pd_2 rfl) rfl (by rw [hml]; rfl) (W := 1) rfl (hb hby D_jdk_42_method_149_code_45) (pc' := 48) rfl (by decide) (by decide) (by decide) (by decide) all0 ?_
  rintro _ vm2 h2 ⟨rfl, K2⟩ C2
  have z2 := K2.1
  -- pc 48
  have f3 : Fld Z h2 a "java/lang/String" "coder" "B" (.int 0) := ((e1.keep K1 nin0).keep K2 nin0)
  have f4 : Exa Z h2 a "java/lang/String" := ((e0.keep K1).keep K2)
  have f5 : Safe Z EL vm2 h2 a := (Safe.to C2 (by omega) (Safe.to C1 (by omega) (hsf _ (by simp))))
  refine Go.putF hown (wd_28 g) Via.refl f3 f4 (Or.inr ⟨(wd_29 g), rfl, hnm⟩) (wd_14 g) (ty := .byte) (by decide) (v' := (.int (0 : Int32))) rfl (by first | rfl | exact fits_nar_byte _ ) (Or.inr f5) (by omega) (hb hby D_jdk_42_method_149_code_48) (pc' := 51) rfl ?_
  intro h6 W7 z9 K8 C10
  have f11 : Fld Z h2 a "java/lang/String" "value" "[B" .null := ((e2.keep K1 nin0).keep K2 nin0)
  have f12 : Fld Z h6 a "java/lang/String" "coder" "B" (.int (0 : Int32)) := (Fld.same W7 f3)
  have f13 : Fld Z h6 a "java/lang/String" "value" "[B" .null := (Fld.other W7 f11 (Or.inr (slot_ne (Or.inr (wd_27 g)) (Or.inr (wd_29 g)) (by decide) (t := (.array .byte)) (t' := .byte) (by decide) (by decide))))
  refine Go.aloadN (hb hby D_jdk_42_method_149_code_51) (pc' := 52) rfl rfl rfl ?_
  refine Go.aload (hb hby D_jdk_42_method_149_code_52) (pc' := 54) rfl rfl rfl ?_
  have f14 : Exa Z h6 a "java/lang/String" := (f4.keep K8)
  have f15 : Safe Z EL vm2 h6 a := (Safe.to C10 (by omega) f5)
  refine Go.putF hown (wd_26 g) Via.refl f13 f14 (Or.inr ⟨(wd_27 g), rfl, hnm⟩) (wd_14 g) (ty := (.array .byte)) (by decide) rfl rfl (Or.inr f15) (by omega) (hb hby D_jdk_42_method_149_code_54) (pc' := 57) rfl ?_
  intro h16 W17 z19 K18 C20
  have f21 : Fld Z h16 a "java/lang/String" "coder" "B" (.int (0 : Int32)) := (Fld.other W17 f12 (Or.inr (slot_ne (Or.inr (wd_29 g)) (Or.inr (wd_27 g)) (by decide) (t := .byte) (t' := (.array .byte)) (by decide) (by decide))))
  have f22 : Fld Z h16 a "java/lang/String" "value" "[B" (.ref d_1) := (Fld.same W17 f13)
  have f24 : Exa Z h16 a "java/lang/String" := (f14.keep K18)
  have f25 : Ar Z h16 d_1 kd_1 .byte ((cs.map by8).map Value.int) := (((o1_0.keep K2 nin0).keep K8 (ninS (Ne.symm (Ar.ne_exa (o1_0.keep K2 nin0) ((e0.keep K1).keep K2) (wd_14 g))) nin0)).keep K18 (ninS (Ne.symm (Ar.ne_exa ((o1_0.keep K2 nin0).keep K8 (ninS (Ne.symm (Ar.ne_exa (o1_0.keep K2 nin0) ((e0.keep K1).keep K2) (wd_14 g))) nin0)) (((e0.keep K1).keep K2).keep K8) (wd_14 g))) nin0))
  have f23 : St Z h16 a d_1 kd_1 (cs.map by8) := ⟨f24, f21, f22, f25, by rw [List.length_map]; omega⟩
  refine Go.ret hret (hb hby D_jdk_42_method_149_code_57) (by decide) (by decide) ?_
  intro vmR CR
  exact ⟨d_1, kd_1, rfl, (((((Keep.refl h [a]).trans K1 all0).trans K2 all0).trans K8 (allS (by first | (left; simp; done) | (right; omega)) all0)).trans K18 (allS (by first | (left; simp; done) | (right; omega)) all0)), (by omega), f23⟩
set_option maxRecDepth 65536 in
set_option maxHeartbeats 40000000 in
theorem c_strinit {l : Launch} {Z : State} {a0 : Array Value} {EL : List (String × Nat)} {nw : Prop} {zc : Int32} (g : GH Z a0 EL zc) (h : Heap) (a : Addr) (b : Addr) (kb : ClassId) (cs : List Int32) (hcs : ∀ c ∈ cs, 0 ≤ c.toInt ∧ c.toInt ≤ 255) (h0 : 0 < cs.length) (hl : cs.length ≤ 16) (ga : Z.heap.size ≤ a) (e0 : Exa Z h a "java/lang/String") (e1 : Fld Z h a "java/lang/String" "coder" "B" (.int 0)) (e2 : Fld Z h a "java/lang/String" "value" "[B" .null) (e3 : Ar Z h b kb .char (cs.map Value.int)) (zz : Z.heap.size ≤ h.size) :
    Ct l Z EL nw [] ⟨"java/lang/String", "<init>", "([C)V"⟩ jdk_42_method_3_code 2 none ({ frames := 3, cells := 1, slots := 16, locals := 52 } : Room) #[(.ref a), (.ref b)] h [a] (fun res vm' h' => ∃ d : Addr, ∃ kd : ClassId, res = none ∧ Keep h h' [a] ∧ h.size ≤ d ∧ St Z h' a d kd (cs.map by8)) := by
  have ye0 := ltN e0.lt
  have ye1 := ltN e1.lt
  have ye2 := ltN e2.lt
  have ye3 := ltN e3.lt
  refine Ct.of_go (a0 := a0) g.2.1 pn_1 (L0 := #[.val (.ref a), .val (.ref b)]) (fun m => by first | (simp [entryFrame, mkF, argsToLocals, Value.category, own_rep]; done) | rfl) ?_
  intro p e s m below meth c hown hby hml hret hnm hZ hC hO hsf
  refine Go.aloadN (hb hby D_jdk_42_method_3_code_0) (pc' := 1) rfl rfl rfl ?_
  refine Go.aloadN (hb hby D_jdk_42_method_3_code_1) (pc' := 2) rfl rfl rfl ?_
  refine Go.iconst (hb hby D_jdk_42_method_3_code_2) (pc' := 3) rfl (z := (0 : Int32)) rfl ?_
  refine Go.aloadN (hb hby D_jdk_42_method_3_code_3) (pc' := 4) rfl rfl rfl ?_
  refine Go.alen e3 (z := (cs.length.toInt32)) (by rw [List.length_map]) (hb hby D_jdk_42_method_3_code_4) (pc' := 5) rfl ?_
  refine Go.aconstNull (hb hby D_jdk_42_method_3_code_5) (pc' := 6) rfl ?_
  refine Go.callC (c_strinit4 (l := l) (nw := nw) g h a b kb cs hcs h0 hl ga e0 e1 e2 e3 (by omega)) hown rfl rfl (wd_35 g) (wd_36 g) (wd_37 g) (wd_6 g) (by decide) (argsL := [(.ref b), (.int (0 : Int32)), (.int (cs.length.toInt32)), .null]) (lenOf pd_3 rfl) rfl (by rw [hml]; rfl) (W := 0) rfl (hb hby D_jdk_42_method_3_code_6) (pc' := 9) rfl (by decide) (by decide) (by decide) (by decide) (allS ⟨by omega, (hsf _ (by simp))⟩ all0) ?_
  rintro _ vm1 h1 ⟨d_1, kd_1, rfl, K1, p1_0, o1_0⟩ C1
  have z1 := K1.1
  have yo1_0 := ltN o1_0.lt; have yo1_0' := ltN o1_0.ltb
  -- pc 9
  refine Go.ret hret (hb hby D_jdk_42_method_3_code_9) (by decide) (by decide) ?_
  intro vmR CR
  exact ⟨d_1, kd_1, rfl, ((Keep.refl h [a]).trans K1 (allS (by first | (left; simp; done) | (right; omega)) all0)), (by omega), o1_0⟩
set_option maxRecDepth 65536 in
set_option maxHeartbeats 40000000 in
theorem c_strinit40 {l : Launch} {Z : State} {a0 : Array Value} {EL : List (String × Nat)} {nw : Prop} {zc : Int32} (g : GH Z a0 EL zc) (hnw : ¬ nw) (h : Heap) (a : Addr) (b : Addr) (ga : Z.heap.size ≤ a) (e0 : Exa Z h a "java/lang/String") (e1 : Fld Z h a "java/lang/String" "coder" "B" (.int 0)) (e2 : Fld Z h a "java/lang/String" "value" "[B" .null) (zz : Z.heap.size ≤ h.size) :
    Ct l Z EL nw [] ⟨"java/lang/String", "<init>", "([CIILjava/lang/Void;)V"⟩ jdk_42_method_149_code 6 none ({ frames := 1, cells := 4, slots := 8, locals := 12 } : Room) #[(.ref a), (.ref b), (.int (0 : Int32)), (.int (0 : Int32)), .null] h [a] (fun res vm' h' => ∃ d : Addr, ∃ kd : ClassId, res = none ∧ Keep h h' [a] ∧ St Z h' a d kd []) := by
  have ye0 := ltN e0.lt
  have ye1 := ltN e1.lt
  have ye2 := ltN e2.lt
  refine Ct.of_go (a0 := a0) g.2.1 pn_1 (L0 := #[.val (.ref a), .val (.ref b), .val (.int (0 : Int32)), .val (.int (0 : Int32)), .val .null, .unset]) (fun m => by first | (simp [entryFrame, mkF, argsToLocals, Value.category, own_rep]; done) | rfl) ?_
  intro p e s m below meth c hown hby hml hret hnm hZ hC hO hsf
  refine Go.aloadN (hb hby D_jdk_42_method_149_code_0) (pc' := 1) rfl rfl rfl ?_
  refine Go.initO hown (wd_23 g) (wd_24 g) (wd_25 g) (by rw [hml]; rfl) (hb hby D_jdk_42_method_149_code_1) (by decide) (W := 0) rfl (by decide) (pc' := 4) rfl ?_
  refine Go.iloadN (hb hby D_jdk_42_method_149_code_4) (pc' := 5) rfl rfl ?_
  refine Go.ifN (hb hby D_jdk_42_method_149_code_5) (pc' := 8) rfl (show ¬ (¬ (0 : Int32) = (0 : Int32)) from by decide) ?_
  refine Go.aloadN (hb hby D_jdk_42_method_149_code_8) (pc' := 9) rfl rfl rfl ?_
  refine Go.ldcStr (n0 := 0) (vs := ([] : List Int32).map Value.int) hnw hown (wd_38 g) g.2.2.1 (g.2.2.2.1 _ (by decide)) (by decide) (hb hby D_jdk_42_method_149_code_9) (pc' := 11) rfl (by decide) (by decide) (by decide) (by decide) ?_
  intro vm1 h2 a3 b4 k5 E6 C7 X8 F9 F10 A11 l12 l13 N14
  have KE6 := Keep.ofExt E6; have zE6 := E6.1
  have f15 : St Z h2 a3 b4 k5 [] := ⟨X8, F9, F10, A11, by decide⟩
  refine Go.getF hown (wd_26 g) Via.refl f15.2.2.1 (hb hby D_jdk_42_method_149_code_11) (pc' := 14) rfl ?_
  have f16 : Fld Z h2 a "java/lang/String" "value" "[B" .null := (e2.keep KE6 nin0)
  have f17 : Exa Z h2 a "java/lang/String" := (e0.keep KE6)
  have f18 : Safe Z EL vm1 h2 a := (Safe.to C7 (by omega) (hsf _ (by simp)))
  refine Go.putF hown (wd_26 g) Via.refl f16 f17 (Or.inr ⟨(wd_27 g), rfl, hnm⟩) (wd_14 g) (ty := (.array .byte)) (by decide) rfl rfl (Or.inr f18) (by omega) (hb hby D_jdk_42_method_149_code_14) (pc' := 17) rfl ?_
  intro h19 W20 z22 K21 C23
  have f24 : Fld Z h2 a "java/lang/String" "coder" "B" (.int 0) := (e1.keep KE6 nin0)
  have f25 : Fld Z h19 a "java/lang/String" "coder" "B" (.int 0) := (Fld.other W20 f24 (Or.inr (slot_ne (Or.inr (wd_29 g)) (Or.inr (wd_27 g)) (by decide) (t := .byte) (t' := (.array .byte)) (by decide) (by decide))))
  have f26 : Fld Z h19 a "java/lang/String" "value" "[B" (.ref b4) := (Fld.same W20 f16)
  refine Go.aloadN (hb hby D_jdk_42_method_149_code_17) (pc' := 18) rfl rfl rfl ?_
  refine Go.ldcStr (n0 := 0) (vs := ([] : List Int32).map Value.int) hnw hown (wd_38 g) g.2.2.1 (g.2.2.2.1 _ (by decide)) (by decide) (hb hby D_jdk_42_method_149_code_18) (pc' := 20) rfl (by decide) (by decide) (by decide) (by decide) ?_
  intro vm27 h28 a29 b30 k31 E32 C33 X34 F35 F36 A37 l38 l39 N40
  have KE32 := Keep.ofExt E32; have zE32 := E32.1
  have f41 : St Z h28 a29 b30 k31 [] := ⟨X34, F35, F36, A37, by decide⟩
  refine Go.getF hown (wd_28 g) Via.refl f41.2.1 (hb hby D_jdk_42_method_149_code_20) (pc' := 23) rfl ?_
  have f42 : Fld Z h28 a "java/lang/String" "coder" "B" (.int 0) := (f25.keep KE32 nin0)
  have f43 : Exa Z h28 a "java/lang/String" := ((f17.keep K21).keep KE32)
  have f44 : Safe Z EL vm27 h28 a := (Safe.to C33 (by omega) (Safe.to C23 (by omega) f18))
  refine Go.putF hown (wd_28 g) Via.refl f42 f43 (Or.inr ⟨(wd_29 g), rfl, hnm⟩) (wd_14 g) (ty := .byte) (by decide) (v' := (.int (nar .byte 0))) rfl (by first | rfl | exact fits_nar_byte _ ) (Or.inr f44) (by omega) (hb hby D_jdk_42_method_149_code_23) (pc' := 26) rfl ?_
  intro h45 W46 z48 K47 C49
  have f50 : Fld Z h28 a "java/lang/String" "value" "[B" (.ref b4) := (f26.keep KE32 nin0)
  have f51 : Fld Z h45 a "java/lang/String" "coder" "B" (.int (nar .byte 0)) := (Fld.same W46 f42)
  have f52 : Fld Z h45 a "java/lang/String" "value" "[B" (.ref b4) := (Fld.other W46 f50 (Or.inr (slot_ne (Or.inr (wd_27 g)) (Or.inr (wd_29 g)) (by decide) (t := (.array .byte)) (t' := .byte) (by decide) (by decide))))
  have f54 : Exa Z h45 a "java/lang/String" := (f43.keep K47)
  have f55 : Ar Z h45 b4 k5 .byte ([].map Value.int) := (((f15.2.2.2.1.keep K21 (ninS (Ne.symm (Ar.ne_exa f15.2.2.2.1 (e0.keep KE6) (wd_14 g))) nin0)).keep KE32 nin0).keep K47 (ninS (Ne.symm (Ar.ne_exa ((f15.2.2.2.1.keep K21 (ninS (Ne.symm (Ar.ne_exa f15.2.2.2.1 (e0.keep KE6) (wd_14 g))) nin0)).keep KE32 nin0) (((e0.keep KE6).keep K21).keep KE32) (wd_14 g))) nin0))
  have f53 : St Z h45 a b4 k5 [] := ⟨f54, f51, f52, f55, by decide⟩
  refine Go.ret hret (hb hby D_jdk_42_method_149_code_26) (by decide) (by decide) ?_
  intro vmR CR
  exact ⟨b4, k5, rfl, (((((Keep.refl h [a]).trans KE6 all0).trans K21 (allS (by first | (left; simp; done) | (right; omega)) all0)).trans KE32 all0).trans K47 (allS (by first | (left; simp; done) | (right; omega)) all0)), f53⟩
set_option maxRecDepth 65536 in
set_option maxHeartbeats 40000000 in
theorem c_strinit0 {l : Launch} {Z : State} {a0 : Array Value} {EL : List (String × Nat)} {nw : Prop} {zc : Int32} (g : GH Z a0 EL zc) (hnw : ¬ nw) (h : Heap) (a : Addr) (b : Addr) (kb : ClassId) (ga : Z.heap.size ≤ a) (e0 : Exa Z h a "java/lang/String") (e1 : Fld Z h a "java/lang/String" "coder" "B" (.int 0)) (e2 : Fld Z h a "java/lang/String" "value" "[B" .null) (e3 : Ar Z h b kb .char []) (zz : Z.heap.size ≤ h.size) :
    Ct l Z EL nw [] ⟨"java/lang/String", "<init>", "([C)V"⟩ jdk_42_method_3_code 2 none ({ frames := 2, cells := 4, slots := 8, locals := 29 } : Room) #[(.ref a), (.ref b)] h [a] (fun res vm' h' => ∃ d : Addr, ∃ kd : ClassId, res = none ∧ Keep h h' [a] ∧ St Z h' a d kd []) := by
  have ye0 := ltN e0.lt
  have ye1 := ltN e1.lt
  have ye2 := ltN e2.lt
  have ye3 := ltN e3.lt
  refine Ct.of_go (a0 := a0) g.2.1 pn_1 (L0 := #[.val (.ref a), .val (.ref b)]) (fun m => by first | (simp [entryFrame, mkF, argsToLocals, Value.category, own_rep]; done) | rfl) ?_
  intro p e s m below meth c hown hby hml hret hnm hZ hC hO hsf
  refine Go.aloadN (hb hby D_jdk_42_method_3_code_0) (pc' := 1) rfl rfl rfl ?_
  refine Go.aloadN (hb hby D_jdk_42_method_3_code_1) (pc' := 2) rfl rfl rfl ?_
  refine Go.iconst (hb hby D_jdk_42_method_3_code_2) (pc' := 3) rfl (z := (0 : Int32)) rfl ?_
  refine Go.aloadN (hb hby D_jdk_42_method_3_code_3) (pc' := 4) rfl rfl rfl ?_
  refine Go.alen e3 (z := (0 : Int32)) rfl (hb hby D_jdk_42_method_3_code_4) (pc' := 5) rfl ?_
  refine Go.aconstNull (hb hby D_jdk_42_method_3_code_5) (pc' := 6) rfl ?_
  refine Go.callC (c_strinit40 (l := l) (nw := nw) g hnw h a b (by first | omega | assumption | decide) e0 e1 e2 (by omega)) hown rfl rfl (wd_35 g) (wd_36 g) (wd_37 g) (wd_6 g) (by decide) (argsL := [(.ref b), (.int (0 : Int32)), (.int (0 : Int32)), .null]) (lenOf pd_3 rfl) rfl (by rw [hml]; rfl) (W := 0) rfl (hb hby D_jdk_42_method_3_code_6) (pc' := 9) rfl (by decide) (by decide) (by decide) (by decide) (allS ⟨by omega, (hsf _ (by simp))⟩ all0) ?_
  rintro _ vm1 h1 ⟨d_1, kd_1, rfl, K1, o1_0⟩ C1
  have z1 := K1.1
  have yo1_0 := ltN o1_0.lt; have yo1_0' := ltN o1_0.ltb
  -- pc 9
  refine Go.ret hret (hb hby D_jdk_42_method_3_code_9) (by decide) (by decide) ?_
  intro vmR CR
  exact ⟨d_1, kd_1, rfl, ((Keep.refl h [a]).trans K1 (allS (by first | (left; simp; done) | (right; omega)) all0)), o1_0⟩
set_option maxRecDepth 65536 in
set_option maxHeartbeats 40000000 in
theorem c_canEncode {l : Launch} {Z : State} {a0 : Array Value} {EL : List (String × Nat)} {nw : Prop} {zc : Int32} (g : GH Z a0 EL zc) (h : Heap) (z : Int32) (hz : ¬ (255 : Int32) < z) (zz : Z.heap.size ≤ h.size) :
    Ct l Z EL nw [] ⟨"java/lang/StringLatin1", "canEncode", "(C)Z"⟩ jdk_43_method_3_code 1 (some .boolean) ({ frames := 0, cells := 0, slots := 0, locals := 0 } : Room) #[(.int z)] h [] (fun res vm' h' => res = some (.int (1 : Int32)) ∧ Keep h h' []) := by
  refine Ct.of_go (a0 := a0) g.2.1 pn_2 (L0 := #[.val (.int z)]) (fun m => by first | (simp [entryFrame, mkF, argsToLocals, Value.category, own_rep]; done) | rfl) ?_
  intro p e s m below meth c hown hby hml hret hnm hZ hC hO hsf
  refine Go.iloadN (hb hby D_jdk_43_method_3_code_0) (pc' := 1) rfl rfl ?_
  refine Go.sipush (hb hby D_jdk_43_method_3_code_1) (pc' := 4) rfl (z := (255 : Int32)) rfl ?_
  refine Go.icmpN (hb hby D_jdk_43_method_3_code_4) (pc' := 7) rfl hz ?_
  refine Go.iconst (hb hby D_jdk_43_method_3_code_7) (pc' := 8) rfl (z := (1 : Int32)) rfl ?_
  refine Go.goto (hb hby D_jdk_43_method_3_code_8) (by decide) (pc' := 12) (by decide) ?_
  refine Go.retN (t := .boolean) hret (by simp) (hb hby D_jdk_43_method_3_code_12) (by decide) (by decide) ?_
  intro vmR CR
  exact ⟨(by first | rfl | (simp only [own_nar]; done) | (congr 2; done)), (Keep.refl h [])⟩
set_option maxRecDepth 65536 in
set_option maxHeartbeats 40000000 in
theorem c_toBytes {l : Launch} {Z : State} {a0 : Array Value} {EL : List (String × Nat)} {nw : Prop} {zc : Int32} (g : GH Z a0 EL zc) (h : Heap) (z : Int32) (zz : Z.heap.size ≤ h.size) :
    Ct l Z EL nw [] ⟨"java/lang/StringLatin1", "toBytes", "(C)[B"⟩ jdk_43_method_46_code 1 (some (.array .byte)) ({ frames := 0, cells := 1, slots := 1, locals := 0 } : Room) #[(.int z)] h [] (fun res vm' h' => ∃ d : Addr, ∃ kd : ClassId, res = some (.ref d) ∧ Keep h h' [] ∧ h.size ≤ d ∧ Ar Z h' d kd .byte [(.int (by8 z))] ∧ Safe Z EL vm' h' d) := by
  refine Ct.of_go (a0 := a0) g.2.1 pn_2 (L0 := #[.val (.int z)]) (fun m => by first | (simp [entryFrame, mkF, argsToLocals, Value.category, own_rep]; done) | rfl) ?_
  intro p e s m below meth c hown hby hml hret hnm hZ hC hO hsf
  refine Go.iconst (hb hby D_jdk_43_method_46_code_0) (pc' := 1) rfl (z := (1 : Int32)) rfl ?_
  refine Go.newP (ty := .byte) rfl (wd_18 g) (hb hby D_jdk_43_method_46_code_1) (pc' := 3) rfl (by decide) (cap := 1) (by decide) (by decide) (by decide) (by decide) ?_
  intro h1 a2 k3 g4 l5 E6 A7 S8 C9
  have KE6 := Keep.ofExt E6; have zE6 := E6.1
  have A7 : Ar Z h1 a2 k3 .byte [(.int 0)] := A7
  refine Go.dup (hb hby D_jdk_43_method_46_code_3) (pc' := 4) rfl rfl ?_
  refine Go.iconst (hb hby D_jdk_43_method_46_code_4) (pc' := 5) rfl (z := (0 : Int32)) rfl ?_
  refine Go.iloadN (hb hby D_jdk_43_method_46_code_5) (pc' := 6) rfl rfl ?_
  refine Go.i2b (hb hby D_jdk_43_method_46_code_6) (pc' := 7) rfl ?_
  refine Go.bastore A7 (by decide) (Nat.lt_of_lt_of_eq (by decide : Int32.toNatClampNeg (0 : Int32) < 1) rfl) S8 (by omega) (hb hby D_jdk_43_method_46_code_7) (pc' := 8) rfl ?_
  intro h10 A11 z12 K13 S14 C15
  have A11 : Ar Z h10 a2 k3 .byte [(.int (nar .byte z.toInt8.toInt32))] := A11
  have A16 : Ar Z h10 a2 k3 .byte [(.int (by8 z))] := by have q := A11; rw [nar_by8] at q; exact q
  refine Go.retA hret rfl rfl (hb hby D_jdk_43_method_46_code_8) (by decide) (by decide) ?_
  intro vmR CR
  exact ⟨a2, k3, (by first | rfl | (simp only [own_nar]; done) | (congr 2; done)), (((Keep.refl h []).trans KE6 all0).trans K13 (allS (by first | (left; simp; done) | (right; omega)) all0)), (by omega), A16, (Safe.to CR (by omega) S14)⟩
set_option maxRecDepth 65536 in
set_option maxHeartbeats 40000000 in
theorem c_strinitB {l : Launch} {Z : State} {a0 : Array Value} {EL : List (String × Nat)} {nw : Prop} {zc : Int32} (g : GH Z a0 EL zc) (h : Heap) (a : Addr) (d : Addr) (kd : ClassId) (bs : List Int32) (ga : Z.heap.size ≤ a) (hb' : bs.length < 536870912) (e0 : Exa Z h a "java/lang/String") (e1 : Fld Z h a "java/lang/String" "coder" "B" (.int 0)) (e2 : Fld Z h a "java/lang/String" "value" "[B" .null) (e3 : Ar Z h d kd .byte (bs.map Value.int)) (zz : Z.heap.size ≤ h.size) :
    Ct l Z EL nw [] ⟨"java/lang/String", "<init>", "([BB)V"⟩ jdk_42_method_151_code 3 none ({ frames := 1, cells := 0, slots := 0, locals := 12 } : Room) #[(.ref a), (.ref d), (.int (0 : Int32))] h [a] (fun res vm' h' => res = none ∧ Keep h h' [a] ∧ St Z h' a d kd bs) := by
  have ye0 := ltN e0.lt
  have ye1 := ltN e1.lt
  have ye2 := ltN e2.lt
  have ye3 := ltN e3.lt
  refine Ct.of_go (a0 := a0) g.2.1 pn_1 (L0 := #[.val (.ref a), .val (.ref d), .val (.int (0 : Int32))]) (fun m => by first | (simp [entryFrame, mkF, argsToLocals, Value.category, own_rep]; done) | rfl) ?_
  intro p e s m below meth c hown hby hml hret hnm hZ hC hO hsf
  refine Go.aloadN (hb hby D_jdk_42_method_151_code_0) (pc' := 1) rfl rfl rfl ?_
  refine Go.initO hown (wd_23 g) (wd_24 g) (wd_25 g) (by rw [hml]; rfl) (hb hby D_jdk_42_method_151_code_1) (by decide) (W := 0) rfl (by decide) (pc' := 4) rfl ?_
  refine Go.aloadN (hb hby D_jdk_42_method_151_code_4) (pc' := 5) rfl rfl rfl ?_
  refine Go.aloadN (hb hby D_jdk_42_method_151_code_5) (pc' := 6) rfl rfl rfl ?_
  refine Go.putF hown (wd_26 g) Via.refl e2 e0 (Or.inr ⟨(wd_27 g), rfl, hnm⟩) (wd_14 g) (ty := (.array .byte)) (by decide) rfl rfl (Or.inr (hsf _ (by simp))) (by omega) (hb hby D_jdk_42_method_151_code_6) (pc' := 9) rfl ?_
  intro h1 W2 z4 K3 C5
  have f6 : Fld Z h1 a "java/lang/String" "coder" "B" (.int 0) := (Fld.other W2 e1 (Or.inr (slot_ne (Or.inr (wd_29 g)) (Or.inr (wd_27 g)) (by decide) (t := .byte) (t' := (.array .byte)) (by decide) (by decide))))
  have f7 : Fld Z h1 a "java/lang/String" "value" "[B" (.ref d) := (Fld.same W2 e2)
  refine Go.aloadN (hb hby D_jdk_42_method_151_code_9) (pc' := 10) rfl rfl rfl ?_
  refine Go.iloadN (hb hby D_jdk_42_method_151_code_10) (pc' := 11) rfl rfl ?_
  have f8 : Exa Z h1 a "java/lang/String" := (e0.keep K3)
  have f9 : Safe Z EL s.vm h1 a := (Safe.to C5 (by omega) (hsf _ (by simp)))
  refine Go.putF hown (wd_28 g) Via.refl f6 f8 (Or.inr ⟨(wd_29 g), rfl, hnm⟩) (wd_14 g) (ty := .byte) (by decide) (v' := (.int (0 : Int32))) rfl (by first | rfl | exact fits_nar_byte _ ) (Or.inr f9) (by omega) (hb hby D_jdk_42_method_151_code_11) (pc' := 14) rfl ?_
  intro h10 W11 z13 K12 C14
  have f15 : Fld Z h10 a "java/lang/String" "coder" "B" (.int (0 : Int32)) := (Fld.same W11 f6)
  have f16 : Fld Z h10 a "java/lang/String" "value" "[B" (.ref d) := (Fld.other W11 f7 (Or.inr (slot_ne (Or.inr (wd_27 g)) (Or.inr (wd_29 g)) (by decide) (t := (.array .byte)) (t' := .byte) (by decide) (by decide))))
  have f17 : Exa Z h10 a "java/lang/String" := (f8.keep K12)
  have f18 : Ar Z h10 d kd .byte (bs.map Value.int) := ((e3.keep K3 (ninS (Ne.symm (Ar.ne_exa e3 e0 (wd_14 g))) nin0)).keep K12 (ninS (Ne.symm (Ar.ne_exa (e3.keep K3 (ninS (Ne.symm (Ar.ne_exa e3 e0 (wd_14 g))) nin0)) (e0.keep K3) (wd_14 g))) nin0))
  have f19 : St Z h10 a d kd bs := ⟨f17, f15, f16, f18, hb'⟩
  refine Go.ret hret (hb hby D_jdk_42_method_151_code_14) (by decide) (by decide) ?_
  intro vmR CR
  exact ⟨rfl, (((Keep.refl h [a]).trans K3 (allS (by first | (left; simp; done) | (right; omega)) all0)).trans K12 (allS (by first | (left; simp; done) | (right; omega)) all0)), f19⟩
set_option maxRecDepth 65536 in
set_option maxHeartbeats 40000000 in
theorem c_valueOfC {l : Launch} {Z : State} {a0 : Array Value} {EL : List (String × Nat)} {nw : Prop} {zc : Int32} (g : GH Z a0 EL zc) (h : Heap) (z : Int32) (hz : ¬ (255 : Int32) < z) (zz : Z.heap.size ≤ h.size) :
    Ct l Z EL nw [] ⟨"java/lang/String", "valueOf", "(C)Ljava/lang/String;"⟩ jdk_42_method_139_code 1 (some (.object "java/lang/String")) ({ frames := 2, cells := 2, slots := 5, locals := 27 } : Room) #[(.int z)] h [] (fun res vm' h' => ∃ r : Addr, ∃ d : Addr, ∃ kd : ClassId, res = some (.ref r) ∧ Keep h h' [] ∧ h.size ≤ r ∧ h.size ≤ d ∧ St Z h' r d kd [(by8 z)]) := by
  refine Ct.of_go (a0 := a0) g.2.1 pn_1 (L0 := #[.val (.int z)]) (fun m => by first | (simp [entryFrame, mkF, argsToLocals, Value.category, own_rep]; done) | rfl) ?_
  intro p e s m below meth c hown hby hml hret hnm hZ hC hO hsf
  refine Go.getS hown (wd_8 g) Via.refl g.2.2.2.2.1 (hb hby D_jdk_42_method_139_code_0) (pc' := 3) rfl ?_
  refine Go.ifN (hb hby D_jdk_42_method_139_code_3) (pc' := 6) rfl g.2.2.2.2.2.1 ?_
  refine Go.iloadN (hb hby D_jdk_42_method_139_code_6) (pc' := 7) rfl rfl ?_
  refine Go.callS (c_canEncode (l := l) (nw := nw) g h z hz (by omega)) hown (wd_9 g) (wd_10 g) (wd_12 g) (wd_11 g) (by decide) (argsL := [(.int z)]) (lenOf pd_4 rfl) rfl (by rw [hml]; rfl) (W := 0) rfl (hb hby D_jdk_42_method_139_code_7) (pc' := 10) rfl (by decide) (by decide) (by decide) (by decide) all0 ?_
  rintro _ vm1 h1 ⟨rfl, K1⟩ C1
  have z1 := K1.1
  -- pc 10
  refine Go.ifN (hb hby D_jdk_42_method_139_code_10) (pc' := 13) rfl (show ¬ ((1 : Int32) = (0 : Int32)) from by decide) ?_
  refine Go.newO hown (wd_13 g) (wd_14 g) (wd_6 g) (hb hby D_jdk_42_method_139_code_13) (pc' := 16) rfl (by decide) (by decide) ?_
  intro h2 a3 g4 l5 E6 X7 D8 S9 C10
  have KE6 := Keep.ofExt E6; have zE6 := E6.1
  have f11 : Fld Z h2 a3 "java/lang/String" "value" "[B" .null := D8 (Or.inr (wd_27 g)) (ty := (.array .byte)) (by decide)
  have f12 : Fld Z h2 a3 "java/lang/String" "coder" "B" (.int 0) := D8 (Or.inr (wd_29 g)) (ty := .byte) (by decide)
  refine Go.dup (hb hby D_jdk_42_method_139_code_16) (pc' := 17) rfl rfl ?_
  refine Go.iloadN (hb hby D_jdk_42_method_139_code_17) (pc' := 18) rfl rfl ?_
  refine Go.callS (c_toBytes (l := l) (nw := nw) g h2 z (by omega)) hown (wd_15 g) (wd_16 g) (wd_17 g) (wd_11 g) (by decide) (argsL := [(.int z)]) (lenOf pd_5 rfl) rfl (by rw [hml]; rfl) (W := 2) rfl (hb hby D_jdk_42_method_139_code_18) (pc' := 21) rfl (by decide) (by decide) (by decide) (by decide) all0 ?_
  rintro _ vm13 h13 ⟨d_13, kd_13, rfl, K13, p13_0, o13_0, o13_1⟩ C13
  have z13 := K13.1
  have yo13_0 := ltN o13_0.lt
  -- pc 21
  refine Go.iconst (hb hby D_jdk_42_method_139_code_21) (pc' := 22) rfl (z := (0 : Int32)) rfl ?_
  have f14 : Exa Z h13 a3 "java/lang/String" := (X7.keep K13)
  have f15 : Fld Z h13 a3 "java/lang/String" "coder" "B" (.int 0) := (f12.keep K13 nin0)
  have f16 : Fld Z h13 a3 "java/lang/String" "value" "[B" .null := (f11.keep K13 nin0)
  have f17 : Safe Z EL vm13 h13 a3 := (Safe.to C13 (by omega) S9)
  refine Go.callC (c_strinitB (l := l) (nw := nw) g h13 a3 d_13 kd_13 [(by8 z)] (by first | omega | assumption | decide) (by simp) f14 f15 f16 o13_0 (by omega)) hown rfl rfl (wd_19 g) (wd_20 g) (wd_22 g) (wd_6 g) (by decide) (argsL := [(.ref d_13), (.int (0 : Int32))]) (lenOf pd_6 rfl) rfl (by rw [hml]; rfl) (W := 1) rfl (hb hby D_jdk_42_method_139_code_22) (pc' := 25) rfl (by decide) (by decide) (by decide) (by decide) (allS ⟨by omega, f17⟩ all0) ?_
  rintro _ vm18 h18 ⟨rfl, K18, o18_0⟩ C18
  have z18 := K18.1
  have yo18_0 := ltN o18_0.lt; have yo18_0' := ltN o18_0.ltb
  -- pc 25
  refine Go.retA hret rfl rfl (hb hby D_jdk_42_method_139_code_25) (by decide) (by decide) ?_
  intro vmR CR
  exact ⟨a3, d_13, kd_13, (by first | rfl | (simp only [own_nar]; done) | (congr 2; done)), (((((Keep.refl h []).trans K1 all0).trans KE6 all0).trans K13 all0).trans K18 (allS (by first | (left; simp; done) | (right; omega)) all0)), (by omega), (by omega), o18_0⟩
set_option maxRecDepth 65536 in
set_option maxHeartbeats 40000000 in
theorem c_l1eq {l : Launch} {Z : State} {a0 : Array Value} {EL : List (String × Nat)} {nw : Prop} {zc : Int32} (g : GH Z a0 EL zc) (h : Heap) (a : Addr) (ka : ClassId) (bs : List Int32) (b : Addr) (kb : ClassId) (cs : List Int32) (hl1 : bs.length < 536870912) (hl2 : cs.length < 536870912) (e0 : Ar Z h a ka .byte (bs.map Value.int)) (e1 : Ar Z h b kb .byte (cs.map Value.int)) (zz : Z.heap.size ≤ h.size) :
    Ct l Z EL nw [] ⟨"java/lang/StringLatin1", "equals", "([B[B)Z"⟩ jdk_43_method_13_code 3 (some .boolean) ({ frames := 0, cells := 0, slots := 0, locals := 0 } : Room) #[(.ref a), (.ref b)] h [] (fun res vm' h' => res = some (.int (bo (bs = cs))) ∧ Keep h h' []) := by
  have ye0 := ltN e0.lt
  have ye1 := ltN e1.lt
  refine Ct.of_go (a0 := a0) g.2.1 pn_2 (L0 := #[.val (.ref a), .val (.ref b), .unset]) (fun m => by first | (simp [entryFrame, mkF, argsToLocals, Value.category, own_rep]; done) | rfl) ?_
  intro p e s m below meth c hown hby hml hret hnm hZ hC hO hsf
  refine Go.aloadN (hb hby D_jdk_43_method_13_code_0) (pc' := 1) rfl rfl rfl ?_
  refine Go.alen e0 (z := (bs.length.toInt32)) (by rw [List.length_map]) (hb hby D_jdk_43_method_13_code_1) (pc' := 2) rfl ?_
  refine Go.aloadN (hb hby D_jdk_43_method_13_code_2) (pc' := 3) rfl rfl rfl ?_
  refine Go.alen e1 (z := (cs.length.toInt32)) (by rw [List.length_map]) (hb hby D_jdk_43_method_13_code_3) (pc' := 4) rfl ?_
  refine Go.icmp (hb hby D_jdk_43_method_13_code_4) (by decide) (pc' := 34) (by decide) (pc2 := 7) rfl (fun (q4 : ¬ (bs.length.toInt32) = (cs.length.toInt32)) => ?_) (fun (q4 : ¬ (¬ (bs.length.toInt32) = (cs.length.toInt32))) => ?_)
  · refine Go.iconst (hb hby D_jdk_43_method_13_code_34) (pc' := 35) rfl (z := (0 : Int32)) rfl ?_
    refine Go.retN (t := .boolean) hret (by simp) (hb hby D_jdk_43_method_13_code_35) (by decide) (by decide) ?_
    intro vmR CR
    exact ⟨(by rw [bo_no (fun z => q4 (by rw [z]))]; rfl), (Keep.refl h [])⟩
  · refine Go.iconst (hb hby D_jdk_43_method_13_code_7) (pc' := 8) rfl (z := (0 : Int32)) rfl ?_
    refine Go.istoreN (hb hby D_jdk_43_method_13_code_8) (pc' := 9) rfl (L' := #[.val (.ref a), .val (.ref b), .val (.int (0 : Int32))]) rfl ?_
    have hlen : bs.length = cs.length := (eq32 (by omega) (by omega)).mp (Classical.not_not.mp q4)
    refine Go.loop (Inv := fun r vmI hI kI nI LI => vmI = s.vm ∧ h = hI ∧ kI = 0 ∧ nI = 0 ∧ ∃ (i : Nat), i + r = bs.length ∧ LI = #[.val (.ref a), .val (.ref b), .val (.int i.toInt32)] ∧ ∀ j, j < i → bs[j]? = cs[j]?) ?_ bs.length _ _ _ _ _ ⟨rfl, rfl, rfl, rfl, 0, Nat.zero_add _, rfl, fun j hj => absurd hj (Nat.not_lt_zero _)⟩
    rintro r vmI hI kI nI LI ⟨rfl, rfl, rfl, rfl, i, hir, rfl, hsame⟩ ih
    have hi31 : i < 2 ^ 31 := by omega
    have hn31 : bs.length < 2 ^ 31 := by omega
    refine Go.iloadN (hb hby D_jdk_43_method_13_code_9) (pc' := 10) rfl rfl ?_
    refine Go.aloadN (hb hby D_jdk_43_method_13_code_10) (pc' := 11) rfl rfl rfl ?_
    refine Go.alen e0 (z := (bs.length.toInt32)) (by rw [List.length_map]) (hb hby D_jdk_43_method_13_code_11) (pc' := 12) rfl ?_
    refine Go.icmp (hb hby D_jdk_43_method_13_code_12) (by decide) (pc' := 32) (by decide) (pc2 := 15) rfl (fun (q12 : ¬ i.toInt32 < (bs.length.toInt32)) => ?_) (fun (q12 : ¬ (¬ i.toInt32 < (bs.length.toInt32))) => ?_)
    · refine Go.iconst (hb hby D_jdk_43_method_13_code_32) (pc' := 33) rfl (z := (1 : Int32)) rfl ?_
      refine Go.retN (t := .boolean) hret (by simp) (hb hby D_jdk_43_method_13_code_33) (by decide) (by decide) ?_
      intro vmR CR
      exact ⟨(by rw [bo_yes (List.ext_getElem? fun j => by by_cases hj : j < i; exact hsame j hj; have : ¬ i < bs.length := fun z => q12 ((lt32 hi31 hn31).mpr z); rw [List.getElem?_eq_none (by omega), List.getElem?_eq_none (by omega)])]; rfl), (Keep.refl h [])⟩
    · refine Go.aloadN (hb hby D_jdk_43_method_13_code_15) (pc' := 16) rfl rfl rfl ?_
      refine Go.iloadN (hb hby D_jdk_43_method_13_code_16) (pc' := 17) rfl rfl ?_
      have hi : i < bs.length := (lt32 hi31 hn31).mp (Classical.not_not.mp q12)
      obtain ⟨x, hx⟩ : ∃ x, bs[i] = x := ⟨_, rfl⟩
      obtain ⟨y, hy⟩ : ∃ y, cs[i]'(hlen ▸ hi) = y := ⟨_, rfl⟩
      refine Go.baload e0 (v := (.int x)) (nneg32 hi31) (by rw [clamp_nat hi31]; simp [hi, hx]) (hb hby D_jdk_43_method_13_code_17) (pc' := 18) rfl ?_
      refine Go.aloadN (hb hby D_jdk_43_method_13_code_18) (pc' := 19) rfl rfl rfl ?_
      refine Go.iloadN (hb hby D_jdk_43_method_13_code_19) (pc' := 20) rfl rfl ?_
      refine Go.baload e1 (v := (.int y)) (nneg32 hi31) (by rw [clamp_nat hi31]; simp [hlen ▸ hi, hy]) (hb hby D_jdk_43_method_13_code_20) (pc' := 21) rfl ?_
      refine Go.icmp (hb hby D_jdk_43_method_13_code_21) (by decide) (pc' := 26) (by decide) (pc2 := 24) rfl (fun (q21 : x = y) => ?_) (fun (q21 : ¬ (x = y)) => ?_)
      · refine Go.iinc (hb hby D_jdk_43_method_13_code_26) (pc' := 29) rfl rfl (L' := #[.val (.ref a), .val (.ref b), .val (.int (i.toInt32 + 1))]) rfl ?_
        refine Go.goto (hb hby D_jdk_43_method_13_code_29) (by decide) (pc' := 9) (by decide) ?_
        rw [succ32 i]
        refine ih (r - 1) _ _ _ _ _ (by omega) ⟨rfl, rfl, rfl, rfl, i + 1, by omega, rfl, fun j hj => ?_⟩
        rcases Nat.lt_succ_iff_lt_or_eq.mp hj with hj | rfl
        · exact hsame j hj
        · rw [List.getElem?_eq_getElem hi, List.getElem?_eq_getElem (hlen ▸ hi), hx, hy, q21]
      · refine Go.iconst (hb hby D_jdk_43_method_13_code_24) (pc' := 25) rfl (z := (0 : Int32)) rfl ?_
        refine Go.retN (t := .boolean) hret (by simp) (hb hby D_jdk_43_method_13_code_25) (by decide) (by decide) ?_
        intro vmR CR
        exact ⟨(by rw [bo_no (fun z => q21 (by subst z; rw [← hx, ← hy]))]; rfl), (Keep.refl h [])⟩
set_option maxRecDepth 65536 in
set_option maxHeartbeats 40000000 in
theorem c_eq {l : Launch} {Z : State} {a0 : Array Value} {EL : List (String × Nat)} {nw : Prop} {zc : Int32} (g : GH Z a0 EL zc) (h : Heap) (a : Addr) (d : Addr) (kd : ClassId) (bs : List Int32) (b : Addr) (f : Addr) (kf : ClassId) (cs : List Int32) (e0 : St Z h a d kd bs) (e1 : St Z h b f kf cs) (zz : Z.heap.size ≤ h.size) :
    Ct l Z EL nw [] ⟨"java/lang/String", "equals", "(Ljava/lang/Object;)Z"⟩ jdk_42_method_66_code 3 (some .boolean) ({ frames := 1, cells := 0, slots := 0, locals := 14 } : Room) #[(.ref a), (.ref b)] h [] (fun res vm' h' => res = some (.int (bo (bs = cs))) ∧ Keep h h' []) := by
  have ye0 := ltN e0.lt; have ye0' := ltN e0.ltb
  have ye1 := ltN e1.lt; have ye1' := ltN e1.ltb
  refine Ct.of_go (a0 := a0) g.2.1 pn_1 (L0 := #[.val (.ref a), .val (.ref b), .unset]) (fun m => by first | (simp [entryFrame, mkF, argsToLocals, Value.category, own_rep]; done) | rfl) ?_
  intro p e s m below meth c hown hby hml hret hnm hZ hC hO hsf
  by_cases hab : a = b
  · subst hab
    refine Go.aloadN (hb hby D_jdk_42_method_66_code_0) (pc' := 1) rfl rfl rfl ?_
    refine Go.aloadN (hb hby D_jdk_42_method_66_code_1) (pc' := 2) rfl rfl rfl ?_
    refine Go.acmpN (hb hby D_jdk_42_method_66_code_2) (pc' := 5) rfl rfl rfl (by simp [XT.acmp]) ?_
    refine Go.iconst (hb hby D_jdk_42_method_66_code_5) (pc' := 6) rfl (z := (1 : Int32)) rfl ?_
    refine Go.retN (t := .boolean) hret (by simp) (hb hby D_jdk_42_method_66_code_6) (by decide) (by decide) ?_
    intro vmR CR
    exact ⟨(by rw [bo_yes (St.uniq e0 e1)]; rfl), (Keep.refl h [])⟩
  · refine Go.aloadN (hb hby D_jdk_42_method_66_code_0) (pc' := 1) rfl rfl rfl ?_
    refine Go.aloadN (hb hby D_jdk_42_method_66_code_1) (pc' := 2) rfl rfl rfl ?_
    refine Go.acmpY (hb hby D_jdk_42_method_66_code_2) (by decide) (pc' := 7) (by decide) rfl rfl (by simp [XT.acmp, hab]) ?_
    refine Go.aloadN (hb hby D_jdk_42_method_66_code_7) (pc' := 8) rfl rfl rfl ?_
    refine Go.instY hown (wd_13 g) (Ins.self e1.1) (hb hby D_jdk_42_method_66_code_8) (pc' := 11) rfl ?_
    refine Go.ifN (hb hby D_jdk_42_method_66_code_11) (pc' := 14) rfl (show ¬ ((1 : Int32) = (0 : Int32)) from by decide) ?_
    refine Go.aloadN (hb hby D_jdk_42_method_66_code_14) (pc' := 15) rfl rfl rfl ?_
    refine Go.castY hown (wd_13 g) (Ins.self e1.1) (hb hby D_jdk_42_method_66_code_15) (pc' := 18) rfl ?_
    refine Go.astoreN (hb hby D_jdk_42_method_66_code_18) (pc' := 19) rfl rfl (L' := #[.val (.ref a), .val (.ref b), .val (.ref b)]) rfl ?_
    refine Go.getS hown (wd_8 g) Via.refl g.2.2.2.2.1 (hb hby D_jdk_42_method_66_code_19) (pc' := 22) rfl ?_
    refine Go.ifN (hb hby D_jdk_42_method_66_code_22) (pc' := 25) rfl g.2.2.2.2.2.1 ?_
    refine Go.aloadN (hb hby D_jdk_42_method_66_code_25) (pc' := 26) rfl rfl rfl ?_
    refine Go.getF hown (wd_28 g) Via.refl e0.2.1 (hb hby D_jdk_42_method_66_code_26) (pc' := 29) rfl ?_
    refine Go.aloadN (hb hby D_jdk_42_method_66_code_29) (pc' := 30) rfl rfl rfl ?_
    refine Go.getF hown (wd_28 g) Via.refl e1.2.1 (hb hby D_jdk_42_method_66_code_30) (pc' := 33) rfl ?_
    refine Go.icmpN (hb hby D_jdk_42_method_66_code_33) (pc' := 36) rfl (fun q => q rfl) ?_
    refine Go.aloadN (hb hby D_jdk_42_method_66_code_36) (pc' := 37) rfl rfl rfl ?_
    refine Go.getF hown (wd_26 g) Via.refl e0.2.2.1 (hb hby D_jdk_42_method_66_code_37) (pc' := 40) rfl ?_
    refine Go.aloadN (hb hby D_jdk_42_method_66_code_40) (pc' := 41) rfl rfl rfl ?_
    refine Go.getF hown (wd_26 g) Via.refl e1.2.2.1 (hb hby D_jdk_42_method_66_code_41) (pc' := 44) rfl ?_
    refine Go.callS (c_l1eq (l := l) (nw := nw) g h d kd bs f kf cs e0.2.2.2.2 e1.2.2.2.2 e0.2.2.2.1 e1.2.2.2.1 (by omega)) hown (wd_64 g) (wd_65 g) (wd_66 g) (wd_11 g) (by decide) (argsL := [(.ref d), (.ref f)]) (lenOf pd_7 rfl) rfl (by rw [hml]; rfl) (W := 0) rfl (hb hby D_jdk_42_method_66_code_44) (pc' := 47) rfl (by decide) (by decide) (by decide) (by decide) all0 ?_
    rintro _ vm1 h1 ⟨rfl, K1⟩ C1
    have z1 := K1.1
    -- pc 47
    refine Go.ifc (hb hby D_jdk_42_method_66_code_47) (by decide) (pc' := 54) (by decide) (pc2 := 50) rfl (fun (q47 : (bo (bs = cs)) = (0 : Int32)) => ?_) (fun (q47 : ¬ ((bo (bs = cs)) = (0 : Int32))) => ?_)
    · refine Go.iconst (hb hby D_jdk_42_method_66_code_54) (pc' := 55) rfl (z := (0 : Int32)) rfl ?_
      refine Go.retN (t := .boolean) hret (by simp) (hb hby D_jdk_42_method_66_code_55) (by decide) (by decide) ?_
      intro vmR CR
      exact ⟨(by first | (rw [bo_yes (bo_ne0.mp q47)]; rfl) | (rw [bo_no (fun z => (bo_ne0.mpr z) q47)]; rfl)), ((Keep.refl h []).trans K1 all0)⟩
    · refine Go.iconst (hb hby D_jdk_42_method_66_code_50) (pc' := 51) rfl (z := (1 : Int32)) rfl ?_
      refine Go.goto (hb hby D_jdk_42_method_66_code_51) (by decide) (pc' := 55) (by decide) ?_
      refine Go.retN (t := .boolean) hret (by simp) (hb hby D_jdk_42_method_66_code_55) (by decide) (by decide) ?_
      intro vmR CR
      exact ⟨(by first | (rw [bo_yes (bo_ne0.mp q47)]; rfl) | (rw [bo_no (fun z => (bo_ne0.mpr z) q47)]; rfl)), ((Keep.refl h []).trans K1 all0)⟩
set_option maxRecDepth 65536 in
set_option maxHeartbeats 40000000 in
theorem c_eqnull {l : Launch} {Z : State} {a0 : Array Value} {EL : List (String × Nat)} {nw : Prop} {zc : Int32} (g : GH Z a0 EL zc) (h : Heap) (a : Addr) (zz : Z.heap.size ≤ h.size) :
    Ct l Z EL nw [] ⟨"java/lang/String", "equals", "(Ljava/lang/Object;)Z"⟩ jdk_42_method_66_code 3 (some .boolean) ({ frames := 0, cells := 0, slots := 0, locals := 0 } : Room) #[(.ref a), .null] h [] (fun res vm' h' => res = some (.int (0 : Int32)) ∧ Keep h h' []) := by
  refine Ct.of_go (a0 := a0) g.2.1 pn_1 (L0 := #[.val (.ref a), .val .null, .unset]) (fun m => by first | (simp [entryFrame, mkF, argsToLocals, Value.category, own_rep]; done) | rfl) ?_
  intro p e s m below meth c hown hby hml hret hnm hZ hC hO hsf
  refine Go.aloadN (hb hby D_jdk_42_method_66_code_0) (pc' := 1) rfl rfl rfl ?_
  refine Go.aloadN (hb hby D_jdk_42_method_66_code_1) (pc' := 2) rfl rfl rfl ?_
  refine Go.acmpY (hb hby D_jdk_42_method_66_code_2) (by decide) (pc' := 7) (by decide) rfl rfl (by simp [XT.acmp]) ?_
  refine Go.aloadN (hb hby D_jdk_42_method_66_code_7) (pc' := 8) rfl rfl rfl ?_
  refine Go.instNull (hb hby D_jdk_42_method_66_code_8) (pc' := 11) rfl ?_
  refine Go.ifY (hb hby D_jdk_42_method_66_code_11) (by decide) (pc' := 54) (by decide) (show (0 : Int32) = (0 : Int32) from by decide) ?_
  refine Go.iconst (hb hby D_jdk_42_method_66_code_54) (pc' := 55) rfl (z := (0 : Int32)) rfl ?_
  refine Go.retN (t := .boolean) hret (by simp) (hb hby D_jdk_42_method_66_code_55) (by decide) (by decide) ?_
  intro vmR CR
  exact ⟨(by first | rfl | (simp only [own_nar]; done) | (congr 2; done)), (Keep.refl h [])⟩
set_option maxRecDepth 65536 in
set_option maxHeartbeats 40000000 in
theorem c_make {l : Launch} {Z : State} {a0 : Array Value} {EL : List (String × Nat)} {nw : Prop} {zc : Int32} (g : GH Z a0 EL zc) (hnw : ¬ nw) (h : Heap) (n : Int32) (x : Int32) (y : Int32) (hx : 0 ≤ x.toInt ∧ x.toInt ≤ 255) (hy : 0 ≤ y.toInt ∧ y.toInt ≤ 255) (zz : Z.heap.size ≤ h.size) :
    Ct l Z EL nw [] ⟨"com/example/kunci/kunci/TestOutcomeIsPassedPinLaw", "make", "(ICC)Ljava/lang/String;"⟩ method_2_code 3 (some (.object "java/lang/String")) ({ frames := 4, cells := 6, slots := 22, locals := 66 } : Room) #[(.int n), (.int x), (.int y)] h [] (fun res vm' h' => ∃ r : Addr, ∃ d : Addr, ∃ kd : ClassId, res = some (.ref r) ∧ Keep h h' [] ∧ St Z h' r d kd (mkS n x y)) := by
  refine Ct.of_go (a0 := a0) g.2.1 pn_3 (L0 := #[.val (.int n), .val (.int x), .val (.int y)]) (fun m => by first | (simp [entryFrame, mkF, argsToLocals, Value.category, own_rep]; done) | rfl) ?_
  intro p e s m below meth c hown hby hml hret hnm hZ hC hO hsf
  refine Go.iloadN (hb hby D_method_2_code_0) (pc' := 1) rfl rfl ?_
  refine Go.ifc (hb hby D_method_2_code_1) (by decide) (pc' := 15) (by decide) (pc2 := 4) rfl (fun (q1 : ¬ n = (0 : Int32)) => ?_) (fun (q1 : ¬ (¬ n = (0 : Int32))) => ?_)
  · refine Go.iloadN (hb hby D_method_2_code_15) (pc' := 16) rfl rfl ?_
    refine Go.iconst (hb hby D_method_2_code_16) (pc' := 17) rfl (z := (1 : Int32)) rfl ?_
    refine Go.icmp (hb hby D_method_2_code_17) (by decide) (pc' := 25) (by decide) (pc2 := 20) rfl (fun (q17 : ¬ n = (1 : Int32)) => ?_) (fun (q17 : ¬ (¬ n = (1 : Int32))) => ?_)
    · refine Go.newO hown (wd_30 g) (wd_14 g) (wd_6 g) (hb hby D_method_2_code_25) (pc' := 28) rfl (by decide) (by decide) ?_
      intro h1 a2 g3 l4 E5 X6 D7 S8 C9
      have KE5 := Keep.ofExt E5; have zE5 := E5.1
      have f10 : Fld Z h1 a2 "java/lang/String" "value" "[B" .null := D7 (Or.inr (wd_27 g)) (ty := (.array .byte)) (by decide)
      have f11 : Fld Z h1 a2 "java/lang/String" "coder" "B" (.int 0) := D7 (Or.inr (wd_29 g)) (ty := .byte) (by decide)
      refine Go.dup (hb hby D_method_2_code_28) (pc' := 29) rfl rfl ?_
      refine Go.iconst (hb hby D_method_2_code_29) (pc' := 30) rfl (z := (2 : Int32)) rfl ?_
      refine Go.newP (ty := .char) rfl (wd_31 g) (hb hby D_method_2_code_30) (pc' := 32) rfl (by decide) (cap := 2) (by decide) (by decide) (by decide) (by decide) ?_
      intro h12 a13 k14 g15 l16 E17 A18 S19 C20
      have KE17 := Keep.ofExt E17; have zE17 := E17.1
      have A18 : Ar Z h12 a13 k14 .char [(.int 0), (.int 0)] := A18
      refine Go.dup (hb hby D_method_2_code_32) (pc' := 33) rfl rfl ?_
      refine Go.iconst (hb hby D_method_2_code_33) (pc' := 34) rfl (z := (0 : Int32)) rfl ?_
      refine Go.iloadN (hb hby D_method_2_code_34) (pc' := 35) rfl rfl ?_
      refine Go.castore A18 (by decide) (Nat.lt_of_lt_of_eq (by decide : Int32.toNatClampNeg (0 : Int32) < 2) rfl) (by omega) (hb hby D_method_2_code_35) (pc' := 36) rfl ?_
      intro h21 A22 z23 K24 S25 C26
      have A22 : Ar Z h21 a13 k14 .char [(.int (nar .char x)), (.int 0)] := A22
      refine Go.dup (hb hby D_method_2_code_36) (pc' := 37) rfl rfl ?_
      refine Go.iconst (hb hby D_method_2_code_37) (pc' := 38) rfl (z := (1 : Int32)) rfl ?_
      refine Go.iloadN (hb hby D_method_2_code_38) (pc' := 39) rfl rfl ?_
      refine Go.castore A22 (by decide) (Nat.lt_of_lt_of_eq (by decide : Int32.toNatClampNeg (1 : Int32) < 2) rfl) (by omega) (hb hby D_method_2_code_39) (pc' := 40) rfl ?_
      intro h27 A28 z29 K30 S31 C32
      have A28 : Ar Z h27 a13 k14 .char [(.int (nar .char x)), (.int (nar .char y))] := A28
      have A33 : Ar Z h27 a13 k14 .char [(.int x), (.int y)] := by have q := A28; rw [nch hx, nch hy] at q; exact q
      have f34 : Exa Z h27 a2 "java/lang/String" := (((X6.keep KE17).keep K24).keep K30)
      have f35 : Fld Z h27 a2 "java/lang/String" "coder" "B" (.int 0) := (((f11.keep KE17 nin0).keep K24 (ninS (neN (by omega)) nin0)).keep K30 (ninS (neN (by omega)) nin0))
      have f36 : Fld Z h27 a2 "java/lang/String" "value" "[B" .null := (((f10.keep KE17 nin0).keep K24 (ninS (neN (by omega)) nin0)).keep K30 (ninS (neN (by omega)) nin0))
      have f37 : Safe Z EL s.vm h27 a2 := (Safe.to C32 (by omega) (Safe.to C26 (by omega) (Safe.to C20 (by omega) S8)))
      refine Go.callC (c_strinit (l := l) (nw := nw) g h27 a2 a13 k14 [x, y] (alS hx (alS hy al0)) (by simp) (by simp) (by first | omega | assumption | decide) f34 f35 f36 A33 (by omega)) hown rfl rfl (wd_32 g) (wd_33 g) (wd_34 g) (wd_6 g) (by decide) (argsL := [(.ref a13)]) (lenOf pd_8 rfl) rfl (by rw [hml]; rfl) (W := 1) rfl (hb hby D_method_2_code_40) (pc' := 43) rfl (by decide) (by decide) (by decide) (by decide) (allS ⟨by omega, f37⟩ all0) ?_
      rintro _ vm38 h38 ⟨d_38, kd_38, rfl, K38, p38_0, o38_0⟩ C38
      have z38 := K38.1
      have yo38_0 := ltN o38_0.lt; have yo38_0' := ltN o38_0.ltb
      -- pc 43
      have f39 : St Z h38 a2 d_38 kd_38 (mkS n x y) := (show ([x, y].map by8) = mkS n x y by rw [mkS, if_neg q1, if_neg q17]; rfl) ▸ o38_0
      refine Go.retA hret rfl rfl (hb hby D_method_2_code_43) (by decide) (by decide) ?_
      intro vmR CR
      exact ⟨a2, d_38, kd_38, (by first | rfl | (simp only [own_nar]; done) | (congr 2; done)), ((((((Keep.refl h []).trans KE5 all0).trans KE17 all0).trans K24 (allS (by first | (left; simp; done) | (right; omega)) all0)).trans K30 (allS (by first | (left; simp; done) | (right; omega)) all0)).trans K38 (allS (by first | (left; simp; done) | (right; omega)) all0)), f39⟩
    · refine Go.iloadN (hb hby D_method_2_code_20) (pc' := 21) rfl rfl ?_
      refine Go.callS (c_valueOfC (l := l) (nw := nw) g h x (le255 hx) (by omega)) hown (wd_4 g) (wd_5 g) (wd_7 g) (wd_6 g) (by decide) (argsL := [(.int x)]) (lenOf pd_9 rfl) rfl (by rw [hml]; rfl) (W := 0) rfl (hb hby D_method_2_code_21) (pc' := 24) rfl (by decide) (by decide) (by decide) (by decide) all0 ?_
      rintro _ vm40 h40 ⟨r_40, d_40, kd_40, rfl, K40, p40_0, p40_1, o40_0⟩ C40
      have z40 := K40.1
      have yo40_0 := ltN o40_0.lt; have yo40_0' := ltN o40_0.ltb
      -- pc 24
      have f41 : St Z h40 r_40 d_40 kd_40 (mkS n x y) := (show [(by8 x)] = mkS n x y by rw [mkS, if_neg q1, if_pos (Classical.not_not.mp q17)]) ▸ o40_0
      refine Go.retA hret rfl rfl (hb hby D_method_2_code_24) (by decide) (by decide) ?_
      intro vmR CR
      exact ⟨r_40, d_40, kd_40, (by first | rfl | (simp only [own_nar]; done) | (congr 2; done)), ((Keep.refl h []).trans K40 all0), f41⟩
  · refine Go.newO hown (wd_30 g) (wd_14 g) (wd_6 g) (hb hby D_method_2_code_4) (pc' := 7) rfl (by decide) (by decide) ?_
    intro h42 a43 g44 l45 E46 X47 D48 S49 C50
    have KE46 := Keep.ofExt E46; have zE46 := E46.1
    have f51 : Fld Z h42 a43 "java/lang/String" "value" "[B" .null := D48 (Or.inr (wd_27 g)) (ty := (.array .byte)) (by decide)
    have f52 : Fld Z h42 a43 "java/lang/String" "coder" "B" (.int 0) := D48 (Or.inr (wd_29 g)) (ty := .byte) (by decide)
    refine Go.dup (hb hby D_method_2_code_7) (pc' := 8) rfl rfl ?_
    refine Go.iconst (hb hby D_method_2_code_8) (pc' := 9) rfl (z := (0 : Int32)) rfl ?_
    refine Go.newP (ty := .char) rfl (wd_31 g) (hb hby D_method_2_code_9) (pc' := 11) rfl (by decide) (cap := 0) (by decide) (by decide) (by decide) (by decide) ?_
    intro h53 a54 k55 g56 l57 E58 A59 S60 C61
    have KE58 := Keep.ofExt E58; have zE58 := E58.1
    have A59 : Ar Z h53 a54 k55 .char [] := A59
    have f62 : Exa Z h53 a43 "java/lang/String" := (X47.keep KE58)
    have f63 : Fld Z h53 a43 "java/lang/String" "coder" "B" (.int 0) := (f52.keep KE58 nin0)
    have f64 : Fld Z h53 a43 "java/lang/String" "value" "[B" .null := (f51.keep KE58 nin0)
    have f65 : Safe Z EL s.vm h53 a43 := (Safe.to C61 (by omega) S49)
    refine Go.callC (c_strinit0 (l := l) (nw := nw) g hnw h53 a43 a54 k55 (by first | omega | assumption | decide) f62 f63 f64 A59 (by omega)) hown rfl rfl (wd_32 g) (wd_33 g) (wd_34 g) (wd_6 g) (by decide) (argsL := [(.ref a54)]) (lenOf pd_8 rfl) rfl (by rw [hml]; rfl) (W := 1) rfl (hb hby D_method_2_code_11) (pc' := 14) rfl (by decide) (by decide) (by decide) (by decide) (allS ⟨by omega, f65⟩ all0) ?_
    rintro _ vm66 h66 ⟨d_66, kd_66, rfl, K66, o66_0⟩ C66
    have z66 := K66.1
    have yo66_0 := ltN o66_0.lt; have yo66_0' := ltN o66_0.ltb
    -- pc 14
    have f67 : St Z h66 a43 d_66 kd_66 (mkS n x y) := (show [] = mkS n x y by rw [mkS, if_pos (Classical.not_not.mp q1)]) ▸ o66_0
    refine Go.retA hret rfl rfl (hb hby D_method_2_code_14) (by decide) (by decide) ?_
    intro vmR CR
    exact ⟨a43, d_66, kd_66, (by first | rfl | (simp only [own_nar]; done) | (congr 2; done)), ((((Keep.refl h []).trans KE46 all0).trans KE58 all0).trans K66 (allS (by first | (left; simp; done) | (right; omega)) all0)), f67⟩
set_option maxRecDepth 65536 in
set_option maxHeartbeats 40000000 in
theorem c_outcome {l : Launch} {Z : State} {a0 : Array Value} {EL : List (String × Nat)} {nw : Prop} {zc : Int32} (g : GH Z a0 EL zc) (h : Heap) (a : Addr) (q : Value) (x : Value) (y : Value) (hq : q.isRef = true) (hx : x.isRef = true) (hy : y.isRef = true) (ga : Z.heap.size ≤ a) (e0 : Exa Z h a "com/example/kunci/kunci/TestOutcome") (e1 : Fld Z h a "com/example/kunci/kunci/TestOutcome" "question" "Ljava/lang/String;" .null) (e2 : Fld Z h a "com/example/kunci/kunci/TestOutcome" "expected" "Ljava/lang/String;" .null) (e3 : Fld Z h a "com/example/kunci/kunci/TestOutcome" "answer" "Ljava/lang/String;" .null) (zz : Z.heap.size ≤ h.size) :
    Ct l Z EL nw [] ⟨"com/example/kunci/kunci/TestOutcome", "<init>", "(Ljava/lang/String;Ljava/lang/String;Ljava/lang/String;)V"⟩ prog_12_method_1_code 4 none ({ frames := 1, cells := 0, slots := 0, locals := 12 } : Room) #[(.ref a), q, x, y] h [] (fun res vm' h' => res = none ∧ Keep h h' [a] ∧ Fld Z h' a "com/example/kunci/kunci/TestOutcome" "question" "Ljava/lang/String;" q ∧ Fld Z h' a "com/example/kunci/kunci/TestOutcome" "expected" "Ljava/lang/String;" x ∧ Fld Z h' a "com/example/kunci/kunci/TestOutcome" "answer" "Ljava/lang/String;" y) := by
  have ye0 := ltN e0.lt
  have ye1 := ltN e1.lt
  have ye2 := ltN e2.lt
  have ye3 := ltN e3.lt
  refine Ct.of_go (a0 := a0) g.2.1 pn_4 (L0 := #[.val (.ref a), .val q, .val x, .val y]) (fun m => by rcases ref_cases hq with rfl | ⟨_, rfl⟩ <;> rcases ref_cases hx with rfl | ⟨_, rfl⟩ <;> rcases ref_cases hy with rfl | ⟨_, rfl⟩ <;> first | (simp [entryFrame, mkF, argsToLocals, Value.category, own_rep]; done) | rfl) ?_
  intro p e s m below meth c hown hby hml hret hnm hZ hC hO hsf
  refine Go.aloadN (hb hby D_prog_12_method_1_code_0) (pc' := 1) rfl rfl rfl ?_
  refine Go.initO hown (wd_47 g) (wd_24 g) (wd_25 g) (by rw [hml]; rfl) (hb hby D_prog_12_method_1_code_1) (by decide) (W := 0) rfl (by decide) (pc' := 4) rfl ?_
  refine Go.aloadN (hb hby D_prog_12_method_1_code_4) (pc' := 5) rfl rfl rfl ?_
  refine Go.aloadN (hb hby D_prog_12_method_1_code_5) (pc' := 6) rfl rfl hq ?_
  refine Go.putF hown (wd_48 g) Via.refl e1 e0 (Or.inr ⟨(wd_49 g), rfl, hnm⟩) (wd_42 g) (ty := (.object "java/lang/String")) (by decide) (narU hq) (fitsU rfl hq) (Or.inl ⟨by decide, by decide⟩) (by omega) (hb hby D_prog_12_method_1_code_6) (pc' := 9) rfl ?_
  intro h1 W2 z4 K3 C5
  have f6 : Fld Z h1 a "com/example/kunci/kunci/TestOutcome" "question" "Ljava/lang/String;" q := (Fld.same W2 e1)
  have f7 : Fld Z h1 a "com/example/kunci/kunci/TestOutcome" "expected" "Ljava/lang/String;" .null := (Fld.other W2 e2 (Or.inr (slot_ne (Or.inr (wd_51 g)) (Or.inr (wd_49 g)) (by decide) (t := (.object "java/lang/String")) (t' := (.object "java/lang/String")) (by decide) (by decide))))
  have f8 : Fld Z h1 a "com/example/kunci/kunci/TestOutcome" "answer" "Ljava/lang/String;" .null := (Fld.other W2 e3 (Or.inr (slot_ne (Or.inr (wd_53 g)) (Or.inr (wd_49 g)) (by decide) (t := (.object "java/lang/String")) (t' := (.object "java/lang/String")) (by decide) (by decide))))
  refine Go.aloadN (hb hby D_prog_12_method_1_code_9) (pc' := 10) rfl rfl rfl ?_
  refine Go.aloadN (hb hby D_prog_12_method_1_code_10) (pc' := 11) rfl rfl hx ?_
  have f9 : Exa Z h1 a "com/example/kunci/kunci/TestOutcome" := (e0.keep K3)
  refine Go.putF hown (wd_50 g) Via.refl f7 f9 (Or.inr ⟨(wd_51 g), rfl, hnm⟩) (wd_42 g) (ty := (.object "java/lang/String")) (by decide) (narU hx) (fitsU rfl hx) (Or.inl ⟨by decide, by decide⟩) (by omega) (hb hby D_prog_12_method_1_code_11) (pc' := 14) rfl ?_
  intro h10 W11 z13 K12 C14
  have f15 : Fld Z h10 a "com/example/kunci/kunci/TestOutcome" "question" "Ljava/lang/String;" q := (Fld.other W11 f6 (Or.inr (slot_ne (Or.inr (wd_49 g)) (Or.inr (wd_51 g)) (by decide) (t := (.object "java/lang/String")) (t' := (.object "java/lang/String")) (by decide) (by decide))))
  have f16 : Fld Z h10 a "com/example/kunci/kunci/TestOutcome" "expected" "Ljava/lang/String;" x := (Fld.same W11 f7)
  have f17 : Fld Z h10 a "com/example/kunci/kunci/TestOutcome" "answer" "Ljava/lang/String;" .null := (Fld.other W11 f8 (Or.inr (slot_ne (Or.inr (wd_53 g)) (Or.inr (wd_51 g)) (by decide) (t := (.object "java/lang/String")) (t' := (.object "java/lang/String")) (by decide) (by decide))))
  refine Go.aloadN (hb hby D_prog_12_method_1_code_14) (pc' := 15) rfl rfl rfl ?_
  refine Go.aloadN (hb hby D_prog_12_method_1_code_15) (pc' := 16) rfl rfl hy ?_
  have f18 : Exa Z h10 a "com/example/kunci/kunci/TestOutcome" := (f9.keep K12)
  refine Go.putF hown (wd_52 g) Via.refl f17 f18 (Or.inr ⟨(wd_53 g), rfl, hnm⟩) (wd_42 g) (ty := (.object "java/lang/String")) (by decide) (narU hy) (fitsU rfl hy) (Or.inl ⟨by decide, by decide⟩) (by omega) (hb hby D_prog_12_method_1_code_16) (pc' := 19) rfl ?_
  intro h19 W20 z22 K21 C23
  have f24 : Fld Z h19 a "com/example/kunci/kunci/TestOutcome" "question" "Ljava/lang/String;" q := (Fld.other W20 f15 (Or.inr (slot_ne (Or.inr (wd_49 g)) (Or.inr (wd_53 g)) (by decide) (t := (.object "java/lang/String")) (t' := (.object "java/lang/String")) (by decide) (by decide))))
  have f25 : Fld Z h19 a "com/example/kunci/kunci/TestOutcome" "expected" "Ljava/lang/String;" x := (Fld.other W20 f16 (Or.inr (slot_ne (Or.inr (wd_51 g)) (Or.inr (wd_53 g)) (by decide) (t := (.object "java/lang/String")) (t' := (.object "java/lang/String")) (by decide) (by decide))))
  have f26 : Fld Z h19 a "com/example/kunci/kunci/TestOutcome" "answer" "Ljava/lang/String;" y := (Fld.same W20 f17)
  refine Go.ret hret (hb hby D_prog_12_method_1_code_19) (by decide) (by decide) ?_
  intro vmR CR
  exact ⟨rfl, ((((Keep.refl h [a]).trans K3 (allS (by first | (left; simp; done) | (right; omega)) all0)).trans K12 (allS (by first | (left; simp; done) | (right; omega)) all0)).trans K21 (allS (by first | (left; simp; done) | (right; omega)) all0)), f24, f25, f26⟩
set_option maxRecDepth 65536 in
set_option maxHeartbeats 40000000 in
theorem c_isPassed {l : Launch} {Z : State} {a0 : Array Value} {EL : List (String × Nat)} {nw : Prop} {zc : Int32} (g : GH Z a0 EL zc) (h : Heap) (a : Addr) (x : Addr) (d : Addr) (kd : ClassId) (bs : List Int32) (y : Addr) (f : Addr) (kf : ClassId) (cs : List Int32) (e0 : Fld Z h a "com/example/kunci/kunci/TestOutcome" "expected" "Ljava/lang/String;" (.ref x)) (e1 : Fld Z h a "com/example/kunci/kunci/TestOutcome" "answer" "Ljava/lang/String;" (.ref y)) (e2 : St Z h x d kd bs) (e3 : St Z h y f kf cs) (zz : Z.heap.size ≤ h.size) :
    Ct l Z EL nw [] ⟨"com/example/kunci/kunci/TestOutcome", "isPassed", "()Z"⟩ prog_12_method_5_code 1 (some .boolean) ({ frames := 2, cells := 0, slots := 0, locals := 28 } : Room) #[(.ref a)] h [] (fun res vm' h' => res = some (.int (bo (bs = cs))) ∧ Keep h h' []) := by
  have ye0 := ltN e0.lt
  have ye1 := ltN e1.lt
  have ye2 := ltN e2.lt; have ye2' := ltN e2.ltb
  have ye3 := ltN e3.lt; have ye3' := ltN e3.ltb
  refine Ct.of_go (a0 := a0) g.2.1 pn_4 (L0 := #[.val (.ref a)]) (fun m => by first | (simp [entryFrame, mkF, argsToLocals, Value.category, own_rep]; done) | rfl) ?_
  intro p e s m below meth c hown hby hml hret hnm hZ hC hO hsf
  refine Go.aloadN (hb hby D_prog_12_method_5_code_0) (pc' := 1) rfl rfl rfl ?_
  refine Go.getF hown (wd_50 g) Via.refl e0 (hb hby D_prog_12_method_5_code_1) (pc' := 4) rfl ?_
  refine Go.aloadN (hb hby D_prog_12_method_5_code_4) (pc' := 5) rfl rfl rfl ?_
  refine Go.getF hown (wd_52 g) Via.refl e1 (hb hby D_prog_12_method_5_code_5) (pc' := 8) rfl ?_
  refine Go.callV (y0 := ⟨"java/lang/String", "equals", "(Ljava/lang/Object;)Z"⟩) (c_eq (l := l) (nw := nw) g h x d kd bs y f kf cs e2 e3 (by omega)) hown (wd_59 g) (wd_60 g) (notFace_of_selects (wd_62 g)) (wd_62 g) (wd_61 g) e2.1 (wd_63 g) (wd_6 g) (by decide) (argsL := [(.ref y)]) (lenOf pd_10 rfl) rfl (by rw [hml]; rfl) (W := 0) rfl (hb hby D_prog_12_method_5_code_8) (pc' := 11) rfl (by decide) (by decide) (by decide) (by decide) all0 ?_
  rintro _ vm1 h1 ⟨rfl, K1⟩ C1
  have z1 := K1.1
  -- pc 11
  refine Go.retN (t := .boolean) hret (by simp) (hb hby D_prog_12_method_5_code_11) (by decide) (by decide) ?_
  intro vmR CR
  exact ⟨(by rw [bo_nar]), ((Keep.refl h []).trans K1 all0)⟩
set_option maxRecDepth 65536 in
set_option maxHeartbeats 40000000 in
theorem c_law {l : Launch} {Z : State} {a0 : Array Value} {EL : List (String × Nat)} {nw : Prop} {zc : Int32} (g : GH Z a0 EL zc) (hnw : ¬ nw) (ws : List Jvm.Cond) (h : Heap) (i0 : Int32) (i1 : Int32) (i2 : Int32) (i3 : Int32) (zz : Z.heap.size ≤ h.size) :
    Ct l Z EL nw ws x code maxLocals ret room_1 #[(.int i0), (.int i1), (.int i2), (.int i3)] h [] (fun res vm' h' => res = some (.int (1 : Int32)) ∧ Keep h h' []) := by
  refine Ct.of_go (a0 := a0) g.2.1 pn_3 (L0 := #[.val (.int i0), .val (.int i1), .val (.int i2), .val (.int i3), .unset, .unset, .unset, .unset, .unset, .unset, .unset, .unset, .unset, .unset, .unset, .unset, .unset, .unset, .unset, .unset, .unset]) (fun m => by first | (simp [entryFrame, mkF, argsToLocals, Value.category, own_rep, maxLocals]; done) | rfl) ?_
  intro p e s m below meth c hown hby hml hret hnm hZ hC hO hsf
  refine Go.iloadN (hb hby at_0) (pc' := 1) rfl rfl ?_
  refine Go.iconst (hb hby at_1) (pc' := 2) rfl (z := (3 : Int32)) rfl ?_
  refine Go.iand (hb hby at_2) (pc' := 3) rfl ?_
  refine Go.iconst (hb hby at_3) (pc' := 4) rfl (z := (3 : Int32)) rfl ?_
  refine Go.irem (hb hby at_4) (pc' := 5) rfl (by decide) ?_
  refine Go.istore (hb hby at_5) (pc' := 7) rfl (L' := #[.val (.int i0), .val (.int i1), .val (.int i2), .val (.int i3), .val (.int ((i3 &&& (3 : Int32)) % (3 : Int32))), .unset, .unset, .unset, .unset, .unset, .unset, .unset, .unset, .unset, .unset, .unset, .unset, .unset, .unset, .unset, .unset]) rfl ?_
  have blE := rem3 i3
  generalize hlE : ((i3 &&& (3 : Int32)) % (3 : Int32)) = lE at blE ⊢
  refine Go.iloadN (hb hby at_7) (pc' := 8) rfl rfl ?_
  refine Go.iconst (hb hby at_8) (pc' := 9) rfl (z := (2 : Int32)) rfl ?_
  refine Go.iushr (hb hby at_9) (pc' := 10) rfl ?_
  refine Go.iconst (hb hby at_10) (pc' := 11) rfl (z := (3 : Int32)) rfl ?_
  refine Go.iand (hb hby at_11) (pc' := 12) rfl ?_
  refine Go.iconst (hb hby at_12) (pc' := 13) rfl (z := (3 : Int32)) rfl ?_
  refine Go.irem (hb hby at_13) (pc' := 14) rfl (by decide) ?_
  refine Go.istore (hb hby at_14) (pc' := 16) rfl (L' := #[.val (.int i0), .val (.int i1), .val (.int i2), .val (.int i3), .val (.int lE), .val (.int (((XT.ushr i3 (2 : Int32)) &&& (3 : Int32)) % (3 : Int32))), .unset, .unset, .unset, .unset, .unset, .unset, .unset, .unset, .unset, .unset, .unset, .unset, .unset, .unset, .unset]) rfl ?_
  have blA := rem3 (XT.ushr i3 2)
  generalize hlA : (((XT.ushr i3 (2 : Int32)) &&& (3 : Int32)) % (3 : Int32)) = lA at blA ⊢
  refine Go.iloadN (hb hby at_16) (pc' := 17) rfl rfl ?_
  refine Go.bipush (hb hby at_17) (pc' := 19) rfl (z := (6 : Int32)) rfl ?_
  refine Go.iushr (hb hby at_19) (pc' := 20) rfl ?_
  refine Go.iconst (hb hby at_20) (pc' := 21) rfl (z := (3 : Int32)) rfl ?_
  refine Go.iand (hb hby at_21) (pc' := 22) rfl ?_
  refine Go.iconst (hb hby at_22) (pc' := 23) rfl (z := (3 : Int32)) rfl ?_
  refine Go.irem (hb hby at_23) (pc' := 24) rfl (by decide) ?_
  refine Go.istore (hb hby at_24) (pc' := 26) rfl (L' := #[.val (.int i0), .val (.int i1), .val (.int i2), .val (.int i3), .val (.int lE), .val (.int lA), .val (.int (((XT.ushr i3 (6 : Int32)) &&& (3 : Int32)) % (3 : Int32))), .unset, .unset, .unset, .unset, .unset, .unset, .unset, .unset, .unset, .unset, .unset, .unset, .unset, .unset]) rfl ?_
  have blQ := rem3 (XT.ushr i3 6)
  generalize hlQ : (((XT.ushr i3 (6 : Int32)) &&& (3 : Int32)) % (3 : Int32)) = lQ at blQ ⊢
  refine Go.iloadN (hb hby at_26) (pc' := 27) rfl rfl ?_
  refine Go.bipush (hb hby at_27) (pc' := 29) rfl (z := (16 : Int32)) rfl ?_
  refine Go.iand (hb hby at_29) (pc' := 30) rfl ?_
  refine Go.ifc (hb hby at_30) (by decide) (pc' := 37) (by decide) (pc2 := 33) rfl (fun (q30 : (i3 &&& (16 : Int32)) = (0 : Int32)) => ?_) (fun (q30 : ¬ ((i3 &&& (16 : Int32)) = (0 : Int32))) => ?_)
  · refine Go.iconst (hb hby at_37) (pc' := 38) rfl (z := (0 : Int32)) rfl ?_
    refine Go.istore (hb hby at_38) (pc' := 40) rfl (L' := #[.val (.int i0), .val (.int i1), .val (.int i2), .val (.int i3), .val (.int lE), .val (.int lA), .val (.int lQ), .val (.int (0 : Int32)), .unset, .unset, .unset, .unset, .unset, .unset, .unset, .unset, .unset, .unset, .unset, .unset, .unset]) rfl ?_
    refine Go.iloadN (hb hby at_40) (pc' := 41) rfl rfl ?_
    refine Go.bipush (hb hby at_41) (pc' := 43) rfl (z := (32 : Int32)) rfl ?_
    refine Go.iand (hb hby at_43) (pc' := 44) rfl ?_
    refine Go.ifc (hb hby at_44) (by decide) (pc' := 51) (by decide) (pc2 := 47) rfl (fun (q44 : (i3 &&& (32 : Int32)) = (0 : Int32)) => ?_) (fun (q44 : ¬ ((i3 &&& (32 : Int32)) = (0 : Int32))) => ?_)
    · refine Go.iconst (hb hby at_51) (pc' := 52) rfl (z := (0 : Int32)) rfl ?_
      refine Go.istore (hb hby at_52) (pc' := 54) rfl (L' := #[.val (.int i0), .val (.int i1), .val (.int i2), .val (.int i3), .val (.int lE), .val (.int lA), .val (.int lQ), .val (.int (0 : Int32)), .val (.int (0 : Int32)), .unset, .unset, .unset, .unset, .unset, .unset, .unset, .unset, .unset, .unset, .unset, .unset]) rfl ?_
      refine Go.iloadN (hb hby at_54) (pc' := 55) rfl rfl ?_
      refine Go.sipush (hb hby at_55) (pc' := 58) rfl (z := (256 : Int32)) rfl ?_
      refine Go.iand (hb hby at_58) (pc' := 59) rfl ?_
      refine Go.ifc (hb hby at_59) (by decide) (pc' := 66) (by decide) (pc2 := 62) rfl (fun (q59 : (i3 &&& (256 : Int32)) = (0 : Int32)) => ?_) (fun (q59 : ¬ ((i3 &&& (256 : Int32)) = (0 : Int32))) => ?_)
      · refine Go.iconst (hb hby at_66) (pc' := 67) rfl (z := (0 : Int32)) rfl ?_
        refine Go.istore (hb hby at_67) (pc' := 69) rfl (L' := #[.val (.int i0), .val (.int i1), .val (.int i2), .val (.int i3), .val (.int lE), .val (.int lA), .val (.int lQ), .val (.int (0 : Int32)), .val (.int (0 : Int32)), .val (.int (0 : Int32)), .unset, .unset, .unset, .unset, .unset, .unset, .unset, .unset, .unset, .unset, .unset]) rfl ?_
        refine Go.iloadN (hb hby at_69) (pc' := 70) rfl rfl ?_
        refine Go.sipush (hb hby at_70) (pc' := 73) rfl (z := (255 : Int32)) rfl ?_
        refine Go.iand (hb hby at_73) (pc' := 74) rfl ?_
        refine Go.i2c (hb hby at_74) (pc' := 75) rfl ?_
        rw [nch (m255 i0)]
        refine Go.istore (hb hby at_75) (pc' := 77) rfl (L' := #[.val (.int i0), .val (.int i1), .val (.int i2), .val (.int i3), .val (.int lE), .val (.int lA), .val (.int lQ), .val (.int (0 : Int32)), .val (.int (0 : Int32)), .val (.int (0 : Int32)), .val (.int (i0 &&& (255 : Int32))), .unset, .unset, .unset, .unset, .unset, .unset, .unset, .unset, .unset, .unset]) rfl ?_
        refine Go.iloadN (hb hby at_77) (pc' := 78) rfl rfl ?_
        refine Go.bipush (hb hby at_78) (pc' := 80) rfl (z := (8 : Int32)) rfl ?_
        refine Go.iushr (hb hby at_80) (pc' := 81) rfl ?_
        refine Go.sipush (hb hby at_81) (pc' := 84) rfl (z := (255 : Int32)) rfl ?_
        refine Go.iand (hb hby at_84) (pc' := 85) rfl ?_
        refine Go.i2c (hb hby at_85) (pc' := 86) rfl ?_
        rw [nch (m255 (XT.ushr i0 (8 : Int32)))]
        refine Go.istore (hb hby at_86) (pc' := 88) rfl (L' := #[.val (.int i0), .val (.int i1), .val (.int i2), .val (.int i3), .val (.int lE), .val (.int lA), .val (.int lQ), .val (.int (0 : Int32)), .val (.int (0 : Int32)), .val (.int (0 : Int32)), .val (.int (i0 &&& (255 : Int32))), .val (.int ((XT.ushr i0 (8 : Int32)) &&& (255 : Int32))), .unset, .unset, .unset, .unset, .unset, .unset, .unset, .unset, .unset]) rfl ?_
        refine Go.iload (hb hby at_88) (pc' := 90) rfl rfl ?_
        refine Go.ifY (hb hby at_90) (by decide) (pc' := 98) (by decide) (show (0 : Int32) = (0 : Int32) from by decide) ?_
        refine Go.iloadN (hb hby at_98) (pc' := 99) rfl rfl ?_
        refine Go.sipush (hb hby at_99) (pc' := 102) rfl (z := (255 : Int32)) rfl ?_
        refine Go.iand (hb hby at_102) (pc' := 103) rfl ?_
        refine Go.i2c (hb hby at_103) (pc' := 104) rfl ?_
        rw [nch (m255 i1)]
        refine Go.istore (hb hby at_104) (pc' := 106) rfl (L' := #[.val (.int i0), .val (.int i1), .val (.int i2), .val (.int i3), .val (.int lE), .val (.int lA), .val (.int lQ), .val (.int (0 : Int32)), .val (.int (0 : Int32)), .val (.int (0 : Int32)), .val (.int (i0 &&& (255 : Int32))), .val (.int ((XT.ushr i0 (8 : Int32)) &&& (255 : Int32))), .val (.int (i1 &&& (255 : Int32))), .unset, .unset, .unset, .unset, .unset, .unset, .unset, .unset]) rfl ?_
        refine Go.iload (hb hby at_106) (pc' := 108) rfl rfl ?_
        refine Go.ifY (hb hby at_108) (by decide) (pc' := 116) (by decide) (show (0 : Int32) = (0 : Int32) from by decide) ?_
        refine Go.iloadN (hb hby at_116) (pc' := 117) rfl rfl ?_
        refine Go.bipush (hb hby at_117) (pc' := 119) rfl (z := (8 : Int32)) rfl ?_
        refine Go.iushr (hb hby at_119) (pc' := 120) rfl ?_
        refine Go.sipush (hb hby at_120) (pc' := 123) rfl (z := (255 : Int32)) rfl ?_
        refine Go.iand (hb hby at_123) (pc' := 124) rfl ?_
        refine Go.i2c (hb hby at_124) (pc' := 125) rfl ?_
        rw [nch (m255 (XT.ushr i1 (8 : Int32)))]
        refine Go.istore (hb hby at_125) (pc' := 127) rfl (L' := #[.val (.int i0), .val (.int i1), .val (.int i2), .val (.int i3), .val (.int lE), .val (.int lA), .val (.int lQ), .val (.int (0 : Int32)), .val (.int (0 : Int32)), .val (.int (0 : Int32)), .val (.int (i0 &&& (255 : Int32))), .val (.int ((XT.ushr i0 (8 : Int32)) &&& (255 : Int32))), .val (.int (i1 &&& (255 : Int32))), .val (.int ((XT.ushr i1 (8 : Int32)) &&& (255 : Int32))), .unset, .unset, .unset, .unset, .unset, .unset, .unset]) rfl ?_
        refine Go.iload (hb hby at_127) (pc' := 129) rfl rfl ?_
        refine Go.ifY (hb hby at_129) (by decide) (pc' := 137) (by decide) (show (0 : Int32) = (0 : Int32) from by decide) ?_
        refine Go.iloadN (hb hby at_137) (pc' := 138) rfl rfl ?_
        refine Go.sipush (hb hby at_138) (pc' := 141) rfl (z := (255 : Int32)) rfl ?_
        refine Go.iand (hb hby at_141) (pc' := 142) rfl ?_
        refine Go.i2c (hb hby at_142) (pc' := 143) rfl ?_
        rw [nch (m255 i2)]
        refine Go.istore (hb hby at_143) (pc' := 145) rfl (L' := #[.val (.int i0), .val (.int i1), .val (.int i2), .val (.int i3), .val (.int lE), .val (.int lA), .val (.int lQ), .val (.int (0 : Int32)), .val (.int (0 : Int32)), .val (.int (0 : Int32)), .val (.int (i0 &&& (255 : Int32))), .val (.int ((XT.ushr i0 (8 : Int32)) &&& (255 : Int32))), .val (.int (i1 &&& (255 : Int32))), .val (.int ((XT.ushr i1 (8 : Int32)) &&& (255 : Int32))), .val (.int (i2 &&& (255 : Int32))), .unset, .unset, .unset, .unset, .unset, .unset]) rfl ?_
        refine Go.iload (hb hby at_145) (pc' := 147) rfl rfl ?_
        refine Go.ifY (hb hby at_147) (by decide) (pc' := 155) (by decide) (show (0 : Int32) = (0 : Int32) from by decide) ?_
        refine Go.iloadN (hb hby at_155) (pc' := 156) rfl rfl ?_
        refine Go.bipush (hb hby at_156) (pc' := 158) rfl (z := (8 : Int32)) rfl ?_
        refine Go.iushr (hb hby at_158) (pc' := 159) rfl ?_
        refine Go.sipush (hb hby at_159) (pc' := 162) rfl (z := (255 : Int32)) rfl ?_
        refine Go.iand (hb hby at_162) (pc' := 163) rfl ?_
        refine Go.i2c (hb hby at_163) (pc' := 164) rfl ?_
        rw [nch (m255 (XT.ushr i2 (8 : Int32)))]
        refine Go.istore (hb hby at_164) (pc' := 166) rfl (L' := #[.val (.int i0), .val (.int i1), .val (.int i2), .val (.int i3), .val (.int lE), .val (.int lA), .val (.int lQ), .val (.int (0 : Int32)), .val (.int (0 : Int32)), .val (.int (0 : Int32)), .val (.int (i0 &&& (255 : Int32))), .val (.int ((XT.ushr i0 (8 : Int32)) &&& (255 : Int32))), .val (.int (i1 &&& (255 : Int32))), .val (.int ((XT.ushr i1 (8 : Int32)) &&& (255 : Int32))), .val (.int (i2 &&& (255 : Int32))), .val (.int ((XT.ushr i2 (8 : Int32)) &&& (255 : Int32))), .unset, .unset, .unset, .unset, .unset]) rfl ?_
        refine Go.iload (hb hby at_166) (pc' := 168) rfl rfl ?_
        refine Go.ifY (hb hby at_168) (by decide) (pc' := 175) (by decide) (show (0 : Int32) = (0 : Int32) from by decide) ?_
        refine Go.iload (hb hby at_175) (pc' := 177) rfl rfl ?_
        refine Go.iload (hb hby at_177) (pc' := 179) rfl rfl ?_
        refine Go.iload (hb hby at_179) (pc' := 181) rfl rfl ?_
        refine Go.callS (c_make (l := l) (nw := nw) g hnw h lE (i0 &&& (255 : Int32)) ((XT.ushr i0 (8 : Int32)) &&& (255 : Int32)) (m255 _) (m255 _) (by omega)) hown (wd_0 g) (wd_1 g) (wd_3 g) (wd_2 g) (by decide) (argsL := [(.int lE), (.int (i0 &&& (255 : Int32))), (.int ((XT.ushr i0 (8 : Int32)) &&& (255 : Int32)))]) (lenOf pd_11 rfl) rfl (by rw [hml]; rfl) (W := 0) rfl (hb hby at_181) (pc' := 184) rfl (by decide) (by decide) (by decide) (by decide) all0 ?_
        rintro _ vm1 h1 ⟨r_1, d_1, kd_1, rfl, K1, o1_0⟩ C1
        have z1 := K1.1
        have yo1_0 := ltN o1_0.lt; have yo1_0' := ltN o1_0.ltb
        -- pc 184
        refine Go.astore (hb hby at_184) (pc' := 186) rfl rfl (L' := #[.val (.int i0), .val (.int i1), .val (.int i2), .val (.int i3), .val (.int lE), .val (.int lA), .val (.int lQ), .val (.int (0 : Int32)), .val (.int (0 : Int32)), .val (.int (0 : Int32)), .val (.int (i0 &&& (255 : Int32))), .val (.int ((XT.ushr i0 (8 : Int32)) &&& (255 : Int32))), .val (.int (i1 &&& (255 : Int32))), .val (.int ((XT.ushr i1 (8 : Int32)) &&& (255 : Int32))), .val (.int (i2 &&& (255 : Int32))), .val (.int ((XT.ushr i2 (8 : Int32)) &&& (255 : Int32))), .val (.ref r_1), .unset, .unset, .unset, .unset]) rfl ?_
        refine Go.iload (hb hby at_186) (pc' := 188) rfl rfl ?_
        refine Go.iload (hb hby at_188) (pc' := 190) rfl rfl ?_
        refine Go.iload (hb hby at_190) (pc' := 192) rfl rfl ?_
        refine Go.callS (c_make (l := l) (nw := nw) g hnw h1 lA (i1 &&& (255 : Int32)) ((XT.ushr i1 (8 : Int32)) &&& (255 : Int32)) (m255 _) (m255 _) (by omega)) hown (wd_0 g) (wd_1 g) (wd_3 g) (wd_2 g) (by decide) (argsL := [(.int lA), (.int (i1 &&& (255 : Int32))), (.int ((XT.ushr i1 (8 : Int32)) &&& (255 : Int32)))]) (lenOf pd_11 rfl) rfl (by rw [hml]; rfl) (W := 0) rfl (hb hby at_192) (pc' := 195) rfl (by decide) (by decide) (by decide) (by decide) all0 ?_
        rintro _ vm2 h2 ⟨r_2, d_2, kd_2, rfl, K2, o2_0⟩ C2
        have z2 := K2.1
        have yo2_0 := ltN o2_0.lt; have yo2_0' := ltN o2_0.ltb
        -- pc 195
        refine Go.astore (hb hby at_195) (pc' := 197) rfl rfl (L' := #[.val (.int i0), .val (.int i1), .val (.int i2), .val (.int i3), .val (.int lE), .val (.int lA), .val (.int lQ), .val (.int (0 : Int32)), .val (.int (0 : Int32)), .val (.int (0 : Int32)), .val (.int (i0 &&& (255 : Int32))), .val (.int ((XT.ushr i0 (8 : Int32)) &&& (255 : Int32))), .val (.int (i1 &&& (255 : Int32))), .val (.int ((XT.ushr i1 (8 : Int32)) &&& (255 : Int32))), .val (.int (i2 &&& (255 : Int32))), .val (.int ((XT.ushr i2 (8 : Int32)) &&& (255 : Int32))), .val (.ref r_1), .val (.ref r_2), .unset, .unset, .unset]) rfl ?_
        refine Go.iload (hb hby at_197) (pc' := 199) rfl rfl ?_
        refine Go.iload (hb hby at_199) (pc' := 201) rfl rfl ?_
        refine Go.iload (hb hby at_201) (pc' := 203) rfl rfl ?_
        refine Go.callS (c_make (l := l) (nw := nw) g hnw h2 lQ (i2 &&& (255 : Int32)) ((XT.ushr i2 (8 : Int32)) &&& (255 : Int32)) (m255 _) (m255 _) (by omega)) hown (wd_0 g) (wd_1 g) (wd_3 g) (wd_2 g) (by decide) (argsL := [(.int lQ), (.int (i2 &&& (255 : Int32))), (.int ((XT.ushr i2 (8 : Int32)) &&& (255 : Int32)))]) (lenOf pd_11 rfl) rfl (by rw [hml]; rfl) (W := 0) rfl (hb hby at_203) (pc' := 206) rfl (by decide) (by decide) (by decide) (by decide) all0 ?_
        rintro _ vm3 h3 ⟨r_3, d_3, kd_3, rfl, K3, o3_0⟩ C3
        have z3 := K3.1
        have yo3_0 := ltN o3_0.lt; have yo3_0' := ltN o3_0.ltb
        -- pc 206
        refine Go.astore (hb hby at_206) (pc' := 208) rfl rfl (L' := #[.val (.int i0), .val (.int i1), .val (.int i2), .val (.int i3), .val (.int lE), .val (.int lA), .val (.int lQ), .val (.int (0 : Int32)), .val (.int (0 : Int32)), .val (.int (0 : Int32)), .val (.int (i0 &&& (255 : Int32))), .val (.int ((XT.ushr i0 (8 : Int32)) &&& (255 : Int32))), .val (.int (i1 &&& (255 : Int32))), .val (.int ((XT.ushr i1 (8 : Int32)) &&& (255 : Int32))), .val (.int (i2 &&& (255 : Int32))), .val (.int ((XT.ushr i2 (8 : Int32)) &&& (255 : Int32))), .val (.ref r_1), .val (.ref r_2), .val (.ref r_3), .unset, .unset]) rfl ?_
        refine Go.newO hown (wd_41 g) (wd_42 g) (wd_43 g) (hb hby at_208) (pc' := 211) rfl (by decide) (by decide) ?_
        intro h4 a5 g6 l7 E8 X9 D10 S11 C12
        have KE8 := Keep.ofExt E8; have zE8 := E8.1
        have f13 : Fld Z h4 a5 "com/example/kunci/kunci/TestOutcome" "question" "Ljava/lang/String;" .null := D10 (Or.inr (wd_49 g)) (ty := (.object "java/lang/String")) (by decide)
        have f14 : Fld Z h4 a5 "com/example/kunci/kunci/TestOutcome" "expected" "Ljava/lang/String;" .null := D10 (Or.inr (wd_51 g)) (ty := (.object "java/lang/String")) (by decide)
        have f15 : Fld Z h4 a5 "com/example/kunci/kunci/TestOutcome" "answer" "Ljava/lang/String;" .null := D10 (Or.inr (wd_53 g)) (ty := (.object "java/lang/String")) (by decide)
        refine Go.dup (hb hby at_211) (pc' := 212) rfl rfl ?_
        refine Go.aload (hb hby at_212) (pc' := 214) rfl rfl rfl ?_
        refine Go.aload (hb hby at_214) (pc' := 216) rfl rfl rfl ?_
        refine Go.aload (hb hby at_216) (pc' := 218) rfl rfl rfl ?_
        refine Go.callC (c_outcome (l := l) (nw := nw) g h4 a5 (.ref r_3) (.ref r_1) (.ref r_2) rfl rfl rfl (by first | omega | assumption | decide) X9 f13 f14 f15 (by omega)) hown rfl rfl (wd_44 g) (wd_45 g) (wd_46 g) (wd_43 g) (by decide) (argsL := [(.ref r_3), (.ref r_1), (.ref r_2)]) (lenOf pd_12 rfl) rfl (by rw [hml]; rfl) (W := 1) rfl (hb hby at_218) (pc' := 221) rfl (by decide) (by decide) (by decide) (by decide) all0 ?_
        rintro _ vm16 h16 ⟨rfl, K16, o16_0, o16_1, o16_2⟩ C16
        have z16 := K16.1
        -- pc 221
        refine Go.astore (hb hby at_221) (pc' := 223) rfl rfl (L' := #[.val (.int i0), .val (.int i1), .val (.int i2), .val (.int i3), .val (.int lE), .val (.int lA), .val (.int lQ), .val (.int (0 : Int32)), .val (.int (0 : Int32)), .val (.int (0 : Int32)), .val (.int (i0 &&& (255 : Int32))), .val (.int ((XT.ushr i0 (8 : Int32)) &&& (255 : Int32))), .val (.int (i1 &&& (255 : Int32))), .val (.int ((XT.ushr i1 (8 : Int32)) &&& (255 : Int32))), .val (.int (i2 &&& (255 : Int32))), .val (.int ((XT.ushr i2 (8 : Int32)) &&& (255 : Int32))), .val (.ref r_1), .val (.ref r_2), .val (.ref r_3), .val (.ref a5), .unset]) rfl ?_
        refine Go.iload (hb hby at_223) (pc' := 225) rfl rfl ?_
        refine Go.iload (hb hby at_225) (pc' := 227) rfl rfl ?_
        refine Go.icmp (hb hby at_227) (by decide) (pc' := 260) (by decide) (pc2 := 230) rfl (fun (q227 : ¬ lE = lA) => ?_) (fun (q227 : ¬ (¬ lE = lA)) => ?_)
        · refine Go.iconst (hb hby at_260) (pc' := 261) rfl (z := (0 : Int32)) rfl ?_
          refine Go.istore (hb hby at_261) (pc' := 263) rfl (L' := #[.val (.int i0), .val (.int i1), .val (.int i2), .val (.int i3), .val (.int lE), .val (.int lA), .val (.int lQ), .val (.int (0 : Int32)), .val (.int (0 : Int32)), .val (.int (0 : Int32)), .val (.int (i0 &&& (255 : Int32))), .val (.int ((XT.ushr i0 (8 : Int32)) &&& (255 : Int32))), .val (.int (i1 &&& (255 : Int32))), .val (.int ((XT.ushr i1 (8 : Int32)) &&& (255 : Int32))), .val (.int (i2 &&& (255 : Int32))), .val (.int ((XT.ushr i2 (8 : Int32)) &&& (255 : Int32))), .val (.ref r_1), .val (.ref r_2), .val (.ref r_3), .val (.ref a5), .val (.int (0 : Int32))]) rfl ?_
          refine Go.aload (hb hby at_263) (pc' := 265) rfl rfl rfl ?_
          have f17 : St Z h16 r_1 d_1 kd_1 (mkS lE (i0 &&& (255 : Int32)) ((XT.ushr i0 (8 : Int32)) &&& (255 : Int32))) := ((((o1_0.keep K2 nin0 nin0).keep K3 nin0 nin0).keep KE8 nin0 nin0).keep K16 (ninS (Exa.ne (((o1_0.keep K2 nin0 nin0).keep K3 nin0 nin0).keep KE8 nin0 nin0).1 X9 (by decide)) nin0) (ninS (Ne.symm (Ar.ne_exa (((o1_0.keep K2 nin0 nin0).keep K3 nin0 nin0).keep KE8 nin0 nin0).2.2.2.1 X9 (wd_42 g))) nin0))
          have f18 : St Z h16 r_2 d_2 kd_2 (mkS lA (i1 &&& (255 : Int32)) ((XT.ushr i1 (8 : Int32)) &&& (255 : Int32))) := (((o2_0.keep K3 nin0 nin0).keep KE8 nin0 nin0).keep K16 (ninS (Exa.ne ((o2_0.keep K3 nin0 nin0).keep KE8 nin0 nin0).1 X9 (by decide)) nin0) (ninS (Ne.symm (Ar.ne_exa ((o2_0.keep K3 nin0 nin0).keep KE8 nin0 nin0).2.2.2.1 X9 (wd_42 g))) nin0))
          have f19 : Exa Z h16 a5 "com/example/kunci/kunci/TestOutcome" := (X9.keep K16)
          refine Go.callV (y0 := ⟨"com/example/kunci/kunci/TestOutcome", "isPassed", "()Z"⟩) (c_isPassed (l := l) (nw := nw) g h16 a5 r_1 d_1 kd_1 (mkS lE (i0 &&& (255 : Int32)) ((XT.ushr i0 (8 : Int32)) &&& (255 : Int32))) r_2 d_2 kd_2 (mkS lA (i1 &&& (255 : Int32)) ((XT.ushr i1 (8 : Int32)) &&& (255 : Int32))) o16_1 o16_2 f17 f18 (by omega)) hown (wd_54 g) (wd_55 g) (notFace_of_selects (wd_57 g)) (wd_57 g) (wd_56 g) f19 (wd_58 g) (wd_43 g) (by decide) (argsL := []) (lenOf pd_13 rfl) rfl (by rw [hml]; rfl) (W := 0) rfl (hb hby at_265) (pc' := 268) rfl (by decide) (by decide) (by decide) (by decide) all0 ?_
          rintro _ vm20 h20 ⟨rfl, K20⟩ C20
          have z20 := K20.1
          -- pc 268
          refine Go.iload (hb hby at_268) (pc' := 270) rfl rfl ?_
          refine Go.icmpN (hb hby at_270) (pc' := 273) rfl (fun z => z (by rw [mkS_bo blE blA (m255 _) (m255 _) (m255 _) (m255 _)]; exact bo_no (fun z => q227 z.1))) ?_
          refine Go.iconst (hb hby at_273) (pc' := 274) rfl (z := (1 : Int32)) rfl ?_
          refine Go.goto (hb hby at_274) (by decide) (pc' := 278) (by decide) ?_
          refine Go.retN (t := .boolean) hret (by simp) (hb hby at_278) (by decide) (by decide) ?_
          intro vmR CR
          exact ⟨(by first | rfl | (simp only [own_nar]; done) | (congr 2; done)), (((((((Keep.refl h []).trans K1 all0).trans K2 all0).trans K3 all0).trans KE8 all0).trans K16 (allS (by first | (left; simp; done) | (right; omega)) all0)).trans K20 all0)⟩
        · refine Go.iload (hb hby at_230) (pc' := 232) rfl rfl ?_
          refine Go.iconst (hb hby at_232) (pc' := 233) rfl (z := (1 : Int32)) rfl ?_
          refine Go.icmp (hb hby at_233) (by decide) (pc' := 243) (by decide) (pc2 := 236) rfl (fun (q233 : lE < (1 : Int32)) => ?_) (fun (q233 : ¬ (lE < (1 : Int32))) => ?_)
          · refine Go.iload (hb hby at_243) (pc' := 245) rfl rfl ?_
            refine Go.iconst (hb hby at_245) (pc' := 246) rfl (z := (2 : Int32)) rfl ?_
            refine Go.icmp (hb hby at_246) (by decide) (pc' := 256) (by decide) (pc2 := 249) rfl (fun (q246 : lE < (2 : Int32)) => ?_) (fun (q246 : ¬ (lE < (2 : Int32))) => ?_)
            · refine Go.iconst (hb hby at_256) (pc' := 257) rfl (z := (1 : Int32)) rfl ?_
              refine Go.goto (hb hby at_257) (by decide) (pc' := 261) (by decide) ?_
              refine Go.istore (hb hby at_261) (pc' := 263) rfl (L' := #[.val (.int i0), .val (.int i1), .val (.int i2), .val (.int i3), .val (.int lE), .val (.int lA), .val (.int lQ), .val (.int (0 : Int32)), .val (.int (0 : Int32)), .val (.int (0 : Int32)), .val (.int (i0 &&& (255 : Int32))), .val (.int ((XT.ushr i0 (8 : Int32)) &&& (255 : Int32))), .val (.int (i1 &&& (255 : Int32))), .val (.int ((XT.ushr i1 (8 : Int32)) &&& (255 : Int32))), .val (.int (i2 &&& (255 : Int32))), .val (.int ((XT.ushr i2 (8 : Int32)) &&& (255 : Int32))), .val (.ref r_1), .val (.ref r_2), .val (.ref r_3), .val (.ref a5), .val (.int (1 : Int32))]) rfl ?_
              refine Go.aload (hb hby at_263) (pc' := 265) rfl rfl rfl ?_
              have f21 : St Z h16 r_1 d_1 kd_1 (mkS lE (i0 &&& (255 : Int32)) ((XT.ushr i0 (8 : Int32)) &&& (255 : Int32))) := ((((o1_0.keep K2 nin0 nin0).keep K3 nin0 nin0).keep KE8 nin0 nin0).keep K16 (ninS (Exa.ne (((o1_0.keep K2 nin0 nin0).keep K3 nin0 nin0).keep KE8 nin0 nin0).1 X9 (by decide)) nin0) (ninS (Ne.symm (Ar.ne_exa (((o1_0.keep K2 nin0 nin0).keep K3 nin0 nin0).keep KE8 nin0 nin0).2.2.2.1 X9 (wd_42 g))) nin0))
              have f22 : St Z h16 r_2 d_2 kd_2 (mkS lA (i1 &&& (255 : Int32)) ((XT.ushr i1 (8 : Int32)) &&& (255 : Int32))) := (((o2_0.keep K3 nin0 nin0).keep KE8 nin0 nin0).keep K16 (ninS (Exa.ne ((o2_0.keep K3 nin0 nin0).keep KE8 nin0 nin0).1 X9 (by decide)) nin0) (ninS (Ne.symm (Ar.ne_exa ((o2_0.keep K3 nin0 nin0).keep KE8 nin0 nin0).2.2.2.1 X9 (wd_42 g))) nin0))
              have f23 : Exa Z h16 a5 "com/example/kunci/kunci/TestOutcome" := (X9.keep K16)
              refine Go.callV (y0 := ⟨"com/example/kunci/kunci/TestOutcome", "isPassed", "()Z"⟩) (c_isPassed (l := l) (nw := nw) g h16 a5 r_1 d_1 kd_1 (mkS lE (i0 &&& (255 : Int32)) ((XT.ushr i0 (8 : Int32)) &&& (255 : Int32))) r_2 d_2 kd_2 (mkS lA (i1 &&& (255 : Int32)) ((XT.ushr i1 (8 : Int32)) &&& (255 : Int32))) o16_1 o16_2 f21 f22 (by omega)) hown (wd_54 g) (wd_55 g) (notFace_of_selects (wd_57 g)) (wd_57 g) (wd_56 g) f23 (wd_58 g) (wd_43 g) (by decide) (argsL := []) (lenOf pd_13 rfl) rfl (by rw [hml]; rfl) (W := 0) rfl (hb hby at_265) (pc' := 268) rfl (by decide) (by decide) (by decide) (by decide) all0 ?_
              rintro _ vm24 h24 ⟨rfl, K24⟩ C24
              have z24 := K24.1
              -- pc 268
              refine Go.iload (hb hby at_268) (pc' := 270) rfl rfl ?_
              refine Go.icmpN (hb hby at_270) (pc' := 273) rfl (fun z => z (by rw [mkS_bo blE blA (m255 _) (m255 _) (m255 _) (m255 _)]; exact bo_yes ⟨Classical.not_not.mp q227, Or.inl q233, Or.inl q246⟩)) ?_
              refine Go.iconst (hb hby at_273) (pc' := 274) rfl (z := (1 : Int32)) rfl ?_
              refine Go.goto (hb hby at_274) (by decide) (pc' := 278) (by decide) ?_
              refine Go.retN (t := .boolean) hret (by simp) (hb hby at_278) (by decide) (by decide) ?_
              intro vmR CR
              exact ⟨(by first | rfl | (simp only [own_nar]; done) | (congr 2; done)), (((((((Keep.refl h []).trans K1 all0).trans K2 all0).trans K3 all0).trans KE8 all0).trans K16 (allS (by first | (left; simp; done) | (right; omega)) all0)).trans K24 all0)⟩
            · refine Go.iload (hb hby at_249) (pc' := 251) rfl rfl ?_
              refine Go.iload (hb hby at_251) (pc' := 253) rfl rfl ?_
              refine Go.icmp (hb hby at_253) (by decide) (pc' := 260) (by decide) (pc2 := 256) rfl (fun (q253 : ¬ ((XT.ushr i0 (8 : Int32)) &&& (255 : Int32)) = ((XT.ushr i1 (8 : Int32)) &&& (255 : Int32))) => ?_) (fun (q253 : ¬ (¬ ((XT.ushr i0 (8 : Int32)) &&& (255 : Int32)) = ((XT.ushr i1 (8 : Int32)) &&& (255 : Int32)))) => ?_)
              · refine Go.iconst (hb hby at_260) (pc' := 261) rfl (z := (0 : Int32)) rfl ?_
                refine Go.istore (hb hby at_261) (pc' := 263) rfl (L' := #[.val (.int i0), .val (.int i1), .val (.int i2), .val (.int i3), .val (.int lE), .val (.int lA), .val (.int lQ), .val (.int (0 : Int32)), .val (.int (0 : Int32)), .val (.int (0 : Int32)), .val (.int (i0 &&& (255 : Int32))), .val (.int ((XT.ushr i0 (8 : Int32)) &&& (255 : Int32))), .val (.int (i1 &&& (255 : Int32))), .val (.int ((XT.ushr i1 (8 : Int32)) &&& (255 : Int32))), .val (.int (i2 &&& (255 : Int32))), .val (.int ((XT.ushr i2 (8 : Int32)) &&& (255 : Int32))), .val (.ref r_1), .val (.ref r_2), .val (.ref r_3), .val (.ref a5), .val (.int (0 : Int32))]) rfl ?_
                refine Go.aload (hb hby at_263) (pc' := 265) rfl rfl rfl ?_
                have f25 : St Z h16 r_1 d_1 kd_1 (mkS lE (i0 &&& (255 : Int32)) ((XT.ushr i0 (8 : Int32)) &&& (255 : Int32))) := ((((o1_0.keep K2 nin0 nin0).keep K3 nin0 nin0).keep KE8 nin0 nin0).keep K16 (ninS (Exa.ne (((o1_0.keep K2 nin0 nin0).keep K3 nin0 nin0).keep KE8 nin0 nin0).1 X9 (by decide)) nin0) (ninS (Ne.symm (Ar.ne_exa (((o1_0.keep K2 nin0 nin0).keep K3 nin0 nin0).keep KE8 nin0 nin0).2.2.2.1 X9 (wd_42 g))) nin0))
                have f26 : St Z h16 r_2 d_2 kd_2 (mkS lA (i1 &&& (255 : Int32)) ((XT.ushr i1 (8 : Int32)) &&& (255 : Int32))) := (((o2_0.keep K3 nin0 nin0).keep KE8 nin0 nin0).keep K16 (ninS (Exa.ne ((o2_0.keep K3 nin0 nin0).keep KE8 nin0 nin0).1 X9 (by decide)) nin0) (ninS (Ne.symm (Ar.ne_exa ((o2_0.keep K3 nin0 nin0).keep KE8 nin0 nin0).2.2.2.1 X9 (wd_42 g))) nin0))
                have f27 : Exa Z h16 a5 "com/example/kunci/kunci/TestOutcome" := (X9.keep K16)
                refine Go.callV (y0 := ⟨"com/example/kunci/kunci/TestOutcome", "isPassed", "()Z"⟩) (c_isPassed (l := l) (nw := nw) g h16 a5 r_1 d_1 kd_1 (mkS lE (i0 &&& (255 : Int32)) ((XT.ushr i0 (8 : Int32)) &&& (255 : Int32))) r_2 d_2 kd_2 (mkS lA (i1 &&& (255 : Int32)) ((XT.ushr i1 (8 : Int32)) &&& (255 : Int32))) o16_1 o16_2 f25 f26 (by omega)) hown (wd_54 g) (wd_55 g) (notFace_of_selects (wd_57 g)) (wd_57 g) (wd_56 g) f27 (wd_58 g) (wd_43 g) (by decide) (argsL := []) (lenOf pd_13 rfl) rfl (by rw [hml]; rfl) (W := 0) rfl (hb hby at_265) (pc' := 268) rfl (by decide) (by decide) (by decide) (by decide) all0 ?_
                rintro _ vm28 h28 ⟨rfl, K28⟩ C28
                have z28 := K28.1
                -- pc 268
                refine Go.iload (hb hby at_268) (pc' := 270) rfl rfl ?_
                refine Go.icmpN (hb hby at_270) (pc' := 273) rfl (fun z => z (by rw [mkS_bo blE blA (m255 _) (m255 _) (m255 _) (m255 _)]; exact bo_no (fun z => z.2.2.elim q246 q253))) ?_
                refine Go.iconst (hb hby at_273) (pc' := 274) rfl (z := (1 : Int32)) rfl ?_
                refine Go.goto (hb hby at_274) (by decide) (pc' := 278) (by decide) ?_
                refine Go.retN (t := .boolean) hret (by simp) (hb hby at_278) (by decide) (by decide) ?_
                intro vmR CR
                exact ⟨(by first | rfl | (simp only [own_nar]; done) | (congr 2; done)), (((((((Keep.refl h []).trans K1 all0).trans K2 all0).trans K3 all0).trans KE8 all0).trans K16 (allS (by first | (left; simp; done) | (right; omega)) all0)).trans K28 all0)⟩
              · refine Go.iconst (hb hby at_256) (pc' := 257) rfl (z := (1 : Int32)) rfl ?_
                refine Go.goto (hb hby at_257) (by decide) (pc' := 261) (by decide) ?_
                refine Go.istore (hb hby at_261) (pc' := 263) rfl (L' := #[.val (.int i0), .val (.int i1), .val (.int i2), .val (.int i3), .val (.int lE), .val (.int lA), .val (.int lQ), .val (.int (0 : Int32)), .val (.int (0 : Int32)), .val (.int (0 : Int32)), .val (.int (i0 &&& (255 : Int32))), .val (.int ((XT.ushr i0 (8 : Int32)) &&& (255 : Int32))), .val (.int (i1 &&& (255 : Int32))), .val (.int ((XT.ushr i1 (8 : Int32)) &&& (255 : Int32))), .val (.int (i2 &&& (255 : Int32))), .val (.int ((XT.ushr i2 (8 : Int32)) &&& (255 : Int32))), .val (.ref r_1), .val (.ref r_2), .val (.ref r_3), .val (.ref a5), .val (.int (1 : Int32))]) rfl ?_
                refine Go.aload (hb hby at_263) (pc' := 265) rfl rfl rfl ?_
                have f29 : St Z h16 r_1 d_1 kd_1 (mkS lE (i0 &&& (255 : Int32)) ((XT.ushr i0 (8 : Int32)) &&& (255 : Int32))) := ((((o1_0.keep K2 nin0 nin0).keep K3 nin0 nin0).keep KE8 nin0 nin0).keep K16 (ninS (Exa.ne (((o1_0.keep K2 nin0 nin0).keep K3 nin0 nin0).keep KE8 nin0 nin0).1 X9 (by decide)) nin0) (ninS (Ne.symm (Ar.ne_exa (((o1_0.keep K2 nin0 nin0).keep K3 nin0 nin0).keep KE8 nin0 nin0).2.2.2.1 X9 (wd_42 g))) nin0))
                have f30 : St Z h16 r_2 d_2 kd_2 (mkS lA (i1 &&& (255 : Int32)) ((XT.ushr i1 (8 : Int32)) &&& (255 : Int32))) := (((o2_0.keep K3 nin0 nin0).keep KE8 nin0 nin0).keep K16 (ninS (Exa.ne ((o2_0.keep K3 nin0 nin0).keep KE8 nin0 nin0).1 X9 (by decide)) nin0) (ninS (Ne.symm (Ar.ne_exa ((o2_0.keep K3 nin0 nin0).keep KE8 nin0 nin0).2.2.2.1 X9 (wd_42 g))) nin0))
                have f31 : Exa Z h16 a5 "com/example/kunci/kunci/TestOutcome" := (X9.keep K16)
                refine Go.callV (y0 := ⟨"com/example/kunci/kunci/TestOutcome", "isPassed", "()Z"⟩) (c_isPassed (l := l) (nw := nw) g h16 a5 r_1 d_1 kd_1 (mkS lE (i0 &&& (255 : Int32)) ((XT.ushr i0 (8 : Int32)) &&& (255 : Int32))) r_2 d_2 kd_2 (mkS lA (i1 &&& (255 : Int32)) ((XT.ushr i1 (8 : Int32)) &&& (255 : Int32))) o16_1 o16_2 f29 f30 (by omega)) hown (wd_54 g) (wd_55 g) (notFace_of_selects (wd_57 g)) (wd_57 g) (wd_56 g) f31 (wd_58 g) (wd_43 g) (by decide) (argsL := []) (lenOf pd_13 rfl) rfl (by rw [hml]; rfl) (W := 0) rfl (hb hby at_265) (pc' := 268) rfl (by decide) (by decide) (by decide) (by decide) all0 ?_
                rintro _ vm32 h32 ⟨rfl, K32⟩ C32
                have z32 := K32.1
                -- pc 268
                refine Go.iload (hb hby at_268) (pc' := 270) rfl rfl ?_
                refine Go.icmpN (hb hby at_270) (pc' := 273) rfl (fun z => z (by rw [mkS_bo blE blA (m255 _) (m255 _) (m255 _) (m255 _)]; exact bo_yes ⟨Classical.not_not.mp q227, Or.inl q233, Or.inr (Classical.not_not.mp q253)⟩)) ?_
                refine Go.iconst (hb hby at_273) (pc' := 274) rfl (z := (1 : Int32)) rfl ?_
                refine Go.goto (hb hby at_274) (by decide) (pc' := 278) (by decide) ?_
                refine Go.retN (t := .boolean) hret (by simp) (hb hby at_278) (by decide) (by decide) ?_
                intro vmR CR
                exact ⟨(by first | rfl | (simp only [own_nar]; done) | (congr 2; done)), (((((((Keep.refl h []).trans K1 all0).trans K2 all0).trans K3 all0).trans KE8 all0).trans K16 (allS (by first | (left; simp; done) | (right; omega)) all0)).trans K32 all0)⟩
          · refine Go.iload (hb hby at_236) (pc' := 238) rfl rfl ?_
            refine Go.iload (hb hby at_238) (pc' := 240) rfl rfl ?_
            refine Go.icmp (hb hby at_240) (by decide) (pc' := 260) (by decide) (pc2 := 243) rfl (fun (q240 : ¬ (i0 &&& (255 : Int32)) = (i1 &&& (255 : Int32))) => ?_) (fun (q240 : ¬ (¬ (i0 &&& (255 : Int32)) = (i1 &&& (255 : Int32)))) => ?_)
            · refine Go.iconst (hb hby at_260) (pc' := 261) rfl (z := (0 : Int32)) rfl ?_
              refine Go.istore (hb hby at_261) (pc' := 263) rfl (L' := #[.val (.int i0), .val (.int i1), .val (.int i2), .val (.int i3), .val (.int lE), .val (.int lA), .val (.int lQ), .val (.int (0 : Int32)), .val (.int (0 : Int32)), .val (.int (0 : Int32)), .val (.int (i0 &&& (255 : Int32))), .val (.int ((XT.ushr i0 (8 : Int32)) &&& (255 : Int32))), .val (.int (i1 &&& (255 : Int32))), .val (.int ((XT.ushr i1 (8 : Int32)) &&& (255 : Int32))), .val (.int (i2 &&& (255 : Int32))), .val (.int ((XT.ushr i2 (8 : Int32)) &&& (255 : Int32))), .val (.ref r_1), .val (.ref r_2), .val (.ref r_3), .val (.ref a5), .val (.int (0 : Int32))]) rfl ?_
              refine Go.aload (hb hby at_263) (pc' := 265) rfl rfl rfl ?_
              have f33 : St Z h16 r_1 d_1 kd_1 (mkS lE (i0 &&& (255 : Int32)) ((XT.ushr i0 (8 : Int32)) &&& (255 : Int32))) := ((((o1_0.keep K2 nin0 nin0).keep K3 nin0 nin0).keep KE8 nin0 nin0).keep K16 (ninS (Exa.ne (((o1_0.keep K2 nin0 nin0).keep K3 nin0 nin0).keep KE8 nin0 nin0).1 X9 (by decide)) nin0) (ninS (Ne.symm (Ar.ne_exa (((o1_0.keep K2 nin0 nin0).keep K3 nin0 nin0).keep KE8 nin0 nin0).2.2.2.1 X9 (wd_42 g))) nin0))
              have f34 : St Z h16 r_2 d_2 kd_2 (mkS lA (i1 &&& (255 : Int32)) ((XT.ushr i1 (8 : Int32)) &&& (255 : Int32))) := (((o2_0.keep K3 nin0 nin0).keep KE8 nin0 nin0).keep K16 (ninS (Exa.ne ((o2_0.keep K3 nin0 nin0).keep KE8 nin0 nin0).1 X9 (by decide)) nin0) (ninS (Ne.symm (Ar.ne_exa ((o2_0.keep K3 nin0 nin0).keep KE8 nin0 nin0).2.2.2.1 X9 (wd_42 g))) nin0))
              have f35 : Exa Z h16 a5 "com/example/kunci/kunci/TestOutcome" := (X9.keep K16)
              refine Go.callV (y0 := ⟨"com/example/kunci/kunci/TestOutcome", "isPassed", "()Z"⟩) (c_isPassed (l := l) (nw := nw) g h16 a5 r_1 d_1 kd_1 (mkS lE (i0 &&& (255 : Int32)) ((XT.ushr i0 (8 : Int32)) &&& (255 : Int32))) r_2 d_2 kd_2 (mkS lA (i1 &&& (255 : Int32)) ((XT.ushr i1 (8 : Int32)) &&& (255 : Int32))) o16_1 o16_2 f33 f34 (by omega)) hown (wd_54 g) (wd_55 g) (notFace_of_selects (wd_57 g)) (wd_57 g) (wd_56 g) f35 (wd_58 g) (wd_43 g) (by decide) (argsL := []) (lenOf pd_13 rfl) rfl (by rw [hml]; rfl) (W := 0) rfl (hb hby at_265) (pc' := 268) rfl (by decide) (by decide) (by decide) (by decide) all0 ?_
              rintro _ vm36 h36 ⟨rfl, K36⟩ C36
              have z36 := K36.1
              -- pc 268
              refine Go.iload (hb hby at_268) (pc' := 270) rfl rfl ?_
              refine Go.icmpN (hb hby at_270) (pc' := 273) rfl (fun z => z (by rw [mkS_bo blE blA (m255 _) (m255 _) (m255 _) (m255 _)]; exact bo_no (fun z => z.2.1.elim q233 q240))) ?_
              refine Go.iconst (hb hby at_273) (pc' := 274) rfl (z := (1 : Int32)) rfl ?_
              refine Go.goto (hb hby at_274) (by decide) (pc' := 278) (by decide) ?_
              refine Go.retN (t := .boolean) hret (by simp) (hb hby at_278) (by decide) (by decide) ?_
              intro vmR CR
              exact ⟨(by first | rfl | (simp only [own_nar]; done) | (congr 2; done)), (((((((Keep.refl h []).trans K1 all0).trans K2 all0).trans K3 all0).trans KE8 all0).trans K16 (allS (by first | (left; simp; done) | (right; omega)) all0)).trans K36 all0)⟩
            · refine Go.iload (hb hby at_243) (pc' := 245) rfl rfl ?_
              refine Go.iconst (hb hby at_245) (pc' := 246) rfl (z := (2 : Int32)) rfl ?_
              refine Go.icmp (hb hby at_246) (by decide) (pc' := 256) (by decide) (pc2 := 249) rfl (fun (q246 : lE < (2 : Int32)) => ?_) (fun (q246 : ¬ (lE < (2 : Int32))) => ?_)
              · refine Go.iconst (hb hby at_256) (pc' := 257) rfl (z := (1 : Int32)) rfl ?_
                refine Go.goto (hb hby at_257) (by decide) (pc' := 261) (by decide) ?_
                refine Go.istore (hb hby at_261) (pc' := 263) rfl (L' := #[.val (.int i0), .val (.int i1), .val (.int i2), .val (.int i3), .val (.int lE), .val (.int lA), .val (.int lQ), .val (.int (0 : Int32)), .val (.int (0 : Int32)), .val (.int (0 : Int32)), .val (.int (i0 &&& (255 : Int32))), .val (.int ((XT.ushr i0 (8 : Int32)) &&& (255 : Int32))), .val (.int (i1 &&& (255 : Int32))), .val (.int ((XT.ushr i1 (8 : Int32)) &&& (255 : Int32))), .val (.int (i2 &&& (255 : Int32))), .val (.int ((XT.ushr i2 (8 : Int32)) &&& (255 : Int32))), .val (.ref r_1), .val (.ref r_2), .val (.ref r_3), .val (.ref a5), .val (.int (1 : Int32))]) rfl ?_
                refine Go.aload (hb hby at_263) (pc' := 265) rfl rfl rfl ?_
                have f37 : St Z h16 r_1 d_1 kd_1 (mkS lE (i0 &&& (255 : Int32)) ((XT.ushr i0 (8 : Int32)) &&& (255 : Int32))) := ((((o1_0.keep K2 nin0 nin0).keep K3 nin0 nin0).keep KE8 nin0 nin0).keep K16 (ninS (Exa.ne (((o1_0.keep K2 nin0 nin0).keep K3 nin0 nin0).keep KE8 nin0 nin0).1 X9 (by decide)) nin0) (ninS (Ne.symm (Ar.ne_exa (((o1_0.keep K2 nin0 nin0).keep K3 nin0 nin0).keep KE8 nin0 nin0).2.2.2.1 X9 (wd_42 g))) nin0))
                have f38 : St Z h16 r_2 d_2 kd_2 (mkS lA (i1 &&& (255 : Int32)) ((XT.ushr i1 (8 : Int32)) &&& (255 : Int32))) := (((o2_0.keep K3 nin0 nin0).keep KE8 nin0 nin0).keep K16 (ninS (Exa.ne ((o2_0.keep K3 nin0 nin0).keep KE8 nin0 nin0).1 X9 (by decide)) nin0) (ninS (Ne.symm (Ar.ne_exa ((o2_0.keep K3 nin0 nin0).keep KE8 nin0 nin0).2.2.2.1 X9 (wd_42 g))) nin0))
                have f39 : Exa Z h16 a5 "com/example/kunci/kunci/TestOutcome" := (X9.keep K16)
                refine Go.callV (y0 := ⟨"com/example/kunci/kunci/TestOutcome", "isPassed", "()Z"⟩) (c_isPassed (l := l) (nw := nw) g h16 a5 r_1 d_1 kd_1 (mkS lE (i0 &&& (255 : Int32)) ((XT.ushr i0 (8 : Int32)) &&& (255 : Int32))) r_2 d_2 kd_2 (mkS lA (i1 &&& (255 : Int32)) ((XT.ushr i1 (8 : Int32)) &&& (255 : Int32))) o16_1 o16_2 f37 f38 (by omega)) hown (wd_54 g) (wd_55 g) (notFace_of_selects (wd_57 g)) (wd_57 g) (wd_56 g) f39 (wd_58 g) (wd_43 g) (by decide) (argsL := []) (lenOf pd_13 rfl) rfl (by rw [hml]; rfl) (W := 0) rfl (hb hby at_265) (pc' := 268) rfl (by decide) (by decide) (by decide) (by decide) all0 ?_
                rintro _ vm40 h40 ⟨rfl, K40⟩ C40
                have z40 := K40.1
                -- pc 268
                refine Go.iload (hb hby at_268) (pc' := 270) rfl rfl ?_
                refine Go.icmpN (hb hby at_270) (pc' := 273) rfl (fun z => z (by rw [mkS_bo blE blA (m255 _) (m255 _) (m255 _) (m255 _)]; exact bo_yes ⟨Classical.not_not.mp q227, Or.inr (Classical.not_not.mp q240), Or.inl q246⟩)) ?_
                refine Go.iconst (hb hby at_273) (pc' := 274) rfl (z := (1 : Int32)) rfl ?_
                refine Go.goto (hb hby at_274) (by decide) (pc' := 278) (by decide) ?_
                refine Go.retN (t := .boolean) hret (by simp) (hb hby at_278) (by decide) (by decide) ?_
                intro vmR CR
                exact ⟨(by first | rfl | (simp only [own_nar]; done) | (congr 2; done)), (((((((Keep.refl h []).trans K1 all0).trans K2 all0).trans K3 all0).trans KE8 all0).trans K16 (allS (by first | (left; simp; done) | (right; omega)) all0)).trans K40 all0)⟩
              · refine Go.iload (hb hby at_249) (pc' := 251) rfl rfl ?_
                refine Go.iload (hb hby at_251) (pc' := 253) rfl rfl ?_
                refine Go.icmp (hb hby at_253) (by decide) (pc' := 260) (by decide) (pc2 := 256) rfl (fun (q253 : ¬ ((XT.ushr i0 (8 : Int32)) &&& (255 : Int32)) = ((XT.ushr i1 (8 : Int32)) &&& (255 : Int32))) => ?_) (fun (q253 : ¬ (¬ ((XT.ushr i0 (8 : Int32)) &&& (255 : Int32)) = ((XT.ushr i1 (8 : Int32)) &&& (255 : Int32)))) => ?_)
                · refine Go.iconst (hb hby at_260) (pc' := 261) rfl (z := (0 : Int32)) rfl ?_
                  refine Go.istore (hb hby at_261) (pc' := 263) rfl (L' := #[.val (.int i0), .val (.int i1), .val (.int i2), .val (.int i3), .val (.int lE), .val (.int lA), .val (.int lQ), .val (.int (0 : Int32)), .val (.int (0 : Int32)), .val (.int (0 : Int32)), .val (.int (i0 &&& (255 : Int32))), .val (.int ((XT.ushr i0 (8 : Int32)) &&& (255 : Int32))), .val (.int (i1 &&& (255 : Int32))), .val (.int ((XT.ushr i1 (8 : Int32)) &&& (255 : Int32))), .val (.int (i2 &&& (255 : Int32))), .val (.int ((XT.ushr i2 (8 : Int32)) &&& (255 : Int32))), .val (.ref r_1), .val (.ref r_2), .val (.ref r_3), .val (.ref a5), .val (.int (0 : Int32))]) rfl ?_
                  refine Go.aload (hb hby at_263) (pc' := 265) rfl rfl rfl ?_
                  have f41 : St Z h16 r_1 d_1 kd_1 (mkS lE (i0 &&& (255 : Int32)) ((XT.ushr i0 (8 : Int32)) &&& (255 : Int32))) := ((((o1_0.keep K2 nin0 nin0).keep K3 nin0 nin0).keep KE8 nin0 nin0).keep K16 (ninS (Exa.ne (((o1_0.keep K2 nin0 nin0).keep K3 nin0 nin0).keep KE8 nin0 nin0).1 X9 (by decide)) nin0) (ninS (Ne.symm (Ar.ne_exa (((o1_0.keep K2 nin0 nin0).keep K3 nin0 nin0).keep KE8 nin0 nin0).2.2.2.1 X9 (wd_42 g))) nin0))
                  have f42 : St Z h16 r_2 d_2 kd_2 (mkS lA (i1 &&& (255 : Int32)) ((XT.ushr i1 (8 : Int32)) &&& (255 : Int32))) := (((o2_0.keep K3 nin0 nin0).keep KE8 nin0 nin0).keep K16 (ninS (Exa.ne ((o2_0.keep K3 nin0 nin0).keep KE8 nin0 nin0).1 X9 (by decide)) nin0) (ninS (Ne.symm (Ar.ne_exa ((o2_0.keep K3 nin0 nin0).keep KE8 nin0 nin0).2.2.2.1 X9 (wd_42 g))) nin0))
                  have f43 : Exa Z h16 a5 "com/example/kunci/kunci/TestOutcome" := (X9.keep K16)
                  refine Go.callV (y0 := ⟨"com/example/kunci/kunci/TestOutcome", "isPassed", "()Z"⟩) (c_isPassed (l := l) (nw := nw) g h16 a5 r_1 d_1 kd_1 (mkS lE (i0 &&& (255 : Int32)) ((XT.ushr i0 (8 : Int32)) &&& (255 : Int32))) r_2 d_2 kd_2 (mkS lA (i1 &&& (255 : Int32)) ((XT.ushr i1 (8 : Int32)) &&& (255 : Int32))) o16_1 o16_2 f41 f42 (by omega)) hown (wd_54 g) (wd_55 g) (notFace_of_selects (wd_57 g)) (wd_57 g) (wd_56 g) f43 (wd_58 g) (wd_43 g) (by decide) (argsL := []) (lenOf pd_13 rfl) rfl (by rw [hml]; rfl) (W := 0) rfl (hb hby at_265) (pc' := 268) rfl (by decide) (by decide) (by decide) (by decide) all0 ?_
                  rintro _ vm44 h44 ⟨rfl, K44⟩ C44
                  have z44 := K44.1
                  -- pc 268
                  refine Go.iload (hb hby at_268) (pc' := 270) rfl rfl ?_
                  refine Go.icmpN (hb hby at_270) (pc' := 273) rfl (fun z => z (by rw [mkS_bo blE blA (m255 _) (m255 _) (m255 _) (m255 _)]; exact bo_no (fun z => z.2.2.elim q246 q253))) ?_
                  refine Go.iconst (hb hby at_273) (pc' := 274) rfl (z := (1 : Int32)) rfl ?_
                  refine Go.goto (hb hby at_274) (by decide) (pc' := 278) (by decide) ?_
                  refine Go.retN (t := .boolean) hret (by simp) (hb hby at_278) (by decide) (by decide) ?_
                  intro vmR CR
                  exact ⟨(by first | rfl | (simp only [own_nar]; done) | (congr 2; done)), (((((((Keep.refl h []).trans K1 all0).trans K2 all0).trans K3 all0).trans KE8 all0).trans K16 (allS (by first | (left; simp; done) | (right; omega)) all0)).trans K44 all0)⟩
                · refine Go.iconst (hb hby at_256) (pc' := 257) rfl (z := (1 : Int32)) rfl ?_
                  refine Go.goto (hb hby at_257) (by decide) (pc' := 261) (by decide) ?_
                  refine Go.istore (hb hby at_261) (pc' := 263) rfl (L' := #[.val (.int i0), .val (.int i1), .val (.int i2), .val (.int i3), .val (.int lE), .val (.int lA), .val (.int lQ), .val (.int (0 : Int32)), .val (.int (0 : Int32)), .val (.int (0 : Int32)), .val (.int (i0 &&& (255 : Int32))), .val (.int ((XT.ushr i0 (8 : Int32)) &&& (255 : Int32))), .val (.int (i1 &&& (255 : Int32))), .val (.int ((XT.ushr i1 (8 : Int32)) &&& (255 : Int32))), .val (.int (i2 &&& (255 : Int32))), .val (.int ((XT.ushr i2 (8 : Int32)) &&& (255 : Int32))), .val (.ref r_1), .val (.ref r_2), .val (.ref r_3), .val (.ref a5), .val (.int (1 : Int32))]) rfl ?_
                  refine Go.aload (hb hby at_263) (pc' := 265) rfl rfl rfl ?_
                  have f45 : St Z h16 r_1 d_1 kd_1 (mkS lE (i0 &&& (255 : Int32)) ((XT.ushr i0 (8 : Int32)) &&& (255 : Int32))) := ((((o1_0.keep K2 nin0 nin0).keep K3 nin0 nin0).keep KE8 nin0 nin0).keep K16 (ninS (Exa.ne (((o1_0.keep K2 nin0 nin0).keep K3 nin0 nin0).keep KE8 nin0 nin0).1 X9 (by decide)) nin0) (ninS (Ne.symm (Ar.ne_exa (((o1_0.keep K2 nin0 nin0).keep K3 nin0 nin0).keep KE8 nin0 nin0).2.2.2.1 X9 (wd_42 g))) nin0))
                  have f46 : St Z h16 r_2 d_2 kd_2 (mkS lA (i1 &&& (255 : Int32)) ((XT.ushr i1 (8 : Int32)) &&& (255 : Int32))) := (((o2_0.keep K3 nin0 nin0).keep KE8 nin0 nin0).keep K16 (ninS (Exa.ne ((o2_0.keep K3 nin0 nin0).keep KE8 nin0 nin0).1 X9 (by decide)) nin0) (ninS (Ne.symm (Ar.ne_exa ((o2_0.keep K3 nin0 nin0).keep KE8 nin0 nin0).2.2.2.1 X9 (wd_42 g))) nin0))
                  have f47 : Exa Z h16 a5 "com/example/kunci/kunci/TestOutcome" := (X9.keep K16)
                  refine Go.callV (y0 := ⟨"com/example/kunci/kunci/TestOutcome", "isPassed", "()Z"⟩) (c_isPassed (l := l) (nw := nw) g h16 a5 r_1 d_1 kd_1 (mkS lE (i0 &&& (255 : Int32)) ((XT.ushr i0 (8 : Int32)) &&& (255 : Int32))) r_2 d_2 kd_2 (mkS lA (i1 &&& (255 : Int32)) ((XT.ushr i1 (8 : Int32)) &&& (255 : Int32))) o16_1 o16_2 f45 f46 (by omega)) hown (wd_54 g) (wd_55 g) (notFace_of_selects (wd_57 g)) (wd_57 g) (wd_56 g) f47 (wd_58 g) (wd_43 g) (by decide) (argsL := []) (lenOf pd_13 rfl) rfl (by rw [hml]; rfl) (W := 0) rfl (hb hby at_265) (pc' := 268) rfl (by decide) (by decide) (by decide) (by decide) all0 ?_
                  rintro _ vm48 h48 ⟨rfl, K48⟩ C48
                  have z48 := K48.1
                  -- pc 268
                  refine Go.iload (hb hby at_268) (pc' := 270) rfl rfl ?_
                  refine Go.icmpN (hb hby at_270) (pc' := 273) rfl (fun z => z (by rw [mkS_bo blE blA (m255 _) (m255 _) (m255 _) (m255 _)]; exact bo_yes ⟨Classical.not_not.mp q227, Or.inr (Classical.not_not.mp q240), Or.inr (Classical.not_not.mp q253)⟩)) ?_
                  refine Go.iconst (hb hby at_273) (pc' := 274) rfl (z := (1 : Int32)) rfl ?_
                  refine Go.goto (hb hby at_274) (by decide) (pc' := 278) (by decide) ?_
                  refine Go.retN (t := .boolean) hret (by simp) (hb hby at_278) (by decide) (by decide) ?_
                  intro vmR CR
                  exact ⟨(by first | rfl | (simp only [own_nar]; done) | (congr 2; done)), (((((((Keep.refl h []).trans K1 all0).trans K2 all0).trans K3 all0).trans KE8 all0).trans K16 (allS (by first | (left; simp; done) | (right; omega)) all0)).trans K48 all0)⟩
      · refine Go.iconst (hb hby at_62) (pc' := 63) rfl (z := (1 : Int32)) rfl ?_
        refine Go.goto (hb hby at_63) (by decide) (pc' := 67) (by decide) ?_
        refine Go.istore (hb hby at_67) (pc' := 69) rfl (L' := #[.val (.int i0), .val (.int i1), .val (.int i2), .val (.int i3), .val (.int lE), .val (.int lA), .val (.int lQ), .val (.int (0 : Int32)), .val (.int (0 : Int32)), .val (.int (1 : Int32)), .unset, .unset, .unset, .unset, .unset, .unset, .unset, .unset, .unset, .unset, .unset]) rfl ?_
        refine Go.iloadN (hb hby at_69) (pc' := 70) rfl rfl ?_
        refine Go.sipush (hb hby at_70) (pc' := 73) rfl (z := (255 : Int32)) rfl ?_
        refine Go.iand (hb hby at_73) (pc' := 74) rfl ?_
        refine Go.i2c (hb hby at_74) (pc' := 75) rfl ?_
        rw [nch (m255 i0)]
        refine Go.istore (hb hby at_75) (pc' := 77) rfl (L' := #[.val (.int i0), .val (.int i1), .val (.int i2), .val (.int i3), .val (.int lE), .val (.int lA), .val (.int lQ), .val (.int (0 : Int32)), .val (.int (0 : Int32)), .val (.int (1 : Int32)), .val (.int (i0 &&& (255 : Int32))), .unset, .unset, .unset, .unset, .unset, .unset, .unset, .unset, .unset, .unset]) rfl ?_
        refine Go.iloadN (hb hby at_77) (pc' := 78) rfl rfl ?_
        refine Go.bipush (hb hby at_78) (pc' := 80) rfl (z := (8 : Int32)) rfl ?_
        refine Go.iushr (hb hby at_80) (pc' := 81) rfl ?_
        refine Go.sipush (hb hby at_81) (pc' := 84) rfl (z := (255 : Int32)) rfl ?_
        refine Go.iand (hb hby at_84) (pc' := 85) rfl ?_
        refine Go.i2c (hb hby at_85) (pc' := 86) rfl ?_
        rw [nch (m255 (XT.ushr i0 (8 : Int32)))]
        refine Go.istore (hb hby at_86) (pc' := 88) rfl (L' := #[.val (.int i0), .val (.int i1), .val (.int i2), .val (.int i3), .val (.int lE), .val (.int lA), .val (.int lQ), .val (.int (0 : Int32)), .val (.int (0 : Int32)), .val (.int (1 : Int32)), .val (.int (i0 &&& (255 : Int32))), .val (.int ((XT.ushr i0 (8 : Int32)) &&& (255 : Int32))), .unset, .unset, .unset, .unset, .unset, .unset, .unset, .unset, .unset]) rfl ?_
        refine Go.iload (hb hby at_88) (pc' := 90) rfl rfl ?_
        refine Go.ifY (hb hby at_90) (by decide) (pc' := 98) (by decide) (show (0 : Int32) = (0 : Int32) from by decide) ?_
        refine Go.iloadN (hb hby at_98) (pc' := 99) rfl rfl ?_
        refine Go.sipush (hb hby at_99) (pc' := 102) rfl (z := (255 : Int32)) rfl ?_
        refine Go.iand (hb hby at_102) (pc' := 103) rfl ?_
        refine Go.i2c (hb hby at_103) (pc' := 104) rfl ?_
        rw [nch (m255 i1)]
        refine Go.istore (hb hby at_104) (pc' := 106) rfl (L' := #[.val (.int i0), .val (.int i1), .val (.int i2), .val (.int i3), .val (.int lE), .val (.int lA), .val (.int lQ), .val (.int (0 : Int32)), .val (.int (0 : Int32)), .val (.int (1 : Int32)), .val (.int (i0 &&& (255 : Int32))), .val (.int ((XT.ushr i0 (8 : Int32)) &&& (255 : Int32))), .val (.int (i1 &&& (255 : Int32))), .unset, .unset, .unset, .unset, .unset, .unset, .unset, .unset]) rfl ?_
        refine Go.iload (hb hby at_106) (pc' := 108) rfl rfl ?_
        refine Go.ifY (hb hby at_108) (by decide) (pc' := 116) (by decide) (show (0 : Int32) = (0 : Int32) from by decide) ?_
        refine Go.iloadN (hb hby at_116) (pc' := 117) rfl rfl ?_
        refine Go.bipush (hb hby at_117) (pc' := 119) rfl (z := (8 : Int32)) rfl ?_
        refine Go.iushr (hb hby at_119) (pc' := 120) rfl ?_
        refine Go.sipush (hb hby at_120) (pc' := 123) rfl (z := (255 : Int32)) rfl ?_
        refine Go.iand (hb hby at_123) (pc' := 124) rfl ?_
        refine Go.i2c (hb hby at_124) (pc' := 125) rfl ?_
        rw [nch (m255 (XT.ushr i1 (8 : Int32)))]
        refine Go.istore (hb hby at_125) (pc' := 127) rfl (L' := #[.val (.int i0), .val (.int i1), .val (.int i2), .val (.int i3), .val (.int lE), .val (.int lA), .val (.int lQ), .val (.int (0 : Int32)), .val (.int (0 : Int32)), .val (.int (1 : Int32)), .val (.int (i0 &&& (255 : Int32))), .val (.int ((XT.ushr i0 (8 : Int32)) &&& (255 : Int32))), .val (.int (i1 &&& (255 : Int32))), .val (.int ((XT.ushr i1 (8 : Int32)) &&& (255 : Int32))), .unset, .unset, .unset, .unset, .unset, .unset, .unset]) rfl ?_
        refine Go.iload (hb hby at_127) (pc' := 129) rfl rfl ?_
        refine Go.ifN (hb hby at_129) (pc' := 132) rfl (show ¬ ((1 : Int32) = (0 : Int32)) from by decide) ?_
        refine Go.iload (hb hby at_132) (pc' := 134) rfl rfl ?_
        refine Go.goto (hb hby at_134) (by decide) (pc' := 143) (by decide) ?_
        refine Go.istore (hb hby at_143) (pc' := 145) rfl (L' := #[.val (.int i0), .val (.int i1), .val (.int i2), .val (.int i3), .val (.int lE), .val (.int lA), .val (.int lQ), .val (.int (0 : Int32)), .val (.int (0 : Int32)), .val (.int (1 : Int32)), .val (.int (i0 &&& (255 : Int32))), .val (.int ((XT.ushr i0 (8 : Int32)) &&& (255 : Int32))), .val (.int (i1 &&& (255 : Int32))), .val (.int ((XT.ushr i1 (8 : Int32)) &&& (255 : Int32))), .val (.int (i0 &&& (255 : Int32))), .unset, .unset, .unset, .unset, .unset, .unset]) rfl ?_
        refine Go.iload (hb hby at_145) (pc' := 147) rfl rfl ?_
        refine Go.ifN (hb hby at_147) (pc' := 150) rfl (show ¬ ((1 : Int32) = (0 : Int32)) from by decide) ?_
        refine Go.iload (hb hby at_150) (pc' := 152) rfl rfl ?_
        refine Go.goto (hb hby at_152) (by decide) (pc' := 164) (by decide) ?_
        refine Go.istore (hb hby at_164) (pc' := 166) rfl (L' := #[.val (.int i0), .val (.int i1), .val (.int i2), .val (.int i3), .val (.int lE), .val (.int lA), .val (.int lQ), .val (.int (0 : Int32)), .val (.int (0 : Int32)), .val (.int (1 : Int32)), .val (.int (i0 &&& (255 : Int32))), .val (.int ((XT.ushr i0 (8 : Int32)) &&& (255 : Int32))), .val (.int (i1 &&& (255 : Int32))), .val (.int ((XT.ushr i1 (8 : Int32)) &&& (255 : Int32))), .val (.int (i0 &&& (255 : Int32))), .val (.int ((XT.ushr i0 (8 : Int32)) &&& (255 : Int32))), .unset, .unset, .unset, .unset, .unset]) rfl ?_
        refine Go.iload (hb hby at_166) (pc' := 168) rfl rfl ?_
        refine Go.ifN (hb hby at_168) (pc' := 171) rfl (show ¬ ((1 : Int32) = (0 : Int32)) from by decide) ?_
        refine Go.iload (hb hby at_171) (pc' := 173) rfl rfl ?_
        refine Go.istore (hb hby at_173) (pc' := 175) rfl (L' := #[.val (.int i0), .val (.int i1), .val (.int i2), .val (.int i3), .val (.int lE), .val (.int lA), .val (.int lE), .val (.int (0 : Int32)), .val (.int (0 : Int32)), .val (.int (1 : Int32)), .val (.int (i0 &&& (255 : Int32))), .val (.int ((XT.ushr i0 (8 : Int32)) &&& (255 : Int32))), .val (.int (i1 &&& (255 : Int32))), .val (.int ((XT.ushr i1 (8 : Int32)) &&& (255 : Int32))), .val (.int (i0 &&& (255 : Int32))), .val (.int ((XT.ushr i0 (8 : Int32)) &&& (255 : Int32))), .unset, .unset, .unset, .unset, .unset]) rfl ?_
        refine Go.iload (hb hby at_175) (pc' := 177) rfl rfl ?_
        refine Go.iload (hb hby at_177) (pc' := 179) rfl rfl ?_
        refine Go.iload (hb hby at_179) (pc' := 181) rfl rfl ?_
        refine Go.callS (c_make (l := l) (nw := nw) g hnw h lE (i0 &&& (255 : Int32)) ((XT.ushr i0 (8 : Int32)) &&& (255 : Int32)) (m255 _) (m255 _) (by omega)) hown (wd_0 g) (wd_1 g) (wd_3 g) (wd_2 g) (by decide) (argsL := [(.int lE), (.int (i0 &&& (255 : Int32))), (.int ((XT.ushr i0 (8 : Int32)) &&& (255 : Int32)))]) (lenOf pd_11 rfl) rfl (by rw [hml]; rfl) (W := 0) rfl (hb hby at_181) (pc' := 184) rfl (by decide) (by decide) (by decide) (by decide) all0 ?_
        rintro _ vm49 h49 ⟨r_49, d_49, kd_49, rfl, K49, o49_0⟩ C49
        have z49 := K49.1
        have yo49_0 := ltN o49_0.lt; have yo49_0' := ltN o49_0.ltb
        -- pc 184
        refine Go.astore (hb hby at_184) (pc' := 186) rfl rfl (L' := #[.val (.int i0), .val (.int i1), .val (.int i2), .val (.int i3), .val (.int lE), .val (.int lA), .val (.int lE), .val (.int (0 : Int32)), .val (.int (0 : Int32)), .val (.int (1 : Int32)), .val (.int (i0 &&& (255 : Int32))), .val (.int ((XT.ushr i0 (8 : Int32)) &&& (255 : Int32))), .val (.int (i1 &&& (255 : Int32))), .val (.int ((XT.ushr i1 (8 : Int32)) &&& (255 : Int32))), .val (.int (i0 &&& (255 : Int32))), .val (.int ((XT.ushr i0 (8 : Int32)) &&& (255 : Int32))), .val (.ref r_49), .unset, .unset, .unset, .unset]) rfl ?_
        refine Go.iload (hb hby at_186) (pc' := 188) rfl rfl ?_
        refine Go.iload (hb hby at_188) (pc' := 190) rfl rfl ?_
        refine Go.iload (hb hby at_190) (pc' := 192) rfl rfl ?_
        refine Go.callS (c_make (l := l) (nw := nw) g hnw h49 lA (i1 &&& (255 : Int32)) ((XT.ushr i1 (8 : Int32)) &&& (255 : Int32)) (m255 _) (m255 _) (by omega)) hown (wd_0 g) (wd_1 g) (wd_3 g) (wd_2 g) (by decide) (argsL := [(.int lA), (.int (i1 &&& (255 : Int32))), (.int ((XT.ushr i1 (8 : Int32)) &&& (255 : Int32)))]) (lenOf pd_11 rfl) rfl (by rw [hml]; rfl) (W := 0) rfl (hb hby at_192) (pc' := 195) rfl (by decide) (by decide) (by decide) (by decide) all0 ?_
        rintro _ vm50 h50 ⟨r_50, d_50, kd_50, rfl, K50, o50_0⟩ C50
        have z50 := K50.1
        have yo50_0 := ltN o50_0.lt; have yo50_0' := ltN o50_0.ltb
        -- pc 195
        refine Go.astore (hb hby at_195) (pc' := 197) rfl rfl (L' := #[.val (.int i0), .val (.int i1), .val (.int i2), .val (.int i3), .val (.int lE), .val (.int lA), .val (.int lE), .val (.int (0 : Int32)), .val (.int (0 : Int32)), .val (.int (1 : Int32)), .val (.int (i0 &&& (255 : Int32))), .val (.int ((XT.ushr i0 (8 : Int32)) &&& (255 : Int32))), .val (.int (i1 &&& (255 : Int32))), .val (.int ((XT.ushr i1 (8 : Int32)) &&& (255 : Int32))), .val (.int (i0 &&& (255 : Int32))), .val (.int ((XT.ushr i0 (8 : Int32)) &&& (255 : Int32))), .val (.ref r_49), .val (.ref r_50), .unset, .unset, .unset]) rfl ?_
        refine Go.iload (hb hby at_197) (pc' := 199) rfl rfl ?_
        refine Go.iload (hb hby at_199) (pc' := 201) rfl rfl ?_
        refine Go.iload (hb hby at_201) (pc' := 203) rfl rfl ?_
        refine Go.callS (c_make (l := l) (nw := nw) g hnw h50 lE (i0 &&& (255 : Int32)) ((XT.ushr i0 (8 : Int32)) &&& (255 : Int32)) (m255 _) (m255 _) (by omega)) hown (wd_0 g) (wd_1 g) (wd_3 g) (wd_2 g) (by decide) (argsL := [(.int lE), (.int (i0 &&& (255 : Int32))), (.int ((XT.ushr i0 (8 : Int32)) &&& (255 : Int32)))]) (lenOf pd_11 rfl) rfl (by rw [hml]; rfl) (W := 0) rfl (hb hby at_203) (pc' := 206) rfl (by decide) (by decide) (by decide) (by decide) all0 ?_
        rintro _ vm51 h51 ⟨r_51, d_51, kd_51, rfl, K51, o51_0⟩ C51
        have z51 := K51.1
        have yo51_0 := ltN o51_0.lt; have yo51_0' := ltN o51_0.ltb
        -- pc 206
        refine Go.astore (hb hby at_206) (pc' := 208) rfl rfl (L' := #[.val (.int i0), .val (.int i1), .val (.int i2), .val (.int i3), .val (.int lE), .val (.int lA), .val (.int lE), .val (.int (0 : Int32)), .val (.int (0 : Int32)), .val (.int (1 : Int32)), .val (.int (i0 &&& (255 : Int32))), .val (.int ((XT.ushr i0 (8 : Int32)) &&& (255 : Int32))), .val (.int (i1 &&& (255 : Int32))), .val (.int ((XT.ushr i1 (8 : Int32)) &&& (255 : Int32))), .val (.int (i0 &&& (255 : Int32))), .val (.int ((XT.ushr i0 (8 : Int32)) &&& (255 : Int32))), .val (.ref r_49), .val (.ref r_50), .val (.ref r_51), .unset, .unset]) rfl ?_
        refine Go.newO hown (wd_41 g) (wd_42 g) (wd_43 g) (hb hby at_208) (pc' := 211) rfl (by decide) (by decide) ?_
        intro h52 a53 g54 l55 E56 X57 D58 S59 C60
        have KE56 := Keep.ofExt E56; have zE56 := E56.1
        have f61 : Fld Z h52 a53 "com/example/kunci/kunci/TestOutcome" "question" "Ljava/lang/String;" .null := D58 (Or.inr (wd_49 g)) (ty := (.object "java/lang/String")) (by decide)
        have f62 : Fld Z h52 a53 "com/example/kunci/kunci/TestOutcome" "expected" "Ljava/lang/String;" .null := D58 (Or.inr (wd_51 g)) (ty := (.object "java/lang/String")) (by decide)
        have f63 : Fld Z h52 a53 "com/example/kunci/kunci/TestOutcome" "answer" "Ljava/lang/String;" .null := D58 (Or.inr (wd_53 g)) (ty := (.object "java/lang/String")) (by decide)
        refine Go.dup (hb hby at_211) (pc' := 212) rfl rfl ?_
        refine Go.aload (hb hby at_212) (pc' := 214) rfl rfl rfl ?_
        refine Go.aload (hb hby at_214) (pc' := 216) rfl rfl rfl ?_
        refine Go.aload (hb hby at_216) (pc' := 218) rfl rfl rfl ?_
        refine Go.callC (c_outcome (l := l) (nw := nw) g h52 a53 (.ref r_51) (.ref r_49) (.ref r_50) rfl rfl rfl (by first | omega | assumption | decide) X57 f61 f62 f63 (by omega)) hown rfl rfl (wd_44 g) (wd_45 g) (wd_46 g) (wd_43 g) (by decide) (argsL := [(.ref r_51), (.ref r_49), (.ref r_50)]) (lenOf pd_12 rfl) rfl (by rw [hml]; rfl) (W := 1) rfl (hb hby at_218) (pc' := 221) rfl (by decide) (by decide) (by decide) (by decide) all0 ?_
        rintro _ vm64 h64 ⟨rfl, K64, o64_0, o64_1, o64_2⟩ C64
        have z64 := K64.1
        -- pc 221
        refine Go.astore (hb hby at_221) (pc' := 223) rfl rfl (L' := #[.val (.int i0), .val (.int i1), .val (.int i2), .val (.int i3), .val (.int lE), .val (.int lA), .val (.int lE), .val (.int (0 : Int32)), .val (.int (0 : Int32)), .val (.int (1 : Int32)), .val (.int (i0 &&& (255 : Int32))), .val (.int ((XT.ushr i0 (8 : Int32)) &&& (255 : Int32))), .val (.int (i1 &&& (255 : Int32))), .val (.int ((XT.ushr i1 (8 : Int32)) &&& (255 : Int32))), .val (.int (i0 &&& (255 : Int32))), .val (.int ((XT.ushr i0 (8 : Int32)) &&& (255 : Int32))), .val (.ref r_49), .val (.ref r_50), .val (.ref r_51), .val (.ref a53), .unset]) rfl ?_
        refine Go.iload (hb hby at_223) (pc' := 225) rfl rfl ?_
        refine Go.iload (hb hby at_225) (pc' := 227) rfl rfl ?_
        refine Go.icmp (hb hby at_227) (by decide) (pc' := 260) (by decide) (pc2 := 230) rfl (fun (q227 : ¬ lE = lA) => ?_) (fun (q227 : ¬ (¬ lE = lA)) => ?_)
        · refine Go.iconst (hb hby at_260) (pc' := 261) rfl (z := (0 : Int32)) rfl ?_
          refine Go.istore (hb hby at_261) (pc' := 263) rfl (L' := #[.val (.int i0), .val (.int i1), .val (.int i2), .val (.int i3), .val (.int lE), .val (.int lA), .val (.int lE), .val (.int (0 : Int32)), .val (.int (0 : Int32)), .val (.int (1 : Int32)), .val (.int (i0 &&& (255 : Int32))), .val (.int ((XT.ushr i0 (8 : Int32)) &&& (255 : Int32))), .val (.int (i1 &&& (255 : Int32))), .val (.int ((XT.ushr i1 (8 : Int32)) &&& (255 : Int32))), .val (.int (i0 &&& (255 : Int32))), .val (.int ((XT.ushr i0 (8 : Int32)) &&& (255 : Int32))), .val (.ref r_49), .val (.ref r_50), .val (.ref r_51), .val (.ref a53), .val (.int (0 : Int32))]) rfl ?_
          refine Go.aload (hb hby at_263) (pc' := 265) rfl rfl rfl ?_
          have f65 : St Z h64 r_49 d_49 kd_49 (mkS lE (i0 &&& (255 : Int32)) ((XT.ushr i0 (8 : Int32)) &&& (255 : Int32))) := ((((o49_0.keep K50 nin0 nin0).keep K51 nin0 nin0).keep KE56 nin0 nin0).keep K64 (ninS (Exa.ne (((o49_0.keep K50 nin0 nin0).keep K51 nin0 nin0).keep KE56 nin0 nin0).1 X57 (by decide)) nin0) (ninS (Ne.symm (Ar.ne_exa (((o49_0.keep K50 nin0 nin0).keep K51 nin0 nin0).keep KE56 nin0 nin0).2.2.2.1 X57 (wd_42 g))) nin0))
          have f66 : St Z h64 r_50 d_50 kd_50 (mkS lA (i1 &&& (255 : Int32)) ((XT.ushr i1 (8 : Int32)) &&& (255 : Int32))) := (((o50_0.keep K51 nin0 nin0).keep KE56 nin0 nin0).keep K64 (ninS (Exa.ne ((o50_0.keep K51 nin0 nin0).keep KE56 nin0 nin0).1 X57 (by decide)) nin0) (ninS (Ne.symm (Ar.ne_exa ((o50_0.keep K51 nin0 nin0).keep KE56 nin0 nin0).2.2.2.1 X57 (wd_42 g))) nin0))
          have f67 : Exa Z h64 a53 "com/example/kunci/kunci/TestOutcome" := (X57.keep K64)
          refine Go.callV (y0 := ⟨"com/example/kunci/kunci/TestOutcome", "isPassed", "()Z"⟩) (c_isPassed (l := l) (nw := nw) g h64 a53 r_49 d_49 kd_49 (mkS lE (i0 &&& (255 : Int32)) ((XT.ushr i0 (8 : Int32)) &&& (255 : Int32))) r_50 d_50 kd_50 (mkS lA (i1 &&& (255 : Int32)) ((XT.ushr i1 (8 : Int32)) &&& (255 : Int32))) o64_1 o64_2 f65 f66 (by omega)) hown (wd_54 g) (wd_55 g) (notFace_of_selects (wd_57 g)) (wd_57 g) (wd_56 g) f67 (wd_58 g) (wd_43 g) (by decide) (argsL := []) (lenOf pd_13 rfl) rfl (by rw [hml]; rfl) (W := 0) rfl (hb hby at_265) (pc' := 268) rfl (by decide) (by decide) (by decide) (by decide) all0 ?_
          rintro _ vm68 h68 ⟨rfl, K68⟩ C68
          have z68 := K68.1
          -- pc 268
          refine Go.iload (hb hby at_268) (pc' := 270) rfl rfl ?_
          refine Go.icmpN (hb hby at_270) (pc' := 273) rfl (fun z => z (by rw [mkS_bo blE blA (m255 _) (m255 _) (m255 _) (m255 _)]; exact bo_no (fun z => q227 z.1))) ?_
          refine Go.iconst (hb hby at_273) (pc' := 274) rfl (z := (1 : Int32)) rfl ?_
          refine Go.goto (hb hby at_274) (by decide) (pc' := 278) (by decide) ?_
          refine Go.retN (t := .boolean) hret (by simp) (hb hby at_278) (by decide) (by decide) ?_
          intro vmR CR
          exact ⟨(by first | rfl | (simp only [own_nar]; done) | (congr 2; done)), (((((((Keep.refl h []).trans K49 all0).trans K50 all0).trans K51 all0).trans KE56 all0).trans K64 (allS (by first | (left; simp; done) | (right; omega)) all0)).trans K68 all0)⟩
        · refine Go.iload (hb hby at_230) (pc' := 232) rfl rfl ?_
          refine Go.iconst (hb hby at_232) (pc' := 233) rfl (z := (1 : Int32)) rfl ?_
          refine Go.icmp (hb hby at_233) (by decide) (pc' := 243) (by decide) (pc2 := 236) rfl (fun (q233 : lE < (1 : Int32)) => ?_) (fun (q233 : ¬ (lE < (1 : Int32))) => ?_)
          · refine Go.iload (hb hby at_243) (pc' := 245) rfl rfl ?_
            refine Go.iconst (hb hby at_245) (pc' := 246) rfl (z := (2 : Int32)) rfl ?_
            refine Go.icmp (hb hby at_246) (by decide) (pc' := 256) (by decide) (pc2 := 249) rfl (fun (q246 : lE < (2 : Int32)) => ?_) (fun (q246 : ¬ (lE < (2 : Int32))) => ?_)
            · refine Go.iconst (hb hby at_256) (pc' := 257) rfl (z := (1 : Int32)) rfl ?_
              refine Go.goto (hb hby at_257) (by decide) (pc' := 261) (by decide) ?_
              refine Go.istore (hb hby at_261) (pc' := 263) rfl (L' := #[.val (.int i0), .val (.int i1), .val (.int i2), .val (.int i3), .val (.int lE), .val (.int lA), .val (.int lE), .val (.int (0 : Int32)), .val (.int (0 : Int32)), .val (.int (1 : Int32)), .val (.int (i0 &&& (255 : Int32))), .val (.int ((XT.ushr i0 (8 : Int32)) &&& (255 : Int32))), .val (.int (i1 &&& (255 : Int32))), .val (.int ((XT.ushr i1 (8 : Int32)) &&& (255 : Int32))), .val (.int (i0 &&& (255 : Int32))), .val (.int ((XT.ushr i0 (8 : Int32)) &&& (255 : Int32))), .val (.ref r_49), .val (.ref r_50), .val (.ref r_51), .val (.ref a53), .val (.int (1 : Int32))]) rfl ?_
              refine Go.aload (hb hby at_263) (pc' := 265) rfl rfl rfl ?_
              have f69 : St Z h64 r_49 d_49 kd_49 (mkS lE (i0 &&& (255 : Int32)) ((XT.ushr i0 (8 : Int32)) &&& (255 : Int32))) := ((((o49_0.keep K50 nin0 nin0).keep K51 nin0 nin0).keep KE56 nin0 nin0).keep K64 (ninS (Exa.ne (((o49_0.keep K50 nin0 nin0).keep K51 nin0 nin0).keep KE56 nin0 nin0).1 X57 (by decide)) nin0) (ninS (Ne.symm (Ar.ne_exa (((o49_0.keep K50 nin0 nin0).keep K51 nin0 nin0).keep KE56 nin0 nin0).2.2.2.1 X57 (wd_42 g))) nin0))
              have f70 : St Z h64 r_50 d_50 kd_50 (mkS lA (i1 &&& (255 : Int32)) ((XT.ushr i1 (8 : Int32)) &&& (255 : Int32))) := (((o50_0.keep K51 nin0 nin0).keep KE56 nin0 nin0).keep K64 (ninS (Exa.ne ((o50_0.keep K51 nin0 nin0).keep KE56 nin0 nin0).1 X57 (by decide)) nin0) (ninS (Ne.symm (Ar.ne_exa ((o50_0.keep K51 nin0 nin0).keep KE56 nin0 nin0).2.2.2.1 X57 (wd_42 g))) nin0))
              have f71 : Exa Z h64 a53 "com/example/kunci/kunci/TestOutcome" := (X57.keep K64)
              refine Go.callV (y0 := ⟨"com/example/kunci/kunci/TestOutcome", "isPassed", "()Z"⟩) (c_isPassed (l := l) (nw := nw) g h64 a53 r_49 d_49 kd_49 (mkS lE (i0 &&& (255 : Int32)) ((XT.ushr i0 (8 : Int32)) &&& (255 : Int32))) r_50 d_50 kd_50 (mkS lA (i1 &&& (255 : Int32)) ((XT.ushr i1 (8 : Int32)) &&& (255 : Int32))) o64_1 o64_2 f69 f70 (by omega)) hown (wd_54 g) (wd_55 g) (notFace_of_selects (wd_57 g)) (wd_57 g) (wd_56 g) f71 (wd_58 g) (wd_43 g) (by decide) (argsL := []) (lenOf pd_13 rfl) rfl (by rw [hml]; rfl) (W := 0) rfl (hb hby at_265) (pc' := 268) rfl (by decide) (by decide) (by decide) (by decide) all0 ?_
              rintro _ vm72 h72 ⟨rfl, K72⟩ C72
              have z72 := K72.1
              -- pc 268
              refine Go.iload (hb hby at_268) (pc' := 270) rfl rfl ?_
              refine Go.icmpN (hb hby at_270) (pc' := 273) rfl (fun z => z (by rw [mkS_bo blE blA (m255 _) (m255 _) (m255 _) (m255 _)]; exact bo_yes ⟨Classical.not_not.mp q227, Or.inl q233, Or.inl q246⟩)) ?_
              refine Go.iconst (hb hby at_273) (pc' := 274) rfl (z := (1 : Int32)) rfl ?_
              refine Go.goto (hb hby at_274) (by decide) (pc' := 278) (by decide) ?_
              refine Go.retN (t := .boolean) hret (by simp) (hb hby at_278) (by decide) (by decide) ?_
              intro vmR CR
              exact ⟨(by first | rfl | (simp only [own_nar]; done) | (congr 2; done)), (((((((Keep.refl h []).trans K49 all0).trans K50 all0).trans K51 all0).trans KE56 all0).trans K64 (allS (by first | (left; simp; done) | (right; omega)) all0)).trans K72 all0)⟩
            · refine Go.iload (hb hby at_249) (pc' := 251) rfl rfl ?_
              refine Go.iload (hb hby at_251) (pc' := 253) rfl rfl ?_
              refine Go.icmp (hb hby at_253) (by decide) (pc' := 260) (by decide) (pc2 := 256) rfl (fun (q253 : ¬ ((XT.ushr i0 (8 : Int32)) &&& (255 : Int32)) = ((XT.ushr i1 (8 : Int32)) &&& (255 : Int32))) => ?_) (fun (q253 : ¬ (¬ ((XT.ushr i0 (8 : Int32)) &&& (255 : Int32)) = ((XT.ushr i1 (8 : Int32)) &&& (255 : Int32)))) => ?_)
              · refine Go.iconst (hb hby at_260) (pc' := 261) rfl (z := (0 : Int32)) rfl ?_
                refine Go.istore (hb hby at_261) (pc' := 263) rfl (L' := #[.val (.int i0), .val (.int i1), .val (.int i2), .val (.int i3), .val (.int lE), .val (.int lA), .val (.int lE), .val (.int (0 : Int32)), .val (.int (0 : Int32)), .val (.int (1 : Int32)), .val (.int (i0 &&& (255 : Int32))), .val (.int ((XT.ushr i0 (8 : Int32)) &&& (255 : Int32))), .val (.int (i1 &&& (255 : Int32))), .val (.int ((XT.ushr i1 (8 : Int32)) &&& (255 : Int32))), .val (.int (i0 &&& (255 : Int32))), .val (.int ((XT.ushr i0 (8 : Int32)) &&& (255 : Int32))), .val (.ref r_49), .val (.ref r_50), .val (.ref r_51), .val (.ref a53), .val (.int (0 : Int32))]) rfl ?_
                refine Go.aload (hb hby at_263) (pc' := 265) rfl rfl rfl ?_
                have f73 : St Z h64 r_49 d_49 kd_49 (mkS lE (i0 &&& (255 : Int32)) ((XT.ushr i0 (8 : Int32)) &&& (255 : Int32))) := ((((o49_0.keep K50 nin0 nin0).keep K51 nin0 nin0).keep KE56 nin0 nin0).keep K64 (ninS (Exa.ne (((o49_0.keep K50 nin0 nin0).keep K51 nin0 nin0).keep KE56 nin0 nin0).1 X57 (by decide)) nin0) (ninS (Ne.symm (Ar.ne_exa (((o49_0.keep K50 nin0 nin0).keep K51 nin0 nin0).keep KE56 nin0 nin0).2.2.2.1 X57 (wd_42 g))) nin0))
                have f74 : St Z h64 r_50 d_50 kd_50 (mkS lA (i1 &&& (255 : Int32)) ((XT.ushr i1 (8 : Int32)) &&& (255 : Int32))) := (((o50_0.keep K51 nin0 nin0).keep KE56 nin0 nin0).keep K64 (ninS (Exa.ne ((o50_0.keep K51 nin0 nin0).keep KE56 nin0 nin0).1 X57 (by decide)) nin0) (ninS (Ne.symm (Ar.ne_exa ((o50_0.keep K51 nin0 nin0).keep KE56 nin0 nin0).2.2.2.1 X57 (wd_42 g))) nin0))
                have f75 : Exa Z h64 a53 "com/example/kunci/kunci/TestOutcome" := (X57.keep K64)
                refine Go.callV (y0 := ⟨"com/example/kunci/kunci/TestOutcome", "isPassed", "()Z"⟩) (c_isPassed (l := l) (nw := nw) g h64 a53 r_49 d_49 kd_49 (mkS lE (i0 &&& (255 : Int32)) ((XT.ushr i0 (8 : Int32)) &&& (255 : Int32))) r_50 d_50 kd_50 (mkS lA (i1 &&& (255 : Int32)) ((XT.ushr i1 (8 : Int32)) &&& (255 : Int32))) o64_1 o64_2 f73 f74 (by omega)) hown (wd_54 g) (wd_55 g) (notFace_of_selects (wd_57 g)) (wd_57 g) (wd_56 g) f75 (wd_58 g) (wd_43 g) (by decide) (argsL := []) (lenOf pd_13 rfl) rfl (by rw [hml]; rfl) (W := 0) rfl (hb hby at_265) (pc' := 268) rfl (by decide) (by decide) (by decide) (by decide) all0 ?_
                rintro _ vm76 h76 ⟨rfl, K76⟩ C76
                have z76 := K76.1
                -- pc 268
                refine Go.iload (hb hby at_268) (pc' := 270) rfl rfl ?_
                refine Go.icmpN (hb hby at_270) (pc' := 273) rfl (fun z => z (by rw [mkS_bo blE blA (m255 _) (m255 _) (m255 _) (m255 _)]; exact bo_no (fun z => z.2.2.elim q246 q253))) ?_
                refine Go.iconst (hb hby at_273) (pc' := 274) rfl (z := (1 : Int32)) rfl ?_
                refine Go.goto (hb hby at_274) (by decide) (pc' := 278) (by decide) ?_
                refine Go.retN (t := .boolean) hret (by simp) (hb hby at_278) (by decide) (by decide) ?_
                intro vmR CR
                exact ⟨(by first | rfl | (simp only [own_nar]; done) | (congr 2; done)), (((((((Keep.refl h []).trans K49 all0).trans K50 all0).trans K51 all0).trans KE56 all0).trans K64 (allS (by first | (left; simp; done) | (right; omega)) all0)).trans K76 all0)⟩
              · refine Go.iconst (hb hby at_256) (pc' := 257) rfl (z := (1 : Int32)) rfl ?_
                refine Go.goto (hb hby at_257) (by decide) (pc' := 261) (by decide) ?_
                refine Go.istore (hb hby at_261) (pc' := 263) rfl (L' := #[.val (.int i0), .val (.int i1), .val (.int i2), .val (.int i3), .val (.int lE), .val (.int lA), .val (.int lE), .val (.int (0 : Int32)), .val (.int (0 : Int32)), .val (.int (1 : Int32)), .val (.int (i0 &&& (255 : Int32))), .val (.int ((XT.ushr i0 (8 : Int32)) &&& (255 : Int32))), .val (.int (i1 &&& (255 : Int32))), .val (.int ((XT.ushr i1 (8 : Int32)) &&& (255 : Int32))), .val (.int (i0 &&& (255 : Int32))), .val (.int ((XT.ushr i0 (8 : Int32)) &&& (255 : Int32))), .val (.ref r_49), .val (.ref r_50), .val (.ref r_51), .val (.ref a53), .val (.int (1 : Int32))]) rfl ?_
                refine Go.aload (hb hby at_263) (pc' := 265) rfl rfl rfl ?_
                have f77 : St Z h64 r_49 d_49 kd_49 (mkS lE (i0 &&& (255 : Int32)) ((XT.ushr i0 (8 : Int32)) &&& (255 : Int32))) := ((((o49_0.keep K50 nin0 nin0).keep K51 nin0 nin0).keep KE56 nin0 nin0).keep K64 (ninS (Exa.ne (((o49_0.keep K50 nin0 nin0).keep K51 nin0 nin0).keep KE56 nin0 nin0).1 X57 (by decide)) nin0) (ninS (Ne.symm (Ar.ne_exa (((o49_0.keep K50 nin0 nin0).keep K51 nin0 nin0).keep KE56 nin0 nin0).2.2.2.1 X57 (wd_42 g))) nin0))
                have f78 : St Z h64 r_50 d_50 kd_50 (mkS lA (i1 &&& (255 : Int32)) ((XT.ushr i1 (8 : Int32)) &&& (255 : Int32))) := (((o50_0.keep K51 nin0 nin0).keep KE56 nin0 nin0).keep K64 (ninS (Exa.ne ((o50_0.keep K51 nin0 nin0).keep KE56 nin0 nin0).1 X57 (by decide)) nin0) (ninS (Ne.symm (Ar.ne_exa ((o50_0.keep K51 nin0 nin0).keep KE56 nin0 nin0).2.2.2.1 X57 (wd_42 g))) nin0))
                have f79 : Exa Z h64 a53 "com/example/kunci/kunci/TestOutcome" := (X57.keep K64)
                refine Go.callV (y0 := ⟨"com/example/kunci/kunci/TestOutcome", "isPassed", "()Z"⟩) (c_isPassed (l := l) (nw := nw) g h64 a53 r_49 d_49 kd_49 (mkS lE (i0 &&& (255 : Int32)) ((XT.ushr i0 (8 : Int32)) &&& (255 : Int32))) r_50 d_50 kd_50 (mkS lA (i1 &&& (255 : Int32)) ((XT.ushr i1 (8 : Int32)) &&& (255 : Int32))) o64_1 o64_2 f77 f78 (by omega)) hown (wd_54 g) (wd_55 g) (notFace_of_selects (wd_57 g)) (wd_57 g) (wd_56 g) f79 (wd_58 g) (wd_43 g) (by decide) (argsL := []) (lenOf pd_13 rfl) rfl (by rw [hml]; rfl) (W := 0) rfl (hb hby at_265) (pc' := 268) rfl (by decide) (by decide) (by decide) (by decide) all0 ?_
                rintro _ vm80 h80 ⟨rfl, K80⟩ C80
                have z80 := K80.1
                -- pc 268
                refine Go.iload (hb hby at_268) (pc' := 270) rfl rfl ?_
                refine Go.icmpN (hb hby at_270) (pc' := 273) rfl (fun z => z (by rw [mkS_bo blE blA (m255 _) (m255 _) (m255 _) (m255 _)]; exact bo_yes ⟨Classical.not_not.mp q227, Or.inl q233, Or.inr (Classical.not_not.mp q253)⟩)) ?_
                refine Go.iconst (hb hby at_273) (pc' := 274) rfl (z := (1 : Int32)) rfl ?_
                refine Go.goto (hb hby at_274) (by decide) (pc' := 278) (by decide) ?_
                refine Go.retN (t := .boolean) hret (by simp) (hb hby at_278) (by decide) (by decide) ?_
                intro vmR CR
                exact ⟨(by first | rfl | (simp only [own_nar]; done) | (congr 2; done)), (((((((Keep.refl h []).trans K49 all0).trans K50 all0).trans K51 all0).trans KE56 all0).trans K64 (allS (by first | (left; simp; done) | (right; omega)) all0)).trans K80 all0)⟩
          · refine Go.iload (hb hby at_236) (pc' := 238) rfl rfl ?_
            refine Go.iload (hb hby at_238) (pc' := 240) rfl rfl ?_
            refine Go.icmp (hb hby at_240) (by decide) (pc' := 260) (by decide) (pc2 := 243) rfl (fun (q240 : ¬ (i0 &&& (255 : Int32)) = (i1 &&& (255 : Int32))) => ?_) (fun (q240 : ¬ (¬ (i0 &&& (255 : Int32)) = (i1 &&& (255 : Int32)))) => ?_)
            · refine Go.iconst (hb hby at_260) (pc' := 261) rfl (z := (0 : Int32)) rfl ?_
              refine Go.istore (hb hby at_261) (pc' := 263) rfl (L' := #[.val (.int i0), .val (.int i1), .val (.int i2), .val (.int i3), .val (.int lE), .val (.int lA), .val (.int lE), .val (.int (0 : Int32)), .val (.int (0 : Int32)), .val (.int (1 : Int32)), .val (.int (i0 &&& (255 : Int32))), .val (.int ((XT.ushr i0 (8 : Int32)) &&& (255 : Int32))), .val (.int (i1 &&& (255 : Int32))), .val (.int ((XT.ushr i1 (8 : Int32)) &&& (255 : Int32))), .val (.int (i0 &&& (255 : Int32))), .val (.int ((XT.ushr i0 (8 : Int32)) &&& (255 : Int32))), .val (.ref r_49), .val (.ref r_50), .val (.ref r_51), .val (.ref a53), .val (.int (0 : Int32))]) rfl ?_
              refine Go.aload (hb hby at_263) (pc' := 265) rfl rfl rfl ?_
              have f81 : St Z h64 r_49 d_49 kd_49 (mkS lE (i0 &&& (255 : Int32)) ((XT.ushr i0 (8 : Int32)) &&& (255 : Int32))) := ((((o49_0.keep K50 nin0 nin0).keep K51 nin0 nin0).keep KE56 nin0 nin0).keep K64 (ninS (Exa.ne (((o49_0.keep K50 nin0 nin0).keep K51 nin0 nin0).keep KE56 nin0 nin0).1 X57 (by decide)) nin0) (ninS (Ne.symm (Ar.ne_exa (((o49_0.keep K50 nin0 nin0).keep K51 nin0 nin0).keep KE56 nin0 nin0).2.2.2.1 X57 (wd_42 g))) nin0))
              have f82 : St Z h64 r_50 d_50 kd_50 (mkS lA (i1 &&& (255 : Int32)) ((XT.ushr i1 (8 : Int32)) &&& (255 : Int32))) := (((o50_0.keep K51 nin0 nin0).keep KE56 nin0 nin0).keep K64 (ninS (Exa.ne ((o50_0.keep K51 nin0 nin0).keep KE56 nin0 nin0).1 X57 (by decide)) nin0) (ninS (Ne.symm (Ar.ne_exa ((o50_0.keep K51 nin0 nin0).keep KE56 nin0 nin0).2.2.2.1 X57 (wd_42 g))) nin0))
              have f83 : Exa Z h64 a53 "com/example/kunci/kunci/TestOutcome" := (X57.keep K64)
              refine Go.callV (y0 := ⟨"com/example/kunci/kunci/TestOutcome", "isPassed", "()Z"⟩) (c_isPassed (l := l) (nw := nw) g h64 a53 r_49 d_49 kd_49 (mkS lE (i0 &&& (255 : Int32)) ((XT.ushr i0 (8 : Int32)) &&& (255 : Int32))) r_50 d_50 kd_50 (mkS lA (i1 &&& (255 : Int32)) ((XT.ushr i1 (8 : Int32)) &&& (255 : Int32))) o64_1 o64_2 f81 f82 (by omega)) hown (wd_54 g) (wd_55 g) (notFace_of_selects (wd_57 g)) (wd_57 g) (wd_56 g) f83 (wd_58 g) (wd_43 g) (by decide) (argsL := []) (lenOf pd_13 rfl) rfl (by rw [hml]; rfl) (W := 0) rfl (hb hby at_265) (pc' := 268) rfl (by decide) (by decide) (by decide) (by decide) all0 ?_
              rintro _ vm84 h84 ⟨rfl, K84⟩ C84
              have z84 := K84.1
              -- pc 268
              refine Go.iload (hb hby at_268) (pc' := 270) rfl rfl ?_
              refine Go.icmpN (hb hby at_270) (pc' := 273) rfl (fun z => z (by rw [mkS_bo blE blA (m255 _) (m255 _) (m255 _) (m255 _)]; exact bo_no (fun z => z.2.1.elim q233 q240))) ?_
              refine Go.iconst (hb hby at_273) (pc' := 274) rfl (z := (1 : Int32)) rfl ?_
              refine Go.goto (hb hby at_274) (by decide) (pc' := 278) (by decide) ?_
              refine Go.retN (t := .boolean) hret (by simp) (hb hby at_278) (by decide) (by decide) ?_
              intro vmR CR
              exact ⟨(by first | rfl | (simp only [own_nar]; done) | (congr 2; done)), (((((((Keep.refl h []).trans K49 all0).trans K50 all0).trans K51 all0).trans KE56 all0).trans K64 (allS (by first | (left; simp; done) | (right; omega)) all0)).trans K84 all0)⟩
            · refine Go.iload (hb hby at_243) (pc' := 245) rfl rfl ?_
              refine Go.iconst (hb hby at_245) (pc' := 246) rfl (z := (2 : Int32)) rfl ?_
              refine Go.icmp (hb hby at_246) (by decide) (pc' := 256) (by decide) (pc2 := 249) rfl (fun (q246 : lE < (2 : Int32)) => ?_) (fun (q246 : ¬ (lE < (2 : Int32))) => ?_)
              · refine Go.iconst (hb hby at_256) (pc' := 257) rfl (z := (1 : Int32)) rfl ?_
                refine Go.goto (hb hby at_257) (by decide) (pc' := 261) (by decide) ?_
                refine Go.istore (hb hby at_261) (pc' := 263) rfl (L' := #[.val (.int i0), .val (.int i1), .val (.int i2), .val (.int i3), .val (.int lE), .val (.int lA), .val (.int lE), .val (.int (0 : Int32)), .val (.int (0 : Int32)), .val (.int (1 : Int32)), .val (.int (i0 &&& (255 : Int32))), .val (.int ((XT.ushr i0 (8 : Int32)) &&& (255 : Int32))), .val (.int (i1 &&& (255 : Int32))), .val (.int ((XT.ushr i1 (8 : Int32)) &&& (255 : Int32))), .val (.int (i0 &&& (255 : Int32))), .val (.int ((XT.ushr i0 (8 : Int32)) &&& (255 : Int32))), .val (.ref r_49), .val (.ref r_50), .val (.ref r_51), .val (.ref a53), .val (.int (1 : Int32))]) rfl ?_
                refine Go.aload (hb hby at_263) (pc' := 265) rfl rfl rfl ?_
                have f85 : St Z h64 r_49 d_49 kd_49 (mkS lE (i0 &&& (255 : Int32)) ((XT.ushr i0 (8 : Int32)) &&& (255 : Int32))) := ((((o49_0.keep K50 nin0 nin0).keep K51 nin0 nin0).keep KE56 nin0 nin0).keep K64 (ninS (Exa.ne (((o49_0.keep K50 nin0 nin0).keep K51 nin0 nin0).keep KE56 nin0 nin0).1 X57 (by decide)) nin0) (ninS (Ne.symm (Ar.ne_exa (((o49_0.keep K50 nin0 nin0).keep K51 nin0 nin0).keep KE56 nin0 nin0).2.2.2.1 X57 (wd_42 g))) nin0))
                have f86 : St Z h64 r_50 d_50 kd_50 (mkS lA (i1 &&& (255 : Int32)) ((XT.ushr i1 (8 : Int32)) &&& (255 : Int32))) := (((o50_0.keep K51 nin0 nin0).keep KE56 nin0 nin0).keep K64 (ninS (Exa.ne ((o50_0.keep K51 nin0 nin0).keep KE56 nin0 nin0).1 X57 (by decide)) nin0) (ninS (Ne.symm (Ar.ne_exa ((o50_0.keep K51 nin0 nin0).keep KE56 nin0 nin0).2.2.2.1 X57 (wd_42 g))) nin0))
                have f87 : Exa Z h64 a53 "com/example/kunci/kunci/TestOutcome" := (X57.keep K64)
                refine Go.callV (y0 := ⟨"com/example/kunci/kunci/TestOutcome", "isPassed", "()Z"⟩) (c_isPassed (l := l) (nw := nw) g h64 a53 r_49 d_49 kd_49 (mkS lE (i0 &&& (255 : Int32)) ((XT.ushr i0 (8 : Int32)) &&& (255 : Int32))) r_50 d_50 kd_50 (mkS lA (i1 &&& (255 : Int32)) ((XT.ushr i1 (8 : Int32)) &&& (255 : Int32))) o64_1 o64_2 f85 f86 (by omega)) hown (wd_54 g) (wd_55 g) (notFace_of_selects (wd_57 g)) (wd_57 g) (wd_56 g) f87 (wd_58 g) (wd_43 g) (by decide) (argsL := []) (lenOf pd_13 rfl) rfl (by rw [hml]; rfl) (W := 0) rfl (hb hby at_265) (pc' := 268) rfl (by decide) (by decide) (by decide) (by decide) all0 ?_
                rintro _ vm88 h88 ⟨rfl, K88⟩ C88
                have z88 := K88.1
                -- pc 268
                refine Go.iload (hb hby at_268) (pc' := 270) rfl rfl ?_
                refine Go.icmpN (hb hby at_270) (pc' := 273) rfl (fun z => z (by rw [mkS_bo blE blA (m255 _) (m255 _) (m255 _) (m255 _)]; exact bo_yes ⟨Classical.not_not.mp q227, Or.inr (Classical.not_not.mp q240), Or.inl q246⟩)) ?_
                refine Go.iconst (hb hby at_273) (pc' := 274) rfl (z := (1 : Int32)) rfl ?_
                refine Go.goto (hb hby at_274) (by decide) (pc' := 278) (by decide) ?_
                refine Go.retN (t := .boolean) hret (by simp) (hb hby at_278) (by decide) (by decide) ?_
                intro vmR CR
                exact ⟨(by first | rfl | (simp only [own_nar]; done) | (congr 2; done)), (((((((Keep.refl h []).trans K49 all0).trans K50 all0).trans K51 all0).trans KE56 all0).trans K64 (allS (by first | (left; simp; done) | (right; omega)) all0)).trans K88 all0)⟩
              · refine Go.iload (hb hby at_249) (pc' := 251) rfl rfl ?_
                refine Go.iload (hb hby at_251) (pc' := 253) rfl rfl ?_
                refine Go.icmp (hb hby at_253) (by decide) (pc' := 260) (by decide) (pc2 := 256) rfl (fun (q253 : ¬ ((XT.ushr i0 (8 : Int32)) &&& (255 : Int32)) = ((XT.ushr i1 (8 : Int32)) &&& (255 : Int32))) => ?_) (fun (q253 : ¬ (¬ ((XT.ushr i0 (8 : Int32)) &&& (255 : Int32)) = ((XT.ushr i1 (8 : Int32)) &&& (255 : Int32)))) => ?_)
                · refine Go.iconst (hb hby at_260) (pc' := 261) rfl (z := (0 : Int32)) rfl ?_
                  refine Go.istore (hb hby at_261) (pc' := 263) rfl (L' := #[.val (.int i0), .val (.int i1), .val (.int i2), .val (.int i3), .val (.int lE), .val (.int lA), .val (.int lE), .val (.int (0 : Int32)), .val (.int (0 : Int32)), .val (.int (1 : Int32)), .val (.int (i0 &&& (255 : Int32))), .val (.int ((XT.ushr i0 (8 : Int32)) &&& (255 : Int32))), .val (.int (i1 &&& (255 : Int32))), .val (.int ((XT.ushr i1 (8 : Int32)) &&& (255 : Int32))), .val (.int (i0 &&& (255 : Int32))), .val (.int ((XT.ushr i0 (8 : Int32)) &&& (255 : Int32))), .val (.ref r_49), .val (.ref r_50), .val (.ref r_51), .val (.ref a53), .val (.int (0 : Int32))]) rfl ?_
                  refine Go.aload (hb hby at_263) (pc' := 265) rfl rfl rfl ?_
                  have f89 : St Z h64 r_49 d_49 kd_49 (mkS lE (i0 &&& (255 : Int32)) ((XT.ushr i0 (8 : Int32)) &&& (255 : Int32))) := ((((o49_0.keep K50 nin0 nin0).keep K51 nin0 nin0).keep KE56 nin0 nin0).keep K64 (ninS (Exa.ne (((o49_0.keep K50 nin0 nin0).keep K51 nin0 nin0).keep KE56 nin0 nin0).1 X57 (by decide)) nin0) (ninS (Ne.symm (Ar.ne_exa (((o49_0.keep K50 nin0 nin0).keep K51 nin0 nin0).keep KE56 nin0 nin0).2.2.2.1 X57 (wd_42 g))) nin0))
                  have f90 : St Z h64 r_50 d_50 kd_50 (mkS lA (i1 &&& (255 : Int32)) ((XT.ushr i1 (8 : Int32)) &&& (255 : Int32))) := (((o50_0.keep K51 nin0 nin0).keep KE56 nin0 nin0).keep K64 (ninS (Exa.ne ((o50_0.keep K51 nin0 nin0).keep KE56 nin0 nin0).1 X57 (by decide)) nin0) (ninS (Ne.symm (Ar.ne_exa ((o50_0.keep K51 nin0 nin0).keep KE56 nin0 nin0).2.2.2.1 X57 (wd_42 g))) nin0))
                  have f91 : Exa Z h64 a53 "com/example/kunci/kunci/TestOutcome" := (X57.keep K64)
                  refine Go.callV (y0 := ⟨"com/example/kunci/kunci/TestOutcome", "isPassed", "()Z"⟩) (c_isPassed (l := l) (nw := nw) g h64 a53 r_49 d_49 kd_49 (mkS lE (i0 &&& (255 : Int32)) ((XT.ushr i0 (8 : Int32)) &&& (255 : Int32))) r_50 d_50 kd_50 (mkS lA (i1 &&& (255 : Int32)) ((XT.ushr i1 (8 : Int32)) &&& (255 : Int32))) o64_1 o64_2 f89 f90 (by omega)) hown (wd_54 g) (wd_55 g) (notFace_of_selects (wd_57 g)) (wd_57 g) (wd_56 g) f91 (wd_58 g) (wd_43 g) (by decide) (argsL := []) (lenOf pd_13 rfl) rfl (by rw [hml]; rfl) (W := 0) rfl (hb hby at_265) (pc' := 268) rfl (by decide) (by decide) (by decide) (by decide) all0 ?_
                  rintro _ vm92 h92 ⟨rfl, K92⟩ C92
                  have z92 := K92.1
                  -- pc 268
                  refine Go.iload (hb hby at_268) (pc' := 270) rfl rfl ?_
                  refine Go.icmpN (hb hby at_270) (pc' := 273) rfl (fun z => z (by rw [mkS_bo blE blA (m255 _) (m255 _) (m255 _) (m255 _)]; exact bo_no (fun z => z.2.2.elim q246 q253))) ?_
                  refine Go.iconst (hb hby at_273) (pc' := 274) rfl (z := (1 : Int32)) rfl ?_
                  refine Go.goto (hb hby at_274) (by decide) (pc' := 278) (by decide) ?_
                  refine Go.retN (t := .boolean) hret (by simp) (hb hby at_278) (by decide) (by decide) ?_
                  intro vmR CR
                  exact ⟨(by first | rfl | (simp only [own_nar]; done) | (congr 2; done)), (((((((Keep.refl h []).trans K49 all0).trans K50 all0).trans K51 all0).trans KE56 all0).trans K64 (allS (by first | (left; simp; done) | (right; omega)) all0)).trans K92 all0)⟩
                · refine Go.iconst (hb hby at_256) (pc' := 257) rfl (z := (1 : Int32)) rfl ?_
                  refine Go.goto (hb hby at_257) (by decide) (pc' := 261) (by decide) ?_
                  refine Go.istore (hb hby at_261) (pc' := 263) rfl (L' := #[.val (.int i0), .val (.int i1), .val (.int i2), .val (.int i3), .val (.int lE), .val (.int lA), .val (.int lE), .val (.int (0 : Int32)), .val (.int (0 : Int32)), .val (.int (1 : Int32)), .val (.int (i0 &&& (255 : Int32))), .val (.int ((XT.ushr i0 (8 : Int32)) &&& (255 : Int32))), .val (.int (i1 &&& (255 : Int32))), .val (.int ((XT.ushr i1 (8 : Int32)) &&& (255 : Int32))), .val (.int (i0 &&& (255 : Int32))), .val (.int ((XT.ushr i0 (8 : Int32)) &&& (255 : Int32))), .val (.ref r_49), .val (.ref r_50), .val (.ref r_51), .val (.ref a53), .val (.int (1 : Int32))]) rfl ?_
                  refine Go.aload (hb hby at_263) (pc' := 265) rfl rfl rfl ?_
                  have f93 : St Z h64 r_49 d_49 kd_49 (mkS lE (i0 &&& (255 : Int32)) ((XT.ushr i0 (8 : Int32)) &&& (255 : Int32))) := ((((o49_0.keep K50 nin0 nin0).keep K51 nin0 nin0).keep KE56 nin0 nin0).keep K64 (ninS (Exa.ne (((o49_0.keep K50 nin0 nin0).keep K51 nin0 nin0).keep KE56 nin0 nin0).1 X57 (by decide)) nin0) (ninS (Ne.symm (Ar.ne_exa (((o49_0.keep K50 nin0 nin0).keep K51 nin0 nin0).keep KE56 nin0 nin0).2.2.2.1 X57 (wd_42 g))) nin0))
                  have f94 : St Z h64 r_50 d_50 kd_50 (mkS lA (i1 &&& (255 : Int32)) ((XT.ushr i1 (8 : Int32)) &&& (255 : Int32))) := (((o50_0.keep K51 nin0 nin0).keep KE56 nin0 nin0).keep K64 (ninS (Exa.ne ((o50_0.keep K51 nin0 nin0).keep KE56 nin0 nin0).1 X57 (by decide)) nin0) (ninS (Ne.symm (Ar.ne_exa ((o50_0.keep K51 nin0 nin0).keep KE56 nin0 nin0).2.2.2.1 X57 (wd_42 g))) nin0))
                  have f95 : Exa Z h64 a53 "com/example/kunci/kunci/TestOutcome" := (X57.keep K64)
                  refine Go.callV (y0 := ⟨"com/example/kunci/kunci/TestOutcome", "isPassed", "()Z"⟩) (c_isPassed (l := l) (nw := nw) g h64 a53 r_49 d_49 kd_49 (mkS lE (i0 &&& (255 : Int32)) ((XT.ushr i0 (8 : Int32)) &&& (255 : Int32))) r_50 d_50 kd_50 (mkS lA (i1 &&& (255 : Int32)) ((XT.ushr i1 (8 : Int32)) &&& (255 : Int32))) o64_1 o64_2 f93 f94 (by omega)) hown (wd_54 g) (wd_55 g) (notFace_of_selects (wd_57 g)) (wd_57 g) (wd_56 g) f95 (wd_58 g) (wd_43 g) (by decide) (argsL := []) (lenOf pd_13 rfl) rfl (by rw [hml]; rfl) (W := 0) rfl (hb hby at_265) (pc' := 268) rfl (by decide) (by decide) (by decide) (by decide) all0 ?_
                  rintro _ vm96 h96 ⟨rfl, K96⟩ C96
                  have z96 := K96.1
                  -- pc 268
                  refine Go.iload (hb hby at_268) (pc' := 270) rfl rfl ?_
                  refine Go.icmpN (hb hby at_270) (pc' := 273) rfl (fun z => z (by rw [mkS_bo blE blA (m255 _) (m255 _) (m255 _) (m255 _)]; exact bo_yes ⟨Classical.not_not.mp q227, Or.inr (Classical.not_not.mp q240), Or.inr (Classical.not_not.mp q253)⟩)) ?_
                  refine Go.iconst (hb hby at_273) (pc' := 274) rfl (z := (1 : Int32)) rfl ?_
                  refine Go.goto (hb hby at_274) (by decide) (pc' := 278) (by decide) ?_
                  refine Go.retN (t := .boolean) hret (by simp) (hb hby at_278) (by decide) (by decide) ?_
                  intro vmR CR
                  exact ⟨(by first | rfl | (simp only [own_nar]; done) | (congr 2; done)), (((((((Keep.refl h []).trans K49 all0).trans K50 all0).trans K51 all0).trans KE56 all0).trans K64 (allS (by first | (left; simp; done) | (right; omega)) all0)).trans K96 all0)⟩
    · refine Go.iconst (hb hby at_47) (pc' := 48) rfl (z := (1 : Int32)) rfl ?_
      refine Go.goto (hb hby at_48) (by decide) (pc' := 52) (by decide) ?_
      refine Go.istore (hb hby at_52) (pc' := 54) rfl (L' := #[.val (.int i0), .val (.int i1), .val (.int i2), .val (.int i3), .val (.int lE), .val (.int lA), .val (.int lQ), .val (.int (0 : Int32)), .val (.int (1 : Int32)), .unset, .unset, .unset, .unset, .unset, .unset, .unset, .unset, .unset, .unset, .unset, .unset]) rfl ?_
      refine Go.iloadN (hb hby at_54) (pc' := 55) rfl rfl ?_
      refine Go.sipush (hb hby at_55) (pc' := 58) rfl (z := (256 : Int32)) rfl ?_
      refine Go.iand (hb hby at_58) (pc' := 59) rfl ?_
      refine Go.ifc (hb hby at_59) (by decide) (pc' := 66) (by decide) (pc2 := 62) rfl (fun (q59 : (i3 &&& (256 : Int32)) = (0 : Int32)) => ?_) (fun (q59 : ¬ ((i3 &&& (256 : Int32)) = (0 : Int32))) => ?_)
      · refine Go.iconst (hb hby at_66) (pc' := 67) rfl (z := (0 : Int32)) rfl ?_
        refine Go.istore (hb hby at_67) (pc' := 69) rfl (L' := #[.val (.int i0), .val (.int i1), .val (.int i2), .val (.int i3), .val (.int lE), .val (.int lA), .val (.int lQ), .val (.int (0 : Int32)), .val (.int (1 : Int32)), .val (.int (0 : Int32)), .unset, .unset, .unset, .unset, .unset, .unset, .unset, .unset, .unset, .unset, .unset]) rfl ?_
        refine Go.iloadN (hb hby at_69) (pc' := 70) rfl rfl ?_
        refine Go.sipush (hb hby at_70) (pc' := 73) rfl (z := (255 : Int32)) rfl ?_
        refine Go.iand (hb hby at_73) (pc' := 74) rfl ?_
        refine Go.i2c (hb hby at_74) (pc' := 75) rfl ?_
        rw [nch (m255 i0)]
        refine Go.istore (hb hby at_75) (pc' := 77) rfl (L' := #[.val (.int i0), .val (.int i1), .val (.int i2), .val (.int i3), .val (.int lE), .val (.int lA), .val (.int lQ), .val (.int (0 : Int32)), .val (.int (1 : Int32)), .val (.int (0 : Int32)), .val (.int (i0 &&& (255 : Int32))), .unset, .unset, .unset, .unset, .unset, .unset, .unset, .unset, .unset, .unset]) rfl ?_
        refine Go.iloadN (hb hby at_77) (pc' := 78) rfl rfl ?_
        refine Go.bipush (hb hby at_78) (pc' := 80) rfl (z := (8 : Int32)) rfl ?_
        refine Go.iushr (hb hby at_80) (pc' := 81) rfl ?_
        refine Go.sipush (hb hby at_81) (pc' := 84) rfl (z := (255 : Int32)) rfl ?_
        refine Go.iand (hb hby at_84) (pc' := 85) rfl ?_
        refine Go.i2c (hb hby at_85) (pc' := 86) rfl ?_
        rw [nch (m255 (XT.ushr i0 (8 : Int32)))]
        refine Go.istore (hb hby at_86) (pc' := 88) rfl (L' := #[.val (.int i0), .val (.int i1), .val (.int i2), .val (.int i3), .val (.int lE), .val (.int lA), .val (.int lQ), .val (.int (0 : Int32)), .val (.int (1 : Int32)), .val (.int (0 : Int32)), .val (.int (i0 &&& (255 : Int32))), .val (.int ((XT.ushr i0 (8 : Int32)) &&& (255 : Int32))), .unset, .unset, .unset, .unset, .unset, .unset, .unset, .unset, .unset]) rfl ?_
        refine Go.iload (hb hby at_88) (pc' := 90) rfl rfl ?_
        refine Go.ifY (hb hby at_90) (by decide) (pc' := 98) (by decide) (show (0 : Int32) = (0 : Int32) from by decide) ?_
        refine Go.iloadN (hb hby at_98) (pc' := 99) rfl rfl ?_
        refine Go.sipush (hb hby at_99) (pc' := 102) rfl (z := (255 : Int32)) rfl ?_
        refine Go.iand (hb hby at_102) (pc' := 103) rfl ?_
        refine Go.i2c (hb hby at_103) (pc' := 104) rfl ?_
        rw [nch (m255 i1)]
        refine Go.istore (hb hby at_104) (pc' := 106) rfl (L' := #[.val (.int i0), .val (.int i1), .val (.int i2), .val (.int i3), .val (.int lE), .val (.int lA), .val (.int lQ), .val (.int (0 : Int32)), .val (.int (1 : Int32)), .val (.int (0 : Int32)), .val (.int (i0 &&& (255 : Int32))), .val (.int ((XT.ushr i0 (8 : Int32)) &&& (255 : Int32))), .val (.int (i1 &&& (255 : Int32))), .unset, .unset, .unset, .unset, .unset, .unset, .unset, .unset]) rfl ?_
        refine Go.iload (hb hby at_106) (pc' := 108) rfl rfl ?_
        refine Go.ifN (hb hby at_108) (pc' := 111) rfl (show ¬ ((1 : Int32) = (0 : Int32)) from by decide) ?_
        refine Go.iload (hb hby at_111) (pc' := 113) rfl rfl ?_
        refine Go.goto (hb hby at_113) (by decide) (pc' := 125) (by decide) ?_
        refine Go.istore (hb hby at_125) (pc' := 127) rfl (L' := #[.val (.int i0), .val (.int i1), .val (.int i2), .val (.int i3), .val (.int lE), .val (.int lA), .val (.int lQ), .val (.int (0 : Int32)), .val (.int (1 : Int32)), .val (.int (0 : Int32)), .val (.int (i0 &&& (255 : Int32))), .val (.int ((XT.ushr i0 (8 : Int32)) &&& (255 : Int32))), .val (.int (i1 &&& (255 : Int32))), .val (.int ((XT.ushr i0 (8 : Int32)) &&& (255 : Int32))), .unset, .unset, .unset, .unset, .unset, .unset, .unset]) rfl ?_
        refine Go.iload (hb hby at_127) (pc' := 129) rfl rfl ?_
        refine Go.ifY (hb hby at_129) (by decide) (pc' := 137) (by decide) (show (0 : Int32) = (0 : Int32) from by decide) ?_
        refine Go.iloadN (hb hby at_137) (pc' := 138) rfl rfl ?_
        refine Go.sipush (hb hby at_138) (pc' := 141) rfl (z := (255 : Int32)) rfl ?_
        refine Go.iand (hb hby at_141) (pc' := 142) rfl ?_
        refine Go.i2c (hb hby at_142) (pc' := 143) rfl ?_
        rw [nch (m255 i2)]
        refine Go.istore (hb hby at_143) (pc' := 145) rfl (L' := #[.val (.int i0), .val (.int i1), .val (.int i2), .val (.int i3), .val (.int lE), .val (.int lA), .val (.int lQ), .val (.int (0 : Int32)), .val (.int (1 : Int32)), .val (.int (0 : Int32)), .val (.int (i0 &&& (255 : Int32))), .val (.int ((XT.ushr i0 (8 : Int32)) &&& (255 : Int32))), .val (.int (i1 &&& (255 : Int32))), .val (.int ((XT.ushr i0 (8 : Int32)) &&& (255 : Int32))), .val (.int (i2 &&& (255 : Int32))), .unset, .unset, .unset, .unset, .unset, .unset]) rfl ?_
        refine Go.iload (hb hby at_145) (pc' := 147) rfl rfl ?_
        refine Go.ifY (hb hby at_147) (by decide) (pc' := 155) (by decide) (show (0 : Int32) = (0 : Int32) from by decide) ?_
        refine Go.iloadN (hb hby at_155) (pc' := 156) rfl rfl ?_
        refine Go.bipush (hb hby at_156) (pc' := 158) rfl (z := (8 : Int32)) rfl ?_
        refine Go.iushr (hb hby at_158) (pc' := 159) rfl ?_
        refine Go.sipush (hb hby at_159) (pc' := 162) rfl (z := (255 : Int32)) rfl ?_
        refine Go.iand (hb hby at_162) (pc' := 163) rfl ?_
        refine Go.i2c (hb hby at_163) (pc' := 164) rfl ?_
        rw [nch (m255 (XT.ushr i2 (8 : Int32)))]
        refine Go.istore (hb hby at_164) (pc' := 166) rfl (L' := #[.val (.int i0), .val (.int i1), .val (.int i2), .val (.int i3), .val (.int lE), .val (.int lA), .val (.int lQ), .val (.int (0 : Int32)), .val (.int (1 : Int32)), .val (.int (0 : Int32)), .val (.int (i0 &&& (255 : Int32))), .val (.int ((XT.ushr i0 (8 : Int32)) &&& (255 : Int32))), .val (.int (i1 &&& (255 : Int32))), .val (.int ((XT.ushr i0 (8 : Int32)) &&& (255 : Int32))), .val (.int (i2 &&& (255 : Int32))), .val (.int ((XT.ushr i2 (8 : Int32)) &&& (255 : Int32))), .unset, .unset, .unset, .unset, .unset]) rfl ?_
        refine Go.iload (hb hby at_166) (pc' := 168) rfl rfl ?_
        refine Go.ifY (hb hby at_168) (by decide) (pc' := 175) (by decide) (show (0 : Int32) = (0 : Int32) from by decide) ?_
        refine Go.iload (hb hby at_175) (pc' := 177) rfl rfl ?_
        refine Go.iload (hb hby at_177) (pc' := 179) rfl rfl ?_
        refine Go.iload (hb hby at_179) (pc' := 181) rfl rfl ?_
        refine Go.callS (c_make (l := l) (nw := nw) g hnw h lE (i0 &&& (255 : Int32)) ((XT.ushr i0 (8 : Int32)) &&& (255 : Int32)) (m255 _) (m255 _) (by omega)) hown (wd_0 g) (wd_1 g) (wd_3 g) (wd_2 g) (by decide) (argsL := [(.int lE), (.int (i0 &&& (255 : Int32))), (.int ((XT.ushr i0 (8 : Int32)) &&& (255 : Int32)))]) (lenOf pd_11 rfl) rfl (by rw [hml]; rfl) (W := 0) rfl (hb hby at_181) (pc' := 184) rfl (by decide) (by decide) (by decide) (by decide) all0 ?_
        rintro _ vm97 h97 ⟨r_97, d_97, kd_97, rfl, K97, o97_0⟩ C97
        have z97 := K97.1
        have yo97_0 := ltN o97_0.lt; have yo97_0' := ltN o97_0.ltb
        -- pc 184
        refine Go.astore (hb hby at_184) (pc' := 186) rfl rfl (L' := #[.val (.int i0), .val (.int i1), .val (.int i2), .val (.int i3), .val (.int lE), .val (.int lA), .val (.int lQ), .val (.int (0 : Int32)), .val (.int (1 : Int32)), .val (.int (0 : Int32)), .val (.int (i0 &&& (255 : Int32))), .val (.int ((XT.ushr i0 (8 : Int32)) &&& (255 : Int32))), .val (.int (i1 &&& (255 : Int32))), .val (.int ((XT.ushr i0 (8 : Int32)) &&& (255 : Int32))), .val (.int (i2 &&& (255 : Int32))), .val (.int ((XT.ushr i2 (8 : Int32)) &&& (255 : Int32))), .val (.ref r_97), .unset, .unset, .unset, .unset]) rfl ?_
        refine Go.iload (hb hby at_186) (pc' := 188) rfl rfl ?_
        refine Go.iload (hb hby at_188) (pc' := 190) rfl rfl ?_
        refine Go.iload (hb hby at_190) (pc' := 192) rfl rfl ?_
        refine Go.callS (c_make (l := l) (nw := nw) g hnw h97 lA (i1 &&& (255 : Int32)) ((XT.ushr i0 (8 : Int32)) &&& (255 : Int32)) (m255 _) (m255 _) (by omega)) hown (wd_0 g) (wd_1 g) (wd_3 g) (wd_2 g) (by decide) (argsL := [(.int lA), (.int (i1 &&& (255 : Int32))), (.int ((XT.ushr i0 (8 : Int32)) &&& (255 : Int32)))]) (lenOf pd_11 rfl) rfl (by rw [hml]; rfl) (W := 0) rfl (hb hby at_192) (pc' := 195) rfl (by decide) (by decide) (by decide) (by decide) all0 ?_
        rintro _ vm98 h98 ⟨r_98, d_98, kd_98, rfl, K98, o98_0⟩ C98
        have z98 := K98.1
        have yo98_0 := ltN o98_0.lt; have yo98_0' := ltN o98_0.ltb
        -- pc 195
        refine Go.astore (hb hby at_195) (pc' := 197) rfl rfl (L' := #[.val (.int i0), .val (.int i1), .val (.int i2), .val (.int i3), .val (.int lE), .val (.int lA), .val (.int lQ), .val (.int (0 : Int32)), .val (.int (1 : Int32)), .val (.int (0 : Int32)), .val (.int (i0 &&& (255 : Int32))), .val (.int ((XT.ushr i0 (8 : Int32)) &&& (255 : Int32))), .val (.int (i1 &&& (255 : Int32))), .val (.int ((XT.ushr i0 (8 : Int32)) &&& (255 : Int32))), .val (.int (i2 &&& (255 : Int32))), .val (.int ((XT.ushr i2 (8 : Int32)) &&& (255 : Int32))), .val (.ref r_97), .val (.ref r_98), .unset, .unset, .unset]) rfl ?_
        refine Go.iload (hb hby at_197) (pc' := 199) rfl rfl ?_
        refine Go.iload (hb hby at_199) (pc' := 201) rfl rfl ?_
        refine Go.iload (hb hby at_201) (pc' := 203) rfl rfl ?_
        refine Go.callS (c_make (l := l) (nw := nw) g hnw h98 lQ (i2 &&& (255 : Int32)) ((XT.ushr i2 (8 : Int32)) &&& (255 : Int32)) (m255 _) (m255 _) (by omega)) hown (wd_0 g) (wd_1 g) (wd_3 g) (wd_2 g) (by decide) (argsL := [(.int lQ), (.int (i2 &&& (255 : Int32))), (.int ((XT.ushr i2 (8 : Int32)) &&& (255 : Int32)))]) (lenOf pd_11 rfl) rfl (by rw [hml]; rfl) (W := 0) rfl (hb hby at_203) (pc' := 206) rfl (by decide) (by decide) (by decide) (by decide) all0 ?_
        rintro _ vm99 h99 ⟨r_99, d_99, kd_99, rfl, K99, o99_0⟩ C99
        have z99 := K99.1
        have yo99_0 := ltN o99_0.lt; have yo99_0' := ltN o99_0.ltb
        -- pc 206
        refine Go.astore (hb hby at_206) (pc' := 208) rfl rfl (L' := #[.val (.int i0), .val (.int i1), .val (.int i2), .val (.int i3), .val (.int lE), .val (.int lA), .val (.int lQ), .val (.int (0 : Int32)), .val (.int (1 : Int32)), .val (.int (0 : Int32)), .val (.int (i0 &&& (255 : Int32))), .val (.int ((XT.ushr i0 (8 : Int32)) &&& (255 : Int32))), .val (.int (i1 &&& (255 : Int32))), .val (.int ((XT.ushr i0 (8 : Int32)) &&& (255 : Int32))), .val (.int (i2 &&& (255 : Int32))), .val (.int ((XT.ushr i2 (8 : Int32)) &&& (255 : Int32))), .val (.ref r_97), .val (.ref r_98), .val (.ref r_99), .unset, .unset]) rfl ?_
        refine Go.newO hown (wd_41 g) (wd_42 g) (wd_43 g) (hb hby at_208) (pc' := 211) rfl (by decide) (by decide) ?_
        intro h100 a101 g102 l103 E104 X105 D106 S107 C108
        have KE104 := Keep.ofExt E104; have zE104 := E104.1
        have f109 : Fld Z h100 a101 "com/example/kunci/kunci/TestOutcome" "question" "Ljava/lang/String;" .null := D106 (Or.inr (wd_49 g)) (ty := (.object "java/lang/String")) (by decide)
        have f110 : Fld Z h100 a101 "com/example/kunci/kunci/TestOutcome" "expected" "Ljava/lang/String;" .null := D106 (Or.inr (wd_51 g)) (ty := (.object "java/lang/String")) (by decide)
        have f111 : Fld Z h100 a101 "com/example/kunci/kunci/TestOutcome" "answer" "Ljava/lang/String;" .null := D106 (Or.inr (wd_53 g)) (ty := (.object "java/lang/String")) (by decide)
        refine Go.dup (hb hby at_211) (pc' := 212) rfl rfl ?_
        refine Go.aload (hb hby at_212) (pc' := 214) rfl rfl rfl ?_
        refine Go.aload (hb hby at_214) (pc' := 216) rfl rfl rfl ?_
        refine Go.aload (hb hby at_216) (pc' := 218) rfl rfl rfl ?_
        refine Go.callC (c_outcome (l := l) (nw := nw) g h100 a101 (.ref r_99) (.ref r_97) (.ref r_98) rfl rfl rfl (by first | omega | assumption | decide) X105 f109 f110 f111 (by omega)) hown rfl rfl (wd_44 g) (wd_45 g) (wd_46 g) (wd_43 g) (by decide) (argsL := [(.ref r_99), (.ref r_97), (.ref r_98)]) (lenOf pd_12 rfl) rfl (by rw [hml]; rfl) (W := 1) rfl (hb hby at_218) (pc' := 221) rfl (by decide) (by decide) (by decide) (by decide) all0 ?_
        rintro _ vm112 h112 ⟨rfl, K112, o112_0, o112_1, o112_2⟩ C112
        have z112 := K112.1
        -- pc 221
        refine Go.astore (hb hby at_221) (pc' := 223) rfl rfl (L' := #[.val (.int i0), .val (.int i1), .val (.int i2), .val (.int i3), .val (.int lE), .val (.int lA), .val (.int lQ), .val (.int (0 : Int32)), .val (.int (1 : Int32)), .val (.int (0 : Int32)), .val (.int (i0 &&& (255 : Int32))), .val (.int ((XT.ushr i0 (8 : Int32)) &&& (255 : Int32))), .val (.int (i1 &&& (255 : Int32))), .val (.int ((XT.ushr i0 (8 : Int32)) &&& (255 : Int32))), .val (.int (i2 &&& (255 : Int32))), .val (.int ((XT.ushr i2 (8 : Int32)) &&& (255 : Int32))), .val (.ref r_97), .val (.ref r_98), .val (.ref r_99), .val (.ref a101), .unset]) rfl ?_
        refine Go.iload (hb hby at_223) (pc' := 225) rfl rfl ?_
        refine Go.iload (hb hby at_225) (pc' := 227) rfl rfl ?_
        refine Go.icmp (hb hby at_227) (by decide) (pc' := 260) (by decide) (pc2 := 230) rfl (fun (q227 : ¬ lE = lA) => ?_) (fun (q227 : ¬ (¬ lE = lA)) => ?_)
        · refine Go.iconst (hb hby at_260) (pc' := 261) rfl (z := (0 : Int32)) rfl ?_
          refine Go.istore (hb hby at_261) (pc' := 263) rfl (L' := #[.val (.int i0), .val (.int i1), .val (.int i2), .val (.int i3), .val (.int lE), .val (.int lA), .val (.int lQ), .val (.int (0 : Int32)), .val (.int (1 : Int32)), .val (.int (0 : Int32)), .val (.int (i0 &&& (255 : Int32))), .val (.int ((XT.ushr i0 (8 : Int32)) &&& (255 : Int32))), .val (.int (i1 &&& (255 : Int32))), .val (.int ((XT.ushr i0 (8 : Int32)) &&& (255 : Int32))), .val (.int (i2 &&& (255 : Int32))), .val (.int ((XT.ushr i2 (8 : Int32)) &&& (255 : Int32))), .val (.ref r_97), .val (.ref r_98), .val (.ref r_99), .val (.ref a101), .val (.int (0 : Int32))]) rfl ?_
          refine Go.aload (hb hby at_263) (pc' := 265) rfl rfl rfl ?_
          have f113 : St Z h112 r_97 d_97 kd_97 (mkS lE (i0 &&& (255 : Int32)) ((XT.ushr i0 (8 : Int32)) &&& (255 : Int32))) := ((((o97_0.keep K98 nin0 nin0).keep K99 nin0 nin0).keep KE104 nin0 nin0).keep K112 (ninS (Exa.ne (((o97_0.keep K98 nin0 nin0).keep K99 nin0 nin0).keep KE104 nin0 nin0).1 X105 (by decide)) nin0) (ninS (Ne.symm (Ar.ne_exa (((o97_0.keep K98 nin0 nin0).keep K99 nin0 nin0).keep KE104 nin0 nin0).2.2.2.1 X105 (wd_42 g))) nin0))
          have f114 : St Z h112 r_98 d_98 kd_98 (mkS lA (i1 &&& (255 : Int32)) ((XT.ushr i0 (8 : Int32)) &&& (255 : Int32))) := (((o98_0.keep K99 nin0 nin0).keep KE104 nin0 nin0).keep K112 (ninS (Exa.ne ((o98_0.keep K99 nin0 nin0).keep KE104 nin0 nin0).1 X105 (by decide)) nin0) (ninS (Ne.symm (Ar.ne_exa ((o98_0.keep K99 nin0 nin0).keep KE104 nin0 nin0).2.2.2.1 X105 (wd_42 g))) nin0))
          have f115 : Exa Z h112 a101 "com/example/kunci/kunci/TestOutcome" := (X105.keep K112)
          refine Go.callV (y0 := ⟨"com/example/kunci/kunci/TestOutcome", "isPassed", "()Z"⟩) (c_isPassed (l := l) (nw := nw) g h112 a101 r_97 d_97 kd_97 (mkS lE (i0 &&& (255 : Int32)) ((XT.ushr i0 (8 : Int32)) &&& (255 : Int32))) r_98 d_98 kd_98 (mkS lA (i1 &&& (255 : Int32)) ((XT.ushr i0 (8 : Int32)) &&& (255 : Int32))) o112_1 o112_2 f113 f114 (by omega)) hown (wd_54 g) (wd_55 g) (notFace_of_selects (wd_57 g)) (wd_57 g) (wd_56 g) f115 (wd_58 g) (wd_43 g) (by decide) (argsL := []) (lenOf pd_13 rfl) rfl (by rw [hml]; rfl) (W := 0) rfl (hb hby at_265) (pc' := 268) rfl (by decide) (by decide) (by decide) (by decide) all0 ?_
          rintro _ vm116 h116 ⟨rfl, K116⟩ C116
          have z116 := K116.1
          -- pc 268
          refine Go.iload (hb hby at_268) (pc' := 270) rfl rfl ?_
          refine Go.icmpN (hb hby at_270) (pc' := 273) rfl (fun z => z (by rw [mkS_bo blE blA (m255 _) (m255 _) (m255 _) (m255 _)]; exact bo_no (fun z => q227 z.1))) ?_
          refine Go.iconst (hb hby at_273) (pc' := 274) rfl (z := (1 : Int32)) rfl ?_
          refine Go.goto (hb hby at_274) (by decide) (pc' := 278) (by decide) ?_
          refine Go.retN (t := .boolean) hret (by simp) (hb hby at_278) (by decide) (by decide) ?_
          intro vmR CR
          exact ⟨(by first | rfl | (simp only [own_nar]; done) | (congr 2; done)), (((((((Keep.refl h []).trans K97 all0).trans K98 all0).trans K99 all0).trans KE104 all0).trans K112 (allS (by first | (left; simp; done) | (right; omega)) all0)).trans K116 all0)⟩
        · refine Go.iload (hb hby at_230) (pc' := 232) rfl rfl ?_
          refine Go.iconst (hb hby at_232) (pc' := 233) rfl (z := (1 : Int32)) rfl ?_
          refine Go.icmp (hb hby at_233) (by decide) (pc' := 243) (by decide) (pc2 := 236) rfl (fun (q233 : lE < (1 : Int32)) => ?_) (fun (q233 : ¬ (lE < (1 : Int32))) => ?_)
          · refine Go.iload (hb hby at_243) (pc' := 245) rfl rfl ?_
            refine Go.iconst (hb hby at_245) (pc' := 246) rfl (z := (2 : Int32)) rfl ?_
            refine Go.icmp (hb hby at_246) (by decide) (pc' := 256) (by decide) (pc2 := 249) rfl (fun (q246 : lE < (2 : Int32)) => ?_) (fun (q246 : ¬ (lE < (2 : Int32))) => ?_)
            · refine Go.iconst (hb hby at_256) (pc' := 257) rfl (z := (1 : Int32)) rfl ?_
              refine Go.goto (hb hby at_257) (by decide) (pc' := 261) (by decide) ?_
              refine Go.istore (hb hby at_261) (pc' := 263) rfl (L' := #[.val (.int i0), .val (.int i1), .val (.int i2), .val (.int i3), .val (.int lE), .val (.int lA), .val (.int lQ), .val (.int (0 : Int32)), .val (.int (1 : Int32)), .val (.int (0 : Int32)), .val (.int (i0 &&& (255 : Int32))), .val (.int ((XT.ushr i0 (8 : Int32)) &&& (255 : Int32))), .val (.int (i1 &&& (255 : Int32))), .val (.int ((XT.ushr i0 (8 : Int32)) &&& (255 : Int32))), .val (.int (i2 &&& (255 : Int32))), .val (.int ((XT.ushr i2 (8 : Int32)) &&& (255 : Int32))), .val (.ref r_97), .val (.ref r_98), .val (.ref r_99), .val (.ref a101), .val (.int (1 : Int32))]) rfl ?_
              refine Go.aload (hb hby at_263) (pc' := 265) rfl rfl rfl ?_
              have f117 : St Z h112 r_97 d_97 kd_97 (mkS lE (i0 &&& (255 : Int32)) ((XT.ushr i0 (8 : Int32)) &&& (255 : Int32))) := ((((o97_0.keep K98 nin0 nin0).keep K99 nin0 nin0).keep KE104 nin0 nin0).keep K112 (ninS (Exa.ne (((o97_0.keep K98 nin0 nin0).keep K99 nin0 nin0).keep KE104 nin0 nin0).1 X105 (by decide)) nin0) (ninS (Ne.symm (Ar.ne_exa (((o97_0.keep K98 nin0 nin0).keep K99 nin0 nin0).keep KE104 nin0 nin0).2.2.2.1 X105 (wd_42 g))) nin0))
              have f118 : St Z h112 r_98 d_98 kd_98 (mkS lA (i1 &&& (255 : Int32)) ((XT.ushr i0 (8 : Int32)) &&& (255 : Int32))) := (((o98_0.keep K99 nin0 nin0).keep KE104 nin0 nin0).keep K112 (ninS (Exa.ne ((o98_0.keep K99 nin0 nin0).keep KE104 nin0 nin0).1 X105 (by decide)) nin0) (ninS (Ne.symm (Ar.ne_exa ((o98_0.keep K99 nin0 nin0).keep KE104 nin0 nin0).2.2.2.1 X105 (wd_42 g))) nin0))
              have f119 : Exa Z h112 a101 "com/example/kunci/kunci/TestOutcome" := (X105.keep K112)
              refine Go.callV (y0 := ⟨"com/example/kunci/kunci/TestOutcome", "isPassed", "()Z"⟩) (c_isPassed (l := l) (nw := nw) g h112 a101 r_97 d_97 kd_97 (mkS lE (i0 &&& (255 : Int32)) ((XT.ushr i0 (8 : Int32)) &&& (255 : Int32))) r_98 d_98 kd_98 (mkS lA (i1 &&& (255 : Int32)) ((XT.ushr i0 (8 : Int32)) &&& (255 : Int32))) o112_1 o112_2 f117 f118 (by omega)) hown (wd_54 g) (wd_55 g) (notFace_of_selects (wd_57 g)) (wd_57 g) (wd_56 g) f119 (wd_58 g) (wd_43 g) (by decide) (argsL := []) (lenOf pd_13 rfl) rfl (by rw [hml]; rfl) (W := 0) rfl (hb hby at_265) (pc' := 268) rfl (by decide) (by decide) (by decide) (by decide) all0 ?_
              rintro _ vm120 h120 ⟨rfl, K120⟩ C120
              have z120 := K120.1
              -- pc 268
              refine Go.iload (hb hby at_268) (pc' := 270) rfl rfl ?_
              refine Go.icmpN (hb hby at_270) (pc' := 273) rfl (fun z => z (by rw [mkS_bo blE blA (m255 _) (m255 _) (m255 _) (m255 _)]; exact bo_yes ⟨Classical.not_not.mp q227, Or.inl q233, Or.inl q246⟩)) ?_
              refine Go.iconst (hb hby at_273) (pc' := 274) rfl (z := (1 : Int32)) rfl ?_
              refine Go.goto (hb hby at_274) (by decide) (pc' := 278) (by decide) ?_
              refine Go.retN (t := .boolean) hret (by simp) (hb hby at_278) (by decide) (by decide) ?_
              intro vmR CR
              exact ⟨(by first | rfl | (simp only [own_nar]; done) | (congr 2; done)), (((((((Keep.refl h []).trans K97 all0).trans K98 all0).trans K99 all0).trans KE104 all0).trans K112 (allS (by first | (left; simp; done) | (right; omega)) all0)).trans K120 all0)⟩
            · refine Go.iload (hb hby at_249) (pc' := 251) rfl rfl ?_
              refine Go.iload (hb hby at_251) (pc' := 253) rfl rfl ?_
              refine Go.icmpN (hb hby at_253) (pc' := 256) rfl (fun q => q rfl) ?_
              refine Go.iconst (hb hby at_256) (pc' := 257) rfl (z := (1 : Int32)) rfl ?_
              refine Go.goto (hb hby at_257) (by decide) (pc' := 261) (by decide) ?_
              refine Go.istore (hb hby at_261) (pc' := 263) rfl (L' := #[.val (.int i0), .val (.int i1), .val (.int i2), .val (.int i3), .val (.int lE), .val (.int lA), .val (.int lQ), .val (.int (0 : Int32)), .val (.int (1 : Int32)), .val (.int (0 : Int32)), .val (.int (i0 &&& (255 : Int32))), .val (.int ((XT.ushr i0 (8 : Int32)) &&& (255 : Int32))), .val (.int (i1 &&& (255 : Int32))), .val (.int ((XT.ushr i0 (8 : Int32)) &&& (255 : Int32))), .val (.int (i2 &&& (255 : Int32))), .val (.int ((XT.ushr i2 (8 : Int32)) &&& (255 : Int32))), .val (.ref r_97), .val (.ref r_98), .val (.ref r_99), .val (.ref a101), .val (.int (1 : Int32))]) rfl ?_
              refine Go.aload (hb hby at_263) (pc' := 265) rfl rfl rfl ?_
              have f121 : St Z h112 r_97 d_97 kd_97 (mkS lE (i0 &&& (255 : Int32)) ((XT.ushr i0 (8 : Int32)) &&& (255 : Int32))) := ((((o97_0.keep K98 nin0 nin0).keep K99 nin0 nin0).keep KE104 nin0 nin0).keep K112 (ninS (Exa.ne (((o97_0.keep K98 nin0 nin0).keep K99 nin0 nin0).keep KE104 nin0 nin0).1 X105 (by decide)) nin0) (ninS (Ne.symm (Ar.ne_exa (((o97_0.keep K98 nin0 nin0).keep K99 nin0 nin0).keep KE104 nin0 nin0).2.2.2.1 X105 (wd_42 g))) nin0))
              have f122 : St Z h112 r_98 d_98 kd_98 (mkS lA (i1 &&& (255 : Int32)) ((XT.ushr i0 (8 : Int32)) &&& (255 : Int32))) := (((o98_0.keep K99 nin0 nin0).keep KE104 nin0 nin0).keep K112 (ninS (Exa.ne ((o98_0.keep K99 nin0 nin0).keep KE104 nin0 nin0).1 X105 (by decide)) nin0) (ninS (Ne.symm (Ar.ne_exa ((o98_0.keep K99 nin0 nin0).keep KE104 nin0 nin0).2.2.2.1 X105 (wd_42 g))) nin0))
              have f123 : Exa Z h112 a101 "com/example/kunci/kunci/TestOutcome" := (X105.keep K112)
              refine Go.callV (y0 := ⟨"com/example/kunci/kunci/TestOutcome", "isPassed", "()Z"⟩) (c_isPassed (l := l) (nw := nw) g h112 a101 r_97 d_97 kd_97 (mkS lE (i0 &&& (255 : Int32)) ((XT.ushr i0 (8 : Int32)) &&& (255 : Int32))) r_98 d_98 kd_98 (mkS lA (i1 &&& (255 : Int32)) ((XT.ushr i0 (8 : Int32)) &&& (255 : Int32))) o112_1 o112_2 f121 f122 (by omega)) hown (wd_54 g) (wd_55 g) (notFace_of_selects (wd_57 g)) (wd_57 g) (wd_56 g) f123 (wd_58 g) (wd_43 g) (by decide) (argsL := []) (lenOf pd_13 rfl) rfl (by rw [hml]; rfl) (W := 0) rfl (hb hby at_265) (pc' := 268) rfl (by decide) (by decide) (by decide) (by decide) all0 ?_
              rintro _ vm124 h124 ⟨rfl, K124⟩ C124
              have z124 := K124.1
              -- pc 268
              refine Go.iload (hb hby at_268) (pc' := 270) rfl rfl ?_
              refine Go.icmpN (hb hby at_270) (pc' := 273) rfl (fun z => z (by rw [mkS_bo blE blA (m255 _) (m255 _) (m255 _) (m255 _)]; exact bo_yes ⟨Classical.not_not.mp q227, Or.inl q233, Or.inr rfl⟩)) ?_
              refine Go.iconst (hb hby at_273) (pc' := 274) rfl (z := (1 : Int32)) rfl ?_
              refine Go.goto (hb hby at_274) (by decide) (pc' := 278) (by decide) ?_
              refine Go.retN (t := .boolean) hret (by simp) (hb hby at_278) (by decide) (by decide) ?_
              intro vmR CR
              exact ⟨(by first | rfl | (simp only [own_nar]; done) | (congr 2; done)), (((((((Keep.refl h []).trans K97 all0).trans K98 all0).trans K99 all0).trans KE104 all0).trans K112 (allS (by first | (left; simp; done) | (right; omega)) all0)).trans K124 all0)⟩
          · refine Go.iload (hb hby at_236) (pc' := 238) rfl rfl ?_
            refine Go.iload (hb hby at_238) (pc' := 240) rfl rfl ?_
            refine Go.icmp (hb hby at_240) (by decide) (pc' := 260) (by decide) (pc2 := 243) rfl (fun (q240 : ¬ (i0 &&& (255 : Int32)) = (i1 &&& (255 : Int32))) => ?_) (fun (q240 : ¬ (¬ (i0 &&& (255 : Int32)) = (i1 &&& (255 : Int32)))) => ?_)
            · refine Go.iconst (hb hby at_260) (pc' := 261) rfl (z := (0 : Int32)) rfl ?_
              refine Go.istore (hb hby at_261) (pc' := 263) rfl (L' := #[.val (.int i0), .val (.int i1), .val (.int i2), .val (.int i3), .val (.int lE), .val (.int lA), .val (.int lQ), .val (.int (0 : Int32)), .val (.int (1 : Int32)), .val (.int (0 : Int32)), .val (.int (i0 &&& (255 : Int32))), .val (.int ((XT.ushr i0 (8 : Int32)) &&& (255 : Int32))), .val (.int (i1 &&& (255 : Int32))), .val (.int ((XT.ushr i0 (8 : Int32)) &&& (255 : Int32))), .val (.int (i2 &&& (255 : Int32))), .val (.int ((XT.ushr i2 (8 : Int32)) &&& (255 : Int32))), .val (.ref r_97), .val (.ref r_98), .val (.ref r_99), .val (.ref a101), .val (.int (0 : Int32))]) rfl ?_
              refine Go.aload (hb hby at_263) (pc' := 265) rfl rfl rfl ?_
              have f125 : St Z h112 r_97 d_97 kd_97 (mkS lE (i0 &&& (255 : Int32)) ((XT.ushr i0 (8 : Int32)) &&& (255 : Int32))) := ((((o97_0.keep K98 nin0 nin0).keep K99 nin0 nin0).keep KE104 nin0 nin0).keep K112 (ninS (Exa.ne (((o97_0.keep K98 nin0 nin0).keep K99 nin0 nin0).keep KE104 nin0 nin0).1 X105 (by decide)) nin0) (ninS (Ne.symm (Ar.ne_exa (((o97_0.keep K98 nin0 nin0).keep K99 nin0 nin0).keep KE104 nin0 nin0).2.2.2.1 X105 (wd_42 g))) nin0))
              have f126 : St Z h112 r_98 d_98 kd_98 (mkS lA (i1 &&& (255 : Int32)) ((XT.ushr i0 (8 : Int32)) &&& (255 : Int32))) := (((o98_0.keep K99 nin0 nin0).keep KE104 nin0 nin0).keep K112 (ninS (Exa.ne ((o98_0.keep K99 nin0 nin0).keep KE104 nin0 nin0).1 X105 (by decide)) nin0) (ninS (Ne.symm (Ar.ne_exa ((o98_0.keep K99 nin0 nin0).keep KE104 nin0 nin0).2.2.2.1 X105 (wd_42 g))) nin0))
              have f127 : Exa Z h112 a101 "com/example/kunci/kunci/TestOutcome" := (X105.keep K112)
              refine Go.callV (y0 := ⟨"com/example/kunci/kunci/TestOutcome", "isPassed", "()Z"⟩) (c_isPassed (l := l) (nw := nw) g h112 a101 r_97 d_97 kd_97 (mkS lE (i0 &&& (255 : Int32)) ((XT.ushr i0 (8 : Int32)) &&& (255 : Int32))) r_98 d_98 kd_98 (mkS lA (i1 &&& (255 : Int32)) ((XT.ushr i0 (8 : Int32)) &&& (255 : Int32))) o112_1 o112_2 f125 f126 (by omega)) hown (wd_54 g) (wd_55 g) (notFace_of_selects (wd_57 g)) (wd_57 g) (wd_56 g) f127 (wd_58 g) (wd_43 g) (by decide) (argsL := []) (lenOf pd_13 rfl) rfl (by rw [hml]; rfl) (W := 0) rfl (hb hby at_265) (pc' := 268) rfl (by decide) (by decide) (by decide) (by decide) all0 ?_
              rintro _ vm128 h128 ⟨rfl, K128⟩ C128
              have z128 := K128.1
              -- pc 268
              refine Go.iload (hb hby at_268) (pc' := 270) rfl rfl ?_
              refine Go.icmpN (hb hby at_270) (pc' := 273) rfl (fun z => z (by rw [mkS_bo blE blA (m255 _) (m255 _) (m255 _) (m255 _)]; exact bo_no (fun z => z.2.1.elim q233 q240))) ?_
              refine Go.iconst (hb hby at_273) (pc' := 274) rfl (z := (1 : Int32)) rfl ?_
              refine Go.goto (hb hby at_274) (by decide) (pc' := 278) (by decide) ?_
              refine Go.retN (t := .boolean) hret (by simp) (hb hby at_278) (by decide) (by decide) ?_
              intro vmR CR
              exact ⟨(by first | rfl | (simp only [own_nar]; done) | (congr 2; done)), (((((((Keep.refl h []).trans K97 all0).trans K98 all0).trans K99 all0).trans KE104 all0).trans K112 (allS (by first | (left; simp; done) | (right; omega)) all0)).trans K128 all0)⟩
            · refine Go.iload (hb hby at_243) (pc' := 245) rfl rfl ?_
              refine Go.iconst (hb hby at_245) (pc' := 246) rfl (z := (2 : Int32)) rfl ?_
              refine Go.icmp (hb hby at_246) (by decide) (pc' := 256) (by decide) (pc2 := 249) rfl (fun (q246 : lE < (2 : Int32)) => ?_) (fun (q246 : ¬ (lE < (2 : Int32))) => ?_)
              · refine Go.iconst (hb hby at_256) (pc' := 257) rfl (z := (1 : Int32)) rfl ?_
                refine Go.goto (hb hby at_257) (by decide) (pc' := 261) (by decide) ?_
                refine Go.istore (hb hby at_261) (pc' := 263) rfl (L' := #[.val (.int i0), .val (.int i1), .val (.int i2), .val (.int i3), .val (.int lE), .val (.int lA), .val (.int lQ), .val (.int (0 : Int32)), .val (.int (1 : Int32)), .val (.int (0 : Int32)), .val (.int (i0 &&& (255 : Int32))), .val (.int ((XT.ushr i0 (8 : Int32)) &&& (255 : Int32))), .val (.int (i1 &&& (255 : Int32))), .val (.int ((XT.ushr i0 (8 : Int32)) &&& (255 : Int32))), .val (.int (i2 &&& (255 : Int32))), .val (.int ((XT.ushr i2 (8 : Int32)) &&& (255 : Int32))), .val (.ref r_97), .val (.ref r_98), .val (.ref r_99), .val (.ref a101), .val (.int (1 : Int32))]) rfl ?_
                refine Go.aload (hb hby at_263) (pc' := 265) rfl rfl rfl ?_
                have f129 : St Z h112 r_97 d_97 kd_97 (mkS lE (i0 &&& (255 : Int32)) ((XT.ushr i0 (8 : Int32)) &&& (255 : Int32))) := ((((o97_0.keep K98 nin0 nin0).keep K99 nin0 nin0).keep KE104 nin0 nin0).keep K112 (ninS (Exa.ne (((o97_0.keep K98 nin0 nin0).keep K99 nin0 nin0).keep KE104 nin0 nin0).1 X105 (by decide)) nin0) (ninS (Ne.symm (Ar.ne_exa (((o97_0.keep K98 nin0 nin0).keep K99 nin0 nin0).keep KE104 nin0 nin0).2.2.2.1 X105 (wd_42 g))) nin0))
                have f130 : St Z h112 r_98 d_98 kd_98 (mkS lA (i1 &&& (255 : Int32)) ((XT.ushr i0 (8 : Int32)) &&& (255 : Int32))) := (((o98_0.keep K99 nin0 nin0).keep KE104 nin0 nin0).keep K112 (ninS (Exa.ne ((o98_0.keep K99 nin0 nin0).keep KE104 nin0 nin0).1 X105 (by decide)) nin0) (ninS (Ne.symm (Ar.ne_exa ((o98_0.keep K99 nin0 nin0).keep KE104 nin0 nin0).2.2.2.1 X105 (wd_42 g))) nin0))
                have f131 : Exa Z h112 a101 "com/example/kunci/kunci/TestOutcome" := (X105.keep K112)
                refine Go.callV (y0 := ⟨"com/example/kunci/kunci/TestOutcome", "isPassed", "()Z"⟩) (c_isPassed (l := l) (nw := nw) g h112 a101 r_97 d_97 kd_97 (mkS lE (i0 &&& (255 : Int32)) ((XT.ushr i0 (8 : Int32)) &&& (255 : Int32))) r_98 d_98 kd_98 (mkS lA (i1 &&& (255 : Int32)) ((XT.ushr i0 (8 : Int32)) &&& (255 : Int32))) o112_1 o112_2 f129 f130 (by omega)) hown (wd_54 g) (wd_55 g) (notFace_of_selects (wd_57 g)) (wd_57 g) (wd_56 g) f131 (wd_58 g) (wd_43 g) (by decide) (argsL := []) (lenOf pd_13 rfl) rfl (by rw [hml]; rfl) (W := 0) rfl (hb hby at_265) (pc' := 268) rfl (by decide) (by decide) (by decide) (by decide) all0 ?_
                rintro _ vm132 h132 ⟨rfl, K132⟩ C132
                have z132 := K132.1
                -- pc 268
                refine Go.iload (hb hby at_268) (pc' := 270) rfl rfl ?_
                refine Go.icmpN (hb hby at_270) (pc' := 273) rfl (fun z => z (by rw [mkS_bo blE blA (m255 _) (m255 _) (m255 _) (m255 _)]; exact bo_yes ⟨Classical.not_not.mp q227, Or.inr (Classical.not_not.mp q240), Or.inl q246⟩)) ?_
                refine Go.iconst (hb hby at_273) (pc' := 274) rfl (z := (1 : Int32)) rfl ?_
                refine Go.goto (hb hby at_274) (by decide) (pc' := 278) (by decide) ?_
                refine Go.retN (t := .boolean) hret (by simp) (hb hby at_278) (by decide) (by decide) ?_
                intro vmR CR
                exact ⟨(by first | rfl | (simp only [own_nar]; done) | (congr 2; done)), (((((((Keep.refl h []).trans K97 all0).trans K98 all0).trans K99 all0).trans KE104 all0).trans K112 (allS (by first | (left; simp; done) | (right; omega)) all0)).trans K132 all0)⟩
              · refine Go.iload (hb hby at_249) (pc' := 251) rfl rfl ?_
                refine Go.iload (hb hby at_251) (pc' := 253) rfl rfl ?_
                refine Go.icmpN (hb hby at_253) (pc' := 256) rfl (fun q => q rfl) ?_
                refine Go.iconst (hb hby at_256) (pc' := 257) rfl (z := (1 : Int32)) rfl ?_
                refine Go.goto (hb hby at_257) (by decide) (pc' := 261) (by decide) ?_
                refine Go.istore (hb hby at_261) (pc' := 263) rfl (L' := #[.val (.int i0), .val (.int i1), .val (.int i2), .val (.int i3), .val (.int lE), .val (.int lA), .val (.int lQ), .val (.int (0 : Int32)), .val (.int (1 : Int32)), .val (.int (0 : Int32)), .val (.int (i0 &&& (255 : Int32))), .val (.int ((XT.ushr i0 (8 : Int32)) &&& (255 : Int32))), .val (.int (i1 &&& (255 : Int32))), .val (.int ((XT.ushr i0 (8 : Int32)) &&& (255 : Int32))), .val (.int (i2 &&& (255 : Int32))), .val (.int ((XT.ushr i2 (8 : Int32)) &&& (255 : Int32))), .val (.ref r_97), .val (.ref r_98), .val (.ref r_99), .val (.ref a101), .val (.int (1 : Int32))]) rfl ?_
                refine Go.aload (hb hby at_263) (pc' := 265) rfl rfl rfl ?_
                have f133 : St Z h112 r_97 d_97 kd_97 (mkS lE (i0 &&& (255 : Int32)) ((XT.ushr i0 (8 : Int32)) &&& (255 : Int32))) := ((((o97_0.keep K98 nin0 nin0).keep K99 nin0 nin0).keep KE104 nin0 nin0).keep K112 (ninS (Exa.ne (((o97_0.keep K98 nin0 nin0).keep K99 nin0 nin0).keep KE104 nin0 nin0).1 X105 (by decide)) nin0) (ninS (Ne.symm (Ar.ne_exa (((o97_0.keep K98 nin0 nin0).keep K99 nin0 nin0).keep KE104 nin0 nin0).2.2.2.1 X105 (wd_42 g))) nin0))
                have f134 : St Z h112 r_98 d_98 kd_98 (mkS lA (i1 &&& (255 : Int32)) ((XT.ushr i0 (8 : Int32)) &&& (255 : Int32))) := (((o98_0.keep K99 nin0 nin0).keep KE104 nin0 nin0).keep K112 (ninS (Exa.ne ((o98_0.keep K99 nin0 nin0).keep KE104 nin0 nin0).1 X105 (by decide)) nin0) (ninS (Ne.symm (Ar.ne_exa ((o98_0.keep K99 nin0 nin0).keep KE104 nin0 nin0).2.2.2.1 X105 (wd_42 g))) nin0))
                have f135 : Exa Z h112 a101 "com/example/kunci/kunci/TestOutcome" := (X105.keep K112)
                refine Go.callV (y0 := ⟨"com/example/kunci/kunci/TestOutcome", "isPassed", "()Z"⟩) (c_isPassed (l := l) (nw := nw) g h112 a101 r_97 d_97 kd_97 (mkS lE (i0 &&& (255 : Int32)) ((XT.ushr i0 (8 : Int32)) &&& (255 : Int32))) r_98 d_98 kd_98 (mkS lA (i1 &&& (255 : Int32)) ((XT.ushr i0 (8 : Int32)) &&& (255 : Int32))) o112_1 o112_2 f133 f134 (by omega)) hown (wd_54 g) (wd_55 g) (notFace_of_selects (wd_57 g)) (wd_57 g) (wd_56 g) f135 (wd_58 g) (wd_43 g) (by decide) (argsL := []) (lenOf pd_13 rfl) rfl (by rw [hml]; rfl) (W := 0) rfl (hb hby at_265) (pc' := 268) rfl (by decide) (by decide) (by decide) (by decide) all0 ?_
                rintro _ vm136 h136 ⟨rfl, K136⟩ C136
                have z136 := K136.1
                -- pc 268
                refine Go.iload (hb hby at_268) (pc' := 270) rfl rfl ?_
                refine Go.icmpN (hb hby at_270) (pc' := 273) rfl (fun z => z (by rw [mkS_bo blE blA (m255 _) (m255 _) (m255 _) (m255 _)]; exact bo_yes ⟨Classical.not_not.mp q227, Or.inr (Classical.not_not.mp q240), Or.inr rfl⟩)) ?_
                refine Go.iconst (hb hby at_273) (pc' := 274) rfl (z := (1 : Int32)) rfl ?_
                refine Go.goto (hb hby at_274) (by decide) (pc' := 278) (by decide) ?_
                refine Go.retN (t := .boolean) hret (by simp) (hb hby at_278) (by decide) (by decide) ?_
                intro vmR CR
                exact ⟨(by first | rfl | (simp only [own_nar]; done) | (congr 2; done)), (((((((Keep.refl h []).trans K97 all0).trans K98 all0).trans K99 all0).trans KE104 all0).trans K112 (allS (by first | (left; simp; done) | (right; omega)) all0)).trans K136 all0)⟩
      · refine Go.iconst (hb hby at_62) (pc' := 63) rfl (z := (1 : Int32)) rfl ?_
        refine Go.goto (hb hby at_63) (by decide) (pc' := 67) (by decide) ?_
        refine Go.istore (hb hby at_67) (pc' := 69) rfl (L' := #[.val (.int i0), .val (.int i1), .val (.int i2), .val (.int i3), .val (.int lE), .val (.int lA), .val (.int lQ), .val (.int (0 : Int32)), .val (.int (1 : Int32)), .val (.int (1 : Int32)), .unset, .unset, .unset, .unset, .unset, .unset, .unset, .unset, .unset, .unset, .unset]) rfl ?_
        refine Go.iloadN (hb hby at_69) (pc' := 70) rfl rfl ?_
        refine Go.sipush (hb hby at_70) (pc' := 73) rfl (z := (255 : Int32)) rfl ?_
        refine Go.iand (hb hby at_73) (pc' := 74) rfl ?_
        refine Go.i2c (hb hby at_74) (pc' := 75) rfl ?_
        rw [nch (m255 i0)]
        refine Go.istore (hb hby at_75) (pc' := 77) rfl (L' := #[.val (.int i0), .val (.int i1), .val (.int i2), .val (.int i3), .val (.int lE), .val (.int lA), .val (.int lQ), .val (.int (0 : Int32)), .val (.int (1 : Int32)), .val (.int (1 : Int32)), .val (.int (i0 &&& (255 : Int32))), .unset, .unset, .unset, .unset, .unset, .unset, .unset, .unset, .unset, .unset]) rfl ?_
        refine Go.iloadN (hb hby at_77) (pc' := 78) rfl rfl ?_
        refine Go.bipush (hb hby at_78) (pc' := 80) rfl (z := (8 : Int32)) rfl ?_
        refine Go.iushr (hb hby at_80) (pc' := 81) rfl ?_
        refine Go.sipush (hb hby at_81) (pc' := 84) rfl (z := (255 : Int32)) rfl ?_
        refine Go.iand (hb hby at_84) (pc' := 85) rfl ?_
        refine Go.i2c (hb hby at_85) (pc' := 86) rfl ?_
        rw [nch (m255 (XT.ushr i0 (8 : Int32)))]
        refine Go.istore (hb hby at_86) (pc' := 88) rfl (L' := #[.val (.int i0), .val (.int i1), .val (.int i2), .val (.int i3), .val (.int lE), .val (.int lA), .val (.int lQ), .val (.int (0 : Int32)), .val (.int (1 : Int32)), .val (.int (1 : Int32)), .val (.int (i0 &&& (255 : Int32))), .val (.int ((XT.ushr i0 (8 : Int32)) &&& (255 : Int32))), .unset, .unset, .unset, .unset, .unset, .unset, .unset, .unset, .unset]) rfl ?_
        refine Go.iload (hb hby at_88) (pc' := 90) rfl rfl ?_
        refine Go.ifY (hb hby at_90) (by decide) (pc' := 98) (by decide) (show (0 : Int32) = (0 : Int32) from by decide) ?_
        refine Go.iloadN (hb hby at_98) (pc' := 99) rfl rfl ?_
        refine Go.sipush (hb hby at_99) (pc' := 102) rfl (z := (255 : Int32)) rfl ?_
        refine Go.iand (hb hby at_102) (pc' := 103) rfl ?_
        refine Go.i2c (hb hby at_103) (pc' := 104) rfl ?_
        rw [nch (m255 i1)]
        refine Go.istore (hb hby at_104) (pc' := 106) rfl (L' := #[.val (.int i0), .val (.int i1), .val (.int i2), .val (.int i3), .val (.int lE), .val (.int lA), .val (.int lQ), .val (.int (0 : Int32)), .val (.int (1 : Int32)), .val (.int (1 : Int32)), .val (.int (i0 &&& (255 : Int32))), .val (.int ((XT.ushr i0 (8 : Int32)) &&& (255 : Int32))), .val (.int (i1 &&& (255 : Int32))), .unset, .unset, .unset, .unset, .unset, .unset, .unset, .unset]) rfl ?_
        refine Go.iload (hb hby at_106) (pc' := 108) rfl rfl ?_
        refine Go.ifN (hb hby at_108) (pc' := 111) rfl (show ¬ ((1 : Int32) = (0 : Int32)) from by decide) ?_
        refine Go.iload (hb hby at_111) (pc' := 113) rfl rfl ?_
        refine Go.goto (hb hby at_113) (by decide) (pc' := 125) (by decide) ?_
        refine Go.istore (hb hby at_125) (pc' := 127) rfl (L' := #[.val (.int i0), .val (.int i1), .val (.int i2), .val (.int i3), .val (.int lE), .val (.int lA), .val (.int lQ), .val (.int (0 : Int32)), .val (.int (1 : Int32)), .val (.int (1 : Int32)), .val (.int (i0 &&& (255 : Int32))), .val (.int ((XT.ushr i0 (8 : Int32)) &&& (255 : Int32))), .val (.int (i1 &&& (255 : Int32))), .val (.int ((XT.ushr i0 (8 : Int32)) &&& (255 : Int32))), .unset, .unset, .unset, .unset, .unset, .unset, .unset]) rfl ?_
        refine Go.iload (hb hby at_127) (pc' := 129) rfl rfl ?_
        refine Go.ifN (hb hby at_129) (pc' := 132) rfl (show ¬ ((1 : Int32) = (0 : Int32)) from by decide) ?_
        refine Go.iload (hb hby at_132) (pc' := 134) rfl rfl ?_
        refine Go.goto (hb hby at_134) (by decide) (pc' := 143) (by decide) ?_
        refine Go.istore (hb hby at_143) (pc' := 145) rfl (L' := #[.val (.int i0), .val (.int i1), .val (.int i2), .val (.int i3), .val (.int lE), .val (.int lA), .val (.int lQ), .val (.int (0 : Int32)), .val (.int (1 : Int32)), .val (.int (1 : Int32)), .val (.int (i0 &&& (255 : Int32))), .val (.int ((XT.ushr i0 (8 : Int32)) &&& (255 : Int32))), .val (.int (i1 &&& (255 : Int32))), .val (.int ((XT.ushr i0 (8 : Int32)) &&& (255 : Int32))), .val (.int (i0 &&& (255 : Int32))), .unset, .unset, .unset, .unset, .unset, .unset]) rfl ?_
        refine Go.iload (hb hby at_145) (pc' := 147) rfl rfl ?_
        refine Go.ifN (hb hby at_147) (pc' := 150) rfl (show ¬ ((1 : Int32) = (0 : Int32)) from by decide) ?_
        refine Go.iload (hb hby at_150) (pc' := 152) rfl rfl ?_
        refine Go.goto (hb hby at_152) (by decide) (pc' := 164) (by decide) ?_
        refine Go.istore (hb hby at_164) (pc' := 166) rfl (L' := #[.val (.int i0), .val (.int i1), .val (.int i2), .val (.int i3), .val (.int lE), .val (.int lA), .val (.int lQ), .val (.int (0 : Int32)), .val (.int (1 : Int32)), .val (.int (1 : Int32)), .val (.int (i0 &&& (255 : Int32))), .val (.int ((XT.ushr i0 (8 : Int32)) &&& (255 : Int32))), .val (.int (i1 &&& (255 : Int32))), .val (.int ((XT.ushr i0 (8 : Int32)) &&& (255 : Int32))), .val (.int (i0 &&& (255 : Int32))), .val (.int ((XT.ushr i0 (8 : Int32)) &&& (255 : Int32))), .unset, .unset, .unset, .unset, .unset]) rfl ?_
        refine Go.iload (hb hby at_166) (pc' := 168) rfl rfl ?_
        refine Go.ifN (hb hby at_168) (pc' := 171) rfl (show ¬ ((1 : Int32) = (0 : Int32)) from by decide) ?_
        refine Go.iload (hb hby at_171) (pc' := 173) rfl rfl ?_
        refine Go.istore (hb hby at_173) (pc' := 175) rfl (L' := #[.val (.int i0), .val (.int i1), .val (.int i2), .val (.int i3), .val (.int lE), .val (.int lA), .val (.int lE), .val (.int (0 : Int32)), .val (.int (1 : Int32)), .val (.int (1 : Int32)), .val (.int (i0 &&& (255 : Int32))), .val (.int ((XT.ushr i0 (8 : Int32)) &&& (255 : Int32))), .val (.int (i1 &&& (255 : Int32))), .val (.int ((XT.ushr i0 (8 : Int32)) &&& (255 : Int32))), .val (.int (i0 &&& (255 : Int32))), .val (.int ((XT.ushr i0 (8 : Int32)) &&& (255 : Int32))), .unset, .unset, .unset, .unset, .unset]) rfl ?_
        refine Go.iload (hb hby at_175) (pc' := 177) rfl rfl ?_
        refine Go.iload (hb hby at_177) (pc' := 179) rfl rfl ?_
        refine Go.iload (hb hby at_179) (pc' := 181) rfl rfl ?_
        refine Go.callS (c_make (l := l) (nw := nw) g hnw h lE (i0 &&& (255 : Int32)) ((XT.ushr i0 (8 : Int32)) &&& (255 : Int32)) (m255 _) (m255 _) (by omega)) hown (wd_0 g) (wd_1 g) (wd_3 g) (wd_2 g) (by decide) (argsL := [(.int lE), (.int (i0 &&& (255 : Int32))), (.int ((XT.ushr i0 (8 : Int32)) &&& (255 : Int32)))]) (lenOf pd_11 rfl) rfl (by rw [hml]; rfl) (W := 0) rfl (hb hby at_181) (pc' := 184) rfl (by decide) (by decide) (by decide) (by decide) all0 ?_
        rintro _ vm137 h137 ⟨r_137, d_137, kd_137, rfl, K137, o137_0⟩ C137
        have z137 := K137.1
        have yo137_0 := ltN o137_0.lt; have yo137_0' := ltN o137_0.ltb
        -- pc 184
        refine Go.astore (hb hby at_184) (pc' := 186) rfl rfl (L' := #[.val (.int i0), .val (.int i1), .val (.int i2), .val (.int i3), .val (.int lE), .val (.int lA), .val (.int lE), .val (.int (0 : Int32)), .val (.int (1 : Int32)), .val (.int (1 : Int32)), .val (.int (i0 &&& (255 : Int32))), .val (.int ((XT.ushr i0 (8 : Int32)) &&& (255 : Int32))), .val (.int (i1 &&& (255 : Int32))), .val (.int ((XT.ushr i0 (8 : Int32)) &&& (255 : Int32))), .val (.int (i0 &&& (255 : Int32))), .val (.int ((XT.ushr i0 (8 : Int32)) &&& (255 : Int32))), .val (.ref r_137), .unset, .unset, .unset, .unset]) rfl ?_
        refine Go.iload (hb hby at_186) (pc' := 188) rfl rfl ?_
        refine Go.iload (hb hby at_188) (pc' := 190) rfl rfl ?_
        refine Go.iload (hb hby at_190) (pc' := 192) rfl rfl ?_
        refine Go.callS (c_make (l := l) (nw := nw) g hnw h137 lA (i1 &&& (255 : Int32)) ((XT.ushr i0 (8 : Int32)) &&& (255 : Int32)) (m255 _) (m255 _) (by omega)) hown (wd_0 g) (wd_1 g) (wd_3 g) (wd_2 g) (by decide) (argsL := [(.int lA), (.int (i1 &&& (255 : Int32))), (.int ((XT.ushr i0 (8 : Int32)) &&& (255 : Int32)))]) (lenOf pd_11 rfl) rfl (by rw [hml]; rfl) (W := 0) rfl (hb hby at_192) (pc' := 195) rfl (by decide) (by decide) (by decide) (by decide) all0 ?_
        rintro _ vm138 h138 ⟨r_138, d_138, kd_138, rfl, K138, o138_0⟩ C138
        have z138 := K138.1
        have yo138_0 := ltN o138_0.lt; have yo138_0' := ltN o138_0.ltb
        -- pc 195
        refine Go.astore (hb hby at_195) (pc' := 197) rfl rfl (L' := #[.val (.int i0), .val (.int i1), .val (.int i2), .val (.int i3), .val (.int lE), .val (.int lA), .val (.int lE), .val (.int (0 : Int32)), .val (.int (1 : Int32)), .val (.int (1 : Int32)), .val (.int (i0 &&& (255 : Int32))), .val (.int ((XT.ushr i0 (8 : Int32)) &&& (255 : Int32))), .val (.int (i1 &&& (255 : Int32))), .val (.int ((XT.ushr i0 (8 : Int32)) &&& (255 : Int32))), .val (.int (i0 &&& (255 : Int32))), .val (.int ((XT.ushr i0 (8 : Int32)) &&& (255 : Int32))), .val (.ref r_137), .val (.ref r_138), .unset, .unset, .unset]) rfl ?_
        refine Go.iload (hb hby at_197) (pc' := 199) rfl rfl ?_
        refine Go.iload (hb hby at_199) (pc' := 201) rfl rfl ?_
        refine Go.iload (hb hby at_201) (pc' := 203) rfl rfl ?_
        refine Go.callS (c_make (l := l) (nw := nw) g hnw h138 lE (i0 &&& (255 : Int32)) ((XT.ushr i0 (8 : Int32)) &&& (255 : Int32)) (m255 _) (m255 _) (by omega)) hown (wd_0 g) (wd_1 g) (wd_3 g) (wd_2 g) (by decide) (argsL := [(.int lE), (.int (i0 &&& (255 : Int32))), (.int ((XT.ushr i0 (8 : Int32)) &&& (255 : Int32)))]) (lenOf pd_11 rfl) rfl (by rw [hml]; rfl) (W := 0) rfl (hb hby at_203) (pc' := 206) rfl (by decide) (by decide) (by decide) (by decide) all0 ?_
        rintro _ vm139 h139 ⟨r_139, d_139, kd_139, rfl, K139, o139_0⟩ C139
        have z139 := K139.1
        have yo139_0 := ltN o139_0.lt; have yo139_0' := ltN o139_0.ltb
        -- pc 206
        refine Go.astore (hb hby at_206) (pc' := 208) rfl rfl (L' := #[.val (.int i0), .val (.int i1), .val (.int i2), .val (.int i3), .val (.int lE), .val (.int lA), .val (.int lE), .val (.int (0 : Int32)), .val (.int (1 : Int32)), .val (.int (1 : Int32)), .val (.int (i0 &&& (255 : Int32))), .val (.int ((XT.ushr i0 (8 : Int32)) &&& (255 : Int32))), .val (.int (i1 &&& (255 : Int32))), .val (.int ((XT.ushr i0 (8 : Int32)) &&& (255 : Int32))), .val (.int (i0 &&& (255 : Int32))), .val (.int ((XT.ushr i0 (8 : Int32)) &&& (255 : Int32))), .val (.ref r_137), .val (.ref r_138), .val (.ref r_139), .unset, .unset]) rfl ?_
        refine Go.newO hown (wd_41 g) (wd_42 g) (wd_43 g) (hb hby at_208) (pc' := 211) rfl (by decide) (by decide) ?_
        intro h140 a141 g142 l143 E144 X145 D146 S147 C148
        have KE144 := Keep.ofExt E144; have zE144 := E144.1
        have f149 : Fld Z h140 a141 "com/example/kunci/kunci/TestOutcome" "question" "Ljava/lang/String;" .null := D146 (Or.inr (wd_49 g)) (ty := (.object "java/lang/String")) (by decide)
        have f150 : Fld Z h140 a141 "com/example/kunci/kunci/TestOutcome" "expected" "Ljava/lang/String;" .null := D146 (Or.inr (wd_51 g)) (ty := (.object "java/lang/String")) (by decide)
        have f151 : Fld Z h140 a141 "com/example/kunci/kunci/TestOutcome" "answer" "Ljava/lang/String;" .null := D146 (Or.inr (wd_53 g)) (ty := (.object "java/lang/String")) (by decide)
        refine Go.dup (hb hby at_211) (pc' := 212) rfl rfl ?_
        refine Go.aload (hb hby at_212) (pc' := 214) rfl rfl rfl ?_
        refine Go.aload (hb hby at_214) (pc' := 216) rfl rfl rfl ?_
        refine Go.aload (hb hby at_216) (pc' := 218) rfl rfl rfl ?_
        refine Go.callC (c_outcome (l := l) (nw := nw) g h140 a141 (.ref r_139) (.ref r_137) (.ref r_138) rfl rfl rfl (by first | omega | assumption | decide) X145 f149 f150 f151 (by omega)) hown rfl rfl (wd_44 g) (wd_45 g) (wd_46 g) (wd_43 g) (by decide) (argsL := [(.ref r_139), (.ref r_137), (.ref r_138)]) (lenOf pd_12 rfl) rfl (by rw [hml]; rfl) (W := 1) rfl (hb hby at_218) (pc' := 221) rfl (by decide) (by decide) (by decide) (by decide) all0 ?_
        rintro _ vm152 h152 ⟨rfl, K152, o152_0, o152_1, o152_2⟩ C152
        have z152 := K152.1
        -- pc 221
        refine Go.astore (hb hby at_221) (pc' := 223) rfl rfl (L' := #[.val (.int i0), .val (.int i1), .val (.int i2), .val (.int i3), .val (.int lE), .val (.int lA), .val (.int lE), .val (.int (0 : Int32)), .val (.int (1 : Int32)), .val (.int (1 : Int32)), .val (.int (i0 &&& (255 : Int32))), .val (.int ((XT.ushr i0 (8 : Int32)) &&& (255 : Int32))), .val (.int (i1 &&& (255 : Int32))), .val (.int ((XT.ushr i0 (8 : Int32)) &&& (255 : Int32))), .val (.int (i0 &&& (255 : Int32))), .val (.int ((XT.ushr i0 (8 : Int32)) &&& (255 : Int32))), .val (.ref r_137), .val (.ref r_138), .val (.ref r_139), .val (.ref a141), .unset]) rfl ?_
        refine Go.iload (hb hby at_223) (pc' := 225) rfl rfl ?_
        refine Go.iload (hb hby at_225) (pc' := 227) rfl rfl ?_
        refine Go.icmp (hb hby at_227) (by decide) (pc' := 260) (by decide) (pc2 := 230) rfl (fun (q227 : ¬ lE = lA) => ?_) (fun (q227 : ¬ (¬ lE = lA)) => ?_)
        · refine Go.iconst (hb hby at_260) (pc' := 261) rfl (z := (0 : Int32)) rfl ?_
          refine Go.istore (hb hby at_261) (pc' := 263) rfl (L' := #[.val (.int i0), .val (.int i1), .val (.int i2), .val (.int i3), .val (.int lE), .val (.int lA), .val (.int lE), .val (.int (0 : Int32)), .val (.int (1 : Int32)), .val (.int (1 : Int32)), .val (.int (i0 &&& (255 : Int32))), .val (.int ((XT.ushr i0 (8 : Int32)) &&& (255 : Int32))), .val (.int (i1 &&& (255 : Int32))), .val (.int ((XT.ushr i0 (8 : Int32)) &&& (255 : Int32))), .val (.int (i0 &&& (255 : Int32))), .val (.int ((XT.ushr i0 (8 : Int32)) &&& (255 : Int32))), .val (.ref r_137), .val (.ref r_138), .val (.ref r_139), .val (.ref a141), .val (.int (0 : Int32))]) rfl ?_
          refine Go.aload (hb hby at_263) (pc' := 265) rfl rfl rfl ?_
          have f153 : St Z h152 r_137 d_137 kd_137 (mkS lE (i0 &&& (255 : Int32)) ((XT.ushr i0 (8 : Int32)) &&& (255 : Int32))) := ((((o137_0.keep K138 nin0 nin0).keep K139 nin0 nin0).keep KE144 nin0 nin0).keep K152 (ninS (Exa.ne (((o137_0.keep K138 nin0 nin0).keep K139 nin0 nin0).keep KE144 nin0 nin0).1 X145 (by decide)) nin0) (ninS (Ne.symm (Ar.ne_exa (((o137_0.keep K138 nin0 nin0).keep K139 nin0 nin0).keep KE144 nin0 nin0).2.2.2.1 X145 (wd_42 g))) nin0))
          have f154 : St Z h152 r_138 d_138 kd_138 (mkS lA (i1 &&& (255 : Int32)) ((XT.ushr i0 (8 : Int32)) &&& (255 : Int32))) := (((o138_0.keep K139 nin0 nin0).keep KE144 nin0 nin0).keep K152 (ninS (Exa.ne ((o138_0.keep K139 nin0 nin0).keep KE144 nin0 nin0).1 X145 (by decide)) nin0) (ninS (Ne.symm (Ar.ne_exa ((o138_0.keep K139 nin0 nin0).keep KE144 nin0 nin0).2.2.2.1 X145 (wd_42 g))) nin0))
          have f155 : Exa Z h152 a141 "com/example/kunci/kunci/TestOutcome" := (X145.keep K152)
          refine Go.callV (y0 := ⟨"com/example/kunci/kunci/TestOutcome", "isPassed", "()Z"⟩) (c_isPassed (l := l) (nw := nw) g h152 a141 r_137 d_137 kd_137 (mkS lE (i0 &&& (255 : Int32)) ((XT.ushr i0 (8 : Int32)) &&& (255 : Int32))) r_138 d_138 kd_138 (mkS lA (i1 &&& (255 : Int32)) ((XT.ushr i0 (8 : Int32)) &&& (255 : Int32))) o152_1 o152_2 f153 f154 (by omega)) hown (wd_54 g) (wd_55 g) (notFace_of_selects (wd_57 g)) (wd_57 g) (wd_56 g) f155 (wd_58 g) (wd_43 g) (by decide) (argsL := []) (lenOf pd_13 rfl) rfl (by rw [hml]; rfl) (W := 0) rfl (hb hby at_265) (pc' := 268) rfl (by decide) (by decide) (by decide) (by decide) all0 ?_
          rintro _ vm156 h156 ⟨rfl, K156⟩ C156
          have z156 := K156.1
          -- pc 268
          refine Go.iload (hb hby at_268) (pc' := 270) rfl rfl ?_
          refine Go.icmpN (hb hby at_270) (pc' := 273) rfl (fun z => z (by rw [mkS_bo blE blA (m255 _) (m255 _) (m255 _) (m255 _)]; exact bo_no (fun z => q227 z.1))) ?_
          refine Go.iconst (hb hby at_273) (pc' := 274) rfl (z := (1 : Int32)) rfl ?_
          refine Go.goto (hb hby at_274) (by decide) (pc' := 278) (by decide) ?_
          refine Go.retN (t := .boolean) hret (by simp) (hb hby at_278) (by decide) (by decide) ?_
          intro vmR CR
          exact ⟨(by first | rfl | (simp only [own_nar]; done) | (congr 2; done)), (((((((Keep.refl h []).trans K137 all0).trans K138 all0).trans K139 all0).trans KE144 all0).trans K152 (allS (by first | (left; simp; done) | (right; omega)) all0)).trans K156 all0)⟩
        · refine Go.iload (hb hby at_230) (pc' := 232) rfl rfl ?_
          refine Go.iconst (hb hby at_232) (pc' := 233) rfl (z := (1 : Int32)) rfl ?_
          refine Go.icmp (hb hby at_233) (by decide) (pc' := 243) (by decide) (pc2 := 236) rfl (fun (q233 : lE < (1 : Int32)) => ?_) (fun (q233 : ¬ (lE < (1 : Int32))) => ?_)
          · refine Go.iload (hb hby at_243) (pc' := 245) rfl rfl ?_
            refine Go.iconst (hb hby at_245) (pc' := 246) rfl (z := (2 : Int32)) rfl ?_
            refine Go.icmp (hb hby at_246) (by decide) (pc' := 256) (by decide) (pc2 := 249) rfl (fun (q246 : lE < (2 : Int32)) => ?_) (fun (q246 : ¬ (lE < (2 : Int32))) => ?_)
            · refine Go.iconst (hb hby at_256) (pc' := 257) rfl (z := (1 : Int32)) rfl ?_
              refine Go.goto (hb hby at_257) (by decide) (pc' := 261) (by decide) ?_
              refine Go.istore (hb hby at_261) (pc' := 263) rfl (L' := #[.val (.int i0), .val (.int i1), .val (.int i2), .val (.int i3), .val (.int lE), .val (.int lA), .val (.int lE), .val (.int (0 : Int32)), .val (.int (1 : Int32)), .val (.int (1 : Int32)), .val (.int (i0 &&& (255 : Int32))), .val (.int ((XT.ushr i0 (8 : Int32)) &&& (255 : Int32))), .val (.int (i1 &&& (255 : Int32))), .val (.int ((XT.ushr i0 (8 : Int32)) &&& (255 : Int32))), .val (.int (i0 &&& (255 : Int32))), .val (.int ((XT.ushr i0 (8 : Int32)) &&& (255 : Int32))), .val (.ref r_137), .val (.ref r_138), .val (.ref r_139), .val (.ref a141), .val (.int (1 : Int32))]) rfl ?_
              refine Go.aload (hb hby at_263) (pc' := 265) rfl rfl rfl ?_
              have f157 : St Z h152 r_137 d_137 kd_137 (mkS lE (i0 &&& (255 : Int32)) ((XT.ushr i0 (8 : Int32)) &&& (255 : Int32))) := ((((o137_0.keep K138 nin0 nin0).keep K139 nin0 nin0).keep KE144 nin0 nin0).keep K152 (ninS (Exa.ne (((o137_0.keep K138 nin0 nin0).keep K139 nin0 nin0).keep KE144 nin0 nin0).1 X145 (by decide)) nin0) (ninS (Ne.symm (Ar.ne_exa (((o137_0.keep K138 nin0 nin0).keep K139 nin0 nin0).keep KE144 nin0 nin0).2.2.2.1 X145 (wd_42 g))) nin0))
              have f158 : St Z h152 r_138 d_138 kd_138 (mkS lA (i1 &&& (255 : Int32)) ((XT.ushr i0 (8 : Int32)) &&& (255 : Int32))) := (((o138_0.keep K139 nin0 nin0).keep KE144 nin0 nin0).keep K152 (ninS (Exa.ne ((o138_0.keep K139 nin0 nin0).keep KE144 nin0 nin0).1 X145 (by decide)) nin0) (ninS (Ne.symm (Ar.ne_exa ((o138_0.keep K139 nin0 nin0).keep KE144 nin0 nin0).2.2.2.1 X145 (wd_42 g))) nin0))
              have f159 : Exa Z h152 a141 "com/example/kunci/kunci/TestOutcome" := (X145.keep K152)
              refine Go.callV (y0 := ⟨"com/example/kunci/kunci/TestOutcome", "isPassed", "()Z"⟩) (c_isPassed (l := l) (nw := nw) g h152 a141 r_137 d_137 kd_137 (mkS lE (i0 &&& (255 : Int32)) ((XT.ushr i0 (8 : Int32)) &&& (255 : Int32))) r_138 d_138 kd_138 (mkS lA (i1 &&& (255 : Int32)) ((XT.ushr i0 (8 : Int32)) &&& (255 : Int32))) o152_1 o152_2 f157 f158 (by omega)) hown (wd_54 g) (wd_55 g) (notFace_of_selects (wd_57 g)) (wd_57 g) (wd_56 g) f159 (wd_58 g) (wd_43 g) (by decide) (argsL := []) (lenOf pd_13 rfl) rfl (by rw [hml]; rfl) (W := 0) rfl (hb hby at_265) (pc' := 268) rfl (by decide) (by decide) (by decide) (by decide) all0 ?_
              rintro _ vm160 h160 ⟨rfl, K160⟩ C160
              have z160 := K160.1
              -- pc 268
              refine Go.iload (hb hby at_268) (pc' := 270) rfl rfl ?_
              refine Go.icmpN (hb hby at_270) (pc' := 273) rfl (fun z => z (by rw [mkS_bo blE blA (m255 _) (m255 _) (m255 _) (m255 _)]; exact bo_yes ⟨Classical.not_not.mp q227, Or.inl q233, Or.inl q246⟩)) ?_
              refine Go.iconst (hb hby at_273) (pc' := 274) rfl (z := (1 : Int32)) rfl ?_
              refine Go.goto (hb hby at_274) (by decide) (pc' := 278) (by decide) ?_
              refine Go.retN (t := .boolean) hret (by simp) (hb hby at_278) (by decide) (by decide) ?_
              intro vmR CR
              exact ⟨(by first | rfl | (simp only [own_nar]; done) | (congr 2; done)), (((((((Keep.refl h []).trans K137 all0).trans K138 all0).trans K139 all0).trans KE144 all0).trans K152 (allS (by first | (left; simp; done) | (right; omega)) all0)).trans K160 all0)⟩
            · refine Go.iload (hb hby at_249) (pc' := 251) rfl rfl ?_
              refine Go.iload (hb hby at_251) (pc' := 253) rfl rfl ?_
              refine Go.icmpN (hb hby at_253) (pc' := 256) rfl (fun q => q rfl) ?_
              refine Go.iconst (hb hby at_256) (pc' := 257) rfl (z := (1 : Int32)) rfl ?_
              refine Go.goto (hb hby at_257) (by decide) (pc' := 261) (by decide) ?_
              refine Go.istore (hb hby at_261) (pc' := 263) rfl (L' := #[.val (.int i0), .val (.int i1), .val (.int i2), .val (.int i3), .val (.int lE), .val (.int lA), .val (.int lE), .val (.int (0 : Int32)), .val (.int (1 : Int32)), .val (.int (1 : Int32)), .val (.int (i0 &&& (255 : Int32))), .val (.int ((XT.ushr i0 (8 : Int32)) &&& (255 : Int32))), .val (.int (i1 &&& (255 : Int32))), .val (.int ((XT.ushr i0 (8 : Int32)) &&& (255 : Int32))), .val (.int (i0 &&& (255 : Int32))), .val (.int ((XT.ushr i0 (8 : Int32)) &&& (255 : Int32))), .val (.ref r_137), .val (.ref r_138), .val (.ref r_139), .val (.ref a141), .val (.int (1 : Int32))]) rfl ?_
              refine Go.aload (hb hby at_263) (pc' := 265) rfl rfl rfl ?_
              have f161 : St Z h152 r_137 d_137 kd_137 (mkS lE (i0 &&& (255 : Int32)) ((XT.ushr i0 (8 : Int32)) &&& (255 : Int32))) := ((((o137_0.keep K138 nin0 nin0).keep K139 nin0 nin0).keep KE144 nin0 nin0).keep K152 (ninS (Exa.ne (((o137_0.keep K138 nin0 nin0).keep K139 nin0 nin0).keep KE144 nin0 nin0).1 X145 (by decide)) nin0) (ninS (Ne.symm (Ar.ne_exa (((o137_0.keep K138 nin0 nin0).keep K139 nin0 nin0).keep KE144 nin0 nin0).2.2.2.1 X145 (wd_42 g))) nin0))
              have f162 : St Z h152 r_138 d_138 kd_138 (mkS lA (i1 &&& (255 : Int32)) ((XT.ushr i0 (8 : Int32)) &&& (255 : Int32))) := (((o138_0.keep K139 nin0 nin0).keep KE144 nin0 nin0).keep K152 (ninS (Exa.ne ((o138_0.keep K139 nin0 nin0).keep KE144 nin0 nin0).1 X145 (by decide)) nin0) (ninS (Ne.symm (Ar.ne_exa ((o138_0.keep K139 nin0 nin0).keep KE144 nin0 nin0).2.2.2.1 X145 (wd_42 g))) nin0))
              have f163 : Exa Z h152 a141 "com/example/kunci/kunci/TestOutcome" := (X145.keep K152)
              refine Go.callV (y0 := ⟨"com/example/kunci/kunci/TestOutcome", "isPassed", "()Z"⟩) (c_isPassed (l := l) (nw := nw) g h152 a141 r_137 d_137 kd_137 (mkS lE (i0 &&& (255 : Int32)) ((XT.ushr i0 (8 : Int32)) &&& (255 : Int32))) r_138 d_138 kd_138 (mkS lA (i1 &&& (255 : Int32)) ((XT.ushr i0 (8 : Int32)) &&& (255 : Int32))) o152_1 o152_2 f161 f162 (by omega)) hown (wd_54 g) (wd_55 g) (notFace_of_selects (wd_57 g)) (wd_57 g) (wd_56 g) f163 (wd_58 g) (wd_43 g) (by decide) (argsL := []) (lenOf pd_13 rfl) rfl (by rw [hml]; rfl) (W := 0) rfl (hb hby at_265) (pc' := 268) rfl (by decide) (by decide) (by decide) (by decide) all0 ?_
              rintro _ vm164 h164 ⟨rfl, K164⟩ C164
              have z164 := K164.1
              -- pc 268
              refine Go.iload (hb hby at_268) (pc' := 270) rfl rfl ?_
              refine Go.icmpN (hb hby at_270) (pc' := 273) rfl (fun z => z (by rw [mkS_bo blE blA (m255 _) (m255 _) (m255 _) (m255 _)]; exact bo_yes ⟨Classical.not_not.mp q227, Or.inl q233, Or.inr rfl⟩)) ?_
              refine Go.iconst (hb hby at_273) (pc' := 274) rfl (z := (1 : Int32)) rfl ?_
              refine Go.goto (hb hby at_274) (by decide) (pc' := 278) (by decide) ?_
              refine Go.retN (t := .boolean) hret (by simp) (hb hby at_278) (by decide) (by decide) ?_
              intro vmR CR
              exact ⟨(by first | rfl | (simp only [own_nar]; done) | (congr 2; done)), (((((((Keep.refl h []).trans K137 all0).trans K138 all0).trans K139 all0).trans KE144 all0).trans K152 (allS (by first | (left; simp; done) | (right; omega)) all0)).trans K164 all0)⟩
          · refine Go.iload (hb hby at_236) (pc' := 238) rfl rfl ?_
            refine Go.iload (hb hby at_238) (pc' := 240) rfl rfl ?_
            refine Go.icmp (hb hby at_240) (by decide) (pc' := 260) (by decide) (pc2 := 243) rfl (fun (q240 : ¬ (i0 &&& (255 : Int32)) = (i1 &&& (255 : Int32))) => ?_) (fun (q240 : ¬ (¬ (i0 &&& (255 : Int32)) = (i1 &&& (255 : Int32)))) => ?_)
            · refine Go.iconst (hb hby at_260) (pc' := 261) rfl (z := (0 : Int32)) rfl ?_
              refine Go.istore (hb hby at_261) (pc' := 263) rfl (L' := #[.val (.int i0), .val (.int i1), .val (.int i2), .val (.int i3), .val (.int lE), .val (.int lA), .val (.int lE), .val (.int (0 : Int32)), .val (.int (1 : Int32)), .val (.int (1 : Int32)), .val (.int (i0 &&& (255 : Int32))), .val (.int ((XT.ushr i0 (8 : Int32)) &&& (255 : Int32))), .val (.int (i1 &&& (255 : Int32))), .val (.int ((XT.ushr i0 (8 : Int32)) &&& (255 : Int32))), .val (.int (i0 &&& (255 : Int32))), .val (.int ((XT.ushr i0 (8 : Int32)) &&& (255 : Int32))), .val (.ref r_137), .val (.ref r_138), .val (.ref r_139), .val (.ref a141), .val (.int (0 : Int32))]) rfl ?_
              refine Go.aload (hb hby at_263) (pc' := 265) rfl rfl rfl ?_
              have f165 : St Z h152 r_137 d_137 kd_137 (mkS lE (i0 &&& (255 : Int32)) ((XT.ushr i0 (8 : Int32)) &&& (255 : Int32))) := ((((o137_0.keep K138 nin0 nin0).keep K139 nin0 nin0).keep KE144 nin0 nin0).keep K152 (ninS (Exa.ne (((o137_0.keep K138 nin0 nin0).keep K139 nin0 nin0).keep KE144 nin0 nin0).1 X145 (by decide)) nin0) (ninS (Ne.symm (Ar.ne_exa (((o137_0.keep K138 nin0 nin0).keep K139 nin0 nin0).keep KE144 nin0 nin0).2.2.2.1 X145 (wd_42 g))) nin0))
              have f166 : St Z h152 r_138 d_138 kd_138 (mkS lA (i1 &&& (255 : Int32)) ((XT.ushr i0 (8 : Int32)) &&& (255 : Int32))) := (((o138_0.keep K139 nin0 nin0).keep KE144 nin0 nin0).keep K152 (ninS (Exa.ne ((o138_0.keep K139 nin0 nin0).keep KE144 nin0 nin0).1 X145 (by decide)) nin0) (ninS (Ne.symm (Ar.ne_exa ((o138_0.keep K139 nin0 nin0).keep KE144 nin0 nin0).2.2.2.1 X145 (wd_42 g))) nin0))
              have f167 : Exa Z h152 a141 "com/example/kunci/kunci/TestOutcome" := (X145.keep K152)
              refine Go.callV (y0 := ⟨"com/example/kunci/kunci/TestOutcome", "isPassed", "()Z"⟩) (c_isPassed (l := l) (nw := nw) g h152 a141 r_137 d_137 kd_137 (mkS lE (i0 &&& (255 : Int32)) ((XT.ushr i0 (8 : Int32)) &&& (255 : Int32))) r_138 d_138 kd_138 (mkS lA (i1 &&& (255 : Int32)) ((XT.ushr i0 (8 : Int32)) &&& (255 : Int32))) o152_1 o152_2 f165 f166 (by omega)) hown (wd_54 g) (wd_55 g) (notFace_of_selects (wd_57 g)) (wd_57 g) (wd_56 g) f167 (wd_58 g) (wd_43 g) (by decide) (argsL := []) (lenOf pd_13 rfl) rfl (by rw [hml]; rfl) (W := 0) rfl (hb hby at_265) (pc' := 268) rfl (by decide) (by decide) (by decide) (by decide) all0 ?_
              rintro _ vm168 h168 ⟨rfl, K168⟩ C168
              have z168 := K168.1
              -- pc 268
              refine Go.iload (hb hby at_268) (pc' := 270) rfl rfl ?_
              refine Go.icmpN (hb hby at_270) (pc' := 273) rfl (fun z => z (by rw [mkS_bo blE blA (m255 _) (m255 _) (m255 _) (m255 _)]; exact bo_no (fun z => z.2.1.elim q233 q240))) ?_
              refine Go.iconst (hb hby at_273) (pc' := 274) rfl (z := (1 : Int32)) rfl ?_
              refine Go.goto (hb hby at_274) (by decide) (pc' := 278) (by decide) ?_
              refine Go.retN (t := .boolean) hret (by simp) (hb hby at_278) (by decide) (by decide) ?_
              intro vmR CR
              exact ⟨(by first | rfl | (simp only [own_nar]; done) | (congr 2; done)), (((((((Keep.refl h []).trans K137 all0).trans K138 all0).trans K139 all0).trans KE144 all0).trans K152 (allS (by first | (left; simp; done) | (right; omega)) all0)).trans K168 all0)⟩
            · refine Go.iload (hb hby at_243) (pc' := 245) rfl rfl ?_
              refine Go.iconst (hb hby at_245) (pc' := 246) rfl (z := (2 : Int32)) rfl ?_
              refine Go.icmp (hb hby at_246) (by decide) (pc' := 256) (by decide) (pc2 := 249) rfl (fun (q246 : lE < (2 : Int32)) => ?_) (fun (q246 : ¬ (lE < (2 : Int32))) => ?_)
              · refine Go.iconst (hb hby at_256) (pc' := 257) rfl (z := (1 : Int32)) rfl ?_
                refine Go.goto (hb hby at_257) (by decide) (pc' := 261) (by decide) ?_
                refine Go.istore (hb hby at_261) (pc' := 263) rfl (L' := #[.val (.int i0), .val (.int i1), .val (.int i2), .val (.int i3), .val (.int lE), .val (.int lA), .val (.int lE), .val (.int (0 : Int32)), .val (.int (1 : Int32)), .val (.int (1 : Int32)), .val (.int (i0 &&& (255 : Int32))), .val (.int ((XT.ushr i0 (8 : Int32)) &&& (255 : Int32))), .val (.int (i1 &&& (255 : Int32))), .val (.int ((XT.ushr i0 (8 : Int32)) &&& (255 : Int32))), .val (.int (i0 &&& (255 : Int32))), .val (.int ((XT.ushr i0 (8 : Int32)) &&& (255 : Int32))), .val (.ref r_137), .val (.ref r_138), .val (.ref r_139), .val (.ref a141), .val (.int (1 : Int32))]) rfl ?_
                refine Go.aload (hb hby at_263) (pc' := 265) rfl rfl rfl ?_
                have f169 : St Z h152 r_137 d_137 kd_137 (mkS lE (i0 &&& (255 : Int32)) ((XT.ushr i0 (8 : Int32)) &&& (255 : Int32))) := ((((o137_0.keep K138 nin0 nin0).keep K139 nin0 nin0).keep KE144 nin0 nin0).keep K152 (ninS (Exa.ne (((o137_0.keep K138 nin0 nin0).keep K139 nin0 nin0).keep KE144 nin0 nin0).1 X145 (by decide)) nin0) (ninS (Ne.symm (Ar.ne_exa (((o137_0.keep K138 nin0 nin0).keep K139 nin0 nin0).keep KE144 nin0 nin0).2.2.2.1 X145 (wd_42 g))) nin0))
                have f170 : St Z h152 r_138 d_138 kd_138 (mkS lA (i1 &&& (255 : Int32)) ((XT.ushr i0 (8 : Int32)) &&& (255 : Int32))) := (((o138_0.keep K139 nin0 nin0).keep KE144 nin0 nin0).keep K152 (ninS (Exa.ne ((o138_0.keep K139 nin0 nin0).keep KE144 nin0 nin0).1 X145 (by decide)) nin0) (ninS (Ne.symm (Ar.ne_exa ((o138_0.keep K139 nin0 nin0).keep KE144 nin0 nin0).2.2.2.1 X145 (wd_42 g))) nin0))
                have f171 : Exa Z h152 a141 "com/example/kunci/kunci/TestOutcome" := (X145.keep K152)
                refine Go.callV (y0 := ⟨"com/example/kunci/kunci/TestOutcome", "isPassed", "()Z"⟩) (c_isPassed (l := l) (nw := nw) g h152 a141 r_137 d_137 kd_137 (mkS lE (i0 &&& (255 : Int32)) ((XT.ushr i0 (8 : Int32)) &&& (255 : Int32))) r_138 d_138 kd_138 (mkS lA (i1 &&& (255 : Int32)) ((XT.ushr i0 (8 : Int32)) &&& (255 : Int32))) o152_1 o152_2 f169 f170 (by omega)) hown (wd_54 g) (wd_55 g) (notFace_of_selects (wd_57 g)) (wd_57 g) (wd_56 g) f171 (wd_58 g) (wd_43 g) (by decide) (argsL := []) (lenOf pd_13 rfl) rfl (by rw [hml]; rfl) (W := 0) rfl (hb hby at_265) (pc' := 268) rfl (by decide) (by decide) (by decide) (by decide) all0 ?_
                rintro _ vm172 h172 ⟨rfl, K172⟩ C172
                have z172 := K172.1
                -- pc 268
                refine Go.iload (hb hby at_268) (pc' := 270) rfl rfl ?_
                refine Go.icmpN (hb hby at_270) (pc' := 273) rfl (fun z => z (by rw [mkS_bo blE blA (m255 _) (m255 _) (m255 _) (m255 _)]; exact bo_yes ⟨Classical.not_not.mp q227, Or.inr (Classical.not_not.mp q240), Or.inl q246⟩)) ?_
                refine Go.iconst (hb hby at_273) (pc' := 274) rfl (z := (1 : Int32)) rfl ?_
                refine Go.goto (hb hby at_274) (by decide) (pc' := 278) (by decide) ?_
                refine Go.retN (t := .boolean) hret (by simp) (hb hby at_278) (by decide) (by decide) ?_
                intro vmR CR
                exact ⟨(by first | rfl | (simp only [own_nar]; done) | (congr 2; done)), (((((((Keep.refl h []).trans K137 all0).trans K138 all0).trans K139 all0).trans KE144 all0).trans K152 (allS (by first | (left; simp; done) | (right; omega)) all0)).trans K172 all0)⟩
              · refine Go.iload (hb hby at_249) (pc' := 251) rfl rfl ?_
                refine Go.iload (hb hby at_251) (pc' := 253) rfl rfl ?_
                refine Go.icmpN (hb hby at_253) (pc' := 256) rfl (fun q => q rfl) ?_
                refine Go.iconst (hb hby at_256) (pc' := 257) rfl (z := (1 : Int32)) rfl ?_
                refine Go.goto (hb hby at_257) (by decide) (pc' := 261) (by decide) ?_
                refine Go.istore (hb hby at_261) (pc' := 263) rfl (L' := #[.val (.int i0), .val (.int i1), .val (.int i2), .val (.int i3), .val (.int lE), .val (.int lA), .val (.int lE), .val (.int (0 : Int32)), .val (.int (1 : Int32)), .val (.int (1 : Int32)), .val (.int (i0 &&& (255 : Int32))), .val (.int ((XT.ushr i0 (8 : Int32)) &&& (255 : Int32))), .val (.int (i1 &&& (255 : Int32))), .val (.int ((XT.ushr i0 (8 : Int32)) &&& (255 : Int32))), .val (.int (i0 &&& (255 : Int32))), .val (.int ((XT.ushr i0 (8 : Int32)) &&& (255 : Int32))), .val (.ref r_137), .val (.ref r_138), .val (.ref r_139), .val (.ref a141), .val (.int (1 : Int32))]) rfl ?_
                refine Go.aload (hb hby at_263) (pc' := 265) rfl rfl rfl ?_
                have f173 : St Z h152 r_137 d_137 kd_137 (mkS lE (i0 &&& (255 : Int32)) ((XT.ushr i0 (8 : Int32)) &&& (255 : Int32))) := ((((o137_0.keep K138 nin0 nin0).keep K139 nin0 nin0).keep KE144 nin0 nin0).keep K152 (ninS (Exa.ne (((o137_0.keep K138 nin0 nin0).keep K139 nin0 nin0).keep KE144 nin0 nin0).1 X145 (by decide)) nin0) (ninS (Ne.symm (Ar.ne_exa (((o137_0.keep K138 nin0 nin0).keep K139 nin0 nin0).keep KE144 nin0 nin0).2.2.2.1 X145 (wd_42 g))) nin0))
                have f174 : St Z h152 r_138 d_138 kd_138 (mkS lA (i1 &&& (255 : Int32)) ((XT.ushr i0 (8 : Int32)) &&& (255 : Int32))) := (((o138_0.keep K139 nin0 nin0).keep KE144 nin0 nin0).keep K152 (ninS (Exa.ne ((o138_0.keep K139 nin0 nin0).keep KE144 nin0 nin0).1 X145 (by decide)) nin0) (ninS (Ne.symm (Ar.ne_exa ((o138_0.keep K139 nin0 nin0).keep KE144 nin0 nin0).2.2.2.1 X145 (wd_42 g))) nin0))
                have f175 : Exa Z h152 a141 "com/example/kunci/kunci/TestOutcome" := (X145.keep K152)
                refine Go.callV (y0 := ⟨"com/example/kunci/kunci/TestOutcome", "isPassed", "()Z"⟩) (c_isPassed (l := l) (nw := nw) g h152 a141 r_137 d_137 kd_137 (mkS lE (i0 &&& (255 : Int32)) ((XT.ushr i0 (8 : Int32)) &&& (255 : Int32))) r_138 d_138 kd_138 (mkS lA (i1 &&& (255 : Int32)) ((XT.ushr i0 (8 : Int32)) &&& (255 : Int32))) o152_1 o152_2 f173 f174 (by omega)) hown (wd_54 g) (wd_55 g) (notFace_of_selects (wd_57 g)) (wd_57 g) (wd_56 g) f175 (wd_58 g) (wd_43 g) (by decide) (argsL := []) (lenOf pd_13 rfl) rfl (by rw [hml]; rfl) (W := 0) rfl (hb hby at_265) (pc' := 268) rfl (by decide) (by decide) (by decide) (by decide) all0 ?_
                rintro _ vm176 h176 ⟨rfl, K176⟩ C176
                have z176 := K176.1
                -- pc 268
                refine Go.iload (hb hby at_268) (pc' := 270) rfl rfl ?_
                refine Go.icmpN (hb hby at_270) (pc' := 273) rfl (fun z => z (by rw [mkS_bo blE blA (m255 _) (m255 _) (m255 _) (m255 _)]; exact bo_yes ⟨Classical.not_not.mp q227, Or.inr (Classical.not_not.mp q240), Or.inr rfl⟩)) ?_
                refine Go.iconst (hb hby at_273) (pc' := 274) rfl (z := (1 : Int32)) rfl ?_
                refine Go.goto (hb hby at_274) (by decide) (pc' := 278) (by decide) ?_
                refine Go.retN (t := .boolean) hret (by simp) (hb hby at_278) (by decide) (by decide) ?_
                intro vmR CR
                exact ⟨(by first | rfl | (simp only [own_nar]; done) | (congr 2; done)), (((((((Keep.refl h []).trans K137 all0).trans K138 all0).trans K139 all0).trans KE144 all0).trans K152 (allS (by first | (left; simp; done) | (right; omega)) all0)).trans K176 all0)⟩
  · refine Go.iconst (hb hby at_33) (pc' := 34) rfl (z := (1 : Int32)) rfl ?_
    refine Go.goto (hb hby at_34) (by decide) (pc' := 38) (by decide) ?_
    refine Go.istore (hb hby at_38) (pc' := 40) rfl (L' := #[.val (.int i0), .val (.int i1), .val (.int i2), .val (.int i3), .val (.int lE), .val (.int lA), .val (.int lQ), .val (.int (1 : Int32)), .unset, .unset, .unset, .unset, .unset, .unset, .unset, .unset, .unset, .unset, .unset, .unset, .unset]) rfl ?_
    refine Go.iloadN (hb hby at_40) (pc' := 41) rfl rfl ?_
    refine Go.bipush (hb hby at_41) (pc' := 43) rfl (z := (32 : Int32)) rfl ?_
    refine Go.iand (hb hby at_43) (pc' := 44) rfl ?_
    refine Go.ifc (hb hby at_44) (by decide) (pc' := 51) (by decide) (pc2 := 47) rfl (fun (q44 : (i3 &&& (32 : Int32)) = (0 : Int32)) => ?_) (fun (q44 : ¬ ((i3 &&& (32 : Int32)) = (0 : Int32))) => ?_)
    · refine Go.iconst (hb hby at_51) (pc' := 52) rfl (z := (0 : Int32)) rfl ?_
      refine Go.istore (hb hby at_52) (pc' := 54) rfl (L' := #[.val (.int i0), .val (.int i1), .val (.int i2), .val (.int i3), .val (.int lE), .val (.int lA), .val (.int lQ), .val (.int (1 : Int32)), .val (.int (0 : Int32)), .unset, .unset, .unset, .unset, .unset, .unset, .unset, .unset, .unset, .unset, .unset, .unset]) rfl ?_
      refine Go.iloadN (hb hby at_54) (pc' := 55) rfl rfl ?_
      refine Go.sipush (hb hby at_55) (pc' := 58) rfl (z := (256 : Int32)) rfl ?_
      refine Go.iand (hb hby at_58) (pc' := 59) rfl ?_
      refine Go.ifc (hb hby at_59) (by decide) (pc' := 66) (by decide) (pc2 := 62) rfl (fun (q59 : (i3 &&& (256 : Int32)) = (0 : Int32)) => ?_) (fun (q59 : ¬ ((i3 &&& (256 : Int32)) = (0 : Int32))) => ?_)
      · refine Go.iconst (hb hby at_66) (pc' := 67) rfl (z := (0 : Int32)) rfl ?_
        refine Go.istore (hb hby at_67) (pc' := 69) rfl (L' := #[.val (.int i0), .val (.int i1), .val (.int i2), .val (.int i3), .val (.int lE), .val (.int lA), .val (.int lQ), .val (.int (1 : Int32)), .val (.int (0 : Int32)), .val (.int (0 : Int32)), .unset, .unset, .unset, .unset, .unset, .unset, .unset, .unset, .unset, .unset, .unset]) rfl ?_
        refine Go.iloadN (hb hby at_69) (pc' := 70) rfl rfl ?_
        refine Go.sipush (hb hby at_70) (pc' := 73) rfl (z := (255 : Int32)) rfl ?_
        refine Go.iand (hb hby at_73) (pc' := 74) rfl ?_
        refine Go.i2c (hb hby at_74) (pc' := 75) rfl ?_
        rw [nch (m255 i0)]
        refine Go.istore (hb hby at_75) (pc' := 77) rfl (L' := #[.val (.int i0), .val (.int i1), .val (.int i2), .val (.int i3), .val (.int lE), .val (.int lA), .val (.int lQ), .val (.int (1 : Int32)), .val (.int (0 : Int32)), .val (.int (0 : Int32)), .val (.int (i0 &&& (255 : Int32))), .unset, .unset, .unset, .unset, .unset, .unset, .unset, .unset, .unset, .unset]) rfl ?_
        refine Go.iloadN (hb hby at_77) (pc' := 78) rfl rfl ?_
        refine Go.bipush (hb hby at_78) (pc' := 80) rfl (z := (8 : Int32)) rfl ?_
        refine Go.iushr (hb hby at_80) (pc' := 81) rfl ?_
        refine Go.sipush (hb hby at_81) (pc' := 84) rfl (z := (255 : Int32)) rfl ?_
        refine Go.iand (hb hby at_84) (pc' := 85) rfl ?_
        refine Go.i2c (hb hby at_85) (pc' := 86) rfl ?_
        rw [nch (m255 (XT.ushr i0 (8 : Int32)))]
        refine Go.istore (hb hby at_86) (pc' := 88) rfl (L' := #[.val (.int i0), .val (.int i1), .val (.int i2), .val (.int i3), .val (.int lE), .val (.int lA), .val (.int lQ), .val (.int (1 : Int32)), .val (.int (0 : Int32)), .val (.int (0 : Int32)), .val (.int (i0 &&& (255 : Int32))), .val (.int ((XT.ushr i0 (8 : Int32)) &&& (255 : Int32))), .unset, .unset, .unset, .unset, .unset, .unset, .unset, .unset, .unset]) rfl ?_
        refine Go.iload (hb hby at_88) (pc' := 90) rfl rfl ?_
        refine Go.ifN (hb hby at_90) (pc' := 93) rfl (show ¬ ((1 : Int32) = (0 : Int32)) from by decide) ?_
        refine Go.iload (hb hby at_93) (pc' := 95) rfl rfl ?_
        refine Go.goto (hb hby at_95) (by decide) (pc' := 104) (by decide) ?_
        refine Go.istore (hb hby at_104) (pc' := 106) rfl (L' := #[.val (.int i0), .val (.int i1), .val (.int i2), .val (.int i3), .val (.int lE), .val (.int lA), .val (.int lQ), .val (.int (1 : Int32)), .val (.int (0 : Int32)), .val (.int (0 : Int32)), .val (.int (i0 &&& (255 : Int32))), .val (.int ((XT.ushr i0 (8 : Int32)) &&& (255 : Int32))), .val (.int (i0 &&& (255 : Int32))), .unset, .unset, .unset, .unset, .unset, .unset, .unset, .unset]) rfl ?_
        refine Go.iload (hb hby at_106) (pc' := 108) rfl rfl ?_
        refine Go.ifY (hb hby at_108) (by decide) (pc' := 116) (by decide) (show (0 : Int32) = (0 : Int32) from by decide) ?_
        refine Go.iloadN (hb hby at_116) (pc' := 117) rfl rfl ?_
        refine Go.bipush (hb hby at_117) (pc' := 119) rfl (z := (8 : Int32)) rfl ?_
        refine Go.iushr (hb hby at_119) (pc' := 120) rfl ?_
        refine Go.sipush (hb hby at_120) (pc' := 123) rfl (z := (255 : Int32)) rfl ?_
        refine Go.iand (hb hby at_123) (pc' := 124) rfl ?_
        refine Go.i2c (hb hby at_124) (pc' := 125) rfl ?_
        rw [nch (m255 (XT.ushr i1 (8 : Int32)))]
        refine Go.istore (hb hby at_125) (pc' := 127) rfl (L' := #[.val (.int i0), .val (.int i1), .val (.int i2), .val (.int i3), .val (.int lE), .val (.int lA), .val (.int lQ), .val (.int (1 : Int32)), .val (.int (0 : Int32)), .val (.int (0 : Int32)), .val (.int (i0 &&& (255 : Int32))), .val (.int ((XT.ushr i0 (8 : Int32)) &&& (255 : Int32))), .val (.int (i0 &&& (255 : Int32))), .val (.int ((XT.ushr i1 (8 : Int32)) &&& (255 : Int32))), .unset, .unset, .unset, .unset, .unset, .unset, .unset]) rfl ?_
        refine Go.iload (hb hby at_127) (pc' := 129) rfl rfl ?_
        refine Go.ifY (hb hby at_129) (by decide) (pc' := 137) (by decide) (show (0 : Int32) = (0 : Int32) from by decide) ?_
        refine Go.iloadN (hb hby at_137) (pc' := 138) rfl rfl ?_
        refine Go.sipush (hb hby at_138) (pc' := 141) rfl (z := (255 : Int32)) rfl ?_
        refine Go.iand (hb hby at_141) (pc' := 142) rfl ?_
        refine Go.i2c (hb hby at_142) (pc' := 143) rfl ?_
        rw [nch (m255 i2)]
        refine Go.istore (hb hby at_143) (pc' := 145) rfl (L' := #[.val (.int i0), .val (.int i1), .val (.int i2), .val (.int i3), .val (.int lE), .val (.int lA), .val (.int lQ), .val (.int (1 : Int32)), .val (.int (0 : Int32)), .val (.int (0 : Int32)), .val (.int (i0 &&& (255 : Int32))), .val (.int ((XT.ushr i0 (8 : Int32)) &&& (255 : Int32))), .val (.int (i0 &&& (255 : Int32))), .val (.int ((XT.ushr i1 (8 : Int32)) &&& (255 : Int32))), .val (.int (i2 &&& (255 : Int32))), .unset, .unset, .unset, .unset, .unset, .unset]) rfl ?_
        refine Go.iload (hb hby at_145) (pc' := 147) rfl rfl ?_
        refine Go.ifY (hb hby at_147) (by decide) (pc' := 155) (by decide) (show (0 : Int32) = (0 : Int32) from by decide) ?_
        refine Go.iloadN (hb hby at_155) (pc' := 156) rfl rfl ?_
        refine Go.bipush (hb hby at_156) (pc' := 158) rfl (z := (8 : Int32)) rfl ?_
        refine Go.iushr (hb hby at_158) (pc' := 159) rfl ?_
        refine Go.sipush (hb hby at_159) (pc' := 162) rfl (z := (255 : Int32)) rfl ?_
        refine Go.iand (hb hby at_162) (pc' := 163) rfl ?_
        refine Go.i2c (hb hby at_163) (pc' := 164) rfl ?_
        rw [nch (m255 (XT.ushr i2 (8 : Int32)))]
        refine Go.istore (hb hby at_164) (pc' := 166) rfl (L' := #[.val (.int i0), .val (.int i1), .val (.int i2), .val (.int i3), .val (.int lE), .val (.int lA), .val (.int lQ), .val (.int (1 : Int32)), .val (.int (0 : Int32)), .val (.int (0 : Int32)), .val (.int (i0 &&& (255 : Int32))), .val (.int ((XT.ushr i0 (8 : Int32)) &&& (255 : Int32))), .val (.int (i0 &&& (255 : Int32))), .val (.int ((XT.ushr i1 (8 : Int32)) &&& (255 : Int32))), .val (.int (i2 &&& (255 : Int32))), .val (.int ((XT.ushr i2 (8 : Int32)) &&& (255 : Int32))), .unset, .unset, .unset, .unset, .unset]) rfl ?_
        refine Go.iload (hb hby at_166) (pc' := 168) rfl rfl ?_
        refine Go.ifY (hb hby at_168) (by decide) (pc' := 175) (by decide) (show (0 : Int32) = (0 : Int32) from by decide) ?_
        refine Go.iload (hb hby at_175) (pc' := 177) rfl rfl ?_
        refine Go.iload (hb hby at_177) (pc' := 179) rfl rfl ?_
        refine Go.iload (hb hby at_179) (pc' := 181) rfl rfl ?_
        refine Go.callS (c_make (l := l) (nw := nw) g hnw h lE (i0 &&& (255 : Int32)) ((XT.ushr i0 (8 : Int32)) &&& (255 : Int32)) (m255 _) (m255 _) (by omega)) hown (wd_0 g) (wd_1 g) (wd_3 g) (wd_2 g) (by decide) (argsL := [(.int lE), (.int (i0 &&& (255 : Int32))), (.int ((XT.ushr i0 (8 : Int32)) &&& (255 : Int32)))]) (lenOf pd_11 rfl) rfl (by rw [hml]; rfl) (W := 0) rfl (hb hby at_181) (pc' := 184) rfl (by decide) (by decide) (by decide) (by decide) all0 ?_
        rintro _ vm177 h177 ⟨r_177, d_177, kd_177, rfl, K177, o177_0⟩ C177
        have z177 := K177.1
        have yo177_0 := ltN o177_0.lt; have yo177_0' := ltN o177_0.ltb
        -- pc 184
        refine Go.astore (hb hby at_184) (pc' := 186) rfl rfl (L' := #[.val (.int i0), .val (.int i1), .val (.int i2), .val (.int i3), .val (.int lE), .val (.int lA), .val (.int lQ), .val (.int (1 : Int32)), .val (.int (0 : Int32)), .val (.int (0 : Int32)), .val (.int (i0 &&& (255 : Int32))), .val (.int ((XT.ushr i0 (8 : Int32)) &&& (255 : Int32))), .val (.int (i0 &&& (255 : Int32))), .val (.int ((XT.ushr i1 (8 : Int32)) &&& (255 : Int32))), .val (.int (i2 &&& (255 : Int32))), .val (.int ((XT.ushr i2 (8 : Int32)) &&& (255 : Int32))), .val (.ref r_177), .unset, .unset, .unset, .unset]) rfl ?_
        refine Go.iload (hb hby at_186) (pc' := 188) rfl rfl ?_
        refine Go.iload (hb hby at_188) (pc' := 190) rfl rfl ?_
        refine Go.iload (hb hby at_190) (pc' := 192) rfl rfl ?_
        refine Go.callS (c_make (l := l) (nw := nw) g hnw h177 lA (i0 &&& (255 : Int32)) ((XT.ushr i1 (8 : Int32)) &&& (255 : Int32)) (m255 _) (m255 _) (by omega)) hown (wd_0 g) (wd_1 g) (wd_3 g) (wd_2 g) (by decide) (argsL := [(.int lA), (.int (i0 &&& (255 : Int32))), (.int ((XT.ushr i1 (8 : Int32)) &&& (255 : Int32)))]) (lenOf pd_11 rfl) rfl (by rw [hml]; rfl) (W := 0) rfl (hb hby at_192) (pc' := 195) rfl (by decide) (by decide) (by decide) (by decide) all0 ?_
        rintro _ vm178 h178 ⟨r_178, d_178, kd_178, rfl, K178, o178_0⟩ C178
        have z178 := K178.1
        have yo178_0 := ltN o178_0.lt; have yo178_0' := ltN o178_0.ltb
        -- pc 195
        refine Go.astore (hb hby at_195) (pc' := 197) rfl rfl (L' := #[.val (.int i0), .val (.int i1), .val (.int i2), .val (.int i3), .val (.int lE), .val (.int lA), .val (.int lQ), .val (.int (1 : Int32)), .val (.int (0 : Int32)), .val (.int (0 : Int32)), .val (.int (i0 &&& (255 : Int32))), .val (.int ((XT.ushr i0 (8 : Int32)) &&& (255 : Int32))), .val (.int (i0 &&& (255 : Int32))), .val (.int ((XT.ushr i1 (8 : Int32)) &&& (255 : Int32))), .val (.int (i2 &&& (255 : Int32))), .val (.int ((XT.ushr i2 (8 : Int32)) &&& (255 : Int32))), .val (.ref r_177), .val (.ref r_178), .unset, .unset, .unset]) rfl ?_
        refine Go.iload (hb hby at_197) (pc' := 199) rfl rfl ?_
        refine Go.iload (hb hby at_199) (pc' := 201) rfl rfl ?_
        refine Go.iload (hb hby at_201) (pc' := 203) rfl rfl ?_
        refine Go.callS (c_make (l := l) (nw := nw) g hnw h178 lQ (i2 &&& (255 : Int32)) ((XT.ushr i2 (8 : Int32)) &&& (255 : Int32)) (m255 _) (m255 _) (by omega)) hown (wd_0 g) (wd_1 g) (wd_3 g) (wd_2 g) (by decide) (argsL := [(.int lQ), (.int (i2 &&& (255 : Int32))), (.int ((XT.ushr i2 (8 : Int32)) &&& (255 : Int32)))]) (lenOf pd_11 rfl) rfl (by rw [hml]; rfl) (W := 0) rfl (hb hby at_203) (pc' := 206) rfl (by decide) (by decide) (by decide) (by decide) all0 ?_
        rintro _ vm179 h179 ⟨r_179, d_179, kd_179, rfl, K179, o179_0⟩ C179
        have z179 := K179.1
        have yo179_0 := ltN o179_0.lt; have yo179_0' := ltN o179_0.ltb
        -- pc 206
        refine Go.astore (hb hby at_206) (pc' := 208) rfl rfl (L' := #[.val (.int i0), .val (.int i1), .val (.int i2), .val (.int i3), .val (.int lE), .val (.int lA), .val (.int lQ), .val (.int (1 : Int32)), .val (.int (0 : Int32)), .val (.int (0 : Int32)), .val (.int (i0 &&& (255 : Int32))), .val (.int ((XT.ushr i0 (8 : Int32)) &&& (255 : Int32))), .val (.int (i0 &&& (255 : Int32))), .val (.int ((XT.ushr i1 (8 : Int32)) &&& (255 : Int32))), .val (.int (i2 &&& (255 : Int32))), .val (.int ((XT.ushr i2 (8 : Int32)) &&& (255 : Int32))), .val (.ref r_177), .val (.ref r_178), .val (.ref r_179), .unset, .unset]) rfl ?_
        refine Go.newO hown (wd_41 g) (wd_42 g) (wd_43 g) (hb hby at_208) (pc' := 211) rfl (by decide) (by decide) ?_
        intro h180 a181 g182 l183 E184 X185 D186 S187 C188
        have KE184 := Keep.ofExt E184; have zE184 := E184.1
        have f189 : Fld Z h180 a181 "com/example/kunci/kunci/TestOutcome" "question" "Ljava/lang/String;" .null := D186 (Or.inr (wd_49 g)) (ty := (.object "java/lang/String")) (by decide)
        have f190 : Fld Z h180 a181 "com/example/kunci/kunci/TestOutcome" "expected" "Ljava/lang/String;" .null := D186 (Or.inr (wd_51 g)) (ty := (.object "java/lang/String")) (by decide)
        have f191 : Fld Z h180 a181 "com/example/kunci/kunci/TestOutcome" "answer" "Ljava/lang/String;" .null := D186 (Or.inr (wd_53 g)) (ty := (.object "java/lang/String")) (by decide)
        refine Go.dup (hb hby at_211) (pc' := 212) rfl rfl ?_
        refine Go.aload (hb hby at_212) (pc' := 214) rfl rfl rfl ?_
        refine Go.aload (hb hby at_214) (pc' := 216) rfl rfl rfl ?_
        refine Go.aload (hb hby at_216) (pc' := 218) rfl rfl rfl ?_
        refine Go.callC (c_outcome (l := l) (nw := nw) g h180 a181 (.ref r_179) (.ref r_177) (.ref r_178) rfl rfl rfl (by first | omega | assumption | decide) X185 f189 f190 f191 (by omega)) hown rfl rfl (wd_44 g) (wd_45 g) (wd_46 g) (wd_43 g) (by decide) (argsL := [(.ref r_179), (.ref r_177), (.ref r_178)]) (lenOf pd_12 rfl) rfl (by rw [hml]; rfl) (W := 1) rfl (hb hby at_218) (pc' := 221) rfl (by decide) (by decide) (by decide) (by decide) all0 ?_
        rintro _ vm192 h192 ⟨rfl, K192, o192_0, o192_1, o192_2⟩ C192
        have z192 := K192.1
        -- pc 221
        refine Go.astore (hb hby at_221) (pc' := 223) rfl rfl (L' := #[.val (.int i0), .val (.int i1), .val (.int i2), .val (.int i3), .val (.int lE), .val (.int lA), .val (.int lQ), .val (.int (1 : Int32)), .val (.int (0 : Int32)), .val (.int (0 : Int32)), .val (.int (i0 &&& (255 : Int32))), .val (.int ((XT.ushr i0 (8 : Int32)) &&& (255 : Int32))), .val (.int (i0 &&& (255 : Int32))), .val (.int ((XT.ushr i1 (8 : Int32)) &&& (255 : Int32))), .val (.int (i2 &&& (255 : Int32))), .val (.int ((XT.ushr i2 (8 : Int32)) &&& (255 : Int32))), .val (.ref r_177), .val (.ref r_178), .val (.ref r_179), .val (.ref a181), .unset]) rfl ?_
        refine Go.iload (hb hby at_223) (pc' := 225) rfl rfl ?_
        refine Go.iload (hb hby at_225) (pc' := 227) rfl rfl ?_
        refine Go.icmp (hb hby at_227) (by decide) (pc' := 260) (by decide) (pc2 := 230) rfl (fun (q227 : ¬ lE = lA) => ?_) (fun (q227 : ¬ (¬ lE = lA)) => ?_)
        · refine Go.iconst (hb hby at_260) (pc' := 261) rfl (z := (0 : Int32)) rfl ?_
          refine Go.istore (hb hby at_261) (pc' := 263) rfl (L' := #[.val (.int i0), .val (.int i1), .val (.int i2), .val (.int i3), .val (.int lE), .val (.int lA), .val (.int lQ), .val (.int (1 : Int32)), .val (.int (0 : Int32)), .val (.int (0 : Int32)), .val (.int (i0 &&& (255 : Int32))), .val (.int ((XT.ushr i0 (8 : Int32)) &&& (255 : Int32))), .val (.int (i0 &&& (255 : Int32))), .val (.int ((XT.ushr i1 (8 : Int32)) &&& (255 : Int32))), .val (.int (i2 &&& (255 : Int32))), .val (.int ((XT.ushr i2 (8 : Int32)) &&& (255 : Int32))), .val (.ref r_177), .val (.ref r_178), .val (.ref r_179), .val (.ref a181), .val (.int (0 : Int32))]) rfl ?_
          refine Go.aload (hb hby at_263) (pc' := 265) rfl rfl rfl ?_
          have f193 : St Z h192 r_177 d_177 kd_177 (mkS lE (i0 &&& (255 : Int32)) ((XT.ushr i0 (8 : Int32)) &&& (255 : Int32))) := ((((o177_0.keep K178 nin0 nin0).keep K179 nin0 nin0).keep KE184 nin0 nin0).keep K192 (ninS (Exa.ne (((o177_0.keep K178 nin0 nin0).keep K179 nin0 nin0).keep KE184 nin0 nin0).1 X185 (by decide)) nin0) (ninS (Ne.symm (Ar.ne_exa (((o177_0.keep K178 nin0 nin0).keep K179 nin0 nin0).keep KE184 nin0 nin0).2.2.2.1 X185 (wd_42 g))) nin0))
          have f194 : St Z h192 r_178 d_178 kd_178 (mkS lA (i0 &&& (255 : Int32)) ((XT.ushr i1 (8 : Int32)) &&& (255 : Int32))) := (((o178_0.keep K179 nin0 nin0).keep KE184 nin0 nin0).keep K192 (ninS (Exa.ne ((o178_0.keep K179 nin0 nin0).keep KE184 nin0 nin0).1 X185 (by decide)) nin0) (ninS (Ne.symm (Ar.ne_exa ((o178_0.keep K179 nin0 nin0).keep KE184 nin0 nin0).2.2.2.1 X185 (wd_42 g))) nin0))
          have f195 : Exa Z h192 a181 "com/example/kunci/kunci/TestOutcome" := (X185.keep K192)
          refine Go.callV (y0 := ⟨"com/example/kunci/kunci/TestOutcome", "isPassed", "()Z"⟩) (c_isPassed (l := l) (nw := nw) g h192 a181 r_177 d_177 kd_177 (mkS lE (i0 &&& (255 : Int32)) ((XT.ushr i0 (8 : Int32)) &&& (255 : Int32))) r_178 d_178 kd_178 (mkS lA (i0 &&& (255 : Int32)) ((XT.ushr i1 (8 : Int32)) &&& (255 : Int32))) o192_1 o192_2 f193 f194 (by omega)) hown (wd_54 g) (wd_55 g) (notFace_of_selects (wd_57 g)) (wd_57 g) (wd_56 g) f195 (wd_58 g) (wd_43 g) (by decide) (argsL := []) (lenOf pd_13 rfl) rfl (by rw [hml]; rfl) (W := 0) rfl (hb hby at_265) (pc' := 268) rfl (by decide) (by decide) (by decide) (by decide) all0 ?_
          rintro _ vm196 h196 ⟨rfl, K196⟩ C196
          have z196 := K196.1
          -- pc 268
          refine Go.iload (hb hby at_268) (pc' := 270) rfl rfl ?_
          refine Go.icmpN (hb hby at_270) (pc' := 273) rfl (fun z => z (by rw [mkS_bo blE blA (m255 _) (m255 _) (m255 _) (m255 _)]; exact bo_no (fun z => q227 z.1))) ?_
          refine Go.iconst (hb hby at_273) (pc' := 274) rfl (z := (1 : Int32)) rfl ?_
          refine Go.goto (hb hby at_274) (by decide) (pc' := 278) (by decide) ?_
          refine Go.retN (t := .boolean) hret (by simp) (hb hby at_278) (by decide) (by decide) ?_
          intro vmR CR
          exact ⟨(by first | rfl | (simp only [own_nar]; done) | (congr 2; done)), (((((((Keep.refl h []).trans K177 all0).trans K178 all0).trans K179 all0).trans KE184 all0).trans K192 (allS (by first | (left; simp; done) | (right; omega)) all0)).trans K196 all0)⟩
        · refine Go.iload (hb hby at_230) (pc' := 232) rfl rfl ?_
          refine Go.iconst (hb hby at_232) (pc' := 233) rfl (z := (1 : Int32)) rfl ?_
          refine Go.icmp (hb hby at_233) (by decide) (pc' := 243) (by decide) (pc2 := 236) rfl (fun (q233 : lE < (1 : Int32)) => ?_) (fun (q233 : ¬ (lE < (1 : Int32))) => ?_)
          · refine Go.iload (hb hby at_243) (pc' := 245) rfl rfl ?_
            refine Go.iconst (hb hby at_245) (pc' := 246) rfl (z := (2 : Int32)) rfl ?_
            refine Go.icmp (hb hby at_246) (by decide) (pc' := 256) (by decide) (pc2 := 249) rfl (fun (q246 : lE < (2 : Int32)) => ?_) (fun (q246 : ¬ (lE < (2 : Int32))) => ?_)
            · refine Go.iconst (hb hby at_256) (pc' := 257) rfl (z := (1 : Int32)) rfl ?_
              refine Go.goto (hb hby at_257) (by decide) (pc' := 261) (by decide) ?_
              refine Go.istore (hb hby at_261) (pc' := 263) rfl (L' := #[.val (.int i0), .val (.int i1), .val (.int i2), .val (.int i3), .val (.int lE), .val (.int lA), .val (.int lQ), .val (.int (1 : Int32)), .val (.int (0 : Int32)), .val (.int (0 : Int32)), .val (.int (i0 &&& (255 : Int32))), .val (.int ((XT.ushr i0 (8 : Int32)) &&& (255 : Int32))), .val (.int (i0 &&& (255 : Int32))), .val (.int ((XT.ushr i1 (8 : Int32)) &&& (255 : Int32))), .val (.int (i2 &&& (255 : Int32))), .val (.int ((XT.ushr i2 (8 : Int32)) &&& (255 : Int32))), .val (.ref r_177), .val (.ref r_178), .val (.ref r_179), .val (.ref a181), .val (.int (1 : Int32))]) rfl ?_
              refine Go.aload (hb hby at_263) (pc' := 265) rfl rfl rfl ?_
              have f197 : St Z h192 r_177 d_177 kd_177 (mkS lE (i0 &&& (255 : Int32)) ((XT.ushr i0 (8 : Int32)) &&& (255 : Int32))) := ((((o177_0.keep K178 nin0 nin0).keep K179 nin0 nin0).keep KE184 nin0 nin0).keep K192 (ninS (Exa.ne (((o177_0.keep K178 nin0 nin0).keep K179 nin0 nin0).keep KE184 nin0 nin0).1 X185 (by decide)) nin0) (ninS (Ne.symm (Ar.ne_exa (((o177_0.keep K178 nin0 nin0).keep K179 nin0 nin0).keep KE184 nin0 nin0).2.2.2.1 X185 (wd_42 g))) nin0))
              have f198 : St Z h192 r_178 d_178 kd_178 (mkS lA (i0 &&& (255 : Int32)) ((XT.ushr i1 (8 : Int32)) &&& (255 : Int32))) := (((o178_0.keep K179 nin0 nin0).keep KE184 nin0 nin0).keep K192 (ninS (Exa.ne ((o178_0.keep K179 nin0 nin0).keep KE184 nin0 nin0).1 X185 (by decide)) nin0) (ninS (Ne.symm (Ar.ne_exa ((o178_0.keep K179 nin0 nin0).keep KE184 nin0 nin0).2.2.2.1 X185 (wd_42 g))) nin0))
              have f199 : Exa Z h192 a181 "com/example/kunci/kunci/TestOutcome" := (X185.keep K192)
              refine Go.callV (y0 := ⟨"com/example/kunci/kunci/TestOutcome", "isPassed", "()Z"⟩) (c_isPassed (l := l) (nw := nw) g h192 a181 r_177 d_177 kd_177 (mkS lE (i0 &&& (255 : Int32)) ((XT.ushr i0 (8 : Int32)) &&& (255 : Int32))) r_178 d_178 kd_178 (mkS lA (i0 &&& (255 : Int32)) ((XT.ushr i1 (8 : Int32)) &&& (255 : Int32))) o192_1 o192_2 f197 f198 (by omega)) hown (wd_54 g) (wd_55 g) (notFace_of_selects (wd_57 g)) (wd_57 g) (wd_56 g) f199 (wd_58 g) (wd_43 g) (by decide) (argsL := []) (lenOf pd_13 rfl) rfl (by rw [hml]; rfl) (W := 0) rfl (hb hby at_265) (pc' := 268) rfl (by decide) (by decide) (by decide) (by decide) all0 ?_
              rintro _ vm200 h200 ⟨rfl, K200⟩ C200
              have z200 := K200.1
              -- pc 268
              refine Go.iload (hb hby at_268) (pc' := 270) rfl rfl ?_
              refine Go.icmpN (hb hby at_270) (pc' := 273) rfl (fun z => z (by rw [mkS_bo blE blA (m255 _) (m255 _) (m255 _) (m255 _)]; exact bo_yes ⟨Classical.not_not.mp q227, Or.inl q233, Or.inl q246⟩)) ?_
              refine Go.iconst (hb hby at_273) (pc' := 274) rfl (z := (1 : Int32)) rfl ?_
              refine Go.goto (hb hby at_274) (by decide) (pc' := 278) (by decide) ?_
              refine Go.retN (t := .boolean) hret (by simp) (hb hby at_278) (by decide) (by decide) ?_
              intro vmR CR
              exact ⟨(by first | rfl | (simp only [own_nar]; done) | (congr 2; done)), (((((((Keep.refl h []).trans K177 all0).trans K178 all0).trans K179 all0).trans KE184 all0).trans K192 (allS (by first | (left; simp; done) | (right; omega)) all0)).trans K200 all0)⟩
            · refine Go.iload (hb hby at_249) (pc' := 251) rfl rfl ?_
              refine Go.iload (hb hby at_251) (pc' := 253) rfl rfl ?_
              refine Go.icmp (hb hby at_253) (by decide) (pc' := 260) (by decide) (pc2 := 256) rfl (fun (q253 : ¬ ((XT.ushr i0 (8 : Int32)) &&& (255 : Int32)) = ((XT.ushr i1 (8 : Int32)) &&& (255 : Int32))) => ?_) (fun (q253 : ¬ (¬ ((XT.ushr i0 (8 : Int32)) &&& (255 : Int32)) = ((XT.ushr i1 (8 : Int32)) &&& (255 : Int32)))) => ?_)
              · refine Go.iconst (hb hby at_260) (pc' := 261) rfl (z := (0 : Int32)) rfl ?_
                refine Go.istore (hb hby at_261) (pc' := 263) rfl (L' := #[.val (.int i0), .val (.int i1), .val (.int i2), .val (.int i3), .val (.int lE), .val (.int lA), .val (.int lQ), .val (.int (1 : Int32)), .val (.int (0 : Int32)), .val (.int (0 : Int32)), .val (.int (i0 &&& (255 : Int32))), .val (.int ((XT.ushr i0 (8 : Int32)) &&& (255 : Int32))), .val (.int (i0 &&& (255 : Int32))), .val (.int ((XT.ushr i1 (8 : Int32)) &&& (255 : Int32))), .val (.int (i2 &&& (255 : Int32))), .val (.int ((XT.ushr i2 (8 : Int32)) &&& (255 : Int32))), .val (.ref r_177), .val (.ref r_178), .val (.ref r_179), .val (.ref a181), .val (.int (0 : Int32))]) rfl ?_
                refine Go.aload (hb hby at_263) (pc' := 265) rfl rfl rfl ?_
                have f201 : St Z h192 r_177 d_177 kd_177 (mkS lE (i0 &&& (255 : Int32)) ((XT.ushr i0 (8 : Int32)) &&& (255 : Int32))) := ((((o177_0.keep K178 nin0 nin0).keep K179 nin0 nin0).keep KE184 nin0 nin0).keep K192 (ninS (Exa.ne (((o177_0.keep K178 nin0 nin0).keep K179 nin0 nin0).keep KE184 nin0 nin0).1 X185 (by decide)) nin0) (ninS (Ne.symm (Ar.ne_exa (((o177_0.keep K178 nin0 nin0).keep K179 nin0 nin0).keep KE184 nin0 nin0).2.2.2.1 X185 (wd_42 g))) nin0))
                have f202 : St Z h192 r_178 d_178 kd_178 (mkS lA (i0 &&& (255 : Int32)) ((XT.ushr i1 (8 : Int32)) &&& (255 : Int32))) := (((o178_0.keep K179 nin0 nin0).keep KE184 nin0 nin0).keep K192 (ninS (Exa.ne ((o178_0.keep K179 nin0 nin0).keep KE184 nin0 nin0).1 X185 (by decide)) nin0) (ninS (Ne.symm (Ar.ne_exa ((o178_0.keep K179 nin0 nin0).keep KE184 nin0 nin0).2.2.2.1 X185 (wd_42 g))) nin0))
                have f203 : Exa Z h192 a181 "com/example/kunci/kunci/TestOutcome" := (X185.keep K192)
                refine Go.callV (y0 := ⟨"com/example/kunci/kunci/TestOutcome", "isPassed", "()Z"⟩) (c_isPassed (l := l) (nw := nw) g h192 a181 r_177 d_177 kd_177 (mkS lE (i0 &&& (255 : Int32)) ((XT.ushr i0 (8 : Int32)) &&& (255 : Int32))) r_178 d_178 kd_178 (mkS lA (i0 &&& (255 : Int32)) ((XT.ushr i1 (8 : Int32)) &&& (255 : Int32))) o192_1 o192_2 f201 f202 (by omega)) hown (wd_54 g) (wd_55 g) (notFace_of_selects (wd_57 g)) (wd_57 g) (wd_56 g) f203 (wd_58 g) (wd_43 g) (by decide) (argsL := []) (lenOf pd_13 rfl) rfl (by rw [hml]; rfl) (W := 0) rfl (hb hby at_265) (pc' := 268) rfl (by decide) (by decide) (by decide) (by decide) all0 ?_
                rintro _ vm204 h204 ⟨rfl, K204⟩ C204
                have z204 := K204.1
                -- pc 268
                refine Go.iload (hb hby at_268) (pc' := 270) rfl rfl ?_
                refine Go.icmpN (hb hby at_270) (pc' := 273) rfl (fun z => z (by rw [mkS_bo blE blA (m255 _) (m255 _) (m255 _) (m255 _)]; exact bo_no (fun z => z.2.2.elim q246 q253))) ?_
                refine Go.iconst (hb hby at_273) (pc' := 274) rfl (z := (1 : Int32)) rfl ?_
                refine Go.goto (hb hby at_274) (by decide) (pc' := 278) (by decide) ?_
                refine Go.retN (t := .boolean) hret (by simp) (hb hby at_278) (by decide) (by decide) ?_
                intro vmR CR
                exact ⟨(by first | rfl | (simp only [own_nar]; done) | (congr 2; done)), (((((((Keep.refl h []).trans K177 all0).trans K178 all0).trans K179 all0).trans KE184 all0).trans K192 (allS (by first | (left; simp; done) | (right; omega)) all0)).trans K204 all0)⟩
              · refine Go.iconst (hb hby at_256) (pc' := 257) rfl (z := (1 : Int32)) rfl ?_
                refine Go.goto (hb hby at_257) (by decide) (pc' := 261) (by decide) ?_
                refine Go.istore (hb hby at_261) (pc' := 263) rfl (L' := #[.val (.int i0), .val (.int i1), .val (.int i2), .val (.int i3), .val (.int lE), .val (.int lA), .val (.int lQ), .val (.int (1 : Int32)), .val (.int (0 : Int32)), .val (.int (0 : Int32)), .val (.int (i0 &&& (255 : Int32))), .val (.int ((XT.ushr i0 (8 : Int32)) &&& (255 : Int32))), .val (.int (i0 &&& (255 : Int32))), .val (.int ((XT.ushr i1 (8 : Int32)) &&& (255 : Int32))), .val (.int (i2 &&& (255 : Int32))), .val (.int ((XT.ushr i2 (8 : Int32)) &&& (255 : Int32))), .val (.ref r_177), .val (.ref r_178), .val (.ref r_179), .val (.ref a181), .val (.int (1 : Int32))]) rfl ?_
                refine Go.aload (hb hby at_263) (pc' := 265) rfl rfl rfl ?_
                have f205 : St Z h192 r_177 d_177 kd_177 (mkS lE (i0 &&& (255 : Int32)) ((XT.ushr i0 (8 : Int32)) &&& (255 : Int32))) := ((((o177_0.keep K178 nin0 nin0).keep K179 nin0 nin0).keep KE184 nin0 nin0).keep K192 (ninS (Exa.ne (((o177_0.keep K178 nin0 nin0).keep K179 nin0 nin0).keep KE184 nin0 nin0).1 X185 (by decide)) nin0) (ninS (Ne.symm (Ar.ne_exa (((o177_0.keep K178 nin0 nin0).keep K179 nin0 nin0).keep KE184 nin0 nin0).2.2.2.1 X185 (wd_42 g))) nin0))
                have f206 : St Z h192 r_178 d_178 kd_178 (mkS lA (i0 &&& (255 : Int32)) ((XT.ushr i1 (8 : Int32)) &&& (255 : Int32))) := (((o178_0.keep K179 nin0 nin0).keep KE184 nin0 nin0).keep K192 (ninS (Exa.ne ((o178_0.keep K179 nin0 nin0).keep KE184 nin0 nin0).1 X185 (by decide)) nin0) (ninS (Ne.symm (Ar.ne_exa ((o178_0.keep K179 nin0 nin0).keep KE184 nin0 nin0).2.2.2.1 X185 (wd_42 g))) nin0))
                have f207 : Exa Z h192 a181 "com/example/kunci/kunci/TestOutcome" := (X185.keep K192)
                refine Go.callV (y0 := ⟨"com/example/kunci/kunci/TestOutcome", "isPassed", "()Z"⟩) (c_isPassed (l := l) (nw := nw) g h192 a181 r_177 d_177 kd_177 (mkS lE (i0 &&& (255 : Int32)) ((XT.ushr i0 (8 : Int32)) &&& (255 : Int32))) r_178 d_178 kd_178 (mkS lA (i0 &&& (255 : Int32)) ((XT.ushr i1 (8 : Int32)) &&& (255 : Int32))) o192_1 o192_2 f205 f206 (by omega)) hown (wd_54 g) (wd_55 g) (notFace_of_selects (wd_57 g)) (wd_57 g) (wd_56 g) f207 (wd_58 g) (wd_43 g) (by decide) (argsL := []) (lenOf pd_13 rfl) rfl (by rw [hml]; rfl) (W := 0) rfl (hb hby at_265) (pc' := 268) rfl (by decide) (by decide) (by decide) (by decide) all0 ?_
                rintro _ vm208 h208 ⟨rfl, K208⟩ C208
                have z208 := K208.1
                -- pc 268
                refine Go.iload (hb hby at_268) (pc' := 270) rfl rfl ?_
                refine Go.icmpN (hb hby at_270) (pc' := 273) rfl (fun z => z (by rw [mkS_bo blE blA (m255 _) (m255 _) (m255 _) (m255 _)]; exact bo_yes ⟨Classical.not_not.mp q227, Or.inl q233, Or.inr (Classical.not_not.mp q253)⟩)) ?_
                refine Go.iconst (hb hby at_273) (pc' := 274) rfl (z := (1 : Int32)) rfl ?_
                refine Go.goto (hb hby at_274) (by decide) (pc' := 278) (by decide) ?_
                refine Go.retN (t := .boolean) hret (by simp) (hb hby at_278) (by decide) (by decide) ?_
                intro vmR CR
                exact ⟨(by first | rfl | (simp only [own_nar]; done) | (congr 2; done)), (((((((Keep.refl h []).trans K177 all0).trans K178 all0).trans K179 all0).trans KE184 all0).trans K192 (allS (by first | (left; simp; done) | (right; omega)) all0)).trans K208 all0)⟩
          · refine Go.iload (hb hby at_236) (pc' := 238) rfl rfl ?_
            refine Go.iload (hb hby at_238) (pc' := 240) rfl rfl ?_
            refine Go.icmpN (hb hby at_240) (pc' := 243) rfl (fun q => q rfl) ?_
            refine Go.iload (hb hby at_243) (pc' := 245) rfl rfl ?_
            refine Go.iconst (hb hby at_245) (pc' := 246) rfl (z := (2 : Int32)) rfl ?_
            refine Go.icmp (hb hby at_246) (by decide) (pc' := 256) (by decide) (pc2 := 249) rfl (fun (q246 : lE < (2 : Int32)) => ?_) (fun (q246 : ¬ (lE < (2 : Int32))) => ?_)
            · refine Go.iconst (hb hby at_256) (pc' := 257) rfl (z := (1 : Int32)) rfl ?_
              refine Go.goto (hb hby at_257) (by decide) (pc' := 261) (by decide) ?_
              refine Go.istore (hb hby at_261) (pc' := 263) rfl (L' := #[.val (.int i0), .val (.int i1), .val (.int i2), .val (.int i3), .val (.int lE), .val (.int lA), .val (.int lQ), .val (.int (1 : Int32)), .val (.int (0 : Int32)), .val (.int (0 : Int32)), .val (.int (i0 &&& (255 : Int32))), .val (.int ((XT.ushr i0 (8 : Int32)) &&& (255 : Int32))), .val (.int (i0 &&& (255 : Int32))), .val (.int ((XT.ushr i1 (8 : Int32)) &&& (255 : Int32))), .val (.int (i2 &&& (255 : Int32))), .val (.int ((XT.ushr i2 (8 : Int32)) &&& (255 : Int32))), .val (.ref r_177), .val (.ref r_178), .val (.ref r_179), .val (.ref a181), .val (.int (1 : Int32))]) rfl ?_
              refine Go.aload (hb hby at_263) (pc' := 265) rfl rfl rfl ?_
              have f209 : St Z h192 r_177 d_177 kd_177 (mkS lE (i0 &&& (255 : Int32)) ((XT.ushr i0 (8 : Int32)) &&& (255 : Int32))) := ((((o177_0.keep K178 nin0 nin0).keep K179 nin0 nin0).keep KE184 nin0 nin0).keep K192 (ninS (Exa.ne (((o177_0.keep K178 nin0 nin0).keep K179 nin0 nin0).keep KE184 nin0 nin0).1 X185 (by decide)) nin0) (ninS (Ne.symm (Ar.ne_exa (((o177_0.keep K178 nin0 nin0).keep K179 nin0 nin0).keep KE184 nin0 nin0).2.2.2.1 X185 (wd_42 g))) nin0))
              have f210 : St Z h192 r_178 d_178 kd_178 (mkS lA (i0 &&& (255 : Int32)) ((XT.ushr i1 (8 : Int32)) &&& (255 : Int32))) := (((o178_0.keep K179 nin0 nin0).keep KE184 nin0 nin0).keep K192 (ninS (Exa.ne ((o178_0.keep K179 nin0 nin0).keep KE184 nin0 nin0).1 X185 (by decide)) nin0) (ninS (Ne.symm (Ar.ne_exa ((o178_0.keep K179 nin0 nin0).keep KE184 nin0 nin0).2.2.2.1 X185 (wd_42 g))) nin0))
              have f211 : Exa Z h192 a181 "com/example/kunci/kunci/TestOutcome" := (X185.keep K192)
              refine Go.callV (y0 := ⟨"com/example/kunci/kunci/TestOutcome", "isPassed", "()Z"⟩) (c_isPassed (l := l) (nw := nw) g h192 a181 r_177 d_177 kd_177 (mkS lE (i0 &&& (255 : Int32)) ((XT.ushr i0 (8 : Int32)) &&& (255 : Int32))) r_178 d_178 kd_178 (mkS lA (i0 &&& (255 : Int32)) ((XT.ushr i1 (8 : Int32)) &&& (255 : Int32))) o192_1 o192_2 f209 f210 (by omega)) hown (wd_54 g) (wd_55 g) (notFace_of_selects (wd_57 g)) (wd_57 g) (wd_56 g) f211 (wd_58 g) (wd_43 g) (by decide) (argsL := []) (lenOf pd_13 rfl) rfl (by rw [hml]; rfl) (W := 0) rfl (hb hby at_265) (pc' := 268) rfl (by decide) (by decide) (by decide) (by decide) all0 ?_
              rintro _ vm212 h212 ⟨rfl, K212⟩ C212
              have z212 := K212.1
              -- pc 268
              refine Go.iload (hb hby at_268) (pc' := 270) rfl rfl ?_
              refine Go.icmpN (hb hby at_270) (pc' := 273) rfl (fun z => z (by rw [mkS_bo blE blA (m255 _) (m255 _) (m255 _) (m255 _)]; exact bo_yes ⟨Classical.not_not.mp q227, Or.inr rfl, Or.inl q246⟩)) ?_
              refine Go.iconst (hb hby at_273) (pc' := 274) rfl (z := (1 : Int32)) rfl ?_
              refine Go.goto (hb hby at_274) (by decide) (pc' := 278) (by decide) ?_
              refine Go.retN (t := .boolean) hret (by simp) (hb hby at_278) (by decide) (by decide) ?_
              intro vmR CR
              exact ⟨(by first | rfl | (simp only [own_nar]; done) | (congr 2; done)), (((((((Keep.refl h []).trans K177 all0).trans K178 all0).trans K179 all0).trans KE184 all0).trans K192 (allS (by first | (left; simp; done) | (right; omega)) all0)).trans K212 all0)⟩
            · refine Go.iload (hb hby at_249) (pc' := 251) rfl rfl ?_
              refine Go.iload (hb hby at_251) (pc' := 253) rfl rfl ?_
              refine Go.icmp (hb hby at_253) (by decide) (pc' := 260) (by decide) (pc2 := 256) rfl (fun (q253 : ¬ ((XT.ushr i0 (8 : Int32)) &&& (255 : Int32)) = ((XT.ushr i1 (8 : Int32)) &&& (255 : Int32))) => ?_) (fun (q253 : ¬ (¬ ((XT.ushr i0 (8 : Int32)) &&& (255 : Int32)) = ((XT.ushr i1 (8 : Int32)) &&& (255 : Int32)))) => ?_)
              · refine Go.iconst (hb hby at_260) (pc' := 261) rfl (z := (0 : Int32)) rfl ?_
                refine Go.istore (hb hby at_261) (pc' := 263) rfl (L' := #[.val (.int i0), .val (.int i1), .val (.int i2), .val (.int i3), .val (.int lE), .val (.int lA), .val (.int lQ), .val (.int (1 : Int32)), .val (.int (0 : Int32)), .val (.int (0 : Int32)), .val (.int (i0 &&& (255 : Int32))), .val (.int ((XT.ushr i0 (8 : Int32)) &&& (255 : Int32))), .val (.int (i0 &&& (255 : Int32))), .val (.int ((XT.ushr i1 (8 : Int32)) &&& (255 : Int32))), .val (.int (i2 &&& (255 : Int32))), .val (.int ((XT.ushr i2 (8 : Int32)) &&& (255 : Int32))), .val (.ref r_177), .val (.ref r_178), .val (.ref r_179), .val (.ref a181), .val (.int (0 : Int32))]) rfl ?_
                refine Go.aload (hb hby at_263) (pc' := 265) rfl rfl rfl ?_
                have f213 : St Z h192 r_177 d_177 kd_177 (mkS lE (i0 &&& (255 : Int32)) ((XT.ushr i0 (8 : Int32)) &&& (255 : Int32))) := ((((o177_0.keep K178 nin0 nin0).keep K179 nin0 nin0).keep KE184 nin0 nin0).keep K192 (ninS (Exa.ne (((o177_0.keep K178 nin0 nin0).keep K179 nin0 nin0).keep KE184 nin0 nin0).1 X185 (by decide)) nin0) (ninS (Ne.symm (Ar.ne_exa (((o177_0.keep K178 nin0 nin0).keep K179 nin0 nin0).keep KE184 nin0 nin0).2.2.2.1 X185 (wd_42 g))) nin0))
                have f214 : St Z h192 r_178 d_178 kd_178 (mkS lA (i0 &&& (255 : Int32)) ((XT.ushr i1 (8 : Int32)) &&& (255 : Int32))) := (((o178_0.keep K179 nin0 nin0).keep KE184 nin0 nin0).keep K192 (ninS (Exa.ne ((o178_0.keep K179 nin0 nin0).keep KE184 nin0 nin0).1 X185 (by decide)) nin0) (ninS (Ne.symm (Ar.ne_exa ((o178_0.keep K179 nin0 nin0).keep KE184 nin0 nin0).2.2.2.1 X185 (wd_42 g))) nin0))
                have f215 : Exa Z h192 a181 "com/example/kunci/kunci/TestOutcome" := (X185.keep K192)
                refine Go.callV (y0 := ⟨"com/example/kunci/kunci/TestOutcome", "isPassed", "()Z"⟩) (c_isPassed (l := l) (nw := nw) g h192 a181 r_177 d_177 kd_177 (mkS lE (i0 &&& (255 : Int32)) ((XT.ushr i0 (8 : Int32)) &&& (255 : Int32))) r_178 d_178 kd_178 (mkS lA (i0 &&& (255 : Int32)) ((XT.ushr i1 (8 : Int32)) &&& (255 : Int32))) o192_1 o192_2 f213 f214 (by omega)) hown (wd_54 g) (wd_55 g) (notFace_of_selects (wd_57 g)) (wd_57 g) (wd_56 g) f215 (wd_58 g) (wd_43 g) (by decide) (argsL := []) (lenOf pd_13 rfl) rfl (by rw [hml]; rfl) (W := 0) rfl (hb hby at_265) (pc' := 268) rfl (by decide) (by decide) (by decide) (by decide) all0 ?_
                rintro _ vm216 h216 ⟨rfl, K216⟩ C216
                have z216 := K216.1
                -- pc 268
                refine Go.iload (hb hby at_268) (pc' := 270) rfl rfl ?_
                refine Go.icmpN (hb hby at_270) (pc' := 273) rfl (fun z => z (by rw [mkS_bo blE blA (m255 _) (m255 _) (m255 _) (m255 _)]; exact bo_no (fun z => z.2.2.elim q246 q253))) ?_
                refine Go.iconst (hb hby at_273) (pc' := 274) rfl (z := (1 : Int32)) rfl ?_
                refine Go.goto (hb hby at_274) (by decide) (pc' := 278) (by decide) ?_
                refine Go.retN (t := .boolean) hret (by simp) (hb hby at_278) (by decide) (by decide) ?_
                intro vmR CR
                exact ⟨(by first | rfl | (simp only [own_nar]; done) | (congr 2; done)), (((((((Keep.refl h []).trans K177 all0).trans K178 all0).trans K179 all0).trans KE184 all0).trans K192 (allS (by first | (left; simp; done) | (right; omega)) all0)).trans K216 all0)⟩
              · refine Go.iconst (hb hby at_256) (pc' := 257) rfl (z := (1 : Int32)) rfl ?_
                refine Go.goto (hb hby at_257) (by decide) (pc' := 261) (by decide) ?_
                refine Go.istore (hb hby at_261) (pc' := 263) rfl (L' := #[.val (.int i0), .val (.int i1), .val (.int i2), .val (.int i3), .val (.int lE), .val (.int lA), .val (.int lQ), .val (.int (1 : Int32)), .val (.int (0 : Int32)), .val (.int (0 : Int32)), .val (.int (i0 &&& (255 : Int32))), .val (.int ((XT.ushr i0 (8 : Int32)) &&& (255 : Int32))), .val (.int (i0 &&& (255 : Int32))), .val (.int ((XT.ushr i1 (8 : Int32)) &&& (255 : Int32))), .val (.int (i2 &&& (255 : Int32))), .val (.int ((XT.ushr i2 (8 : Int32)) &&& (255 : Int32))), .val (.ref r_177), .val (.ref r_178), .val (.ref r_179), .val (.ref a181), .val (.int (1 : Int32))]) rfl ?_
                refine Go.aload (hb hby at_263) (pc' := 265) rfl rfl rfl ?_
                have f217 : St Z h192 r_177 d_177 kd_177 (mkS lE (i0 &&& (255 : Int32)) ((XT.ushr i0 (8 : Int32)) &&& (255 : Int32))) := ((((o177_0.keep K178 nin0 nin0).keep K179 nin0 nin0).keep KE184 nin0 nin0).keep K192 (ninS (Exa.ne (((o177_0.keep K178 nin0 nin0).keep K179 nin0 nin0).keep KE184 nin0 nin0).1 X185 (by decide)) nin0) (ninS (Ne.symm (Ar.ne_exa (((o177_0.keep K178 nin0 nin0).keep K179 nin0 nin0).keep KE184 nin0 nin0).2.2.2.1 X185 (wd_42 g))) nin0))
                have f218 : St Z h192 r_178 d_178 kd_178 (mkS lA (i0 &&& (255 : Int32)) ((XT.ushr i1 (8 : Int32)) &&& (255 : Int32))) := (((o178_0.keep K179 nin0 nin0).keep KE184 nin0 nin0).keep K192 (ninS (Exa.ne ((o178_0.keep K179 nin0 nin0).keep KE184 nin0 nin0).1 X185 (by decide)) nin0) (ninS (Ne.symm (Ar.ne_exa ((o178_0.keep K179 nin0 nin0).keep KE184 nin0 nin0).2.2.2.1 X185 (wd_42 g))) nin0))
                have f219 : Exa Z h192 a181 "com/example/kunci/kunci/TestOutcome" := (X185.keep K192)
                refine Go.callV (y0 := ⟨"com/example/kunci/kunci/TestOutcome", "isPassed", "()Z"⟩) (c_isPassed (l := l) (nw := nw) g h192 a181 r_177 d_177 kd_177 (mkS lE (i0 &&& (255 : Int32)) ((XT.ushr i0 (8 : Int32)) &&& (255 : Int32))) r_178 d_178 kd_178 (mkS lA (i0 &&& (255 : Int32)) ((XT.ushr i1 (8 : Int32)) &&& (255 : Int32))) o192_1 o192_2 f217 f218 (by omega)) hown (wd_54 g) (wd_55 g) (notFace_of_selects (wd_57 g)) (wd_57 g) (wd_56 g) f219 (wd_58 g) (wd_43 g) (by decide) (argsL := []) (lenOf pd_13 rfl) rfl (by rw [hml]; rfl) (W := 0) rfl (hb hby at_265) (pc' := 268) rfl (by decide) (by decide) (by decide) (by decide) all0 ?_
                rintro _ vm220 h220 ⟨rfl, K220⟩ C220
                have z220 := K220.1
                -- pc 268
                refine Go.iload (hb hby at_268) (pc' := 270) rfl rfl ?_
                refine Go.icmpN (hb hby at_270) (pc' := 273) rfl (fun z => z (by rw [mkS_bo blE blA (m255 _) (m255 _) (m255 _) (m255 _)]; exact bo_yes ⟨Classical.not_not.mp q227, Or.inr rfl, Or.inr (Classical.not_not.mp q253)⟩)) ?_
                refine Go.iconst (hb hby at_273) (pc' := 274) rfl (z := (1 : Int32)) rfl ?_
                refine Go.goto (hb hby at_274) (by decide) (pc' := 278) (by decide) ?_
                refine Go.retN (t := .boolean) hret (by simp) (hb hby at_278) (by decide) (by decide) ?_
                intro vmR CR
                exact ⟨(by first | rfl | (simp only [own_nar]; done) | (congr 2; done)), (((((((Keep.refl h []).trans K177 all0).trans K178 all0).trans K179 all0).trans KE184 all0).trans K192 (allS (by first | (left; simp; done) | (right; omega)) all0)).trans K220 all0)⟩
      · refine Go.iconst (hb hby at_62) (pc' := 63) rfl (z := (1 : Int32)) rfl ?_
        refine Go.goto (hb hby at_63) (by decide) (pc' := 67) (by decide) ?_
        refine Go.istore (hb hby at_67) (pc' := 69) rfl (L' := #[.val (.int i0), .val (.int i1), .val (.int i2), .val (.int i3), .val (.int lE), .val (.int lA), .val (.int lQ), .val (.int (1 : Int32)), .val (.int (0 : Int32)), .val (.int (1 : Int32)), .unset, .unset, .unset, .unset, .unset, .unset, .unset, .unset, .unset, .unset, .unset]) rfl ?_
        refine Go.iloadN (hb hby at_69) (pc' := 70) rfl rfl ?_
        refine Go.sipush (hb hby at_70) (pc' := 73) rfl (z := (255 : Int32)) rfl ?_
        refine Go.iand (hb hby at_73) (pc' := 74) rfl ?_
        refine Go.i2c (hb hby at_74) (pc' := 75) rfl ?_
        rw [nch (m255 i0)]
        refine Go.istore (hb hby at_75) (pc' := 77) rfl (L' := #[.val (.int i0), .val (.int i1), .val (.int i2), .val (.int i3), .val (.int lE), .val (.int lA), .val (.int lQ), .val (.int (1 : Int32)), .val (.int (0 : Int32)), .val (.int (1 : Int32)), .val (.int (i0 &&& (255 : Int32))), .unset, .unset, .unset, .unset, .unset, .unset, .unset, .unset, .unset, .unset]) rfl ?_
        refine Go.iloadN (hb hby at_77) (pc' := 78) rfl rfl ?_
        refine Go.bipush (hb hby at_78) (pc' := 80) rfl (z := (8 : Int32)) rfl ?_
        refine Go.iushr (hb hby at_80) (pc' := 81) rfl ?_
        refine Go.sipush (hb hby at_81) (pc' := 84) rfl (z := (255 : Int32)) rfl ?_
        refine Go.iand (hb hby at_84) (pc' := 85) rfl ?_
        refine Go.i2c (hb hby at_85) (pc' := 86) rfl ?_
        rw [nch (m255 (XT.ushr i0 (8 : Int32)))]
        refine Go.istore (hb hby at_86) (pc' := 88) rfl (L' := #[.val (.int i0), .val (.int i1), .val (.int i2), .val (.int i3), .val (.int lE), .val (.int lA), .val (.int lQ), .val (.int (1 : Int32)), .val (.int (0 : Int32)), .val (.int (1 : Int32)), .val (.int (i0 &&& (255 : Int32))), .val (.int ((XT.ushr i0 (8 : Int32)) &&& (255 : Int32))), .unset, .unset, .unset, .unset, .unset, .unset, .unset, .unset, .unset]) rfl ?_
        refine Go.iload (hb hby at_88) (pc' := 90) rfl rfl ?_
        refine Go.ifN (hb hby at_90) (pc' := 93) rfl (show ¬ ((1 : Int32) = (0 : Int32)) from by decide) ?_
        refine Go.iload (hb hby at_93) (pc' := 95) rfl rfl ?_
        refine Go.goto (hb hby at_95) (by decide) (pc' := 104) (by decide) ?_
        refine Go.istore (hb hby at_104) (pc' := 106) rfl (L' := #[.val (.int i0), .val (.int i1), .val (.int i2), .val (.int i3), .val (.int lE), .val (.int lA), .val (.int lQ), .val (.int (1 : Int32)), .val (.int (0 : Int32)), .val (.int (1 : Int32)), .val (.int (i0 &&& (255 : Int32))), .val (.int ((XT.ushr i0 (8 : Int32)) &&& (255 : Int32))), .val (.int (i0 &&& (255 : Int32))), .unset, .unset, .unset, .unset, .unset, .unset, .unset, .unset]) rfl ?_
        refine Go.iload (hb hby at_106) (pc' := 108) rfl rfl ?_
        refine Go.ifY (hb hby at_108) (by decide) (pc' := 116) (by decide) (show (0 : Int32) = (0 : Int32) from by decide) ?_
        refine Go.iloadN (hb hby at_116) (pc' := 117) rfl rfl ?_
        refine Go.bipush (hb hby at_117) (pc' := 119) rfl (z := (8 : Int32)) rfl ?_
        refine Go.iushr (hb hby at_119) (pc' := 120) rfl ?_
        refine Go.sipush (hb hby at_120) (pc' := 123) rfl (z := (255 : Int32)) rfl ?_
        refine Go.iand (hb hby at_123) (pc' := 124) rfl ?_
        refine Go.i2c (hb hby at_124) (pc' := 125) rfl ?_
        rw [nch (m255 (XT.ushr i1 (8 : Int32)))]
        refine Go.istore (hb hby at_125) (pc' := 127) rfl (L' := #[.val (.int i0), .val (.int i1), .val (.int i2), .val (.int i3), .val (.int lE), .val (.int lA), .val (.int lQ), .val (.int (1 : Int32)), .val (.int (0 : Int32)), .val (.int (1 : Int32)), .val (.int (i0 &&& (255 : Int32))), .val (.int ((XT.ushr i0 (8 : Int32)) &&& (255 : Int32))), .val (.int (i0 &&& (255 : Int32))), .val (.int ((XT.ushr i1 (8 : Int32)) &&& (255 : Int32))), .unset, .unset, .unset, .unset, .unset, .unset, .unset]) rfl ?_
        refine Go.iload (hb hby at_127) (pc' := 129) rfl rfl ?_
        refine Go.ifN (hb hby at_129) (pc' := 132) rfl (show ¬ ((1 : Int32) = (0 : Int32)) from by decide) ?_
        refine Go.iload (hb hby at_132) (pc' := 134) rfl rfl ?_
        refine Go.goto (hb hby at_134) (by decide) (pc' := 143) (by decide) ?_
        refine Go.istore (hb hby at_143) (pc' := 145) rfl (L' := #[.val (.int i0), .val (.int i1), .val (.int i2), .val (.int i3), .val (.int lE), .val (.int lA), .val (.int lQ), .val (.int (1 : Int32)), .val (.int (0 : Int32)), .val (.int (1 : Int32)), .val (.int (i0 &&& (255 : Int32))), .val (.int ((XT.ushr i0 (8 : Int32)) &&& (255 : Int32))), .val (.int (i0 &&& (255 : Int32))), .val (.int ((XT.ushr i1 (8 : Int32)) &&& (255 : Int32))), .val (.int (i0 &&& (255 : Int32))), .unset, .unset, .unset, .unset, .unset, .unset]) rfl ?_
        refine Go.iload (hb hby at_145) (pc' := 147) rfl rfl ?_
        refine Go.ifN (hb hby at_147) (pc' := 150) rfl (show ¬ ((1 : Int32) = (0 : Int32)) from by decide) ?_
        refine Go.iload (hb hby at_150) (pc' := 152) rfl rfl ?_
        refine Go.goto (hb hby at_152) (by decide) (pc' := 164) (by decide) ?_
        refine Go.istore (hb hby at_164) (pc' := 166) rfl (L' := #[.val (.int i0), .val (.int i1), .val (.int i2), .val (.int i3), .val (.int lE), .val (.int lA), .val (.int lQ), .val (.int (1 : Int32)), .val (.int (0 : Int32)), .val (.int (1 : Int32)), .val (.int (i0 &&& (255 : Int32))), .val (.int ((XT.ushr i0 (8 : Int32)) &&& (255 : Int32))), .val (.int (i0 &&& (255 : Int32))), .val (.int ((XT.ushr i1 (8 : Int32)) &&& (255 : Int32))), .val (.int (i0 &&& (255 : Int32))), .val (.int ((XT.ushr i0 (8 : Int32)) &&& (255 : Int32))), .unset, .unset, .unset, .unset, .unset]) rfl ?_
        refine Go.iload (hb hby at_166) (pc' := 168) rfl rfl ?_
        refine Go.ifN (hb hby at_168) (pc' := 171) rfl (show ¬ ((1 : Int32) = (0 : Int32)) from by decide) ?_
        refine Go.iload (hb hby at_171) (pc' := 173) rfl rfl ?_
        refine Go.istore (hb hby at_173) (pc' := 175) rfl (L' := #[.val (.int i0), .val (.int i1), .val (.int i2), .val (.int i3), .val (.int lE), .val (.int lA), .val (.int lE), .val (.int (1 : Int32)), .val (.int (0 : Int32)), .val (.int (1 : Int32)), .val (.int (i0 &&& (255 : Int32))), .val (.int ((XT.ushr i0 (8 : Int32)) &&& (255 : Int32))), .val (.int (i0 &&& (255 : Int32))), .val (.int ((XT.ushr i1 (8 : Int32)) &&& (255 : Int32))), .val (.int (i0 &&& (255 : Int32))), .val (.int ((XT.ushr i0 (8 : Int32)) &&& (255 : Int32))), .unset, .unset, .unset, .unset, .unset]) rfl ?_
        refine Go.iload (hb hby at_175) (pc' := 177) rfl rfl ?_
        refine Go.iload (hb hby at_177) (pc' := 179) rfl rfl ?_
        refine Go.iload (hb hby at_179) (pc' := 181) rfl rfl ?_
        refine Go.callS (c_make (l := l) (nw := nw) g hnw h lE (i0 &&& (255 : Int32)) ((XT.ushr i0 (8 : Int32)) &&& (255 : Int32)) (m255 _) (m255 _) (by omega)) hown (wd_0 g) (wd_1 g) (wd_3 g) (wd_2 g) (by decide) (argsL := [(.int lE), (.int (i0 &&& (255 : Int32))), (.int ((XT.ushr i0 (8 : Int32)) &&& (255 : Int32)))]) (lenOf pd_11 rfl) rfl (by rw [hml]; rfl) (W := 0) rfl (hb hby at_181) (pc' := 184) rfl (by decide) (by decide) (by decide) (by decide) all0 ?_
        rintro _ vm221 h221 ⟨r_221, d_221, kd_221, rfl, K221, o221_0⟩ C221
        have z221 := K221.1
        have yo221_0 := ltN o221_0.lt; have yo221_0' := ltN o221_0.ltb
        -- pc 184
        refine Go.astore (hb hby at_184) (pc' := 186) rfl rfl (L' := #[.val (.int i0), .val (.int i1), .val (.int i2), .val (.int i3), .val (.int lE), .val (.int lA), .val (.int lE), .val (.int (1 : Int32)), .val (.int (0 : Int32)), .val (.int (1 : Int32)), .val (.int (i0 &&& (255 : Int32))), .val (.int ((XT.ushr i0 (8 : Int32)) &&& (255 : Int32))), .val (.int (i0 &&& (255 : Int32))), .val (.int ((XT.ushr i1 (8 : Int32)) &&& (255 : Int32))), .val (.int (i0 &&& (255 : Int32))), .val (.int ((XT.ushr i0 (8 : Int32)) &&& (255 : Int32))), .val (.ref r_221), .unset, .unset, .unset, .unset]) rfl ?_
        refine Go.iload (hb hby at_186) (pc' := 188) rfl rfl ?_
        refine Go.iload (hb hby at_188) (pc' := 190) rfl rfl ?_
        refine Go.iload (hb hby at_190) (pc' := 192) rfl rfl ?_
        refine Go.callS (c_make (l := l) (nw := nw) g hnw h221 lA (i0 &&& (255 : Int32)) ((XT.ushr i1 (8 : Int32)) &&& (255 : Int32)) (m255 _) (m255 _) (by omega)) hown (wd_0 g) (wd_1 g) (wd_3 g) (wd_2 g) (by decide) (argsL := [(.int lA), (.int (i0 &&& (255 : Int32))), (.int ((XT.ushr i1 (8 : Int32)) &&& (255 : Int32)))]) (lenOf pd_11 rfl) rfl (by rw [hml]; rfl) (W := 0) rfl (hb hby at_192) (pc' := 195) rfl (by decide) (by decide) (by decide) (by decide) all0 ?_
        rintro _ vm222 h222 ⟨r_222, d_222, kd_222, rfl, K222, o222_0⟩ C222
        have z222 := K222.1
        have yo222_0 := ltN o222_0.lt; have yo222_0' := ltN o222_0.ltb
        -- pc 195
        refine Go.astore (hb hby at_195) (pc' := 197) rfl rfl (L' := #[.val (.int i0), .val (.int i1), .val (.int i2), .val (.int i3), .val (.int lE), .val (.int lA), .val (.int lE), .val (.int (1 : Int32)), .val (.int (0 : Int32)), .val (.int (1 : Int32)), .val (.int (i0 &&& (255 : Int32))), .val (.int ((XT.ushr i0 (8 : Int32)) &&& (255 : Int32))), .val (.int (i0 &&& (255 : Int32))), .val (.int ((XT.ushr i1 (8 : Int32)) &&& (255 : Int32))), .val (.int (i0 &&& (255 : Int32))), .val (.int ((XT.ushr i0 (8 : Int32)) &&& (255 : Int32))), .val (.ref r_221), .val (.ref r_222), .unset, .unset, .unset]) rfl ?_
        refine Go.iload (hb hby at_197) (pc' := 199) rfl rfl ?_
        refine Go.iload (hb hby at_199) (pc' := 201) rfl rfl ?_
        refine Go.iload (hb hby at_201) (pc' := 203) rfl rfl ?_
        refine Go.callS (c_make (l := l) (nw := nw) g hnw h222 lE (i0 &&& (255 : Int32)) ((XT.ushr i0 (8 : Int32)) &&& (255 : Int32)) (m255 _) (m255 _) (by omega)) hown (wd_0 g) (wd_1 g) (wd_3 g) (wd_2 g) (by decide) (argsL := [(.int lE), (.int (i0 &&& (255 : Int32))), (.int ((XT.ushr i0 (8 : Int32)) &&& (255 : Int32)))]) (lenOf pd_11 rfl) rfl (by rw [hml]; rfl) (W := 0) rfl (hb hby at_203) (pc' := 206) rfl (by decide) (by decide) (by decide) (by decide) all0 ?_
        rintro _ vm223 h223 ⟨r_223, d_223, kd_223, rfl, K223, o223_0⟩ C223
        have z223 := K223.1
        have yo223_0 := ltN o223_0.lt; have yo223_0' := ltN o223_0.ltb
        -- pc 206
        refine Go.astore (hb hby at_206) (pc' := 208) rfl rfl (L' := #[.val (.int i0), .val (.int i1), .val (.int i2), .val (.int i3), .val (.int lE), .val (.int lA), .val (.int lE), .val (.int (1 : Int32)), .val (.int (0 : Int32)), .val (.int (1 : Int32)), .val (.int (i0 &&& (255 : Int32))), .val (.int ((XT.ushr i0 (8 : Int32)) &&& (255 : Int32))), .val (.int (i0 &&& (255 : Int32))), .val (.int ((XT.ushr i1 (8 : Int32)) &&& (255 : Int32))), .val (.int (i0 &&& (255 : Int32))), .val (.int ((XT.ushr i0 (8 : Int32)) &&& (255 : Int32))), .val (.ref r_221), .val (.ref r_222), .val (.ref r_223), .unset, .unset]) rfl ?_
        refine Go.newO hown (wd_41 g) (wd_42 g) (wd_43 g) (hb hby at_208) (pc' := 211) rfl (by decide) (by decide) ?_
        intro h224 a225 g226 l227 E228 X229 D230 S231 C232
        have KE228 := Keep.ofExt E228; have zE228 := E228.1
        have f233 : Fld Z h224 a225 "com/example/kunci/kunci/TestOutcome" "question" "Ljava/lang/String;" .null := D230 (Or.inr (wd_49 g)) (ty := (.object "java/lang/String")) (by decide)
        have f234 : Fld Z h224 a225 "com/example/kunci/kunci/TestOutcome" "expected" "Ljava/lang/String;" .null := D230 (Or.inr (wd_51 g)) (ty := (.object "java/lang/String")) (by decide)
        have f235 : Fld Z h224 a225 "com/example/kunci/kunci/TestOutcome" "answer" "Ljava/lang/String;" .null := D230 (Or.inr (wd_53 g)) (ty := (.object "java/lang/String")) (by decide)
        refine Go.dup (hb hby at_211) (pc' := 212) rfl rfl ?_
        refine Go.aload (hb hby at_212) (pc' := 214) rfl rfl rfl ?_
        refine Go.aload (hb hby at_214) (pc' := 216) rfl rfl rfl ?_
        refine Go.aload (hb hby at_216) (pc' := 218) rfl rfl rfl ?_
        refine Go.callC (c_outcome (l := l) (nw := nw) g h224 a225 (.ref r_223) (.ref r_221) (.ref r_222) rfl rfl rfl (by first | omega | assumption | decide) X229 f233 f234 f235 (by omega)) hown rfl rfl (wd_44 g) (wd_45 g) (wd_46 g) (wd_43 g) (by decide) (argsL := [(.ref r_223), (.ref r_221), (.ref r_222)]) (lenOf pd_12 rfl) rfl (by rw [hml]; rfl) (W := 1) rfl (hb hby at_218) (pc' := 221) rfl (by decide) (by decide) (by decide) (by decide) all0 ?_
        rintro _ vm236 h236 ⟨rfl, K236, o236_0, o236_1, o236_2⟩ C236
        have z236 := K236.1
        -- pc 221
        refine Go.astore (hb hby at_221) (pc' := 223) rfl rfl (L' := #[.val (.int i0), .val (.int i1), .val (.int i2), .val (.int i3), .val (.int lE), .val (.int lA), .val (.int lE), .val (.int (1 : Int32)), .val (.int (0 : Int32)), .val (.int (1 : Int32)), .val (.int (i0 &&& (255 : Int32))), .val (.int ((XT.ushr i0 (8 : Int32)) &&& (255 : Int32))), .val (.int (i0 &&& (255 : Int32))), .val (.int ((XT.ushr i1 (8 : Int32)) &&& (255 : Int32))), .val (.int (i0 &&& (255 : Int32))), .val (.int ((XT.ushr i0 (8 : Int32)) &&& (255 : Int32))), .val (.ref r_221), .val (.ref r_222), .val (.ref r_223), .val (.ref a225), .unset]) rfl ?_
        refine Go.iload (hb hby at_223) (pc' := 225) rfl rfl ?_
        refine Go.iload (hb hby at_225) (pc' := 227) rfl rfl ?_
        refine Go.icmp (hb hby at_227) (by decide) (pc' := 260) (by decide) (pc2 := 230) rfl (fun (q227 : ¬ lE = lA) => ?_) (fun (q227 : ¬ (¬ lE = lA)) => ?_)
        · refine Go.iconst (hb hby at_260) (pc' := 261) rfl (z := (0 : Int32)) rfl ?_
          refine Go.istore (hb hby at_261) (pc' := 263) rfl (L' := #[.val (.int i0), .val (.int i1), .val (.int i2), .val (.int i3), .val (.int lE), .val (.int lA), .val (.int lE), .val (.int (1 : Int32)), .val (.int (0 : Int32)), .val (.int (1 : Int32)), .val (.int (i0 &&& (255 : Int32))), .val (.int ((XT.ushr i0 (8 : Int32)) &&& (255 : Int32))), .val (.int (i0 &&& (255 : Int32))), .val (.int ((XT.ushr i1 (8 : Int32)) &&& (255 : Int32))), .val (.int (i0 &&& (255 : Int32))), .val (.int ((XT.ushr i0 (8 : Int32)) &&& (255 : Int32))), .val (.ref r_221), .val (.ref r_222), .val (.ref r_223), .val (.ref a225), .val (.int (0 : Int32))]) rfl ?_
          refine Go.aload (hb hby at_263) (pc' := 265) rfl rfl rfl ?_
          have f237 : St Z h236 r_221 d_221 kd_221 (mkS lE (i0 &&& (255 : Int32)) ((XT.ushr i0 (8 : Int32)) &&& (255 : Int32))) := ((((o221_0.keep K222 nin0 nin0).keep K223 nin0 nin0).keep KE228 nin0 nin0).keep K236 (ninS (Exa.ne (((o221_0.keep K222 nin0 nin0).keep K223 nin0 nin0).keep KE228 nin0 nin0).1 X229 (by decide)) nin0) (ninS (Ne.symm (Ar.ne_exa (((o221_0.keep K222 nin0 nin0).keep K223 nin0 nin0).keep KE228 nin0 nin0).2.2.2.1 X229 (wd_42 g))) nin0))
          have f238 : St Z h236 r_222 d_222 kd_222 (mkS lA (i0 &&& (255 : Int32)) ((XT.ushr i1 (8 : Int32)) &&& (255 : Int32))) := (((o222_0.keep K223 nin0 nin0).keep KE228 nin0 nin0).keep K236 (ninS (Exa.ne ((o222_0.keep K223 nin0 nin0).keep KE228 nin0 nin0).1 X229 (by decide)) nin0) (ninS (Ne.symm (Ar.ne_exa ((o222_0.keep K223 nin0 nin0).keep KE228 nin0 nin0).2.2.2.1 X229 (wd_42 g))) nin0))
          have f239 : Exa Z h236 a225 "com/example/kunci/kunci/TestOutcome" := (X229.keep K236)
          refine Go.callV (y0 := ⟨"com/example/kunci/kunci/TestOutcome", "isPassed", "()Z"⟩) (c_isPassed (l := l) (nw := nw) g h236 a225 r_221 d_221 kd_221 (mkS lE (i0 &&& (255 : Int32)) ((XT.ushr i0 (8 : Int32)) &&& (255 : Int32))) r_222 d_222 kd_222 (mkS lA (i0 &&& (255 : Int32)) ((XT.ushr i1 (8 : Int32)) &&& (255 : Int32))) o236_1 o236_2 f237 f238 (by omega)) hown (wd_54 g) (wd_55 g) (notFace_of_selects (wd_57 g)) (wd_57 g) (wd_56 g) f239 (wd_58 g) (wd_43 g) (by decide) (argsL := []) (lenOf pd_13 rfl) rfl (by rw [hml]; rfl) (W := 0) rfl (hb hby at_265) (pc' := 268) rfl (by decide) (by decide) (by decide) (by decide) all0 ?_
          rintro _ vm240 h240 ⟨rfl, K240⟩ C240
          have z240 := K240.1
          -- pc 268
          refine Go.iload (hb hby at_268) (pc' := 270) rfl rfl ?_
          refine Go.icmpN (hb hby at_270) (pc' := 273) rfl (fun z => z (by rw [mkS_bo blE blA (m255 _) (m255 _) (m255 _) (m255 _)]; exact bo_no (fun z => q227 z.1))) ?_
          refine Go.iconst (hb hby at_273) (pc' := 274) rfl (z := (1 : Int32)) rfl ?_
          refine Go.goto (hb hby at_274) (by decide) (pc' := 278) (by decide) ?_
          refine Go.retN (t := .boolean) hret (by simp) (hb hby at_278) (by decide) (by decide) ?_
          intro vmR CR
          exact ⟨(by first | rfl | (simp only [own_nar]; done) | (congr 2; done)), (((((((Keep.refl h []).trans K221 all0).trans K222 all0).trans K223 all0).trans KE228 all0).trans K236 (allS (by first | (left; simp; done) | (right; omega)) all0)).trans K240 all0)⟩
        · refine Go.iload (hb hby at_230) (pc' := 232) rfl rfl ?_
          refine Go.iconst (hb hby at_232) (pc' := 233) rfl (z := (1 : Int32)) rfl ?_
          refine Go.icmp (hb hby at_233) (by decide) (pc' := 243) (by decide) (pc2 := 236) rfl (fun (q233 : lE < (1 : Int32)) => ?_) (fun (q233 : ¬ (lE < (1 : Int32))) => ?_)
          · refine Go.iload (hb hby at_243) (pc' := 245) rfl rfl ?_
            refine Go.iconst (hb hby at_245) (pc' := 246) rfl (z := (2 : Int32)) rfl ?_
            refine Go.icmp (hb hby at_246) (by decide) (pc' := 256) (by decide) (pc2 := 249) rfl (fun (q246 : lE < (2 : Int32)) => ?_) (fun (q246 : ¬ (lE < (2 : Int32))) => ?_)
            · refine Go.iconst (hb hby at_256) (pc' := 257) rfl (z := (1 : Int32)) rfl ?_
              refine Go.goto (hb hby at_257) (by decide) (pc' := 261) (by decide) ?_
              refine Go.istore (hb hby at_261) (pc' := 263) rfl (L' := #[.val (.int i0), .val (.int i1), .val (.int i2), .val (.int i3), .val (.int lE), .val (.int lA), .val (.int lE), .val (.int (1 : Int32)), .val (.int (0 : Int32)), .val (.int (1 : Int32)), .val (.int (i0 &&& (255 : Int32))), .val (.int ((XT.ushr i0 (8 : Int32)) &&& (255 : Int32))), .val (.int (i0 &&& (255 : Int32))), .val (.int ((XT.ushr i1 (8 : Int32)) &&& (255 : Int32))), .val (.int (i0 &&& (255 : Int32))), .val (.int ((XT.ushr i0 (8 : Int32)) &&& (255 : Int32))), .val (.ref r_221), .val (.ref r_222), .val (.ref r_223), .val (.ref a225), .val (.int (1 : Int32))]) rfl ?_
              refine Go.aload (hb hby at_263) (pc' := 265) rfl rfl rfl ?_
              have f241 : St Z h236 r_221 d_221 kd_221 (mkS lE (i0 &&& (255 : Int32)) ((XT.ushr i0 (8 : Int32)) &&& (255 : Int32))) := ((((o221_0.keep K222 nin0 nin0).keep K223 nin0 nin0).keep KE228 nin0 nin0).keep K236 (ninS (Exa.ne (((o221_0.keep K222 nin0 nin0).keep K223 nin0 nin0).keep KE228 nin0 nin0).1 X229 (by decide)) nin0) (ninS (Ne.symm (Ar.ne_exa (((o221_0.keep K222 nin0 nin0).keep K223 nin0 nin0).keep KE228 nin0 nin0).2.2.2.1 X229 (wd_42 g))) nin0))
              have f242 : St Z h236 r_222 d_222 kd_222 (mkS lA (i0 &&& (255 : Int32)) ((XT.ushr i1 (8 : Int32)) &&& (255 : Int32))) := (((o222_0.keep K223 nin0 nin0).keep KE228 nin0 nin0).keep K236 (ninS (Exa.ne ((o222_0.keep K223 nin0 nin0).keep KE228 nin0 nin0).1 X229 (by decide)) nin0) (ninS (Ne.symm (Ar.ne_exa ((o222_0.keep K223 nin0 nin0).keep KE228 nin0 nin0).2.2.2.1 X229 (wd_42 g))) nin0))
              have f243 : Exa Z h236 a225 "com/example/kunci/kunci/TestOutcome" := (X229.keep K236)
              refine Go.callV (y0 := ⟨"com/example/kunci/kunci/TestOutcome", "isPassed", "()Z"⟩) (c_isPassed (l := l) (nw := nw) g h236 a225 r_221 d_221 kd_221 (mkS lE (i0 &&& (255 : Int32)) ((XT.ushr i0 (8 : Int32)) &&& (255 : Int32))) r_222 d_222 kd_222 (mkS lA (i0 &&& (255 : Int32)) ((XT.ushr i1 (8 : Int32)) &&& (255 : Int32))) o236_1 o236_2 f241 f242 (by omega)) hown (wd_54 g) (wd_55 g) (notFace_of_selects (wd_57 g)) (wd_57 g) (wd_56 g) f243 (wd_58 g) (wd_43 g) (by decide) (argsL := []) (lenOf pd_13 rfl) rfl (by rw [hml]; rfl) (W := 0) rfl (hb hby at_265) (pc' := 268) rfl (by decide) (by decide) (by decide) (by decide) all0 ?_
              rintro _ vm244 h244 ⟨rfl, K244⟩ C244
              have z244 := K244.1
              -- pc 268
              refine Go.iload (hb hby at_268) (pc' := 270) rfl rfl ?_
              refine Go.icmpN (hb hby at_270) (pc' := 273) rfl (fun z => z (by rw [mkS_bo blE blA (m255 _) (m255 _) (m255 _) (m255 _)]; exact bo_yes ⟨Classical.not_not.mp q227, Or.inl q233, Or.inl q246⟩)) ?_
              refine Go.iconst (hb hby at_273) (pc' := 274) rfl (z := (1 : Int32)) rfl ?_
              refine Go.goto (hb hby at_274) (by decide) (pc' := 278) (by decide) ?_
              refine Go.retN (t := .boolean) hret (by simp) (hb hby at_278) (by decide) (by decide) ?_
              intro vmR CR
              exact ⟨(by first | rfl | (simp only [own_nar]; done) | (congr 2; done)), (((((((Keep.refl h []).trans K221 all0).trans K222 all0).trans K223 all0).trans KE228 all0).trans K236 (allS (by first | (left; simp; done) | (right; omega)) all0)).trans K244 all0)⟩
            · refine Go.iload (hb hby at_249) (pc' := 251) rfl rfl ?_
              refine Go.iload (hb hby at_251) (pc' := 253) rfl rfl ?_
              refine Go.icmp (hb hby at_253) (by decide) (pc' := 260) (by decide) (pc2 := 256) rfl (fun (q253 : ¬ ((XT.ushr i0 (8 : Int32)) &&& (255 : Int32)) = ((XT.ushr i1 (8 : Int32)) &&& (255 : Int32))) => ?_) (fun (q253 : ¬ (¬ ((XT.ushr i0 (8 : Int32)) &&& (255 : Int32)) = ((XT.ushr i1 (8 : Int32)) &&& (255 : Int32)))) => ?_)
              · refine Go.iconst (hb hby at_260) (pc' := 261) rfl (z := (0 : Int32)) rfl ?_
                refine Go.istore (hb hby at_261) (pc' := 263) rfl (L' := #[.val (.int i0), .val (.int i1), .val (.int i2), .val (.int i3), .val (.int lE), .val (.int lA), .val (.int lE), .val (.int (1 : Int32)), .val (.int (0 : Int32)), .val (.int (1 : Int32)), .val (.int (i0 &&& (255 : Int32))), .val (.int ((XT.ushr i0 (8 : Int32)) &&& (255 : Int32))), .val (.int (i0 &&& (255 : Int32))), .val (.int ((XT.ushr i1 (8 : Int32)) &&& (255 : Int32))), .val (.int (i0 &&& (255 : Int32))), .val (.int ((XT.ushr i0 (8 : Int32)) &&& (255 : Int32))), .val (.ref r_221), .val (.ref r_222), .val (.ref r_223), .val (.ref a225), .val (.int (0 : Int32))]) rfl ?_
                refine Go.aload (hb hby at_263) (pc' := 265) rfl rfl rfl ?_
                have f245 : St Z h236 r_221 d_221 kd_221 (mkS lE (i0 &&& (255 : Int32)) ((XT.ushr i0 (8 : Int32)) &&& (255 : Int32))) := ((((o221_0.keep K222 nin0 nin0).keep K223 nin0 nin0).keep KE228 nin0 nin0).keep K236 (ninS (Exa.ne (((o221_0.keep K222 nin0 nin0).keep K223 nin0 nin0).keep KE228 nin0 nin0).1 X229 (by decide)) nin0) (ninS (Ne.symm (Ar.ne_exa (((o221_0.keep K222 nin0 nin0).keep K223 nin0 nin0).keep KE228 nin0 nin0).2.2.2.1 X229 (wd_42 g))) nin0))
                have f246 : St Z h236 r_222 d_222 kd_222 (mkS lA (i0 &&& (255 : Int32)) ((XT.ushr i1 (8 : Int32)) &&& (255 : Int32))) := (((o222_0.keep K223 nin0 nin0).keep KE228 nin0 nin0).keep K236 (ninS (Exa.ne ((o222_0.keep K223 nin0 nin0).keep KE228 nin0 nin0).1 X229 (by decide)) nin0) (ninS (Ne.symm (Ar.ne_exa ((o222_0.keep K223 nin0 nin0).keep KE228 nin0 nin0).2.2.2.1 X229 (wd_42 g))) nin0))
                have f247 : Exa Z h236 a225 "com/example/kunci/kunci/TestOutcome" := (X229.keep K236)
                refine Go.callV (y0 := ⟨"com/example/kunci/kunci/TestOutcome", "isPassed", "()Z"⟩) (c_isPassed (l := l) (nw := nw) g h236 a225 r_221 d_221 kd_221 (mkS lE (i0 &&& (255 : Int32)) ((XT.ushr i0 (8 : Int32)) &&& (255 : Int32))) r_222 d_222 kd_222 (mkS lA (i0 &&& (255 : Int32)) ((XT.ushr i1 (8 : Int32)) &&& (255 : Int32))) o236_1 o236_2 f245 f246 (by omega)) hown (wd_54 g) (wd_55 g) (notFace_of_selects (wd_57 g)) (wd_57 g) (wd_56 g) f247 (wd_58 g) (wd_43 g) (by decide) (argsL := []) (lenOf pd_13 rfl) rfl (by rw [hml]; rfl) (W := 0) rfl (hb hby at_265) (pc' := 268) rfl (by decide) (by decide) (by decide) (by decide) all0 ?_
                rintro _ vm248 h248 ⟨rfl, K248⟩ C248
                have z248 := K248.1
                -- pc 268
                refine Go.iload (hb hby at_268) (pc' := 270) rfl rfl ?_
                refine Go.icmpN (hb hby at_270) (pc' := 273) rfl (fun z => z (by rw [mkS_bo blE blA (m255 _) (m255 _) (m255 _) (m255 _)]; exact bo_no (fun z => z.2.2.elim q246 q253))) ?_
                refine Go.iconst (hb hby at_273) (pc' := 274) rfl (z := (1 : Int32)) rfl ?_
                refine Go.goto (hb hby at_274) (by decide) (pc' := 278) (by decide) ?_
                refine Go.retN (t := .boolean) hret (by simp) (hb hby at_278) (by decide) (by decide) ?_
                intro vmR CR
                exact ⟨(by first | rfl | (simp only [own_nar]; done) | (congr 2; done)), (((((((Keep.refl h []).trans K221 all0).trans K222 all0).trans K223 all0).trans KE228 all0).trans K236 (allS (by first | (left; simp; done) | (right; omega)) all0)).trans K248 all0)⟩
              · refine Go.iconst (hb hby at_256) (pc' := 257) rfl (z := (1 : Int32)) rfl ?_
                refine Go.goto (hb hby at_257) (by decide) (pc' := 261) (by decide) ?_
                refine Go.istore (hb hby at_261) (pc' := 263) rfl (L' := #[.val (.int i0), .val (.int i1), .val (.int i2), .val (.int i3), .val (.int lE), .val (.int lA), .val (.int lE), .val (.int (1 : Int32)), .val (.int (0 : Int32)), .val (.int (1 : Int32)), .val (.int (i0 &&& (255 : Int32))), .val (.int ((XT.ushr i0 (8 : Int32)) &&& (255 : Int32))), .val (.int (i0 &&& (255 : Int32))), .val (.int ((XT.ushr i1 (8 : Int32)) &&& (255 : Int32))), .val (.int (i0 &&& (255 : Int32))), .val (.int ((XT.ushr i0 (8 : Int32)) &&& (255 : Int32))), .val (.ref r_221), .val (.ref r_222), .val (.ref r_223), .val (.ref a225), .val (.int (1 : Int32))]) rfl ?_
                refine Go.aload (hb hby at_263) (pc' := 265) rfl rfl rfl ?_
                have f249 : St Z h236 r_221 d_221 kd_221 (mkS lE (i0 &&& (255 : Int32)) ((XT.ushr i0 (8 : Int32)) &&& (255 : Int32))) := ((((o221_0.keep K222 nin0 nin0).keep K223 nin0 nin0).keep KE228 nin0 nin0).keep K236 (ninS (Exa.ne (((o221_0.keep K222 nin0 nin0).keep K223 nin0 nin0).keep KE228 nin0 nin0).1 X229 (by decide)) nin0) (ninS (Ne.symm (Ar.ne_exa (((o221_0.keep K222 nin0 nin0).keep K223 nin0 nin0).keep KE228 nin0 nin0).2.2.2.1 X229 (wd_42 g))) nin0))
                have f250 : St Z h236 r_222 d_222 kd_222 (mkS lA (i0 &&& (255 : Int32)) ((XT.ushr i1 (8 : Int32)) &&& (255 : Int32))) := (((o222_0.keep K223 nin0 nin0).keep KE228 nin0 nin0).keep K236 (ninS (Exa.ne ((o222_0.keep K223 nin0 nin0).keep KE228 nin0 nin0).1 X229 (by decide)) nin0) (ninS (Ne.symm (Ar.ne_exa ((o222_0.keep K223 nin0 nin0).keep KE228 nin0 nin0).2.2.2.1 X229 (wd_42 g))) nin0))
                have f251 : Exa Z h236 a225 "com/example/kunci/kunci/TestOutcome" := (X229.keep K236)
                refine Go.callV (y0 := ⟨"com/example/kunci/kunci/TestOutcome", "isPassed", "()Z"⟩) (c_isPassed (l := l) (nw := nw) g h236 a225 r_221 d_221 kd_221 (mkS lE (i0 &&& (255 : Int32)) ((XT.ushr i0 (8 : Int32)) &&& (255 : Int32))) r_222 d_222 kd_222 (mkS lA (i0 &&& (255 : Int32)) ((XT.ushr i1 (8 : Int32)) &&& (255 : Int32))) o236_1 o236_2 f249 f250 (by omega)) hown (wd_54 g) (wd_55 g) (notFace_of_selects (wd_57 g)) (wd_57 g) (wd_56 g) f251 (wd_58 g) (wd_43 g) (by decide) (argsL := []) (lenOf pd_13 rfl) rfl (by rw [hml]; rfl) (W := 0) rfl (hb hby at_265) (pc' := 268) rfl (by decide) (by decide) (by decide) (by decide) all0 ?_
                rintro _ vm252 h252 ⟨rfl, K252⟩ C252
                have z252 := K252.1
                -- pc 268
                refine Go.iload (hb hby at_268) (pc' := 270) rfl rfl ?_
                refine Go.icmpN (hb hby at_270) (pc' := 273) rfl (fun z => z (by rw [mkS_bo blE blA (m255 _) (m255 _) (m255 _) (m255 _)]; exact bo_yes ⟨Classical.not_not.mp q227, Or.inl q233, Or.inr (Classical.not_not.mp q253)⟩)) ?_
                refine Go.iconst (hb hby at_273) (pc' := 274) rfl (z := (1 : Int32)) rfl ?_
                refine Go.goto (hb hby at_274) (by decide) (pc' := 278) (by decide) ?_
                refine Go.retN (t := .boolean) hret (by simp) (hb hby at_278) (by decide) (by decide) ?_
                intro vmR CR
                exact ⟨(by first | rfl | (simp only [own_nar]; done) | (congr 2; done)), (((((((Keep.refl h []).trans K221 all0).trans K222 all0).trans K223 all0).trans KE228 all0).trans K236 (allS (by first | (left; simp; done) | (right; omega)) all0)).trans K252 all0)⟩
          · refine Go.iload (hb hby at_236) (pc' := 238) rfl rfl ?_
            refine Go.iload (hb hby at_238) (pc' := 240) rfl rfl ?_
            refine Go.icmpN (hb hby at_240) (pc' := 243) rfl (fun q => q rfl) ?_
            refine Go.iload (hb hby at_243) (pc' := 245) rfl rfl ?_
            refine Go.iconst (hb hby at_245) (pc' := 246) rfl (z := (2 : Int32)) rfl ?_
            refine Go.icmp (hb hby at_246) (by decide) (pc' := 256) (by decide) (pc2 := 249) rfl (fun (q246 : lE < (2 : Int32)) => ?_) (fun (q246 : ¬ (lE < (2 : Int32))) => ?_)
            · refine Go.iconst (hb hby at_256) (pc' := 257) rfl (z := (1 : Int32)) rfl ?_
              refine Go.goto (hb hby at_257) (by decide) (pc' := 261) (by decide) ?_
              refine Go.istore (hb hby at_261) (pc' := 263) rfl (L' := #[.val (.int i0), .val (.int i1), .val (.int i2), .val (.int i3), .val (.int lE), .val (.int lA), .val (.int lE), .val (.int (1 : Int32)), .val (.int (0 : Int32)), .val (.int (1 : Int32)), .val (.int (i0 &&& (255 : Int32))), .val (.int ((XT.ushr i0 (8 : Int32)) &&& (255 : Int32))), .val (.int (i0 &&& (255 : Int32))), .val (.int ((XT.ushr i1 (8 : Int32)) &&& (255 : Int32))), .val (.int (i0 &&& (255 : Int32))), .val (.int ((XT.ushr i0 (8 : Int32)) &&& (255 : Int32))), .val (.ref r_221), .val (.ref r_222), .val (.ref r_223), .val (.ref a225), .val (.int (1 : Int32))]) rfl ?_
              refine Go.aload (hb hby at_263) (pc' := 265) rfl rfl rfl ?_
              have f253 : St Z h236 r_221 d_221 kd_221 (mkS lE (i0 &&& (255 : Int32)) ((XT.ushr i0 (8 : Int32)) &&& (255 : Int32))) := ((((o221_0.keep K222 nin0 nin0).keep K223 nin0 nin0).keep KE228 nin0 nin0).keep K236 (ninS (Exa.ne (((o221_0.keep K222 nin0 nin0).keep K223 nin0 nin0).keep KE228 nin0 nin0).1 X229 (by decide)) nin0) (ninS (Ne.symm (Ar.ne_exa (((o221_0.keep K222 nin0 nin0).keep K223 nin0 nin0).keep KE228 nin0 nin0).2.2.2.1 X229 (wd_42 g))) nin0))
              have f254 : St Z h236 r_222 d_222 kd_222 (mkS lA (i0 &&& (255 : Int32)) ((XT.ushr i1 (8 : Int32)) &&& (255 : Int32))) := (((o222_0.keep K223 nin0 nin0).keep KE228 nin0 nin0).keep K236 (ninS (Exa.ne ((o222_0.keep K223 nin0 nin0).keep KE228 nin0 nin0).1 X229 (by decide)) nin0) (ninS (Ne.symm (Ar.ne_exa ((o222_0.keep K223 nin0 nin0).keep KE228 nin0 nin0).2.2.2.1 X229 (wd_42 g))) nin0))
              have f255 : Exa Z h236 a225 "com/example/kunci/kunci/TestOutcome" := (X229.keep K236)
              refine Go.callV (y0 := ⟨"com/example/kunci/kunci/TestOutcome", "isPassed", "()Z"⟩) (c_isPassed (l := l) (nw := nw) g h236 a225 r_221 d_221 kd_221 (mkS lE (i0 &&& (255 : Int32)) ((XT.ushr i0 (8 : Int32)) &&& (255 : Int32))) r_222 d_222 kd_222 (mkS lA (i0 &&& (255 : Int32)) ((XT.ushr i1 (8 : Int32)) &&& (255 : Int32))) o236_1 o236_2 f253 f254 (by omega)) hown (wd_54 g) (wd_55 g) (notFace_of_selects (wd_57 g)) (wd_57 g) (wd_56 g) f255 (wd_58 g) (wd_43 g) (by decide) (argsL := []) (lenOf pd_13 rfl) rfl (by rw [hml]; rfl) (W := 0) rfl (hb hby at_265) (pc' := 268) rfl (by decide) (by decide) (by decide) (by decide) all0 ?_
              rintro _ vm256 h256 ⟨rfl, K256⟩ C256
              have z256 := K256.1
              -- pc 268
              refine Go.iload (hb hby at_268) (pc' := 270) rfl rfl ?_
              refine Go.icmpN (hb hby at_270) (pc' := 273) rfl (fun z => z (by rw [mkS_bo blE blA (m255 _) (m255 _) (m255 _) (m255 _)]; exact bo_yes ⟨Classical.not_not.mp q227, Or.inr rfl, Or.inl q246⟩)) ?_
              refine Go.iconst (hb hby at_273) (pc' := 274) rfl (z := (1 : Int32)) rfl ?_
              refine Go.goto (hb hby at_274) (by decide) (pc' := 278) (by decide) ?_
              refine Go.retN (t := .boolean) hret (by simp) (hb hby at_278) (by decide) (by decide) ?_
              intro vmR CR
              exact ⟨(by first | rfl | (simp only [own_nar]; done) | (congr 2; done)), (((((((Keep.refl h []).trans K221 all0).trans K222 all0).trans K223 all0).trans KE228 all0).trans K236 (allS (by first | (left; simp; done) | (right; omega)) all0)).trans K256 all0)⟩
            · refine Go.iload (hb hby at_249) (pc' := 251) rfl rfl ?_
              refine Go.iload (hb hby at_251) (pc' := 253) rfl rfl ?_
              refine Go.icmp (hb hby at_253) (by decide) (pc' := 260) (by decide) (pc2 := 256) rfl (fun (q253 : ¬ ((XT.ushr i0 (8 : Int32)) &&& (255 : Int32)) = ((XT.ushr i1 (8 : Int32)) &&& (255 : Int32))) => ?_) (fun (q253 : ¬ (¬ ((XT.ushr i0 (8 : Int32)) &&& (255 : Int32)) = ((XT.ushr i1 (8 : Int32)) &&& (255 : Int32)))) => ?_)
              · refine Go.iconst (hb hby at_260) (pc' := 261) rfl (z := (0 : Int32)) rfl ?_
                refine Go.istore (hb hby at_261) (pc' := 263) rfl (L' := #[.val (.int i0), .val (.int i1), .val (.int i2), .val (.int i3), .val (.int lE), .val (.int lA), .val (.int lE), .val (.int (1 : Int32)), .val (.int (0 : Int32)), .val (.int (1 : Int32)), .val (.int (i0 &&& (255 : Int32))), .val (.int ((XT.ushr i0 (8 : Int32)) &&& (255 : Int32))), .val (.int (i0 &&& (255 : Int32))), .val (.int ((XT.ushr i1 (8 : Int32)) &&& (255 : Int32))), .val (.int (i0 &&& (255 : Int32))), .val (.int ((XT.ushr i0 (8 : Int32)) &&& (255 : Int32))), .val (.ref r_221), .val (.ref r_222), .val (.ref r_223), .val (.ref a225), .val (.int (0 : Int32))]) rfl ?_
                refine Go.aload (hb hby at_263) (pc' := 265) rfl rfl rfl ?_
                have f257 : St Z h236 r_221 d_221 kd_221 (mkS lE (i0 &&& (255 : Int32)) ((XT.ushr i0 (8 : Int32)) &&& (255 : Int32))) := ((((o221_0.keep K222 nin0 nin0).keep K223 nin0 nin0).keep KE228 nin0 nin0).keep K236 (ninS (Exa.ne (((o221_0.keep K222 nin0 nin0).keep K223 nin0 nin0).keep KE228 nin0 nin0).1 X229 (by decide)) nin0) (ninS (Ne.symm (Ar.ne_exa (((o221_0.keep K222 nin0 nin0).keep K223 nin0 nin0).keep KE228 nin0 nin0).2.2.2.1 X229 (wd_42 g))) nin0))
                have f258 : St Z h236 r_222 d_222 kd_222 (mkS lA (i0 &&& (255 : Int32)) ((XT.ushr i1 (8 : Int32)) &&& (255 : Int32))) := (((o222_0.keep K223 nin0 nin0).keep KE228 nin0 nin0).keep K236 (ninS (Exa.ne ((o222_0.keep K223 nin0 nin0).keep KE228 nin0 nin0).1 X229 (by decide)) nin0) (ninS (Ne.symm (Ar.ne_exa ((o222_0.keep K223 nin0 nin0).keep KE228 nin0 nin0).2.2.2.1 X229 (wd_42 g))) nin0))
                have f259 : Exa Z h236 a225 "com/example/kunci/kunci/TestOutcome" := (X229.keep K236)
                refine Go.callV (y0 := ⟨"com/example/kunci/kunci/TestOutcome", "isPassed", "()Z"⟩) (c_isPassed (l := l) (nw := nw) g h236 a225 r_221 d_221 kd_221 (mkS lE (i0 &&& (255 : Int32)) ((XT.ushr i0 (8 : Int32)) &&& (255 : Int32))) r_222 d_222 kd_222 (mkS lA (i0 &&& (255 : Int32)) ((XT.ushr i1 (8 : Int32)) &&& (255 : Int32))) o236_1 o236_2 f257 f258 (by omega)) hown (wd_54 g) (wd_55 g) (notFace_of_selects (wd_57 g)) (wd_57 g) (wd_56 g) f259 (wd_58 g) (wd_43 g) (by decide) (argsL := []) (lenOf pd_13 rfl) rfl (by rw [hml]; rfl) (W := 0) rfl (hb hby at_265) (pc' := 268) rfl (by decide) (by decide) (by decide) (by decide) all0 ?_
                rintro _ vm260 h260 ⟨rfl, K260⟩ C260
                have z260 := K260.1
                -- pc 268
                refine Go.iload (hb hby at_268) (pc' := 270) rfl rfl ?_
                refine Go.icmpN (hb hby at_270) (pc' := 273) rfl (fun z => z (by rw [mkS_bo blE blA (m255 _) (m255 _) (m255 _) (m255 _)]; exact bo_no (fun z => z.2.2.elim q246 q253))) ?_
                refine Go.iconst (hb hby at_273) (pc' := 274) rfl (z := (1 : Int32)) rfl ?_
                refine Go.goto (hb hby at_274) (by decide) (pc' := 278) (by decide) ?_
                refine Go.retN (t := .boolean) hret (by simp) (hb hby at_278) (by decide) (by decide) ?_
                intro vmR CR
                exact ⟨(by first | rfl | (simp only [own_nar]; done) | (congr 2; done)), (((((((Keep.refl h []).trans K221 all0).trans K222 all0).trans K223 all0).trans KE228 all0).trans K236 (allS (by first | (left; simp; done) | (right; omega)) all0)).trans K260 all0)⟩
              · refine Go.iconst (hb hby at_256) (pc' := 257) rfl (z := (1 : Int32)) rfl ?_
                refine Go.goto (hb hby at_257) (by decide) (pc' := 261) (by decide) ?_
                refine Go.istore (hb hby at_261) (pc' := 263) rfl (L' := #[.val (.int i0), .val (.int i1), .val (.int i2), .val (.int i3), .val (.int lE), .val (.int lA), .val (.int lE), .val (.int (1 : Int32)), .val (.int (0 : Int32)), .val (.int (1 : Int32)), .val (.int (i0 &&& (255 : Int32))), .val (.int ((XT.ushr i0 (8 : Int32)) &&& (255 : Int32))), .val (.int (i0 &&& (255 : Int32))), .val (.int ((XT.ushr i1 (8 : Int32)) &&& (255 : Int32))), .val (.int (i0 &&& (255 : Int32))), .val (.int ((XT.ushr i0 (8 : Int32)) &&& (255 : Int32))), .val (.ref r_221), .val (.ref r_222), .val (.ref r_223), .val (.ref a225), .val (.int (1 : Int32))]) rfl ?_
                refine Go.aload (hb hby at_263) (pc' := 265) rfl rfl rfl ?_
                have f261 : St Z h236 r_221 d_221 kd_221 (mkS lE (i0 &&& (255 : Int32)) ((XT.ushr i0 (8 : Int32)) &&& (255 : Int32))) := ((((o221_0.keep K222 nin0 nin0).keep K223 nin0 nin0).keep KE228 nin0 nin0).keep K236 (ninS (Exa.ne (((o221_0.keep K222 nin0 nin0).keep K223 nin0 nin0).keep KE228 nin0 nin0).1 X229 (by decide)) nin0) (ninS (Ne.symm (Ar.ne_exa (((o221_0.keep K222 nin0 nin0).keep K223 nin0 nin0).keep KE228 nin0 nin0).2.2.2.1 X229 (wd_42 g))) nin0))
                have f262 : St Z h236 r_222 d_222 kd_222 (mkS lA (i0 &&& (255 : Int32)) ((XT.ushr i1 (8 : Int32)) &&& (255 : Int32))) := (((o222_0.keep K223 nin0 nin0).keep KE228 nin0 nin0).keep K236 (ninS (Exa.ne ((o222_0.keep K223 nin0 nin0).keep KE228 nin0 nin0).1 X229 (by decide)) nin0) (ninS (Ne.symm (Ar.ne_exa ((o222_0.keep K223 nin0 nin0).keep KE228 nin0 nin0).2.2.2.1 X229 (wd_42 g))) nin0))
                have f263 : Exa Z h236 a225 "com/example/kunci/kunci/TestOutcome" := (X229.keep K236)
                refine Go.callV (y0 := ⟨"com/example/kunci/kunci/TestOutcome", "isPassed", "()Z"⟩) (c_isPassed (l := l) (nw := nw) g h236 a225 r_221 d_221 kd_221 (mkS lE (i0 &&& (255 : Int32)) ((XT.ushr i0 (8 : Int32)) &&& (255 : Int32))) r_222 d_222 kd_222 (mkS lA (i0 &&& (255 : Int32)) ((XT.ushr i1 (8 : Int32)) &&& (255 : Int32))) o236_1 o236_2 f261 f262 (by omega)) hown (wd_54 g) (wd_55 g) (notFace_of_selects (wd_57 g)) (wd_57 g) (wd_56 g) f263 (wd_58 g) (wd_43 g) (by decide) (argsL := []) (lenOf pd_13 rfl) rfl (by rw [hml]; rfl) (W := 0) rfl (hb hby at_265) (pc' := 268) rfl (by decide) (by decide) (by decide) (by decide) all0 ?_
                rintro _ vm264 h264 ⟨rfl, K264⟩ C264
                have z264 := K264.1
                -- pc 268
                refine Go.iload (hb hby at_268) (pc' := 270) rfl rfl ?_
                refine Go.icmpN (hb hby at_270) (pc' := 273) rfl (fun z => z (by rw [mkS_bo blE blA (m255 _) (m255 _) (m255 _) (m255 _)]; exact bo_yes ⟨Classical.not_not.mp q227, Or.inr rfl, Or.inr (Classical.not_not.mp q253)⟩)) ?_
                refine Go.iconst (hb hby at_273) (pc' := 274) rfl (z := (1 : Int32)) rfl ?_
                refine Go.goto (hb hby at_274) (by decide) (pc' := 278) (by decide) ?_
                refine Go.retN (t := .boolean) hret (by simp) (hb hby at_278) (by decide) (by decide) ?_
                intro vmR CR
                exact ⟨(by first | rfl | (simp only [own_nar]; done) | (congr 2; done)), (((((((Keep.refl h []).trans K221 all0).trans K222 all0).trans K223 all0).trans KE228 all0).trans K236 (allS (by first | (left; simp; done) | (right; omega)) all0)).trans K264 all0)⟩
    · refine Go.iconst (hb hby at_47) (pc' := 48) rfl (z := (1 : Int32)) rfl ?_
      refine Go.goto (hb hby at_48) (by decide) (pc' := 52) (by decide) ?_
      refine Go.istore (hb hby at_52) (pc' := 54) rfl (L' := #[.val (.int i0), .val (.int i1), .val (.int i2), .val (.int i3), .val (.int lE), .val (.int lA), .val (.int lQ), .val (.int (1 : Int32)), .val (.int (1 : Int32)), .unset, .unset, .unset, .unset, .unset, .unset, .unset, .unset, .unset, .unset, .unset, .unset]) rfl ?_
      refine Go.iloadN (hb hby at_54) (pc' := 55) rfl rfl ?_
      refine Go.sipush (hb hby at_55) (pc' := 58) rfl (z := (256 : Int32)) rfl ?_
      refine Go.iand (hb hby at_58) (pc' := 59) rfl ?_
      refine Go.ifc (hb hby at_59) (by decide) (pc' := 66) (by decide) (pc2 := 62) rfl (fun (q59 : (i3 &&& (256 : Int32)) = (0 : Int32)) => ?_) (fun (q59 : ¬ ((i3 &&& (256 : Int32)) = (0 : Int32))) => ?_)
      · refine Go.iconst (hb hby at_66) (pc' := 67) rfl (z := (0 : Int32)) rfl ?_
        refine Go.istore (hb hby at_67) (pc' := 69) rfl (L' := #[.val (.int i0), .val (.int i1), .val (.int i2), .val (.int i3), .val (.int lE), .val (.int lA), .val (.int lQ), .val (.int (1 : Int32)), .val (.int (1 : Int32)), .val (.int (0 : Int32)), .unset, .unset, .unset, .unset, .unset, .unset, .unset, .unset, .unset, .unset, .unset]) rfl ?_
        refine Go.iloadN (hb hby at_69) (pc' := 70) rfl rfl ?_
        refine Go.sipush (hb hby at_70) (pc' := 73) rfl (z := (255 : Int32)) rfl ?_
        refine Go.iand (hb hby at_73) (pc' := 74) rfl ?_
        refine Go.i2c (hb hby at_74) (pc' := 75) rfl ?_
        rw [nch (m255 i0)]
        refine Go.istore (hb hby at_75) (pc' := 77) rfl (L' := #[.val (.int i0), .val (.int i1), .val (.int i2), .val (.int i3), .val (.int lE), .val (.int lA), .val (.int lQ), .val (.int (1 : Int32)), .val (.int (1 : Int32)), .val (.int (0 : Int32)), .val (.int (i0 &&& (255 : Int32))), .unset, .unset, .unset, .unset, .unset, .unset, .unset, .unset, .unset, .unset]) rfl ?_
        refine Go.iloadN (hb hby at_77) (pc' := 78) rfl rfl ?_
        refine Go.bipush (hb hby at_78) (pc' := 80) rfl (z := (8 : Int32)) rfl ?_
        refine Go.iushr (hb hby at_80) (pc' := 81) rfl ?_
        refine Go.sipush (hb hby at_81) (pc' := 84) rfl (z := (255 : Int32)) rfl ?_
        refine Go.iand (hb hby at_84) (pc' := 85) rfl ?_
        refine Go.i2c (hb hby at_85) (pc' := 86) rfl ?_
        rw [nch (m255 (XT.ushr i0 (8 : Int32)))]
        refine Go.istore (hb hby at_86) (pc' := 88) rfl (L' := #[.val (.int i0), .val (.int i1), .val (.int i2), .val (.int i3), .val (.int lE), .val (.int lA), .val (.int lQ), .val (.int (1 : Int32)), .val (.int (1 : Int32)), .val (.int (0 : Int32)), .val (.int (i0 &&& (255 : Int32))), .val (.int ((XT.ushr i0 (8 : Int32)) &&& (255 : Int32))), .unset, .unset, .unset, .unset, .unset, .unset, .unset, .unset, .unset]) rfl ?_
        refine Go.iload (hb hby at_88) (pc' := 90) rfl rfl ?_
        refine Go.ifN (hb hby at_90) (pc' := 93) rfl (show ¬ ((1 : Int32) = (0 : Int32)) from by decide) ?_
        refine Go.iload (hb hby at_93) (pc' := 95) rfl rfl ?_
        refine Go.goto (hb hby at_95) (by decide) (pc' := 104) (by decide) ?_
        refine Go.istore (hb hby at_104) (pc' := 106) rfl (L' := #[.val (.int i0), .val (.int i1), .val (.int i2), .val (.int i3), .val (.int lE), .val (.int lA), .val (.int lQ), .val (.int (1 : Int32)), .val (.int (1 : Int32)), .val (.int (0 : Int32)), .val (.int (i0 &&& (255 : Int32))), .val (.int ((XT.ushr i0 (8 : Int32)) &&& (255 : Int32))), .val (.int (i0 &&& (255 : Int32))), .unset, .unset, .unset, .unset, .unset, .unset, .unset, .unset]) rfl ?_
        refine Go.iload (hb hby at_106) (pc' := 108) rfl rfl ?_
        refine Go.ifN (hb hby at_108) (pc' := 111) rfl (show ¬ ((1 : Int32) = (0 : Int32)) from by decide) ?_
        refine Go.iload (hb hby at_111) (pc' := 113) rfl rfl ?_
        refine Go.goto (hb hby at_113) (by decide) (pc' := 125) (by decide) ?_
        refine Go.istore (hb hby at_125) (pc' := 127) rfl (L' := #[.val (.int i0), .val (.int i1), .val (.int i2), .val (.int i3), .val (.int lE), .val (.int lA), .val (.int lQ), .val (.int (1 : Int32)), .val (.int (1 : Int32)), .val (.int (0 : Int32)), .val (.int (i0 &&& (255 : Int32))), .val (.int ((XT.ushr i0 (8 : Int32)) &&& (255 : Int32))), .val (.int (i0 &&& (255 : Int32))), .val (.int ((XT.ushr i0 (8 : Int32)) &&& (255 : Int32))), .unset, .unset, .unset, .unset, .unset, .unset, .unset]) rfl ?_
        refine Go.iload (hb hby at_127) (pc' := 129) rfl rfl ?_
        refine Go.ifY (hb hby at_129) (by decide) (pc' := 137) (by decide) (show (0 : Int32) = (0 : Int32) from by decide) ?_
        refine Go.iloadN (hb hby at_137) (pc' := 138) rfl rfl ?_
        refine Go.sipush (hb hby at_138) (pc' := 141) rfl (z := (255 : Int32)) rfl ?_
        refine Go.iand (hb hby at_141) (pc' := 142) rfl ?_
        refine Go.i2c (hb hby at_142) (pc' := 143) rfl ?_
        rw [nch (m255 i2)]
        refine Go.istore (hb hby at_143) (pc' := 145) rfl (L' := #[.val (.int i0), .val (.int i1), .val (.int i2), .val (.int i3), .val (.int lE), .val (.int lA), .val (.int lQ), .val (.int (1 : Int32)), .val (.int (1 : Int32)), .val (.int (0 : Int32)), .val (.int (i0 &&& (255 : Int32))), .val (.int ((XT.ushr i0 (8 : Int32)) &&& (255 : Int32))), .val (.int (i0 &&& (255 : Int32))), .val (.int ((XT.ushr i0 (8 : Int32)) &&& (255 : Int32))), .val (.int (i2 &&& (255 : Int32))), .unset, .unset, .unset, .unset, .unset, .unset]) rfl ?_
        refine Go.iload (hb hby at_145) (pc' := 147) rfl rfl ?_
        refine Go.ifY (hb hby at_147) (by decide) (pc' := 155) (by decide) (show (0 : Int32) = (0 : Int32) from by decide) ?_
        refine Go.iloadN (hb hby at_155) (pc' := 156) rfl rfl ?_
        refine Go.bipush (hb hby at_156) (pc' := 158) rfl (z := (8 : Int32)) rfl ?_
        refine Go.iushr (hb hby at_158) (pc' := 159) rfl ?_
        refine Go.sipush (hb hby at_159) (pc' := 162) rfl (z := (255 : Int32)) rfl ?_
        refine Go.iand (hb hby at_162) (pc' := 163) rfl ?_
        refine Go.i2c (hb hby at_163) (pc' := 164) rfl ?_
        rw [nch (m255 (XT.ushr i2 (8 : Int32)))]
        refine Go.istore (hb hby at_164) (pc' := 166) rfl (L' := #[.val (.int i0), .val (.int i1), .val (.int i2), .val (.int i3), .val (.int lE), .val (.int lA), .val (.int lQ), .val (.int (1 : Int32)), .val (.int (1 : Int32)), .val (.int (0 : Int32)), .val (.int (i0 &&& (255 : Int32))), .val (.int ((XT.ushr i0 (8 : Int32)) &&& (255 : Int32))), .val (.int (i0 &&& (255 : Int32))), .val (.int ((XT.ushr i0 (8 : Int32)) &&& (255 : Int32))), .val (.int (i2 &&& (255 : Int32))), .val (.int ((XT.ushr i2 (8 : Int32)) &&& (255 : Int32))), .unset, .unset, .unset, .unset, .unset]) rfl ?_
        refine Go.iload (hb hby at_166) (pc' := 168) rfl rfl ?_
        refine Go.ifY (hb hby at_168) (by decide) (pc' := 175) (by decide) (show (0 : Int32) = (0 : Int32) from by decide) ?_
        refine Go.iload (hb hby at_175) (pc' := 177) rfl rfl ?_
        refine Go.iload (hb hby at_177) (pc' := 179) rfl rfl ?_
        refine Go.iload (hb hby at_179) (pc' := 181) rfl rfl ?_
        refine Go.callS (c_make (l := l) (nw := nw) g hnw h lE (i0 &&& (255 : Int32)) ((XT.ushr i0 (8 : Int32)) &&& (255 : Int32)) (m255 _) (m255 _) (by omega)) hown (wd_0 g) (wd_1 g) (wd_3 g) (wd_2 g) (by decide) (argsL := [(.int lE), (.int (i0 &&& (255 : Int32))), (.int ((XT.ushr i0 (8 : Int32)) &&& (255 : Int32)))]) (lenOf pd_11 rfl) rfl (by rw [hml]; rfl) (W := 0) rfl (hb hby at_181) (pc' := 184) rfl (by decide) (by decide) (by decide) (by decide) all0 ?_
        rintro _ vm265 h265 ⟨r_265, d_265, kd_265, rfl, K265, o265_0⟩ C265
        have z265 := K265.1
        have yo265_0 := ltN o265_0.lt; have yo265_0' := ltN o265_0.ltb
        -- pc 184
        refine Go.astore (hb hby at_184) (pc' := 186) rfl rfl (L' := #[.val (.int i0), .val (.int i1), .val (.int i2), .val (.int i3), .val (.int lE), .val (.int lA), .val (.int lQ), .val (.int (1 : Int32)), .val (.int (1 : Int32)), .val (.int (0 : Int32)), .val (.int (i0 &&& (255 : Int32))), .val (.int ((XT.ushr i0 (8 : Int32)) &&& (255 : Int32))), .val (.int (i0 &&& (255 : Int32))), .val (.int ((XT.ushr i0 (8 : Int32)) &&& (255 : Int32))), .val (.int (i2 &&& (255 : Int32))), .val (.int ((XT.ushr i2 (8 : Int32)) &&& (255 : Int32))), .val (.ref r_265), .unset, .unset, .unset, .unset]) rfl ?_
        refine Go.iload (hb hby at_186) (pc' := 188) rfl rfl ?_
        refine Go.iload (hb hby at_188) (pc' := 190) rfl rfl ?_
        refine Go.iload (hb hby at_190) (pc' := 192) rfl rfl ?_
        refine Go.callS (c_make (l := l) (nw := nw) g hnw h265 lA (i0 &&& (255 : Int32)) ((XT.ushr i0 (8 : Int32)) &&& (255 : Int32)) (m255 _) (m255 _) (by omega)) hown (wd_0 g) (wd_1 g) (wd_3 g) (wd_2 g) (by decide) (argsL := [(.int lA), (.int (i0 &&& (255 : Int32))), (.int ((XT.ushr i0 (8 : Int32)) &&& (255 : Int32)))]) (lenOf pd_11 rfl) rfl (by rw [hml]; rfl) (W := 0) rfl (hb hby at_192) (pc' := 195) rfl (by decide) (by decide) (by decide) (by decide) all0 ?_
        rintro _ vm266 h266 ⟨r_266, d_266, kd_266, rfl, K266, o266_0⟩ C266
        have z266 := K266.1
        have yo266_0 := ltN o266_0.lt; have yo266_0' := ltN o266_0.ltb
        -- pc 195
        refine Go.astore (hb hby at_195) (pc' := 197) rfl rfl (L' := #[.val (.int i0), .val (.int i1), .val (.int i2), .val (.int i3), .val (.int lE), .val (.int lA), .val (.int lQ), .val (.int (1 : Int32)), .val (.int (1 : Int32)), .val (.int (0 : Int32)), .val (.int (i0 &&& (255 : Int32))), .val (.int ((XT.ushr i0 (8 : Int32)) &&& (255 : Int32))), .val (.int (i0 &&& (255 : Int32))), .val (.int ((XT.ushr i0 (8 : Int32)) &&& (255 : Int32))), .val (.int (i2 &&& (255 : Int32))), .val (.int ((XT.ushr i2 (8 : Int32)) &&& (255 : Int32))), .val (.ref r_265), .val (.ref r_266), .unset, .unset, .unset]) rfl ?_
        refine Go.iload (hb hby at_197) (pc' := 199) rfl rfl ?_
        refine Go.iload (hb hby at_199) (pc' := 201) rfl rfl ?_
        refine Go.iload (hb hby at_201) (pc' := 203) rfl rfl ?_
        refine Go.callS (c_make (l := l) (nw := nw) g hnw h266 lQ (i2 &&& (255 : Int32)) ((XT.ushr i2 (8 : Int32)) &&& (255 : Int32)) (m255 _) (m255 _) (by omega)) hown (wd_0 g) (wd_1 g) (wd_3 g) (wd_2 g) (by decide) (argsL := [(.int lQ), (.int (i2 &&& (255 : Int32))), (.int ((XT.ushr i2 (8 : Int32)) &&& (255 : Int32)))]) (lenOf pd_11 rfl) rfl (by rw [hml]; rfl) (W := 0) rfl (hb hby at_203) (pc' := 206) rfl (by decide) (by decide) (by decide) (by decide) all0 ?_
        rintro _ vm267 h267 ⟨r_267, d_267, kd_267, rfl, K267, o267_0⟩ C267
        have z267 := K267.1
        have yo267_0 := ltN o267_0.lt; have yo267_0' := ltN o267_0.ltb
        -- pc 206
        refine Go.astore (hb hby at_206) (pc' := 208) rfl rfl (L' := #[.val (.int i0), .val (.int i1), .val (.int i2), .val (.int i3), .val (.int lE), .val (.int lA), .val (.int lQ), .val (.int (1 : Int32)), .val (.int (1 : Int32)), .val (.int (0 : Int32)), .val (.int (i0 &&& (255 : Int32))), .val (.int ((XT.ushr i0 (8 : Int32)) &&& (255 : Int32))), .val (.int (i0 &&& (255 : Int32))), .val (.int ((XT.ushr i0 (8 : Int32)) &&& (255 : Int32))), .val (.int (i2 &&& (255 : Int32))), .val (.int ((XT.ushr i2 (8 : Int32)) &&& (255 : Int32))), .val (.ref r_265), .val (.ref r_266), .val (.ref r_267), .unset, .unset]) rfl ?_
        refine Go.newO hown (wd_41 g) (wd_42 g) (wd_43 g) (hb hby at_208) (pc' := 211) rfl (by decide) (by decide) ?_
        intro h268 a269 g270 l271 E272 X273 D274 S275 C276
        have KE272 := Keep.ofExt E272; have zE272 := E272.1
        have f277 : Fld Z h268 a269 "com/example/kunci/kunci/TestOutcome" "question" "Ljava/lang/String;" .null := D274 (Or.inr (wd_49 g)) (ty := (.object "java/lang/String")) (by decide)
        have f278 : Fld Z h268 a269 "com/example/kunci/kunci/TestOutcome" "expected" "Ljava/lang/String;" .null := D274 (Or.inr (wd_51 g)) (ty := (.object "java/lang/String")) (by decide)
        have f279 : Fld Z h268 a269 "com/example/kunci/kunci/TestOutcome" "answer" "Ljava/lang/String;" .null := D274 (Or.inr (wd_53 g)) (ty := (.object "java/lang/String")) (by decide)
        refine Go.dup (hb hby at_211) (pc' := 212) rfl rfl ?_
        refine Go.aload (hb hby at_212) (pc' := 214) rfl rfl rfl ?_
        refine Go.aload (hb hby at_214) (pc' := 216) rfl rfl rfl ?_
        refine Go.aload (hb hby at_216) (pc' := 218) rfl rfl rfl ?_
        refine Go.callC (c_outcome (l := l) (nw := nw) g h268 a269 (.ref r_267) (.ref r_265) (.ref r_266) rfl rfl rfl (by first | omega | assumption | decide) X273 f277 f278 f279 (by omega)) hown rfl rfl (wd_44 g) (wd_45 g) (wd_46 g) (wd_43 g) (by decide) (argsL := [(.ref r_267), (.ref r_265), (.ref r_266)]) (lenOf pd_12 rfl) rfl (by rw [hml]; rfl) (W := 1) rfl (hb hby at_218) (pc' := 221) rfl (by decide) (by decide) (by decide) (by decide) all0 ?_
        rintro _ vm280 h280 ⟨rfl, K280, o280_0, o280_1, o280_2⟩ C280
        have z280 := K280.1
        -- pc 221
        refine Go.astore (hb hby at_221) (pc' := 223) rfl rfl (L' := #[.val (.int i0), .val (.int i1), .val (.int i2), .val (.int i3), .val (.int lE), .val (.int lA), .val (.int lQ), .val (.int (1 : Int32)), .val (.int (1 : Int32)), .val (.int (0 : Int32)), .val (.int (i0 &&& (255 : Int32))), .val (.int ((XT.ushr i0 (8 : Int32)) &&& (255 : Int32))), .val (.int (i0 &&& (255 : Int32))), .val (.int ((XT.ushr i0 (8 : Int32)) &&& (255 : Int32))), .val (.int (i2 &&& (255 : Int32))), .val (.int ((XT.ushr i2 (8 : Int32)) &&& (255 : Int32))), .val (.ref r_265), .val (.ref r_266), .val (.ref r_267), .val (.ref a269), .unset]) rfl ?_
        refine Go.iload (hb hby at_223) (pc' := 225) rfl rfl ?_
        refine Go.iload (hb hby at_225) (pc' := 227) rfl rfl ?_
        refine Go.icmp (hb hby at_227) (by decide) (pc' := 260) (by decide) (pc2 := 230) rfl (fun (q227 : ¬ lE = lA) => ?_) (fun (q227 : ¬ (¬ lE = lA)) => ?_)
        · refine Go.iconst (hb hby at_260) (pc' := 261) rfl (z := (0 : Int32)) rfl ?_
          refine Go.istore (hb hby at_261) (pc' := 263) rfl (L' := #[.val (.int i0), .val (.int i1), .val (.int i2), .val (.int i3), .val (.int lE), .val (.int lA), .val (.int lQ), .val (.int (1 : Int32)), .val (.int (1 : Int32)), .val (.int (0 : Int32)), .val (.int (i0 &&& (255 : Int32))), .val (.int ((XT.ushr i0 (8 : Int32)) &&& (255 : Int32))), .val (.int (i0 &&& (255 : Int32))), .val (.int ((XT.ushr i0 (8 : Int32)) &&& (255 : Int32))), .val (.int (i2 &&& (255 : Int32))), .val (.int ((XT.ushr i2 (8 : Int32)) &&& (255 : Int32))), .val (.ref r_265), .val (.ref r_266), .val (.ref r_267), .val (.ref a269), .val (.int (0 : Int32))]) rfl ?_
          refine Go.aload (hb hby at_263) (pc' := 265) rfl rfl rfl ?_
          have f281 : St Z h280 r_265 d_265 kd_265 (mkS lE (i0 &&& (255 : Int32)) ((XT.ushr i0 (8 : Int32)) &&& (255 : Int32))) := ((((o265_0.keep K266 nin0 nin0).keep K267 nin0 nin0).keep KE272 nin0 nin0).keep K280 (ninS (Exa.ne (((o265_0.keep K266 nin0 nin0).keep K267 nin0 nin0).keep KE272 nin0 nin0).1 X273 (by decide)) nin0) (ninS (Ne.symm (Ar.ne_exa (((o265_0.keep K266 nin0 nin0).keep K267 nin0 nin0).keep KE272 nin0 nin0).2.2.2.1 X273 (wd_42 g))) nin0))
          have f282 : St Z h280 r_266 d_266 kd_266 (mkS lA (i0 &&& (255 : Int32)) ((XT.ushr i0 (8 : Int32)) &&& (255 : Int32))) := (((o266_0.keep K267 nin0 nin0).keep KE272 nin0 nin0).keep K280 (ninS (Exa.ne ((o266_0.keep K267 nin0 nin0).keep KE272 nin0 nin0).1 X273 (by decide)) nin0) (ninS (Ne.symm (Ar.ne_exa ((o266_0.keep K267 nin0 nin0).keep KE272 nin0 nin0).2.2.2.1 X273 (wd_42 g))) nin0))
          have f283 : Exa Z h280 a269 "com/example/kunci/kunci/TestOutcome" := (X273.keep K280)
          refine Go.callV (y0 := ⟨"com/example/kunci/kunci/TestOutcome", "isPassed", "()Z"⟩) (c_isPassed (l := l) (nw := nw) g h280 a269 r_265 d_265 kd_265 (mkS lE (i0 &&& (255 : Int32)) ((XT.ushr i0 (8 : Int32)) &&& (255 : Int32))) r_266 d_266 kd_266 (mkS lA (i0 &&& (255 : Int32)) ((XT.ushr i0 (8 : Int32)) &&& (255 : Int32))) o280_1 o280_2 f281 f282 (by omega)) hown (wd_54 g) (wd_55 g) (notFace_of_selects (wd_57 g)) (wd_57 g) (wd_56 g) f283 (wd_58 g) (wd_43 g) (by decide) (argsL := []) (lenOf pd_13 rfl) rfl (by rw [hml]; rfl) (W := 0) rfl (hb hby at_265) (pc' := 268) rfl (by decide) (by decide) (by decide) (by decide) all0 ?_
          rintro _ vm284 h284 ⟨rfl, K284⟩ C284
          have z284 := K284.1
          -- pc 268
          refine Go.iload (hb hby at_268) (pc' := 270) rfl rfl ?_
          refine Go.icmpN (hb hby at_270) (pc' := 273) rfl (fun z => z (by rw [mkS_bo blE blA (m255 _) (m255 _) (m255 _) (m255 _)]; exact bo_no (fun z => q227 z.1))) ?_
          refine Go.iconst (hb hby at_273) (pc' := 274) rfl (z := (1 : Int32)) rfl ?_
          refine Go.goto (hb hby at_274) (by decide) (pc' := 278) (by decide) ?_
          refine Go.retN (t := .boolean) hret (by simp) (hb hby at_278) (by decide) (by decide) ?_
          intro vmR CR
          exact ⟨(by first | rfl | (simp only [own_nar]; done) | (congr 2; done)), (((((((Keep.refl h []).trans K265 all0).trans K266 all0).trans K267 all0).trans KE272 all0).trans K280 (allS (by first | (left; simp; done) | (right; omega)) all0)).trans K284 all0)⟩
        · refine Go.iload (hb hby at_230) (pc' := 232) rfl rfl ?_
          refine Go.iconst (hb hby at_232) (pc' := 233) rfl (z := (1 : Int32)) rfl ?_
          refine Go.icmp (hb hby at_233) (by decide) (pc' := 243) (by decide) (pc2 := 236) rfl (fun (q233 : lE < (1 : Int32)) => ?_) (fun (q233 : ¬ (lE < (1 : Int32))) => ?_)
          · refine Go.iload (hb hby at_243) (pc' := 245) rfl rfl ?_
            refine Go.iconst (hb hby at_245) (pc' := 246) rfl (z := (2 : Int32)) rfl ?_
            refine Go.icmp (hb hby at_246) (by decide) (pc' := 256) (by decide) (pc2 := 249) rfl (fun (q246 : lE < (2 : Int32)) => ?_) (fun (q246 : ¬ (lE < (2 : Int32))) => ?_)
            · refine Go.iconst (hb hby at_256) (pc' := 257) rfl (z := (1 : Int32)) rfl ?_
              refine Go.goto (hb hby at_257) (by decide) (pc' := 261) (by decide) ?_
              refine Go.istore (hb hby at_261) (pc' := 263) rfl (L' := #[.val (.int i0), .val (.int i1), .val (.int i2), .val (.int i3), .val (.int lE), .val (.int lA), .val (.int lQ), .val (.int (1 : Int32)), .val (.int (1 : Int32)), .val (.int (0 : Int32)), .val (.int (i0 &&& (255 : Int32))), .val (.int ((XT.ushr i0 (8 : Int32)) &&& (255 : Int32))), .val (.int (i0 &&& (255 : Int32))), .val (.int ((XT.ushr i0 (8 : Int32)) &&& (255 : Int32))), .val (.int (i2 &&& (255 : Int32))), .val (.int ((XT.ushr i2 (8 : Int32)) &&& (255 : Int32))), .val (.ref r_265), .val (.ref r_266), .val (.ref r_267), .val (.ref a269), .val (.int (1 : Int32))]) rfl ?_
              refine Go.aload (hb hby at_263) (pc' := 265) rfl rfl rfl ?_
              have f285 : St Z h280 r_265 d_265 kd_265 (mkS lE (i0 &&& (255 : Int32)) ((XT.ushr i0 (8 : Int32)) &&& (255 : Int32))) := ((((o265_0.keep K266 nin0 nin0).keep K267 nin0 nin0).keep KE272 nin0 nin0).keep K280 (ninS (Exa.ne (((o265_0.keep K266 nin0 nin0).keep K267 nin0 nin0).keep KE272 nin0 nin0).1 X273 (by decide)) nin0) (ninS (Ne.symm (Ar.ne_exa (((o265_0.keep K266 nin0 nin0).keep K267 nin0 nin0).keep KE272 nin0 nin0).2.2.2.1 X273 (wd_42 g))) nin0))
              have f286 : St Z h280 r_266 d_266 kd_266 (mkS lA (i0 &&& (255 : Int32)) ((XT.ushr i0 (8 : Int32)) &&& (255 : Int32))) := (((o266_0.keep K267 nin0 nin0).keep KE272 nin0 nin0).keep K280 (ninS (Exa.ne ((o266_0.keep K267 nin0 nin0).keep KE272 nin0 nin0).1 X273 (by decide)) nin0) (ninS (Ne.symm (Ar.ne_exa ((o266_0.keep K267 nin0 nin0).keep KE272 nin0 nin0).2.2.2.1 X273 (wd_42 g))) nin0))
              have f287 : Exa Z h280 a269 "com/example/kunci/kunci/TestOutcome" := (X273.keep K280)
              refine Go.callV (y0 := ⟨"com/example/kunci/kunci/TestOutcome", "isPassed", "()Z"⟩) (c_isPassed (l := l) (nw := nw) g h280 a269 r_265 d_265 kd_265 (mkS lE (i0 &&& (255 : Int32)) ((XT.ushr i0 (8 : Int32)) &&& (255 : Int32))) r_266 d_266 kd_266 (mkS lA (i0 &&& (255 : Int32)) ((XT.ushr i0 (8 : Int32)) &&& (255 : Int32))) o280_1 o280_2 f285 f286 (by omega)) hown (wd_54 g) (wd_55 g) (notFace_of_selects (wd_57 g)) (wd_57 g) (wd_56 g) f287 (wd_58 g) (wd_43 g) (by decide) (argsL := []) (lenOf pd_13 rfl) rfl (by rw [hml]; rfl) (W := 0) rfl (hb hby at_265) (pc' := 268) rfl (by decide) (by decide) (by decide) (by decide) all0 ?_
              rintro _ vm288 h288 ⟨rfl, K288⟩ C288
              have z288 := K288.1
              -- pc 268
              refine Go.iload (hb hby at_268) (pc' := 270) rfl rfl ?_
              refine Go.icmpN (hb hby at_270) (pc' := 273) rfl (fun z => z (by rw [mkS_bo blE blA (m255 _) (m255 _) (m255 _) (m255 _)]; exact bo_yes ⟨Classical.not_not.mp q227, Or.inl q233, Or.inl q246⟩)) ?_
              refine Go.iconst (hb hby at_273) (pc' := 274) rfl (z := (1 : Int32)) rfl ?_
              refine Go.goto (hb hby at_274) (by decide) (pc' := 278) (by decide) ?_
              refine Go.retN (t := .boolean) hret (by simp) (hb hby at_278) (by decide) (by decide) ?_
              intro vmR CR
              exact ⟨(by first | rfl | (simp only [own_nar]; done) | (congr 2; done)), (((((((Keep.refl h []).trans K265 all0).trans K266 all0).trans K267 all0).trans KE272 all0).trans K280 (allS (by first | (left; simp; done) | (right; omega)) all0)).trans K288 all0)⟩
            · refine Go.iload (hb hby at_249) (pc' := 251) rfl rfl ?_
              refine Go.iload (hb hby at_251) (pc' := 253) rfl rfl ?_
              refine Go.icmpN (hb hby at_253) (pc' := 256) rfl (fun q => q rfl) ?_
              refine Go.iconst (hb hby at_256) (pc' := 257) rfl (z := (1 : Int32)) rfl ?_
              refine Go.goto (hb hby at_257) (by decide) (pc' := 261) (by decide) ?_
              refine Go.istore (hb hby at_261) (pc' := 263) rfl (L' := #[.val (.int i0), .val (.int i1), .val (.int i2), .val (.int i3), .val (.int lE), .val (.int lA), .val (.int lQ), .val (.int (1 : Int32)), .val (.int (1 : Int32)), .val (.int (0 : Int32)), .val (.int (i0 &&& (255 : Int32))), .val (.int ((XT.ushr i0 (8 : Int32)) &&& (255 : Int32))), .val (.int (i0 &&& (255 : Int32))), .val (.int ((XT.ushr i0 (8 : Int32)) &&& (255 : Int32))), .val (.int (i2 &&& (255 : Int32))), .val (.int ((XT.ushr i2 (8 : Int32)) &&& (255 : Int32))), .val (.ref r_265), .val (.ref r_266), .val (.ref r_267), .val (.ref a269), .val (.int (1 : Int32))]) rfl ?_
              refine Go.aload (hb hby at_263) (pc' := 265) rfl rfl rfl ?_
              have f289 : St Z h280 r_265 d_265 kd_265 (mkS lE (i0 &&& (255 : Int32)) ((XT.ushr i0 (8 : Int32)) &&& (255 : Int32))) := ((((o265_0.keep K266 nin0 nin0).keep K267 nin0 nin0).keep KE272 nin0 nin0).keep K280 (ninS (Exa.ne (((o265_0.keep K266 nin0 nin0).keep K267 nin0 nin0).keep KE272 nin0 nin0).1 X273 (by decide)) nin0) (ninS (Ne.symm (Ar.ne_exa (((o265_0.keep K266 nin0 nin0).keep K267 nin0 nin0).keep KE272 nin0 nin0).2.2.2.1 X273 (wd_42 g))) nin0))
              have f290 : St Z h280 r_266 d_266 kd_266 (mkS lA (i0 &&& (255 : Int32)) ((XT.ushr i0 (8 : Int32)) &&& (255 : Int32))) := (((o266_0.keep K267 nin0 nin0).keep KE272 nin0 nin0).keep K280 (ninS (Exa.ne ((o266_0.keep K267 nin0 nin0).keep KE272 nin0 nin0).1 X273 (by decide)) nin0) (ninS (Ne.symm (Ar.ne_exa ((o266_0.keep K267 nin0 nin0).keep KE272 nin0 nin0).2.2.2.1 X273 (wd_42 g))) nin0))
              have f291 : Exa Z h280 a269 "com/example/kunci/kunci/TestOutcome" := (X273.keep K280)
              refine Go.callV (y0 := ⟨"com/example/kunci/kunci/TestOutcome", "isPassed", "()Z"⟩) (c_isPassed (l := l) (nw := nw) g h280 a269 r_265 d_265 kd_265 (mkS lE (i0 &&& (255 : Int32)) ((XT.ushr i0 (8 : Int32)) &&& (255 : Int32))) r_266 d_266 kd_266 (mkS lA (i0 &&& (255 : Int32)) ((XT.ushr i0 (8 : Int32)) &&& (255 : Int32))) o280_1 o280_2 f289 f290 (by omega)) hown (wd_54 g) (wd_55 g) (notFace_of_selects (wd_57 g)) (wd_57 g) (wd_56 g) f291 (wd_58 g) (wd_43 g) (by decide) (argsL := []) (lenOf pd_13 rfl) rfl (by rw [hml]; rfl) (W := 0) rfl (hb hby at_265) (pc' := 268) rfl (by decide) (by decide) (by decide) (by decide) all0 ?_
              rintro _ vm292 h292 ⟨rfl, K292⟩ C292
              have z292 := K292.1
              -- pc 268
              refine Go.iload (hb hby at_268) (pc' := 270) rfl rfl ?_
              refine Go.icmpN (hb hby at_270) (pc' := 273) rfl (fun z => z (by rw [mkS_bo blE blA (m255 _) (m255 _) (m255 _) (m255 _)]; exact bo_yes ⟨Classical.not_not.mp q227, Or.inl q233, Or.inr rfl⟩)) ?_
              refine Go.iconst (hb hby at_273) (pc' := 274) rfl (z := (1 : Int32)) rfl ?_
              refine Go.goto (hb hby at_274) (by decide) (pc' := 278) (by decide) ?_
              refine Go.retN (t := .boolean) hret (by simp) (hb hby at_278) (by decide) (by decide) ?_
              intro vmR CR
              exact ⟨(by first | rfl | (simp only [own_nar]; done) | (congr 2; done)), (((((((Keep.refl h []).trans K265 all0).trans K266 all0).trans K267 all0).trans KE272 all0).trans K280 (allS (by first | (left; simp; done) | (right; omega)) all0)).trans K292 all0)⟩
          · refine Go.iload (hb hby at_236) (pc' := 238) rfl rfl ?_
            refine Go.iload (hb hby at_238) (pc' := 240) rfl rfl ?_
            refine Go.icmpN (hb hby at_240) (pc' := 243) rfl (fun q => q rfl) ?_
            refine Go.iload (hb hby at_243) (pc' := 245) rfl rfl ?_
            refine Go.iconst (hb hby at_245) (pc' := 246) rfl (z := (2 : Int32)) rfl ?_
            refine Go.icmp (hb hby at_246) (by decide) (pc' := 256) (by decide) (pc2 := 249) rfl (fun (q246 : lE < (2 : Int32)) => ?_) (fun (q246 : ¬ (lE < (2 : Int32))) => ?_)
            · refine Go.iconst (hb hby at_256) (pc' := 257) rfl (z := (1 : Int32)) rfl ?_
              refine Go.goto (hb hby at_257) (by decide) (pc' := 261) (by decide) ?_
              refine Go.istore (hb hby at_261) (pc' := 263) rfl (L' := #[.val (.int i0), .val (.int i1), .val (.int i2), .val (.int i3), .val (.int lE), .val (.int lA), .val (.int lQ), .val (.int (1 : Int32)), .val (.int (1 : Int32)), .val (.int (0 : Int32)), .val (.int (i0 &&& (255 : Int32))), .val (.int ((XT.ushr i0 (8 : Int32)) &&& (255 : Int32))), .val (.int (i0 &&& (255 : Int32))), .val (.int ((XT.ushr i0 (8 : Int32)) &&& (255 : Int32))), .val (.int (i2 &&& (255 : Int32))), .val (.int ((XT.ushr i2 (8 : Int32)) &&& (255 : Int32))), .val (.ref r_265), .val (.ref r_266), .val (.ref r_267), .val (.ref a269), .val (.int (1 : Int32))]) rfl ?_
              refine Go.aload (hb hby at_263) (pc' := 265) rfl rfl rfl ?_
              have f293 : St Z h280 r_265 d_265 kd_265 (mkS lE (i0 &&& (255 : Int32)) ((XT.ushr i0 (8 : Int32)) &&& (255 : Int32))) := ((((o265_0.keep K266 nin0 nin0).keep K267 nin0 nin0).keep KE272 nin0 nin0).keep K280 (ninS (Exa.ne (((o265_0.keep K266 nin0 nin0).keep K267 nin0 nin0).keep KE272 nin0 nin0).1 X273 (by decide)) nin0) (ninS (Ne.symm (Ar.ne_exa (((o265_0.keep K266 nin0 nin0).keep K267 nin0 nin0).keep KE272 nin0 nin0).2.2.2.1 X273 (wd_42 g))) nin0))
              have f294 : St Z h280 r_266 d_266 kd_266 (mkS lA (i0 &&& (255 : Int32)) ((XT.ushr i0 (8 : Int32)) &&& (255 : Int32))) := (((o266_0.keep K267 nin0 nin0).keep KE272 nin0 nin0).keep K280 (ninS (Exa.ne ((o266_0.keep K267 nin0 nin0).keep KE272 nin0 nin0).1 X273 (by decide)) nin0) (ninS (Ne.symm (Ar.ne_exa ((o266_0.keep K267 nin0 nin0).keep KE272 nin0 nin0).2.2.2.1 X273 (wd_42 g))) nin0))
              have f295 : Exa Z h280 a269 "com/example/kunci/kunci/TestOutcome" := (X273.keep K280)
              refine Go.callV (y0 := ⟨"com/example/kunci/kunci/TestOutcome", "isPassed", "()Z"⟩) (c_isPassed (l := l) (nw := nw) g h280 a269 r_265 d_265 kd_265 (mkS lE (i0 &&& (255 : Int32)) ((XT.ushr i0 (8 : Int32)) &&& (255 : Int32))) r_266 d_266 kd_266 (mkS lA (i0 &&& (255 : Int32)) ((XT.ushr i0 (8 : Int32)) &&& (255 : Int32))) o280_1 o280_2 f293 f294 (by omega)) hown (wd_54 g) (wd_55 g) (notFace_of_selects (wd_57 g)) (wd_57 g) (wd_56 g) f295 (wd_58 g) (wd_43 g) (by decide) (argsL := []) (lenOf pd_13 rfl) rfl (by rw [hml]; rfl) (W := 0) rfl (hb hby at_265) (pc' := 268) rfl (by decide) (by decide) (by decide) (by decide) all0 ?_
              rintro _ vm296 h296 ⟨rfl, K296⟩ C296
              have z296 := K296.1
              -- pc 268
              refine Go.iload (hb hby at_268) (pc' := 270) rfl rfl ?_
              refine Go.icmpN (hb hby at_270) (pc' := 273) rfl (fun z => z (by rw [mkS_bo blE blA (m255 _) (m255 _) (m255 _) (m255 _)]; exact bo_yes ⟨Classical.not_not.mp q227, Or.inr rfl, Or.inl q246⟩)) ?_
              refine Go.iconst (hb hby at_273) (pc' := 274) rfl (z := (1 : Int32)) rfl ?_
              refine Go.goto (hb hby at_274) (by decide) (pc' := 278) (by decide) ?_
              refine Go.retN (t := .boolean) hret (by simp) (hb hby at_278) (by decide) (by decide) ?_
              intro vmR CR
              exact ⟨(by first | rfl | (simp only [own_nar]; done) | (congr 2; done)), (((((((Keep.refl h []).trans K265 all0).trans K266 all0).trans K267 all0).trans KE272 all0).trans K280 (allS (by first | (left; simp; done) | (right; omega)) all0)).trans K296 all0)⟩
            · refine Go.iload (hb hby at_249) (pc' := 251) rfl rfl ?_
              refine Go.iload (hb hby at_251) (pc' := 253) rfl rfl ?_
              refine Go.icmpN (hb hby at_253) (pc' := 256) rfl (fun q => q rfl) ?_
              refine Go.iconst (hb hby at_256) (pc' := 257) rfl (z := (1 : Int32)) rfl ?_
              refine Go.goto (hb hby at_257) (by decide) (pc' := 261) (by decide) ?_
              refine Go.istore (hb hby at_261) (pc' := 263) rfl (L' := #[.val (.int i0), .val (.int i1), .val (.int i2), .val (.int i3), .val (.int lE), .val (.int lA), .val (.int lQ), .val (.int (1 : Int32)), .val (.int (1 : Int32)), .val (.int (0 : Int32)), .val (.int (i0 &&& (255 : Int32))), .val (.int ((XT.ushr i0 (8 : Int32)) &&& (255 : Int32))), .val (.int (i0 &&& (255 : Int32))), .val (.int ((XT.ushr i0 (8 : Int32)) &&& (255 : Int32))), .val (.int (i2 &&& (255 : Int32))), .val (.int ((XT.ushr i2 (8 : Int32)) &&& (255 : Int32))), .val (.ref r_265), .val (.ref r_266), .val (.ref r_267), .val (.ref a269), .val (.int (1 : Int32))]) rfl ?_
              refine Go.aload (hb hby at_263) (pc' := 265) rfl rfl rfl ?_
              have f297 : St Z h280 r_265 d_265 kd_265 (mkS lE (i0 &&& (255 : Int32)) ((XT.ushr i0 (8 : Int32)) &&& (255 : Int32))) := ((((o265_0.keep K266 nin0 nin0).keep K267 nin0 nin0).keep KE272 nin0 nin0).keep K280 (ninS (Exa.ne (((o265_0.keep K266 nin0 nin0).keep K267 nin0 nin0).keep KE272 nin0 nin0).1 X273 (by decide)) nin0) (ninS (Ne.symm (Ar.ne_exa (((o265_0.keep K266 nin0 nin0).keep K267 nin0 nin0).keep KE272 nin0 nin0).2.2.2.1 X273 (wd_42 g))) nin0))
              have f298 : St Z h280 r_266 d_266 kd_266 (mkS lA (i0 &&& (255 : Int32)) ((XT.ushr i0 (8 : Int32)) &&& (255 : Int32))) := (((o266_0.keep K267 nin0 nin0).keep KE272 nin0 nin0).keep K280 (ninS (Exa.ne ((o266_0.keep K267 nin0 nin0).keep KE272 nin0 nin0).1 X273 (by decide)) nin0) (ninS (Ne.symm (Ar.ne_exa ((o266_0.keep K267 nin0 nin0).keep KE272 nin0 nin0).2.2.2.1 X273 (wd_42 g))) nin0))
              have f299 : Exa Z h280 a269 "com/example/kunci/kunci/TestOutcome" := (X273.keep K280)
              refine Go.callV (y0 := ⟨"com/example/kunci/kunci/TestOutcome", "isPassed", "()Z"⟩) (c_isPassed (l := l) (nw := nw) g h280 a269 r_265 d_265 kd_265 (mkS lE (i0 &&& (255 : Int32)) ((XT.ushr i0 (8 : Int32)) &&& (255 : Int32))) r_266 d_266 kd_266 (mkS lA (i0 &&& (255 : Int32)) ((XT.ushr i0 (8 : Int32)) &&& (255 : Int32))) o280_1 o280_2 f297 f298 (by omega)) hown (wd_54 g) (wd_55 g) (notFace_of_selects (wd_57 g)) (wd_57 g) (wd_56 g) f299 (wd_58 g) (wd_43 g) (by decide) (argsL := []) (lenOf pd_13 rfl) rfl (by rw [hml]; rfl) (W := 0) rfl (hb hby at_265) (pc' := 268) rfl (by decide) (by decide) (by decide) (by decide) all0 ?_
              rintro _ vm300 h300 ⟨rfl, K300⟩ C300
              have z300 := K300.1
              -- pc 268
              refine Go.iload (hb hby at_268) (pc' := 270) rfl rfl ?_
              refine Go.icmpN (hb hby at_270) (pc' := 273) rfl (fun z => z (by rw [mkS_bo blE blA (m255 _) (m255 _) (m255 _) (m255 _)]; exact bo_yes ⟨Classical.not_not.mp q227, Or.inr rfl, Or.inr rfl⟩)) ?_
              refine Go.iconst (hb hby at_273) (pc' := 274) rfl (z := (1 : Int32)) rfl ?_
              refine Go.goto (hb hby at_274) (by decide) (pc' := 278) (by decide) ?_
              refine Go.retN (t := .boolean) hret (by simp) (hb hby at_278) (by decide) (by decide) ?_
              intro vmR CR
              exact ⟨(by first | rfl | (simp only [own_nar]; done) | (congr 2; done)), (((((((Keep.refl h []).trans K265 all0).trans K266 all0).trans K267 all0).trans KE272 all0).trans K280 (allS (by first | (left; simp; done) | (right; omega)) all0)).trans K300 all0)⟩
      · refine Go.iconst (hb hby at_62) (pc' := 63) rfl (z := (1 : Int32)) rfl ?_
        refine Go.goto (hb hby at_63) (by decide) (pc' := 67) (by decide) ?_
        refine Go.istore (hb hby at_67) (pc' := 69) rfl (L' := #[.val (.int i0), .val (.int i1), .val (.int i2), .val (.int i3), .val (.int lE), .val (.int lA), .val (.int lQ), .val (.int (1 : Int32)), .val (.int (1 : Int32)), .val (.int (1 : Int32)), .unset, .unset, .unset, .unset, .unset, .unset, .unset, .unset, .unset, .unset, .unset]) rfl ?_
        refine Go.iloadN (hb hby at_69) (pc' := 70) rfl rfl ?_
        refine Go.sipush (hb hby at_70) (pc' := 73) rfl (z := (255 : Int32)) rfl ?_
        refine Go.iand (hb hby at_73) (pc' := 74) rfl ?_
        refine Go.i2c (hb hby at_74) (pc' := 75) rfl ?_
        rw [nch (m255 i0)]
        refine Go.istore (hb hby at_75) (pc' := 77) rfl (L' := #[.val (.int i0), .val (.int i1), .val (.int i2), .val (.int i3), .val (.int lE), .val (.int lA), .val (.int lQ), .val (.int (1 : Int32)), .val (.int (1 : Int32)), .val (.int (1 : Int32)), .val (.int (i0 &&& (255 : Int32))), .unset, .unset, .unset, .unset, .unset, .unset, .unset, .unset, .unset, .unset]) rfl ?_
        refine Go.iloadN (hb hby at_77) (pc' := 78) rfl rfl ?_
        refine Go.bipush (hb hby at_78) (pc' := 80) rfl (z := (8 : Int32)) rfl ?_
        refine Go.iushr (hb hby at_80) (pc' := 81) rfl ?_
        refine Go.sipush (hb hby at_81) (pc' := 84) rfl (z := (255 : Int32)) rfl ?_
        refine Go.iand (hb hby at_84) (pc' := 85) rfl ?_
        refine Go.i2c (hb hby at_85) (pc' := 86) rfl ?_
        rw [nch (m255 (XT.ushr i0 (8 : Int32)))]
        refine Go.istore (hb hby at_86) (pc' := 88) rfl (L' := #[.val (.int i0), .val (.int i1), .val (.int i2), .val (.int i3), .val (.int lE), .val (.int lA), .val (.int lQ), .val (.int (1 : Int32)), .val (.int (1 : Int32)), .val (.int (1 : Int32)), .val (.int (i0 &&& (255 : Int32))), .val (.int ((XT.ushr i0 (8 : Int32)) &&& (255 : Int32))), .unset, .unset, .unset, .unset, .unset, .unset, .unset, .unset, .unset]) rfl ?_
        refine Go.iload (hb hby at_88) (pc' := 90) rfl rfl ?_
        refine Go.ifN (hb hby at_90) (pc' := 93) rfl (show ¬ ((1 : Int32) = (0 : Int32)) from by decide) ?_
        refine Go.iload (hb hby at_93) (pc' := 95) rfl rfl ?_
        refine Go.goto (hb hby at_95) (by decide) (pc' := 104) (by decide) ?_
        refine Go.istore (hb hby at_104) (pc' := 106) rfl (L' := #[.val (.int i0), .val (.int i1), .val (.int i2), .val (.int i3), .val (.int lE), .val (.int lA), .val (.int lQ), .val (.int (1 : Int32)), .val (.int (1 : Int32)), .val (.int (1 : Int32)), .val (.int (i0 &&& (255 : Int32))), .val (.int ((XT.ushr i0 (8 : Int32)) &&& (255 : Int32))), .val (.int (i0 &&& (255 : Int32))), .unset, .unset, .unset, .unset, .unset, .unset, .unset, .unset]) rfl ?_
        refine Go.iload (hb hby at_106) (pc' := 108) rfl rfl ?_
        refine Go.ifN (hb hby at_108) (pc' := 111) rfl (show ¬ ((1 : Int32) = (0 : Int32)) from by decide) ?_
        refine Go.iload (hb hby at_111) (pc' := 113) rfl rfl ?_
        refine Go.goto (hb hby at_113) (by decide) (pc' := 125) (by decide) ?_
        refine Go.istore (hb hby at_125) (pc' := 127) rfl (L' := #[.val (.int i0), .val (.int i1), .val (.int i2), .val (.int i3), .val (.int lE), .val (.int lA), .val (.int lQ), .val (.int (1 : Int32)), .val (.int (1 : Int32)), .val (.int (1 : Int32)), .val (.int (i0 &&& (255 : Int32))), .val (.int ((XT.ushr i0 (8 : Int32)) &&& (255 : Int32))), .val (.int (i0 &&& (255 : Int32))), .val (.int ((XT.ushr i0 (8 : Int32)) &&& (255 : Int32))), .unset, .unset, .unset, .unset, .unset, .unset, .unset]) rfl ?_
        refine Go.iload (hb hby at_127) (pc' := 129) rfl rfl ?_
        refine Go.ifN (hb hby at_129) (pc' := 132) rfl (show ¬ ((1 : Int32) = (0 : Int32)) from by decide) ?_
        refine Go.iload (hb hby at_132) (pc' := 134) rfl rfl ?_
        refine Go.goto (hb hby at_134) (by decide) (pc' := 143) (by decide) ?_
        refine Go.istore (hb hby at_143) (pc' := 145) rfl (L' := #[.val (.int i0), .val (.int i1), .val (.int i2), .val (.int i3), .val (.int lE), .val (.int lA), .val (.int lQ), .val (.int (1 : Int32)), .val (.int (1 : Int32)), .val (.int (1 : Int32)), .val (.int (i0 &&& (255 : Int32))), .val (.int ((XT.ushr i0 (8 : Int32)) &&& (255 : Int32))), .val (.int (i0 &&& (255 : Int32))), .val (.int ((XT.ushr i0 (8 : Int32)) &&& (255 : Int32))), .val (.int (i0 &&& (255 : Int32))), .unset, .unset, .unset, .unset, .unset, .unset]) rfl ?_
        refine Go.iload (hb hby at_145) (pc' := 147) rfl rfl ?_
        refine Go.ifN (hb hby at_147) (pc' := 150) rfl (show ¬ ((1 : Int32) = (0 : Int32)) from by decide) ?_
        refine Go.iload (hb hby at_150) (pc' := 152) rfl rfl ?_
        refine Go.goto (hb hby at_152) (by decide) (pc' := 164) (by decide) ?_
        refine Go.istore (hb hby at_164) (pc' := 166) rfl (L' := #[.val (.int i0), .val (.int i1), .val (.int i2), .val (.int i3), .val (.int lE), .val (.int lA), .val (.int lQ), .val (.int (1 : Int32)), .val (.int (1 : Int32)), .val (.int (1 : Int32)), .val (.int (i0 &&& (255 : Int32))), .val (.int ((XT.ushr i0 (8 : Int32)) &&& (255 : Int32))), .val (.int (i0 &&& (255 : Int32))), .val (.int ((XT.ushr i0 (8 : Int32)) &&& (255 : Int32))), .val (.int (i0 &&& (255 : Int32))), .val (.int ((XT.ushr i0 (8 : Int32)) &&& (255 : Int32))), .unset, .unset, .unset, .unset, .unset]) rfl ?_
        refine Go.iload (hb hby at_166) (pc' := 168) rfl rfl ?_
        refine Go.ifN (hb hby at_168) (pc' := 171) rfl (show ¬ ((1 : Int32) = (0 : Int32)) from by decide) ?_
        refine Go.iload (hb hby at_171) (pc' := 173) rfl rfl ?_
        refine Go.istore (hb hby at_173) (pc' := 175) rfl (L' := #[.val (.int i0), .val (.int i1), .val (.int i2), .val (.int i3), .val (.int lE), .val (.int lA), .val (.int lE), .val (.int (1 : Int32)), .val (.int (1 : Int32)), .val (.int (1 : Int32)), .val (.int (i0 &&& (255 : Int32))), .val (.int ((XT.ushr i0 (8 : Int32)) &&& (255 : Int32))), .val (.int (i0 &&& (255 : Int32))), .val (.int ((XT.ushr i0 (8 : Int32)) &&& (255 : Int32))), .val (.int (i0 &&& (255 : Int32))), .val (.int ((XT.ushr i0 (8 : Int32)) &&& (255 : Int32))), .unset, .unset, .unset, .unset, .unset]) rfl ?_
        refine Go.iload (hb hby at_175) (pc' := 177) rfl rfl ?_
        refine Go.iload (hb hby at_177) (pc' := 179) rfl rfl ?_
        refine Go.iload (hb hby at_179) (pc' := 181) rfl rfl ?_
        refine Go.callS (c_make (l := l) (nw := nw) g hnw h lE (i0 &&& (255 : Int32)) ((XT.ushr i0 (8 : Int32)) &&& (255 : Int32)) (m255 _) (m255 _) (by omega)) hown (wd_0 g) (wd_1 g) (wd_3 g) (wd_2 g) (by decide) (argsL := [(.int lE), (.int (i0 &&& (255 : Int32))), (.int ((XT.ushr i0 (8 : Int32)) &&& (255 : Int32)))]) (lenOf pd_11 rfl) rfl (by rw [hml]; rfl) (W := 0) rfl (hb hby at_181) (pc' := 184) rfl (by decide) (by decide) (by decide) (by decide) all0 ?_
        rintro _ vm301 h301 ⟨r_301, d_301, kd_301, rfl, K301, o301_0⟩ C301
        have z301 := K301.1
        have yo301_0 := ltN o301_0.lt; have yo301_0' := ltN o301_0.ltb
        -- pc 184
        refine Go.astore (hb hby at_184) (pc' := 186) rfl rfl (L' := #[.val (.int i0), .val (.int i1), .val (.int i2), .val (.int i3), .val (.int lE), .val (.int lA), .val (.int lE), .val (.int (1 : Int32)), .val (.int (1 : Int32)), .val (.int (1 : Int32)), .val (.int (i0 &&& (255 : Int32))), .val (.int ((XT.ushr i0 (8 : Int32)) &&& (255 : Int32))), .val (.int (i0 &&& (255 : Int32))), .val (.int ((XT.ushr i0 (8 : Int32)) &&& (255 : Int32))), .val (.int (i0 &&& (255 : Int32))), .val (.int ((XT.ushr i0 (8 : Int32)) &&& (255 : Int32))), .val (.ref r_301), .unset, .unset, .unset, .unset]) rfl ?_
        refine Go.iload (hb hby at_186) (pc' := 188) rfl rfl ?_
        refine Go.iload (hb hby at_188) (pc' := 190) rfl rfl ?_
        refine Go.iload (hb hby at_190) (pc' := 192) rfl rfl ?_
        refine Go.callS (c_make (l := l) (nw := nw) g hnw h301 lA (i0 &&& (255 : Int32)) ((XT.ushr i0 (8 : Int32)) &&& (255 : Int32)) (m255 _) (m255 _) (by omega)) hown (wd_0 g) (wd_1 g) (wd_3 g) (wd_2 g) (by decide) (argsL := [(.int lA), (.int (i0 &&& (255 : Int32))), (.int ((XT.ushr i0 (8 : Int32)) &&& (255 : Int32)))]) (lenOf pd_11 rfl) rfl (by rw [hml]; rfl) (W := 0) rfl (hb hby at_192) (pc' := 195) rfl (by decide) (by decide) (by decide) (by decide) all0 ?_
        rintro _ vm302 h302 ⟨r_302, d_302, kd_302, rfl, K302, o302_0⟩ C302
        have z302 := K302.1
        have yo302_0 := ltN o302_0.lt; have yo302_0' := ltN o302_0.ltb
        -- pc 195
        refine Go.astore (hb hby at_195) (pc' := 197) rfl rfl (L' := #[.val (.int i0), .val (.int i1), .val (.int i2), .val (.int i3), .val (.int lE), .val (.int lA), .val (.int lE), .val (.int (1 : Int32)), .val (.int (1 : Int32)), .val (.int (1 : Int32)), .val (.int (i0 &&& (255 : Int32))), .val (.int ((XT.ushr i0 (8 : Int32)) &&& (255 : Int32))), .val (.int (i0 &&& (255 : Int32))), .val (.int ((XT.ushr i0 (8 : Int32)) &&& (255 : Int32))), .val (.int (i0 &&& (255 : Int32))), .val (.int ((XT.ushr i0 (8 : Int32)) &&& (255 : Int32))), .val (.ref r_301), .val (.ref r_302), .unset, .unset, .unset]) rfl ?_
        refine Go.iload (hb hby at_197) (pc' := 199) rfl rfl ?_
        refine Go.iload (hb hby at_199) (pc' := 201) rfl rfl ?_
        refine Go.iload (hb hby at_201) (pc' := 203) rfl rfl ?_
        refine Go.callS (c_make (l := l) (nw := nw) g hnw h302 lE (i0 &&& (255 : Int32)) ((XT.ushr i0 (8 : Int32)) &&& (255 : Int32)) (m255 _) (m255 _) (by omega)) hown (wd_0 g) (wd_1 g) (wd_3 g) (wd_2 g) (by decide) (argsL := [(.int lE), (.int (i0 &&& (255 : Int32))), (.int ((XT.ushr i0 (8 : Int32)) &&& (255 : Int32)))]) (lenOf pd_11 rfl) rfl (by rw [hml]; rfl) (W := 0) rfl (hb hby at_203) (pc' := 206) rfl (by decide) (by decide) (by decide) (by decide) all0 ?_
        rintro _ vm303 h303 ⟨r_303, d_303, kd_303, rfl, K303, o303_0⟩ C303
        have z303 := K303.1
        have yo303_0 := ltN o303_0.lt; have yo303_0' := ltN o303_0.ltb
        -- pc 206
        refine Go.astore (hb hby at_206) (pc' := 208) rfl rfl (L' := #[.val (.int i0), .val (.int i1), .val (.int i2), .val (.int i3), .val (.int lE), .val (.int lA), .val (.int lE), .val (.int (1 : Int32)), .val (.int (1 : Int32)), .val (.int (1 : Int32)), .val (.int (i0 &&& (255 : Int32))), .val (.int ((XT.ushr i0 (8 : Int32)) &&& (255 : Int32))), .val (.int (i0 &&& (255 : Int32))), .val (.int ((XT.ushr i0 (8 : Int32)) &&& (255 : Int32))), .val (.int (i0 &&& (255 : Int32))), .val (.int ((XT.ushr i0 (8 : Int32)) &&& (255 : Int32))), .val (.ref r_301), .val (.ref r_302), .val (.ref r_303), .unset, .unset]) rfl ?_
        refine Go.newO hown (wd_41 g) (wd_42 g) (wd_43 g) (hb hby at_208) (pc' := 211) rfl (by decide) (by decide) ?_
        intro h304 a305 g306 l307 E308 X309 D310 S311 C312
        have KE308 := Keep.ofExt E308; have zE308 := E308.1
        have f313 : Fld Z h304 a305 "com/example/kunci/kunci/TestOutcome" "question" "Ljava/lang/String;" .null := D310 (Or.inr (wd_49 g)) (ty := (.object "java/lang/String")) (by decide)
        have f314 : Fld Z h304 a305 "com/example/kunci/kunci/TestOutcome" "expected" "Ljava/lang/String;" .null := D310 (Or.inr (wd_51 g)) (ty := (.object "java/lang/String")) (by decide)
        have f315 : Fld Z h304 a305 "com/example/kunci/kunci/TestOutcome" "answer" "Ljava/lang/String;" .null := D310 (Or.inr (wd_53 g)) (ty := (.object "java/lang/String")) (by decide)
        refine Go.dup (hb hby at_211) (pc' := 212) rfl rfl ?_
        refine Go.aload (hb hby at_212) (pc' := 214) rfl rfl rfl ?_
        refine Go.aload (hb hby at_214) (pc' := 216) rfl rfl rfl ?_
        refine Go.aload (hb hby at_216) (pc' := 218) rfl rfl rfl ?_
        refine Go.callC (c_outcome (l := l) (nw := nw) g h304 a305 (.ref r_303) (.ref r_301) (.ref r_302) rfl rfl rfl (by first | omega | assumption | decide) X309 f313 f314 f315 (by omega)) hown rfl rfl (wd_44 g) (wd_45 g) (wd_46 g) (wd_43 g) (by decide) (argsL := [(.ref r_303), (.ref r_301), (.ref r_302)]) (lenOf pd_12 rfl) rfl (by rw [hml]; rfl) (W := 1) rfl (hb hby at_218) (pc' := 221) rfl (by decide) (by decide) (by decide) (by decide) all0 ?_
        rintro _ vm316 h316 ⟨rfl, K316, o316_0, o316_1, o316_2⟩ C316
        have z316 := K316.1
        -- pc 221
        refine Go.astore (hb hby at_221) (pc' := 223) rfl rfl (L' := #[.val (.int i0), .val (.int i1), .val (.int i2), .val (.int i3), .val (.int lE), .val (.int lA), .val (.int lE), .val (.int (1 : Int32)), .val (.int (1 : Int32)), .val (.int (1 : Int32)), .val (.int (i0 &&& (255 : Int32))), .val (.int ((XT.ushr i0 (8 : Int32)) &&& (255 : Int32))), .val (.int (i0 &&& (255 : Int32))), .val (.int ((XT.ushr i0 (8 : Int32)) &&& (255 : Int32))), .val (.int (i0 &&& (255 : Int32))), .val (.int ((XT.ushr i0 (8 : Int32)) &&& (255 : Int32))), .val (.ref r_301), .val (.ref r_302), .val (.ref r_303), .val (.ref a305), .unset]) rfl ?_
        refine Go.iload (hb hby at_223) (pc' := 225) rfl rfl ?_
        refine Go.iload (hb hby at_225) (pc' := 227) rfl rfl ?_
        refine Go.icmp (hb hby at_227) (by decide) (pc' := 260) (by decide) (pc2 := 230) rfl (fun (q227 : ¬ lE = lA) => ?_) (fun (q227 : ¬ (¬ lE = lA)) => ?_)
        · refine Go.iconst (hb hby at_260) (pc' := 261) rfl (z := (0 : Int32)) rfl ?_
          refine Go.istore (hb hby at_261) (pc' := 263) rfl (L' := #[.val (.int i0), .val (.int i1), .val (.int i2), .val (.int i3), .val (.int lE), .val (.int lA), .val (.int lE), .val (.int (1 : Int32)), .val (.int (1 : Int32)), .val (.int (1 : Int32)), .val (.int (i0 &&& (255 : Int32))), .val (.int ((XT.ushr i0 (8 : Int32)) &&& (255 : Int32))), .val (.int (i0 &&& (255 : Int32))), .val (.int ((XT.ushr i0 (8 : Int32)) &&& (255 : Int32))), .val (.int (i0 &&& (255 : Int32))), .val (.int ((XT.ushr i0 (8 : Int32)) &&& (255 : Int32))), .val (.ref r_301), .val (.ref r_302), .val (.ref r_303), .val (.ref a305), .val (.int (0 : Int32))]) rfl ?_
          refine Go.aload (hb hby at_263) (pc' := 265) rfl rfl rfl ?_
          have f317 : St Z h316 r_301 d_301 kd_301 (mkS lE (i0 &&& (255 : Int32)) ((XT.ushr i0 (8 : Int32)) &&& (255 : Int32))) := ((((o301_0.keep K302 nin0 nin0).keep K303 nin0 nin0).keep KE308 nin0 nin0).keep K316 (ninS (Exa.ne (((o301_0.keep K302 nin0 nin0).keep K303 nin0 nin0).keep KE308 nin0 nin0).1 X309 (by decide)) nin0) (ninS (Ne.symm (Ar.ne_exa (((o301_0.keep K302 nin0 nin0).keep K303 nin0 nin0).keep KE308 nin0 nin0).2.2.2.1 X309 (wd_42 g))) nin0))
          have f318 : St Z h316 r_302 d_302 kd_302 (mkS lA (i0 &&& (255 : Int32)) ((XT.ushr i0 (8 : Int32)) &&& (255 : Int32))) := (((o302_0.keep K303 nin0 nin0).keep KE308 nin0 nin0).keep K316 (ninS (Exa.ne ((o302_0.keep K303 nin0 nin0).keep KE308 nin0 nin0).1 X309 (by decide)) nin0) (ninS (Ne.symm (Ar.ne_exa ((o302_0.keep K303 nin0 nin0).keep KE308 nin0 nin0).2.2.2.1 X309 (wd_42 g))) nin0))
          have f319 : Exa Z h316 a305 "com/example/kunci/kunci/TestOutcome" := (X309.keep K316)
          refine Go.callV (y0 := ⟨"com/example/kunci/kunci/TestOutcome", "isPassed", "()Z"⟩) (c_isPassed (l := l) (nw := nw) g h316 a305 r_301 d_301 kd_301 (mkS lE (i0 &&& (255 : Int32)) ((XT.ushr i0 (8 : Int32)) &&& (255 : Int32))) r_302 d_302 kd_302 (mkS lA (i0 &&& (255 : Int32)) ((XT.ushr i0 (8 : Int32)) &&& (255 : Int32))) o316_1 o316_2 f317 f318 (by omega)) hown (wd_54 g) (wd_55 g) (notFace_of_selects (wd_57 g)) (wd_57 g) (wd_56 g) f319 (wd_58 g) (wd_43 g) (by decide) (argsL := []) (lenOf pd_13 rfl) rfl (by rw [hml]; rfl) (W := 0) rfl (hb hby at_265) (pc' := 268) rfl (by decide) (by decide) (by decide) (by decide) all0 ?_
          rintro _ vm320 h320 ⟨rfl, K320⟩ C320
          have z320 := K320.1
          -- pc 268
          refine Go.iload (hb hby at_268) (pc' := 270) rfl rfl ?_
          refine Go.icmpN (hb hby at_270) (pc' := 273) rfl (fun z => z (by rw [mkS_bo blE blA (m255 _) (m255 _) (m255 _) (m255 _)]; exact bo_no (fun z => q227 z.1))) ?_
          refine Go.iconst (hb hby at_273) (pc' := 274) rfl (z := (1 : Int32)) rfl ?_
          refine Go.goto (hb hby at_274) (by decide) (pc' := 278) (by decide) ?_
          refine Go.retN (t := .boolean) hret (by simp) (hb hby at_278) (by decide) (by decide) ?_
          intro vmR CR
          exact ⟨(by first | rfl | (simp only [own_nar]; done) | (congr 2; done)), (((((((Keep.refl h []).trans K301 all0).trans K302 all0).trans K303 all0).trans KE308 all0).trans K316 (allS (by first | (left; simp; done) | (right; omega)) all0)).trans K320 all0)⟩
        · refine Go.iload (hb hby at_230) (pc' := 232) rfl rfl ?_
          refine Go.iconst (hb hby at_232) (pc' := 233) rfl (z := (1 : Int32)) rfl ?_
          refine Go.icmp (hb hby at_233) (by decide) (pc' := 243) (by decide) (pc2 := 236) rfl (fun (q233 : lE < (1 : Int32)) => ?_) (fun (q233 : ¬ (lE < (1 : Int32))) => ?_)
          · refine Go.iload (hb hby at_243) (pc' := 245) rfl rfl ?_
            refine Go.iconst (hb hby at_245) (pc' := 246) rfl (z := (2 : Int32)) rfl ?_
            refine Go.icmp (hb hby at_246) (by decide) (pc' := 256) (by decide) (pc2 := 249) rfl (fun (q246 : lE < (2 : Int32)) => ?_) (fun (q246 : ¬ (lE < (2 : Int32))) => ?_)
            · refine Go.iconst (hb hby at_256) (pc' := 257) rfl (z := (1 : Int32)) rfl ?_
              refine Go.goto (hb hby at_257) (by decide) (pc' := 261) (by decide) ?_
              refine Go.istore (hb hby at_261) (pc' := 263) rfl (L' := #[.val (.int i0), .val (.int i1), .val (.int i2), .val (.int i3), .val (.int lE), .val (.int lA), .val (.int lE), .val (.int (1 : Int32)), .val (.int (1 : Int32)), .val (.int (1 : Int32)), .val (.int (i0 &&& (255 : Int32))), .val (.int ((XT.ushr i0 (8 : Int32)) &&& (255 : Int32))), .val (.int (i0 &&& (255 : Int32))), .val (.int ((XT.ushr i0 (8 : Int32)) &&& (255 : Int32))), .val (.int (i0 &&& (255 : Int32))), .val (.int ((XT.ushr i0 (8 : Int32)) &&& (255 : Int32))), .val (.ref r_301), .val (.ref r_302), .val (.ref r_303), .val (.ref a305), .val (.int (1 : Int32))]) rfl ?_
              refine Go.aload (hb hby at_263) (pc' := 265) rfl rfl rfl ?_
              have f321 : St Z h316 r_301 d_301 kd_301 (mkS lE (i0 &&& (255 : Int32)) ((XT.ushr i0 (8 : Int32)) &&& (255 : Int32))) := ((((o301_0.keep K302 nin0 nin0).keep K303 nin0 nin0).keep KE308 nin0 nin0).keep K316 (ninS (Exa.ne (((o301_0.keep K302 nin0 nin0).keep K303 nin0 nin0).keep KE308 nin0 nin0).1 X309 (by decide)) nin0) (ninS (Ne.symm (Ar.ne_exa (((o301_0.keep K302 nin0 nin0).keep K303 nin0 nin0).keep KE308 nin0 nin0).2.2.2.1 X309 (wd_42 g))) nin0))
              have f322 : St Z h316 r_302 d_302 kd_302 (mkS lA (i0 &&& (255 : Int32)) ((XT.ushr i0 (8 : Int32)) &&& (255 : Int32))) := (((o302_0.keep K303 nin0 nin0).keep KE308 nin0 nin0).keep K316 (ninS (Exa.ne ((o302_0.keep K303 nin0 nin0).keep KE308 nin0 nin0).1 X309 (by decide)) nin0) (ninS (Ne.symm (Ar.ne_exa ((o302_0.keep K303 nin0 nin0).keep KE308 nin0 nin0).2.2.2.1 X309 (wd_42 g))) nin0))
              have f323 : Exa Z h316 a305 "com/example/kunci/kunci/TestOutcome" := (X309.keep K316)
              refine Go.callV (y0 := ⟨"com/example/kunci/kunci/TestOutcome", "isPassed", "()Z"⟩) (c_isPassed (l := l) (nw := nw) g h316 a305 r_301 d_301 kd_301 (mkS lE (i0 &&& (255 : Int32)) ((XT.ushr i0 (8 : Int32)) &&& (255 : Int32))) r_302 d_302 kd_302 (mkS lA (i0 &&& (255 : Int32)) ((XT.ushr i0 (8 : Int32)) &&& (255 : Int32))) o316_1 o316_2 f321 f322 (by omega)) hown (wd_54 g) (wd_55 g) (notFace_of_selects (wd_57 g)) (wd_57 g) (wd_56 g) f323 (wd_58 g) (wd_43 g) (by decide) (argsL := []) (lenOf pd_13 rfl) rfl (by rw [hml]; rfl) (W := 0) rfl (hb hby at_265) (pc' := 268) rfl (by decide) (by decide) (by decide) (by decide) all0 ?_
              rintro _ vm324 h324 ⟨rfl, K324⟩ C324
              have z324 := K324.1
              -- pc 268
              refine Go.iload (hb hby at_268) (pc' := 270) rfl rfl ?_
              refine Go.icmpN (hb hby at_270) (pc' := 273) rfl (fun z => z (by rw [mkS_bo blE blA (m255 _) (m255 _) (m255 _) (m255 _)]; exact bo_yes ⟨Classical.not_not.mp q227, Or.inl q233, Or.inl q246⟩)) ?_
              refine Go.iconst (hb hby at_273) (pc' := 274) rfl (z := (1 : Int32)) rfl ?_
              refine Go.goto (hb hby at_274) (by decide) (pc' := 278) (by decide) ?_
              refine Go.retN (t := .boolean) hret (by simp) (hb hby at_278) (by decide) (by decide) ?_
              intro vmR CR
              exact ⟨(by first | rfl | (simp only [own_nar]; done) | (congr 2; done)), (((((((Keep.refl h []).trans K301 all0).trans K302 all0).trans K303 all0).trans KE308 all0).trans K316 (allS (by first | (left; simp; done) | (right; omega)) all0)).trans K324 all0)⟩
            · refine Go.iload (hb hby at_249) (pc' := 251) rfl rfl ?_
              refine Go.iload (hb hby at_251) (pc' := 253) rfl rfl ?_
              refine Go.icmpN (hb hby at_253) (pc' := 256) rfl (fun q => q rfl) ?_
              refine Go.iconst (hb hby at_256) (pc' := 257) rfl (z := (1 : Int32)) rfl ?_
              refine Go.goto (hb hby at_257) (by decide) (pc' := 261) (by decide) ?_
              refine Go.istore (hb hby at_261) (pc' := 263) rfl (L' := #[.val (.int i0), .val (.int i1), .val (.int i2), .val (.int i3), .val (.int lE), .val (.int lA), .val (.int lE), .val (.int (1 : Int32)), .val (.int (1 : Int32)), .val (.int (1 : Int32)), .val (.int (i0 &&& (255 : Int32))), .val (.int ((XT.ushr i0 (8 : Int32)) &&& (255 : Int32))), .val (.int (i0 &&& (255 : Int32))), .val (.int ((XT.ushr i0 (8 : Int32)) &&& (255 : Int32))), .val (.int (i0 &&& (255 : Int32))), .val (.int ((XT.ushr i0 (8 : Int32)) &&& (255 : Int32))), .val (.ref r_301), .val (.ref r_302), .val (.ref r_303), .val (.ref a305), .val (.int (1 : Int32))]) rfl ?_
              refine Go.aload (hb hby at_263) (pc' := 265) rfl rfl rfl ?_
              have f325 : St Z h316 r_301 d_301 kd_301 (mkS lE (i0 &&& (255 : Int32)) ((XT.ushr i0 (8 : Int32)) &&& (255 : Int32))) := ((((o301_0.keep K302 nin0 nin0).keep K303 nin0 nin0).keep KE308 nin0 nin0).keep K316 (ninS (Exa.ne (((o301_0.keep K302 nin0 nin0).keep K303 nin0 nin0).keep KE308 nin0 nin0).1 X309 (by decide)) nin0) (ninS (Ne.symm (Ar.ne_exa (((o301_0.keep K302 nin0 nin0).keep K303 nin0 nin0).keep KE308 nin0 nin0).2.2.2.1 X309 (wd_42 g))) nin0))
              have f326 : St Z h316 r_302 d_302 kd_302 (mkS lA (i0 &&& (255 : Int32)) ((XT.ushr i0 (8 : Int32)) &&& (255 : Int32))) := (((o302_0.keep K303 nin0 nin0).keep KE308 nin0 nin0).keep K316 (ninS (Exa.ne ((o302_0.keep K303 nin0 nin0).keep KE308 nin0 nin0).1 X309 (by decide)) nin0) (ninS (Ne.symm (Ar.ne_exa ((o302_0.keep K303 nin0 nin0).keep KE308 nin0 nin0).2.2.2.1 X309 (wd_42 g))) nin0))
              have f327 : Exa Z h316 a305 "com/example/kunci/kunci/TestOutcome" := (X309.keep K316)
              refine Go.callV (y0 := ⟨"com/example/kunci/kunci/TestOutcome", "isPassed", "()Z"⟩) (c_isPassed (l := l) (nw := nw) g h316 a305 r_301 d_301 kd_301 (mkS lE (i0 &&& (255 : Int32)) ((XT.ushr i0 (8 : Int32)) &&& (255 : Int32))) r_302 d_302 kd_302 (mkS lA (i0 &&& (255 : Int32)) ((XT.ushr i0 (8 : Int32)) &&& (255 : Int32))) o316_1 o316_2 f325 f326 (by omega)) hown (wd_54 g) (wd_55 g) (notFace_of_selects (wd_57 g)) (wd_57 g) (wd_56 g) f327 (wd_58 g) (wd_43 g) (by decide) (argsL := []) (lenOf pd_13 rfl) rfl (by rw [hml]; rfl) (W := 0) rfl (hb hby at_265) (pc' := 268) rfl (by decide) (by decide) (by decide) (by decide) all0 ?_
              rintro _ vm328 h328 ⟨rfl, K328⟩ C328
              have z328 := K328.1
              -- pc 268
              refine Go.iload (hb hby at_268) (pc' := 270) rfl rfl ?_
              refine Go.icmpN (hb hby at_270) (pc' := 273) rfl (fun z => z (by rw [mkS_bo blE blA (m255 _) (m255 _) (m255 _) (m255 _)]; exact bo_yes ⟨Classical.not_not.mp q227, Or.inl q233, Or.inr rfl⟩)) ?_
              refine Go.iconst (hb hby at_273) (pc' := 274) rfl (z := (1 : Int32)) rfl ?_
              refine Go.goto (hb hby at_274) (by decide) (pc' := 278) (by decide) ?_
              refine Go.retN (t := .boolean) hret (by simp) (hb hby at_278) (by decide) (by decide) ?_
              intro vmR CR
              exact ⟨(by first | rfl | (simp only [own_nar]; done) | (congr 2; done)), (((((((Keep.refl h []).trans K301 all0).trans K302 all0).trans K303 all0).trans KE308 all0).trans K316 (allS (by first | (left; simp; done) | (right; omega)) all0)).trans K328 all0)⟩
          · refine Go.iload (hb hby at_236) (pc' := 238) rfl rfl ?_
            refine Go.iload (hb hby at_238) (pc' := 240) rfl rfl ?_
            refine Go.icmpN (hb hby at_240) (pc' := 243) rfl (fun q => q rfl) ?_
            refine Go.iload (hb hby at_243) (pc' := 245) rfl rfl ?_
            refine Go.iconst (hb hby at_245) (pc' := 246) rfl (z := (2 : Int32)) rfl ?_
            refine Go.icmp (hb hby at_246) (by decide) (pc' := 256) (by decide) (pc2 := 249) rfl (fun (q246 : lE < (2 : Int32)) => ?_) (fun (q246 : ¬ (lE < (2 : Int32))) => ?_)
            · refine Go.iconst (hb hby at_256) (pc' := 257) rfl (z := (1 : Int32)) rfl ?_
              refine Go.goto (hb hby at_257) (by decide) (pc' := 261) (by decide) ?_
              refine Go.istore (hb hby at_261) (pc' := 263) rfl (L' := #[.val (.int i0), .val (.int i1), .val (.int i2), .val (.int i3), .val (.int lE), .val (.int lA), .val (.int lE), .val (.int (1 : Int32)), .val (.int (1 : Int32)), .val (.int (1 : Int32)), .val (.int (i0 &&& (255 : Int32))), .val (.int ((XT.ushr i0 (8 : Int32)) &&& (255 : Int32))), .val (.int (i0 &&& (255 : Int32))), .val (.int ((XT.ushr i0 (8 : Int32)) &&& (255 : Int32))), .val (.int (i0 &&& (255 : Int32))), .val (.int ((XT.ushr i0 (8 : Int32)) &&& (255 : Int32))), .val (.ref r_301), .val (.ref r_302), .val (.ref r_303), .val (.ref a305), .val (.int (1 : Int32))]) rfl ?_
              refine Go.aload (hb hby at_263) (pc' := 265) rfl rfl rfl ?_
              have f329 : St Z h316 r_301 d_301 kd_301 (mkS lE (i0 &&& (255 : Int32)) ((XT.ushr i0 (8 : Int32)) &&& (255 : Int32))) := ((((o301_0.keep K302 nin0 nin0).keep K303 nin0 nin0).keep KE308 nin0 nin0).keep K316 (ninS (Exa.ne (((o301_0.keep K302 nin0 nin0).keep K303 nin0 nin0).keep KE308 nin0 nin0).1 X309 (by decide)) nin0) (ninS (Ne.symm (Ar.ne_exa (((o301_0.keep K302 nin0 nin0).keep K303 nin0 nin0).keep KE308 nin0 nin0).2.2.2.1 X309 (wd_42 g))) nin0))
              have f330 : St Z h316 r_302 d_302 kd_302 (mkS lA (i0 &&& (255 : Int32)) ((XT.ushr i0 (8 : Int32)) &&& (255 : Int32))) := (((o302_0.keep K303 nin0 nin0).keep KE308 nin0 nin0).keep K316 (ninS (Exa.ne ((o302_0.keep K303 nin0 nin0).keep KE308 nin0 nin0).1 X309 (by decide)) nin0) (ninS (Ne.symm (Ar.ne_exa ((o302_0.keep K303 nin0 nin0).keep KE308 nin0 nin0).2.2.2.1 X309 (wd_42 g))) nin0))
              have f331 : Exa Z h316 a305 "com/example/kunci/kunci/TestOutcome" := (X309.keep K316)
              refine Go.callV (y0 := ⟨"com/example/kunci/kunci/TestOutcome", "isPassed", "()Z"⟩) (c_isPassed (l := l) (nw := nw) g h316 a305 r_301 d_301 kd_301 (mkS lE (i0 &&& (255 : Int32)) ((XT.ushr i0 (8 : Int32)) &&& (255 : Int32))) r_302 d_302 kd_302 (mkS lA (i0 &&& (255 : Int32)) ((XT.ushr i0 (8 : Int32)) &&& (255 : Int32))) o316_1 o316_2 f329 f330 (by omega)) hown (wd_54 g) (wd_55 g) (notFace_of_selects (wd_57 g)) (wd_57 g) (wd_56 g) f331 (wd_58 g) (wd_43 g) (by decide) (argsL := []) (lenOf pd_13 rfl) rfl (by rw [hml]; rfl) (W := 0) rfl (hb hby at_265) (pc' := 268) rfl (by decide) (by decide) (by decide) (by decide) all0 ?_
              rintro _ vm332 h332 ⟨rfl, K332⟩ C332
              have z332 := K332.1
              -- pc 268
              refine Go.iload (hb hby at_268) (pc' := 270) rfl rfl ?_
              refine Go.icmpN (hb hby at_270) (pc' := 273) rfl (fun z => z (by rw [mkS_bo blE blA (m255 _) (m255 _) (m255 _) (m255 _)]; exact bo_yes ⟨Classical.not_not.mp q227, Or.inr rfl, Or.inl q246⟩)) ?_
              refine Go.iconst (hb hby at_273) (pc' := 274) rfl (z := (1 : Int32)) rfl ?_
              refine Go.goto (hb hby at_274) (by decide) (pc' := 278) (by decide) ?_
              refine Go.retN (t := .boolean) hret (by simp) (hb hby at_278) (by decide) (by decide) ?_
              intro vmR CR
              exact ⟨(by first | rfl | (simp only [own_nar]; done) | (congr 2; done)), (((((((Keep.refl h []).trans K301 all0).trans K302 all0).trans K303 all0).trans KE308 all0).trans K316 (allS (by first | (left; simp; done) | (right; omega)) all0)).trans K332 all0)⟩
            · refine Go.iload (hb hby at_249) (pc' := 251) rfl rfl ?_
              refine Go.iload (hb hby at_251) (pc' := 253) rfl rfl ?_
              refine Go.icmpN (hb hby at_253) (pc' := 256) rfl (fun q => q rfl) ?_
              refine Go.iconst (hb hby at_256) (pc' := 257) rfl (z := (1 : Int32)) rfl ?_
              refine Go.goto (hb hby at_257) (by decide) (pc' := 261) (by decide) ?_
              refine Go.istore (hb hby at_261) (pc' := 263) rfl (L' := #[.val (.int i0), .val (.int i1), .val (.int i2), .val (.int i3), .val (.int lE), .val (.int lA), .val (.int lE), .val (.int (1 : Int32)), .val (.int (1 : Int32)), .val (.int (1 : Int32)), .val (.int (i0 &&& (255 : Int32))), .val (.int ((XT.ushr i0 (8 : Int32)) &&& (255 : Int32))), .val (.int (i0 &&& (255 : Int32))), .val (.int ((XT.ushr i0 (8 : Int32)) &&& (255 : Int32))), .val (.int (i0 &&& (255 : Int32))), .val (.int ((XT.ushr i0 (8 : Int32)) &&& (255 : Int32))), .val (.ref r_301), .val (.ref r_302), .val (.ref r_303), .val (.ref a305), .val (.int (1 : Int32))]) rfl ?_
              refine Go.aload (hb hby at_263) (pc' := 265) rfl rfl rfl ?_
              have f333 : St Z h316 r_301 d_301 kd_301 (mkS lE (i0 &&& (255 : Int32)) ((XT.ushr i0 (8 : Int32)) &&& (255 : Int32))) := ((((o301_0.keep K302 nin0 nin0).keep K303 nin0 nin0).keep KE308 nin0 nin0).keep K316 (ninS (Exa.ne (((o301_0.keep K302 nin0 nin0).keep K303 nin0 nin0).keep KE308 nin0 nin0).1 X309 (by decide)) nin0) (ninS (Ne.symm (Ar.ne_exa (((o301_0.keep K302 nin0 nin0).keep K303 nin0 nin0).keep KE308 nin0 nin0).2.2.2.1 X309 (wd_42 g))) nin0))
              have f334 : St Z h316 r_302 d_302 kd_302 (mkS lA (i0 &&& (255 : Int32)) ((XT.ushr i0 (8 : Int32)) &&& (255 : Int32))) := (((o302_0.keep K303 nin0 nin0).keep KE308 nin0 nin0).keep K316 (ninS (Exa.ne ((o302_0.keep K303 nin0 nin0).keep KE308 nin0 nin0).1 X309 (by decide)) nin0) (ninS (Ne.symm (Ar.ne_exa ((o302_0.keep K303 nin0 nin0).keep KE308 nin0 nin0).2.2.2.1 X309 (wd_42 g))) nin0))
              have f335 : Exa Z h316 a305 "com/example/kunci/kunci/TestOutcome" := (X309.keep K316)
              refine Go.callV (y0 := ⟨"com/example/kunci/kunci/TestOutcome", "isPassed", "()Z"⟩) (c_isPassed (l := l) (nw := nw) g h316 a305 r_301 d_301 kd_301 (mkS lE (i0 &&& (255 : Int32)) ((XT.ushr i0 (8 : Int32)) &&& (255 : Int32))) r_302 d_302 kd_302 (mkS lA (i0 &&& (255 : Int32)) ((XT.ushr i0 (8 : Int32)) &&& (255 : Int32))) o316_1 o316_2 f333 f334 (by omega)) hown (wd_54 g) (wd_55 g) (notFace_of_selects (wd_57 g)) (wd_57 g) (wd_56 g) f335 (wd_58 g) (wd_43 g) (by decide) (argsL := []) (lenOf pd_13 rfl) rfl (by rw [hml]; rfl) (W := 0) rfl (hb hby at_265) (pc' := 268) rfl (by decide) (by decide) (by decide) (by decide) all0 ?_
              rintro _ vm336 h336 ⟨rfl, K336⟩ C336
              have z336 := K336.1
              -- pc 268
              refine Go.iload (hb hby at_268) (pc' := 270) rfl rfl ?_
              refine Go.icmpN (hb hby at_270) (pc' := 273) rfl (fun z => z (by rw [mkS_bo blE blA (m255 _) (m255 _) (m255 _) (m255 _)]; exact bo_yes ⟨Classical.not_not.mp q227, Or.inr rfl, Or.inr rfl⟩)) ?_
              refine Go.iconst (hb hby at_273) (pc' := 274) rfl (z := (1 : Int32)) rfl ?_
              refine Go.goto (hb hby at_274) (by decide) (pc' := 278) (by decide) ?_
              refine Go.retN (t := .boolean) hret (by simp) (hb hby at_278) (by decide) (by decide) ?_
              intro vmR CR
              exact ⟨(by first | rfl | (simp only [own_nar]; done) | (congr 2; done)), (((((((Keep.refl h []).trans K301 all0).trans K302 all0).trans K303 all0).trans KE308 all0).trans K316 (allS (by first | (left; simp; done) | (right; omega)) all0)).trans K336 all0)⟩
set_option maxRecDepth 65536 in
set_option maxHeartbeats 40000000 in
theorem comes_1 {Post : Tables → Env → Array Value → State → Outcome → State → Prop} (hpost : ∀ tb e args s v u, (limb_1_1.after args s (.returned v) u = true ∧ limb_1_2.after args s (.returned v) u = true ∧ True) → Jvm.D.FramedW s (.returned v) u (Jvm.fieldLocs frame_1_writes args s ++ Jvm.arrayLocs frame_1_arrays args s ++ Jvm.staticLocs frame_1_statics s) 32 1152 → Post tb e args s (.returned v) u) :
    ArmFor flags0 classFile x code maxLocals ret World_1 tables_1 room_1 Calls_1 rest_1 Pre_1 Post := by
  intro l hfl _ _ p e ha hc hk s m args below hf hA hF happ hP
  obtain ⟨hcalls, hrest, hpre⟩ := hP
  obtain ⟨-, -, -, hnamed, -, -, -, hat⟩ := (Spec.applies_iff hf).mp happ
  obtain ⟨hg, hn⟩ := and_e (Cond.before_iff.mp (show (Jvm.Cond.and given_1 narrow_1).before args s = true from hpre))
  obtain ⟨h1, g0⟩ := and_e hg
  obtain ⟨k0, g1⟩ := and_e g0
  obtain ⟨k1, g2⟩ := and_e g1
  obtain ⟨k2, g3⟩ := and_e g2
  have k3 := g3
  obtain ⟨w0, w1, w2, w3, rfl⟩ : ∃ w0 w1 w2 w3 : Value, args = #[w0, w1, w2, w3] := by
    have hs : args.size = 4 := by simpa [Cond.value, given_1] using h1
    obtain ⟨L⟩ := args
    match L, hs with
    | [w0, w1, w2, w3], _ => exact ⟨w0, w1, w2, w3, rfl⟩
  have hw := fun d (hd : d ∈ tables_1) => atoms_spec (ws := Jvm.Cond.code x code maxLocals ret :: tables_1) hat d (List.mem_cons_of_mem _ hd)
  obtain ⟨hsets, hown0⟩ := atoms_of _ (rest_1_c_eq ▸ (show rest_1_c.before _ s = true from hrest))
  have hfit : Fit s := fun {y c} hc i hi => by
    obtain ⟨ha, rfl⟩ := Array.getElem?_eq_some_iff.mp hc
    have q := List.all_eq_true.mp ((Array.all_eq_true_iff_forall_mem.mp hF) _ (Array.getElem_mem ha)) i (List.mem_range.mpr hi)
    simpa [Array.getElem?_eq_getElem hi] using q
  obtain ⟨i0, r0⟩ := is_v k0
  obtain rfl : w0 = (.int i0) := Option.some.inj r0
  obtain ⟨i1, r1⟩ := is_v k1
  obtain rfl : w1 = (.int i1) := Option.some.inj r1
  obtain ⟨i2, r2⟩ := is_v k2
  obtain rfl : w2 = (.int i2) := Option.some.inj r2
  obtain ⟨i3, r3⟩ := is_v k3
  obtain rfl : w3 = (.int i3) := Option.some.inj r3
  have n5 := not_v (Cond.before_iff.mp (hsets _ (List.mem_of_getElem? (i := 2) rfl)))
  obtain ⟨zc, e10⟩ := is_v (Cond.before_iff.mp (hsets _ (List.mem_of_getElem? (i := 1) rfl)))
  have S12 : Sta s s.heap "java/lang/String" "COMPACT_STRINGS" "Z" (.int zc) := Sta.start e10 (Or.inl (hsets _ (List.mem_of_getElem? (i := 0) rfl)))
  have c17 : ¬ (zc = (0 : Int32)) := gotF (Cond.eq_ints e10 (Term.int_eval (0))) n5
  have hEL : EW s #[(.int i0), (.int i1), (.int i2), (.int i3)] consts_1 := show EW s #[(.int i0), (.int i1), (.int i2), (.int i3)] [("java/lang/String", 7)] from (EW.cons (hw _ (List.mem_of_getElem? (i := 38) rfl)) (by decide) EW.nil)
  have hCH : CHv s consts_1 s.vm s.heap := CHv.start hEL hcalls.1 (hsets _ (List.mem_of_getElem? (i := 2) rfl)) (hw _ (List.mem_of_getElem? (i := 18) rfl)) (hw _ (List.mem_of_getElem? (i := 14) rfl))
  have hAt : ∀ a ∈ Bundle.stringAtoms, a.before #[(.int i0), (.int i1), (.int i2), (.int i3)] s = true := by
    intro a ha
    simp only [Bundle.stringAtoms, List.mem_cons, List.not_mem_nil, or_false] at ha
    rcases ha with rfl | rfl | rfl | rfl | rfl | rfl | rfl
    · exact (hw _ (List.mem_of_getElem? (i := 6) rfl))
    · exact (hw _ (List.mem_of_getElem? (i := 14) rfl))
    · exact (hw _ (List.mem_of_getElem? (i := 18) rfl))
    · exact (hw _ (List.mem_of_getElem? (i := 27) rfl))
    · exact (hw _ (List.mem_of_getElem? (i := 29) rfl))
    · exact (hw _ (List.mem_of_getElem? (i := 39) rfl))
    · exact (hw _ (List.mem_of_getElem? (i := 40) rfl))
  obtain ⟨n, o, h1, h2, h3, v, L, rfl, N, ⟨rfl, -⟩, -, -, hH, hq⟩ := c_law (l := l) (nw := False) (EL := consts_1) (zc := zc) ⟨hw, hEL, hAt, fun _ q => q, S12, c17, trivial⟩ id tables_1 s.heap i0 i1 i2 i3 (Nat.le_refl _) p e ha hc hk s m _ below hf ((Spec.applies_iff_loose hf).mp happ).1 ⟨rfl, State.Warmed39.refl s, rfl, hCH, ⟨Nat.le_refl _, fun _ _ q => q⟩, all0⟩ trivial
  refine ⟨n, _, h1, h2, h3, hpost _ _ _ _ _ _ ⟨Cond.after_iff.mpr rfl, Cond.after_iff.mpr (eq_i res_at (Term.int_eval (1)) rfl), trivial⟩ ?_⟩
  exact ⟨⟨_, rfl⟩, hq.2.1, hq.2.2.1, (hq.2.2.2.sift fun y hy => Or.inr (N y hy)).mono (by decide) (by decide)⟩
theorem main_1_1 : Claimed_1_1 := comes_1 fun _ _ _ _ _ _ h hF => ⟨h.1, hF⟩
theorem main_1_2 : Claimed_1_2 := comes_1 fun _ _ _ _ _ _ h hF => ⟨h.2.1, hF⟩
end Jvm.Pilot.@@N@@
namespace Jvm.Pilot.@@N@@
open Jvm Jvm.ClassFile Sem Op Lib Jvm.Free Jvm.Stand Jvm.Pilot.@@N@@.Jvm.D
/-! MADE BY PROGRAM (witnessworld.py) out of the Statement's table words and the real class files: 20 classes; the members and pool entries that the words name. The judged class is class 1, her method 2. -/
namespace start1
open Jvm.ClassFile
def u (s : String) : CpInfo := .utf8 (stringToUtf16 s)
/-- a pool by its gaps: so many unusable entries, then the entry; so many at the end -/
def gap : Nat → List CpInfo → List CpInfo
  | 0, r => r
  | n + 1, r => .unusable :: gap n r
def poolList (es : List (Nat × CpInfo)) (last : Nat) : List CpInfo := es.foldr (fun e r => gap e.1 (e.2 :: r)) (gap last [])
def pool (es : List (Nat × CpInfo)) (last : Nat) : Array CpInfo := ⟨poolList es last⟩
def fileOf (pool : Array CpInfo) (this : Nat) (attrs : Array Attribute := #[]) (ms : Array MethodInfo := #[]) (fl : Nat := 33) (sup : Nat := 0) (ifs : Array Nat := #[]) (fds : Array FieldInfo := #[]) : ClassFile where
  minorVersion := 0
  majorVersion := 65
  constantPool := pool
  accessFlags := fl
  thisClass := this
  superClass := sup
  interfaces := ifs
  fields := fds
  methods := ms
  attributes := attrs
def plain (name : String) (sup : Option ClassId) : Class where
  name := name
  kind := .ordinary
  loader := none
  accessFlags := 33
  super := sup
  interfaces := #[]
  cf := none
  fields := #[]
  methods := #[]
  instanceTypes := #[]
  staticTypes := #[]
  resolved := #[]
  callSites := []
  init := .initialized
  statics := none
  mirror := none

def pool0 : Array CpInfo := pool [(5, u "<init>"), (0, u "()V"), (1, .class_ 10), (1, u "java/lang/Object")] 113

def k0c0 : Code := { maxStack := 0, maxLocals := 1, code := object_method_1_code, exceptionTable := #[], attributes := #[] }
def k0m0 : Method := { name := "<init>", desc := "()V", sig := { parameters := [], returnType := none }, accessFlags := 1, code := some k0c0 }
/-- java/lang/Object -/
def k0 : Class := { plain "java/lang/Object" none with
  accessFlags := 33
  interfaces := #[]
  cf := some (fileOf pool0 8 #[] #[{ accessFlags := 1, nameIndex := 5, descriptorIndex := 6, attributes := #[] }] 33 0 #[] #[])
  fields := #[]
  methods := #[k0m0]
  instanceTypes := #[]
  staticTypes := #[]
  resolved := Array.replicate 124 none
  statics := none }

def pool1 : Array CpInfo := pool [(2, .class_ 4), (1, u "java/lang/Object"), (0, u "<init>"), (0, u "()V"), (0, .class_ 8), (0, u "java/lang/String"), (0, .methodref 7 10), (0, .nameAndType 5 11), (0, u "([C)V"), (0, .methodref 7 13), (0, .nameAndType 14 15), (0, u "valueOf"), (0, u "(C)Ljava/lang/String;"), (0, .methodref 17 18), (0, .class_ 19), (0, .nameAndType 20 21), (0, u "com/example/kunci/kunci/TestOutcomeIsPassedPinLaw"), (0, u "make"), (0, u "(ICC)Ljava/lang/String;"), (0, .class_ 23), (0, u "com/example/kunci/kunci/TestOutcome"), (0, .methodref 22 25), (0, .nameAndType 5 26), (0, u "(Ljava/lang/String;Ljava/lang/String;Ljava/lang/String;)V"), (0, .methodref 22 28), (0, .nameAndType 29 30), (0, u "isPassed"), (0, u "()Z"), (3, u "law"), (0, u "(IIII)Z")] 2

def k1m0 : Method := { name := "<init>", desc := "()V", sig := { parameters := [], returnType := none }, accessFlags := 1, code := none }
def k1c1 : Code := { maxStack := 6, maxLocals := 3, code := method_2_code, exceptionTable := #[], attributes := #[] }
def k1m1 : Method := { name := "make", desc := "(ICC)Ljava/lang/String;", sig := { parameters := [.int, .char, .char], returnType := some (.object "java/lang/String") }, accessFlags := 10, code := some k1c1 }
def k1c2 : Code := { maxStack := 5, maxLocals := 21, code := code, exceptionTable := #[], attributes := #[] }
def k1m2 : Method := { name := "law", desc := "(IIII)Z", sig := { parameters := [.int, .int, .int, .int], returnType := some .boolean }, accessFlags := 9, code := some k1c2 }
/-- com/example/kunci/kunci/TestOutcomeIsPassedPinLaw -/
def k1 : Class := { plain "com/example/kunci/kunci/TestOutcomeIsPassedPinLaw" (some 0) with
  accessFlags := 49
  interfaces := #[]
  cf := some (fileOf pool1 17 #[] #[{ accessFlags := 1, nameIndex := 5, descriptorIndex := 6, attributes := #[] }, { accessFlags := 10, nameIndex := 20, descriptorIndex := 21, attributes := #[] }, { accessFlags := 9, nameIndex := 34, descriptorIndex := 35, attributes := #[] }] 49 2 #[] #[])
  fields := #[]
  methods := #[k1m0, k1m1, k1m2]
  instanceTypes := #[]
  staticTypes := #[]
  resolved := Array.replicate 38 none
  statics := none }

def pool2 : Array CpInfo := pool [(1, .class_ 2), (0, u "java/io/Serializable"), (0, .class_ 4), (0, u "java/lang/Object")] 2

/-- java/io/Serializable -/
def k2 : Class := { plain "java/io/Serializable" (some 0) with
  accessFlags := 1537
  interfaces := #[]
  cf := some (fileOf pool2 1 #[] #[] 1537 3 #[] #[])
  fields := #[]
  methods := #[]
  instanceTypes := #[]
  staticTypes := #[]
  resolved := Array.replicate 7 none
  statics := none }

def pool3 : Array CpInfo := pool [(1, .class_ 2), (0, u "java/lang/Comparable"), (0, .class_ 4), (0, u "java/lang/Object")] 7

/-- java/lang/Comparable -/
def k3 : Class := { plain "java/lang/Comparable" (some 0) with
  accessFlags := 1537
  interfaces := #[]
  cf := some (fileOf pool3 1 #[] #[] 1537 3 #[] #[])
  fields := #[]
  methods := #[]
  instanceTypes := #[]
  staticTypes := #[]
  resolved := Array.replicate 12 none
  statics := none }

def pool4 : Array CpInfo := pool [(2, .class_ 4), (1, u "java/lang/CharSequence"), (42, .class_ 48), (0, u "java/lang/CharSequence$1CodePointIterator"), (10, .class_ 60), (0, u "java/lang/CharSequence$1CharIterator"), (5, .class_ 67), (0, u "java/lang/Object")] 63

/-- java/lang/CharSequence -/
def k4 : Class := { plain "java/lang/CharSequence" (some 0) with
  accessFlags := 1537
  interfaces := #[]
  cf := some (fileOf pool4 2 #[.nestMembers #[47, 59]] #[] 1537 66 #[] #[])
  fields := #[]
  methods := #[]
  instanceTypes := #[]
  staticTypes := #[]
  resolved := Array.replicate 131 none
  statics := none }

def pool5 : Array CpInfo := pool [(1, .class_ 2), (0, u "java/lang/constant/Constable"), (0, .class_ 4), (0, u "java/lang/Object")] 6

/-- java/lang/constant/Constable -/
def k5 : Class := { plain "java/lang/constant/Constable" (some 0) with
  accessFlags := 1537
  interfaces := #[]
  cf := some (fileOf pool5 1 #[] #[] 1537 3 #[] #[])
  fields := #[]
  methods := #[]
  instanceTypes := #[]
  staticTypes := #[]
  resolved := Array.replicate 11 none
  statics := none }

def pool6 : Array CpInfo := pool [(1, .class_ 2), (0, u "java/lang/constant/ConstantDesc"), (0, .class_ 4), (0, u "java/lang/Object")] 32

/-- java/lang/constant/ConstantDesc -/
def k6 : Class := { plain "java/lang/constant/ConstantDesc" (some 0) with
  accessFlags := 1537
  interfaces := #[]
  cf := some (fileOf pool6 1 #[] #[] 1537 3 #[] #[])
  fields := #[]
  methods := #[]
  instanceTypes := #[]
  staticTypes := #[]
  resolved := Array.replicate 37 none
  statics := none }

def pool7 : Array CpInfo := pool [(1, .methodref 2 3), (0, .class_ 4), (0, .nameAndType 5 6), (0, u "java/lang/Object"), (0, u "<init>"), (0, u "()V"), (0, .string 8), (0, u ""), (0, .fieldref 10 11), (0, .class_ 12), (0, .nameAndType 13 14), (0, u "java/lang/String"), (0, u "value"), (0, u "[B"), (0, .fieldref 10 16), (0, .nameAndType 17 18), (0, u "coder"), (0, u "B"), (2, u "hash"), (0, u "I"), (2, u "hashIsZero"), (0, u "Z"), (0, .methodref 10 28), (0, .nameAndType 5 29), (0, u "([CIILjava/lang/Void;)V"), (8, .fieldref 10 39), (0, .nameAndType 40 26), (0, u "COMPACT_STRINGS"), (1, .class_ 44), (1, u "java/lang/StringUTF16"), (0, u "compress"), (1, .methodref 42 48), (0, .nameAndType 49 50), (0, u "coderFromArrayLen"), (0, u "([BI)B"), (2, u "toBytes"), (53, .class_ 109), (1, u "java/lang/StringLatin1"), (67, .methodref 42 178), (0, .nameAndType 45 179), (0, u "([CII)[B"), (29, .methodref 10 210), (0, .nameAndType 5 211), (0, u "([BB)V"), (157, u "(C)Z"), (171, .methodref 107 542), (0, .nameAndType 543 544), (0, u "equals"), (0, u "([B[B)Z"), (28, u "(Ljava/lang/Object;)Z"), (1, .class_ 576), (0, u "java/lang/CharSequence"), (22, u "CASE_INSENSITIVE_ORDER"), (0, u "Ljava/util/Comparator;"), (181, u "valueOf"), (0, u "(C)Ljava/lang/String;"), (226, u "([C)V"), (4, .methodref 107 1016), (0, .nameAndType 1017 369), (0, u "canEncode"), (0, .methodref 107 1019), (0, .nameAndType 53 1020), (0, u "(C)[B"), (80, u "serialPersistentFields"), (0, u "[Ljava/io/ObjectStreamField;"), (0, .class_ 1104), (0, u "java/lang/String$CaseInsensitiveComparator"), (1, .class_ 1107), (0, u "java/io/Serializable"), (0, .class_ 1109), (0, u "java/lang/Comparable"), (0, .class_ 1111), (0, u "java/lang/constant/Constable"), (0, .class_ 1113), (0, u "java/lang/constant/ConstantDesc"), (2, u "serialVersionUID"), (0, u "J"), (3, u "REPL"), (0, u "C"), (2, u "LATIN1"), (1, u "UTF16")] 323

def k7m0 : Method := { name := "<init>", desc := "()V", sig := { parameters := [], returnType := none }, accessFlags := 1, code := none }
def k7c1 : Code := { maxStack := 5, maxLocals := 2, code := jdk_42_method_3_code, exceptionTable := #[], attributes := #[] }
def k7m1 : Method := { name := "<init>", desc := "([C)V", sig := { parameters := [(.array .char)], returnType := none }, accessFlags := 1, code := some k7c1 }
def k7c2 : Code := { maxStack := 2, maxLocals := 3, code := jdk_42_method_66_code, exceptionTable := #[], attributes := #[] }
def k7m2 : Method := { name := "equals", desc := "(Ljava/lang/Object;)Z", sig := { parameters := [(.object "java/lang/Object")], returnType := some .boolean }, accessFlags := 1, code := some k7c2 }
def k7c3 : Code := { maxStack := 4, maxLocals := 1, code := jdk_42_method_139_code, exceptionTable := #[], attributes := #[] }
def k7m3 : Method := { name := "valueOf", desc := "(C)Ljava/lang/String;", sig := { parameters := [.char], returnType := some (.object "java/lang/String") }, accessFlags := 9, code := some k7c3 }
def k7c4 : Code := { maxStack := 4, maxLocals := 6, code := jdk_42_method_149_code, exceptionTable := #[], attributes := #[] }
def k7m4 : Method := { name := "<init>", desc := "([CIILjava/lang/Void;)V", sig := { parameters := [(.array .char), .int, .int, (.object "java/lang/Void")], returnType := none }, accessFlags := 2, code := some k7c4 }
def k7c5 : Code := { maxStack := 2, maxLocals := 3, code := jdk_42_method_151_code, exceptionTable := #[], attributes := #[] }
def k7m5 : Method := { name := "<init>", desc := "([BB)V", sig := { parameters := [(.array .byte), .byte], returnType := none }, accessFlags := 0, code := some k7c5 }
/-- java/lang/String -/
def k7 : Class := { plain "java/lang/String" (some 0) with
  accessFlags := 49
  interfaces := #[2, 3, 4, 5, 6]
  cf := some (fileOf pool7 10 #[.nestMembers #[1103]] #[{ accessFlags := 1, nameIndex := 5, descriptorIndex := 6, attributes := #[] }, { accessFlags := 1, nameIndex := 5, descriptorIndex := 1010, attributes := #[] }, { accessFlags := 1, nameIndex := 543, descriptorIndex := 573, attributes := #[] }, { accessFlags := 9, nameIndex := 782, descriptorIndex := 783, attributes := #[] }, { accessFlags := 2, nameIndex := 5, descriptorIndex := 29, attributes := #[] }, { accessFlags := 0, nameIndex := 5, descriptorIndex := 211, attributes := #[] }] 49 2 #[1106, 1108, 575, 1110, 1112] #[{ accessFlags := 18, nameIndex := 13, descriptorIndex := 14, attributes := #[] }, { accessFlags := 18, nameIndex := 17, descriptorIndex := 18, attributes := #[] }, { accessFlags := 2, nameIndex := 21, descriptorIndex := 22, attributes := #[] }, { accessFlags := 2, nameIndex := 25, descriptorIndex := 26, attributes := #[] }, { accessFlags := 26, nameIndex := 1116, descriptorIndex := 1117, attributes := #[] }, { accessFlags := 24, nameIndex := 40, descriptorIndex := 26, attributes := #[] }, { accessFlags := 26, nameIndex := 1101, descriptorIndex := 1102, attributes := #[] }, { accessFlags := 26, nameIndex := 1121, descriptorIndex := 1122, attributes := #[] }, { accessFlags := 25, nameIndex := 599, descriptorIndex := 600, attributes := #[] }, { accessFlags := 24, nameIndex := 1125, descriptorIndex := 18, attributes := #[] }, { accessFlags := 24, nameIndex := 1127, descriptorIndex := 18, attributes := #[] }])
  fields := #[{ name := "value", type := (.array .byte), accessFlags := 18, slot := 0, constantValue := 0 }, { name := "coder", type := .byte, accessFlags := 18, slot := 1, constantValue := 0 }, { name := "hash", type := .int, accessFlags := 2, slot := 2, constantValue := 0 }, { name := "hashIsZero", type := .boolean, accessFlags := 2, slot := 3, constantValue := 0 }, { name := "serialVersionUID", type := .long, accessFlags := 26, slot := 0, constantValue := 0 }, { name := "COMPACT_STRINGS", type := .boolean, accessFlags := 24, slot := 1, constantValue := 0 }, { name := "serialPersistentFields", type := (.array (.object "java/io/ObjectStreamField")), accessFlags := 26, slot := 2, constantValue := 0 }, { name := "REPL", type := .char, accessFlags := 26, slot := 3, constantValue := 0 }, { name := "CASE_INSENSITIVE_ORDER", type := (.object "java/util/Comparator"), accessFlags := 25, slot := 4, constantValue := 0 }, { name := "LATIN1", type := .byte, accessFlags := 24, slot := 5, constantValue := 0 }, { name := "UTF16", type := .byte, accessFlags := 24, slot := 6, constantValue := 0 }]
  methods := #[k7m0, k7m1, k7m2, k7m3, k7m4, k7m5]
  instanceTypes := #[(.array .byte), .byte, .int, .boolean]
  staticTypes := #[.long, .boolean, (.array (.object "java/io/ObjectStreamField")), .char, (.object "java/util/Comparator"), .byte, .byte]
  resolved := Array.replicate 1451 none
  statics := some 0 }

def pool8 : Array CpInfo := pool [(4, .class_ 6), (1, u "java/lang/Object"), (0, u "<init>"), (0, u "()V"), (5, .class_ 16), (1, u "java/lang/StringLatin1"), (73, u "canEncode"), (14, u "(C)Z"), (15, u "$assertionsDisabled"), (0, u "Z"), (98, .class_ 223), (1, u "java/lang/StringLatin1$LinesSpliterator"), (57, u "equals"), (0, u "([B[B)Z"), (97, u "toBytes"), (1, u "(C)[B"), (7, .class_ 391), (0, u "java/lang/StringLatin1$CharsSpliterator")] 3

def k8m0 : Method := { name := "<init>", desc := "()V", sig := { parameters := [], returnType := none }, accessFlags := 0, code := none }
def k8c1 : Code := { maxStack := 2, maxLocals := 1, code := jdk_43_method_3_code, exceptionTable := #[], attributes := #[] }
def k8m1 : Method := { name := "canEncode", desc := "(C)Z", sig := { parameters := [.char], returnType := some .boolean }, accessFlags := 9, code := some k8c1 }
def k8c2 : Code := { maxStack := 3, maxLocals := 3, code := jdk_43_method_13_code, exceptionTable := #[], attributes := #[] }
def k8m2 : Method := { name := "equals", desc := "([B[B)Z", sig := { parameters := [(.array .byte), (.array .byte)], returnType := some .boolean }, accessFlags := 9, code := some k8c2 }
def k8c3 : Code := { maxStack := 4, maxLocals := 1, code := jdk_43_method_46_code, exceptionTable := #[], attributes := #[] }
def k8m3 : Method := { name := "toBytes", desc := "(C)[B", sig := { parameters := [.char], returnType := some (.array .byte) }, accessFlags := 9, code := some k8c3 }
/-- java/lang/StringLatin1 -/
def k8 : Class := { plain "java/lang/StringLatin1" (some 0) with
  accessFlags := 48
  interfaces := #[]
  cf := some (fileOf pool8 14 #[.nestMembers #[390, 221]] #[{ accessFlags := 0, nameIndex := 7, descriptorIndex := 8, attributes := #[] }, { accessFlags := 9, nameIndex := 90, descriptorIndex := 105, attributes := #[] }, { accessFlags := 9, nameIndex := 281, descriptorIndex := 282, attributes := #[] }, { accessFlags := 9, nameIndex := 380, descriptorIndex := 382, attributes := #[] }] 48 4 #[] #[{ accessFlags := 4120, nameIndex := 121, descriptorIndex := 122, attributes := #[] }])
  fields := #[{ name := "$assertionsDisabled", type := .boolean, accessFlags := 4120, slot := 0, constantValue := 0 }]
  methods := #[k8m0, k8m1, k8m2, k8m3]
  instanceTypes := #[]
  staticTypes := #[.boolean]
  resolved := Array.replicate 395 none
  statics := none }

def pool9 : Array CpInfo := pool [(1, .methodref 2 3), (0, .class_ 4), (0, .nameAndType 5 6), (0, u "java/lang/Object"), (0, u "<init>"), (0, u "()V"), (0, .fieldref 8 9), (0, .class_ 10), (0, .nameAndType 11 12), (0, u "com/example/kunci/kunci/TestOutcome"), (0, u "question"), (0, u "Ljava/lang/String;"), (0, .fieldref 8 14), (0, .nameAndType 15 12), (0, u "expected"), (0, .fieldref 8 17), (0, .nameAndType 18 12), (0, u "answer"), (0, .methodref 20 21), (0, .class_ 22), (0, .nameAndType 23 24), (0, u "java/lang/String"), (0, u "equals"), (0, u "(Ljava/lang/Object;)Z"), (0, u "(Ljava/lang/String;Ljava/lang/String;Ljava/lang/String;)V"), (6, u "isPassed"), (0, u "()Z")] 2

def k9c0 : Code := { maxStack := 2, maxLocals := 4, code := prog_12_method_1_code, exceptionTable := #[], attributes := #[] }
def k9m0 : Method := { name := "<init>", desc := "(Ljava/lang/String;Ljava/lang/String;Ljava/lang/String;)V", sig := { parameters := [(.object "java/lang/String"), (.object "java/lang/String"), (.object "java/lang/String")], returnType := none }, accessFlags := 0, code := some k9c0 }
def k9c1 : Code := { maxStack := 2, maxLocals := 1, code := prog_12_method_5_code, exceptionTable := #[], attributes := #[] }
def k9m1 : Method := { name := "isPassed", desc := "()Z", sig := { parameters := [], returnType := some .boolean }, accessFlags := 1, code := some k9c1 }
/-- com/example/kunci/kunci/TestOutcome -/
def k9 : Class := { plain "com/example/kunci/kunci/TestOutcome" (some 0) with
  accessFlags := 49
  interfaces := #[]
  cf := some (fileOf pool9 8 #[] #[{ accessFlags := 0, nameIndex := 5, descriptorIndex := 25, attributes := #[] }, { accessFlags := 1, nameIndex := 32, descriptorIndex := 33, attributes := #[] }] 49 2 #[] #[{ accessFlags := 18, nameIndex := 11, descriptorIndex := 12, attributes := #[] }, { accessFlags := 18, nameIndex := 15, descriptorIndex := 12, attributes := #[] }, { accessFlags := 18, nameIndex := 18, descriptorIndex := 12, attributes := #[] }])
  fields := #[{ name := "question", type := (.object "java/lang/String"), accessFlags := 18, slot := 0, constantValue := 0 }, { name := "expected", type := (.object "java/lang/String"), accessFlags := 18, slot := 1, constantValue := 0 }, { name := "answer", type := (.object "java/lang/String"), accessFlags := 18, slot := 2, constantValue := 0 }]
  methods := #[k9m0, k9m1]
  instanceTypes := #[(.object "java/lang/String"), (.object "java/lang/String"), (.object "java/lang/String")]
  staticTypes := #[]
  resolved := Array.replicate 36 none
  statics := none }

def pool10 : Array CpInfo := pool [(6, .class_ 8), (1, u "java/lang/Object"), (0, u "<init>"), (0, u "()V"), (1, .class_ 14), (1, u "java/lang/StringUTF16"), (31, u "$assertionsDisabled"), (0, u "Z"), (13, u "HI_BYTE_SHIFT"), (0, u "I"), (2, u "LO_BYTE_SHIFT"), (49, .methodref 12 116), (0, .nameAndType 117 118), (0, u "compress"), (0, u "([CI[BII)I"), (3, u "([CII)[B"), (138, u "coderFromArrayLen"), (0, u "([BI)B"), (106, .class_ 371), (1, u "java/lang/StringUTF16$LinesSpliterator"), (58, u "MAX_LENGTH"), (196, .class_ 628), (0, u "java/lang/StringUTF16$CodePointsSpliterator"), (0, .class_ 630), (0, u "java/lang/StringUTF16$CharsSpliterator")] 4

def k10m0 : Method := { name := "<init>", desc := "()V", sig := { parameters := [], returnType := none }, accessFlags := 0, code := none }
def k10c1 : Code := { maxStack := 2, maxLocals := 2, code := jdk_52_method_15_code, exceptionTable := #[], attributes := #[] }
def k10m1 : Method := { name := "coderFromArrayLen", desc := "([BI)B", sig := { parameters := [(.array .byte), .int], returnType := some .byte }, accessFlags := 8, code := some k10c1 }
def k10c2 : Code := { maxStack := 5, maxLocals := 6, code := jdk_52_method_16_code, exceptionTable := #[], attributes := #[] }
def k10m2 : Method := { name := "compress", desc := "([CII)[B", sig := { parameters := [(.array .char), .int, .int], returnType := some (.array .byte) }, accessFlags := 9, code := some k10c2 }
def k10c3 : Code := { maxStack := 3, maxLocals := 7, code := jdk_52_method_21_code, exceptionTable := #[], attributes := #[] }
def k10m3 : Method := { name := "compress", desc := "([CI[BII)I", sig := { parameters := [(.array .char), .int, (.array .byte), .int, .int], returnType := some .int }, accessFlags := 9, code := some k10c3 }
/-- java/lang/StringUTF16 -/
def k10 : Class := { plain "java/lang/StringUTF16" (some 0) with
  accessFlags := 48
  interfaces := #[]
  cf := some (fileOf pool10 12 #[.nestMembers #[627, 629, 369]] #[{ accessFlags := 0, nameIndex := 9, descriptorIndex := 10, attributes := #[] }, { accessFlags := 8, nameIndex := 261, descriptorIndex := 262, attributes := #[] }, { accessFlags := 9, nameIndex := 117, descriptorIndex := 122, attributes := #[] }, { accessFlags := 9, nameIndex := 117, descriptorIndex := 118, attributes := #[] }] 48 6 #[] #[{ accessFlags := 26, nameIndex := 61, descriptorIndex := 62, attributes := #[] }, { accessFlags := 26, nameIndex := 65, descriptorIndex := 62, attributes := #[] }, { accessFlags := 24, nameIndex := 430, descriptorIndex := 62, attributes := #[] }, { accessFlags := 4120, nameIndex := 46, descriptorIndex := 47, attributes := #[] }])
  fields := #[{ name := "HI_BYTE_SHIFT", type := .int, accessFlags := 26, slot := 0, constantValue := 0 }, { name := "LO_BYTE_SHIFT", type := .int, accessFlags := 26, slot := 1, constantValue := 0 }, { name := "MAX_LENGTH", type := .int, accessFlags := 24, slot := 2, constantValue := 0 }, { name := "$assertionsDisabled", type := .boolean, accessFlags := 4120, slot := 3, constantValue := 0 }]
  methods := #[k10m0, k10m1, k10m2, k10m3]
  instanceTypes := #[]
  staticTypes := #[.int, .int, .int, .boolean]
  resolved := Array.replicate 635 none
  statics := none }

def pool11 : Array CpInfo := pool [(2, .class_ 4), (1, u "java/lang/Object"), (0, u "<init>"), (0, u "()V"), (17, .class_ 26), (1, u "jdk/internal/util/Preconditions"), (28, .class_ 56), (0, u "jdk/internal/util/Preconditions$4"), (57, .class_ 115), (0, u "jdk/internal/util/Preconditions$1"), (7, u "SIOOBE_FORMATTER"), (0, u "Ljava/util/function/BiFunction;"), (0, .class_ 126), (0, u "jdk/internal/util/Preconditions$2"), (3, u "AIOOBE_FORMATTER"), (0, .class_ 132), (0, u "jdk/internal/util/Preconditions$3"), (3, u "IOOBE_FORMATTER")] 57

def k11m0 : Method := { name := "<init>", desc := "()V", sig := { parameters := [], returnType := none }, accessFlags := 1, code := none }
/-- jdk/internal/util/Preconditions -/
def k11 : Class := { plain "jdk/internal/util/Preconditions" (some 0) with
  accessFlags := 33
  interfaces := #[]
  cf := some (fileOf pool11 24 #[.nestMembers #[55, 131, 125, 114]] #[{ accessFlags := 1, nameIndex := 5, descriptorIndex := 6, attributes := #[] }] 33 2 #[] #[{ accessFlags := 25, nameIndex := 123, descriptorIndex := 124, attributes := #[] }, { accessFlags := 25, nameIndex := 130, descriptorIndex := 124, attributes := #[] }, { accessFlags := 25, nameIndex := 136, descriptorIndex := 124, attributes := #[] }])
  fields := #[{ name := "SIOOBE_FORMATTER", type := (.object "java/util/function/BiFunction"), accessFlags := 25, slot := 0, constantValue := 0 }, { name := "AIOOBE_FORMATTER", type := (.object "java/util/function/BiFunction"), accessFlags := 25, slot := 1, constantValue := 0 }, { name := "IOOBE_FORMATTER", type := (.object "java/util/function/BiFunction"), accessFlags := 25, slot := 2, constantValue := 0 }]
  methods := #[k11m0]
  instanceTypes := #[]
  staticTypes := #[(.object "java/util/function/BiFunction"), (.object "java/util/function/BiFunction"), (.object "java/util/function/BiFunction")]
  resolved := Array.replicate 194 none
  statics := some 1 }

def pool12 : Array CpInfo := pool [(9, u "<init>"), (6, .class_ 18), (1, u "java/lang/Object"), (0, u "()V"), (1, .class_ 23), (1, u "jdk/internal/util/ArraysSupport"), (0, u "LOG2_ARRAY_LONG_INDEX_SCALE"), (0, u "I"), (2, u "U"), (0, u "Ljdk/internal/misc/Unsafe;"), (8, u "BIG_ENDIAN"), (0, u "Z"), (8, u "LOG2_BYTE_BIT_SIZE"), (4, u "LOG2_ARRAY_INT_INDEX_SCALE"), (54, u "JLA"), (0, u "Ljdk/internal/access/JavaLangAccess;"), (11, u "LOG2_ARRAY_BOOLEAN_INDEX_SCALE"), (9, u "LOG2_ARRAY_BYTE_INDEX_SCALE"), (5, u "LOG2_ARRAY_CHAR_INDEX_SCALE"), (5, u "LOG2_ARRAY_SHORT_INDEX_SCALE"), (18, u "LOG2_ARRAY_FLOAT_INDEX_SCALE"), (24, u "LOG2_ARRAY_DOUBLE_INDEX_SCALE"), (89, u "T_BOOLEAN"), (2, u "T_CHAR"), (1, u "T_FLOAT"), (1, u "T_DOUBLE"), (1, u "T_BYTE"), (1, u "T_SHORT"), (1, u "T_INT"), (1, u "T_LONG"), (1, u "SOFT_MAX_ARRAY_LENGTH")] 83

def k12m0 : Method := { name := "<init>", desc := "()V", sig := { parameters := [], returnType := none }, accessFlags := 2, code := none }
/-- jdk/internal/util/ArraysSupport -/
def k12 : Class := { plain "jdk/internal/util/ArraysSupport" (some 0) with
  accessFlags := 33
  interfaces := #[]
  cf := some (fileOf pool12 21 #[] #[{ accessFlags := 2, nameIndex := 9, descriptorIndex := 19, attributes := #[] }] 33 16 #[] #[{ accessFlags := 24, nameIndex := 28, descriptorIndex := 29, attributes := #[] }, { accessFlags := 26, nameIndex := 38, descriptorIndex := 39, attributes := #[] }, { accessFlags := 25, nameIndex := 121, descriptorIndex := 25, attributes := #[] }, { accessFlags := 25, nameIndex := 131, descriptorIndex := 25, attributes := #[] }, { accessFlags := 25, nameIndex := 137, descriptorIndex := 25, attributes := #[] }, { accessFlags := 25, nameIndex := 143, descriptorIndex := 25, attributes := #[] }, { accessFlags := 25, nameIndex := 53, descriptorIndex := 25, attributes := #[] }, { accessFlags := 25, nameIndex := 24, descriptorIndex := 25, attributes := #[] }, { accessFlags := 25, nameIndex := 162, descriptorIndex := 25, attributes := #[] }, { accessFlags := 25, nameIndex := 187, descriptorIndex := 25, attributes := #[] }, { accessFlags := 26, nameIndex := 48, descriptorIndex := 25, attributes := #[] }, { accessFlags := 25, nameIndex := 277, descriptorIndex := 25, attributes := #[] }, { accessFlags := 25, nameIndex := 280, descriptorIndex := 25, attributes := #[] }, { accessFlags := 25, nameIndex := 282, descriptorIndex := 25, attributes := #[] }, { accessFlags := 25, nameIndex := 284, descriptorIndex := 25, attributes := #[] }, { accessFlags := 25, nameIndex := 286, descriptorIndex := 25, attributes := #[] }, { accessFlags := 25, nameIndex := 288, descriptorIndex := 25, attributes := #[] }, { accessFlags := 25, nameIndex := 290, descriptorIndex := 25, attributes := #[] }, { accessFlags := 25, nameIndex := 292, descriptorIndex := 25, attributes := #[] }, { accessFlags := 26, nameIndex := 108, descriptorIndex := 109, attributes := #[] }, { accessFlags := 25, nameIndex := 294, descriptorIndex := 25, attributes := #[] }])
  fields := #[{ name := "U", type := (.object "jdk/internal/misc/Unsafe"), accessFlags := 24, slot := 0, constantValue := 0 }, { name := "BIG_ENDIAN", type := .boolean, accessFlags := 26, slot := 1, constantValue := 0 }, { name := "LOG2_ARRAY_BOOLEAN_INDEX_SCALE", type := .int, accessFlags := 25, slot := 2, constantValue := 0 }, { name := "LOG2_ARRAY_BYTE_INDEX_SCALE", type := .int, accessFlags := 25, slot := 3, constantValue := 0 }, { name := "LOG2_ARRAY_CHAR_INDEX_SCALE", type := .int, accessFlags := 25, slot := 4, constantValue := 0 }, { name := "LOG2_ARRAY_SHORT_INDEX_SCALE", type := .int, accessFlags := 25, slot := 5, constantValue := 0 }, { name := "LOG2_ARRAY_INT_INDEX_SCALE", type := .int, accessFlags := 25, slot := 6, constantValue := 0 }, { name := "LOG2_ARRAY_LONG_INDEX_SCALE", type := .int, accessFlags := 25, slot := 7, constantValue := 0 }, { name := "LOG2_ARRAY_FLOAT_INDEX_SCALE", type := .int, accessFlags := 25, slot := 8, constantValue := 0 }, { name := "LOG2_ARRAY_DOUBLE_INDEX_SCALE", type := .int, accessFlags := 25, slot := 9, constantValue := 0 }, { name := "LOG2_BYTE_BIT_SIZE", type := .int, accessFlags := 26, slot := 10, constantValue := 0 }, { name := "T_BOOLEAN", type := .int, accessFlags := 25, slot := 11, constantValue := 0 }, { name := "T_CHAR", type := .int, accessFlags := 25, slot := 12, constantValue := 0 }, { name := "T_FLOAT", type := .int, accessFlags := 25, slot := 13, constantValue := 0 }, { name := "T_DOUBLE", type := .int, accessFlags := 25, slot := 14, constantValue := 0 }, { name := "T_BYTE", type := .int, accessFlags := 25, slot := 15, constantValue := 0 }, { name := "T_SHORT", type := .int, accessFlags := 25, slot := 16, constantValue := 0 }, { name := "T_INT", type := .int, accessFlags := 25, slot := 17, constantValue := 0 }, { name := "T_LONG", type := .int, accessFlags := 25, slot := 18, constantValue := 0 }, { name := "JLA", type := (.object "jdk/internal/access/JavaLangAccess"), accessFlags := 26, slot := 19, constantValue := 0 }, { name := "SOFT_MAX_ARRAY_LENGTH", type := .int, accessFlags := 25, slot := 20, constantValue := 0 }]
  methods := #[k12m0]
  instanceTypes := #[]
  staticTypes := #[(.object "jdk/internal/misc/Unsafe"), .boolean, .int, .int, .int, .int, .int, .int, .int, .int, .int, .int, .int, .int, .int, .int, .int, .int, .int, (.object "jdk/internal/access/JavaLangAccess"), .int]
  resolved := Array.replicate 378 none
  statics := none }

def pool13 : Array CpInfo := pool [(1, u "java/lang/Cloneable"), (0, .class_ 1), (0, u "java/lang/Object"), (0, .class_ 3)] 3

/-- java/lang/Cloneable -/
def k13 : Class := { plain "java/lang/Cloneable" (some 0) with
  accessFlags := 1537
  interfaces := #[]
  cf := some (fileOf pool13 2 #[] #[] 1537 4 #[] #[])
  fields := #[]
  methods := #[]
  instanceTypes := #[]
  staticTypes := #[]
  resolved := Array.replicate 8 none
  statics := none }

/-- the primitive byte -/
def k14 : Class := { plain "byte" none with kind := .primitive 'B', accessFlags := 0x411 }
/-- [B -/
def k15 : Class := { plain "[B" (some 0) with kind := .array 14 .byte, interfaces := #[13, 2], accessFlags := 1041 }

/-- the primitive char -/
def k16 : Class := { plain "char" none with kind := .primitive 'C', accessFlags := 0x411 }
/-- [C -/
def k17 : Class := { plain "[C" (some 0) with kind := .array 16 .char, interfaces := #[13, 2], accessFlags := 1041 }

/-- the primitive int -/
def k18 : Class := { plain "int" none with kind := .primitive 'I', accessFlags := 0x411 }
/-- [I -/
def k19 : Class := { plain "[I" (some 0) with kind := .array 18 .int, interfaces := #[13, 2], accessFlags := 1041 }

def heap : Heap := #[{ cls := 7, slots := #[.long 0, .int 1, .null, .int 0, .null, .int 0, .int 0], vm := .statics 7 },
  { cls := 11, slots := #[.null, .null, .null], vm := .statics 11 }]
def classes : Array Class := #[k0, k1, k2, k3, k4, k5, k6, k7, k8, k9, k10, k11, k12, k13, k14, k15, k16, k17, k18, k19]
def interned : List (Array UInt16 × Addr) := []
def slotsUsed : Nat := 10
def theMethod : MethodId := ⟨1, 2⟩
def args0 : Array Value := #[.int 5, .int 2, .int 7, .int 1]
def aboutOver (below : List Frame) : State where
  vm := { classes := classes, interned := interned.toArray }
  heap := heap
  slotsUsed := slotsUsed
  threads := #[{ frames := .invoking theMethod args0 :: below }]
def below0 : List Frame := [.native { method := ⟨0, 0⟩, args := #[] }]
def about1 : State := aboutOver below0
def p0 : Program := .bare "" "" ""
def e0 : Env := launch0.env 0 0 0
theorem w_frames : about1.frames = Frame.invoking theMethod args0 :: below0 := rfl
set_option maxRecDepth 65536 in
theorem w_args : argsFit about1.vm theMethod args0 = true := by decide +kernel
set_option maxRecDepth 65536 in
theorem w_heap : heapFits about1 = true := by decide +kernel
set_option maxRecDepth 65536 in
theorem w_runnable : about1.curStatus? = some .runnable := by decide +kernel
set_option maxRecDepth 65536 in
theorem w_alone : about1.alone = true := by decide +kernel
set_option maxRecDepth 65536 in
theorem w_named : about1.methodNamed? x = some theMethod := by decide +kernel
set_option maxRecDepth 65536 in
theorem w_hears : about1.hears theMethod below0 = true := by decide +kernel
set_option maxRecDepth 65536 in
theorem w_ripe : about1.ripe theMethod args0 below0 = true := by decide +kernel
theorem w_running : about1.status = .running := rfl
set_option maxRecDepth 65536 in
theorem w_room : about1.hasRoom e0.platform room_1 = true :=
  launch0.hasRoom_least _ room_1 (by decide +kernel) (by decide +kernel) (by decide +kernel) (by decide +kernel) (by decide +kernel) (by decide +kernel)
theorem allAtoms_all (ts : List Jvm.Cond) (a : Array Jvm.Value) (st : Jvm.State) : (allAtoms ts).before a st = ts.all (fun c => c.before a st) := by
  induction ts with
  | nil => rfl
  | cons c t ih =>
    show (Jvm.Cond.and c (allAtoms t)).before a st = _
    rw [Jvm.Cond.before_and, ih, List.all_cons]
def words1 : List Jvm.Cond := Jvm.Cond.code x code maxLocals ret :: tables_1
/-- a 'code' word, met by the world's own term for the bytes: nothing is compared byte by byte -/
theorem code_word {y : MethodName} {bytes : ByteArray} {mx : Nat} {rt : Option FieldType} {a : Array Value} {s : State} {m : MethodId} {meth : Method} {c : Code} (h1 : s.methodNamed? y = some m) (h2 : s.vm.method? m = some meth) (h3 : meth.code = some c) (h4 : c.code = bytes)
    (h5 : (c.maxLocals == mx && c.exceptionTable.isEmpty && decide (c.maxStack ≤ mostOperands) && decide (meth.sig.returnType = rt) && !meth.locks && decide (parseMethodDescriptor y.desc = some meth.sig)) = true) : (Jvm.Cond.code y bytes mx rt).before a s = true := by
  simp only [Bool.and_eq_true, beq_iff_eq, Bool.not_eq_true', decide_eq_true_eq] at h5
  obtain ⟨⟨⟨⟨⟨g1, g2⟩, g3⟩, g4⟩, g5⟩, g6⟩ := h5
  simp [Cond.before, Cond.holds, Cond.value, h1, h2, h3, h4, g1, g2, g3, g4, g5, g6]
def isCode : Jvm.Cond → Bool
  | .code _ _ _ _ => true
  | _ => false
theorem all_split {L : List Jvm.Cond} {P : Jvm.Cond → Bool} (h1 : L.all (fun c => isCode c || P c) = true) (h2 : ∀ c ∈ L.filter isCode, P c = true) : L.all P = true := by
  refine List.all_eq_true.mpr fun c hc => ?_
  have h := List.all_eq_true.mp h1 c hc
  rcases Bool.eq_false_or_eq_true (isCode c) with hi | hi
  · exact h2 c (List.mem_filter.mpr ⟨hc, hi⟩)
  · simpa [hi] using h
set_option maxRecDepth 65536 in
theorem w_c0 : (Jvm.Cond.code x code maxLocals ret).before args0 about1 = true := code_word (m := ⟨1, 2⟩) (meth := k1m2) (c := k1c2) (by decide +kernel) rfl rfl rfl (by decide +kernel)
set_option maxRecDepth 65536 in
theorem w_c1 : (Jvm.Cond.code ({ cls := "com/example/kunci/kunci/TestOutcomeIsPassedPinLaw", name := "make", desc := "(ICC)Ljava/lang/String;" } : Jvm.MethodName) method_2_code (3 : Nat) (Option.some (Jvm.ClassFile.FieldType.object "java/lang/String"))).before args0 about1 = true := code_word (m := ⟨1, 1⟩) (meth := k1m1) (c := k1c1) (by decide +kernel) rfl rfl rfl (by decide +kernel)
set_option maxRecDepth 65536 in
theorem w_c2 : (Jvm.Cond.code ({ cls := "java/lang/String", name := "valueOf", desc := "(C)Ljava/lang/String;" } : Jvm.MethodName) jdk_42_method_139_code (1 : Nat) (Option.some (Jvm.ClassFile.FieldType.object "java/lang/String"))).before args0 about1 = true := code_word (m := ⟨7, 3⟩) (meth := k7m3) (c := k7c3) (by decide +kernel) rfl rfl rfl (by decide +kernel)
set_option maxRecDepth 65536 in
theorem w_c3 : (Jvm.Cond.code ({ cls := "java/lang/StringLatin1", name := "canEncode", desc := "(C)Z" } : Jvm.MethodName) jdk_43_method_3_code (1 : Nat) (Option.some Jvm.ClassFile.FieldType.boolean)).before args0 about1 = true := code_word (m := ⟨8, 1⟩) (meth := k8m1) (c := k8c1) (by decide +kernel) rfl rfl rfl (by decide +kernel)
set_option maxRecDepth 65536 in
theorem w_c4 : (Jvm.Cond.code ({ cls := "java/lang/StringLatin1", name := "toBytes", desc := "(C)[B" } : Jvm.MethodName) jdk_43_method_46_code (1 : Nat) (Option.some (Jvm.ClassFile.FieldType.array Jvm.ClassFile.FieldType.byte))).before args0 about1 = true := code_word (m := ⟨8, 3⟩) (meth := k8m3) (c := k8c3) (by decide +kernel) rfl rfl rfl (by decide +kernel)
set_option maxRecDepth 65536 in
theorem w_c5 : (Jvm.Cond.code ({ cls := "java/lang/String", name := "<init>", desc := "([BB)V" } : Jvm.MethodName) jdk_42_method_151_code (3 : Nat) (Option.none : Option Jvm.ClassFile.FieldType)).before args0 about1 = true := code_word (m := ⟨7, 5⟩) (meth := k7m5) (c := k7c5) (by decide +kernel) rfl rfl rfl (by decide +kernel)
set_option maxRecDepth 65536 in
theorem w_c6 : (Jvm.Cond.code ({ cls := "java/lang/Object", name := "<init>", desc := "()V" } : Jvm.MethodName) object_method_1_code (1 : Nat) (Option.none : Option Jvm.ClassFile.FieldType)).before args0 about1 = true := code_word (m := ⟨0, 0⟩) (meth := k0m0) (c := k0c0) (by decide +kernel) rfl rfl rfl (by decide +kernel)
set_option maxRecDepth 65536 in
theorem w_c7 : (Jvm.Cond.code ({ cls := "java/lang/String", name := "<init>", desc := "([C)V" } : Jvm.MethodName) jdk_42_method_3_code (2 : Nat) (Option.none : Option Jvm.ClassFile.FieldType)).before args0 about1 = true := code_word (m := ⟨7, 1⟩) (meth := k7m1) (c := k7c1) (by decide +kernel) rfl rfl rfl (by decide +kernel)
set_option maxRecDepth 65536 in
theorem w_c8 : (Jvm.Cond.code ({ cls := "java/lang/String", name := "<init>", desc := "([CIILjava/lang/Void;)V" } : Jvm.MethodName) jdk_42_method_149_code (6 : Nat) (Option.none : Option Jvm.ClassFile.FieldType)).before args0 about1 = true := code_word (m := ⟨7, 4⟩) (meth := k7m4) (c := k7c4) (by decide +kernel) rfl rfl rfl (by decide +kernel)
set_option maxRecDepth 65536 in
theorem w_c9 : (Jvm.Cond.code ({ cls := "com/example/kunci/kunci/TestOutcome", name := "<init>", desc := "(Ljava/lang/String;Ljava/lang/String;Ljava/lang/String;)V" } : Jvm.MethodName) prog_12_method_1_code (4 : Nat) (Option.none : Option Jvm.ClassFile.FieldType)).before args0 about1 = true := code_word (m := ⟨9, 0⟩) (meth := k9m0) (c := k9c0) (by decide +kernel) rfl rfl rfl (by decide +kernel)
set_option maxRecDepth 65536 in
theorem w_c10 : (Jvm.Cond.code ({ cls := "com/example/kunci/kunci/TestOutcome", name := "isPassed", desc := "()Z" } : Jvm.MethodName) prog_12_method_5_code (1 : Nat) (Option.some Jvm.ClassFile.FieldType.boolean)).before args0 about1 = true := code_word (m := ⟨9, 1⟩) (meth := k9m1) (c := k9c1) (by decide +kernel) rfl rfl rfl (by decide +kernel)
set_option maxRecDepth 65536 in
theorem w_c11 : (Jvm.Cond.code ({ cls := "java/lang/String", name := "equals", desc := "(Ljava/lang/Object;)Z" } : Jvm.MethodName) jdk_42_method_66_code (3 : Nat) (Option.some Jvm.ClassFile.FieldType.boolean)).before args0 about1 = true := code_word (m := ⟨7, 2⟩) (meth := k7m2) (c := k7c2) (by decide +kernel) rfl rfl rfl (by decide +kernel)
set_option maxRecDepth 65536 in
theorem w_c12 : (Jvm.Cond.code ({ cls := "java/lang/StringLatin1", name := "equals", desc := "([B[B)Z" } : Jvm.MethodName) jdk_43_method_13_code (3 : Nat) (Option.some Jvm.ClassFile.FieldType.boolean)).before args0 about1 = true := code_word (m := ⟨8, 2⟩) (meth := k8m2) (c := k8c2) (by decide +kernel) rfl rfl rfl (by decide +kernel)
set_option maxRecDepth 65536 in
theorem w_c13 : (Jvm.Cond.code ({ cls := "java/lang/StringUTF16", name := "compress", desc := "([CII)[B" } : Jvm.MethodName) jdk_52_method_16_code (6 : Nat) (Option.some (Jvm.ClassFile.FieldType.array Jvm.ClassFile.FieldType.byte))).before args0 about1 = true := code_word (m := ⟨10, 2⟩) (meth := k10m2) (c := k10c2) (by decide +kernel) rfl rfl rfl (by decide +kernel)
set_option maxRecDepth 65536 in
theorem w_c14 : (Jvm.Cond.code ({ cls := "java/lang/StringUTF16", name := "compress", desc := "([CI[BII)I" } : Jvm.MethodName) jdk_52_method_21_code (7 : Nat) (Option.some Jvm.ClassFile.FieldType.int)).before args0 about1 = true := code_word (m := ⟨10, 3⟩) (meth := k10m3) (c := k10c3) (by decide +kernel) rfl rfl rfl (by decide +kernel)
set_option maxRecDepth 65536 in
theorem w_c15 : (Jvm.Cond.code ({ cls := "java/lang/StringUTF16", name := "coderFromArrayLen", desc := "([BI)B" } : Jvm.MethodName) jdk_52_method_15_code (2 : Nat) (Option.some Jvm.ClassFile.FieldType.byte)).before args0 about1 = true := code_word (m := ⟨10, 1⟩) (meth := k10m1) (c := k10c1) (by decide +kernel) rfl rfl rfl (by decide +kernel)
def codes1 : List Jvm.Cond := [Jvm.Cond.code x code maxLocals ret, Jvm.Cond.code ({ cls := "com/example/kunci/kunci/TestOutcomeIsPassedPinLaw", name := "make", desc := "(ICC)Ljava/lang/String;" } : Jvm.MethodName) method_2_code (3 : Nat) (Option.some (Jvm.ClassFile.FieldType.object "java/lang/String")), Jvm.Cond.code ({ cls := "java/lang/String", name := "valueOf", desc := "(C)Ljava/lang/String;" } : Jvm.MethodName) jdk_42_method_139_code (1 : Nat) (Option.some (Jvm.ClassFile.FieldType.object "java/lang/String")), Jvm.Cond.code ({ cls := "java/lang/StringLatin1", name := "canEncode", desc := "(C)Z" } : Jvm.MethodName) jdk_43_method_3_code (1 : Nat) (Option.some Jvm.ClassFile.FieldType.boolean), Jvm.Cond.code ({ cls := "java/lang/StringLatin1", name := "toBytes", desc := "(C)[B" } : Jvm.MethodName) jdk_43_method_46_code (1 : Nat) (Option.some (Jvm.ClassFile.FieldType.array Jvm.ClassFile.FieldType.byte)), Jvm.Cond.code ({ cls := "java/lang/String", name := "<init>", desc := "([BB)V" } : Jvm.MethodName) jdk_42_method_151_code (3 : Nat) (Option.none : Option Jvm.ClassFile.FieldType), Jvm.Cond.code ({ cls := "java/lang/Object", name := "<init>", desc := "()V" } : Jvm.MethodName) object_method_1_code (1 : Nat) (Option.none : Option Jvm.ClassFile.FieldType), Jvm.Cond.code ({ cls := "java/lang/String", name := "<init>", desc := "([C)V" } : Jvm.MethodName) jdk_42_method_3_code (2 : Nat) (Option.none : Option Jvm.ClassFile.FieldType), Jvm.Cond.code ({ cls := "java/lang/String", name := "<init>", desc := "([CIILjava/lang/Void;)V" } : Jvm.MethodName) jdk_42_method_149_code (6 : Nat) (Option.none : Option Jvm.ClassFile.FieldType), Jvm.Cond.code ({ cls := "com/example/kunci/kunci/TestOutcome", name := "<init>", desc := "(Ljava/lang/String;Ljava/lang/String;Ljava/lang/String;)V" } : Jvm.MethodName) prog_12_method_1_code (4 : Nat) (Option.none : Option Jvm.ClassFile.FieldType), Jvm.Cond.code ({ cls := "com/example/kunci/kunci/TestOutcome", name := "isPassed", desc := "()Z" } : Jvm.MethodName) prog_12_method_5_code (1 : Nat) (Option.some Jvm.ClassFile.FieldType.boolean), Jvm.Cond.code ({ cls := "java/lang/String", name := "equals", desc := "(Ljava/lang/Object;)Z" } : Jvm.MethodName) jdk_42_method_66_code (3 : Nat) (Option.some Jvm.ClassFile.FieldType.boolean), Jvm.Cond.code ({ cls := "java/lang/StringLatin1", name := "equals", desc := "([B[B)Z" } : Jvm.MethodName) jdk_43_method_13_code (3 : Nat) (Option.some Jvm.ClassFile.FieldType.boolean), Jvm.Cond.code ({ cls := "java/lang/StringUTF16", name := "compress", desc := "([CII)[B" } : Jvm.MethodName) jdk_52_method_16_code (6 : Nat) (Option.some (Jvm.ClassFile.FieldType.array Jvm.ClassFile.FieldType.byte)), Jvm.Cond.code ({ cls := "java/lang/StringUTF16", name := "compress", desc := "([CI[BII)I" } : Jvm.MethodName) jdk_52_method_21_code (7 : Nat) (Option.some Jvm.ClassFile.FieldType.int), Jvm.Cond.code ({ cls := "java/lang/StringUTF16", name := "coderFromArrayLen", desc := "([BI)B" } : Jvm.MethodName) jdk_52_method_15_code (2 : Nat) (Option.some Jvm.ClassFile.FieldType.byte)]
set_option maxRecDepth 65536 in
theorem codes_eq : words1.filter isCode = codes1 := rfl
theorem w_codes : ∀ c ∈ words1.filter isCode, c.before args0 about1 = true := by
  rw [codes_eq]
  intro c hc
  simp only [codes1, List.mem_cons, List.not_mem_nil, or_false] at hc
  rcases hc with rfl | rfl | rfl | rfl | rfl | rfl | rfl | rfl | rfl | rfl | rfl | rfl | rfl | rfl | rfl | rfl
  · exact w_c0
  · exact w_c1
  · exact w_c2
  · exact w_c3
  · exact w_c4
  · exact w_c5
  · exact w_c6
  · exact w_c7
  · exact w_c8
  · exact w_c9
  · exact w_c10
  · exact w_c11
  · exact w_c12
  · exact w_c13
  · exact w_c14
  · exact w_c15
set_option maxRecDepth 65536 in
theorem w_t1 : (words1.take 24).all (fun c => isCode c || c.before args0 about1) = true := by decide +kernel
set_option maxRecDepth 65536 in
theorem w_t2 : ((words1.drop 24).take 24).all (fun c => isCode c || c.before args0 about1) = true := by decide +kernel
set_option maxRecDepth 65536 in
theorem w_t3 : (((words1.drop 24).drop 24).take 24).all (fun c => isCode c || c.before args0 about1) = true := by decide +kernel
set_option maxRecDepth 65536 in
theorem w_t4 : (((words1.drop 24).drop 24).drop 24).all (fun c => isCode c || c.before args0 about1) = true := by decide +kernel
theorem w_tables : (allAtoms (Jvm.Cond.code x code maxLocals ret :: tables_1)).before args0 about1 = true := by
  rw [allAtoms_all]
  show words1.all (fun c => c.before args0 about1) = true
  refine all_split ?_ w_codes
  rw [← List.take_append_drop 24 words1, List.all_append, w_t1, ← List.take_append_drop 24 (words1.drop 24), List.all_append, w_t2, ← List.take_append_drop 24 ((words1.drop 24).drop 24), List.all_append, w_t3, w_t4]
  rfl
set_option maxRecDepth 65536 in
theorem w_rest : rest_1_c.before args0 about1 = true := by decide +kernel
set_option maxRecDepth 65536 in
theorem w_case : (Jvm.Cond.and given_1 narrow_1).before args0 about1 = true := by decide +kernel
set_option maxRecDepth 65536 in
theorem w_consts : constsHeld consts_1 about1 := Jvm.Lit.constsHeldB_iff.mp (by decide +kernel)
theorem w_applies : (headSpec (Jvm.Cond.code x code maxLocals ret :: tables_1) room_1).applies x e0.platform about1 = true :=
  (Spec.applies_iff w_frames).mpr ⟨w_running, w_runnable, w_alone, w_named, w_hears, w_ripe, w_room, w_tables⟩
theorem atStart : AtStart classFile x code maxLocals ret World_1 tables_1 room_1 Calls_1 rest_1 Pre_1 launch0 p0 e0 about1 theMethod args0 below0 :=
  ⟨lists_1, trivial, launch0.admits_env _ _ _, launch0.least_env, fairChoices_fair.cas, fairChoices_fair.clock, w_frames, w_args, w_heap, w_applies, ⟨w_consts, trivial⟩, w_rest, w_case⟩
end start1
theorem witness_1 : WitnessClaimed_1 := ⟨start1.p0, start1.e0, start1.about1, start1.theMethod, start1.args0, start1.below0, start1.atStart⟩
end Jvm.Pilot.@@N@@
