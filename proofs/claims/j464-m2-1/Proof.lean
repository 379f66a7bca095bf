import JvmDerived
import JvmDerived.Pilot.@@N@@Statement
import JvmDerived.Pilot.@@N@@Code
set_option linter.unusedVariables false
set_option linter.unusedSimpArgs false
namespace Jvm.Own
open Sem ClassFile Op Lib Jvm.Free Jvm.Stand Jvm.LawKit Jvm.RoadKit Bundle
/-- the walk of a method's body from one point on: it ends in a return that answers Q -/
def Go (p : Program) (l : Launch) (e : Env) (R : Room) (s : State) (m : MethodId) (args : Array Value) (below : List Frame) (meth : Method) (c : Code) (Z : State) (a0 : Array Value) (EL : List (String × Nat)) (nw : Prop) (Q : Option Value → Vm → Heap → Prop)
    (vm : Vm) (h : Heap) (k n pc : Nat) (L : Array Slot) (st : List Value) : Prop :=
  ∀ (T : State) (locs : List Loc) (k0 : Nat), p.tables.exec = Jvm.exec → meth.locks = false → EW Z a0 EL →
    Stand p l e R (s.setVm vm) m args below meth c T locs k n → T.heap = h → s.Since vm k0 → k0 ≤ h.size → Fr Z.heap.size locs → Z.Warmed39 vm → (nw → s.WarmedH vm) → CHr Z EL s.vm s.heap vm h → Ext Z.heap h →
    ∃ (t : State) (v : Option Value) (L' : List Loc), Steps p.tables e below (T.setTop (mkF m pc L st)) t ∧ t.status = .running ∧ Ended t below (.returned v) ∧ Fr Z.heap.size L' ∧ Q v t.vm t.heap ∧ CHr Z EL s.vm s.heap t.vm t.heap ∧ Ext Z.heap t.heap ∧ ReturnedEndW s (.returned v) t L' R.cells R.slots ∧ (nw → s.WarmedH t.vm)
/-- a method's contract at one call: these arguments, this heap; sf: what it may write of Strings and byte arrays -/
def Ct (l : Launch) (Z : State) (EL : List (String × Nat)) (nw : Prop) (ws : List Jvm.Cond) (y : MethodName) (bytes : ByteArray) (maxL : Nat) (ret : Option FieldType) (rm : Room) (as : Array Value) (h : Heap) (sf : List Addr) (Q : Option Value → Vm → Heap → Prop) : Prop :=
  MetFree l y (head1 (Jvm.Cond.code y bytes maxL ret :: ws) rm) (fun a U => a = as ∧ Z.Warmed39 U.vm ∧ U.heap = h ∧ CHv Z EL U.vm h ∧ Ext Z.heap h ∧ ∀ x ∈ sf, Safe Z EL U.vm h x) (fun _ _ _ _ _ => True)
    (fun _ U o U' => ∃ v L, o = .returned v ∧ Fr Z.heap.size L ∧ Q v U'.vm U'.heap ∧ CHr Z EL U.vm U.heap U'.vm U'.heap ∧ Ext Z.heap U'.heap ∧ (nw → U.WarmedH U'.vm) ∧ ReturnedEndW U o U' L rm.cells rm.slots)
/-- an array, by its components -/
def Ar (Z : State) (h : Heap) (a : Addr) (k : ClassId) (ty : FieldType) (vs : List Value) : Prop := ∃ c : Cell, Arr Z h a c ty ∧ c.cls = k ∧ c.slots.toList = vs
/-- a String of Latin-1 bytes -/
def St (Z : State) (h : Heap) (a b : Addr) (k : ClassId) (bs : List Int32) : Prop := Exa Z h a "java/lang/String" ∧ Fld Z h a "java/lang/String" "coder" "B" (.int 0) ∧ Fld Z h a "java/lang/String" "value" "[B" (.ref b) ∧ Ar Z h b k .byte (bs.map Value.int) ∧ bs.length < 536870912
section Facts
variable {Z : State} {h h' h0 : Heap} {a b w : Addr} {k : ClassId} {ty : FieldType} {vs : List Value} {bs : List Int32} {ws : List Addr} {sl : Nat} {v : Value} {EL : List (String × Nat)} {vm vm' : Vm}
theorem ext_trans {h1 h2 h3 : Heap} (E : Ext h1 h2) (F : Ext h2 h3) : Ext h1 h3 := ⟨Nat.le_trans E.1 F.1, fun a c q => F.2 a c (E.2 a c q)⟩
theorem ext_keep (O : Ext Z.heap h) (K : Keep h h' ws) (q : ∀ x ∈ ws, Z.heap.size ≤ x) : Ext Z.heap h' := (Old.keep (n0 := Z.heap.size) ⟨rfl, O⟩ K q).2
theorem ext_wr (O : Ext Z.heap h) (W : Wr h h' a sl v) (q : Z.heap.size ≤ a) : Ext Z.heap h' := (Old.wr (n0 := Z.heap.size) ⟨rfl, O⟩ W q).2
theorem Ar.lt (F : Ar Z h a k ty vs) : a < h.size := by obtain ⟨c, A, -⟩ := F; exact A.lt
theorem Ar.ext (F : Ar Z h a k ty vs) (E : Ext h h') : Ar Z h' a k ty vs := by obtain ⟨c, A, r⟩ := F; exact ⟨c, A.ext E, r⟩
theorem Ar.other (F : Ar Z h a k ty vs) (W : Wr h h' b sl v) (q : a ≠ b) : Ar Z h' a k ty vs := by obtain ⟨c, A, r⟩ := F; exact ⟨c, A.other W q, r⟩
theorem Ar.keep (F : Ar Z h a k ty vs) (K : Keep h h' ws) (q : a ∉ ws) : Ar Z h' a k ty vs := by obtain ⟨c, A, r⟩ := F; exact ⟨c, ⟨K.2.1 a c A.1 q, A.2⟩, r⟩
theorem Ar.set (F : Ar Z h a k ty vs) (W : Wr h h' a sl v) : Ar Z h' a k ty (vs.set sl v) := by
  obtain ⟨c, A, r1, r2⟩ := F
  refine ⟨_, A.same W, r1, ?_⟩
  simp [Cell.setSlot, r2]
theorem Ar.of_arv {z : Int32} {d : Value} (F : Arv Z h a k ty z vs d) (hl : z.toNatClampNeg = vs.length) : Ar Z h a k ty vs := by
  obtain ⟨c, A, r1, r2, r3, H, -⟩ := F
  refine ⟨c, A, r1, List.ext_getElem? fun i => ?_⟩
  by_cases hi : i < c.slots.size
  · have q := H i hi
    rw [Array.getElem?_toList, q]
    have : i < vs.length := by omega
    simp [List.getD, this]
  · rw [Array.getElem?_toList, Array.getElem?_eq_none (by omega), List.getElem?_eq_none (by omega)]
theorem Ar.safe (hal : Z.vm.Alike vm) (F : Ar Z h a k ty vs) (ht : ty ≠ .byte) : Safe Z EL vm h a := by obtain ⟨c, A, -⟩ := F; exact Safe.arr hal A ht
theorem Ar.ne_exa {C : String} {a0 : Array Value} {kk : Nat} (F : Ar Z h a k ty vs) (E : Exa Z h b C) (wi : (Jvm.Cond.instantiable C kk).before a0 Z = true) : b ≠ a := by obtain ⟨c, A, -⟩ := F; exact ne_arr E wi A
theorem Ar.ne_ty {ty' : FieldType} {k' : ClassId} {vs' : List Value} (F : Ar Z h a k ty vs) (G : Ar Z h b k' ty' vs') (hn : ty ≠ ty') : a ≠ b := by
  rintro rfl
  obtain ⟨c, A, -⟩ := F
  obtain ⟨c', B, -⟩ := G
  cases A.1.symm.trans B.1
  obtain ⟨-, k1, h1, c1, h2⟩ := A.2.1
  obtain ⟨-, k2, g1, c2, g2⟩ := B.2.1
  cases h1.symm.trans g1
  have q := h2.symm.trans g2
  injection q with _ e
  exact hn e
theorem St.lt (F : St Z h a b k bs) : a < h.size := F.1.lt
theorem St.ltb (F : St Z h a b k bs) : b < h.size := F.2.2.2.1.lt
theorem Fld.uniq {C n d : String} {v w : Value} (F : Fld Z h a C n d v) (G : Fld Z h a C n d w) : v = w := Classical.byContradiction fun q => Fld.ne F G q rfl
theorem Ar.uniq {k' : ClassId} {ty' : FieldType} {vs' : List Value} (F : Ar Z h a k ty vs) (G : Ar Z h a k' ty' vs') : vs = vs' := by
  obtain ⟨c, A, -, rfl⟩ := F
  obtain ⟨c', B, -, rfl⟩ := G
  cases A.1.symm.trans B.1; rfl
theorem map_int_inj {xs ys : List Int32} (q : xs.map Value.int = ys.map Value.int) : xs = ys := by
  induction xs generalizing ys with
  | nil => cases ys with | nil => rfl | cons y ys => cases q
  | cons x xs ih => cases ys with
    | nil => cases q
    | cons y ys => simp only [List.map_cons, List.cons.injEq, Value.int.injEq] at q; rw [q.1, ih q.2]
theorem St.uniq {b' : Addr} {k' : ClassId} {bs' : List Int32} (F : St Z h a b k bs) (G : St Z h a b' k' bs') : bs = bs' := by
  cases Value.ref.inj (Fld.uniq F.2.2.1 G.2.2.1)
  exact map_int_inj (Ar.uniq F.2.2.2.1 G.2.2.2.1)
theorem St.ext (F : St Z h a b k bs) (E : Ext h h') : St Z h' a b k bs := ⟨F.1.ext E, F.2.1.ext E, F.2.2.1.ext E, F.2.2.2.1.ext E, F.2.2.2.2⟩
theorem St.keep (F : St Z h a b k bs) (K : Keep h h' ws) (q : a ∉ ws) (q' : b ∉ ws) : St Z h' a b k bs := ⟨F.1.keep K, F.2.1.keep K q, F.2.2.1.keep K q, F.2.2.2.1.keep K q', F.2.2.2.2⟩
theorem St.wr (F : St Z h a b k bs) (W : Wr h h' w sl v) (q : a ≠ w) (q' : b ≠ w) : St Z h' a b k bs := F.keep (Keep.of_wr W) (by simpa using q) (by simpa using q')
theorem Keep.ofExt (E : Ext h h') : Keep h h' [] := (Keep.refl h []).ext E
theorem Keep.tr (K : Keep h0 h ws) (K' : Keep h h' ws) : Keep h0 h' ws := K.trans K' fun x hx => Or.inl hx
theorem Keep.more {ws' : List Addr} (K : Keep h h' ws) (q : ∀ x ∈ ws, x ∈ ws' ∨ h.size ≤ x) : Keep h h' ws' := (Keep.refl h ws').trans K q
theorem ltN {x : Addr} {n : Nat} (q : x < n) : n > x := q
theorem neN {x y : Addr} (q : @Eq Nat x y → False) : x ≠ y := q
theorem Safe.to (C : CHr Z EL vm h vm' h') (lt : h.size > a) (S : Safe Z EL vm h a) : Safe Z EL vm' h' a := C.safe lt S
theorem tr0 (E : Ext h h') : h.size ≤ h'.size := E.1
theorem cat1 {v : Value} (q : v.isRef = true) : v.category = 1 := by cases v <;> simp [Value.isRef] at q <;> rfl
theorem narU {v : Value} {ty : FieldType} (q : v.isRef = true) : narrow ty v = v := by cases v <;> simp [Value.isRef] at q <;> cases ty <;> rfl
theorem fitsU {v : Value} {ty : FieldType} (r : ty.isReference = true) (q : v.isRef = true) : fits ty v = true := by cases ty <;> simp [FieldType.isReference] at r <;> cases v <;> simp [Value.isRef] at q <;> rfl
theorem own_rep {α : Type} (n : Nat) (v : α) : Array.replicate n v = (List.replicate n v).toArray := rfl
theorem Wr.sz (W : Wr h h' a sl v) : h'.size = h.size := W.size
end Facts
section Walk
variable {p : Program} {l : Launch} {e : Env} {R : Room} {s : State} {m : MethodId} {args : Array Value} {below : List Frame} {meth : Method} {c : Code} {Z : State} {a0 : Array Value} {EL : List (String × Nat)} {nw : Prop} {Q : Option Value → Vm → Heap → Prop} {vm : Vm} {h : Heap} {k n pc pc' : Nat} {L : Array Slot} {st : List Value}
theorem Go.plain {pc2 : Nat} {L2 : Array Slot} {st2 : List Value} (hstep : ∀ (T : State) (locs : List Loc), p.tables.exec = Jvm.exec → Stand p l e R (s.setVm vm) m args below meth c T locs k n → ∀ target, Steps p.tables e below (T.setTop (mkF m pc2 L2 st2)) target → Steps p.tables e below (T.setTop (mkF m pc L st)) target)
    (K : Go p l e R s m args below meth c Z a0 EL nw Q vm h k n pc2 L2 st2) : Go p l e R s m args below meth c Z a0 EL nw Q vm h k n pc L st := fun T locs k0 hx hk hE X eT hS hk0 hF hZ hN hC hO => by
  obtain ⟨t, v, L', r1, r2⟩ := K T locs k0 hx hk hE X eT hS hk0 hF hZ hN hC hO
  exact ⟨t, v, L', hstep T locs hx X _ r1, r2⟩
theorem Go.mono {k' n' : Nat} (K : Go p l e R s m args below meth c Z a0 EL nw Q vm h k' n' pc L st) (hk : k ≤ k') (hn : n ≤ n') : Go p l e R s m args below meth c Z a0 EL nw Q vm h k n pc L st := fun T locs k0 hx hl hE X eT hS hk0 hF hZ hN hC hO =>
  K T locs k0 hx hl hE ⟨X.admits, X.cas, X.clock, X.frames, X.room, X.hears, X.method, X.code, X.here, X.tail, X.warmed, X.limits, X.bytes, X.same.mono hk hn⟩ eT hS hk0 hF hZ hN hC hO
theorem Go.aloadN {q : Fin 4} {v : Value} (hd : decode c.code pc = .ok (.aload_n q, 1)) (hp : pc + 1 = pc') (hl : L[q.val]? = some (.val v)) (hv : v.isRef = true) (K : Go p l e R s m args below meth c Z a0 EL nw Q vm h k n pc' L (v :: st)) : Go p l e R s m args below meth c Z a0 EL nw Q vm h k n pc L st := by
  subst hp
  exact Go.plain (fun T _ hx X _ r => XS.aloadN X.here hx rfl hd hl hv r) K
theorem Go.aload {q : Nat} {v : Value} (hd : decode c.code pc = .ok (.aload q, 2)) (hp : pc + 2 = pc') (hl : L[q]? = some (.val v)) (hv : v.isRef = true) (K : Go p l e R s m args below meth c Z a0 EL nw Q vm h k n pc' L (v :: st)) : Go p l e R s m args below meth c Z a0 EL nw Q vm h k n pc L st := by
  subst hp
  exact Go.plain (fun T _ hx X _ r => XS.aload X.here hx rfl hd hl hv r) K
theorem Go.iloadN {q : Fin 4} {z : Int32} (hd : decode c.code pc = .ok (.iload_n q, 1)) (hp : pc + 1 = pc') (hl : L[q.val]? = some (.val (.int z))) (K : Go p l e R s m args below meth c Z a0 EL nw Q vm h k n pc' L (.int z :: st)) : Go p l e R s m args below meth c Z a0 EL nw Q vm h k n pc L st := by
  subst hp
  exact Go.plain (fun T _ hx X _ r => XS.iloadN X.here hx rfl hd hl r) K
theorem Go.iload {q : Nat} {z : Int32} (hd : decode c.code pc = .ok (.iload q, 2)) (hp : pc + 2 = pc') (hl : L[q]? = some (.val (.int z))) (K : Go p l e R s m args below meth c Z a0 EL nw Q vm h k n pc' L (.int z :: st)) : Go p l e R s m args below meth c Z a0 EL nw Q vm h k n pc L st := by
  subst hp
  exact Go.plain (fun T _ hx X _ r => XS.iload X.here hx rfl hd hl r) K
theorem Go.lloadN {q : Fin 4} {z : Int64} (hd : decode c.code pc = .ok (.lload_n q, 1)) (hp : pc + 1 = pc') (hl : L[q.val]? = some (.val (.long z))) (K : Go p l e R s m args below meth c Z a0 EL nw Q vm h k n pc' L (.long z :: st)) : Go p l e R s m args below meth c Z a0 EL nw Q vm h k n pc L st := by
  subst hp
  exact Go.plain (fun T _ hx X _ r => XT.lloadN X.here hx rfl hd hl r) K
theorem Go.lload {q : Nat} {z : Int64} (hd : decode c.code pc = .ok (.lload q, 2)) (hp : pc + 2 = pc') (hl : L[q]? = some (.val (.long z))) (K : Go p l e R s m args below meth c Z a0 EL nw Q vm h k n pc' L (.long z :: st)) : Go p l e R s m args below meth c Z a0 EL nw Q vm h k n pc L st := by
  subst hp
  exact Go.plain (fun T _ hx X _ r => XT.lload X.here hx rfl hd hl r) K
theorem Go.iconst {i : Int} {z : Int32} (hd : decode c.code pc = .ok (.iconst i, 1)) (hp : pc + 1 = pc') (hz : Int32.ofInt i = z) (K : Go p l e R s m args below meth c Z a0 EL nw Q vm h k n pc' L (.int z :: st)) : Go p l e R s m args below meth c Z a0 EL nw Q vm h k n pc L st := by
  subst hp
  exact Go.plain (fun T _ hx X _ r => XS.iconst X.here hx rfl hd (by rw [hz]; exact r)) K
theorem Go.bipush {i : Int} {z : Int32} (hd : decode c.code pc = .ok (.bipush i, 2)) (hp : pc + 2 = pc') (hz : (Int8.ofInt i).toInt32 = z) (K : Go p l e R s m args below meth c Z a0 EL nw Q vm h k n pc' L (.int z :: st)) : Go p l e R s m args below meth c Z a0 EL nw Q vm h k n pc L st := by
  subst hp
  exact Go.plain (fun T _ hx X _ r => XS.bipush X.here hx rfl hd (by rw [hz]; exact r)) K
theorem Go.sipush {i : Int} {z : Int32} (hd : decode c.code pc = .ok (.sipush i, 3)) (hp : pc + 3 = pc') (hz : (Int16.ofInt i).toInt32 = z) (K : Go p l e R s m args below meth c Z a0 EL nw Q vm h k n pc' L (.int z :: st)) : Go p l e R s m args below meth c Z a0 EL nw Q vm h k n pc L st := by
  subst hp
  exact Go.plain (fun T _ hx X _ r => XS.sipush X.here hx rfl hd (by rw [hz]; exact r)) K
theorem Go.lconst {q : Fin 2} (hd : decode c.code pc = .ok (.lconst q, 1)) (hp : pc + 1 = pc') (K : Go p l e R s m args below meth c Z a0 EL nw Q vm h k n pc' L (.long (Int64.ofNat q) :: st)) : Go p l e R s m args below meth c Z a0 EL nw Q vm h k n pc L st := by
  subst hp
  exact Go.plain (fun T _ hx X _ r => XT.lconst X.here hx rfl hd r) K
theorem Go.aconstNull (hd : decode c.code pc = .ok (.aconst_null, 1)) (hp : pc + 1 = pc') (K : Go p l e R s m args below meth c Z a0 EL nw Q vm h k n pc' L (.null :: st)) : Go p l e R s m args below meth c Z a0 EL nw Q vm h k n pc L st := by
  subst hp
  exact Go.plain (fun T _ hx X _ r => XS.aconstNull X.here hx rfl hd r) K
theorem Go.iadd {x y : Int32} (hd : decode c.code pc = .ok (.iadd, 1)) (hp : pc + 1 = pc') (K : Go p l e R s m args below meth c Z a0 EL nw Q vm h k n pc' L (.int (x + y) :: st)) : Go p l e R s m args below meth c Z a0 EL nw Q vm h k n pc L (.int y :: .int x :: st) := by
  subst hp
  exact Go.plain (fun T _ hx X _ r => XS.iadd X.here hx rfl hd rfl r) K
theorem Go.isub {x y : Int32} (hd : decode c.code pc = .ok (.isub, 1)) (hp : pc + 1 = pc') (K : Go p l e R s m args below meth c Z a0 EL nw Q vm h k n pc' L (.int (x - y) :: st)) : Go p l e R s m args below meth c Z a0 EL nw Q vm h k n pc L (.int y :: .int x :: st) := by
  subst hp
  exact Go.plain (fun T _ hx X _ r => XS.isub X.here hx rfl hd rfl r) K
theorem Go.iand {x y : Int32} (hd : decode c.code pc = .ok (.iand, 1)) (hp : pc + 1 = pc') (K : Go p l e R s m args below meth c Z a0 EL nw Q vm h k n pc' L (.int (x &&& y) :: st)) : Go p l e R s m args below meth c Z a0 EL nw Q vm h k n pc L (.int y :: .int x :: st) := by
  subst hp
  exact Go.plain (fun T _ hx X _ r => XS.iand X.here hx rfl hd rfl r) K
theorem Go.imul {x y : Int32} (hd : decode c.code pc = .ok (.imul, 1)) (hp : pc + 1 = pc') (K : Go p l e R s m args below meth c Z a0 EL nw Q vm h k n pc' L (.int (x * y) :: st)) : Go p l e R s m args below meth c Z a0 EL nw Q vm h k n pc L (.int y :: .int x :: st) := by
  subst hp
  exact Go.plain (fun T _ hx X _ r => XS.imul X.here hx rfl hd rfl r) K
theorem Go.ineg {x : Int32} (hd : decode c.code pc = .ok (.ineg, 1)) (hp : pc + 1 = pc') (K : Go p l e R s m args below meth c Z a0 EL nw Q vm h k n pc' L (.int (-x) :: st)) : Go p l e R s m args below meth c Z a0 EL nw Q vm h k n pc L (.int x :: st) := by
  subst hp
  exact Go.plain (fun T _ hx X _ r => XS.ineg X.here hx rfl hd rfl r) K
theorem Go.idiv {x y : Int32} (hd : decode c.code pc = .ok (.idiv, 1)) (hp : pc + 1 = pc') (hy : y ≠ 0) (K : Go p l e R s m args below meth c Z a0 EL nw Q vm h k n pc' L (.int (x / y) :: st)) : Go p l e R s m args below meth c Z a0 EL nw Q vm h k n pc L (.int y :: .int x :: st) := by
  subst hp
  exact Go.plain (fun T _ hx X _ r => XS.idiv X.here hx rfl hd rfl hy r) K
theorem Go.ixor {x y : Int32} (hd : decode c.code pc = .ok (.ixor, 1)) (hp : pc + 1 = pc') (K : Go p l e R s m args below meth c Z a0 EL nw Q vm h k n pc' L (.int (x ^^^ y) :: st)) : Go p l e R s m args below meth c Z a0 EL nw Q vm h k n pc L (.int y :: .int x :: st) := by
  subst hp
  exact Go.plain (fun T _ hx X _ r => XT.ixor X.here hx rfl hd rfl r) K
theorem Go.ior {x y : Int32} (hd : decode c.code pc = .ok (.ior, 1)) (hp : pc + 1 = pc') (K : Go p l e R s m args below meth c Z a0 EL nw Q vm h k n pc' L (.int (x ||| y) :: st)) : Go p l e R s m args below meth c Z a0 EL nw Q vm h k n pc L (.int y :: .int x :: st) := by
  subst hp
  exact Go.plain (fun T _ hx X _ r => XT.ior X.here hx rfl hd rfl r) K
theorem Go.ishl {x y : Int32} (hd : decode c.code pc = .ok (.ishl, 1)) (hp : pc + 1 = pc') (K : Go p l e R s m args below meth c Z a0 EL nw Q vm h k n pc' L (.int (x <<< (y &&& 31)) :: st)) : Go p l e R s m args below meth c Z a0 EL nw Q vm h k n pc L (.int y :: .int x :: st) := by
  subst hp
  exact Go.plain (fun T _ hx X _ r => XT.ishl X.here hx rfl hd rfl r) K
theorem Go.ishr {x y : Int32} (hd : decode c.code pc = .ok (.ishr, 1)) (hp : pc + 1 = pc') (K : Go p l e R s m args below meth c Z a0 EL nw Q vm h k n pc' L (.int (x >>> (y &&& 31)) :: st)) : Go p l e R s m args below meth c Z a0 EL nw Q vm h k n pc L (.int y :: .int x :: st) := by
  subst hp
  exact Go.plain (fun T _ hx X _ r => XT.ishr X.here hx rfl hd rfl r) K
theorem Go.iushr {x y : Int32} (hd : decode c.code pc = .ok (.iushr, 1)) (hp : pc + 1 = pc') (K : Go p l e R s m args below meth c Z a0 EL nw Q vm h k n pc' L (.int (XT.ushr x y) :: st)) : Go p l e R s m args below meth c Z a0 EL nw Q vm h k n pc L (.int y :: .int x :: st) := by
  subst hp
  exact Go.plain (fun T _ hx X _ r => XT.iushr X.here hx rfl hd rfl r) K
theorem Go.ladd {x y : Int64} (hd : decode c.code pc = .ok (.ladd, 1)) (hp : pc + 1 = pc') (K : Go p l e R s m args below meth c Z a0 EL nw Q vm h k n pc' L (.long (x + y) :: st)) : Go p l e R s m args below meth c Z a0 EL nw Q vm h k n pc L (.long y :: .long x :: st) := by
  subst hp
  exact Go.plain (fun T _ hx X _ r => XT.ladd X.here hx rfl hd rfl r) K
theorem Go.lsub {x y : Int64} (hd : decode c.code pc = .ok (.lsub, 1)) (hp : pc + 1 = pc') (K : Go p l e R s m args below meth c Z a0 EL nw Q vm h k n pc' L (.long (x - y) :: st)) : Go p l e R s m args below meth c Z a0 EL nw Q vm h k n pc L (.long y :: .long x :: st) := by
  subst hp
  exact Go.plain (fun T _ hx X _ r => XT.lsub X.here hx rfl hd rfl r) K
theorem Go.lmul {x y : Int64} (hd : decode c.code pc = .ok (.lmul, 1)) (hp : pc + 1 = pc') (K : Go p l e R s m args below meth c Z a0 EL nw Q vm h k n pc' L (.long (x * y) :: st)) : Go p l e R s m args below meth c Z a0 EL nw Q vm h k n pc L (.long y :: .long x :: st) := by
  subst hp
  exact Go.plain (fun T _ hx X _ r => XT.lmul X.here hx rfl hd rfl r) K
theorem Go.land {x y : Int64} (hd : decode c.code pc = .ok (.land, 1)) (hp : pc + 1 = pc') (K : Go p l e R s m args below meth c Z a0 EL nw Q vm h k n pc' L (.long (x &&& y) :: st)) : Go p l e R s m args below meth c Z a0 EL nw Q vm h k n pc L (.long y :: .long x :: st) := by
  subst hp
  exact Go.plain (fun T _ hx X _ r => XT.land X.here hx rfl hd rfl r) K
theorem Go.lor {x y : Int64} (hd : decode c.code pc = .ok (.lor, 1)) (hp : pc + 1 = pc') (K : Go p l e R s m args below meth c Z a0 EL nw Q vm h k n pc' L (.long (x ||| y) :: st)) : Go p l e R s m args below meth c Z a0 EL nw Q vm h k n pc L (.long y :: .long x :: st) := by
  subst hp
  exact Go.plain (fun T _ hx X _ r => XT.lor X.here hx rfl hd rfl r) K
theorem Go.lxor {x y : Int64} (hd : decode c.code pc = .ok (.lxor, 1)) (hp : pc + 1 = pc') (K : Go p l e R s m args below meth c Z a0 EL nw Q vm h k n pc' L (.long (x ^^^ y) :: st)) : Go p l e R s m args below meth c Z a0 EL nw Q vm h k n pc L (.long y :: .long x :: st) := by
  subst hp
  exact Go.plain (fun T _ hx X _ r => XT.lxor X.here hx rfl hd rfl r) K
theorem Go.lshl {x : Int64} {y : Int32} (hd : decode c.code pc = .ok (.lshl, 1)) (hp : pc + 1 = pc') (K : Go p l e R s m args below meth c Z a0 EL nw Q vm h k n pc' L (.long (x <<< (y.toInt64 &&& 63)) :: st)) : Go p l e R s m args below meth c Z a0 EL nw Q vm h k n pc L (.int y :: .long x :: st) := by
  subst hp
  exact Go.plain (fun T _ hx X _ r => XT.lshl X.here hx rfl hd rfl r) K
theorem Go.lshr {x : Int64} {y : Int32} (hd : decode c.code pc = .ok (.lshr, 1)) (hp : pc + 1 = pc') (K : Go p l e R s m args below meth c Z a0 EL nw Q vm h k n pc' L (.long (x >>> (y.toInt64 &&& 63)) :: st)) : Go p l e R s m args below meth c Z a0 EL nw Q vm h k n pc L (.int y :: .long x :: st) := by
  subst hp
  exact Go.plain (fun T _ hx X _ r => XT.lshr X.here hx rfl hd rfl r) K
theorem Go.lushr {x : Int64} {y : Int32} (hd : decode c.code pc = .ok (.lushr, 1)) (hp : pc + 1 = pc') (K : Go p l e R s m args below meth c Z a0 EL nw Q vm h k n pc' L (.long (XT.ushrL x y) :: st)) : Go p l e R s m args below meth c Z a0 EL nw Q vm h k n pc L (.int y :: .long x :: st) := by
  subst hp
  exact Go.plain (fun T _ hx X _ r => XT.lushr X.here hx rfl hd rfl r) K
theorem Go.ldiv {x y : Int64} (hd : decode c.code pc = .ok (.ldiv, 1)) (hp : pc + 1 = pc') (hy : y ≠ 0) (K : Go p l e R s m args below meth c Z a0 EL nw Q vm h k n pc' L (.long (x / y) :: st)) : Go p l e R s m args below meth c Z a0 EL nw Q vm h k n pc L (.long y :: .long x :: st) := by
  subst hp
  exact Go.plain (fun T _ hx X _ r => XT.ldiv X.here hx rfl hd rfl hy r) K
theorem Go.lrem {x y : Int64} (hd : decode c.code pc = .ok (.lrem, 1)) (hp : pc + 1 = pc') (hy : y ≠ 0) (K : Go p l e R s m args below meth c Z a0 EL nw Q vm h k n pc' L (.long (x - (x / y) * y) :: st)) : Go p l e R s m args below meth c Z a0 EL nw Q vm h k n pc L (.long y :: .long x :: st) := by
  subst hp
  exact Go.plain (fun T _ hx X _ r => XT.lrem X.here hx rfl hd rfl hy r) K
theorem Go.lneg {x : Int64} (hd : decode c.code pc = .ok (.lneg, 1)) (hp : pc + 1 = pc') (K : Go p l e R s m args below meth c Z a0 EL nw Q vm h k n pc' L (.long (-x) :: st)) : Go p l e R s m args below meth c Z a0 EL nw Q vm h k n pc L (.long x :: st) := by
  subst hp
  exact Go.plain (fun T _ hx X _ r => XT.lneg X.here hx rfl hd rfl r) K
theorem Go.i2l {x : Int32} (hd : decode c.code pc = .ok (.i2l, 1)) (hp : pc + 1 = pc') (K : Go p l e R s m args below meth c Z a0 EL nw Q vm h k n pc' L (.long x.toInt64 :: st)) : Go p l e R s m args below meth c Z a0 EL nw Q vm h k n pc L (.int x :: st) := by
  subst hp
  exact Go.plain (fun T _ hx X _ r => XT.i2l X.here hx rfl hd rfl r) K
theorem Go.l2i {x : Int64} (hd : decode c.code pc = .ok (.l2i, 1)) (hp : pc + 1 = pc') (K : Go p l e R s m args below meth c Z a0 EL nw Q vm h k n pc' L (.int x.toInt32 :: st)) : Go p l e R s m args below meth c Z a0 EL nw Q vm h k n pc L (.long x :: st) := by
  subst hp
  exact Go.plain (fun T _ hx X _ r => XT.l2i X.here hx rfl hd rfl r) K
theorem Go.i2b {x : Int32} (hd : decode c.code pc = .ok (.i2b, 1)) (hp : pc + 1 = pc') (K : Go p l e R s m args below meth c Z a0 EL nw Q vm h k n pc' L (.int x.toInt8.toInt32 :: st)) : Go p l e R s m args below meth c Z a0 EL nw Q vm h k n pc L (.int x :: st) := by
  subst hp
  exact Go.plain (fun T _ hx X _ r => XT.i2b X.here hx rfl hd rfl r) K
theorem Go.i2c {x : Int32} (hd : decode c.code pc = .ok (.i2c, 1)) (hp : pc + 1 = pc') (K : Go p l e R s m args below meth c Z a0 EL nw Q vm h k n pc' L (.int (nar .char x) :: st)) : Go p l e R s m args below meth c Z a0 EL nw Q vm h k n pc L (.int x :: st) := by
  subst hp
  exact Go.plain (fun T _ hx X _ r => XT.i2c X.here hx rfl hd rfl r) K
theorem Go.i2s {x : Int32} (hd : decode c.code pc = .ok (.i2s, 1)) (hp : pc + 1 = pc') (K : Go p l e R s m args below meth c Z a0 EL nw Q vm h k n pc' L (.int x.toInt16.toInt32 :: st)) : Go p l e R s m args below meth c Z a0 EL nw Q vm h k n pc L (.int x :: st) := by
  subst hp
  exact Go.plain (fun T _ hx X _ r => XT.i2s X.here hx rfl hd rfl r) K
theorem Go.lcmp {x y : Int64} (hd : decode c.code pc = .ok (.lcmp, 1)) (hp : pc + 1 = pc') (K : Go p l e R s m args below meth c Z a0 EL nw Q vm h k n pc' L (.int (XT.cmpL x y) :: st)) : Go p l e R s m args below meth c Z a0 EL nw Q vm h k n pc L (.long y :: .long x :: st) := by
  subst hp
  exact Go.plain (fun T _ hx X _ r => XT.lcmp X.here hx rfl hd rfl r) K
theorem Go.dup {v : Value} (hd : decode c.code pc = .ok (.dup, 1)) (hp : pc + 1 = pc') (hc : v.category = 1) (K : Go p l e R s m args below meth c Z a0 EL nw Q vm h k n pc' L (v :: v :: st)) : Go p l e R s m args below meth c Z a0 EL nw Q vm h k n pc L (v :: st) := by
  subst hp
  exact Go.plain (fun T _ hx X _ r => XS.dup X.here hx rfl hd rfl hc r) K
theorem Go.pop {v : Value} (hd : decode c.code pc = .ok (.pop, 1)) (hp : pc + 1 = pc') (hc : v.category = 1) (K : Go p l e R s m args below meth c Z a0 EL nw Q vm h k n pc' L st) : Go p l e R s m args below meth c Z a0 EL nw Q vm h k n pc L (v :: st) := by
  subst hp
  exact Go.plain (fun T _ hx X _ r => XT.pop X.here hx rfl hd rfl hc r) K
theorem Go.dupX1 {v w : Value} (hd : decode c.code pc = .ok (.dup_x1, 1)) (hp : pc + 1 = pc') (hc : v.category = 1) (hc' : w.category = 1) (K : Go p l e R s m args below meth c Z a0 EL nw Q vm h k n pc' L (v :: w :: v :: st)) : Go p l e R s m args below meth c Z a0 EL nw Q vm h k n pc L (v :: w :: st) := by
  subst hp
  exact Go.plain (fun T _ hx X _ r => XT.dupX1 X.here hx rfl hd rfl hc hc' r) K
theorem Go.dup2 {v w : Value} (hd : decode c.code pc = .ok (.dup2, 1)) (hp : pc + 1 = pc') (hc : v.category = 1) (hc' : w.category = 1) (K : Go p l e R s m args below meth c Z a0 EL nw Q vm h k n pc' L (v :: w :: v :: w :: st)) : Go p l e R s m args below meth c Z a0 EL nw Q vm h k n pc L (v :: w :: st) := by
  subst hp
  exact Go.plain (fun T _ hx X _ r => XT.dup2 X.here hx rfl hd rfl hc hc' r) K
theorem Go.istoreN {q : Fin 4} {z : Int32} {L' : Array Slot} (hd : decode c.code pc = .ok (.istore_n q, 1)) (hp : pc + 1 = pc') (hl : storeLocals L q.val (.int z) = some L') (K : Go p l e R s m args below meth c Z a0 EL nw Q vm h k n pc' L' st) : Go p l e R s m args below meth c Z a0 EL nw Q vm h k n pc L (.int z :: st) := by
  subst hp
  exact Go.plain (fun T _ hx X _ r => XS.istoreN X.here hx rfl hd rfl hl r) K
theorem Go.istore {q : Nat} {z : Int32} {L' : Array Slot} (hd : decode c.code pc = .ok (.istore q, 2)) (hp : pc + 2 = pc') (hl : storeLocals L q (.int z) = some L') (K : Go p l e R s m args below meth c Z a0 EL nw Q vm h k n pc' L' st) : Go p l e R s m args below meth c Z a0 EL nw Q vm h k n pc L (.int z :: st) := by
  subst hp
  exact Go.plain (fun T _ hx X _ r => XS.istore X.here hx rfl hd rfl hl r) K
theorem Go.lstoreN {q : Fin 4} {z : Int64} {L' : Array Slot} (hd : decode c.code pc = .ok (.lstore_n q, 1)) (hp : pc + 1 = pc') (hl : storeLocals L q.val (.long z) = some L') (K : Go p l e R s m args below meth c Z a0 EL nw Q vm h k n pc' L' st) : Go p l e R s m args below meth c Z a0 EL nw Q vm h k n pc L (.long z :: st) := by
  subst hp
  exact Go.plain (fun T _ hx X _ r => XT.lstoreN X.here hx rfl hd rfl hl r) K
theorem Go.lstore {q : Nat} {z : Int64} {L' : Array Slot} (hd : decode c.code pc = .ok (.lstore q, 2)) (hp : pc + 2 = pc') (hl : storeLocals L q (.long z) = some L') (K : Go p l e R s m args below meth c Z a0 EL nw Q vm h k n pc' L' st) : Go p l e R s m args below meth c Z a0 EL nw Q vm h k n pc L (.long z :: st) := by
  subst hp
  exact Go.plain (fun T _ hx X _ r => XT.lstore X.here hx rfl hd rfl hl r) K
theorem Go.astoreN {q : Fin 4} {v : Value} {L' : Array Slot} (hd : decode c.code pc = .ok (.astore_n q, 1)) (hp : pc + 1 = pc') (hv : v.isRef = true) (hl : storeLocals L q.val v = some L') (K : Go p l e R s m args below meth c Z a0 EL nw Q vm h k n pc' L' st) : Go p l e R s m args below meth c Z a0 EL nw Q vm h k n pc L (v :: st) := by
  subst hp
  exact Go.plain (fun T _ hx X _ r => XS.astoreN X.here hx rfl hd rfl hv hl r) K
theorem Go.astore {q : Nat} {v : Value} {L' : Array Slot} (hd : decode c.code pc = .ok (.astore q, 2)) (hp : pc + 2 = pc') (hv : v.isRef = true) (hl : storeLocals L q v = some L') (K : Go p l e R s m args below meth c Z a0 EL nw Q vm h k n pc' L' st) : Go p l e R s m args below meth c Z a0 EL nw Q vm h k n pc L (v :: st) := by
  subst hp
  exact Go.plain (fun T _ hx X _ r => XS.astore X.here hx rfl hd rfl hv hl r) K
theorem Go.iinc {q : Nat} {i : Int} {x : Int32} {L' : Array Slot} (hd : decode c.code pc = .ok (.iinc q i, 3)) (hp : pc + 3 = pc') (hl : L[q]? = some (.val (.int x))) (hl' : storeLocals L q (.int (x + Int32.ofInt i)) = some L') (K : Go p l e R s m args below meth c Z a0 EL nw Q vm h k n pc' L' st) : Go p l e R s m args below meth c Z a0 EL nw Q vm h k n pc L st := by
  subst hp
  exact Go.plain (fun T _ hx X _ r => XS.iinc X.here hx rfl hd hl hl' r) K
theorem Go.irem {x y : Int32} (hd : decode c.code pc = .ok (.irem, 1)) (hp : pc + 1 = pc') (hy : y ≠ 0) (K : Go p l e R s m args below meth c Z a0 EL nw Q vm h k n pc' L (.int (x % y) :: st)) : Go p l e R s m args below meth c Z a0 EL nw Q vm h k n pc L (.int y :: .int x :: st) := by
  subst hp
  exact Go.plain (fun T _ hx X _ r => iremM X hx (g := mkF m pc L (.int y :: .int x :: st)) rfl hd rfl hy r) K
theorem Go.goto {o : Int} (hd : decode c.code pc = .ok (.goto o, 3)) (ho : 0 ≤ (pc : Int) + o) (hp : ((pc : Int) + o).toNat = pc') (K : Go p l e R s m args below meth c Z a0 EL nw Q vm h k n pc' L st) : Go p l e R s m args below meth c Z a0 EL nw Q vm h k n pc L st :=
  Go.plain (fun T _ hx X _ r => XS.goto X.here hx rfl rfl hd ho hp r) K
/-- what a comparison of ints asks -/
def cP : ClassFile.Cond → Int32 → Int32 → Prop
  | .eq, x, y => x = y
  | .ne, x, y => ¬ x = y
  | .lt, x, y => x < y
  | .ge, x, y => ¬ x < y
  | .gt, x, y => y < x
  | .le, x, y => ¬ y < x
theorem cP_t {cd : ClassFile.Cond} {x y : Int32} (q : cP cd x y) : if_icmp.holds cd x y = true := by
  cases cd
  · exact (teq q).1
  · exact (feq q).2
  · exact (tlt q).1
  · exact (flt q).2.1
  · exact (tlt q).2.2.1
  · exact (flt q).2.2.2
theorem cP_f {cd : ClassFile.Cond} {x y : Int32} (q : ¬ cP cd x y) : if_icmp.holds cd x y = false := by
  cases cd
  · exact (feq q).1
  · exact (teq (Classical.not_not.mp q)).2
  · exact (flt q).1
  · exact (tlt (Classical.not_not.mp q)).2.1
  · exact (flt q).2.2.1
  · exact (tlt (Classical.not_not.mp q)).2.2.2
theorem Go.icmp {cd : ClassFile.Cond} {x y : Int32} {o : Int} {pc2 : Nat} (hd : decode c.code pc = .ok (.if_icmp cd o, 3)) (ho : 0 ≤ (pc : Int) + o) (hp : ((pc : Int) + o).toNat = pc') (hp2 : pc + 3 = pc2) (Kt : cP cd x y → Go p l e R s m args below meth c Z a0 EL nw Q vm h k n pc' L st) (Kf : ¬ cP cd x y → Go p l e R s m args below meth c Z a0 EL nw Q vm h k n pc2 L st) : Go p l e R s m args below meth c Z a0 EL nw Q vm h k n pc L (.int y :: .int x :: st) := by
  subst hp2
  by_cases q : cP cd x y
  · exact Go.plain (fun T _ hx X _ r => XS.icmpYes X.here hx rfl rfl hd rfl (cP_t q) ho hp r) (Kt q)
  · exact Go.plain (fun T _ hx X _ r => XS.icmpNo X.here hx rfl hd rfl (cP_f q) r) (Kf q)
theorem Go.icmpY {cd : ClassFile.Cond} {x y : Int32} {o : Int} (hd : decode c.code pc = .ok (.if_icmp cd o, 3)) (ho : 0 ≤ (pc : Int) + o) (hp : ((pc : Int) + o).toNat = pc') (q : cP cd x y) (K : Go p l e R s m args below meth c Z a0 EL nw Q vm h k n pc' L st) : Go p l e R s m args below meth c Z a0 EL nw Q vm h k n pc L (.int y :: .int x :: st) :=
  Go.plain (fun T _ hx X _ r => XS.icmpYes X.here hx rfl rfl hd rfl (cP_t q) ho hp r) K
theorem Go.icmpN {cd : ClassFile.Cond} {x y : Int32} {o : Int} (hd : decode c.code pc = .ok (.if_icmp cd o, 3)) (hp : pc + 3 = pc') (q : ¬ cP cd x y) (K : Go p l e R s m args below meth c Z a0 EL nw Q vm h k n pc' L st) : Go p l e R s m args below meth c Z a0 EL nw Q vm h k n pc L (.int y :: .int x :: st) := by
  subst hp
  exact Go.plain (fun T _ hx X _ r => XS.icmpNo X.here hx rfl hd rfl (cP_f q) r) K
theorem Go.ifc {cd : ClassFile.Cond} {x : Int32} {o : Int} {pc2 : Nat} (hd : decode c.code pc = .ok (.ifCond cd o, 3)) (ho : 0 ≤ (pc : Int) + o) (hp : ((pc : Int) + o).toNat = pc') (hp2 : pc + 3 = pc2) (Kt : cP cd x 0 → Go p l e R s m args below meth c Z a0 EL nw Q vm h k n pc' L st) (Kf : ¬ cP cd x 0 → Go p l e R s m args below meth c Z a0 EL nw Q vm h k n pc2 L st) : Go p l e R s m args below meth c Z a0 EL nw Q vm h k n pc L (.int x :: st) := by
  subst hp2
  by_cases q : cP cd x 0
  · exact Go.plain (fun T _ hx X _ r => XS.ifYes X.here hx rfl rfl hd rfl ((if0 cd x).trans (cP_t q)) ho hp r) (Kt q)
  · exact Go.plain (fun T _ hx X _ r => XS.ifNo X.here hx rfl hd rfl ((if0 cd x).trans (cP_f q)) r) (Kf q)
theorem Go.ifY {cd : ClassFile.Cond} {x : Int32} {o : Int} (hd : decode c.code pc = .ok (.ifCond cd o, 3)) (ho : 0 ≤ (pc : Int) + o) (hp : ((pc : Int) + o).toNat = pc') (q : cP cd x 0) (K : Go p l e R s m args below meth c Z a0 EL nw Q vm h k n pc' L st) : Go p l e R s m args below meth c Z a0 EL nw Q vm h k n pc L (.int x :: st) :=
  Go.plain (fun T _ hx X _ r => XS.ifYes X.here hx rfl rfl hd rfl ((if0 cd x).trans (cP_t q)) ho hp r) K
theorem Go.ifN {cd : ClassFile.Cond} {x : Int32} {o : Int} (hd : decode c.code pc = .ok (.ifCond cd o, 3)) (hp : pc + 3 = pc') (q : ¬ cP cd x 0) (K : Go p l e R s m args below meth c Z a0 EL nw Q vm h k n pc' L st) : Go p l e R s m args below meth c Z a0 EL nw Q vm h k n pc L (.int x :: st) := by
  subst hp
  exact Go.plain (fun T _ hx X _ r => XS.ifNo X.here hx rfl hd rfl ((if0 cd x).trans (cP_f q)) r) K
theorem Go.ifnullY {o : Int} (hd : decode c.code pc = .ok (.ifnull o, 3)) (ho : 0 ≤ (pc : Int) + o) (hp : ((pc : Int) + o).toNat = pc') (K : Go p l e R s m args below meth c Z a0 EL nw Q vm h k n pc' L st) : Go p l e R s m args below meth c Z a0 EL nw Q vm h k n pc L (.null :: st) :=
  Go.plain (fun T _ hx X _ r => XS.ifnullYes X.here hx rfl rfl hd rfl ho hp r) K
theorem Go.ifnullN {o : Int} {b : Addr} (hd : decode c.code pc = .ok (.ifnull o, 3)) (hp : pc + 3 = pc') (K : Go p l e R s m args below meth c Z a0 EL nw Q vm h k n pc' L st) : Go p l e R s m args below meth c Z a0 EL nw Q vm h k n pc L (.ref b :: st) := by
  subst hp
  exact Go.plain (fun T _ hx X _ r => XS.ifnullNo X.here hx rfl hd rfl r) K
theorem Go.ifnonnullY {o : Int} {b : Addr} (hd : decode c.code pc = .ok (.ifnonnull o, 3)) (ho : 0 ≤ (pc : Int) + o) (hp : ((pc : Int) + o).toNat = pc') (K : Go p l e R s m args below meth c Z a0 EL nw Q vm h k n pc' L st) : Go p l e R s m args below meth c Z a0 EL nw Q vm h k n pc L (.ref b :: st) :=
  Go.plain (fun T _ hx X _ r => XT.ifnonnullYes X.here hx rfl rfl hd rfl ho hp r) K
theorem Go.ifnonnullN {o : Int} (hd : decode c.code pc = .ok (.ifnonnull o, 3)) (hp : pc + 3 = pc') (K : Go p l e R s m args below meth c Z a0 EL nw Q vm h k n pc' L st) : Go p l e R s m args below meth c Z a0 EL nw Q vm h k n pc L (.null :: st) := by
  subst hp
  exact Go.plain (fun T _ hx X _ r => XT.ifnonnullNo X.here hx rfl hd rfl r) K
theorem Go.acmpY {cd : ClassFile.ACond} {x y : Value} {o : Int} (hd : decode c.code pc = .ok (.if_acmp cd o, 3)) (ho : 0 ≤ (pc : Int) + o) (hp : ((pc : Int) + o).toNat = pc') (h1 : x.isRef = true) (h2 : y.isRef = true) (q : XT.acmp cd x y = true) (K : Go p l e R s m args below meth c Z a0 EL nw Q vm h k n pc' L st) : Go p l e R s m args below meth c Z a0 EL nw Q vm h k n pc L (y :: x :: st) :=
  Go.plain (fun T _ hx X _ r => XT.acmpYes X.here hx rfl rfl hd rfl h1 h2 q ho hp r) K
theorem Go.acmpN {cd : ClassFile.ACond} {x y : Value} {o : Int} (hd : decode c.code pc = .ok (.if_acmp cd o, 3)) (hp : pc + 3 = pc') (h1 : x.isRef = true) (h2 : y.isRef = true) (q : XT.acmp cd x y = false) (K : Go p l e R s m args below meth c Z a0 EL nw Q vm h k n pc' L st) : Go p l e R s m args below meth c Z a0 EL nw Q vm h k n pc L (y :: x :: st) := by
  subst hp
  exact Go.plain (fun T _ hx X _ r => XT.acmpNo X.here hx rfl hd rfl h1 h2 q r) K
theorem Go.getF {own R0 O nm d : String} {index : Nat} {a : Addr} {v : Value} (hown : Z.vm.findClass own = some m.cls) (w : (Jvm.Cond.fieldLink own index R0 nm d).before a0 Z = true) (via : Via Z R0 O nm d) (F : Fld Z h a O nm d v) (hd : decode c.code pc = .ok (.getfield index, 3)) (hp : pc + 3 = pc') (K : Go p l e R s m args below meth c Z a0 EL nw Q vm h k n pc' L (v :: st)) : Go p l e R s m args below meth c Z a0 EL nw Q vm h k n pc L (.ref a :: st) := fun T locs k0 hx hk hE X eT hS hk0 hF hZ hN hC hO => by
  subst hp
  have hown' : (s.setVm vm).vm.findClass own = some m.cls := by
    show vm.findClass own = _
    rw [hZ.alike.findClass]; exact hown
  obtain ⟨T', X', e', st'⟩ := RoadKit.getF X hx (s := s.setVm vm) hZ hown' (host := "") (Or.inl w) via eT F (g := mkF m pc L (.ref a :: st)) rfl rfl hd
  obtain ⟨t, v, L', r1, r2⟩ := K T' locs k0 hx hk hE X' e' hS hk0 hF hZ hN hC hO
  exact ⟨t, v, L', st' _ r1, r2⟩
theorem Go.getFN {own R0 O nm d host : String} {index : Nat} {a : Addr} {v : Value} (hown : Z.vm.findClass own = some m.cls) (w : (Jvm.Cond.fieldLinkNest own index R0 nm d host).before a0 Z = true) (via : Via Z R0 O nm d) (F : Fld Z h a O nm d v) (hd : decode c.code pc = .ok (.getfield index, 3)) (hp : pc + 3 = pc') (K : Go p l e R s m args below meth c Z a0 EL nw Q vm h k n pc' L (v :: st)) : Go p l e R s m args below meth c Z a0 EL nw Q vm h k n pc L (.ref a :: st) := fun T locs k0 hx hk hE X eT hS hk0 hF hZ hN hC hO => by
  subst hp
  have hown' : (s.setVm vm).vm.findClass own = some m.cls := by
    show vm.findClass own = _
    rw [hZ.alike.findClass]; exact hown
  obtain ⟨T', X', e', st'⟩ := RoadKit.getF X hx (s := s.setVm vm) hZ hown' (Or.inr w) via eT F (g := mkF m pc L (.ref a :: st)) rfl rfl hd
  obtain ⟨t, v, L', r1, r2⟩ := K T' locs k0 hx hk hE X' e' hS hk0 hF hZ hN hC hO
  exact ⟨t, v, L', st' _ r1, r2⟩
theorem Go.getS {own R0 O nm d : String} {index : Nat} {v : Value} (hown : Z.vm.findClass own = some m.cls) (w : (Jvm.Cond.fieldLink own index R0 nm d).before a0 Z = true) (via : Via Z R0 O nm d) (F : Sta Z Z.heap O nm d v) (hd : decode c.code pc = .ok (.getstatic index, 3)) (hp : pc + 3 = pc') (K : Go p l e R s m args below meth c Z a0 EL nw Q vm h k n pc' L (v :: st)) : Go p l e R s m args below meth c Z a0 EL nw Q vm h k n pc L st := fun T locs k0 hx hk hE X eT hS hk0 hF hZ hN hC hO => by
  subst hp
  have hown' : (s.setVm vm).vm.findClass own = some m.cls := by
    show vm.findClass own = _
    rw [hZ.alike.findClass]; exact hown
  obtain ⟨T', X', e', st'⟩ := RoadKit.getS X hx (s := s.setVm vm) hZ (host := "") hown' w via eT (F.ext hO) (g := mkF m pc L st) rfl hd
  obtain ⟨t, v, L', r1, r2⟩ := K T' locs k0 hx hk hE X' e' hS hk0 hF hZ hN hC hO
  exact ⟨t, v, L', st' _ r1, r2⟩
theorem Go.getSN {own R0 O nm d host : String} {index : Nat} {v : Value} (hown : Z.vm.findClass own = some m.cls) (w : (Jvm.Cond.fieldLinkNest own index R0 nm d host).before a0 Z = true) (via : Via Z R0 O nm d) (F : Sta Z Z.heap O nm d v) (hd : decode c.code pc = .ok (.getstatic index, 3)) (hp : pc + 3 = pc') (K : Go p l e R s m args below meth c Z a0 EL nw Q vm h k n pc' L (v :: st)) : Go p l e R s m args below meth c Z a0 EL nw Q vm h k n pc L st := fun T locs k0 hx hk hE X eT hS hk0 hF hZ hN hC hO => by
  subst hp
  have hown' : (s.setVm vm).vm.findClass own = some m.cls := by
    show vm.findClass own = _
    rw [hZ.alike.findClass]; exact hown
  obtain ⟨T', X', e', st'⟩ := RoadKit.getS2 X hx (s := s.setVm vm) hZ hown' (Or.inr w) via eT (F.ext hO) (g := mkF m pc L st) rfl hd
  obtain ⟨t, v, L', r1, r2⟩ := K T' locs k0 hx hk hE X' e' hS hk0 hF hZ hN hC hO
  exact ⟨t, v, L', st' _ r1, r2⟩
theorem Go.castY {own K0 : String} {index : Nat} {a : Addr} (hown : Z.vm.findClass own = some m.cls) (w : (Jvm.Cond.classLink own index K0).before a0 Z = true) (F : Ins Z h a K0 true) (hd : decode c.code pc = .ok (.checkcast index, 3)) (hp : pc + 3 = pc') (K : Go p l e R s m args below meth c Z a0 EL nw Q vm h k n pc' L (.ref a :: st)) : Go p l e R s m args below meth c Z a0 EL nw Q vm h k n pc L (.ref a :: st) := fun T locs k0 hx hk hE X eT hS hk0 hF hZ hN hC hO => by
  subst hp
  have hown' : (s.setVm vm).vm.findClass own = some m.cls := by
    show vm.findClass own = _
    rw [hZ.alike.findClass]; exact hown
  obtain ⟨T', X', e', st'⟩ := RoadKit.castY X hx (s := s.setVm vm) hZ hown' w eT F (g := mkF m pc L (.ref a :: st)) rfl rfl hd
  obtain ⟨t, v, L', r1, r2⟩ := K T' locs k0 hx hk hE X' e' hS hk0 hF hZ hN hC hO
  exact ⟨t, v, L', st' _ r1, r2⟩
theorem Go.instY {own K0 : String} {index : Nat} {a : Addr} (hown : Z.vm.findClass own = some m.cls) (w : (Jvm.Cond.classLink own index K0).before a0 Z = true) (F : Ins Z h a K0 true) (hd : decode c.code pc = .ok (.instanceof index, 3)) (hp : pc + 3 = pc') (K : Go p l e R s m args below meth c Z a0 EL nw Q vm h k n pc' L (.int 1 :: st)) : Go p l e R s m args below meth c Z a0 EL nw Q vm h k n pc L (.ref a :: st) := fun T locs k0 hx hk hE X eT hS hk0 hF hZ hN hC hO => by
  subst hp
  have hown' : (s.setVm vm).vm.findClass own = some m.cls := by
    show vm.findClass own = _
    rw [hZ.alike.findClass]; exact hown
  obtain ⟨T', X', e', st'⟩ := RoadKit.instY X hx (s := s.setVm vm) hZ hown' w eT F (g := mkF m pc L (.ref a :: st)) rfl rfl hd
  obtain ⟨t, v, L', r1, r2⟩ := K T' locs k0 hx hk hE X' e' hS hk0 hF hZ hN hC hO
  exact ⟨t, v, L', st' _ r1, r2⟩
theorem Go.instNo {own K0 C : String} {index : Nat} {a : Addr} (hown : Z.vm.findClass own = some m.cls) (w : (Jvm.Cond.classLink own index K0).before a0 Z = true) (E : Exa Z h a C) (F : ∃ c t, Z.vm.findClass C = some c ∧ Z.vm.findClass K0 = some t ∧ Z.vm.assignable c t = false) (hd : decode c.code pc = .ok (.instanceof index, 3)) (hp : pc + 3 = pc') (K : Go p l e R s m args below meth c Z a0 EL nw Q vm h k n pc' L (.int 0 :: st)) : Go p l e R s m args below meth c Z a0 EL nw Q vm h k n pc L (.ref a :: st) := fun T locs k0 hx hk hE X eT hS hk0 hF hZ hN hC hO => by
  subst hp
  have hown' : (s.setVm vm).vm.findClass own = some m.cls := by
    show vm.findClass own = _
    rw [hZ.alike.findClass]; exact hown
  obtain ⟨T', X', e', st'⟩ := RoadKit.instNo X hx (s := s.setVm vm) hZ hown' w eT E F (g := mkF m pc L (.ref a :: st)) rfl rfl hd
  obtain ⟨t, v, L', r1, r2⟩ := K T' locs k0 hx hk hE X' e' hS hk0 hF hZ hN hC hO
  exact ⟨t, v, L', st' _ r1, r2⟩
theorem Go.initO {own : String} {index W : Nat} {a : Addr} (hown : Z.vm.findClass own = some m.cls) (w1 : (Jvm.Cond.methodLink own index Lib.objectInit).before a0 Z = true) (w2 : (Jvm.Cond.instanceMethod Lib.objectInit).before a0 Z = true) (w3 : (Jvm.Cond.code Lib.objectInit ⟨#[0xb1]⟩ 1 none).before a0 Z = true) (hL : L.size = c.maxLocals) (hd : decode c.code pc = .ok (.invokespecial index, 3)) (hf : 1 ≤ R.frames) (hW : (st.map fun v => v.category).sum = W) (hl : W + 12 ≤ R.locals) (hp : pc + 3 = pc') (K : Go p l e R s m args below meth c Z a0 EL nw Q vm h k n pc' L st) : Go p l e R s m args below meth c Z a0 EL nw Q vm h k n pc L (.ref a :: st) := fun T locs k0 hx hk hE X eT hS hk0 hF hZ hN hC hO => by
  subst hp
  have hown' : (s.setVm vm).vm.findClass own = some m.cls := by
    show vm.findClass own = _
    rw [hZ.alike.findClass]; exact hown
  obtain ⟨T', X', e', st'⟩ := RoadKit.initO X hx (s := s.setVm vm) hZ hown' w1 w2 w3 eT (g := mkF m pc L (.ref a :: st)) rfl hL rfl hd hf (W := W) (by show 2 * 0 + _ ≤ _; rw [Nat.mul_zero, Nat.zero_add]; exact Nat.le_of_eq hW) hl
  obtain ⟨t, v, L', r1, r2⟩ := K T' locs k0 hx hk hE X' e' hS hk0 hF hZ hN hC hO
  exact ⟨t, v, L', st' _ r1, r2⟩
theorem Go.ldcInt {own : String} {index : Nat} {z : Int32} (hown : Z.vm.findClass own = some m.cls) (w : (Jvm.Cond.constant own index z).before a0 Z = true) (hd : decode c.code pc = .ok (.ldc index, 2)) (hp : pc + 2 = pc') (K : Go p l e R s m args below meth c Z a0 EL nw Q vm h k n pc' L (.int z :: st)) : Go p l e R s m args below meth c Z a0 EL nw Q vm h k n pc L st := fun T locs k0 hx hk hE X eT hS hk0 hF hZ hN hC hO => by
  subst hp
  have hown' : (s.setVm vm).vm.findClass own = some m.cls := by
    show vm.findClass own = _
    rw [hZ.alike.findClass]; exact hown
  obtain ⟨t, v, L', r1, r2⟩ := K T locs k0 hx hk hE X eT hS hk0 hF hZ hN hC hO
  exact ⟨t, v, L', X.ldcInt hx hown' (mv (s := s.setVm vm) hZ w) (g := mkF m pc L st) rfl hd _ r1, r2⟩
theorem Go.ldc2Long {own : String} {index : Nat} {z : Int64} (hown : Z.vm.findClass own = some m.cls) (w : (Jvm.Cond.constantLong own index z).before a0 Z = true) (hd : decode c.code pc = .ok (.ldc2_w index, 3)) (hp : pc + 3 = pc') (K : Go p l e R s m args below meth c Z a0 EL nw Q vm h k n pc' L (.long z :: st)) : Go p l e R s m args below meth c Z a0 EL nw Q vm h k n pc L st := fun T locs k0 hx hk hE X eT hS hk0 hF hZ hN hC hO => by
  subst hp
  have hown' : (s.setVm vm).vm.findClass own = some m.cls := by
    show vm.findClass own = _
    rw [hZ.alike.findClass]; exact hown
  obtain ⟨t, v, L', r1, r2⟩ := K T locs k0 hx hk hE X eT hS hk0 hF hZ hN hC hO
  exact ⟨t, v, L', X.ldc2Long hx hown' (mv (s := s.setVm vm) hZ w) (g := mkF m pc L st) rfl hd _ r1, r2⟩
theorem Go.alen {a : Addr} {kA : ClassId} {ty : FieldType} {vs : List Value} {z : Int32} (A : Ar Z h a kA ty vs) (hz : vs.length.toInt32 = z) (hd : decode c.code pc = .ok (.arraylength, 1)) (hp : pc + 1 = pc') (K : Go p l e R s m args below meth c Z a0 EL nw Q vm h k n pc' L (.int z :: st)) : Go p l e R s m args below meth c Z a0 EL nw Q vm h k n pc L (.ref a :: st) := fun T locs k0 hx hk hE X eT hS hk0 hF hZ hN hC hO => by
  subst hp
  obtain ⟨t, v, L', r1, r2⟩ := K T locs k0 hx hk hE X eT hS hk0 hF hZ hN hC hO
  obtain ⟨cl, A, -, rfl⟩ := A
  refine ⟨t, v, L', X.arraylength hx (cell := cl) (by rw [eT]; exact A.1) (State.isArrayOf_alike (s := Z) (T := s.setVm vm) hZ.alike A.2.1) (g := mkF m pc L (.ref a :: st)) rfl rfl hd _ ?_, r2⟩
  have q : cl.slots.size.toInt32 = z := by rw [← hz]; simp
  rw [q]; exact r1
theorem Go.caload {a : Addr} {kA : ClassId} {vs : List Value} {j : Int32} {v : Value} (A : Ar Z h a kA .char vs) (hj : ¬ j < 0) (hv : vs[j.toNatClampNeg]? = some v) (hd : decode c.code pc = .ok (.caload, 1)) (hp : pc + 1 = pc') (K : Go p l e R s m args below meth c Z a0 EL nw Q vm h k n pc' L (v :: st)) : Go p l e R s m args below meth c Z a0 EL nw Q vm h k n pc L (.int j :: .ref a :: st) := fun T locs k0 hx hk hE X eT hS hk0 hF hZ hN hC hO => by
  subst hp
  obtain ⟨t, v', L', r1, r2⟩ := K T locs k0 hx hk hE X eT hS hk0 hF hZ hN hC hO
  obtain ⟨cl, A, -, rfl⟩ := A
  rw [Array.getElem?_toList] at hv
  exact ⟨t, v', L', X.caload hx (cell := cl) (by rw [eT]; exact A.1) (State.isArrayOf_alike (s := Z) (T := s.setVm vm) hZ.alike A.2.1) A.2.2 (fun q => q.elim hj fun q => absurd (Array.getElem?_eq_some_iff.mp hv).1 (Nat.not_lt.mpr q)) hv (g := mkF m pc L (.int j :: .ref a :: st)) rfl rfl hd _ r1, r2⟩
theorem Go.baload {a : Addr} {kA : ClassId} {vs : List Value} {j : Int32} {v : Value} (A : Ar Z h a kA .byte vs) (hj : ¬ j < 0) (hv : vs[j.toNatClampNeg]? = some v) (hd : decode c.code pc = .ok (.baload, 1)) (hp : pc + 1 = pc') (K : Go p l e R s m args below meth c Z a0 EL nw Q vm h k n pc' L (v :: st)) : Go p l e R s m args below meth c Z a0 EL nw Q vm h k n pc L (.int j :: .ref a :: st) := fun T locs k0 hx hk hE X eT hS hk0 hF hZ hN hC hO => by
  subst hp
  obtain ⟨t, v', L', r1, r2⟩ := K T locs k0 hx hk hE X eT hS hk0 hF hZ hN hC hO
  obtain ⟨cl, A, -, rfl⟩ := A
  rw [Array.getElem?_toList] at hv
  exact ⟨t, v', L', X.baloadBytes hx (cell := cl) (by rw [eT]; exact A.1) (State.isArrayOf_alike (s := Z) (T := s.setVm vm) hZ.alike A.2.1) A.2.2 (fun q => q.elim hj fun q => absurd (Array.getElem?_eq_some_iff.mp hv).1 (Nat.not_lt.mpr q)) hv (g := mkF m pc L (.int j :: .ref a :: st)) rfl rfl hd _ r1, r2⟩
theorem Go.iaload {a : Addr} {kA : ClassId} {vs : List Value} {j : Int32} {v : Value} (A : Ar Z h a kA .int vs) (hj : ¬ j < 0) (hv : vs[j.toNatClampNeg]? = some v) (hd : decode c.code pc = .ok (.iaload, 1)) (hp : pc + 1 = pc') (K : Go p l e R s m args below meth c Z a0 EL nw Q vm h k n pc' L (v :: st)) : Go p l e R s m args below meth c Z a0 EL nw Q vm h k n pc L (.int j :: .ref a :: st) := fun T locs k0 hx hk hE X eT hS hk0 hF hZ hN hC hO => by
  subst hp
  obtain ⟨t, v', L', r1, r2⟩ := K T locs k0 hx hk hE X eT hS hk0 hF hZ hN hC hO
  obtain ⟨cl, A, -, rfl⟩ := A
  rw [Array.getElem?_toList] at hv
  exact ⟨t, v', L', X.iaload hx (cell := cl) (by rw [eT]; exact A.1) (State.isArrayOf_alike (s := Z) (T := s.setVm vm) hZ.alike A.2.1) A.2.2 (fun q => q.elim hj fun q => absurd (Array.getElem?_eq_some_iff.mp hv).1 (Nat.not_lt.mpr q)) hv (g := mkF m pc L (.int j :: .ref a :: st)) rfl rfl hd _ r1, r2⟩
theorem Go.laload {a : Addr} {kA : ClassId} {vs : List Value} {j : Int32} {v : Value} (A : Ar Z h a kA .long vs) (hj : ¬ j < 0) (hv : vs[j.toNatClampNeg]? = some v) (hd : decode c.code pc = .ok (.laload, 1)) (hp : pc + 1 = pc') (K : Go p l e R s m args below meth c Z a0 EL nw Q vm h k n pc' L (v :: st)) : Go p l e R s m args below meth c Z a0 EL nw Q vm h k n pc L (.int j :: .ref a :: st) := fun T locs k0 hx hk hE X eT hS hk0 hF hZ hN hC hO => by
  subst hp
  obtain ⟨t, v', L', r1, r2⟩ := K T locs k0 hx hk hE X eT hS hk0 hF hZ hN hC hO
  obtain ⟨cl, A, -, rfl⟩ := A
  rw [Array.getElem?_toList] at hv
  exact ⟨t, v', L', X.laload hx (cell := cl) (by rw [eT]; exact A.1) (State.isArrayOf_alike (s := Z) (T := s.setVm vm) hZ.alike A.2.1) A.2.2 (fun q => q.elim hj fun q => absurd (Array.getElem?_eq_some_iff.mp hv).1 (Nat.not_lt.mpr q)) hv (g := mkF m pc L (.int j :: .ref a :: st)) rfl rfl hd _ r1, r2⟩
theorem Go.aaload {a : Addr} {kA : ClassId} {ty : FieldType} {vs : List Value} {j : Int32} {v : Value} (A : Ar Z h a kA ty vs) (hty : ty.isReference = true) (hj : ¬ j < 0) (hv : vs[j.toNatClampNeg]? = some v) (hd : decode c.code pc = .ok (.aaload, 1)) (hp : pc + 1 = pc') (K : Go p l e R s m args below meth c Z a0 EL nw Q vm h k n pc' L (v :: st)) : Go p l e R s m args below meth c Z a0 EL nw Q vm h k n pc L (.int j :: .ref a :: st) := fun T locs k0 hx hk hE X eT hS hk0 hF hZ hN hC hO => by
  subst hp
  obtain ⟨t, v', L', r1, r2⟩ := K T locs k0 hx hk hE X eT hS hk0 hF hZ hN hC hO
  obtain ⟨cl, A, -, rfl⟩ := A
  rw [Array.getElem?_toList] at hv
  exact ⟨t, v', L', X.aaload hx (cell := cl) (by rw [eT]; exact A.1) (State.isArrayOf_alike (s := Z) (T := s.setVm vm) hZ.alike A.2.1) hty A.2.2 (fun q => q.elim hj fun q => absurd (Array.getElem?_eq_some_iff.mp hv).1 (Nat.not_lt.mpr q)) hv (g := mkF m pc L (.int j :: .ref a :: st)) rfl rfl hd _ r1, r2⟩
theorem Go.newO {own C : String} {index nn : Nat} (hown : Z.vm.findClass own = some m.cls) (w : (Jvm.Cond.classLink own index C).before a0 Z = true) (wi : (Jvm.Cond.instantiable C nn).before a0 Z = true) (wz : (Jvm.Cond.initialized C).before a0 Z = true) (hd : decode c.code pc = .ok (.new index, 3)) (hp : pc + 3 = pc') (hc : k + 1 ≤ R.cells) (hl : n + nn ≤ R.slots)
    (K : ∀ (h' : Heap) (a : Addr), h.size ≤ a → h'.size > a → Ext h h' → Exa Z h' a C → (∀ {O nm d : String} {ty : FieldType}, Laid Z a0 C O nm d → parseFieldDescriptor d = some ty → Fld Z h' a O nm d (defaultValue ty)) → Safe Z EL vm h' a → CHr Z EL vm h vm h' → Go p l e R s m args below meth c Z a0 EL nw Q vm h' (k + 1) (n + nn) pc' L (.ref a :: st)) : Go p l e R s m args below meth c Z a0 EL nw Q vm h k n pc L st := fun T locs k0 hx hk hE X eT hS hk0 hF hZ hN hC hO => by
  subst hp
  have hown' : (s.setVm vm).vm.findClass own = some m.cls := by
    show vm.findClass own = _
    rw [hZ.alike.findClass]; exact hown
  obtain ⟨T', h', X', e', E', A', D', -, st'⟩ := RoadKit.newO X hx (s := s.setVm vm) hZ hown' w wi wz eT (g := mkF m pc L st) rfl hd hc hl
  obtain ⟨t, v, L', r1, r2⟩ := K h' h.size (Nat.le_refl _) A'.lt E' A' D' (Safe.ext E' hC.1 (Safe.new (Nat.le_refl _))) (CHr.ext E' hC.1) T' locs k0 hx hk hE X' e' hS (Nat.le_trans hk0 E'.1) hF hZ hN (hC.trans (CHr.ext E' hC.1)) (ext_trans hO E')
  exact ⟨t, v, L', st' _ r1, r2⟩
theorem Go.newP {aty : ArrayType} {ty : FieldType} {z : Int32} {cap : Nat} (hty : newarray.typeOf aty = ty) (w : (Jvm.Cond.arrayClass ty).before a0 Z = true) (hd : decode c.code pc = .ok (.newarray aty, 2)) (hp : pc + 2 = pc') (hz : ¬ z < 0) (hcap : z.toNatClampNeg ≤ cap) (hb : cap * 8 ≤ 536870912) (hc : k + 1 ≤ R.cells) (hl : n + cap ≤ R.slots)
    (K : ∀ (h' : Heap) (a : Addr) (kA : ClassId), h.size ≤ a → h'.size > a → Ext h h' → Ar Z h' a kA ty (List.replicate z.toNatClampNeg (defaultValue ty)) → Safe Z EL vm h' a → CHr Z EL vm h vm h' → Go p l e R s m args below meth c Z a0 EL nw Q vm h' (k + 1) (n + cap) pc' L (.ref a :: st)) : Go p l e R s m args below meth c Z a0 EL nw Q vm h k n pc L (.int z :: st) := fun T locs k0 hx hk hE X eT hS hk0 hF hZ hN hC hO => by
  subst hp hty
  obtain ⟨T', h', cA, X', e', E', A', st'⟩ := RoadKit.newP X hx (s := s.setVm vm) hZ w eT (g := mkF m pc L (.int z :: st)) rfl hd rfl hz hcap hb hc hl
  obtain ⟨t, v, L', r1, r2⟩ := K h' h.size cA (Nat.le_refl _) A'.lt E' ⟨_, A', rfl, by simp [newA]⟩ (Safe.ext E' hC.1 (Safe.new (Nat.le_refl _))) (CHr.ext E' hC.1) T' locs k0 hx hk hE X' e' hS (Nat.le_trans hk0 E'.1) hF hZ hN (hC.trans (CHr.ext E' hC.1)) (ext_trans hO E')
  exact ⟨t, v, L', st' _ r1, r2⟩
theorem Go.newR {own C : String} {index : Nat} {z : Int32} {cap : Nat} (hown : Z.vm.findClass own = some m.cls) (w1 : (Jvm.Cond.classLink own index C).before a0 Z = true) (w2 : (Jvm.Cond.arrayOver (.object C)).before a0 Z = true) (hd : decode c.code pc = .ok (.anewarray index, 3)) (hp : pc + 3 = pc') (hz : ¬ z < 0) (hcap : z.toNatClampNeg ≤ cap) (hb : cap * 8 ≤ 536870912) (hc : k + 1 ≤ R.cells) (hl : n + cap ≤ R.slots)
    (K : ∀ (h' : Heap) (a : Addr) (kA : ClassId), h.size ≤ a → h'.size > a → Ext h h' → Ar Z h' a kA (.object C) (List.replicate z.toNatClampNeg .null) → Ovr Z kA C → CHr Z EL vm h vm h' → Go p l e R s m args below meth c Z a0 EL nw Q vm h' (k + 1) (n + cap) pc' L (.ref a :: st)) : Go p l e R s m args below meth c Z a0 EL nw Q vm h k n pc L (.int z :: st) := fun T locs k0 hx hk hE X eT hS hk0 hF hZ hN hC hO => by
  subst hp
  have hown' : (s.setVm vm).vm.findClass own = some m.cls := by
    show vm.findClass own = _
    rw [hZ.alike.findClass]; exact hown
  obtain ⟨T', h', cA, X', e', E', A', O', st'⟩ := RoadKit.newR X hx (s := s.setVm vm) hZ hown' w1 w2 eT (g := mkF m pc L (.int z :: st)) rfl hd rfl hz hcap hb hc hl
  obtain ⟨t, v, L', r1, r2⟩ := K h' h.size cA (Nat.le_refl _) A'.lt E' ⟨_, A', rfl, by simp [newA, defaultValue]⟩ O' (CHr.ext E' hC.1) T' locs k0 hx hk hE X' e' hS (Nat.le_trans hk0 E'.1) hF hZ hN (hC.trans (CHr.ext E' hC.1)) (ext_trans hO E')
  exact ⟨t, v, L', st' _ r1, r2⟩
theorem Go.putF {own R0 O nm d C : String} {index kk : Nat} {ty : FieldType} {a : Addr} {v v' old : Value} (hown : Z.vm.findClass own = some m.cls) (w : (Jvm.Cond.fieldLink own index R0 nm d).before a0 Z = true) (via : Via Z R0 O nm d) (F : Fld Z h a O nm d old) (E : Exa Z h a C)
    (Ly : (Jvm.Cond.lays C O nm d).before a0 Z = true ∨ ((Jvm.Cond.laysFinal C O nm d).before a0 Z = true ∧ own = O ∧ meth.name = "<init>")) (wi : (Jvm.Cond.instantiable C kk).before a0 Z = true) (hty : parseFieldDescriptor d = some ty) (hn : narrow ty v = v') (hf : fits ty v' = true) (hs0 : (C ≠ "java/lang/String" ∧ C ≠ "[B") ∨ Safe Z EL vm h a) (hge : Z.heap.size ≤ a) (hd : decode c.code pc = .ok (.putfield index, 3)) (hp : pc + 3 = pc')
    (K : ∀ (h' : Heap), Wr h h' a (RoadKit.slotOf Z O nm d) v' → h'.size = h.size → Keep h h' [a] → CHr Z EL vm h vm h' → Go p l e R s m args below meth c Z a0 EL nw Q vm h' k n pc' L st) : Go p l e R s m args below meth c Z a0 EL nw Q vm h k n pc L (v :: .ref a :: st) := fun T locs k0 hx hk hE X eT hS hk0 hF hZ hN hC hO => by
  subst hp
  have hown' : (s.setVm vm).vm.findClass own = some m.cls := by
    show vm.findClass own = _
    rw [hZ.alike.findClass]; exact hown
  have hs : Safe Z EL vm h a := hs0.elim (fun q => Safe.exa hZ.alike E q.1 q.2) id
  obtain ⟨T', h', X', e', W', st'⟩ := RoadKit.putFN X hx (s := s.setVm vm) hZ hown' w via eT F E Ly wi hty hn hf (g := mkF m pc L (v :: .ref a :: st)) rfl rfl hd
  obtain ⟨t, v, L', r1, r2⟩ := K h' W' W'.size (Keep.of_wr W') (CHr.wr W' hs hC.1) T' _ k0 hx hk hE X' e' hS (by rw [W'.size]; exact hk0) (Fr.snoc X' hF hge) hZ hN (hC.trans (CHr.wr W' hs hC.1)) (ext_wr hO W' hge)
  exact ⟨t, v, L', st' _ r1, r2⟩
theorem Go.putFN {own R0 O nm d C host : String} {index kk : Nat} {ty : FieldType} {a : Addr} {v old : Value} (hown : Z.vm.findClass own = some m.cls) (w : (Jvm.Cond.fieldLinkNest own index R0 nm d host).before a0 Z = true) (via : Via Z R0 O nm d) (F : Fld Z h a O nm d old) (E : Exa Z h a C)
    (Ly : (Jvm.Cond.lays C O nm d).before a0 Z = true ∨ ((Jvm.Cond.laysFinal C O nm d).before a0 Z = true ∧ own = O ∧ meth.name = "<init>")) (wi : (Jvm.Cond.instantiable C kk).before a0 Z = true) (hty : parseFieldDescriptor d = some ty) (hn : narrow ty v = v) (hf : fits ty v = true) (hs0 : (C ≠ "java/lang/String" ∧ C ≠ "[B") ∨ Safe Z EL vm h a) (hge : Z.heap.size ≤ a) (hd : decode c.code pc = .ok (.putfield index, 3)) (hp : pc + 3 = pc')
    (K : ∀ (h' : Heap), Wr h h' a (RoadKit.slotOf Z O nm d) v → h'.size = h.size → Keep h h' [a] → CHr Z EL vm h vm h' → Go p l e R s m args below meth c Z a0 EL nw Q vm h' k n pc' L st) : Go p l e R s m args below meth c Z a0 EL nw Q vm h k n pc L (v :: .ref a :: st) := fun T locs k0 hx hk hE X eT hS hk0 hF hZ hN hC hO => by
  subst hp
  have hown' : (s.setVm vm).vm.findClass own = some m.cls := by
    show vm.findClass own = _
    rw [hZ.alike.findClass]; exact hown
  have hs : Safe Z EL vm h a := hs0.elim (fun q => Safe.exa hZ.alike E q.1 q.2) id
  obtain ⟨T', h', X', e', W', st'⟩ := RoadKit.putF X hx (s := s.setVm vm) hZ hown' (Or.inr w) via eT F E Ly wi hty hn hf (g := mkF m pc L (v :: .ref a :: st)) rfl rfl hd
  obtain ⟨t, v, L', r1, r2⟩ := K h' W' W'.size (Keep.of_wr W') (CHr.wr W' hs hC.1) T' _ k0 hx hk hE X' e' hS (by rw [W'.size]; exact hk0) (Fr.snoc X' hF hge) hZ hN (hC.trans (CHr.wr W' hs hC.1)) (ext_wr hO W' hge)
  exact ⟨t, v, L', st' _ r1, r2⟩
theorem Go.castore {a : Addr} {kA : ClassId} {vs : List Value} {j x : Int32} (A : Ar Z h a kA .char vs) (hj : ¬ j < 0) (hlt : j.toNatClampNeg < vs.length) (hge : Z.heap.size ≤ a) (hd : decode c.code pc = .ok (.castore, 1)) (hp : pc + 1 = pc')
    (K : ∀ (h' : Heap), Ar Z h' a kA .char (vs.set j.toNatClampNeg (.int (nar .char x))) → h'.size = h.size → Keep h h' [a] → Safe Z EL vm h' a → CHr Z EL vm h vm h' → Go p l e R s m args below meth c Z a0 EL nw Q vm h' k n pc' L st) : Go p l e R s m args below meth c Z a0 EL nw Q vm h k n pc L (.int x :: .int j :: .ref a :: st) := fun T locs k0 hx hk hE X eT hS hk0 hF hZ hN hC hO => by
  subst hp
  have A0 := A
  have hs : Safe Z EL vm h a := A.safe hZ.alike (by intro q; cases q)
  obtain ⟨cl, A, -, e2⟩ := A
  have hin : ¬ (j < 0 ∨ cl.slots.size ≤ j.toNatClampNeg) := fun q => q.elim hj fun q => by rw [← e2] at hlt; simp at hlt; omega
  obtain ⟨T', h', X', e', W', st'⟩ := RoadKit.stC X hx (s := s.setVm vm) hZ eT A hin (g := mkF m pc L (.int x :: .int j :: .ref a :: st)) rfl rfl hd
  obtain ⟨t, v, L', r1, r2⟩ := K h' (A0.set W') W'.size (Keep.of_wr W') (Safe.wr W' hs hC.1 hs) (CHr.wr W' hs hC.1) T' _ k0 hx hk hE X' e' hS (by rw [W'.size]; exact hk0) (Fr.snoc X' hF hge) hZ hN (hC.trans (CHr.wr W' hs hC.1)) (ext_wr hO W' hge)
  exact ⟨t, v, L', st' _ r1, r2⟩
theorem Go.bastore {a : Addr} {kA : ClassId} {vs : List Value} {j x : Int32} (A : Ar Z h a kA .byte vs) (hj : ¬ j < 0) (hlt : j.toNatClampNeg < vs.length) (hs : Safe Z EL vm h a) (hge : Z.heap.size ≤ a) (hd : decode c.code pc = .ok (.bastore, 1)) (hp : pc + 1 = pc')
    (K : ∀ (h' : Heap), Ar Z h' a kA .byte (vs.set j.toNatClampNeg (.int (nar .byte x))) → h'.size = h.size → Keep h h' [a] → Safe Z EL vm h' a → CHr Z EL vm h vm h' → Go p l e R s m args below meth c Z a0 EL nw Q vm h' k n pc' L st) : Go p l e R s m args below meth c Z a0 EL nw Q vm h k n pc L (.int x :: .int j :: .ref a :: st) := fun T locs k0 hx hk hE X eT hS hk0 hF hZ hN hC hO => by
  subst hp
  have A0 := A
  obtain ⟨cl, A, -, e2⟩ := A
  have hin : ¬ (j < 0 ∨ cl.slots.size ≤ j.toNatClampNeg) := fun q => q.elim hj fun q => by rw [← e2] at hlt; simp at hlt; omega
  obtain ⟨T', h', X', e', W', st'⟩ := RoadKit.stB X hx (s := s.setVm vm) hZ eT A hin (g := mkF m pc L (.int x :: .int j :: .ref a :: st)) rfl rfl hd
  obtain ⟨t, v, L', r1, r2⟩ := K h' (A0.set W') W'.size (Keep.of_wr W') (Safe.wr W' hs hC.1 hs) (CHr.wr W' hs hC.1) T' _ k0 hx hk hE X' e' hS (by rw [W'.size]; exact hk0) (Fr.snoc X' hF hge) hZ hN (hC.trans (CHr.wr W' hs hC.1)) (ext_wr hO W' hge)
  exact ⟨t, v, L', st' _ r1, r2⟩
theorem Go.zastore {a : Addr} {kA : ClassId} {vs : List Value} {j x : Int32} (A : Ar Z h a kA .boolean vs) (hj : ¬ j < 0) (hlt : j.toNatClampNeg < vs.length) (hge : Z.heap.size ≤ a) (hd : decode c.code pc = .ok (.bastore, 1)) (hp : pc + 1 = pc')
    (K : ∀ (h' : Heap), Ar Z h' a kA .boolean (vs.set j.toNatClampNeg (.int (nar .boolean x))) → h'.size = h.size → Keep h h' [a] → Safe Z EL vm h' a → CHr Z EL vm h vm h' → Go p l e R s m args below meth c Z a0 EL nw Q vm h' k n pc' L st) : Go p l e R s m args below meth c Z a0 EL nw Q vm h k n pc L (.int x :: .int j :: .ref a :: st) := fun T locs k0 hx hk hE X eT hS hk0 hF hZ hN hC hO => by
  subst hp
  have A0 := A
  have hs : Safe Z EL vm h a := A.safe hZ.alike (by intro q; cases q)
  obtain ⟨cl, A, -, e2⟩ := A
  have hin : ¬ (j < 0 ∨ cl.slots.size ≤ j.toNatClampNeg) := fun q => q.elim hj fun q => by rw [← e2] at hlt; simp at hlt; omega
  obtain ⟨T', h', X', e', W', st'⟩ := RoadKit.stZ X hx (s := s.setVm vm) hZ eT A hin (g := mkF m pc L (.int x :: .int j :: .ref a :: st)) rfl rfl hd
  obtain ⟨t, v, L', r1, r2⟩ := K h' (A0.set W') W'.size (Keep.of_wr W') (Safe.wr W' hs hC.1 hs) (CHr.wr W' hs hC.1) T' _ k0 hx hk hE X' e' hS (by rw [W'.size]; exact hk0) (Fr.snoc X' hF hge) hZ hN (hC.trans (CHr.wr W' hs hC.1)) (ext_wr hO W' hge)
  exact ⟨t, v, L', st' _ r1, r2⟩
theorem Go.iastore {a : Addr} {kA : ClassId} {vs : List Value} {j x : Int32} (A : Ar Z h a kA .int vs) (hj : ¬ j < 0) (hlt : j.toNatClampNeg < vs.length) (hge : Z.heap.size ≤ a) (hd : decode c.code pc = .ok (.iastore, 1)) (hp : pc + 1 = pc')
    (K : ∀ (h' : Heap), Ar Z h' a kA .int (vs.set j.toNatClampNeg (.int x)) → h'.size = h.size → Keep h h' [a] → Safe Z EL vm h' a → CHr Z EL vm h vm h' → Go p l e R s m args below meth c Z a0 EL nw Q vm h' k n pc' L st) : Go p l e R s m args below meth c Z a0 EL nw Q vm h k n pc L (.int x :: .int j :: .ref a :: st) := fun T locs k0 hx hk hE X eT hS hk0 hF hZ hN hC hO => by
  subst hp
  have A0 := A
  have hs : Safe Z EL vm h a := A.safe hZ.alike (by intro q; cases q)
  obtain ⟨cl, A, -, e2⟩ := A
  have hin : ¬ (j < 0 ∨ cl.slots.size ≤ j.toNatClampNeg) := fun q => q.elim hj fun q => by rw [← e2] at hlt; simp at hlt; omega
  obtain ⟨T', h', X', e', W', st'⟩ := RoadKit.stI X hx (s := s.setVm vm) hZ eT A hin (g := mkF m pc L (.int x :: .int j :: .ref a :: st)) rfl rfl hd
  obtain ⟨t, v, L', r1, r2⟩ := K h' (A0.set W') W'.size (Keep.of_wr W') (Safe.wr W' hs hC.1 hs) (CHr.wr W' hs hC.1) T' _ k0 hx hk hE X' e' hS (by rw [W'.size]; exact hk0) (Fr.snoc X' hF hge) hZ hN (hC.trans (CHr.wr W' hs hC.1)) (ext_wr hO W' hge)
  exact ⟨t, v, L', st' _ r1, r2⟩
theorem Go.aastore {a : Addr} {kA : ClassId} {ty : FieldType} {vs : List Value} {j : Int32} {v : Value} (A : Ar Z h a kA ty vs) (hty : ty.isReference = true) (hj : ¬ j < 0) (hlt : j.toNatClampNeg < vs.length) (F : Sto Z h a v) (hge : Z.heap.size ≤ a) (hd : decode c.code pc = .ok (.aastore, 1)) (hp : pc + 1 = pc')
    (K : ∀ (h' : Heap), Ar Z h' a kA ty (vs.set j.toNatClampNeg v) → h'.size = h.size → Keep h h' [a] → CHr Z EL vm h vm h' → Go p l e R s m args below meth c Z a0 EL nw Q vm h' k n pc' L st) : Go p l e R s m args below meth c Z a0 EL nw Q vm h k n pc L (v :: .int j :: .ref a :: st) := fun T locs k0 hx hk hE X eT hS hk0 hF hZ hN hC hO => by
  subst hp
  have A0 := A
  have hs : Safe Z EL vm h a := A.safe hZ.alike (by rintro rfl; cases hty)
  obtain ⟨cl, A, -, e2⟩ := A
  have hin : ¬ (j < 0 ∨ cl.slots.size ≤ j.toNatClampNeg) := fun q => q.elim hj fun q => by rw [← e2] at hlt; simp at hlt; omega
  obtain ⟨T', h', X', e', W', st'⟩ := RoadKit.stR X hx (s := s.setVm vm) hZ eT A hin hty F (g := mkF m pc L (v :: .int j :: .ref a :: st)) rfl rfl hd
  obtain ⟨t, v, L', r1, r2⟩ := K h' (A0.set W') W'.size (Keep.of_wr W') (CHr.wr W' hs hC.1) T' _ k0 hx hk hE X' e' hS (by rw [W'.size]; exact hk0) (Fr.snoc X' hF hge) hZ hN (hC.trans (CHr.wr W' hs hC.1)) (ext_wr hO W' hge)
  exact ⟨t, v, L', st' _ r1, r2⟩
theorem Go.know {P : Prop} (q : Z.Warmed39 vm → CHv Z EL vm h → Ext Z.heap h → P) (K : P → Go p l e R s m args below meth c Z a0 EL nw Q vm h k n pc L st) : Go p l e R s m args below meth c Z a0 EL nw Q vm h k n pc L st := fun T locs k0 hx hk hE X eT hS hk0 hF hZ hN hC hO => K (q hZ hC.1 hO) T locs k0 hx hk hE X eT hS hk0 hF hZ hN hC hO
theorem Go.joinH {pcM k1 n1 : Nat} {P : Vm → Heap → Value → Prop} {F : Value → Array Slot} {S : Value → List Value} (J : ∀ vm' h' v, P vm' h' v → Go p l e R s m args below meth c Z a0 EL nw Q vm' h' k1 n1 pcM (F v) (S v)) (K : (∀ vm' h' v, P vm' h' v → Go p l e R s m args below meth c Z a0 EL nw Q vm' h' k1 n1 pcM (F v) (S v)) → Go p l e R s m args below meth c Z a0 EL nw Q vm h k n pc L st) : Go p l e R s m args below meth c Z a0 EL nw Q vm h k n pc L st := K J
theorem Go.joinI {pcM : Nat} {P : Int32 → Prop} {F : Int32 → Array Slot} {S : Int32 → List Value} (J : ∀ x, P x → Go p l e R s m args below meth c Z a0 EL nw Q vm h k n pcM (F x) (S x)) (K : (∀ x, P x → Go p l e R s m args below meth c Z a0 EL nw Q vm h k n pcM (F x) (S x)) → Go p l e R s m args below meth c Z a0 EL nw Q vm h k n pc L st) : Go p l e R s m args below meth c Z a0 EL nw Q vm h k n pc L st := K J
theorem Go.joinJ {pcM : Nat} {P : Int64 → Prop} {F : Int64 → Array Slot} {S : Int64 → List Value} (J : ∀ x, P x → Go p l e R s m args below meth c Z a0 EL nw Q vm h k n pcM (F x) (S x)) (K : (∀ x, P x → Go p l e R s m args below meth c Z a0 EL nw Q vm h k n pcM (F x) (S x)) → Go p l e R s m args below meth c Z a0 EL nw Q vm h k n pc L st) : Go p l e R s m args below meth c Z a0 EL nw Q vm h k n pc L st := K J
theorem Go.loop {pcH : Nat} {st0 : List Value} {Inv : Nat → Vm → Heap → Nat → Nat → Array Slot → Prop} (step : ∀ r vm h k n L, Inv r vm h k n L → (∀ r' vm' h' k' n' L', r' < r → Inv r' vm' h' k' n' L' → Go p l e R s m args below meth c Z a0 EL nw Q vm' h' k' n' pcH L' st0) → Go p l e R s m args below meth c Z a0 EL nw Q vm h k n pcH L st0) : ∀ r vm h k n L, Inv r vm h k n L → Go p l e R s m args below meth c Z a0 EL nw Q vm h k n pcH L st0 := by
  intro r
  induction r using Nat.strongRecOn with
  | ind r ih => intro vm h k n L hI; exact step r vm h k n L hI fun r' vm' h' k' n' L' hr hI' => ih r' hr vm' h' k' n' L' hI'
theorem Go.castNull {index : Nat} (hd : decode c.code pc = .ok (.checkcast index, 3)) (hp : pc + 3 = pc') (K : Go p l e R s m args below meth c Z a0 EL nw Q vm h k n pc' L (.null :: st)) : Go p l e R s m args below meth c Z a0 EL nw Q vm h k n pc L (.null :: st) := by
  subst hp
  exact Go.plain (fun T _ hx X _ r => Stand.checkcastNull X hx (g := mkF m pc L (.null :: st)) rfl (rest := st) rfl hd _ r) K
theorem Go.instNull {index : Nat} (hd : decode c.code pc = .ok (.instanceof index, 3)) (hp : pc + 3 = pc') (K : Go p l e R s m args below meth c Z a0 EL nw Q vm h k n pc' L (.int 0 :: st)) : Go p l e R s m args below meth c Z a0 EL nw Q vm h k n pc L (.null :: st) := by
  subst hp
  exact Go.plain (fun T _ hx X _ r => Stand.instanceofNull X hx (g := mkF m pc L (.null :: st)) rfl (rest := st) rfl hd _ r) K
theorem Go.ldcStr {own text : String} {index n0 : Nat} {vs : List Value} (hnw : ¬ nw) (hown : Z.vm.findClass own = some m.cls) (w : (Jvm.Cond.stringLink own index text).before a0 Z = true) (wS : ∀ a ∈ Bundle.stringAtoms, a.before a0 Z = true) (hmem : (own, index) ∈ EL)
    (ht : (∀ c ∈ text.toList, c.toNat < 256) ∧ text.toList.map (fun c => Value.int (Jvm.Lit.byteI c.toNat.toUInt16)) = vs) (hd : decode c.code pc = .ok (.ldc index, 2)) (hp : pc + 2 = pc') (hn : 4 * text.toList.length ≤ n0) (hbig : n0 ≤ 536870912) (hc : k + 2 ≤ R.cells) (hl : n + (n0 + 4) ≤ R.slots)
    (K : ∀ (vm' : Vm) (h' : Heap) (a b : Addr) (kA : ClassId), Ext h h' → CHr Z EL vm h vm' h' → Exa Z h' a "java/lang/String" → Fld Z h' a "java/lang/String" "coder" "B" (.int 0) → Fld Z h' a "java/lang/String" "value" "[B" (.ref b) → Ar Z h' b kA .byte vs → h'.size > a → h'.size > b → (∀ x, Safe Z EL vm' h' x → x ≠ a ∧ x ≠ b) → Go p l e R s m args below meth c Z a0 EL nw Q vm' h' (k + 2) (n + (n0 + 4)) pc' L (.ref a :: st)) : Go p l e R s m args below meth c Z a0 EL nw Q vm h k n pc L st := fun T locs k0 hx hk hE X eT hS hk0 hF hZ hN hC hO => by
  subst hp
  have hown' : (s.setVm vm).vm.findClass own = some m.cls := by
    show vm.findClass own = _
    rw [hZ.alike.findClass]; exact hown
  have hlen : vs.length = text.toList.length := by rw [← ht.2, List.length_map]
  have hz : ¬ (vs.length.toInt32 < 0) := by
    have q : vs.length < 2 ^ 31 := by omega
    have := Int32.toInt_ofNat_small q
    intro z
    have := Int32.lt_iff_toInt_lt.mp z
    have e0 : (0 : Int32).toInt = 0 := rfl
    have e1 : vs.length.toInt32.toInt = vs.length := Int32.toInt_ofNat_small q
    omega
  have hlz : vs.length.toInt32.toNatClampNeg = vs.length := by
    have q : vs.length < 2 ^ 31 := by omega
    have e1 : vs.length.toInt32.toInt = vs.length := Int32.toInt_ofNat_small q
    rw [← Int32.toNat_toInt, e1]; rfl
  obtain ⟨a, T', h', k1, b, kA, X', e', E', hS', hk', hZ', hown2, x1, x2, x3, x4, x5, x6, hC', -, hsafe, st'⟩ := ldcCH X hx hZ hown' w wS eT hS hk0 hE hmem hC.1 ht hz hlz (g := mkF m pc L st) rfl hd hn hbig hc hl
  obtain ⟨t, v, L', r1, r2⟩ := K T'.vm h' a b kA E' hC' x1 x2 x3 (Ar.of_arv x4 hlz) x5 x6 hsafe T' locs k1 hx hk hE X' e' hS' hk' hF hZ' (fun q => absurd q hnw) (hC.trans hC') (ext_trans hO E')
  exact ⟨t, v, L', st' _ r1, r2⟩
theorem Go.ldcRef {own text : String} {index n0 : Nat} (hnw : ¬ nw) (hown : Z.vm.findClass own = some m.cls) (w : (Jvm.Cond.stringLink own index text).before a0 Z = true) (wS : ∀ a ∈ Bundle.stringAtoms, a.before a0 Z = true)
    (hd : decode c.code pc = .ok (.ldc index, 2)) (hp : pc + 2 = pc') (hn : 4 * text.toList.length ≤ n0) (hbig : n0 ≤ 536870912) (hc : k + 2 ≤ R.cells) (hl : n + (n0 + 4) ≤ R.slots)
    (K : ∀ (vm' : Vm) (h' : Heap) (a : Addr), Ext h h' → CHr Z EL vm h vm' h' → Go p l e R s m args below meth c Z a0 EL nw Q vm' h' (k + 2) (n + (n0 + 4)) pc' L (.ref a :: st)) : Go p l e R s m args below meth c Z a0 EL nw Q vm h k n pc L st := fun T locs k0 hx hk hE X eT hS hk0 hF hZ hN hC hO => by
  subst hp
  have hown' : (s.setVm vm).vm.findClass own = some m.cls := by
    show vm.findClass own = _
    rw [hZ.alike.findClass]; exact hown
  obtain ⟨a, T', h', k1, X', e', E', hS', hk', hZ', hown2, hC', -, st'⟩ := ldcOH X hx hZ hown' w wS eT hS hk0 hE hC.1 (g := mkF m pc L st) rfl hd hn hbig hc hl
  obtain ⟨t, v, L', r1, r2⟩ := K T'.vm h' a E' hC' T' locs k1 hx hk hE X' e' hS' hk' hF hZ' (fun q => absurd q hnw) (hC.trans hC') (ext_trans hO E')
  exact ⟨t, v, L', st' _ r1, r2⟩
theorem Go.ret (hret : meth.sig.returnType = none) (hd : decode c.code pc = .ok (.return_, 1)) (hk1 : k ≤ R.cells) (hn1 : n ≤ R.slots) (q : ∀ vm', CHr Z EL vm h vm' h → Q none vm' h) : Go p l e R s m args below meth c Z a0 EL nw Q vm h k n pc L [] := fun T locs k0 hx hk hE X eT hS hk0 hF hZ hN hC hO => by
  subst eT
  obtain ⟨fs, h1, h2, h3, h4⟩ := X.leaveW hS hk0 (v := none) (fun _ => rfl) hk
  have hA := CHv.at X hZ hE hC.1
  refine ⟨_, none, locs, X.returnOut hx hret hd h1, h2, h3, hF, q _ hA, hC.trans hA, hO, ?_, fun z => State.WarmedH.trans (t := s.setVm vm) (hN z) X.warmed⟩
  exact ⟨h4.1, h4.2.1, h4.2.2.1, h4.2.2.2.mono hk1 hn1⟩
theorem Go.retV {w : Value} {t : FieldType} {i : Instr} (hret : meth.sig.returnType = some t) (hn : narrow t w = w)
    (hi : (i = .ireturn ∧ (t = .int ∨ t = .boolean ∨ t = .byte ∨ t = .char ∨ t = .short) ∧ ∃ z, w = .int z) ∨ (i = .lreturn ∧ t = .long ∧ ∃ z, w = .long z) ∨ (i = .dreturn ∧ t = .double ∧ ∃ z, w = .double z) ∨ (i = .freturn ∧ t = .float ∧ ∃ z, w = .float z) ∨ (i = .areturn ∧ t.isReference = true ∧ w.isRef = true))
    (hd : decode c.code pc = .ok (i, 1)) (hk1 : k ≤ R.cells) (hn1 : n ≤ R.slots) (q : ∀ vm', CHr Z EL vm h vm' h → Q (some w) vm' h) : Go p l e R s m args below meth c Z a0 EL nw Q vm h k n pc L (w :: st) := fun T locs k0 hx hk hE X eT hS hk0 hF hZ hN hC hO => by
  subst eT
  obtain ⟨fs, h1, h2, h3, h4⟩ := X.leaveW hS hk0 (v := some w) (fun z => by rw [hret] at z; cases z) hk
  have hA := CHv.at X hZ hE hC.1
  refine ⟨_, some w, locs, retOut X hx hret hn hi hd h1, h2, h3, hF, q _ hA, hC.trans hA, hO, ?_, fun z => State.WarmedH.trans (t := s.setVm vm) (hN z) X.warmed⟩
  exact ⟨h4.1, h4.2.1, h4.2.2.1, h4.2.2.2.mono hk1 hn1⟩
theorem Go.retA {w : Value} {t : FieldType} (hret : meth.sig.returnType = some t) (ht : t.isReference = true) (hw : w.isRef = true) (hd : decode c.code pc = .ok (.areturn, 1)) (hk1 : k ≤ R.cells) (hn1 : n ≤ R.slots) (q : ∀ vm', CHr Z EL vm h vm' h → Q (some w) vm' h) : Go p l e R s m args below meth c Z a0 EL nw Q vm h k n pc L (w :: st) :=
  Go.retV hret (by cases t <;> simp [FieldType.isReference] at ht <;> cases w <;> simp [Value.isRef] at hw <;> rfl) (Or.inr (Or.inr (Or.inr (Or.inr ⟨rfl, ht, hw⟩)))) hd hk1 hn1 q
theorem Go.retI {z : Int32} (hret : meth.sig.returnType = some .int) (hd : decode c.code pc = .ok (.ireturn, 1)) (hk1 : k ≤ R.cells) (hn1 : n ≤ R.slots) (q : ∀ vm', CHr Z EL vm h vm' h → Q (some (.int z)) vm' h) : Go p l e R s m args below meth c Z a0 EL nw Q vm h k n pc L (.int z :: st) :=
  Go.retV hret rfl (Or.inl ⟨rfl, Or.inl rfl, _, rfl⟩) hd hk1 hn1 q
theorem Go.retJ {z : Int64} (hret : meth.sig.returnType = some .long) (hd : decode c.code pc = .ok (.lreturn, 1)) (hk1 : k ≤ R.cells) (hn1 : n ≤ R.slots) (q : ∀ vm', CHr Z EL vm h vm' h → Q (some (.long z)) vm' h) : Go p l e R s m args below meth c Z a0 EL nw Q vm h k n pc L (.long z :: st) :=
  Go.retV hret rfl (Or.inr (Or.inl ⟨rfl, rfl, _, rfl⟩)) hd hk1 hn1 q
theorem Go.retN {z : Int32} {t : FieldType} (hret : meth.sig.returnType = some t) (ht : t = .boolean ∨ t = .byte ∨ t = .char ∨ t = .short) (hd : decode c.code pc = .ok (.ireturn, 1)) (hk1 : k ≤ R.cells) (hn1 : n ≤ R.slots) (q : ∀ vm', CHr Z EL vm h vm' h → Q (some (.int (nar t z))) vm' h) : Go p l e R s m args below meth c Z a0 EL nw Q vm h k n pc L (.int z :: st) := fun T locs k0 hx hk hE X eT hS hk0 hF hZ hN hC hO => by
  subst eT
  obtain ⟨fs, h1, h2, h3, h4⟩ := X.leaveW hS hk0 (v := some (.int (nar t z))) (fun z => by rw [hret] at z; cases z) hk
  have hA := CHv.at X hZ hE hC.1
  refine ⟨_, some (.int (nar t z)), locs, RoadKit.retN X hx hret ht hd h1, h2, h3, hF, q _ hA, hC.trans hA, hO, ?_, fun z => State.WarmedH.trans (t := s.setVm vm) (hN z) X.warmed⟩
  exact ⟨h4.1, h4.2.1, h4.2.2.1, h4.2.2.2.mono hk1 hn1⟩
theorem Ct.of_go {ws : List Jvm.Cond} {y : MethodName} {bytes : ByteArray} {maxL : Nat} {ret : Option FieldType} {rm : Room} {as : Array Value} {sf : List Addr} {L0 : Array Slot} (hEL : EW Z a0 EL) (pn : plainName y.cls = true) (hL : ∀ m, entryFrame m as maxL = mkF m 0 L0 [])
    (body : ∀ (p : Program) (e : Env) (s : State) (m : MethodId) (below : List Frame) (meth : Method) (c : Code), Z.vm.findClass y.cls = some m.cls → c.code = bytes → c.maxLocals = maxL → meth.sig.returnType = ret → meth.name = y.name → Z.Warmed39 s.vm → CHv Z EL s.vm h → Ext Z.heap h → (∀ x ∈ sf, Safe Z EL s.vm h x) →
      Go p l e rm s m as below meth c Z a0 EL nw Q s.vm h 0 0 0 L0 []) : Ct l Z EL nw ws y bytes maxL ret rm as h sf Q := by
  refine MetFree.of_bodySF (plainFor_of_name pn) hisR ?_
  intro p e s m args below meth c s₁ Bd hml hP hK
  obtain ⟨rfl, hZ, hh, hC, hO, hsf⟩ := hP
  have hown : s.vm.findClass y.cls = some m.cls := findClass_of_methodNamed Bd.named
  have hnm := (name_of_methodNamed Bd.named Bd.method).1
  have X0 : Stand p l e rm (s.setVm s.vm) m args below meth c s₁ [] 0 0 := Stand.of_body Bd
  have e0 : s₁.heap = h := by rw [← hh, Bd.state]; rfl
  have hC0 : CHr Z EL s.vm s.heap s.vm h := by rw [hh]; exact CHr.refl hC
  obtain ⟨t, v, L', r1, r2, r3, r4, r5, r6, r7, r8, r9⟩ := body p e s m below meth c (by rw [← hZ.alike.findClass]; exact hown) Bd.bytes hml Bd.returns hnm hZ hC hO hsf s₁ [] 0 Bd.exec Bd.notSynchronized hEL X0 e0 ((State.WarmedH.refl s).since 0) (Nat.zero_le _) (Fr.nil _) hZ (fun _ => State.WarmedH.refl s) hC0 hO
  exact ⟨t, .returned v, castTop (hL m) r1, r2, r3, v, L', rfl, r4, r5, r6, r7, r9, r8⟩
theorem Ct.back {y : MethodName} {bytes : ByteArray} {maxL : Nat} {ret : Option FieldType} {rm : Room} {len W : Nat} {as : Array Value} {sf : List Addr} {Q' : Option Value → Vm → Heap → Prop} (hM : Ct l Z EL nw [] y bytes maxL ret rm as h sf Q')
    (hZ : Z.Warmed39 vm) (wc : (Jvm.Cond.code y bytes maxL ret).before a0 Z = true) (wz : (Jvm.Cond.initialized y.cls).before a0 Z = true) (hf : rm.frames + 1 ≤ R.frames) (hl : W + (maxL + 11) + rm.locals ≤ R.locals) (hEL : EW Z a0 EL) (H : CHv Z EL vm h) (hO : Ext Z.heap h) (hsf : ∀ x ∈ sf, h.size > x ∧ Safe Z EL vm h x) :
    BackS l R p e below (s.setVm vm) args y len W (fun A a => a = as ∧ A.U.heap = h ∧ A.cells + rm.cells ≤ R.cells ∧ A.slots + rm.slots ≤ R.slots)
      (fun A _ v B => ∃ L, B.locs = A.locs ++ L ∧ B.cells = A.cells + rm.cells ∧ B.slots = A.slots + rm.slots ∧ Fr Z.heap.size L ∧ Q' v B.U.vm B.U.heap ∧ CHr Z EL vm h B.U.vm B.U.heap ∧ Ext Z.heap B.U.heap ∧ (nw → (s.setVm vm).WarmedH B.U.vm)) :=
  BackS.of_freeW (bytes := bytes) (maxL := maxL) (ret := ret) (E := fun _ first o t L k n => k = rm.cells ∧ n = rm.slots ∧ ∃ v, o = .returned v ∧ Fr Z.heap.size L ∧ Q' v t.vm t.heap ∧ CHr Z EL first.vm first.heap t.vm t.heap ∧ Ext Z.heap t.heap ∧ (nw → first.WarmedH t.vm)) hM hf hl
    (fun m meth c A a Y hp => have hU : Z.Warmed39 A.U.vm := wtrans (s := s.setVm vm) hZ Y.warmed
      ⟨by show (Jvm.Cond.and _ .tt).before a A.U = true; rw [Cond.before_and, mv hU wc]; rfl, mv hU wc, mv hU wz, hp.2.2.1, hp.2.2.2⟩)
    (fun m meth c A a g mk Y hp => ⟨hp.1, wtrans (s := s.setVm vm) hZ Y.warmed, hp.2.1, (CHv.at Y hZ hEL H).1, hO, fun x hx => (CHv.at Y hZ hEL H).safe (hsf x hx).1 (hsf x hx).2⟩) (fun _ _ _ _ _ _ _ _ _ => trivial)
    (fun _ _ _ _ ⟨v, L, h1, h2, h3, h4, h5, h6, h7⟩ => ⟨L, _, _, h7, rfl, rfl, v, h1, h2, h3, h4, h5, h6⟩)
    (fun m meth c A a g mk v t L k n Y hp _ _ ⟨e1, e2, v', e3, e4, e5, e6, e7, e8⟩ => by
      cases e3; subst e1 e2
      refine ⟨L, rfl, rfl, rfl, e4, e5, (CHv.at Y hZ hEL H).trans ?_, e7, fun z => State.WarmedH.trans Y.warmed (e8 z)⟩
      rw [← hp.2.1]; exact e6)
theorem nf_warm {y : MethodName} (hZ : Z.Warmed39 vm) (nf : NotFace Z y) : NotFace (s.setVm vm) y := fun r0 hr => by
  have q : Z.methodNamed? y = some r0 := by
    have := State.methodNamed?_setVm (s := Z) (vm' := vm) hZ.alike y
    rw [← this]; exact hr
  obtain ⟨kr, h1, h2⟩ := nf r0 q
  obtain ⟨kr', g1, g2⟩ := hZ.alike.2.2 _ _ h1
  exact ⟨kr', g1, by rw [g2]; exact h2⟩
theorem Go.callS {own : String} {y : MethodName} {bytes : ByteArray} {maxL : Nat} {ret : Option FieldType} {rm : Room} {W index : Nat} {argsL : List Value} {as : Array Value} {sf : List Addr} {Q' : Option Value → Vm → Heap → Prop} (hM : Ct l Z EL nw [] y bytes maxL ret rm as h sf Q') (hown : Z.vm.findClass own = some m.cls) (w1 : (Jvm.Cond.methodLink own index y).before a0 Z = true) (w2 : (Jvm.Cond.static y).before a0 Z = true) (wc : (Jvm.Cond.code y bytes maxL ret).before a0 Z = true) (wz : (Jvm.Cond.initialized y.cls).before a0 Z = true)
    (hy : y.cls ≠ "java/lang/invoke/MethodHandle" ∧ y.cls ≠ "java/lang/invoke/VarHandle") (hlen : ∀ sig, parseMethodDescriptor y.desc = some sig → argsL.length = sig.parameters.length) (has : as = argsL.toArray) (hL : L.size = c.maxLocals) (hW : (st.map fun v => v.category).sum = W) (hd : decode c.code pc = .ok (.invokestatic index, 3)) (hp : pc + 3 = pc') (hf : rm.frames + 1 ≤ R.frames) (hl : W + (maxL + 11) + rm.locals ≤ R.locals) (hc1 : k + rm.cells ≤ R.cells) (hc2 : n + rm.slots ≤ R.slots) (hsf : ∀ x ∈ sf, h.size > x ∧ Safe Z EL vm h x)
    (K : ∀ (v : Option Value) (vm' : Vm) (h' : Heap), Q' v vm' h' → CHr Z EL vm h vm' h' → Go p l e R s m args below meth c Z a0 EL nw Q vm' h' (k + rm.cells) (n + rm.slots) pc' L (v.toList ++ st)) : Go p l e R s m args below meth c Z a0 EL nw Q vm h k n pc L (argsL.reverse ++ st) := fun T locs k0 hx hk hE X eT hS hk0 hF hZ hN hC hO => by
  subst hp has
  have hown' : (s.setVm vm).vm.findClass own = some m.cls := by
    show vm.findClass own = _
    rw [hZ.alike.findClass]; exact hown
  have hWW : 2 * (mkF m pc L (argsL.reverse ++ st)).monitorRoom + (st.map fun v => v.category).sum ≤ W := by show 2 * 0 + _ ≤ _; rw [Nat.mul_zero, Nat.zero_add]; exact Nat.le_of_eq hW
  have hB := fun len => Ct.back (p := p) (e := e) (below := below) (s := s) (args := args) (len := len) hM hZ wc wz hf hl hE hC.1 hO hsf
  obtain ⟨v, vm1, ⟨T', L1, k1, n1⟩, -, X', hS', hg', hP', st'⟩ := callSS X hx hown' (mv (s := s.setVm vm) hZ w1) (mv (s := s.setVm vm) hZ w2) (mv (s := s.setVm vm) hZ wz) (mv (s := s.setVm vm) hZ wc) hy (hB 3) (g := mkF m pc L (argsL.reverse ++ st)) rfl hL hlen rfl hWW hd (fun _ _ => ⟨rfl, eT, hc1, hc2⟩)
  dsimp only [Pt.U, Pt.locs, Pt.cells, Pt.slots] at X' hS' hg' hP' st'
  obtain ⟨L2, rfl, rfl, rfl, q1, q2, q3, q4, q5⟩ := hP'
  obtain ⟨t, v', L', r1, r2⟩ := K v T'.vm T'.heap q2 q3 T' _ _ hx hk hE X' rfl (hS.trans hS' (Nat.le_trans hk0 (by rw [← eT]; exact hg'))) (Nat.le_refl _) (Fr.app hF q1) (State.Warmed39.trans (t := s.setVm vm) hZ hS'.1) (fun z => State.WarmedH.trans (t := s.setVm vm) (hN z) (q5 z)) (hC.trans q3) q4
  exact ⟨t, v', L', st'.trans r1, r2⟩
theorem Go.callSN {own host : String} {y : MethodName} {bytes : ByteArray} {maxL : Nat} {ret : Option FieldType} {rm : Room} {W index : Nat} {argsL : List Value} {as : Array Value} {sf : List Addr} {Q' : Option Value → Vm → Heap → Prop} (hM : Ct l Z EL nw [] y bytes maxL ret rm as h sf Q') (hown : Z.vm.findClass own = some m.cls) (w1 : (Jvm.Cond.methodLinkNest own index y host).before a0 Z = true) (w2 : (Jvm.Cond.static y).before a0 Z = true) (wc : (Jvm.Cond.code y bytes maxL ret).before a0 Z = true) (wz : (Jvm.Cond.initialized y.cls).before a0 Z = true)
    (hy : y.cls ≠ "java/lang/invoke/MethodHandle" ∧ y.cls ≠ "java/lang/invoke/VarHandle") (hlen : ∀ sig, parseMethodDescriptor y.desc = some sig → argsL.length = sig.parameters.length) (has : as = argsL.toArray) (hL : L.size = c.maxLocals) (hW : (st.map fun v => v.category).sum = W) (hd : decode c.code pc = .ok (.invokestatic index, 3)) (hp : pc + 3 = pc') (hf : rm.frames + 1 ≤ R.frames) (hl : W + (maxL + 11) + rm.locals ≤ R.locals) (hc1 : k + rm.cells ≤ R.cells) (hc2 : n + rm.slots ≤ R.slots) (hsf : ∀ x ∈ sf, h.size > x ∧ Safe Z EL vm h x)
    (K : ∀ (v : Option Value) (vm' : Vm) (h' : Heap), Q' v vm' h' → CHr Z EL vm h vm' h' → Go p l e R s m args below meth c Z a0 EL nw Q vm' h' (k + rm.cells) (n + rm.slots) pc' L (v.toList ++ st)) : Go p l e R s m args below meth c Z a0 EL nw Q vm h k n pc L (argsL.reverse ++ st) := fun T locs k0 hx hk hE X eT hS hk0 hF hZ hN hC hO => by
  subst hp has
  have hown' : (s.setVm vm).vm.findClass own = some m.cls := by
    show vm.findClass own = _
    rw [hZ.alike.findClass]; exact hown
  have hWW : 2 * (mkF m pc L (argsL.reverse ++ st)).monitorRoom + (st.map fun v => v.category).sum ≤ W := by show 2 * 0 + _ ≤ _; rw [Nat.mul_zero, Nat.zero_add]; exact Nat.le_of_eq hW
  have hB := fun len => Ct.back (p := p) (e := e) (below := below) (s := s) (args := args) (len := len) hM hZ wc wz hf hl hE hC.1 hO hsf
  obtain ⟨v, vm1, ⟨T', L1, k1, n1⟩, -, X', hS', hg', hP', st'⟩ := callSNS X hx hown' (Cond.methodLinkNest_wide hZ w1 :) (mv (s := s.setVm vm) hZ w2) (mv (s := s.setVm vm) hZ wz) (mv (s := s.setVm vm) hZ wc) hy (hB 3) (g := mkF m pc L (argsL.reverse ++ st)) rfl hL hlen rfl hWW hd (fun _ _ => ⟨rfl, eT, hc1, hc2⟩)
  dsimp only [Pt.U, Pt.locs, Pt.cells, Pt.slots] at X' hS' hg' hP' st'
  obtain ⟨L2, rfl, rfl, rfl, q1, q2, q3, q4, q5⟩ := hP'
  obtain ⟨t, v', L', r1, r2⟩ := K v T'.vm T'.heap q2 q3 T' _ _ hx hk hE X' rfl (hS.trans hS' (Nat.le_trans hk0 (by rw [← eT]; exact hg'))) (Nat.le_refl _) (Fr.app hF q1) (State.Warmed39.trans (t := s.setVm vm) hZ hS'.1) (fun z => State.WarmedH.trans (t := s.setVm vm) (hN z) (q5 z)) (hC.trans q3) q4
  exact ⟨t, v', L', st'.trans r1, r2⟩
theorem Go.callC {own : String} {a : Addr} {y : MethodName} {bytes : ByteArray} {maxL : Nat} {ret : Option FieldType} {rm : Room} {W index : Nat} {argsL : List Value} {as : Array Value} {sf : List Addr} {Q' : Option Value → Vm → Heap → Prop} (hM : Ct l Z EL nw [] y bytes maxL ret rm as h sf Q') (hown : Z.vm.findClass own = some m.cls) (hret0 : ret = none) (hinit : y.name = "<init>") (w1 : (Jvm.Cond.methodLink own index y).before a0 Z = true) (w2 : (Jvm.Cond.instanceMethod y).before a0 Z = true) (wc : (Jvm.Cond.code y bytes maxL ret).before a0 Z = true) (wz : (Jvm.Cond.initialized y.cls).before a0 Z = true)
    (hy : y.cls ≠ "java/lang/invoke/MethodHandle" ∧ y.cls ≠ "java/lang/invoke/VarHandle") (hlen : ∀ sig, parseMethodDescriptor y.desc = some sig → argsL.length = sig.parameters.length) (has : as = (.ref a :: argsL).toArray) (hL : L.size = c.maxLocals) (hW : (st.map fun v => v.category).sum = W) (hd : decode c.code pc = .ok (.invokespecial index, 3)) (hp : pc + 3 = pc') (hf : rm.frames + 1 ≤ R.frames) (hl : W + (maxL + 11) + rm.locals ≤ R.locals) (hc1 : k + rm.cells ≤ R.cells) (hc2 : n + rm.slots ≤ R.slots) (hsf : ∀ x ∈ sf, h.size > x ∧ Safe Z EL vm h x)
    (K : ∀ (v : Option Value) (vm' : Vm) (h' : Heap), Q' v vm' h' → CHr Z EL vm h vm' h' → Go p l e R s m args below meth c Z a0 EL nw Q vm' h' (k + rm.cells) (n + rm.slots) pc' L (v.toList ++ st)) : Go p l e R s m args below meth c Z a0 EL nw Q vm h k n pc L (argsL.reverse ++ .ref a :: st) := fun T locs k0 hx hk hE X eT hS hk0 hF hZ hN hC hO => by
  subst hp has
  have hown' : (s.setVm vm).vm.findClass own = some m.cls := by
    show vm.findClass own = _
    rw [hZ.alike.findClass]; exact hown
  have hWW : 2 * (mkF m pc L (argsL.reverse ++ .ref a :: st)).monitorRoom + (st.map fun v => v.category).sum ≤ W := by show 2 * 0 + _ ≤ _; rw [Nat.mul_zero, Nat.zero_add]; exact Nat.le_of_eq hW
  have hB := fun len => Ct.back (p := p) (e := e) (below := below) (s := s) (args := args) (len := len) hM hZ wc wz hf hl hE hC.1 hO hsf
  subst hret0
  obtain ⟨v, vm1, ⟨T', L1, k1, n1⟩, -, X', hS', hg', hP', st'⟩ := X.specialBackS hx hinit hown' (mv (s := s.setVm vm) hZ w1) (mv (s := s.setVm vm) hZ w2) (mv (s := s.setVm vm) hZ wc) hy (hB 3) (g := mkF m pc L (argsL.reverse ++ .ref a :: st)) rfl hL (Steps.refl _) (a := a) (argsL := argsL) (rest := st) hlen rfl hWW hd (fun _ _ => ⟨rfl, eT, hc1, hc2⟩)
  dsimp only [Pt.U, Pt.locs, Pt.cells, Pt.slots] at X' hS' hg' hP' st'
  obtain ⟨L2, rfl, rfl, rfl, q1, q2, q3, q4, q5⟩ := hP'
  obtain ⟨t, v', L', r1, r2⟩ := K v T'.vm T'.heap q2 q3 T' _ _ hx hk hE X' rfl (hS.trans hS' (Nat.le_trans hk0 (by rw [← eT]; exact hg'))) (Nat.le_refl _) (Fr.app hF q1) (State.Warmed39.trans (t := s.setVm vm) hZ hS'.1) (fun z => State.WarmedH.trans (t := s.setVm vm) (hN z) (q5 z)) (hC.trans q3) q4
  exact ⟨t, v', L', st'.trans r1, r2⟩
theorem Go.callCN {own host : String} {a : Addr} {y : MethodName} {bytes : ByteArray} {maxL : Nat} {ret : Option FieldType} {rm : Room} {W index : Nat} {argsL : List Value} {as : Array Value} {sf : List Addr} {Q' : Option Value → Vm → Heap → Prop} (hM : Ct l Z EL nw [] y bytes maxL ret rm as h sf Q') (hown : Z.vm.findClass own = some m.cls) (hret0 : ret = none) (hinit : y.name = "<init>") (w1 : (Jvm.Cond.methodLinkNest own index y host).before a0 Z = true) (w2 : (Jvm.Cond.instanceMethod y).before a0 Z = true) (wc : (Jvm.Cond.code y bytes maxL ret).before a0 Z = true) (wz : (Jvm.Cond.initialized y.cls).before a0 Z = true)
    (hy : y.cls ≠ "java/lang/invoke/MethodHandle" ∧ y.cls ≠ "java/lang/invoke/VarHandle") (hlen : ∀ sig, parseMethodDescriptor y.desc = some sig → argsL.length = sig.parameters.length) (has : as = (.ref a :: argsL).toArray) (hL : L.size = c.maxLocals) (hW : (st.map fun v => v.category).sum = W) (hd : decode c.code pc = .ok (.invokespecial index, 3)) (hp : pc + 3 = pc') (hf : rm.frames + 1 ≤ R.frames) (hl : W + (maxL + 11) + rm.locals ≤ R.locals) (hc1 : k + rm.cells ≤ R.cells) (hc2 : n + rm.slots ≤ R.slots) (hsf : ∀ x ∈ sf, h.size > x ∧ Safe Z EL vm h x)
    (K : ∀ (v : Option Value) (vm' : Vm) (h' : Heap), Q' v vm' h' → CHr Z EL vm h vm' h' → Go p l e R s m args below meth c Z a0 EL nw Q vm' h' (k + rm.cells) (n + rm.slots) pc' L (v.toList ++ st)) : Go p l e R s m args below meth c Z a0 EL nw Q vm h k n pc L (argsL.reverse ++ .ref a :: st) := fun T locs k0 hx hk hE X eT hS hk0 hF hZ hN hC hO => by
  subst hp has
  have hown' : (s.setVm vm).vm.findClass own = some m.cls := by
    show vm.findClass own = _
    rw [hZ.alike.findClass]; exact hown
  have hWW : 2 * (mkF m pc L (argsL.reverse ++ .ref a :: st)).monitorRoom + (st.map fun v => v.category).sum ≤ W := by show 2 * 0 + _ ≤ _; rw [Nat.mul_zero, Nat.zero_add]; exact Nat.le_of_eq hW
  have hB := fun len => Ct.back (p := p) (e := e) (below := below) (s := s) (args := args) (len := len) hM hZ wc wz hf hl hE hC.1 hO hsf
  subst hret0
  obtain ⟨v, vm1, ⟨T', L1, k1, n1⟩, -, X', hS', hg', hP', st'⟩ := X.specialBackNestS hx hinit hown' (Cond.methodLinkNest_wide hZ w1 :) (mv (s := s.setVm vm) hZ w2) (mv (s := s.setVm vm) hZ wc) hy (hB 3) (g := mkF m pc L (argsL.reverse ++ .ref a :: st)) rfl hL (Steps.refl _) (a := a) (argsL := argsL) (rest := st) hlen rfl hWW hd (fun _ _ => ⟨rfl, eT, hc1, hc2⟩)
  dsimp only [Pt.U, Pt.locs, Pt.cells, Pt.slots] at X' hS' hg' hP' st'
  obtain ⟨L2, rfl, rfl, rfl, q1, q2, q3, q4, q5⟩ := hP'
  obtain ⟨t, v', L', r1, r2⟩ := K v T'.vm T'.heap q2 q3 T' _ _ hx hk hE X' rfl (hS.trans hS' (Nat.le_trans hk0 (by rw [← eT]; exact hg'))) (Nat.le_refl _) (Fr.app hF q1) (State.Warmed39.trans (t := s.setVm vm) hZ hS'.1) (fun z => State.WarmedH.trans (t := s.setVm vm) (hN z) (q5 z)) (hC.trans q3) q4
  exact ⟨t, v', L', st'.trans r1, r2⟩
theorem Go.callV {own C : String} {a : Addr} {y0 : MethodName} {y : MethodName} {bytes : ByteArray} {maxL : Nat} {ret : Option FieldType} {rm : Room} {W index : Nat} {argsL : List Value} {as : Array Value} {sf : List Addr} {Q' : Option Value → Vm → Heap → Prop} (hM : Ct l Z EL nw [] y bytes maxL ret rm as h sf Q') (hown : Z.vm.findClass own = some m.cls) (w1 : (Jvm.Cond.methodLink own index y0).before a0 Z = true) (w2 : (Jvm.Cond.declares y0).before a0 Z = true) (nf : NotFace Z y0) (w3 : (Jvm.Cond.selects C y0 y).before a0 Z = true) (w4 : (Jvm.Cond.instanceMethod y).before a0 Z = true) (E : Exa Z h a C) (wc : (Jvm.Cond.code y bytes maxL ret).before a0 Z = true) (wz : (Jvm.Cond.initialized y.cls).before a0 Z = true)
    (hy : y0.cls ≠ "java/lang/invoke/MethodHandle" ∧ y0.cls ≠ "java/lang/invoke/VarHandle") (hlen : ∀ sig, parseMethodDescriptor y0.desc = some sig → argsL.length = sig.parameters.length) (has : as = (.ref a :: argsL).toArray) (hL : L.size = c.maxLocals) (hW : (st.map fun v => v.category).sum = W) (hd : decode c.code pc = .ok (.invokevirtual index, 3)) (hp : pc + 3 = pc') (hf : rm.frames + 1 ≤ R.frames) (hl : W + (maxL + 11) + rm.locals ≤ R.locals) (hc1 : k + rm.cells ≤ R.cells) (hc2 : n + rm.slots ≤ R.slots) (hsf : ∀ x ∈ sf, h.size > x ∧ Safe Z EL vm h x)
    (K : ∀ (v : Option Value) (vm' : Vm) (h' : Heap), Q' v vm' h' → CHr Z EL vm h vm' h' → Go p l e R s m args below meth c Z a0 EL nw Q vm' h' (k + rm.cells) (n + rm.slots) pc' L (v.toList ++ st)) : Go p l e R s m args below meth c Z a0 EL nw Q vm h k n pc L (argsL.reverse ++ .ref a :: st) := fun T locs k0 hx hk hE X eT hS hk0 hF hZ hN hC hO => by
  subst hp has
  have hown' : (s.setVm vm).vm.findClass own = some m.cls := by
    show vm.findClass own = _
    rw [hZ.alike.findClass]; exact hown
  have hWW : 2 * (mkF m pc L (argsL.reverse ++ .ref a :: st)).monitorRoom + (st.map fun v => v.category).sum ≤ W := by show 2 * 0 + _ ≤ _; rw [Nat.mul_zero, Nat.zero_add]; exact Nat.le_of_eq hW
  have hB := fun len => Ct.back (p := p) (e := e) (below := below) (s := s) (args := args) (len := len) hM hZ wc wz hf hl hE hC.1 hO hsf
  obtain ⟨cB, kB, qa, qb, qc⟩ := isOf (s := s.setVm vm) (T := T) hZ eT E
  obtain ⟨v, vm1, ⟨T', L1, k1, n1⟩, -, X', hS', hg', hP', st'⟩ := X.virtualBackS hx hown' (mv (s := s.setVm vm) hZ w1) (mv (s := s.setVm vm) hZ w2) (nf_warm hZ nf) (mv (s := s.setVm vm) hZ w3) (mv (s := s.setVm vm) hZ w4) hy (hB 3) qa qc (g := mkF m pc L (argsL.reverse ++ .ref a :: st)) rfl hL (Steps.refl _) (argsL := argsL) (rest := st) hlen rfl hWW hd (fun _ _ => ⟨rfl, eT, hc1, hc2⟩)
  dsimp only [Pt.U, Pt.locs, Pt.cells, Pt.slots] at X' hS' hg' hP' st'
  obtain ⟨L2, rfl, rfl, rfl, q1, q2, q3, q4, q5⟩ := hP'
  obtain ⟨t, v', L', r1, r2⟩ := K v T'.vm T'.heap q2 q3 T' _ _ hx hk hE X' rfl (hS.trans hS' (Nat.le_trans hk0 (by rw [← eT]; exact hg'))) (Nat.le_refl _) (Fr.app hF q1) (State.Warmed39.trans (t := s.setVm vm) hZ hS'.1) (fun z => State.WarmedH.trans (t := s.setVm vm) (hN z) (q5 z)) (hC.trans q3) q4
  exact ⟨t, v', L', st'.trans r1, r2⟩
theorem Go.callVU {own C owner : String} {a : Addr} {y0 : MethodName} {y : MethodName} {bytes : ByteArray} {maxL : Nat} {ret : Option FieldType} {rm : Room} {W index : Nat} {argsL : List Value} {as : Array Value} {sf : List Addr} {Q' : Option Value → Vm → Heap → Prop} (hM : Ct l Z EL nw [] y bytes maxL ret rm as h sf Q') (hown : Z.vm.findClass own = some m.cls) (w1 : (Jvm.Cond.methodLink own index y0).before a0 Z = true) (w2 : (Jvm.Cond.sameMethod y0.cls owner y0.name y0.desc).before a0 Z = true) (w5 : (Jvm.Cond.declares ⟨owner, y0.name, y0.desc⟩).before a0 Z = true) (w3 : (Jvm.Cond.selects C y0 y).before a0 Z = true) (w4 : (Jvm.Cond.instanceMethod y).before a0 Z = true) (E : Exa Z h a C) (wc : (Jvm.Cond.code y bytes maxL ret).before a0 Z = true) (wz : (Jvm.Cond.initialized y.cls).before a0 Z = true)
    (hy : owner ≠ "java/lang/invoke/MethodHandle" ∧ owner ≠ "java/lang/invoke/VarHandle") (hlen : ∀ sig, parseMethodDescriptor y0.desc = some sig → argsL.length = sig.parameters.length) (has : as = (.ref a :: argsL).toArray) (hL : L.size = c.maxLocals) (hW : (st.map fun v => v.category).sum = W) (hd : decode c.code pc = .ok (.invokevirtual index, 3)) (hp : pc + 3 = pc') (hf : rm.frames + 1 ≤ R.frames) (hl : W + (maxL + 11) + rm.locals ≤ R.locals) (hc1 : k + rm.cells ≤ R.cells) (hc2 : n + rm.slots ≤ R.slots) (hsf : ∀ x ∈ sf, h.size > x ∧ Safe Z EL vm h x)
    (K : ∀ (v : Option Value) (vm' : Vm) (h' : Heap), Q' v vm' h' → CHr Z EL vm h vm' h' → Go p l e R s m args below meth c Z a0 EL nw Q vm' h' (k + rm.cells) (n + rm.slots) pc' L (v.toList ++ st)) : Go p l e R s m args below meth c Z a0 EL nw Q vm h k n pc L (argsL.reverse ++ .ref a :: st) := fun T locs k0 hx hk hE X eT hS hk0 hF hZ hN hC hO => by
  subst hp has
  have hown' : (s.setVm vm).vm.findClass own = some m.cls := by
    show vm.findClass own = _
    rw [hZ.alike.findClass]; exact hown
  have hWW : 2 * (mkF m pc L (argsL.reverse ++ .ref a :: st)).monitorRoom + (st.map fun v => v.category).sum ≤ W := by show 2 * 0 + _ ≤ _; rw [Nat.mul_zero, Nat.zero_add]; exact Nat.le_of_eq hW
  have hB := fun len => Ct.back (p := p) (e := e) (below := below) (s := s) (args := args) (len := len) hM hZ wc wz hf hl hE hC.1 hO hsf
  obtain ⟨cB, kB, qa, qb, qc⟩ := isOf (s := s.setVm vm) (T := T) hZ eT E
  obtain ⟨v, vm1, ⟨T', L1, k1, n1⟩, -, X', hS', hg', hP', st'⟩ := X.virtualBackUpS hx hown' (mv (s := s.setVm vm) hZ w1) (mv (s := s.setVm vm) hZ w2) (mv (s := s.setVm vm) hZ w5) hy (mv (s := s.setVm vm) hZ w3) (mv (s := s.setVm vm) hZ w4) (hB 3) qa qc (g := mkF m pc L (argsL.reverse ++ .ref a :: st)) rfl hL (Steps.refl _) (argsL := argsL) (rest := st) hlen rfl hWW hd (fun _ _ => ⟨rfl, eT, hc1, hc2⟩)
  dsimp only [Pt.U, Pt.locs, Pt.cells, Pt.slots] at X' hS' hg' hP' st'
  obtain ⟨L2, rfl, rfl, rfl, q1, q2, q3, q4, q5⟩ := hP'
  obtain ⟨t, v', L', r1, r2⟩ := K v T'.vm T'.heap q2 q3 T' _ _ hx hk hE X' rfl (hS.trans hS' (Nat.le_trans hk0 (by rw [← eT]; exact hg'))) (Nat.le_refl _) (Fr.app hF q1) (State.Warmed39.trans (t := s.setVm vm) hZ hS'.1) (fun z => State.WarmedH.trans (t := s.setVm vm) (hN z) (q5 z)) (hC.trans q3) q4
  exact ⟨t, v', L', st'.trans r1, r2⟩
theorem Go.callI {own C : String} {a : Addr} {count : Nat} {y0 : MethodName} {y : MethodName} {bytes : ByteArray} {maxL : Nat} {ret : Option FieldType} {rm : Room} {W index : Nat} {argsL : List Value} {as : Array Value} {sf : List Addr} {Q' : Option Value → Vm → Heap → Prop} (hM : Ct l Z EL nw [] y bytes maxL ret rm as h sf Q') (hown : Z.vm.findClass own = some m.cls) (w1 : (Jvm.Cond.methodLink own index y0).before a0 Z = true) (w2 : (Jvm.Cond.declares y0).before a0 Z = true) (w5 : (Jvm.Cond.interfaceMethod y0.cls y0.cls y0.name y0.desc).before a0 Z = true) (w3 : (Jvm.Cond.selects C y0 y).before a0 Z = true) (w4 : (Jvm.Cond.instanceMethod y).before a0 Z = true) (w6 : (Jvm.Cond.publicMethod y).before a0 Z = true) (w7 : (Jvm.Cond.unhidden C y0.name y0.desc).before a0 Z = true) (w8 : (Jvm.Cond.castable C y0.cls).before a0 Z = true) (h5 : ((Jvm.Cond.interfaceMethod y0.cls y0.cls y0.name y0.desc).onTables && (Jvm.Cond.interfaceMethod y0.cls y0.cls y0.name y0.desc).keepsFace) = true) (E : Exa Z h a C) (wc : (Jvm.Cond.code y bytes maxL ret).before a0 Z = true) (wz : (Jvm.Cond.initialized y.cls).before a0 Z = true)
    (hy : y0.cls ≠ "java/lang/invoke/MethodHandle" ∧ y0.cls ≠ "java/lang/invoke/VarHandle") (hlen : ∀ sig, parseMethodDescriptor y0.desc = some sig → argsL.length = sig.parameters.length) (has : as = (.ref a :: argsL).toArray) (hL : L.size = c.maxLocals) (hW : (st.map fun v => v.category).sum = W) (hd : decode c.code pc = .ok (.invokeinterface index count, 5)) (hp : pc + 5 = pc') (hf : rm.frames + 1 ≤ R.frames) (hl : W + (maxL + 11) + rm.locals ≤ R.locals) (hc1 : k + rm.cells ≤ R.cells) (hc2 : n + rm.slots ≤ R.slots) (hsf : ∀ x ∈ sf, h.size > x ∧ Safe Z EL vm h x)
    (K : ∀ (v : Option Value) (vm' : Vm) (h' : Heap), Q' v vm' h' → CHr Z EL vm h vm' h' → Go p l e R s m args below meth c Z a0 EL nw Q vm' h' (k + rm.cells) (n + rm.slots) pc' L (v.toList ++ st)) : Go p l e R s m args below meth c Z a0 EL nw Q vm h k n pc L (argsL.reverse ++ .ref a :: st) := fun T locs k0 hx hk hE X eT hS hk0 hF hZ hN hC hO => by
  subst hp has
  have hown' : (s.setVm vm).vm.findClass own = some m.cls := by
    show vm.findClass own = _
    rw [hZ.alike.findClass]; exact hown
  have hWW : 2 * (mkF m pc L (argsL.reverse ++ .ref a :: st)).monitorRoom + (st.map fun v => v.category).sum ≤ W := by show 2 * 0 + _ ≤ _; rw [Nat.mul_zero, Nat.zero_add]; exact Nat.le_of_eq hW
  have hB := fun len => Ct.back (p := p) (e := e) (below := below) (s := s) (args := args) (len := len) hM hZ wc wz hf hl hE hC.1 hO hsf
  obtain ⟨cB, kB, qa, qb, qc⟩ := isOf (s := s.setVm vm) (T := T) hZ eT E
  obtain ⟨v, vm1, ⟨T', L1, k1, n1⟩, -, X', hS', hg', hP', st'⟩ := X.interfaceBackS hx hown' (mv (s := s.setVm vm) hZ w1) (mv (s := s.setVm vm) hZ w2) (mv (s := s.setVm vm) hZ w5 h5) (mv (s := s.setVm vm) hZ w3) (mv (s := s.setVm vm) hZ w4) (mv (s := s.setVm vm) hZ w6) (mv (s := s.setVm vm) hZ w7) (mv (s := s.setVm vm) hZ w8) hy (hB 5) qa qb qc (g := mkF m pc L (argsL.reverse ++ .ref a :: st)) rfl hL (Steps.refl _) (argsL := argsL) (rest := st) hlen rfl hWW hd (fun _ _ => ⟨rfl, eT, hc1, hc2⟩)
  dsimp only [Pt.U, Pt.locs, Pt.cells, Pt.slots] at X' hS' hg' hP' st'
  obtain ⟨L2, rfl, rfl, rfl, q1, q2, q3, q4, q5⟩ := hP'
  obtain ⟨t, v', L', r1, r2⟩ := K v T'.vm T'.heap q2 q3 T' _ _ hx hk hE X' rfl (hS.trans hS' (Nat.le_trans hk0 (by rw [← eT]; exact hg'))) (Nat.le_refl _) (Fr.app hF q1) (State.Warmed39.trans (t := s.setVm vm) hZ hS'.1) (fun z => State.WarmedH.trans (t := s.setVm vm) (hN z) (q5 z)) (hC.trans q3) q4
  exact ⟨t, v', L', st'.trans r1, r2⟩
theorem Go.callP {own C : String} {a : Addr} {y : MethodName} {bytes : ByteArray} {maxL : Nat} {ret : Option FieldType} {rm : Room} {W index : Nat} {argsL : List Value} {as : Array Value} {sf : List Addr} {Q' : Option Value → Vm → Heap → Prop} (hM : Ct l Z EL nw [] y bytes maxL ret rm as h sf Q') (hown : Z.vm.findClass own = some m.cls) (w1 : (Jvm.Cond.methodLink own index y).before a0 Z = true) (w2 : (Jvm.Cond.instanceMethod y).before a0 Z = true) (w3 : (Jvm.Cond.selects y.cls y y).before a0 Z = true) (w4 : (Jvm.Cond.privateMethod y).before a0 Z = true) (E : Exa Z h a C) (wc : (Jvm.Cond.code y bytes maxL ret).before a0 Z = true) (wz : (Jvm.Cond.initialized y.cls).before a0 Z = true)
    (hy : y.cls ≠ "java/lang/invoke/MethodHandle" ∧ y.cls ≠ "java/lang/invoke/VarHandle") (hlen : ∀ sig, parseMethodDescriptor y.desc = some sig → argsL.length = sig.parameters.length) (has : as = (.ref a :: argsL).toArray) (hL : L.size = c.maxLocals) (hW : (st.map fun v => v.category).sum = W) (hd : decode c.code pc = .ok (.invokevirtual index, 3)) (hp : pc + 3 = pc') (hf : rm.frames + 1 ≤ R.frames) (hl : W + (maxL + 11) + rm.locals ≤ R.locals) (hc1 : k + rm.cells ≤ R.cells) (hc2 : n + rm.slots ≤ R.slots) (hsf : ∀ x ∈ sf, h.size > x ∧ Safe Z EL vm h x)
    (K : ∀ (v : Option Value) (vm' : Vm) (h' : Heap), Q' v vm' h' → CHr Z EL vm h vm' h' → Go p l e R s m args below meth c Z a0 EL nw Q vm' h' (k + rm.cells) (n + rm.slots) pc' L (v.toList ++ st)) : Go p l e R s m args below meth c Z a0 EL nw Q vm h k n pc L (argsL.reverse ++ .ref a :: st) := fun T locs k0 hx hk hE X eT hS hk0 hF hZ hN hC hO => by
  subst hp has
  have hown' : (s.setVm vm).vm.findClass own = some m.cls := by
    show vm.findClass own = _
    rw [hZ.alike.findClass]; exact hown
  have hWW : 2 * (mkF m pc L (argsL.reverse ++ .ref a :: st)).monitorRoom + (st.map fun v => v.category).sum ≤ W := by show 2 * 0 + _ ≤ _; rw [Nat.mul_zero, Nat.zero_add]; exact Nat.le_of_eq hW
  have hB := fun len => Ct.back (p := p) (e := e) (below := below) (s := s) (args := args) (len := len) hM hZ wc wz hf hl hE hC.1 hO hsf
  obtain ⟨cq, q1', q2'⟩ := E.cell
  obtain ⟨v, vm1, ⟨T', L1, k1, n1⟩, -, X', hS', hg', hP', st'⟩ := X.privateBackS hx hown' (mv (s := s.setVm vm) hZ w1) (mv (s := s.setVm vm) hZ w2) (mv (s := s.setVm vm) hZ w3) (Cond.privateMethod_at (mvP (s := s.setVm vm) hZ w4 (args := #[]))) (mv (s := s.setVm vm) hZ wc) hy (hB 3) (g := mkF m pc L (argsL.reverse ++ .ref a :: st)) rfl hL (Steps.refl _) (a := a) (cell := cq) (by rw [eT]; exact q1') q2' (argsL := argsL) (rest := st) hlen rfl hWW hd (fun _ _ => ⟨rfl, eT, hc1, hc2⟩)
  dsimp only [Pt.U, Pt.locs, Pt.cells, Pt.slots] at X' hS' hg' hP' st'
  obtain ⟨L2, rfl, rfl, rfl, q1, q2, q3, q4, q5⟩ := hP'
  obtain ⟨t, v', L', r1, r2⟩ := K v T'.vm T'.heap q2 q3 T' _ _ hx hk hE X' rfl (hS.trans hS' (Nat.le_trans hk0 (by rw [← eT]; exact hg'))) (Nat.le_refl _) (Fr.app hF q1) (State.Warmed39.trans (t := s.setVm vm) hZ hS'.1) (fun z => State.WarmedH.trans (t := s.setVm vm) (hN z) (q5 z)) (hC.trans q3) q4
  exact ⟨t, v', L', st'.trans r1, r2⟩
end Walk
end Jvm.Own
namespace Jvm.Own
open Sem ClassFile Op Lib Jvm.Free Jvm.Stand Jvm.LawKit Jvm.RoadKit Bundle
theorem nc255 (x : Int32) : nar .char (x &&& 255) = x &&& 255 := i2c_mask x
theorem and_toInt (x : Int32) (m : Nat) (hm : m < 2 ^ 31) : 0 ≤ (x &&& Int32.ofNat m).toInt ∧ (x &&& Int32.ofNat m).toInt ≤ m := by
  have e : (x &&& Int32.ofNat m).toInt = (x.toBitVec &&& BitVec.ofNat 32 m).toInt := rfl
  have h1 : (x.toBitVec &&& BitVec.ofNat 32 m).toNat ≤ m := by
    rw [BitVec.toNat_and]
    refine Nat.le_trans Nat.and_le_right ?_
    rw [BitVec.toNat_ofNat]; exact Nat.mod_le _ _
  rw [e, BitVec.toInt_eq_toNat_of_lt (by omega)]
  omega
theorem m255 (x : Int32) : 0 ≤ (x &&& 255).toInt ∧ (x &&& 255).toInt ≤ 255 := and_toInt x 255 (by decide)
theorem al0 {P : Int32 → Prop} : ∀ x ∈ ([] : List Int32), P x := fun _ h => nomatch h
theorem alS {P : Int32 → Prop} {y : Int32} {L : List Int32} (q : P y) (r : ∀ x ∈ L, P x) : ∀ x ∈ y :: L, P x := fun x hx => (List.mem_cons.mp hx).elim (fun e => e ▸ q) (r x)
/-- the byte that a char becomes -/
def by8 (c : Int32) : Int32 := c.toInt8.toInt32
theorem toInt_nat {n : Nat} (h : n < 2 ^ 31) : n.toInt32.toInt = n := Int32.toInt_ofNat_small h
theorem clamp_nat {n : Nat} (h : n < 2 ^ 31) : n.toInt32.toNatClampNeg = n := by
  rw [← Int32.toNat_toInt, toInt_nat h]; rfl
theorem lt32 {i n : Nat} (hi : i < 2 ^ 31) (hn : n < 2 ^ 31) : i.toInt32 < n.toInt32 ↔ i < n := by
  rw [Int32.lt_iff_toInt_lt, toInt_nat hi, toInt_nat hn]; omega
theorem nneg32 {n : Nat} (h : n < 2 ^ 31) : ¬ n.toInt32 < 0 := by
  rw [Int32.lt_iff_toInt_lt, toInt_nat h]
  have e0 : (0 : Int32).toInt = 0 := rfl
  omega
theorem succ32 (i : Nat) : i.toInt32 + 1 = (i + 1).toInt32 := (Int32.ofNat_add i 1).symm
theorem eq32 {i n : Nat} (hi : i < 2 ^ 31) (hn : n < 2 ^ 31) : i.toInt32 = n.toInt32 ↔ i = n := by
  constructor
  · intro q
    have := congrArg Int32.toInt q
    rw [toInt_nat hi, toInt_nat hn] at this; omega
  · rintro rfl; rfl
theorem nz32 {n : Nat} (h : n < 2 ^ 31) (h0 : 0 < n) : ¬ n.toInt32 = 0 := fun q => by
  have := (eq32 (n := 0) h (by decide)).mp q; omega
theorem nar_by8 (c : Int32) : nar .byte (c.toInt8.toInt32) = by8 c := by
  show (c.toInt8.toInt32).toInt8.toInt32 = _
  simp [by8]
theorem sub0 (x : Int32) : x - x = 0 := by simp
theorem cache_ix {z : Int32} (h1 : ¬ z < -128) (h2 : ¬ (127 : Int32) < z) : ¬ (z + 128) < 0 ∧ (z + 128).toNatClampNeg < 256 := by
  rw [Int32.lt_iff_toInt_lt] at h1 h2
  have e1 : (-128 : Int32).toInt = -128 := rfl
  have e2 : (127 : Int32).toInt = 127 := rfl
  have e3 : (128 : Int32).toInt = 128 := rfl
  have e0 : (0 : Int32).toInt = 0 := rfl
  have q : (z + 128).toInt = z.toInt + 128 := by
    rw [Int32.toInt_add, e3]
    exact Int.bmod_eq_of_le (by omega) (by omega)
  refine ⟨?_, ?_⟩
  · rw [Int32.lt_iff_toInt_lt, q]; omega
  · rw [← Int32.toNat_toInt, q]; omega
theorem cache_ixL {z : Int64} (h1 : ¬ XT.cmpL z (-128) < 0) (h2 : ¬ (0 : Int32) < XT.cmpL z 127) : ¬ (z.toInt32 + 128) < 0 ∧ (z.toInt32 + 128).toNatClampNeg < 256 := by
  have g1 : ¬ z < -128 := fun q => h1 (by
    have a : ¬ (-128 : Int64) < z := fun r => by rw [Int64.lt_iff_toInt_lt] at q r; omega
    have b : ¬ z = -128 := fun r => by rw [r] at q; exact absurd q (by decide)
    rw [XT.cmpL, if_neg a, if_neg b]; decide)
  have g2 : ¬ (127 : Int64) < z := fun q => h2 (by rw [XT.cmpL, if_pos q]; decide)
  rw [Int64.lt_iff_toInt_lt] at g1 g2
  have e1 : (-128 : Int64).toInt = -128 := rfl
  have e2 : (127 : Int64).toInt = 127 := rfl
  have e3 : z.toInt32.toInt = z.toInt := by
    rw [Int64.toInt_toInt32]; exact Int.bmod_eq_of_le (by omega) (by omega)
  refine cache_ix ?_ ?_
  · rw [Int32.lt_iff_toInt_lt, e3]
    have : (-128 : Int32).toInt = -128 := rfl
    omega
  · rw [Int32.lt_iff_toInt_lt, e3]
    have : (127 : Int32).toInt = 127 := rfl
    omega
/-- true and false as ints -/
def bo (q : Prop) [Decidable q] : Int32 := if q then 1 else 0
theorem bo_yes {q : Prop} [Decidable q] (h : q) : bo q = 1 := if_pos h
theorem bo_no {q : Prop} [Decidable q] (h : ¬ q) : bo q = 0 := if_neg h
theorem bo_nar {q : Prop} [Decidable q] : nar .boolean (bo q) = bo q := by unfold bo; split <;> rfl
theorem bo_ne0 {q : Prop} [Decidable q] : (¬ bo q = 0) ↔ q := by unfold bo; split <;> simp_all
theorem bo_cases {q : Prop} [Decidable q] : q ∧ bo q = 1 ∨ ¬ q ∧ bo q = 0 := by by_cases h : q <;> simp [bo, h]
theorem bo_congr {p q : Prop} [Decidable p] [Decidable q] (h : p ↔ q) : bo p = bo q := by unfold bo; simp [h]
theorem toInt_eq {x : Int32} {n : Int} (h : x.toInt = n) : x = Int32.ofInt n := by rw [← h, Int32.ofInt_toInt]
theorem and3 (x : Int32) : x &&& 3 = 0 ∨ x &&& 3 = 1 ∨ x &&& 3 = 2 ∨ x &&& 3 = 3 := by
  have h := and_toInt x 3 (by decide)
  have e : (x &&& Int32.ofNat 3) = x &&& 3 := rfl
  rw [e] at h
  have : (x &&& 3).toInt = 0 ∨ (x &&& 3).toInt = 1 ∨ (x &&& 3).toInt = 2 ∨ (x &&& 3).toInt = 3 := by omega
  rcases this with q | q | q | q
  · exact Or.inl (toInt_eq q)
  · exact Or.inr (Or.inl (toInt_eq q))
  · exact Or.inr (Or.inr (Or.inl (toInt_eq q)))
  · exact Or.inr (Or.inr (Or.inr (toInt_eq q)))
theorem rem3 (x : Int32) : (x &&& 3) % 3 = 0 ∨ (x &&& 3) % 3 = 1 ∨ (x &&& 3) % 3 = 2 := by
  rcases and3 x with q | q | q | q <;> rw [q] <;> decide
theorem by8_toInt (c : Int32) : (by8 c).toInt = c.toInt.bmod 256 := by
  show (c.toInt8.toInt32).toInt = _
  rw [Int8.toInt_toInt32, Int32.toInt_toInt8]
theorem by8_inj {x y : Int32} (hx : 0 ≤ x.toInt ∧ x.toInt ≤ 255) (hy : 0 ≤ y.toInt ∧ y.toInt ≤ 255) (h : by8 x = by8 y) : x = y := by
  have q := congrArg Int32.toInt h
  rw [by8_toInt, by8_toInt] at q
  apply Int32.toInt_inj.mp
  have h1 : (x.toInt.bmod 256) % 256 = x.toInt % 256 := Int.bmod_emod
  have h2 : (y.toInt.bmod 256) % 256 = y.toInt % 256 := Int.bmod_emod
  rw [q] at h1
  omega
theorem nch {x : Int32} (h : 0 ≤ x.toInt ∧ x.toInt ≤ 255) : nar .char x = x := by
  have e : x &&& 255 = x := by
    apply Int32.toBitVec_inj.mp
    show x.toBitVec &&& 255#32 = x.toBitVec
    apply BitVec.eq_of_toNat_eq
    have hn : x.toBitVec.toNat ≤ 255 := by
      have h2 : x.toInt = x.toBitVec.toInt := rfl
      rw [h2, BitVec.toInt_eq_toNat_cond] at h
      have := x.toBitVec.isLt
      split at h <;> omega
    rw [BitVec.toNat_and]
    show x.toBitVec.toNat &&& (2 ^ 8 - 1) = _
    rw [Nat.and_two_pow_sub_one_eq_mod]; omega
  rw [← e]; exact nc255 x
theorem le255 {x : Int32} (h : 0 ≤ x.toInt ∧ x.toInt ≤ 255) : ¬ (255 : Int32) < x := by
  rw [Int32.lt_iff_toInt_lt]
  have : (255 : Int32).toInt = 255 := rfl
  omega
theorem fill_set {α : Type} (xs : List α) (z : α) (i : Nat) (hi : i < xs.length) : (xs.take i ++ List.replicate (xs.length - i) z).set i xs[i] = xs.take (i + 1) ++ List.replicate (xs.length - (i + 1)) z := by
  have h1 : (xs.take i).length = i := by simp; omega
  have h2 : xs.length - i = (xs.length - (i + 1)) + 1 := by omega
  rw [List.set_append_right _ _ (by omega), h1, Nat.sub_self, h2, List.replicate_succ, List.set_cons_zero, List.take_succ_eq_append_getElem hi, List.append_assoc]; rfl
end Jvm.Own
namespace Jvm.Pilot.@@N@@
open Jvm Jvm.ClassFile Sem Op Lib Jvm.Free Jvm.Stand Jvm.LawKit Jvm.RoadKit Bundle Jvm.Own Jvm.Pilot.@@N@@.Jvm.D
def GH (Z : State) (a0 : Array Value) (EL : List (String × Nat)) (zc : Int32) (un ca : Addr) (kc : ClassId) (vs : List Value) (la : Addr) (kl : ClassId) (ls : List Value) : Prop :=
  (∀ d ∈ tables_1, d.before a0 Z = true) ∧ EW Z a0 EL ∧ True ∧ True ∧ Sta Z Z.heap "java/lang/String" "COMPACT_STRINGS" "Z" (.int zc) ∧ ¬ zc = 0 ∧ Sta Z Z.heap "com/example/bindery/bindery/Globals$Variable" "UNDEFINED" "Ljava/lang/Object;" (.ref un) ∧ Exa Z Z.heap un "java/lang/Object" ∧
    Sta Z Z.heap "java/lang/Integer$IntegerCache" "high" "I" (.int 127) ∧ Sta Z Z.heap "java/lang/Integer$IntegerCache" "cache" "[Ljava/lang/Integer;" (.ref ca) ∧ Ar Z Z.heap ca kc (.object "java/lang/Integer") vs ∧ (∀ i, i < 256 → ∃ x, vs[i]? = some (.ref x) ∧ Exa Z Z.heap x "java/lang/Integer") ∧ Sta Z Z.heap "java/lang/Long$LongCache" "cache" "[Ljava/lang/Long;" (.ref la) ∧ Ar Z Z.heap la kl (.object "java/lang/Long") ls ∧ ∀ i, i < 256 → ∃ x, ls[i]? = some (.ref x) ∧ Exa Z Z.heap x "java/lang/Long"
theorem wd_0 {Z : State} {a0 : Array Value} {EL : List (String × Nat)} {zc : Int32} {un : Addr} {ca : Addr} {kc : ClassId} {vs : List Value} {la : Addr} {kl : ClassId} {ls : List Value} (g : GH Z a0 EL zc un ca kc vs la kl ls) : (Jvm.Cond.arrayClass Jvm.ClassFile.FieldType.char).before a0 Z = true := g.1 _ (List.mem_of_getElem? (i := 0) rfl)
theorem wd_1 {Z : State} {a0 : Array Value} {EL : List (String × Nat)} {zc : Int32} {un : Addr} {ca : Addr} {kc : ClassId} {vs : List Value} {la : Addr} {kl : ClassId} {ls : List Value} (g : GH Z a0 EL zc un ca kc vs la kl ls) : (Jvm.Cond.classLink "com/example/bindery/bindery/VariableGetPinLaw" (14 : Nat) "java/lang/String").before a0 Z = true := g.1 _ (List.mem_of_getElem? (i := 1) rfl)
theorem wd_2 {Z : State} {a0 : Array Value} {EL : List (String × Nat)} {zc : Int32} {un : Addr} {ca : Addr} {kc : ClassId} {vs : List Value} {la : Addr} {kl : ClassId} {ls : List Value} (g : GH Z a0 EL zc un ca kc vs la kl ls) : (Jvm.Cond.instantiable "java/lang/String" (4 : Nat)).before a0 Z = true := g.1 _ (List.mem_of_getElem? (i := 2) rfl)
theorem wd_3 {Z : State} {a0 : Array Value} {EL : List (String × Nat)} {zc : Int32} {un : Addr} {ca : Addr} {kc : ClassId} {vs : List Value} {la : Addr} {kl : ClassId} {ls : List Value} (g : GH Z a0 EL zc un ca kc vs la kl ls) : (Jvm.Cond.initialized "java/lang/String").before a0 Z = true := g.1 _ (List.mem_of_getElem? (i := 3) rfl)
theorem wd_4 {Z : State} {a0 : Array Value} {EL : List (String × Nat)} {zc : Int32} {un : Addr} {ca : Addr} {kc : ClassId} {vs : List Value} {la : Addr} {kl : ClassId} {ls : List Value} (g : GH Z a0 EL zc un ca kc vs la kl ls) : (Jvm.Cond.methodLink "com/example/bindery/bindery/VariableGetPinLaw" (23 : Nat) ({ cls := "java/lang/String", name := "<init>", desc := "([C)V" } : Jvm.MethodName)).before a0 Z = true := g.1 _ (List.mem_of_getElem? (i := 4) rfl)
theorem wd_5 {Z : State} {a0 : Array Value} {EL : List (String × Nat)} {zc : Int32} {un : Addr} {ca : Addr} {kc : ClassId} {vs : List Value} {la : Addr} {kl : ClassId} {ls : List Value} (g : GH Z a0 EL zc un ca kc vs la kl ls) : (Jvm.Cond.instanceMethod ({ cls := "java/lang/String", name := "<init>", desc := "([C)V" } : Jvm.MethodName)).before a0 Z = true := g.1 _ (List.mem_of_getElem? (i := 5) rfl)
theorem wd_6 {Z : State} {a0 : Array Value} {EL : List (String × Nat)} {zc : Int32} {un : Addr} {ca : Addr} {kc : ClassId} {vs : List Value} {la : Addr} {kl : ClassId} {ls : List Value} (g : GH Z a0 EL zc un ca kc vs la kl ls) : (Jvm.Cond.code ({ cls := "java/lang/String", name := "<init>", desc := "([C)V" } : Jvm.MethodName) jdk_42_method_3_code (2 : Nat) (Option.none : Option Jvm.ClassFile.FieldType)).before a0 Z = true := g.1 _ (List.mem_of_getElem? (i := 6) rfl)
theorem wd_7 {Z : State} {a0 : Array Value} {EL : List (String × Nat)} {zc : Int32} {un : Addr} {ca : Addr} {kc : ClassId} {vs : List Value} {la : Addr} {kl : ClassId} {ls : List Value} (g : GH Z a0 EL zc un ca kc vs la kl ls) : (Jvm.Cond.methodLink "java/lang/String" (27 : Nat) ({ cls := "java/lang/String", name := "<init>", desc := "([CIILjava/lang/Void;)V" } : Jvm.MethodName)).before a0 Z = true := g.1 _ (List.mem_of_getElem? (i := 7) rfl)
theorem wd_8 {Z : State} {a0 : Array Value} {EL : List (String × Nat)} {zc : Int32} {un : Addr} {ca : Addr} {kc : ClassId} {vs : List Value} {la : Addr} {kl : ClassId} {ls : List Value} (g : GH Z a0 EL zc un ca kc vs la kl ls) : (Jvm.Cond.instanceMethod ({ cls := "java/lang/String", name := "<init>", desc := "([CIILjava/lang/Void;)V" } : Jvm.MethodName)).before a0 Z = true := g.1 _ (List.mem_of_getElem? (i := 8) rfl)
theorem wd_10 {Z : State} {a0 : Array Value} {EL : List (String × Nat)} {zc : Int32} {un : Addr} {ca : Addr} {kc : ClassId} {vs : List Value} {la : Addr} {kl : ClassId} {ls : List Value} (g : GH Z a0 EL zc un ca kc vs la kl ls) : (Jvm.Cond.code ({ cls := "java/lang/String", name := "<init>", desc := "([CIILjava/lang/Void;)V" } : Jvm.MethodName) jdk_42_method_149_code (6 : Nat) (Option.none : Option Jvm.ClassFile.FieldType)).before a0 Z = true := g.1 _ (List.mem_of_getElem? (i := 10) rfl)
theorem wd_11 {Z : State} {a0 : Array Value} {EL : List (String × Nat)} {zc : Int32} {un : Addr} {ca : Addr} {kc : ClassId} {vs : List Value} {la : Addr} {kl : ClassId} {ls : List Value} (g : GH Z a0 EL zc un ca kc vs la kl ls) : (Jvm.Cond.methodLink "java/lang/String" (1 : Nat) ({ cls := "java/lang/Object", name := "<init>", desc := "()V" } : Jvm.MethodName)).before a0 Z = true := g.1 _ (List.mem_of_getElem? (i := 11) rfl)
theorem wd_12 {Z : State} {a0 : Array Value} {EL : List (String × Nat)} {zc : Int32} {un : Addr} {ca : Addr} {kc : ClassId} {vs : List Value} {la : Addr} {kl : ClassId} {ls : List Value} (g : GH Z a0 EL zc un ca kc vs la kl ls) : (Jvm.Cond.instanceMethod ({ cls := "java/lang/Object", name := "<init>", desc := "()V" } : Jvm.MethodName)).before a0 Z = true := g.1 _ (List.mem_of_getElem? (i := 12) rfl)
theorem wd_13 {Z : State} {a0 : Array Value} {EL : List (String × Nat)} {zc : Int32} {un : Addr} {ca : Addr} {kc : ClassId} {vs : List Value} {la : Addr} {kl : ClassId} {ls : List Value} (g : GH Z a0 EL zc un ca kc vs la kl ls) : (Jvm.Cond.code ({ cls := "java/lang/Object", name := "<init>", desc := "()V" } : Jvm.MethodName) object_method_1_code (1 : Nat) (Option.none : Option Jvm.ClassFile.FieldType)).before a0 Z = true := g.1 _ (List.mem_of_getElem? (i := 13) rfl)
theorem wd_14 {Z : State} {a0 : Array Value} {EL : List (String × Nat)} {zc : Int32} {un : Addr} {ca : Addr} {kc : ClassId} {vs : List Value} {la : Addr} {kl : ClassId} {ls : List Value} (g : GH Z a0 EL zc un ca kc vs la kl ls) : (Jvm.Cond.fieldLink "java/lang/String" (38 : Nat) "java/lang/String" "COMPACT_STRINGS" "Z").before a0 Z = true := g.1 _ (List.mem_of_getElem? (i := 14) rfl)
theorem wd_15 {Z : State} {a0 : Array Value} {EL : List (String × Nat)} {zc : Int32} {un : Addr} {ca : Addr} {kc : ClassId} {vs : List Value} {la : Addr} {kl : ClassId} {ls : List Value} (g : GH Z a0 EL zc un ca kc vs la kl ls) : (Jvm.Cond.methodLink "java/lang/String" (177 : Nat) ({ cls := "java/lang/StringUTF16", name := "compress", desc := "([CII)[B" } : Jvm.MethodName)).before a0 Z = true := g.1 _ (List.mem_of_getElem? (i := 15) rfl)
theorem wd_16 {Z : State} {a0 : Array Value} {EL : List (String × Nat)} {zc : Int32} {un : Addr} {ca : Addr} {kc : ClassId} {vs : List Value} {la : Addr} {kl : ClassId} {ls : List Value} (g : GH Z a0 EL zc un ca kc vs la kl ls) : (Jvm.Cond.static ({ cls := "java/lang/StringUTF16", name := "compress", desc := "([CII)[B" } : Jvm.MethodName)).before a0 Z = true := g.1 _ (List.mem_of_getElem? (i := 16) rfl)
theorem wd_17 {Z : State} {a0 : Array Value} {EL : List (String × Nat)} {zc : Int32} {un : Addr} {ca : Addr} {kc : ClassId} {vs : List Value} {la : Addr} {kl : ClassId} {ls : List Value} (g : GH Z a0 EL zc un ca kc vs la kl ls) : (Jvm.Cond.initialized "java/lang/StringUTF16").before a0 Z = true := g.1 _ (List.mem_of_getElem? (i := 17) rfl)
theorem wd_18 {Z : State} {a0 : Array Value} {EL : List (String × Nat)} {zc : Int32} {un : Addr} {ca : Addr} {kc : ClassId} {vs : List Value} {la : Addr} {kl : ClassId} {ls : List Value} (g : GH Z a0 EL zc un ca kc vs la kl ls) : (Jvm.Cond.code ({ cls := "java/lang/StringUTF16", name := "compress", desc := "([CII)[B" } : Jvm.MethodName) jdk_52_method_16_code (6 : Nat) (Option.some (Jvm.ClassFile.FieldType.array Jvm.ClassFile.FieldType.byte))).before a0 Z = true := g.1 _ (List.mem_of_getElem? (i := 18) rfl)
theorem wd_19 {Z : State} {a0 : Array Value} {EL : List (String × Nat)} {zc : Int32} {un : Addr} {ca : Addr} {kc : ClassId} {vs : List Value} {la : Addr} {kl : ClassId} {ls : List Value} (g : GH Z a0 EL zc un ca kc vs la kl ls) : (Jvm.Cond.arrayClass Jvm.ClassFile.FieldType.byte).before a0 Z = true := g.1 _ (List.mem_of_getElem? (i := 19) rfl)
theorem wd_20 {Z : State} {a0 : Array Value} {EL : List (String × Nat)} {zc : Int32} {un : Addr} {ca : Addr} {kc : ClassId} {vs : List Value} {la : Addr} {kl : ClassId} {ls : List Value} (g : GH Z a0 EL zc un ca kc vs la kl ls) : (Jvm.Cond.methodLink "java/lang/StringUTF16" (115 : Nat) ({ cls := "java/lang/StringUTF16", name := "compress", desc := "([CI[BII)I" } : Jvm.MethodName)).before a0 Z = true := g.1 _ (List.mem_of_getElem? (i := 20) rfl)
theorem wd_21 {Z : State} {a0 : Array Value} {EL : List (String × Nat)} {zc : Int32} {un : Addr} {ca : Addr} {kc : ClassId} {vs : List Value} {la : Addr} {kl : ClassId} {ls : List Value} (g : GH Z a0 EL zc un ca kc vs la kl ls) : (Jvm.Cond.static ({ cls := "java/lang/StringUTF16", name := "compress", desc := "([CI[BII)I" } : Jvm.MethodName)).before a0 Z = true := g.1 _ (List.mem_of_getElem? (i := 21) rfl)
theorem wd_22 {Z : State} {a0 : Array Value} {EL : List (String × Nat)} {zc : Int32} {un : Addr} {ca : Addr} {kc : ClassId} {vs : List Value} {la : Addr} {kl : ClassId} {ls : List Value} (g : GH Z a0 EL zc un ca kc vs la kl ls) : (Jvm.Cond.code ({ cls := "java/lang/StringUTF16", name := "compress", desc := "([CI[BII)I" } : Jvm.MethodName) jdk_52_method_21_code (7 : Nat) (Option.some Jvm.ClassFile.FieldType.int)).before a0 Z = true := g.1 _ (List.mem_of_getElem? (i := 22) rfl)
theorem wd_23 {Z : State} {a0 : Array Value} {EL : List (String × Nat)} {zc : Int32} {un : Addr} {ca : Addr} {kc : ClassId} {vs : List Value} {la : Addr} {kl : ClassId} {ls : List Value} (g : GH Z a0 EL zc un ca kc vs la kl ls) : (Jvm.Cond.methodLink "java/lang/String" (47 : Nat) ({ cls := "java/lang/StringUTF16", name := "coderFromArrayLen", desc := "([BI)B" } : Jvm.MethodName)).before a0 Z = true := g.1 _ (List.mem_of_getElem? (i := 23) rfl)
theorem wd_24 {Z : State} {a0 : Array Value} {EL : List (String × Nat)} {zc : Int32} {un : Addr} {ca : Addr} {kc : ClassId} {vs : List Value} {la : Addr} {kl : ClassId} {ls : List Value} (g : GH Z a0 EL zc un ca kc vs la kl ls) : (Jvm.Cond.static ({ cls := "java/lang/StringUTF16", name := "coderFromArrayLen", desc := "([BI)B" } : Jvm.MethodName)).before a0 Z = true := g.1 _ (List.mem_of_getElem? (i := 24) rfl)
theorem wd_25 {Z : State} {a0 : Array Value} {EL : List (String × Nat)} {zc : Int32} {un : Addr} {ca : Addr} {kc : ClassId} {vs : List Value} {la : Addr} {kl : ClassId} {ls : List Value} (g : GH Z a0 EL zc un ca kc vs la kl ls) : (Jvm.Cond.code ({ cls := "java/lang/StringUTF16", name := "coderFromArrayLen", desc := "([BI)B" } : Jvm.MethodName) jdk_52_method_15_code (2 : Nat) (Option.some Jvm.ClassFile.FieldType.byte)).before a0 Z = true := g.1 _ (List.mem_of_getElem? (i := 25) rfl)
theorem wd_26 {Z : State} {a0 : Array Value} {EL : List (String × Nat)} {zc : Int32} {un : Addr} {ca : Addr} {kc : ClassId} {vs : List Value} {la : Addr} {kl : ClassId} {ls : List Value} (g : GH Z a0 EL zc un ca kc vs la kl ls) : (Jvm.Cond.fieldLink "java/lang/String" (15 : Nat) "java/lang/String" "coder" "B").before a0 Z = true := g.1 _ (List.mem_of_getElem? (i := 26) rfl)
theorem wd_27 {Z : State} {a0 : Array Value} {EL : List (String × Nat)} {zc : Int32} {un : Addr} {ca : Addr} {kc : ClassId} {vs : List Value} {la : Addr} {kl : ClassId} {ls : List Value} (g : GH Z a0 EL zc un ca kc vs la kl ls) : (Jvm.Cond.laysFinal "java/lang/String" "java/lang/String" "coder" "B").before a0 Z = true := g.1 _ (List.mem_of_getElem? (i := 27) rfl)
theorem wd_28 {Z : State} {a0 : Array Value} {EL : List (String × Nat)} {zc : Int32} {un : Addr} {ca : Addr} {kc : ClassId} {vs : List Value} {la : Addr} {kl : ClassId} {ls : List Value} (g : GH Z a0 EL zc un ca kc vs la kl ls) : (Jvm.Cond.fieldLink "java/lang/String" (9 : Nat) "java/lang/String" "value" "[B").before a0 Z = true := g.1 _ (List.mem_of_getElem? (i := 28) rfl)
theorem wd_29 {Z : State} {a0 : Array Value} {EL : List (String × Nat)} {zc : Int32} {un : Addr} {ca : Addr} {kc : ClassId} {vs : List Value} {la : Addr} {kl : ClassId} {ls : List Value} (g : GH Z a0 EL zc un ca kc vs la kl ls) : (Jvm.Cond.laysFinal "java/lang/String" "java/lang/String" "value" "[B").before a0 Z = true := g.1 _ (List.mem_of_getElem? (i := 29) rfl)
theorem wd_30 {Z : State} {a0 : Array Value} {EL : List (String × Nat)} {zc : Int32} {un : Addr} {ca : Addr} {kc : ClassId} {vs : List Value} {la : Addr} {kl : ClassId} {ls : List Value} (g : GH Z a0 EL zc un ca kc vs la kl ls) : (Jvm.Cond.classLink "com/example/bindery/bindery/VariableGetPinLaw" (26 : Nat) "com/example/bindery/bindery/Globals$Variable").before a0 Z = true := g.1 _ (List.mem_of_getElem? (i := 30) rfl)
theorem wd_31 {Z : State} {a0 : Array Value} {EL : List (String × Nat)} {zc : Int32} {un : Addr} {ca : Addr} {kc : ClassId} {vs : List Value} {la : Addr} {kl : ClassId} {ls : List Value} (g : GH Z a0 EL zc un ca kc vs la kl ls) : (Jvm.Cond.instantiable "com/example/bindery/bindery/Globals$Variable" (1 : Nat)).before a0 Z = true := g.1 _ (List.mem_of_getElem? (i := 31) rfl)
theorem wd_32 {Z : State} {a0 : Array Value} {EL : List (String × Nat)} {zc : Int32} {un : Addr} {ca : Addr} {kc : ClassId} {vs : List Value} {la : Addr} {kl : ClassId} {ls : List Value} (g : GH Z a0 EL zc un ca kc vs la kl ls) : (Jvm.Cond.initialized "com/example/bindery/bindery/Globals$Variable").before a0 Z = true := g.1 _ (List.mem_of_getElem? (i := 32) rfl)
theorem wd_33 {Z : State} {a0 : Array Value} {EL : List (String × Nat)} {zc : Int32} {un : Addr} {ca : Addr} {kc : ClassId} {vs : List Value} {la : Addr} {kl : ClassId} {ls : List Value} (g : GH Z a0 EL zc un ca kc vs la kl ls) : (Jvm.Cond.methodLink "com/example/bindery/bindery/VariableGetPinLaw" (28 : Nat) ({ cls := "com/example/bindery/bindery/Globals$Variable", name := "<init>", desc := "()V" } : Jvm.MethodName)).before a0 Z = true := g.1 _ (List.mem_of_getElem? (i := 33) rfl)
theorem wd_34 {Z : State} {a0 : Array Value} {EL : List (String × Nat)} {zc : Int32} {un : Addr} {ca : Addr} {kc : ClassId} {vs : List Value} {la : Addr} {kl : ClassId} {ls : List Value} (g : GH Z a0 EL zc un ca kc vs la kl ls) : (Jvm.Cond.instanceMethod ({ cls := "com/example/bindery/bindery/Globals$Variable", name := "<init>", desc := "()V" } : Jvm.MethodName)).before a0 Z = true := g.1 _ (List.mem_of_getElem? (i := 34) rfl)
theorem wd_35 {Z : State} {a0 : Array Value} {EL : List (String × Nat)} {zc : Int32} {un : Addr} {ca : Addr} {kc : ClassId} {vs : List Value} {la : Addr} {kl : ClassId} {ls : List Value} (g : GH Z a0 EL zc un ca kc vs la kl ls) : (Jvm.Cond.code ({ cls := "com/example/bindery/bindery/Globals$Variable", name := "<init>", desc := "()V" } : Jvm.MethodName) prog_17_method_1_code (1 : Nat) (Option.none : Option Jvm.ClassFile.FieldType)).before a0 Z = true := g.1 _ (List.mem_of_getElem? (i := 35) rfl)
theorem wd_36 {Z : State} {a0 : Array Value} {EL : List (String × Nat)} {zc : Int32} {un : Addr} {ca : Addr} {kc : ClassId} {vs : List Value} {la : Addr} {kl : ClassId} {ls : List Value} (g : GH Z a0 EL zc un ca kc vs la kl ls) : (Jvm.Cond.methodLink "com/example/bindery/bindery/Globals$Variable" (1 : Nat) ({ cls := "java/lang/Object", name := "<init>", desc := "()V" } : Jvm.MethodName)).before a0 Z = true := g.1 _ (List.mem_of_getElem? (i := 36) rfl)
theorem wd_37 {Z : State} {a0 : Array Value} {EL : List (String × Nat)} {zc : Int32} {un : Addr} {ca : Addr} {kc : ClassId} {vs : List Value} {la : Addr} {kl : ClassId} {ls : List Value} (g : GH Z a0 EL zc un ca kc vs la kl ls) : (Jvm.Cond.fieldLink "com/example/bindery/bindery/Globals$Variable" (7 : Nat) "com/example/bindery/bindery/Globals$Variable" "UNDEFINED" "Ljava/lang/Object;").before a0 Z = true := g.1 _ (List.mem_of_getElem? (i := 37) rfl)
theorem wd_39 {Z : State} {a0 : Array Value} {EL : List (String × Nat)} {zc : Int32} {un : Addr} {ca : Addr} {kc : ClassId} {vs : List Value} {la : Addr} {kl : ClassId} {ls : List Value} (g : GH Z a0 EL zc un ca kc vs la kl ls) : (Jvm.Cond.fieldLink "com/example/bindery/bindery/Globals$Variable" (13 : Nat) "com/example/bindery/bindery/Globals$Variable" "value" "Ljava/lang/Object;").before a0 Z = true := g.1 _ (List.mem_of_getElem? (i := 39) rfl)
theorem wd_40 {Z : State} {a0 : Array Value} {EL : List (String × Nat)} {zc : Int32} {un : Addr} {ca : Addr} {kc : ClassId} {vs : List Value} {la : Addr} {kl : ClassId} {ls : List Value} (g : GH Z a0 EL zc un ca kc vs la kl ls) : (Jvm.Cond.lays "com/example/bindery/bindery/Globals$Variable" "com/example/bindery/bindery/Globals$Variable" "value" "Ljava/lang/Object;").before a0 Z = true := g.1 _ (List.mem_of_getElem? (i := 40) rfl)
theorem wd_41 {Z : State} {a0 : Array Value} {EL : List (String × Nat)} {zc : Int32} {un : Addr} {ca : Addr} {kc : ClassId} {vs : List Value} {la : Addr} {kl : ClassId} {ls : List Value} (g : GH Z a0 EL zc un ca kc vs la kl ls) : (Jvm.Cond.classLink "com/example/bindery/bindery/VariableGetPinLaw" (29 : Nat) "com/example/bindery/bindery/Expr$Variable").before a0 Z = true := g.1 _ (List.mem_of_getElem? (i := 41) rfl)
theorem wd_42 {Z : State} {a0 : Array Value} {EL : List (String × Nat)} {zc : Int32} {un : Addr} {ca : Addr} {kc : ClassId} {vs : List Value} {la : Addr} {kl : ClassId} {ls : List Value} (g : GH Z a0 EL zc un ca kc vs la kl ls) : (Jvm.Cond.instantiable "com/example/bindery/bindery/Expr$Variable" (5 : Nat)).before a0 Z = true := g.1 _ (List.mem_of_getElem? (i := 42) rfl)
theorem wd_43 {Z : State} {a0 : Array Value} {EL : List (String × Nat)} {zc : Int32} {un : Addr} {ca : Addr} {kc : ClassId} {vs : List Value} {la : Addr} {kl : ClassId} {ls : List Value} (g : GH Z a0 EL zc un ca kc vs la kl ls) : (Jvm.Cond.initialized "com/example/bindery/bindery/Expr$Variable").before a0 Z = true := g.1 _ (List.mem_of_getElem? (i := 43) rfl)
theorem wd_44 {Z : State} {a0 : Array Value} {EL : List (String × Nat)} {zc : Int32} {un : Addr} {ca : Addr} {kc : ClassId} {vs : List Value} {la : Addr} {kl : ClassId} {ls : List Value} (g : GH Z a0 EL zc un ca kc vs la kl ls) : (Jvm.Cond.methodLink "com/example/bindery/bindery/VariableGetPinLaw" (31 : Nat) ({ cls := "com/example/bindery/bindery/Expr$Variable", name := "<init>", desc := "(Ljava/lang/String;I)V" } : Jvm.MethodName)).before a0 Z = true := g.1 _ (List.mem_of_getElem? (i := 44) rfl)
theorem wd_45 {Z : State} {a0 : Array Value} {EL : List (String × Nat)} {zc : Int32} {un : Addr} {ca : Addr} {kc : ClassId} {vs : List Value} {la : Addr} {kl : ClassId} {ls : List Value} (g : GH Z a0 EL zc un ca kc vs la kl ls) : (Jvm.Cond.instanceMethod ({ cls := "com/example/bindery/bindery/Expr$Variable", name := "<init>", desc := "(Ljava/lang/String;I)V" } : Jvm.MethodName)).before a0 Z = true := g.1 _ (List.mem_of_getElem? (i := 45) rfl)
theorem wd_46 {Z : State} {a0 : Array Value} {EL : List (String × Nat)} {zc : Int32} {un : Addr} {ca : Addr} {kc : ClassId} {vs : List Value} {la : Addr} {kl : ClassId} {ls : List Value} (g : GH Z a0 EL zc un ca kc vs la kl ls) : (Jvm.Cond.code ({ cls := "com/example/bindery/bindery/Expr$Variable", name := "<init>", desc := "(Ljava/lang/String;I)V" } : Jvm.MethodName) prog_14_method_1_code (3 : Nat) (Option.none : Option Jvm.ClassFile.FieldType)).before a0 Z = true := g.1 _ (List.mem_of_getElem? (i := 46) rfl)
theorem wd_47 {Z : State} {a0 : Array Value} {EL : List (String × Nat)} {zc : Int32} {un : Addr} {ca : Addr} {kc : ClassId} {vs : List Value} {la : Addr} {kl : ClassId} {ls : List Value} (g : GH Z a0 EL zc un ca kc vs la kl ls) : (Jvm.Cond.methodLink "com/example/bindery/bindery/Expr$Variable" (1 : Nat) ({ cls := "com/example/bindery/bindery/Named", name := "<init>", desc := "(Ljava/lang/String;I)V" } : Jvm.MethodName)).before a0 Z = true := g.1 _ (List.mem_of_getElem? (i := 47) rfl)
theorem wd_48 {Z : State} {a0 : Array Value} {EL : List (String × Nat)} {zc : Int32} {un : Addr} {ca : Addr} {kc : ClassId} {vs : List Value} {la : Addr} {kl : ClassId} {ls : List Value} (g : GH Z a0 EL zc un ca kc vs la kl ls) : (Jvm.Cond.instanceMethod ({ cls := "com/example/bindery/bindery/Named", name := "<init>", desc := "(Ljava/lang/String;I)V" } : Jvm.MethodName)).before a0 Z = true := g.1 _ (List.mem_of_getElem? (i := 48) rfl)
theorem wd_50 {Z : State} {a0 : Array Value} {EL : List (String × Nat)} {zc : Int32} {un : Addr} {ca : Addr} {kc : ClassId} {vs : List Value} {la : Addr} {kl : ClassId} {ls : List Value} (g : GH Z a0 EL zc un ca kc vs la kl ls) : (Jvm.Cond.initialized "com/example/bindery/bindery/Named").before a0 Z = true := g.1 _ (List.mem_of_getElem? (i := 50) rfl)
theorem wd_51 {Z : State} {a0 : Array Value} {EL : List (String × Nat)} {zc : Int32} {un : Addr} {ca : Addr} {kc : ClassId} {vs : List Value} {la : Addr} {kl : ClassId} {ls : List Value} (g : GH Z a0 EL zc un ca kc vs la kl ls) : (Jvm.Cond.code ({ cls := "com/example/bindery/bindery/Named", name := "<init>", desc := "(Ljava/lang/String;I)V" } : Jvm.MethodName) prog_25_method_1_code (3 : Nat) (Option.none : Option Jvm.ClassFile.FieldType)).before a0 Z = true := g.1 _ (List.mem_of_getElem? (i := 51) rfl)
theorem wd_52 {Z : State} {a0 : Array Value} {EL : List (String × Nat)} {zc : Int32} {un : Addr} {ca : Addr} {kc : ClassId} {vs : List Value} {la : Addr} {kl : ClassId} {ls : List Value} (g : GH Z a0 EL zc un ca kc vs la kl ls) : (Jvm.Cond.methodLink "com/example/bindery/bindery/Named" (1 : Nat) ({ cls := "java/lang/Object", name := "<init>", desc := "()V" } : Jvm.MethodName)).before a0 Z = true := g.1 _ (List.mem_of_getElem? (i := 52) rfl)
theorem wd_53 {Z : State} {a0 : Array Value} {EL : List (String × Nat)} {zc : Int32} {un : Addr} {ca : Addr} {kc : ClassId} {vs : List Value} {la : Addr} {kl : ClassId} {ls : List Value} (g : GH Z a0 EL zc un ca kc vs la kl ls) : (Jvm.Cond.fieldLink "com/example/bindery/bindery/Named" (7 : Nat) "com/example/bindery/bindery/Named" "lexeme" "Ljava/lang/String;").before a0 Z = true := g.1 _ (List.mem_of_getElem? (i := 53) rfl)
theorem wd_54 {Z : State} {a0 : Array Value} {EL : List (String × Nat)} {zc : Int32} {un : Addr} {ca : Addr} {kc : ClassId} {vs : List Value} {la : Addr} {kl : ClassId} {ls : List Value} (g : GH Z a0 EL zc un ca kc vs la kl ls) : (Jvm.Cond.laysFinal "com/example/bindery/bindery/Expr$Variable" "com/example/bindery/bindery/Named" "lexeme" "Ljava/lang/String;").before a0 Z = true := g.1 _ (List.mem_of_getElem? (i := 54) rfl)
theorem wd_55 {Z : State} {a0 : Array Value} {EL : List (String × Nat)} {zc : Int32} {un : Addr} {ca : Addr} {kc : ClassId} {vs : List Value} {la : Addr} {kl : ClassId} {ls : List Value} (g : GH Z a0 EL zc un ca kc vs la kl ls) : (Jvm.Cond.fieldLink "com/example/bindery/bindery/Named" (13 : Nat) "com/example/bindery/bindery/Named" "line" "I").before a0 Z = true := g.1 _ (List.mem_of_getElem? (i := 55) rfl)
theorem wd_56 {Z : State} {a0 : Array Value} {EL : List (String × Nat)} {zc : Int32} {un : Addr} {ca : Addr} {kc : ClassId} {vs : List Value} {la : Addr} {kl : ClassId} {ls : List Value} (g : GH Z a0 EL zc un ca kc vs la kl ls) : (Jvm.Cond.laysFinal "com/example/bindery/bindery/Expr$Variable" "com/example/bindery/bindery/Named" "line" "I").before a0 Z = true := g.1 _ (List.mem_of_getElem? (i := 56) rfl)
theorem wd_57 {Z : State} {a0 : Array Value} {EL : List (String × Nat)} {zc : Int32} {un : Addr} {ca : Addr} {kc : ClassId} {vs : List Value} {la : Addr} {kl : ClassId} {ls : List Value} (g : GH Z a0 EL zc un ca kc vs la kl ls) : (Jvm.Cond.methodLink "com/example/bindery/bindery/VariableGetPinLaw" (34 : Nat) ({ cls := "com/example/bindery/bindery/VariableGetPinLaw", name := "pick", desc := "(II)Ljava/lang/Object;" } : Jvm.MethodName)).before a0 Z = true := g.1 _ (List.mem_of_getElem? (i := 57) rfl)
theorem wd_58 {Z : State} {a0 : Array Value} {EL : List (String × Nat)} {zc : Int32} {un : Addr} {ca : Addr} {kc : ClassId} {vs : List Value} {la : Addr} {kl : ClassId} {ls : List Value} (g : GH Z a0 EL zc un ca kc vs la kl ls) : (Jvm.Cond.static ({ cls := "com/example/bindery/bindery/VariableGetPinLaw", name := "pick", desc := "(II)Ljava/lang/Object;" } : Jvm.MethodName)).before a0 Z = true := g.1 _ (List.mem_of_getElem? (i := 58) rfl)
theorem wd_59 {Z : State} {a0 : Array Value} {EL : List (String × Nat)} {zc : Int32} {un : Addr} {ca : Addr} {kc : ClassId} {vs : List Value} {la : Addr} {kl : ClassId} {ls : List Value} (g : GH Z a0 EL zc un ca kc vs la kl ls) : (Jvm.Cond.initialized "com/example/bindery/bindery/VariableGetPinLaw").before a0 Z = true := g.1 _ (List.mem_of_getElem? (i := 59) rfl)
theorem wd_60 {Z : State} {a0 : Array Value} {EL : List (String × Nat)} {zc : Int32} {un : Addr} {ca : Addr} {kc : ClassId} {vs : List Value} {la : Addr} {kl : ClassId} {ls : List Value} (g : GH Z a0 EL zc un ca kc vs la kl ls) : (Jvm.Cond.code ({ cls := "com/example/bindery/bindery/VariableGetPinLaw", name := "pick", desc := "(II)Ljava/lang/Object;" } : Jvm.MethodName) method_2_code (3 : Nat) (Option.some (Jvm.ClassFile.FieldType.object "java/lang/Object"))).before a0 Z = true := g.1 _ (List.mem_of_getElem? (i := 60) rfl)
theorem wd_61 {Z : State} {a0 : Array Value} {EL : List (String × Nat)} {zc : Int32} {un : Addr} {ca : Addr} {kc : ClassId} {vs : List Value} {la : Addr} {kl : ClassId} {ls : List Value} (g : GH Z a0 EL zc un ca kc vs la kl ls) : (Jvm.Cond.methodLink "com/example/bindery/bindery/VariableGetPinLaw" (7 : Nat) ({ cls := "java/lang/Integer", name := "valueOf", desc := "(I)Ljava/lang/Integer;" } : Jvm.MethodName)).before a0 Z = true := g.1 _ (List.mem_of_getElem? (i := 61) rfl)
theorem wd_62 {Z : State} {a0 : Array Value} {EL : List (String × Nat)} {zc : Int32} {un : Addr} {ca : Addr} {kc : ClassId} {vs : List Value} {la : Addr} {kl : ClassId} {ls : List Value} (g : GH Z a0 EL zc un ca kc vs la kl ls) : (Jvm.Cond.static ({ cls := "java/lang/Integer", name := "valueOf", desc := "(I)Ljava/lang/Integer;" } : Jvm.MethodName)).before a0 Z = true := g.1 _ (List.mem_of_getElem? (i := 62) rfl)
theorem wd_63 {Z : State} {a0 : Array Value} {EL : List (String × Nat)} {zc : Int32} {un : Addr} {ca : Addr} {kc : ClassId} {vs : List Value} {la : Addr} {kl : ClassId} {ls : List Value} (g : GH Z a0 EL zc un ca kc vs la kl ls) : (Jvm.Cond.initialized "java/lang/Integer").before a0 Z = true := g.1 _ (List.mem_of_getElem? (i := 63) rfl)
theorem wd_64 {Z : State} {a0 : Array Value} {EL : List (String × Nat)} {zc : Int32} {un : Addr} {ca : Addr} {kc : ClassId} {vs : List Value} {la : Addr} {kl : ClassId} {ls : List Value} (g : GH Z a0 EL zc un ca kc vs la kl ls) : (Jvm.Cond.code ({ cls := "java/lang/Integer", name := "valueOf", desc := "(I)Ljava/lang/Integer;" } : Jvm.MethodName) jdk_33_method_22_code (1 : Nat) (Option.some (Jvm.ClassFile.FieldType.object "java/lang/Integer"))).before a0 Z = true := g.1 _ (List.mem_of_getElem? (i := 64) rfl)
theorem wd_65 {Z : State} {a0 : Array Value} {EL : List (String × Nat)} {zc : Int32} {un : Addr} {ca : Addr} {kc : ClassId} {vs : List Value} {la : Addr} {kl : ClassId} {ls : List Value} (g : GH Z a0 EL zc un ca kc vs la kl ls) : (Jvm.Cond.fieldLink "java/lang/Integer" (191 : Nat) "java/lang/Integer$IntegerCache" "high" "I").before a0 Z = true := g.1 _ (List.mem_of_getElem? (i := 65) rfl)
theorem wd_67 {Z : State} {a0 : Array Value} {EL : List (String × Nat)} {zc : Int32} {un : Addr} {ca : Addr} {kc : ClassId} {vs : List Value} {la : Addr} {kl : ClassId} {ls : List Value} (g : GH Z a0 EL zc un ca kc vs la kl ls) : (Jvm.Cond.fieldLink "java/lang/Integer" (195 : Nat) "java/lang/Integer$IntegerCache" "cache" "[Ljava/lang/Integer;").before a0 Z = true := g.1 _ (List.mem_of_getElem? (i := 67) rfl)
theorem wd_68 {Z : State} {a0 : Array Value} {EL : List (String × Nat)} {zc : Int32} {un : Addr} {ca : Addr} {kc : ClassId} {vs : List Value} {la : Addr} {kl : ClassId} {ls : List Value} (g : GH Z a0 EL zc un ca kc vs la kl ls) : (Jvm.Cond.methodLink "com/example/bindery/bindery/VariableGetPinLaw" (40 : Nat) ({ cls := "com/example/bindery/bindery/Globals$Variable", name := "define", desc := "(Ljava/lang/Object;)V" } : Jvm.MethodName)).before a0 Z = true := g.1 _ (List.mem_of_getElem? (i := 68) rfl)
theorem wd_69 {Z : State} {a0 : Array Value} {EL : List (String × Nat)} {zc : Int32} {un : Addr} {ca : Addr} {kc : ClassId} {vs : List Value} {la : Addr} {kl : ClassId} {ls : List Value} (g : GH Z a0 EL zc un ca kc vs la kl ls) : (Jvm.Cond.declares ({ cls := "com/example/bindery/bindery/Globals$Variable", name := "define", desc := "(Ljava/lang/Object;)V" } : Jvm.MethodName)).before a0 Z = true := g.1 _ (List.mem_of_getElem? (i := 69) rfl)
theorem wd_70 {Z : State} {a0 : Array Value} {EL : List (String × Nat)} {zc : Int32} {un : Addr} {ca : Addr} {kc : ClassId} {vs : List Value} {la : Addr} {kl : ClassId} {ls : List Value} (g : GH Z a0 EL zc un ca kc vs la kl ls) : (Jvm.Cond.instanceMethod ({ cls := "com/example/bindery/bindery/Globals$Variable", name := "define", desc := "(Ljava/lang/Object;)V" } : Jvm.MethodName)).before a0 Z = true := g.1 _ (List.mem_of_getElem? (i := 70) rfl)
theorem wd_71 {Z : State} {a0 : Array Value} {EL : List (String × Nat)} {zc : Int32} {un : Addr} {ca : Addr} {kc : ClassId} {vs : List Value} {la : Addr} {kl : ClassId} {ls : List Value} (g : GH Z a0 EL zc un ca kc vs la kl ls) : (Jvm.Cond.selects "com/example/bindery/bindery/Globals$Variable" ({ cls := "com/example/bindery/bindery/Globals$Variable", name := "define", desc := "(Ljava/lang/Object;)V" } : Jvm.MethodName) ({ cls := "com/example/bindery/bindery/Globals$Variable", name := "define", desc := "(Ljava/lang/Object;)V" } : Jvm.MethodName)).before a0 Z = true := g.1 _ (List.mem_of_getElem? (i := 71) rfl)
theorem wd_72 {Z : State} {a0 : Array Value} {EL : List (String × Nat)} {zc : Int32} {un : Addr} {ca : Addr} {kc : ClassId} {vs : List Value} {la : Addr} {kl : ClassId} {ls : List Value} (g : GH Z a0 EL zc un ca kc vs la kl ls) : (Jvm.Cond.code ({ cls := "com/example/bindery/bindery/Globals$Variable", name := "define", desc := "(Ljava/lang/Object;)V" } : Jvm.MethodName) prog_17_method_4_code (2 : Nat) (Option.none : Option Jvm.ClassFile.FieldType)).before a0 Z = true := g.1 _ (List.mem_of_getElem? (i := 72) rfl)
theorem wd_73 {Z : State} {a0 : Array Value} {EL : List (String × Nat)} {zc : Int32} {un : Addr} {ca : Addr} {kc : ClassId} {vs : List Value} {la : Addr} {kl : ClassId} {ls : List Value} (g : GH Z a0 EL zc un ca kc vs la kl ls) : (Jvm.Cond.methodLink "com/example/bindery/bindery/VariableGetPinLaw" (44 : Nat) ({ cls := "com/example/bindery/bindery/Globals$Variable", name := "get", desc := "(Lcom/example/bindery/bindery/Named;)Ljava/lang/Object;" } : Jvm.MethodName)).before a0 Z = true := g.1 _ (List.mem_of_getElem? (i := 73) rfl)
theorem wd_74 {Z : State} {a0 : Array Value} {EL : List (String × Nat)} {zc : Int32} {un : Addr} {ca : Addr} {kc : ClassId} {vs : List Value} {la : Addr} {kl : ClassId} {ls : List Value} (g : GH Z a0 EL zc un ca kc vs la kl ls) : (Jvm.Cond.declares ({ cls := "com/example/bindery/bindery/Globals$Variable", name := "get", desc := "(Lcom/example/bindery/bindery/Named;)Ljava/lang/Object;" } : Jvm.MethodName)).before a0 Z = true := g.1 _ (List.mem_of_getElem? (i := 74) rfl)
theorem wd_75 {Z : State} {a0 : Array Value} {EL : List (String × Nat)} {zc : Int32} {un : Addr} {ca : Addr} {kc : ClassId} {vs : List Value} {la : Addr} {kl : ClassId} {ls : List Value} (g : GH Z a0 EL zc un ca kc vs la kl ls) : (Jvm.Cond.instanceMethod ({ cls := "com/example/bindery/bindery/Globals$Variable", name := "get", desc := "(Lcom/example/bindery/bindery/Named;)Ljava/lang/Object;" } : Jvm.MethodName)).before a0 Z = true := g.1 _ (List.mem_of_getElem? (i := 75) rfl)
theorem wd_76 {Z : State} {a0 : Array Value} {EL : List (String × Nat)} {zc : Int32} {un : Addr} {ca : Addr} {kc : ClassId} {vs : List Value} {la : Addr} {kl : ClassId} {ls : List Value} (g : GH Z a0 EL zc un ca kc vs la kl ls) : (Jvm.Cond.selects "com/example/bindery/bindery/Globals$Variable" ({ cls := "com/example/bindery/bindery/Globals$Variable", name := "get", desc := "(Lcom/example/bindery/bindery/Named;)Ljava/lang/Object;" } : Jvm.MethodName) ({ cls := "com/example/bindery/bindery/Globals$Variable", name := "get", desc := "(Lcom/example/bindery/bindery/Named;)Ljava/lang/Object;" } : Jvm.MethodName)).before a0 Z = true := g.1 _ (List.mem_of_getElem? (i := 76) rfl)
theorem wd_77 {Z : State} {a0 : Array Value} {EL : List (String × Nat)} {zc : Int32} {un : Addr} {ca : Addr} {kc : ClassId} {vs : List Value} {la : Addr} {kl : ClassId} {ls : List Value} (g : GH Z a0 EL zc un ca kc vs la kl ls) : (Jvm.Cond.code ({ cls := "com/example/bindery/bindery/Globals$Variable", name := "get", desc := "(Lcom/example/bindery/bindery/Named;)Ljava/lang/Object;" } : Jvm.MethodName) prog_17_method_2_code (2 : Nat) (Option.some (Jvm.ClassFile.FieldType.object "java/lang/Object"))).before a0 Z = true := g.1 _ (List.mem_of_getElem? (i := 77) rfl)
theorem wd_78 {Z : State} {a0 : Array Value} {EL : List (String × Nat)} {zc : Int32} {un : Addr} {ca : Addr} {kc : ClassId} {vs : List Value} {la : Addr} {kl : ClassId} {ls : List Value} (g : GH Z a0 EL zc un ca kc vs la kl ls) : (Jvm.Cond.methodLink "com/example/bindery/bindery/VariableGetPinLaw" (18 : Nat) ({ cls := "java/lang/Long", name := "valueOf", desc := "(J)Ljava/lang/Long;" } : Jvm.MethodName)).before a0 Z = true := g.1 _ (List.mem_of_getElem? (i := 78) rfl)
theorem wd_79 {Z : State} {a0 : Array Value} {EL : List (String × Nat)} {zc : Int32} {un : Addr} {ca : Addr} {kc : ClassId} {vs : List Value} {la : Addr} {kl : ClassId} {ls : List Value} (g : GH Z a0 EL zc un ca kc vs la kl ls) : (Jvm.Cond.static ({ cls := "java/lang/Long", name := "valueOf", desc := "(J)Ljava/lang/Long;" } : Jvm.MethodName)).before a0 Z = true := g.1 _ (List.mem_of_getElem? (i := 79) rfl)
theorem wd_80 {Z : State} {a0 : Array Value} {EL : List (String × Nat)} {zc : Int32} {un : Addr} {ca : Addr} {kc : ClassId} {vs : List Value} {la : Addr} {kl : ClassId} {ls : List Value} (g : GH Z a0 EL zc un ca kc vs la kl ls) : (Jvm.Cond.initialized "java/lang/Long").before a0 Z = true := g.1 _ (List.mem_of_getElem? (i := 80) rfl)
theorem wd_81 {Z : State} {a0 : Array Value} {EL : List (String × Nat)} {zc : Int32} {un : Addr} {ca : Addr} {kc : ClassId} {vs : List Value} {la : Addr} {kl : ClassId} {ls : List Value} (g : GH Z a0 EL zc un ca kc vs la kl ls) : (Jvm.Cond.code ({ cls := "java/lang/Long", name := "valueOf", desc := "(J)Ljava/lang/Long;" } : Jvm.MethodName) jdk_35_method_24_code (3 : Nat) (Option.some (Jvm.ClassFile.FieldType.object "java/lang/Long"))).before a0 Z = true := g.1 _ (List.mem_of_getElem? (i := 81) rfl)
theorem wd_82 {Z : State} {a0 : Array Value} {EL : List (String × Nat)} {zc : Int32} {un : Addr} {ca : Addr} {kc : ClassId} {vs : List Value} {la : Addr} {kl : ClassId} {ls : List Value} (g : GH Z a0 EL zc un ca kc vs la kl ls) : (Jvm.Cond.constantLong "java/lang/Long" (230 : Nat) (-128 : Int64)).before a0 Z = true := g.1 _ (List.mem_of_getElem? (i := 82) rfl)
theorem wd_83 {Z : State} {a0 : Array Value} {EL : List (String × Nat)} {zc : Int32} {un : Addr} {ca : Addr} {kc : ClassId} {vs : List Value} {la : Addr} {kl : ClassId} {ls : List Value} (g : GH Z a0 EL zc un ca kc vs la kl ls) : (Jvm.Cond.constantLong "java/lang/Long" (232 : Nat) (127 : Int64)).before a0 Z = true := g.1 _ (List.mem_of_getElem? (i := 83) rfl)
theorem wd_84 {Z : State} {a0 : Array Value} {EL : List (String × Nat)} {zc : Int32} {un : Addr} {ca : Addr} {kc : ClassId} {vs : List Value} {la : Addr} {kl : ClassId} {ls : List Value} (g : GH Z a0 EL zc un ca kc vs la kl ls) : (Jvm.Cond.fieldLink "java/lang/Long" (234 : Nat) "java/lang/Long$LongCache" "cache" "[Ljava/lang/Long;").before a0 Z = true := g.1 _ (List.mem_of_getElem? (i := 84) rfl)
theorem wd_86 {Z : State} {a0 : Array Value} {EL : List (String × Nat)} {zc : Int32} {un : Addr} {ca : Addr} {kc : ClassId} {vs : List Value} {la : Addr} {kl : ClassId} {ls : List Value} (g : GH Z a0 EL zc un ca kc vs la kl ls) : (Jvm.Cond.methodLink "com/example/bindery/bindery/VariableGetPinLaw" (13 : Nat) ({ cls := "java/lang/String", name := "valueOf", desc := "(C)Ljava/lang/String;" } : Jvm.MethodName)).before a0 Z = true := g.1 _ (List.mem_of_getElem? (i := 86) rfl)
theorem wd_87 {Z : State} {a0 : Array Value} {EL : List (String × Nat)} {zc : Int32} {un : Addr} {ca : Addr} {kc : ClassId} {vs : List Value} {la : Addr} {kl : ClassId} {ls : List Value} (g : GH Z a0 EL zc un ca kc vs la kl ls) : (Jvm.Cond.static ({ cls := "java/lang/String", name := "valueOf", desc := "(C)Ljava/lang/String;" } : Jvm.MethodName)).before a0 Z = true := g.1 _ (List.mem_of_getElem? (i := 87) rfl)
theorem wd_88 {Z : State} {a0 : Array Value} {EL : List (String × Nat)} {zc : Int32} {un : Addr} {ca : Addr} {kc : ClassId} {vs : List Value} {la : Addr} {kl : ClassId} {ls : List Value} (g : GH Z a0 EL zc un ca kc vs la kl ls) : (Jvm.Cond.code ({ cls := "java/lang/String", name := "valueOf", desc := "(C)Ljava/lang/String;" } : Jvm.MethodName) jdk_42_method_139_code (1 : Nat) (Option.some (Jvm.ClassFile.FieldType.object "java/lang/String"))).before a0 Z = true := g.1 _ (List.mem_of_getElem? (i := 88) rfl)
theorem wd_89 {Z : State} {a0 : Array Value} {EL : List (String × Nat)} {zc : Int32} {un : Addr} {ca : Addr} {kc : ClassId} {vs : List Value} {la : Addr} {kl : ClassId} {ls : List Value} (g : GH Z a0 EL zc un ca kc vs la kl ls) : (Jvm.Cond.methodLink "java/lang/String" (1015 : Nat) ({ cls := "java/lang/StringLatin1", name := "canEncode", desc := "(C)Z" } : Jvm.MethodName)).before a0 Z = true := g.1 _ (List.mem_of_getElem? (i := 89) rfl)
theorem wd_90 {Z : State} {a0 : Array Value} {EL : List (String × Nat)} {zc : Int32} {un : Addr} {ca : Addr} {kc : ClassId} {vs : List Value} {la : Addr} {kl : ClassId} {ls : List Value} (g : GH Z a0 EL zc un ca kc vs la kl ls) : (Jvm.Cond.static ({ cls := "java/lang/StringLatin1", name := "canEncode", desc := "(C)Z" } : Jvm.MethodName)).before a0 Z = true := g.1 _ (List.mem_of_getElem? (i := 90) rfl)
theorem wd_91 {Z : State} {a0 : Array Value} {EL : List (String × Nat)} {zc : Int32} {un : Addr} {ca : Addr} {kc : ClassId} {vs : List Value} {la : Addr} {kl : ClassId} {ls : List Value} (g : GH Z a0 EL zc un ca kc vs la kl ls) : (Jvm.Cond.initialized "java/lang/StringLatin1").before a0 Z = true := g.1 _ (List.mem_of_getElem? (i := 91) rfl)
theorem wd_92 {Z : State} {a0 : Array Value} {EL : List (String × Nat)} {zc : Int32} {un : Addr} {ca : Addr} {kc : ClassId} {vs : List Value} {la : Addr} {kl : ClassId} {ls : List Value} (g : GH Z a0 EL zc un ca kc vs la kl ls) : (Jvm.Cond.code ({ cls := "java/lang/StringLatin1", name := "canEncode", desc := "(C)Z" } : Jvm.MethodName) jdk_43_method_3_code (1 : Nat) (Option.some Jvm.ClassFile.FieldType.boolean)).before a0 Z = true := g.1 _ (List.mem_of_getElem? (i := 92) rfl)
theorem wd_93 {Z : State} {a0 : Array Value} {EL : List (String × Nat)} {zc : Int32} {un : Addr} {ca : Addr} {kc : ClassId} {vs : List Value} {la : Addr} {kl : ClassId} {ls : List Value} (g : GH Z a0 EL zc un ca kc vs la kl ls) : (Jvm.Cond.classLink "java/lang/String" (10 : Nat) "java/lang/String").before a0 Z = true := g.1 _ (List.mem_of_getElem? (i := 93) rfl)
theorem wd_94 {Z : State} {a0 : Array Value} {EL : List (String × Nat)} {zc : Int32} {un : Addr} {ca : Addr} {kc : ClassId} {vs : List Value} {la : Addr} {kl : ClassId} {ls : List Value} (g : GH Z a0 EL zc un ca kc vs la kl ls) : (Jvm.Cond.methodLink "java/lang/String" (1018 : Nat) ({ cls := "java/lang/StringLatin1", name := "toBytes", desc := "(C)[B" } : Jvm.MethodName)).before a0 Z = true := g.1 _ (List.mem_of_getElem? (i := 94) rfl)
theorem wd_95 {Z : State} {a0 : Array Value} {EL : List (String × Nat)} {zc : Int32} {un : Addr} {ca : Addr} {kc : ClassId} {vs : List Value} {la : Addr} {kl : ClassId} {ls : List Value} (g : GH Z a0 EL zc un ca kc vs la kl ls) : (Jvm.Cond.static ({ cls := "java/lang/StringLatin1", name := "toBytes", desc := "(C)[B" } : Jvm.MethodName)).before a0 Z = true := g.1 _ (List.mem_of_getElem? (i := 95) rfl)
theorem wd_96 {Z : State} {a0 : Array Value} {EL : List (String × Nat)} {zc : Int32} {un : Addr} {ca : Addr} {kc : ClassId} {vs : List Value} {la : Addr} {kl : ClassId} {ls : List Value} (g : GH Z a0 EL zc un ca kc vs la kl ls) : (Jvm.Cond.code ({ cls := "java/lang/StringLatin1", name := "toBytes", desc := "(C)[B" } : Jvm.MethodName) jdk_43_method_46_code (1 : Nat) (Option.some (Jvm.ClassFile.FieldType.array Jvm.ClassFile.FieldType.byte))).before a0 Z = true := g.1 _ (List.mem_of_getElem? (i := 96) rfl)
theorem wd_97 {Z : State} {a0 : Array Value} {EL : List (String × Nat)} {zc : Int32} {un : Addr} {ca : Addr} {kc : ClassId} {vs : List Value} {la : Addr} {kl : ClassId} {ls : List Value} (g : GH Z a0 EL zc un ca kc vs la kl ls) : (Jvm.Cond.methodLink "java/lang/String" (209 : Nat) ({ cls := "java/lang/String", name := "<init>", desc := "([BB)V" } : Jvm.MethodName)).before a0 Z = true := g.1 _ (List.mem_of_getElem? (i := 97) rfl)
theorem wd_98 {Z : State} {a0 : Array Value} {EL : List (String × Nat)} {zc : Int32} {un : Addr} {ca : Addr} {kc : ClassId} {vs : List Value} {la : Addr} {kl : ClassId} {ls : List Value} (g : GH Z a0 EL zc un ca kc vs la kl ls) : (Jvm.Cond.instanceMethod ({ cls := "java/lang/String", name := "<init>", desc := "([BB)V" } : Jvm.MethodName)).before a0 Z = true := g.1 _ (List.mem_of_getElem? (i := 98) rfl)
theorem wd_99 {Z : State} {a0 : Array Value} {EL : List (String × Nat)} {zc : Int32} {un : Addr} {ca : Addr} {kc : ClassId} {vs : List Value} {la : Addr} {kl : ClassId} {ls : List Value} (g : GH Z a0 EL zc un ca kc vs la kl ls) : (Jvm.Cond.code ({ cls := "java/lang/String", name := "<init>", desc := "([BB)V" } : Jvm.MethodName) jdk_42_method_151_code (3 : Nat) (Option.none : Option Jvm.ClassFile.FieldType)).before a0 Z = true := g.1 _ (List.mem_of_getElem? (i := 99) rfl)
theorem wd_100 {Z : State} {a0 : Array Value} {EL : List (String × Nat)} {zc : Int32} {un : Addr} {ca : Addr} {kc : ClassId} {vs : List Value} {la : Addr} {kl : ClassId} {ls : List Value} (g : GH Z a0 EL zc un ca kc vs la kl ls) : (Jvm.Cond.methodLink "com/example/bindery/bindery/VariableGetPinLaw" (48 : Nat) ({ cls := "com/example/bindery/bindery/Globals$Variable", name := "assign", desc := "(Lcom/example/bindery/bindery/Named;Ljava/lang/Object;)V" } : Jvm.MethodName)).before a0 Z = true := g.1 _ (List.mem_of_getElem? (i := 100) rfl)
theorem wd_101 {Z : State} {a0 : Array Value} {EL : List (String × Nat)} {zc : Int32} {un : Addr} {ca : Addr} {kc : ClassId} {vs : List Value} {la : Addr} {kl : ClassId} {ls : List Value} (g : GH Z a0 EL zc un ca kc vs la kl ls) : (Jvm.Cond.declares ({ cls := "com/example/bindery/bindery/Globals$Variable", name := "assign", desc := "(Lcom/example/bindery/bindery/Named;Ljava/lang/Object;)V" } : Jvm.MethodName)).before a0 Z = true := g.1 _ (List.mem_of_getElem? (i := 101) rfl)
theorem wd_102 {Z : State} {a0 : Array Value} {EL : List (String × Nat)} {zc : Int32} {un : Addr} {ca : Addr} {kc : ClassId} {vs : List Value} {la : Addr} {kl : ClassId} {ls : List Value} (g : GH Z a0 EL zc un ca kc vs la kl ls) : (Jvm.Cond.instanceMethod ({ cls := "com/example/bindery/bindery/Globals$Variable", name := "assign", desc := "(Lcom/example/bindery/bindery/Named;Ljava/lang/Object;)V" } : Jvm.MethodName)).before a0 Z = true := g.1 _ (List.mem_of_getElem? (i := 102) rfl)
theorem wd_103 {Z : State} {a0 : Array Value} {EL : List (String × Nat)} {zc : Int32} {un : Addr} {ca : Addr} {kc : ClassId} {vs : List Value} {la : Addr} {kl : ClassId} {ls : List Value} (g : GH Z a0 EL zc un ca kc vs la kl ls) : (Jvm.Cond.selects "com/example/bindery/bindery/Globals$Variable" ({ cls := "com/example/bindery/bindery/Globals$Variable", name := "assign", desc := "(Lcom/example/bindery/bindery/Named;Ljava/lang/Object;)V" } : Jvm.MethodName) ({ cls := "com/example/bindery/bindery/Globals$Variable", name := "assign", desc := "(Lcom/example/bindery/bindery/Named;Ljava/lang/Object;)V" } : Jvm.MethodName)).before a0 Z = true := g.1 _ (List.mem_of_getElem? (i := 103) rfl)
theorem wd_104 {Z : State} {a0 : Array Value} {EL : List (String × Nat)} {zc : Int32} {un : Addr} {ca : Addr} {kc : ClassId} {vs : List Value} {la : Addr} {kl : ClassId} {ls : List Value} (g : GH Z a0 EL zc un ca kc vs la kl ls) : (Jvm.Cond.code ({ cls := "com/example/bindery/bindery/Globals$Variable", name := "assign", desc := "(Lcom/example/bindery/bindery/Named;Ljava/lang/Object;)V" } : Jvm.MethodName) prog_17_method_3_code (3 : Nat) (Option.none : Option Jvm.ClassFile.FieldType)).before a0 Z = true := g.1 _ (List.mem_of_getElem? (i := 104) rfl)
theorem wd_105 {Z : State} {a0 : Array Value} {EL : List (String × Nat)} {zc : Int32} {un : Addr} {ca : Addr} {kc : ClassId} {vs : List Value} {la : Addr} {kl : ClassId} {ls : List Value} (g : GH Z a0 EL zc un ca kc vs la kl ls) : (Jvm.Cond.classLink "java/lang/Long" (1 : Nat) "java/lang/Long").before a0 Z = true := g.1 _ (List.mem_of_getElem? (i := 105) rfl)
theorem wd_106 {Z : State} {a0 : Array Value} {EL : List (String × Nat)} {zc : Int32} {un : Addr} {ca : Addr} {kc : ClassId} {vs : List Value} {la : Addr} {kl : ClassId} {ls : List Value} (g : GH Z a0 EL zc un ca kc vs la kl ls) : (Jvm.Cond.instantiable "java/lang/Long" (1 : Nat)).before a0 Z = true := g.1 _ (List.mem_of_getElem? (i := 106) rfl)
theorem wd_107 {Z : State} {a0 : Array Value} {EL : List (String × Nat)} {zc : Int32} {un : Addr} {ca : Addr} {kc : ClassId} {vs : List Value} {la : Addr} {kl : ClassId} {ls : List Value} (g : GH Z a0 EL zc un ca kc vs la kl ls) : (Jvm.Cond.methodLink "java/lang/Long" (240 : Nat) ({ cls := "java/lang/Long", name := "<init>", desc := "(J)V" } : Jvm.MethodName)).before a0 Z = true := g.1 _ (List.mem_of_getElem? (i := 107) rfl)
theorem wd_108 {Z : State} {a0 : Array Value} {EL : List (String × Nat)} {zc : Int32} {un : Addr} {ca : Addr} {kc : ClassId} {vs : List Value} {la : Addr} {kl : ClassId} {ls : List Value} (g : GH Z a0 EL zc un ca kc vs la kl ls) : (Jvm.Cond.instanceMethod ({ cls := "java/lang/Long", name := "<init>", desc := "(J)V" } : Jvm.MethodName)).before a0 Z = true := g.1 _ (List.mem_of_getElem? (i := 108) rfl)
theorem wd_110 {Z : State} {a0 : Array Value} {EL : List (String × Nat)} {zc : Int32} {un : Addr} {ca : Addr} {kc : ClassId} {vs : List Value} {la : Addr} {kl : ClassId} {ls : List Value} (g : GH Z a0 EL zc un ca kc vs la kl ls) : (Jvm.Cond.code ({ cls := "java/lang/Long", name := "<init>", desc := "(J)V" } : Jvm.MethodName) jdk_35_method_26_code (3 : Nat) (Option.none : Option Jvm.ClassFile.FieldType)).before a0 Z = true := g.1 _ (List.mem_of_getElem? (i := 110) rfl)
theorem wd_111 {Z : State} {a0 : Array Value} {EL : List (String × Nat)} {zc : Int32} {un : Addr} {ca : Addr} {kc : ClassId} {vs : List Value} {la : Addr} {kl : ClassId} {ls : List Value} (g : GH Z a0 EL zc un ca kc vs la kl ls) : (Jvm.Cond.methodLink "java/lang/Long" (270 : Nat) ({ cls := "java/lang/Number", name := "<init>", desc := "()V" } : Jvm.MethodName)).before a0 Z = true := g.1 _ (List.mem_of_getElem? (i := 111) rfl)
theorem wd_112 {Z : State} {a0 : Array Value} {EL : List (String × Nat)} {zc : Int32} {un : Addr} {ca : Addr} {kc : ClassId} {vs : List Value} {la : Addr} {kl : ClassId} {ls : List Value} (g : GH Z a0 EL zc un ca kc vs la kl ls) : (Jvm.Cond.instanceMethod ({ cls := "java/lang/Number", name := "<init>", desc := "()V" } : Jvm.MethodName)).before a0 Z = true := g.1 _ (List.mem_of_getElem? (i := 112) rfl)
theorem wd_115 {Z : State} {a0 : Array Value} {EL : List (String × Nat)} {zc : Int32} {un : Addr} {ca : Addr} {kc : ClassId} {vs : List Value} {la : Addr} {kl : ClassId} {ls : List Value} (g : GH Z a0 EL zc un ca kc vs la kl ls) : (Jvm.Cond.initialized "java/lang/Number").before a0 Z = true := g.1 _ (List.mem_of_getElem? (i := 115) rfl)
theorem wd_116 {Z : State} {a0 : Array Value} {EL : List (String × Nat)} {zc : Int32} {un : Addr} {ca : Addr} {kc : ClassId} {vs : List Value} {la : Addr} {kl : ClassId} {ls : List Value} (g : GH Z a0 EL zc un ca kc vs la kl ls) : (Jvm.Cond.code ({ cls := "java/lang/Number", name := "<init>", desc := "()V" } : Jvm.MethodName) jdk_18_method_1_code (1 : Nat) (Option.none : Option Jvm.ClassFile.FieldType)).before a0 Z = true := g.1 _ (List.mem_of_getElem? (i := 116) rfl)
theorem wd_117 {Z : State} {a0 : Array Value} {EL : List (String × Nat)} {zc : Int32} {un : Addr} {ca : Addr} {kc : ClassId} {vs : List Value} {la : Addr} {kl : ClassId} {ls : List Value} (g : GH Z a0 EL zc un ca kc vs la kl ls) : (Jvm.Cond.methodLink "java/lang/Number" (1 : Nat) ({ cls := "java/lang/Object", name := "<init>", desc := "()V" } : Jvm.MethodName)).before a0 Z = true := g.1 _ (List.mem_of_getElem? (i := 117) rfl)
theorem wd_118 {Z : State} {a0 : Array Value} {EL : List (String × Nat)} {zc : Int32} {un : Addr} {ca : Addr} {kc : ClassId} {vs : List Value} {la : Addr} {kl : ClassId} {ls : List Value} (g : GH Z a0 EL zc un ca kc vs la kl ls) : (Jvm.Cond.fieldLink "java/lang/Long" (273 : Nat) "java/lang/Long" "value" "J").before a0 Z = true := g.1 _ (List.mem_of_getElem? (i := 118) rfl)
theorem wd_119 {Z : State} {a0 : Array Value} {EL : List (String × Nat)} {zc : Int32} {un : Addr} {ca : Addr} {kc : ClassId} {vs : List Value} {la : Addr} {kl : ClassId} {ls : List Value} (g : GH Z a0 EL zc un ca kc vs la kl ls) : (Jvm.Cond.laysFinal "java/lang/Long" "java/lang/Long" "value" "J").before a0 Z = true := g.1 _ (List.mem_of_getElem? (i := 119) rfl)
theorem wd_120 {Z : State} {a0 : Array Value} {EL : List (String × Nat)} {zc : Int32} {un : Addr} {ca : Addr} {kc : ClassId} {vs : List Value} {la : Addr} {kl : ClassId} {ls : List Value} (g : GH Z a0 EL zc un ca kc vs la kl ls) : (Jvm.Cond.classLink "java/lang/Integer" (1 : Nat) "java/lang/Integer").before a0 Z = true := g.1 _ (List.mem_of_getElem? (i := 120) rfl)
theorem wd_121 {Z : State} {a0 : Array Value} {EL : List (String × Nat)} {zc : Int32} {un : Addr} {ca : Addr} {kc : ClassId} {vs : List Value} {la : Addr} {kl : ClassId} {ls : List Value} (g : GH Z a0 EL zc un ca kc vs la kl ls) : (Jvm.Cond.instantiable "java/lang/Integer" (1 : Nat)).before a0 Z = true := g.1 _ (List.mem_of_getElem? (i := 121) rfl)
theorem wd_122 {Z : State} {a0 : Array Value} {EL : List (String × Nat)} {zc : Int32} {un : Addr} {ca : Addr} {kc : ClassId} {vs : List Value} {la : Addr} {kl : ClassId} {ls : List Value} (g : GH Z a0 EL zc un ca kc vs la kl ls) : (Jvm.Cond.methodLink "java/lang/Integer" (199 : Nat) ({ cls := "java/lang/Integer", name := "<init>", desc := "(I)V" } : Jvm.MethodName)).before a0 Z = true := g.1 _ (List.mem_of_getElem? (i := 122) rfl)
theorem wd_123 {Z : State} {a0 : Array Value} {EL : List (String × Nat)} {zc : Int32} {un : Addr} {ca : Addr} {kc : ClassId} {vs : List Value} {la : Addr} {kl : ClassId} {ls : List Value} (g : GH Z a0 EL zc un ca kc vs la kl ls) : (Jvm.Cond.instanceMethod ({ cls := "java/lang/Integer", name := "<init>", desc := "(I)V" } : Jvm.MethodName)).before a0 Z = true := g.1 _ (List.mem_of_getElem? (i := 123) rfl)
theorem wd_125 {Z : State} {a0 : Array Value} {EL : List (String × Nat)} {zc : Int32} {un : Addr} {ca : Addr} {kc : ClassId} {vs : List Value} {la : Addr} {kl : ClassId} {ls : List Value} (g : GH Z a0 EL zc un ca kc vs la kl ls) : (Jvm.Cond.code ({ cls := "java/lang/Integer", name := "<init>", desc := "(I)V" } : Jvm.MethodName) jdk_33_method_23_code (2 : Nat) (Option.none : Option Jvm.ClassFile.FieldType)).before a0 Z = true := g.1 _ (List.mem_of_getElem? (i := 125) rfl)
theorem wd_126 {Z : State} {a0 : Array Value} {EL : List (String × Nat)} {zc : Int32} {un : Addr} {ca : Addr} {kc : ClassId} {vs : List Value} {la : Addr} {kl : ClassId} {ls : List Value} (g : GH Z a0 EL zc un ca kc vs la kl ls) : (Jvm.Cond.methodLink "java/lang/Integer" (202 : Nat) ({ cls := "java/lang/Number", name := "<init>", desc := "()V" } : Jvm.MethodName)).before a0 Z = true := g.1 _ (List.mem_of_getElem? (i := 126) rfl)
theorem wd_128 {Z : State} {a0 : Array Value} {EL : List (String × Nat)} {zc : Int32} {un : Addr} {ca : Addr} {kc : ClassId} {vs : List Value} {la : Addr} {kl : ClassId} {ls : List Value} (g : GH Z a0 EL zc un ca kc vs la kl ls) : (Jvm.Cond.fieldLink "java/lang/Integer" (205 : Nat) "java/lang/Integer" "value" "I").before a0 Z = true := g.1 _ (List.mem_of_getElem? (i := 128) rfl)
theorem wd_129 {Z : State} {a0 : Array Value} {EL : List (String × Nat)} {zc : Int32} {un : Addr} {ca : Addr} {kc : ClassId} {vs : List Value} {la : Addr} {kl : ClassId} {ls : List Value} (g : GH Z a0 EL zc un ca kc vs la kl ls) : (Jvm.Cond.laysFinal "java/lang/Integer" "java/lang/Integer" "value" "I").before a0 Z = true := g.1 _ (List.mem_of_getElem? (i := 129) rfl)
theorem D_prog_14_method_1_code_0 : decode prog_14_method_1_code 0 = .ok (.aload_n 0, 1) := by decide +kernel
theorem D_prog_14_method_1_code_1 : decode prog_14_method_1_code 1 = .ok (.aload_n 1, 1) := by decide +kernel
theorem D_prog_14_method_1_code_2 : decode prog_14_method_1_code 2 = .ok (.iload_n 2, 1) := by decide +kernel
theorem D_prog_14_method_1_code_3 : decode prog_14_method_1_code 3 = .ok (.invokespecial 1, 3) := by decide +kernel
theorem D_prog_14_method_1_code_6 : decode prog_14_method_1_code 6 = .ok (.return_, 1) := by decide +kernel
theorem D_prog_17_method_1_code_0 : decode prog_17_method_1_code 0 = .ok (.aload_n 0, 1) := by decide +kernel
theorem D_prog_17_method_1_code_1 : decode prog_17_method_1_code 1 = .ok (.invokespecial 1, 3) := by decide +kernel
theorem D_prog_17_method_1_code_11 : decode prog_17_method_1_code 11 = .ok (.return_, 1) := by decide +kernel
theorem D_prog_17_method_1_code_4 : decode prog_17_method_1_code 4 = .ok (.aload_n 0, 1) := by decide +kernel
theorem D_prog_17_method_1_code_5 : decode prog_17_method_1_code 5 = .ok (.getstatic 7, 3) := by decide +kernel
theorem D_prog_17_method_1_code_8 : decode prog_17_method_1_code 8 = .ok (.putfield 13, 3) := by decide +kernel
theorem D_prog_17_method_3_code_0 : decode prog_17_method_3_code 0 = .ok (.aload_n 0, 1) := by decide +kernel
theorem D_prog_17_method_3_code_1 : decode prog_17_method_3_code 1 = .ok (.getfield 13, 3) := by decide +kernel
theorem D_prog_17_method_3_code_15 : decode prog_17_method_3_code 15 = .ok (.aload_n 0, 1) := by decide +kernel
theorem D_prog_17_method_3_code_16 : decode prog_17_method_3_code 16 = .ok (.aload_n 2, 1) := by decide +kernel
theorem D_prog_17_method_3_code_17 : decode prog_17_method_3_code 17 = .ok (.putfield 13, 3) := by decide +kernel
theorem D_prog_17_method_3_code_20 : decode prog_17_method_3_code 20 = .ok (.return_, 1) := by decide +kernel
theorem D_prog_17_method_3_code_4 : decode prog_17_method_3_code 4 = .ok (.getstatic 7, 3) := by decide +kernel
theorem D_prog_17_method_3_code_7 : decode prog_17_method_3_code 7 = .ok (.if_acmp .ne 8, 3) := by decide +kernel
theorem D_prog_17_method_4_code_0 : decode prog_17_method_4_code 0 = .ok (.aload_n 0, 1) := by decide +kernel
theorem D_prog_17_method_4_code_1 : decode prog_17_method_4_code 1 = .ok (.aload_n 1, 1) := by decide +kernel
theorem D_prog_17_method_4_code_2 : decode prog_17_method_4_code 2 = .ok (.putfield 13, 3) := by decide +kernel
theorem D_prog_17_method_4_code_5 : decode prog_17_method_4_code 5 = .ok (.return_, 1) := by decide +kernel
theorem D_prog_17_method_2_code_0 : decode prog_17_method_2_code 0 = .ok (.aload_n 0, 1) := by decide +kernel
theorem D_prog_17_method_2_code_1 : decode prog_17_method_2_code 1 = .ok (.getfield 13, 3) := by decide +kernel
theorem D_prog_17_method_2_code_15 : decode prog_17_method_2_code 15 = .ok (.aload_n 0, 1) := by decide +kernel
theorem D_prog_17_method_2_code_16 : decode prog_17_method_2_code 16 = .ok (.getfield 13, 3) := by decide +kernel
theorem D_prog_17_method_2_code_19 : decode prog_17_method_2_code 19 = .ok (.areturn, 1) := by decide +kernel
theorem D_prog_17_method_2_code_4 : decode prog_17_method_2_code 4 = .ok (.getstatic 7, 3) := by decide +kernel
theorem D_prog_17_method_2_code_7 : decode prog_17_method_2_code 7 = .ok (.if_acmp .ne 8, 3) := by decide +kernel
theorem D_prog_25_method_1_code_0 : decode prog_25_method_1_code 0 = .ok (.aload_n 0, 1) := by decide +kernel
theorem D_prog_25_method_1_code_1 : decode prog_25_method_1_code 1 = .ok (.invokespecial 1, 3) := by decide +kernel
theorem D_prog_25_method_1_code_10 : decode prog_25_method_1_code 10 = .ok (.iload_n 2, 1) := by decide +kernel
theorem D_prog_25_method_1_code_11 : decode prog_25_method_1_code 11 = .ok (.putfield 13, 3) := by decide +kernel
theorem D_prog_25_method_1_code_14 : decode prog_25_method_1_code 14 = .ok (.return_, 1) := by decide +kernel
theorem D_prog_25_method_1_code_4 : decode prog_25_method_1_code 4 = .ok (.aload_n 0, 1) := by decide +kernel
theorem D_prog_25_method_1_code_5 : decode prog_25_method_1_code 5 = .ok (.aload_n 1, 1) := by decide +kernel
theorem D_prog_25_method_1_code_6 : decode prog_25_method_1_code 6 = .ok (.putfield 7, 3) := by decide +kernel
theorem D_prog_25_method_1_code_9 : decode prog_25_method_1_code 9 = .ok (.aload_n 0, 1) := by decide +kernel
theorem D_method_2_code_0 : decode method_2_code 0 = .ok (.iload_n 0, 1) := by decide +kernel
theorem D_method_2_code_1 : decode method_2_code 1 = .ok (.ifCond .ne 8, 3) := by decide +kernel
theorem D_method_2_code_10 : decode method_2_code 10 = .ok (.iconst 1, 1) := by decide +kernel
theorem D_method_2_code_11 : decode method_2_code 11 = .ok (.if_icmp .ne 11, 3) := by decide +kernel
theorem D_method_2_code_14 : decode method_2_code 14 = .ok (.iload_n 1, 1) := by decide +kernel
theorem D_method_2_code_15 : decode method_2_code 15 = .ok (.invokestatic 7, 3) := by decide +kernel
theorem D_method_2_code_18 : decode method_2_code 18 = .ok (.astore_n 2, 1) := by decide +kernel
theorem D_method_2_code_19 : decode method_2_code 19 = .ok (.goto 27, 3) := by decide +kernel
theorem D_method_2_code_22 : decode method_2_code 22 = .ok (.iload_n 0, 1) := by decide +kernel
theorem D_method_2_code_23 : decode method_2_code 23 = .ok (.iconst 2, 1) := by decide +kernel
theorem D_method_2_code_24 : decode method_2_code 24 = .ok (.if_icmp .ne 16, 3) := by decide +kernel
theorem D_method_2_code_27 : decode method_2_code 27 = .ok (.iload_n 1, 1) := by decide +kernel
theorem D_method_2_code_28 : decode method_2_code 28 = .ok (.sipush 255, 3) := by decide +kernel
theorem D_method_2_code_31 : decode method_2_code 31 = .ok (.iand, 1) := by decide +kernel
theorem D_method_2_code_32 : decode method_2_code 32 = .ok (.i2c, 1) := by decide +kernel
theorem D_method_2_code_33 : decode method_2_code 33 = .ok (.invokestatic 13, 3) := by decide +kernel
theorem D_method_2_code_36 : decode method_2_code 36 = .ok (.astore_n 2, 1) := by decide +kernel
theorem D_method_2_code_37 : decode method_2_code 37 = .ok (.goto 9, 3) := by decide +kernel
theorem D_method_2_code_4 : decode method_2_code 4 = .ok (.aconst_null, 1) := by decide +kernel
theorem D_method_2_code_40 : decode method_2_code 40 = .ok (.iload_n 1, 1) := by decide +kernel
theorem D_method_2_code_41 : decode method_2_code 41 = .ok (.i2l, 1) := by decide +kernel
theorem D_method_2_code_42 : decode method_2_code 42 = .ok (.invokestatic 18, 3) := by decide +kernel
theorem D_method_2_code_45 : decode method_2_code 45 = .ok (.astore_n 2, 1) := by decide +kernel
theorem D_method_2_code_46 : decode method_2_code 46 = .ok (.aload_n 2, 1) := by decide +kernel
theorem D_method_2_code_47 : decode method_2_code 47 = .ok (.areturn, 1) := by decide +kernel
theorem D_method_2_code_5 : decode method_2_code 5 = .ok (.astore_n 2, 1) := by decide +kernel
theorem D_method_2_code_6 : decode method_2_code 6 = .ok (.goto 40, 3) := by decide +kernel
theorem D_method_2_code_9 : decode method_2_code 9 = .ok (.iload_n 0, 1) := by decide +kernel
theorem D_jdk_33_method_23_code_0 : decode jdk_33_method_23_code 0 = .ok (.aload_n 0, 1) := by decide +kernel
theorem D_jdk_33_method_23_code_1 : decode jdk_33_method_23_code 1 = .ok (.invokespecial 202, 3) := by decide +kernel
theorem D_jdk_33_method_23_code_4 : decode jdk_33_method_23_code 4 = .ok (.aload_n 0, 1) := by decide +kernel
theorem D_jdk_33_method_23_code_5 : decode jdk_33_method_23_code 5 = .ok (.iload_n 1, 1) := by decide +kernel
theorem D_jdk_33_method_23_code_6 : decode jdk_33_method_23_code 6 = .ok (.putfield 205, 3) := by decide +kernel
theorem D_jdk_33_method_23_code_9 : decode jdk_33_method_23_code 9 = .ok (.return_, 1) := by decide +kernel
theorem D_jdk_33_method_22_code_0 : decode jdk_33_method_22_code 0 = .ok (.iload_n 0, 1) := by decide +kernel
theorem D_jdk_33_method_22_code_1 : decode jdk_33_method_22_code 1 = .ok (.bipush (-128), 2) := by decide +kernel
theorem D_jdk_33_method_22_code_10 : decode jdk_33_method_22_code 10 = .ok (.if_icmp .gt 13, 3) := by decide +kernel
theorem D_jdk_33_method_22_code_13 : decode jdk_33_method_22_code 13 = .ok (.getstatic 195, 3) := by decide +kernel
theorem D_jdk_33_method_22_code_16 : decode jdk_33_method_22_code 16 = .ok (.iload_n 0, 1) := by decide +kernel
theorem D_jdk_33_method_22_code_17 : decode jdk_33_method_22_code 17 = .ok (.sipush 128, 3) := by decide +kernel
theorem D_jdk_33_method_22_code_20 : decode jdk_33_method_22_code 20 = .ok (.iadd, 1) := by decide +kernel
theorem D_jdk_33_method_22_code_21 : decode jdk_33_method_22_code 21 = .ok (.aaload, 1) := by decide +kernel
theorem D_jdk_33_method_22_code_22 : decode jdk_33_method_22_code 22 = .ok (.areturn, 1) := by decide +kernel
theorem D_jdk_33_method_22_code_23 : decode jdk_33_method_22_code 23 = .ok (.new 1, 3) := by decide +kernel
theorem D_jdk_33_method_22_code_26 : decode jdk_33_method_22_code 26 = .ok (.dup, 1) := by decide +kernel
theorem D_jdk_33_method_22_code_27 : decode jdk_33_method_22_code 27 = .ok (.iload_n 0, 1) := by decide +kernel
theorem D_jdk_33_method_22_code_28 : decode jdk_33_method_22_code 28 = .ok (.invokespecial 199, 3) := by decide +kernel
theorem D_jdk_33_method_22_code_3 : decode jdk_33_method_22_code 3 = .ok (.if_icmp .lt 20, 3) := by decide +kernel
theorem D_jdk_33_method_22_code_31 : decode jdk_33_method_22_code 31 = .ok (.areturn, 1) := by decide +kernel
theorem D_jdk_33_method_22_code_6 : decode jdk_33_method_22_code 6 = .ok (.iload_n 0, 1) := by decide +kernel
theorem D_jdk_33_method_22_code_7 : decode jdk_33_method_22_code 7 = .ok (.getstatic 191, 3) := by decide +kernel
theorem D_jdk_35_method_26_code_0 : decode jdk_35_method_26_code 0 = .ok (.aload_n 0, 1) := by decide +kernel
theorem D_jdk_35_method_26_code_1 : decode jdk_35_method_26_code 1 = .ok (.invokespecial 270, 3) := by decide +kernel
theorem D_jdk_35_method_26_code_4 : decode jdk_35_method_26_code 4 = .ok (.aload_n 0, 1) := by decide +kernel
theorem D_jdk_35_method_26_code_5 : decode jdk_35_method_26_code 5 = .ok (.lload_n 1, 1) := by decide +kernel
theorem D_jdk_35_method_26_code_6 : decode jdk_35_method_26_code 6 = .ok (.putfield 273, 3) := by decide +kernel
theorem D_jdk_35_method_26_code_9 : decode jdk_35_method_26_code 9 = .ok (.return_, 1) := by decide +kernel
theorem D_jdk_35_method_24_code_0 : decode jdk_35_method_24_code 0 = .ok (.sipush 128, 3) := by decide +kernel
theorem D_jdk_35_method_24_code_12 : decode jdk_35_method_24_code 12 = .ok (.lload_n 0, 1) := by decide +kernel
theorem D_jdk_35_method_24_code_13 : decode jdk_35_method_24_code 13 = .ok (.ldc2_w 232, 3) := by decide +kernel
theorem D_jdk_35_method_24_code_16 : decode jdk_35_method_24_code 16 = .ok (.lcmp, 1) := by decide +kernel
theorem D_jdk_35_method_24_code_17 : decode jdk_35_method_24_code 17 = .ok (.ifCond .gt 14, 3) := by decide +kernel
theorem D_jdk_35_method_24_code_20 : decode jdk_35_method_24_code 20 = .ok (.getstatic 234, 3) := by decide +kernel
theorem D_jdk_35_method_24_code_23 : decode jdk_35_method_24_code 23 = .ok (.lload_n 0, 1) := by decide +kernel
theorem D_jdk_35_method_24_code_24 : decode jdk_35_method_24_code 24 = .ok (.l2i, 1) := by decide +kernel
theorem D_jdk_35_method_24_code_25 : decode jdk_35_method_24_code 25 = .ok (.sipush 128, 3) := by decide +kernel
theorem D_jdk_35_method_24_code_28 : decode jdk_35_method_24_code 28 = .ok (.iadd, 1) := by decide +kernel
theorem D_jdk_35_method_24_code_29 : decode jdk_35_method_24_code 29 = .ok (.aaload, 1) := by decide +kernel
theorem D_jdk_35_method_24_code_3 : decode jdk_35_method_24_code 3 = .ok (.istore_n 2, 1) := by decide +kernel
theorem D_jdk_35_method_24_code_30 : decode jdk_35_method_24_code 30 = .ok (.areturn, 1) := by decide +kernel
theorem D_jdk_35_method_24_code_31 : decode jdk_35_method_24_code 31 = .ok (.new 1, 3) := by decide +kernel
theorem D_jdk_35_method_24_code_34 : decode jdk_35_method_24_code 34 = .ok (.dup, 1) := by decide +kernel
theorem D_jdk_35_method_24_code_35 : decode jdk_35_method_24_code 35 = .ok (.lload_n 0, 1) := by decide +kernel
theorem D_jdk_35_method_24_code_36 : decode jdk_35_method_24_code 36 = .ok (.invokespecial 240, 3) := by decide +kernel
theorem D_jdk_35_method_24_code_39 : decode jdk_35_method_24_code 39 = .ok (.areturn, 1) := by decide +kernel
theorem D_jdk_35_method_24_code_4 : decode jdk_35_method_24_code 4 = .ok (.lload_n 0, 1) := by decide +kernel
theorem D_jdk_35_method_24_code_5 : decode jdk_35_method_24_code 5 = .ok (.ldc2_w 230, 3) := by decide +kernel
theorem D_jdk_35_method_24_code_8 : decode jdk_35_method_24_code 8 = .ok (.lcmp, 1) := by decide +kernel
theorem D_jdk_35_method_24_code_9 : decode jdk_35_method_24_code 9 = .ok (.ifCond .lt 22, 3) := by decide +kernel
theorem D_jdk_18_method_1_code_0 : decode jdk_18_method_1_code 0 = .ok (.aload_n 0, 1) := by decide +kernel
theorem D_jdk_18_method_1_code_1 : decode jdk_18_method_1_code 1 = .ok (.invokespecial 1, 3) := by decide +kernel
theorem D_jdk_18_method_1_code_4 : decode jdk_18_method_1_code 4 = .ok (.return_, 1) := by decide +kernel
theorem D_jdk_42_method_151_code_0 : decode jdk_42_method_151_code 0 = .ok (.aload_n 0, 1) := by decide +kernel
theorem D_jdk_42_method_151_code_1 : decode jdk_42_method_151_code 1 = .ok (.invokespecial 1, 3) := by decide +kernel
theorem D_jdk_42_method_151_code_10 : decode jdk_42_method_151_code 10 = .ok (.iload_n 2, 1) := by decide +kernel
theorem D_jdk_42_method_151_code_11 : decode jdk_42_method_151_code 11 = .ok (.putfield 15, 3) := by decide +kernel
theorem D_jdk_42_method_151_code_14 : decode jdk_42_method_151_code 14 = .ok (.return_, 1) := by decide +kernel
theorem D_jdk_42_method_151_code_4 : decode jdk_42_method_151_code 4 = .ok (.aload_n 0, 1) := by decide +kernel
theorem D_jdk_42_method_151_code_5 : decode jdk_42_method_151_code 5 = .ok (.aload_n 1, 1) := by decide +kernel
theorem D_jdk_42_method_151_code_6 : decode jdk_42_method_151_code 6 = .ok (.putfield 9, 3) := by decide +kernel
theorem D_jdk_42_method_151_code_9 : decode jdk_42_method_151_code 9 = .ok (.aload_n 0, 1) := by decide +kernel
theorem D_jdk_42_method_3_code_0 : decode jdk_42_method_3_code 0 = .ok (.aload_n 0, 1) := by decide +kernel
theorem D_jdk_42_method_3_code_1 : decode jdk_42_method_3_code 1 = .ok (.aload_n 1, 1) := by decide +kernel
theorem D_jdk_42_method_3_code_2 : decode jdk_42_method_3_code 2 = .ok (.iconst 0, 1) := by decide +kernel
theorem D_jdk_42_method_3_code_3 : decode jdk_42_method_3_code 3 = .ok (.aload_n 1, 1) := by decide +kernel
theorem D_jdk_42_method_3_code_4 : decode jdk_42_method_3_code 4 = .ok (.arraylength, 1) := by decide +kernel
theorem D_jdk_42_method_3_code_5 : decode jdk_42_method_3_code 5 = .ok (.aconst_null, 1) := by decide +kernel
theorem D_jdk_42_method_3_code_6 : decode jdk_42_method_3_code 6 = .ok (.invokespecial 27, 3) := by decide +kernel
theorem D_jdk_42_method_3_code_9 : decode jdk_42_method_3_code 9 = .ok (.return_, 1) := by decide +kernel
theorem D_jdk_42_method_149_code_0 : decode jdk_42_method_149_code 0 = .ok (.aload_n 0, 1) := by decide +kernel
theorem D_jdk_42_method_149_code_1 : decode jdk_42_method_149_code 1 = .ok (.invokespecial 1, 3) := by decide +kernel
theorem D_jdk_42_method_149_code_27 : decode jdk_42_method_149_code 27 = .ok (.getstatic 38, 3) := by decide +kernel
theorem D_jdk_42_method_149_code_30 : decode jdk_42_method_149_code 30 = .ok (.ifCond .eq 28, 3) := by decide +kernel
theorem D_jdk_42_method_149_code_33 : decode jdk_42_method_149_code 33 = .ok (.aload_n 1, 1) := by decide +kernel
theorem D_jdk_42_method_149_code_34 : decode jdk_42_method_149_code 34 = .ok (.iload_n 2, 1) := by decide +kernel
theorem D_jdk_42_method_149_code_35 : decode jdk_42_method_149_code 35 = .ok (.iload_n 3, 1) := by decide +kernel
theorem D_jdk_42_method_149_code_36 : decode jdk_42_method_149_code 36 = .ok (.invokestatic 177, 3) := by decide +kernel
theorem D_jdk_42_method_149_code_39 : decode jdk_42_method_149_code 39 = .ok (.astore 5, 2) := by decide +kernel
theorem D_jdk_42_method_149_code_4 : decode jdk_42_method_149_code 4 = .ok (.iload_n 3, 1) := by decide +kernel
theorem D_jdk_42_method_149_code_41 : decode jdk_42_method_149_code 41 = .ok (.aload_n 0, 1) := by decide +kernel
theorem D_jdk_42_method_149_code_42 : decode jdk_42_method_149_code 42 = .ok (.aload 5, 2) := by decide +kernel
theorem D_jdk_42_method_149_code_44 : decode jdk_42_method_149_code 44 = .ok (.iload_n 3, 1) := by decide +kernel
theorem D_jdk_42_method_149_code_45 : decode jdk_42_method_149_code 45 = .ok (.invokestatic 47, 3) := by decide +kernel
theorem D_jdk_42_method_149_code_48 : decode jdk_42_method_149_code 48 = .ok (.putfield 15, 3) := by decide +kernel
theorem D_jdk_42_method_149_code_5 : decode jdk_42_method_149_code 5 = .ok (.ifCond .ne 22, 3) := by decide +kernel
theorem D_jdk_42_method_149_code_51 : decode jdk_42_method_149_code 51 = .ok (.aload_n 0, 1) := by decide +kernel
theorem D_jdk_42_method_149_code_52 : decode jdk_42_method_149_code 52 = .ok (.aload 5, 2) := by decide +kernel
theorem D_jdk_42_method_149_code_54 : decode jdk_42_method_149_code 54 = .ok (.putfield 9, 3) := by decide +kernel
theorem D_jdk_42_method_149_code_57 : decode jdk_42_method_149_code 57 = .ok (.return_, 1) := by decide +kernel
theorem D_jdk_42_method_139_code_0 : decode jdk_42_method_139_code 0 = .ok (.getstatic 38, 3) := by decide +kernel
theorem D_jdk_42_method_139_code_10 : decode jdk_42_method_139_code 10 = .ok (.ifCond .eq 16, 3) := by decide +kernel
theorem D_jdk_42_method_139_code_13 : decode jdk_42_method_139_code 13 = .ok (.new 10, 3) := by decide +kernel
theorem D_jdk_42_method_139_code_16 : decode jdk_42_method_139_code 16 = .ok (.dup, 1) := by decide +kernel
theorem D_jdk_42_method_139_code_17 : decode jdk_42_method_139_code 17 = .ok (.iload_n 0, 1) := by decide +kernel
theorem D_jdk_42_method_139_code_18 : decode jdk_42_method_139_code 18 = .ok (.invokestatic 1018, 3) := by decide +kernel
theorem D_jdk_42_method_139_code_21 : decode jdk_42_method_139_code 21 = .ok (.iconst 0, 1) := by decide +kernel
theorem D_jdk_42_method_139_code_22 : decode jdk_42_method_139_code 22 = .ok (.invokespecial 209, 3) := by decide +kernel
theorem D_jdk_42_method_139_code_25 : decode jdk_42_method_139_code 25 = .ok (.areturn, 1) := by decide +kernel
theorem D_jdk_42_method_139_code_3 : decode jdk_42_method_139_code 3 = .ok (.ifCond .eq 23, 3) := by decide +kernel
theorem D_jdk_42_method_139_code_6 : decode jdk_42_method_139_code 6 = .ok (.iload_n 0, 1) := by decide +kernel
theorem D_jdk_42_method_139_code_7 : decode jdk_42_method_139_code 7 = .ok (.invokestatic 1015, 3) := by decide +kernel
theorem D_jdk_43_method_3_code_0 : decode jdk_43_method_3_code 0 = .ok (.iload_n 0, 1) := by decide +kernel
theorem D_jdk_43_method_3_code_1 : decode jdk_43_method_3_code 1 = .ok (.sipush 255, 3) := by decide +kernel
theorem D_jdk_43_method_3_code_12 : decode jdk_43_method_3_code 12 = .ok (.ireturn, 1) := by decide +kernel
theorem D_jdk_43_method_3_code_4 : decode jdk_43_method_3_code 4 = .ok (.if_icmp .gt 7, 3) := by decide +kernel
theorem D_jdk_43_method_3_code_7 : decode jdk_43_method_3_code 7 = .ok (.iconst 1, 1) := by decide +kernel
theorem D_jdk_43_method_3_code_8 : decode jdk_43_method_3_code 8 = .ok (.goto 4, 3) := by decide +kernel
theorem D_jdk_43_method_46_code_0 : decode jdk_43_method_46_code 0 = .ok (.iconst 1, 1) := by decide +kernel
theorem D_jdk_43_method_46_code_1 : decode jdk_43_method_46_code 1 = .ok (.newarray .byte, 2) := by decide +kernel
theorem D_jdk_43_method_46_code_3 : decode jdk_43_method_46_code 3 = .ok (.dup, 1) := by decide +kernel
theorem D_jdk_43_method_46_code_4 : decode jdk_43_method_46_code 4 = .ok (.iconst 0, 1) := by decide +kernel
theorem D_jdk_43_method_46_code_5 : decode jdk_43_method_46_code 5 = .ok (.iload_n 0, 1) := by decide +kernel
theorem D_jdk_43_method_46_code_6 : decode jdk_43_method_46_code 6 = .ok (.i2b, 1) := by decide +kernel
theorem D_jdk_43_method_46_code_7 : decode jdk_43_method_46_code 7 = .ok (.bastore, 1) := by decide +kernel
theorem D_jdk_43_method_46_code_8 : decode jdk_43_method_46_code 8 = .ok (.areturn, 1) := by decide +kernel
theorem D_jdk_52_method_15_code_0 : decode jdk_52_method_15_code 0 = .ok (.iload_n 1, 1) := by decide +kernel
theorem D_jdk_52_method_15_code_1 : decode jdk_52_method_15_code 1 = .ok (.aload_n 0, 1) := by decide +kernel
theorem D_jdk_52_method_15_code_2 : decode jdk_52_method_15_code 2 = .ok (.arraylength, 1) := by decide +kernel
theorem D_jdk_52_method_15_code_3 : decode jdk_52_method_15_code 3 = .ok (.isub, 1) := by decide +kernel
theorem D_jdk_52_method_15_code_4 : decode jdk_52_method_15_code 4 = .ok (.bipush 31, 2) := by decide +kernel
theorem D_jdk_52_method_15_code_6 : decode jdk_52_method_15_code 6 = .ok (.iushr, 1) := by decide +kernel
theorem D_jdk_52_method_15_code_7 : decode jdk_52_method_15_code 7 = .ok (.i2b, 1) := by decide +kernel
theorem D_jdk_52_method_15_code_8 : decode jdk_52_method_15_code 8 = .ok (.ireturn, 1) := by decide +kernel
theorem D_jdk_52_method_16_code_0 : decode jdk_52_method_16_code 0 = .ok (.iload_n 2, 1) := by decide +kernel
theorem D_jdk_52_method_16_code_1 : decode jdk_52_method_16_code 1 = .ok (.newarray .byte, 2) := by decide +kernel
theorem D_jdk_52_method_16_code_12 : decode jdk_52_method_16_code 12 = .ok (.istore 4, 2) := by decide +kernel
theorem D_jdk_52_method_16_code_14 : decode jdk_52_method_16_code 14 = .ok (.iload 4, 2) := by decide +kernel
theorem D_jdk_52_method_16_code_16 : decode jdk_52_method_16_code 16 = .ok (.iload_n 2, 1) := by decide +kernel
theorem D_jdk_52_method_16_code_17 : decode jdk_52_method_16_code 17 = .ok (.if_icmp .eq 40, 3) := by decide +kernel
theorem D_jdk_52_method_16_code_3 : decode jdk_52_method_16_code 3 = .ok (.astore_n 3, 1) := by decide +kernel
theorem D_jdk_52_method_16_code_4 : decode jdk_52_method_16_code 4 = .ok (.aload_n 0, 1) := by decide +kernel
theorem D_jdk_52_method_16_code_5 : decode jdk_52_method_16_code 5 = .ok (.iload_n 1, 1) := by decide +kernel
theorem D_jdk_52_method_16_code_57 : decode jdk_52_method_16_code 57 = .ok (.aload_n 3, 1) := by decide +kernel
theorem D_jdk_52_method_16_code_58 : decode jdk_52_method_16_code 58 = .ok (.areturn, 1) := by decide +kernel
theorem D_jdk_52_method_16_code_6 : decode jdk_52_method_16_code 6 = .ok (.aload_n 3, 1) := by decide +kernel
theorem D_jdk_52_method_16_code_7 : decode jdk_52_method_16_code 7 = .ok (.iconst 0, 1) := by decide +kernel
theorem D_jdk_52_method_16_code_8 : decode jdk_52_method_16_code 8 = .ok (.iload_n 2, 1) := by decide +kernel
theorem D_jdk_52_method_16_code_9 : decode jdk_52_method_16_code 9 = .ok (.invokestatic 115, 3) := by decide +kernel
theorem D_jdk_52_method_21_code_0 : decode jdk_52_method_21_code 0 = .ok (.iconst 0, 1) := by decide +kernel
theorem D_jdk_52_method_21_code_1 : decode jdk_52_method_21_code 1 = .ok (.istore 5, 2) := by decide +kernel
theorem D_jdk_52_method_21_code_10 : decode jdk_52_method_21_code 10 = .ok (.aload_n 0, 1) := by decide +kernel
theorem D_jdk_52_method_21_code_11 : decode jdk_52_method_21_code 11 = .ok (.iload_n 1, 1) := by decide +kernel
theorem D_jdk_52_method_21_code_12 : decode jdk_52_method_21_code 12 = .ok (.caload, 1) := by decide +kernel
theorem D_jdk_52_method_21_code_13 : decode jdk_52_method_21_code 13 = .ok (.istore 6, 2) := by decide +kernel
theorem D_jdk_52_method_21_code_15 : decode jdk_52_method_21_code 15 = .ok (.iload 6, 2) := by decide +kernel
theorem D_jdk_52_method_21_code_17 : decode jdk_52_method_21_code 17 = .ok (.sipush 255, 3) := by decide +kernel
theorem D_jdk_52_method_21_code_20 : decode jdk_52_method_21_code 20 = .ok (.if_icmp .le 6, 3) := by decide +kernel
theorem D_jdk_52_method_21_code_26 : decode jdk_52_method_21_code 26 = .ok (.aload_n 2, 1) := by decide +kernel
theorem D_jdk_52_method_21_code_27 : decode jdk_52_method_21_code 27 = .ok (.iload_n 3, 1) := by decide +kernel
theorem D_jdk_52_method_21_code_28 : decode jdk_52_method_21_code 28 = .ok (.iload 6, 2) := by decide +kernel
theorem D_jdk_52_method_21_code_3 : decode jdk_52_method_21_code 3 = .ok (.iload 5, 2) := by decide +kernel
theorem D_jdk_52_method_21_code_30 : decode jdk_52_method_21_code 30 = .ok (.i2b, 1) := by decide +kernel
theorem D_jdk_52_method_21_code_31 : decode jdk_52_method_21_code 31 = .ok (.bastore, 1) := by decide +kernel
theorem D_jdk_52_method_21_code_32 : decode jdk_52_method_21_code 32 = .ok (.iinc 1 1, 3) := by decide +kernel
theorem D_jdk_52_method_21_code_35 : decode jdk_52_method_21_code 35 = .ok (.iinc 3 1, 3) := by decide +kernel
theorem D_jdk_52_method_21_code_38 : decode jdk_52_method_21_code 38 = .ok (.iinc 5 1, 3) := by decide +kernel
theorem D_jdk_52_method_21_code_41 : decode jdk_52_method_21_code 41 = .ok (.goto (-38), 3) := by decide +kernel
theorem D_jdk_52_method_21_code_44 : decode jdk_52_method_21_code 44 = .ok (.iload 4, 2) := by decide +kernel
theorem D_jdk_52_method_21_code_46 : decode jdk_52_method_21_code 46 = .ok (.ireturn, 1) := by decide +kernel
theorem D_jdk_52_method_21_code_5 : decode jdk_52_method_21_code 5 = .ok (.iload 4, 2) := by decide +kernel
theorem D_jdk_52_method_21_code_7 : decode jdk_52_method_21_code 7 = .ok (.if_icmp .ge 37, 3) := by decide +kernel
theorem pd_0 : parseMethodDescriptor "([CI[BII)I" = some ⟨[(.array .char), .int, (.array .byte), .int, .int], some .int⟩ := by decide +kernel
theorem pd_1 : parseMethodDescriptor "([CII)[B" = some ⟨[(.array .char), .int, .int], some (.array .byte)⟩ := by decide +kernel
theorem pd_2 : parseMethodDescriptor "([BI)B" = some ⟨[(.array .byte), .int], some .byte⟩ := by decide +kernel
theorem pd_3 : parseMethodDescriptor "([CIILjava/lang/Void;)V" = some ⟨[(.array .char), .int, .int, (.object "java/lang/Void")], none⟩ := by decide +kernel
theorem pd_4 : parseMethodDescriptor "()V" = some ⟨[], none⟩ := by decide +kernel
theorem pd_5 : parseMethodDescriptor "(I)V" = some ⟨[.int], none⟩ := by decide +kernel
theorem pd_6 : parseMethodDescriptor "(Ljava/lang/String;I)V" = some ⟨[(.object "java/lang/String"), .int], none⟩ := by decide +kernel
theorem pd_7 : parseMethodDescriptor "(C)Z" = some ⟨[.char], some .boolean⟩ := by decide +kernel
theorem pd_8 : parseMethodDescriptor "(C)[B" = some ⟨[.char], some (.array .byte)⟩ := by decide +kernel
theorem pd_9 : parseMethodDescriptor "([BB)V" = some ⟨[(.array .byte), .byte], none⟩ := by decide +kernel
theorem pd_10 : parseMethodDescriptor "(J)V" = some ⟨[.long], none⟩ := by decide +kernel
theorem pd_11 : parseMethodDescriptor "(J)Ljava/lang/Long;" = some ⟨[.long], some (.object "java/lang/Long")⟩ := by decide +kernel
theorem pd_12 : parseMethodDescriptor "(C)Ljava/lang/String;" = some ⟨[.char], some (.object "java/lang/String")⟩ := by decide +kernel
theorem pd_13 : parseMethodDescriptor "(I)Ljava/lang/Integer;" = some ⟨[.int], some (.object "java/lang/Integer")⟩ := by decide +kernel
theorem pd_14 : parseMethodDescriptor "([C)V" = some ⟨[(.array .char)], none⟩ := by decide +kernel
theorem pd_15 : parseMethodDescriptor "(II)Ljava/lang/Object;" = some ⟨[.int, .int], some (.object "java/lang/Object")⟩ := by decide +kernel
theorem pd_16 : parseMethodDescriptor "(Ljava/lang/Object;)V" = some ⟨[(.object "java/lang/Object")], none⟩ := by decide +kernel
theorem pd_17 : parseMethodDescriptor "(Lcom/example/bindery/bindery/Named;)Ljava/lang/Object;" = some ⟨[(.object "com/example/bindery/bindery/Named")], some (.object "java/lang/Object")⟩ := by decide +kernel
theorem pd_18 : parseMethodDescriptor "(Lcom/example/bindery/bindery/Named;Ljava/lang/Object;)V" = some ⟨[(.object "com/example/bindery/bindery/Named"), (.object "java/lang/Object")], none⟩ := by decide +kernel
theorem pn_0 : plainName "java/lang/StringUTF16" = true := by first | (simp [plainName, overriddenIn]; done) | decide +kernel
theorem pn_1 : plainName "java/lang/String" = true := by first | (simp [plainName, overriddenIn]; done) | decide +kernel
theorem pn_2 : plainName "java/lang/Number" = true := by first | (simp [plainName, overriddenIn]; done) | decide +kernel
theorem pn_3 : plainName "java/lang/Integer" = true := by first | (simp [plainName, overriddenIn]; done) | decide +kernel
theorem pn_4 : plainName "com/example/bindery/bindery/Named" = true := by first | (simp [plainName, overriddenIn]; done) | decide +kernel
theorem pn_5 : plainName "com/example/bindery/bindery/Expr$Variable" = true := by first | (simp [plainName, overriddenIn]; done) | decide +kernel
theorem pn_6 : plainName "com/example/bindery/bindery/Globals$Variable" = true := by first | (simp [plainName, overriddenIn]; done) | decide +kernel
theorem pn_7 : plainName "java/lang/StringLatin1" = true := by first | (simp [plainName, overriddenIn]; done) | decide +kernel
theorem pn_8 : plainName "java/lang/Long" = true := by first | (simp [plainName, overriddenIn]; done) | decide +kernel
theorem pn_9 : plainName "com/example/bindery/bindery/VariableGetPinLaw" = true := by first | (simp [plainName, overriddenIn]; done) | decide +kernel
set_option maxRecDepth 65536 in
set_option maxHeartbeats 40000000 in
theorem c_compress5 {l : Launch} {Z : State} {a0 : Array Value} {EL : List (String × Nat)} {nw : Prop} {zc : Int32} {un : Addr} {ca : Addr} {kc : ClassId} {vs : List Value} {la : Addr} {kl : ClassId} {ls : List Value} (g : GH Z a0 EL zc un ca kc vs la kl ls) (h : Heap) (b : Addr) (kb : ClassId) (cs : List Int32) (d : Addr) (kd : ClassId) (hcs : ∀ c ∈ cs, 0 ≤ c.toInt ∧ c.toInt ≤ 255) (hl : cs.length ≤ 4000) (hne : ¬ b = d) (gd : Z.heap.size ≤ d) (e0 : Ar Z h b kb .char (cs.map Value.int)) (e1 : Ar Z h d kd .byte ((List.replicate cs.length (0 : Int32)).map Value.int)) (zz : Z.heap.size ≤ h.size) :
    Ct l Z EL nw [] ⟨"java/lang/StringUTF16", "compress", "([CI[BII)I"⟩ jdk_52_method_21_code 7 (some .int) ({ frames := 0, cells := 0, slots := 0, locals := 0 } : Room) #[(.ref b), (.int (0 : Int32)), (.ref d), (.int (0 : Int32)), (.int (cs.length.toInt32))] h [d] (fun res vm' h' => res = some (.int (cs.length.toInt32)) ∧ Keep h h' [d] ∧ Ar Z h' d kd .byte ((cs.map by8).map Value.int) ∧ Safe Z EL vm' h' d) := by
  have ye0 := ltN e0.lt
  have ye1 := ltN e1.lt
  refine Ct.of_go (a0 := a0) g.2.1 pn_0 (L0 := #[.val (.ref b), .val (.int (0 : Int32)), .val (.ref d), .val (.int (0 : Int32)), .val (.int (cs.length.toInt32)), .unset, .unset]) (fun m => by first | (simp [entryFrame, mkF, argsToLocals, Value.category, own_rep]; done) | rfl) ?_
  intro p e s m below meth c hown hby hml hret hnm hZ hC hO hsf
  refine Go.iconst (hb hby D_jdk_52_method_21_code_0) (pc' := 1) rfl (z := (0 : Int32)) rfl ?_
  refine Go.istore (hb hby D_jdk_52_method_21_code_1) (pc' := 3) rfl (L' := #[.val (.ref b), .val (.int (0 : Int32)), .val (.ref d), .val (.int (0 : Int32)), .val (.int (cs.length.toInt32)), .val (.int (0 : Int32)), .unset]) rfl ?_
  refine Go.loop (Inv := fun r vmI hI kI nI LI => vmI = s.vm ∧ kI = 0 ∧ nI = 0 ∧ ∃ (i : Nat) (s6 : Slot), i + r = cs.length ∧ (s6 = .unset ∨ ∃ w, s6 = .val (.int w)) ∧ LI = #[.val (.ref b), .val (.int i.toInt32), .val (.ref d), .val (.int i.toInt32), .val (.int (cs.length.toInt32)), .val (.int i.toInt32), s6] ∧ Keep h hI [d] ∧ Ar Z hI d kd .byte (((cs.map by8).take i ++ List.replicate ((cs.map by8).length - i) 0).map Value.int) ∧ Safe Z EL s.vm hI d) ?_ cs.length _ _ _ _ _ ⟨rfl, rfl, rfl, 0, .unset, Nat.zero_add _, Or.inl rfl, rfl, Keep.refl _ _, by simpa using e1, hsf _ (by simp)⟩
  rintro r vmI hI kI nI LI ⟨rfl, rfl, rfl, i, s6, hir, hs6, rfl, KI, AI, SI⟩ ih
  have yI := KI.1
  have hi31 : i < 2 ^ 31 := by omega
  have hn31 : cs.length < 2 ^ 31 := by omega
  rcases hs6 with rfl | ⟨w6, rfl⟩
  · refine Go.iload (hb hby D_jdk_52_method_21_code_3) (pc' := 5) rfl rfl ?_
    refine Go.iload (hb hby D_jdk_52_method_21_code_5) (pc' := 7) rfl rfl ?_
    refine Go.icmp (hb hby D_jdk_52_method_21_code_7) (by decide) (pc' := 44) (by decide) (pc2 := 10) rfl (fun (q7 : ¬ i.toInt32 < (cs.length.toInt32)) => ?_) (fun (q7 : ¬ (¬ i.toInt32 < (cs.length.toInt32))) => ?_)
    · have hi : ¬ i < cs.length := fun z => q7 ((lt32 hi31 hn31).mpr z)
      have hi' : i = cs.length := by omega
      subst hi'
      have AI' : Ar Z hI d kd .byte ((cs.map by8).map Value.int) := by have q := AI; rw [show (cs.map by8).take cs.length ++ List.replicate ((cs.map by8).length - cs.length) 0 = cs.map by8 by simp [List.take_of_length_le]] at q; exact q
      refine Go.iload (hb hby D_jdk_52_method_21_code_44) (pc' := 46) rfl rfl ?_
      refine Go.retI hret (hb hby D_jdk_52_method_21_code_46) (by decide) (by decide) ?_
      intro vmR CR
      exact ⟨(by first | rfl | (simp only [own_nar]; done) | (congr 2; done)), ((Keep.refl h [d]).trans KI (allS (by first | (left; simp; done) | (right; omega)) all0)), AI', (Safe.to CR (by omega) SI)⟩
    · refine Go.aloadN (hb hby D_jdk_52_method_21_code_10) (pc' := 11) rfl rfl rfl ?_
      refine Go.iloadN (hb hby D_jdk_52_method_21_code_11) (pc' := 12) rfl rfl ?_
      have f1 : Ar Z hI b kb .char (cs.map Value.int) := (e0.keep KI (ninS hne nin0))
      have hi : i < cs.length := (lt32 hi31 hn31).mp (Classical.not_not.mp q7)
      obtain ⟨cx, hc⟩ : ∃ cx, cs[i] = cx := ⟨_, rfl⟩
      have hcb := hcs cx (hc ▸ List.getElem_mem hi)
      refine Go.caload f1 (v := (.int cx)) (nneg32 hi31) (by rw [clamp_nat hi31]; simp [hi, hc]) (hb hby D_jdk_52_method_21_code_12) (pc' := 13) rfl ?_
      refine Go.istore (hb hby D_jdk_52_method_21_code_13) (pc' := 15) rfl (L' := #[.val (.ref b), .val (.int i.toInt32), .val (.ref d), .val (.int i.toInt32), .val (.int (cs.length.toInt32)), .val (.int i.toInt32), .val (.int cx)]) rfl ?_
      refine Go.iload (hb hby D_jdk_52_method_21_code_15) (pc' := 17) rfl rfl ?_
      refine Go.sipush (hb hby D_jdk_52_method_21_code_17) (pc' := 20) rfl (z := (255 : Int32)) rfl ?_
      refine Go.icmpY (hb hby D_jdk_52_method_21_code_20) (by decide) (pc' := 26) (by decide) (by show ¬ (255 : Int32) < cx; rw [Int32.lt_iff_toInt_lt]; have : (255 : Int32).toInt = 255 := rfl; omega) ?_
      refine Go.aloadN (hb hby D_jdk_52_method_21_code_26) (pc' := 27) rfl rfl rfl ?_
      refine Go.iloadN (hb hby D_jdk_52_method_21_code_27) (pc' := 28) rfl rfl ?_
      refine Go.iload (hb hby D_jdk_52_method_21_code_28) (pc' := 30) rfl rfl ?_
      refine Go.i2b (hb hby D_jdk_52_method_21_code_30) (pc' := 31) rfl ?_
      refine Go.bastore AI (nneg32 hi31) (by rw [clamp_nat hi31]; simp; omega) SI (by omega) (hb hby D_jdk_52_method_21_code_31) (pc' := 32) rfl ?_
      intro h2 A3 z4 K5 S6 C7
      have A3 : Ar Z h2 d kd .byte ((((cs.map by8).take i ++ List.replicate ((cs.map by8).length - i) 0).map Value.int).set i.toInt32.toNatClampNeg (.int (nar .byte cx.toInt8.toInt32))) := A3
      refine Go.iinc (hb hby D_jdk_52_method_21_code_32) (pc' := 35) rfl rfl (L' := #[.val (.ref b), .val (.int (i.toInt32 + 1)), .val (.ref d), .val (.int i.toInt32), .val (.int (cs.length.toInt32)), .val (.int i.toInt32), .val (.int cx)]) rfl ?_
      refine Go.iinc (hb hby D_jdk_52_method_21_code_35) (pc' := 38) rfl rfl (L' := #[.val (.ref b), .val (.int (i.toInt32 + 1)), .val (.ref d), .val (.int (i.toInt32 + 1)), .val (.int (cs.length.toInt32)), .val (.int i.toInt32), .val (.int cx)]) rfl ?_
      refine Go.iinc (hb hby D_jdk_52_method_21_code_38) (pc' := 41) rfl rfl (L' := #[.val (.ref b), .val (.int (i.toInt32 + 1)), .val (.ref d), .val (.int (i.toInt32 + 1)), .val (.int (cs.length.toInt32)), .val (.int (i.toInt32 + 1)), .val (.int cx)]) rfl ?_
      refine Go.goto (hb hby D_jdk_52_method_21_code_41) (by decide) (pc' := 3) (by decide) ?_
      have hset := fill_set (cs.map by8) 0 i (by simpa using hi)
      rw [succ32 i]
      refine ih (r - 1) _ _ _ _ _ (by omega) ⟨rfl, rfl, rfl, i + 1, _, by omega, Or.inr ⟨_, rfl⟩, rfl, Keep.tr KI K5, ?_, S6⟩
      rw [nar_by8, clamp_nat hi31] at A3
      have e2 : (cs.map by8)[i]'(by simpa using hi) = by8 cx := by simp [hc]
      rw [← hset, e2, List.map_set]; exact A3
  · refine Go.iload (hb hby D_jdk_52_method_21_code_3) (pc' := 5) rfl rfl ?_
    refine Go.iload (hb hby D_jdk_52_method_21_code_5) (pc' := 7) rfl rfl ?_
    refine Go.icmp (hb hby D_jdk_52_method_21_code_7) (by decide) (pc' := 44) (by decide) (pc2 := 10) rfl (fun (q7 : ¬ i.toInt32 < (cs.length.toInt32)) => ?_) (fun (q7 : ¬ (¬ i.toInt32 < (cs.length.toInt32))) => ?_)
    · have hi : ¬ i < cs.length := fun z => q7 ((lt32 hi31 hn31).mpr z)
      have hi' : i = cs.length := by omega
      subst hi'
      have AI' : Ar Z hI d kd .byte ((cs.map by8).map Value.int) := by have q := AI; rw [show (cs.map by8).take cs.length ++ List.replicate ((cs.map by8).length - cs.length) 0 = cs.map by8 by simp [List.take_of_length_le]] at q; exact q
      refine Go.iload (hb hby D_jdk_52_method_21_code_44) (pc' := 46) rfl rfl ?_
      refine Go.retI hret (hb hby D_jdk_52_method_21_code_46) (by decide) (by decide) ?_
      intro vmR CR
      exact ⟨(by first | rfl | (simp only [own_nar]; done) | (congr 2; done)), ((Keep.refl h [d]).trans KI (allS (by first | (left; simp; done) | (right; omega)) all0)), AI', (Safe.to CR (by omega) SI)⟩
    · refine Go.aloadN (hb hby D_jdk_52_method_21_code_10) (pc' := 11) rfl rfl rfl ?_
      refine Go.iloadN (hb hby D_jdk_52_method_21_code_11) (pc' := 12) rfl rfl ?_
      have f8 : Ar Z hI b kb .char (cs.map Value.int) := (e0.keep KI (ninS hne nin0))
      have hi : i < cs.length := (lt32 hi31 hn31).mp (Classical.not_not.mp q7)
      obtain ⟨cx, hc⟩ : ∃ cx, cs[i] = cx := ⟨_, rfl⟩
      have hcb := hcs cx (hc ▸ List.getElem_mem hi)
      refine Go.caload f8 (v := (.int cx)) (nneg32 hi31) (by rw [clamp_nat hi31]; simp [hi, hc]) (hb hby D_jdk_52_method_21_code_12) (pc' := 13) rfl ?_
      refine Go.istore (hb hby D_jdk_52_method_21_code_13) (pc' := 15) rfl (L' := #[.val (.ref b), .val (.int i.toInt32), .val (.ref d), .val (.int i.toInt32), .val (.int (cs.length.toInt32)), .val (.int i.toInt32), .val (.int cx)]) rfl ?_
      refine Go.iload (hb hby D_jdk_52_method_21_code_15) (pc' := 17) rfl rfl ?_
      refine Go.sipush (hb hby D_jdk_52_method_21_code_17) (pc' := 20) rfl (z := (255 : Int32)) rfl ?_
      refine Go.icmpY (hb hby D_jdk_52_method_21_code_20) (by decide) (pc' := 26) (by decide) (by show ¬ (255 : Int32) < cx; rw [Int32.lt_iff_toInt_lt]; have : (255 : Int32).toInt = 255 := rfl; omega) ?_
      refine Go.aloadN (hb hby D_jdk_52_method_21_code_26) (pc' := 27) rfl rfl rfl ?_
      refine Go.iloadN (hb hby D_jdk_52_method_21_code_27) (pc' := 28) rfl rfl ?_
      refine Go.iload (hb hby D_jdk_52_method_21_code_28) (pc' := 30) rfl rfl ?_
      refine Go.i2b (hb hby D_jdk_52_method_21_code_30) (pc' := 31) rfl ?_
      refine Go.bastore AI (nneg32 hi31) (by rw [clamp_nat hi31]; simp; omega) SI (by omega) (hb hby D_jdk_52_method_21_code_31) (pc' := 32) rfl ?_
      intro h9 A10 z11 K12 S13 C14
      have A10 : Ar Z h9 d kd .byte ((((cs.map by8).take i ++ List.replicate ((cs.map by8).length - i) 0).map Value.int).set i.toInt32.toNatClampNeg (.int (nar .byte cx.toInt8.toInt32))) := A10
      refine Go.iinc (hb hby D_jdk_52_method_21_code_32) (pc' := 35) rfl rfl (L' := #[.val (.ref b), .val (.int (i.toInt32 + 1)), .val (.ref d), .val (.int i.toInt32), .val (.int (cs.length.toInt32)), .val (.int i.toInt32), .val (.int cx)]) rfl ?_
      refine Go.iinc (hb hby D_jdk_52_method_21_code_35) (pc' := 38) rfl rfl (L' := #[.val (.ref b), .val (.int (i.toInt32 + 1)), .val (.ref d), .val (.int (i.toInt32 + 1)), .val (.int (cs.length.toInt32)), .val (.int i.toInt32), .val (.int cx)]) rfl ?_
      refine Go.iinc (hb hby D_jdk_52_method_21_code_38) (pc' := 41) rfl rfl (L' := #[.val (.ref b), .val (.int (i.toInt32 + 1)), .val (.ref d), .val (.int (i.toInt32 + 1)), .val (.int (cs.length.toInt32)), .val (.int (i.toInt32 + 1)), .val (.int cx)]) rfl ?_
      refine Go.goto (hb hby D_jdk_52_method_21_code_41) (by decide) (pc' := 3) (by decide) ?_
      have hset := fill_set (cs.map by8) 0 i (by simpa using hi)
      rw [succ32 i]
      refine ih (r - 1) _ _ _ _ _ (by omega) ⟨rfl, rfl, rfl, i + 1, _, by omega, Or.inr ⟨_, rfl⟩, rfl, Keep.tr KI K12, ?_, S13⟩
      rw [nar_by8, clamp_nat hi31] at A10
      have e2 : (cs.map by8)[i]'(by simpa using hi) = by8 cx := by simp [hc]
      rw [← hset, e2, List.map_set]; exact A10
set_option maxRecDepth 65536 in
set_option maxHeartbeats 40000000 in
theorem c_compress3 {l : Launch} {Z : State} {a0 : Array Value} {EL : List (String × Nat)} {nw : Prop} {zc : Int32} {un : Addr} {ca : Addr} {kc : ClassId} {vs : List Value} {la : Addr} {kl : ClassId} {ls : List Value} (g : GH Z a0 EL zc un ca kc vs la kl ls) (h : Heap) (b : Addr) (kb : ClassId) (cs : List Int32) (hcs : ∀ c ∈ cs, 0 ≤ c.toInt ∧ c.toInt ≤ 255) (hl : cs.length ≤ 16) (e0 : Ar Z h b kb .char (cs.map Value.int)) (zz : Z.heap.size ≤ h.size) :
    Ct l Z EL nw [] ⟨"java/lang/StringUTF16", "compress", "([CII)[B"⟩ jdk_52_method_16_code 6 (some (.array .byte)) ({ frames := 1, cells := 1, slots := 16, locals := 18 } : Room) #[(.ref b), (.int (0 : Int32)), (.int (cs.length.toInt32))] h [] (fun res vm' h' => ∃ d : Addr, ∃ kd : ClassId, res = some (.ref d) ∧ Keep h h' [] ∧ h.size ≤ d ∧ Ar Z h' d kd .byte ((cs.map by8).map Value.int) ∧ Safe Z EL vm' h' d) := by
  have ye0 := ltN e0.lt
  refine Ct.of_go (a0 := a0) g.2.1 pn_0 (L0 := #[.val (.ref b), .val (.int (0 : Int32)), .val (.int (cs.length.toInt32)), .unset, .unset, .unset]) (fun m => by first | (simp [entryFrame, mkF, argsToLocals, Value.category, own_rep]; done) | rfl) ?_
  intro p e s m below meth c hown hby hml hret hnm hZ hC hO hsf
  refine Go.iloadN (hb hby D_jdk_52_method_16_code_0) (pc' := 1) rfl rfl ?_
  refine Go.newP (ty := .byte) rfl (wd_19 g) (hb hby D_jdk_52_method_16_code_1) (pc' := 3) rfl (nneg32 (by omega)) (cap := 16) (by rw [clamp_nat (by omega)]; exact hl) (by decide) (by decide) (by decide) ?_
  intro h1 a2 k3 g4 l5 E6 A7 S8 C9
  have KE6 := Keep.ofExt E6; have zE6 := E6.1
  have A7 : Ar Z h1 a2 k3 .byte (List.replicate (cs.length.toInt32).toNatClampNeg (.int 0)) := A7
  have A10 : Ar Z h1 a2 k3 .byte ((List.replicate cs.length (0 : Int32)).map Value.int) := by rw [clamp_nat (by omega)] at A7; rw [List.map_replicate]; exact A7
  refine Go.astoreN (hb hby D_jdk_52_method_16_code_3) (pc' := 4) rfl rfl (L' := #[.val (.ref b), .val (.int (0 : Int32)), .val (.int (cs.length.toInt32)), .val (.ref a2), .unset, .unset]) rfl ?_
  refine Go.aloadN (hb hby D_jdk_52_method_16_code_4) (pc' := 5) rfl rfl rfl ?_
  refine Go.iloadN (hb hby D_jdk_52_method_16_code_5) (pc' := 6) rfl rfl ?_
  refine Go.aloadN (hb hby D_jdk_52_method_16_code_6) (pc' := 7) rfl rfl rfl ?_
  refine Go.iconst (hb hby D_jdk_52_method_16_code_7) (pc' := 8) rfl (z := (0 : Int32)) rfl ?_
  refine Go.iloadN (hb hby D_jdk_52_method_16_code_8) (pc' := 9) rfl rfl ?_
  have f11 : Ar Z h1 b kb .char (cs.map Value.int) := (e0.keep KE6 nin0)
  refine Go.callS (c_compress5 (l := l) (nw := nw) g h1 b kb cs a2 k3 hcs (by omega) (neN (by omega)) (by omega) f11 A10 (by omega)) hown (wd_20 g) (wd_21 g) (wd_22 g) (wd_17 g) (by decide) (argsL := [(.ref b), (.int (0 : Int32)), (.ref a2), (.int (0 : Int32)), (.int (cs.length.toInt32))]) (lenOf pd_0 rfl) rfl (by rw [hml]; rfl) (W := 0) rfl (hb hby D_jdk_52_method_16_code_9) (pc' := 12) rfl (by decide) (by decide) (by decide) (by decide) (allS ⟨by omega, S8⟩ all0) ?_
  rintro _ vm12 h12 ⟨rfl, K12, o12_0, o12_1⟩ C12
  have z12 := K12.1
  have yo12_0 := ltN o12_0.lt
  -- pc 12
  refine Go.istore (hb hby D_jdk_52_method_16_code_12) (pc' := 14) rfl (L' := #[.val (.ref b), .val (.int (0 : Int32)), .val (.int (cs.length.toInt32)), .val (.ref a2), .val (.int (cs.length.toInt32)), .unset]) rfl ?_
  refine Go.iload (hb hby D_jdk_52_method_16_code_14) (pc' := 16) rfl rfl ?_
  refine Go.iloadN (hb hby D_jdk_52_method_16_code_16) (pc' := 17) rfl rfl ?_
  refine Go.icmpY (hb hby D_jdk_52_method_16_code_17) (by decide) (pc' := 57) (by decide) rfl ?_
  refine Go.aloadN (hb hby D_jdk_52_method_16_code_57) (pc' := 58) rfl rfl rfl ?_
  refine Go.retA hret rfl rfl (hb hby D_jdk_52_method_16_code_58) (by decide) (by decide) ?_
  intro vmR CR
  exact ⟨a2, k3, (by first | rfl | (simp only [own_nar]; done) | (congr 2; done)), (((Keep.refl h []).trans KE6 all0).trans K12 (allS (by first | (left; simp; done) | (right; omega)) all0)), (by omega), o12_0, (Safe.to CR (by omega) o12_1)⟩
set_option maxRecDepth 65536 in
set_option maxHeartbeats 40000000 in
theorem c_coderOf {l : Launch} {Z : State} {a0 : Array Value} {EL : List (String × Nat)} {nw : Prop} {zc : Int32} {un : Addr} {ca : Addr} {kc : ClassId} {vs : List Value} {la : Addr} {kl : ClassId} {ls : List Value} (g : GH Z a0 EL zc un ca kc vs la kl ls) (h : Heap) (d : Addr) (kd : ClassId) (bs : List Int32) (z : Int32) (hz : bs.length.toInt32 = z) (e0 : Ar Z h d kd .byte (bs.map Value.int)) (zz : Z.heap.size ≤ h.size) :
    Ct l Z EL nw [] ⟨"java/lang/StringUTF16", "coderFromArrayLen", "([BI)B"⟩ jdk_52_method_15_code 2 (some .byte) ({ frames := 0, cells := 0, slots := 0, locals := 0 } : Room) #[(.ref d), (.int z)] h [] (fun res vm' h' => res = some (.int (0 : Int32)) ∧ Keep h h' []) := by
  have ye0 := ltN e0.lt
  refine Ct.of_go (a0 := a0) g.2.1 pn_0 (L0 := #[.val (.ref d), .val (.int z)]) (fun m => by first | (simp [entryFrame, mkF, argsToLocals, Value.category, own_rep]; done) | rfl) ?_
  intro p e s m below meth c hown hby hml hret hnm hZ hC hO hsf
  refine Go.iloadN (hb hby D_jdk_52_method_15_code_0) (pc' := 1) rfl rfl ?_
  refine Go.aloadN (hb hby D_jdk_52_method_15_code_1) (pc' := 2) rfl rfl rfl ?_
  refine Go.alen e0 (z := (bs.length.toInt32)) (by rw [List.length_map]) (hb hby D_jdk_52_method_15_code_2) (pc' := 3) rfl ?_
  refine Go.isub (hb hby D_jdk_52_method_15_code_3) (pc' := 4) rfl ?_
  refine Go.bipush (hb hby D_jdk_52_method_15_code_4) (pc' := 6) rfl (z := (31 : Int32)) rfl ?_
  refine Go.iushr (hb hby D_jdk_52_method_15_code_6) (pc' := 7) rfl ?_
  refine Go.i2b (hb hby D_jdk_52_method_15_code_7) (pc' := 8) rfl ?_
  refine Go.retN (t := .byte) hret (by simp) (hb hby D_jdk_52_method_15_code_8) (by decide) (by decide) ?_
  intro vmR CR
  exact ⟨(by rw [hz, sub0]; rfl), (Keep.refl h [])⟩
set_option maxRecDepth 65536 in
set_option maxHeartbeats 40000000 in
theorem c_strinit4 {l : Launch} {Z : State} {a0 : Array Value} {EL : List (String × Nat)} {nw : Prop} {zc : Int32} {un : Addr} {ca : Addr} {kc : ClassId} {vs : List Value} {la : Addr} {kl : ClassId} {ls : List Value} (g : GH Z a0 EL zc un ca kc vs la kl ls) (h : Heap) (a : Addr) (b : Addr) (kb : ClassId) (cs : List Int32) (hcs : ∀ c ∈ cs, 0 ≤ c.toInt ∧ c.toInt ≤ 255) (h0 : 0 < cs.length) (hl : cs.length ≤ 16) (ga : Z.heap.size ≤ a) (e0 : Exa Z h a "java/lang/String") (e1 : Fld Z h a "java/lang/String" "coder" "B" (.int 0)) (e2 : Fld Z h a "java/lang/String" "value" "[B" .null) (e3 : Ar Z h b kb .char (cs.map Value.int)) (zz : Z.heap.size ≤ h.size) :
    Ct l Z EL nw [] ⟨"java/lang/String", "<init>", "([CIILjava/lang/Void;)V"⟩ jdk_42_method_149_code 6 none ({ frames := 2, cells := 1, slots := 16, locals := 35 } : Room) #[(.ref a), (.ref b), (.int (0 : Int32)), (.int (cs.length.toInt32)), .null] h [a] (fun res vm' h' => ∃ d : Addr, ∃ kd : ClassId, res = none ∧ Keep h h' [a] ∧ h.size ≤ d ∧ St Z h' a d kd (cs.map by8)) := by
  have ye0 := ltN e0.lt
  have ye1 := ltN e1.lt
  have ye2 := ltN e2.lt
  have ye3 := ltN e3.lt
  refine Ct.of_go (a0 := a0) g.2.1 pn_1 (L0 := #[.val (.ref a), .val (.ref b), .val (.int (0 : Int32)), .val (.int (cs.length.toInt32)), .val .null, .unset]) (fun m => by first | (simp [entryFrame, mkF, argsToLocals, Value.category, own_rep]; done) | rfl) ?_
  intro p e s m below meth c hown hby hml hret hnm hZ hC hO hsf
  refine Go.aloadN (hb hby D_jdk_42_method_149_code_0) (pc' := 1) rfl rfl rfl ?_
  refine Go.initO hown (wd_11 g) (wd_12 g) (wd_13 g) (by rw [hml]; rfl) (hb hby D_jdk_42_method_149_code_1) (by decide) (W := 0) rfl (by decide) (pc' := 4) rfl ?_
  refine Go.iloadN (hb hby D_jdk_42_method_149_code_4) (pc' := 5) rfl rfl ?_
  refine Go.ifY (hb hby D_jdk_42_method_149_code_5) (by decide) (pc' := 27) (by decide) (nz32 (by omega) h0) ?_
  refine Go.getS hown (wd_14 g) Via.refl g.2.2.2.2.1 (hb hby D_jdk_42_method_149_code_27) (pc' := 30) rfl ?_
  refine Go.ifN (hb hby D_jdk_42_method_149_code_30) (pc' := 33) rfl g.2.2.2.2.2.1 ?_
  refine Go.aloadN (hb hby D_jdk_42_method_149_code_33) (pc' := 34) rfl rfl rfl ?_
  refine Go.iloadN (hb hby D_jdk_42_method_149_code_34) (pc' := 35) rfl rfl ?_
  refine Go.iloadN (hb hby D_jdk_42_method_149_code_35) (pc' := 36) rfl rfl ?_
  refine Go.callS (c_compress3 (l := l) (nw := nw) g h b kb cs hcs hl e3 (by omega)) hown (wd_15 g) (wd_16 g) (wd_18 g) (wd_17 g) (by decide) (argsL := [(.ref b), (.int (0 : Int32)), (.int (cs.length.toInt32))]) (lenOf pd_1 rfl) rfl (by rw [hml]; rfl) (W := 0) rfl (hb hby D_jdk_42_method_149_code_36) (pc' := 39) rfl (by decide) (by decide) (by decide) (by decide) all0 ?_
  rintro _ vm1 h1 ⟨d_1, kd_1, rfl, K1, p1_0, o1_0, o1_1⟩ C1
  have z1 := K1.1
  have yo1_0 := ltN o1_0.lt
  -- pc 39
  refine Go.astore (hb hby D_jdk_42_method_149_code_39) (pc' := 41) rfl rfl (L' := #[.val (.ref a), .val (.ref b), .val (.int (0 : Int32)), .val (.int (cs.length.toInt32)), .val .null, .val (.ref d_1)]) rfl ?_
  refine Go.aloadN (hb hby D_jdk_42_method_149_code_41) (pc' := 42) rfl rfl rfl ?_
  refine Go.aload (hb hby D_jdk_42_method_149_code_42) (pc' := 44) rfl rfl rfl ?_
  refine Go.iloadN (hb hby D_jdk_42_method_149_code_44) (pc' := 45) rfl rfl ?_
  refine Go.callS (c_coderOf (l := l) (nw := nw) g h1 d_1 kd_1 (cs.map by8) (cs.length.toInt32) (by rw [List.length_map]) o1_0 (by omega)) hown (wd_23 g) (wd_24 g) (wd_25 g) (wd_17 g) (by decide) (argsL := [(.ref d_1), (.int (cs.length.toInt32))]) (lenOf pd_2 rfl) rfl (by rw [hml]; rfl) (W := 1) rfl (hb hby D_jdk_42_method_149_code_45) (pc' := 48) rfl (by decide) (by decide) (by decide) (by decide) all0 ?_
  rintro _ vm2 h2 ⟨rfl, K2⟩ C2
  have z2 := K2.1
  -- pc 48
  have f3 : Fld Z h2 a "java/lang/String" "coder" "B" (.int 0) := ((e1.keep K1 nin0).keep K2 nin0)
  have f4 : Exa Z h2 a "java/lang/String" := ((e0.keep K1).keep K2)
  have f5 : Safe Z EL vm2 h2 a := (Safe.to C2 (by omega) (Safe.to C1 (by omega) (hsf _ (by simp))))
  refine Go.putF hown (wd_26 g) Via.refl f3 f4 (Or.inr ⟨(wd_27 g), rfl, hnm⟩) (wd_2 g) (ty := .byte) (by decide) (v' := (.int (0 : Int32))) rfl (by first | rfl | exact fits_nar_byte _ ) (Or.inr f5) (by omega) (hb hby D_jdk_42_method_149_code_48) (pc' := 51) rfl ?_
  intro h6 W7 z9 K8 C10
  have f11 : Fld Z h2 a "java/lang/String" "value" "[B" .null := ((e2.keep K1 nin0).keep K2 nin0)
  have f12 : Fld Z h6 a "java/lang/String" "coder" "B" (.int (0 : Int32)) := (Fld.same W7 f3)
  have f13 : Fld Z h6 a "java/lang/String" "value" "[B" .null := (Fld.other W7 f11 (Or.inr (slot_ne (Or.inr (wd_29 g)) (Or.inr (wd_27 g)) (by decide) (t := (.array .byte)) (t' := .byte) (by decide) (by decide))))
  refine Go.aloadN (hb hby D_jdk_42_method_149_code_51) (pc' := 52) rfl rfl rfl ?_
  refine Go.aload (hb hby D_jdk_42_method_149_code_52) (pc' := 54) rfl rfl rfl ?_
  have f14 : Exa Z h6 a "java/lang/String" := (f4.keep K8)
  have f15 : Safe Z EL vm2 h6 a := (Safe.to C10 (by omega) f5)
  refine Go.putF hown (wd_28 g) Via.refl f13 f14 (Or.inr ⟨(wd_29 g), rfl, hnm⟩) (wd_2 g) (ty := (.array .byte)) (by decide) rfl rfl (Or.inr f15) (by omega) (hb hby D_jdk_42_method_149_code_54) (pc' := 57) rfl ?_
  intro h16 W17 z19 K18 C20
  have f21 : Fld Z h16 a "java/lang/String" "coder" "B" (.int (0 : Int32)) := (Fld.other W17 f12 (Or.inr (slot_ne (Or.inr (wd_27 g)) (Or.inr (wd_29 g)) (by decide) (t := .byte) (t' := (.array .byte)) (by decide) (by decide))))
  have f22 : Fld Z h16 a "java/lang/String" "value" "[B" (.ref d_1) := (Fld.same W17 f13)
  have f24 : Exa Z h16 a "java/lang/String" := (f14.keep K18)
  have f25 : Ar Z h16 d_1 kd_1 .byte ((cs.map by8).map Value.int) := (((o1_0.keep K2 nin0).keep K8 (ninS (Ne.symm (Ar.ne_exa (o1_0.keep K2 nin0) ((e0.keep K1).keep K2) (wd_2 g))) nin0)).keep K18 (ninS (Ne.symm (Ar.ne_exa ((o1_0.keep K2 nin0).keep K8 (ninS (Ne.symm (Ar.ne_exa (o1_0.keep K2 nin0) ((e0.keep K1).keep K2) (wd_2 g))) nin0)) (((e0.keep K1).keep K2).keep K8) (wd_2 g))) nin0))
  have f23 : St Z h16 a d_1 kd_1 (cs.map by8) := ⟨f24, f21, f22, f25, by rw [List.length_map]; omega⟩
  refine Go.ret hret (hb hby D_jdk_42_method_149_code_57) (by decide) (by decide) ?_
  intro vmR CR
  exact ⟨d_1, kd_1, rfl, (((((Keep.refl h [a]).trans K1 all0).trans K2 all0).trans K8 (allS (by first | (left; simp; done) | (right; omega)) all0)).trans K18 (allS (by first | (left; simp; done) | (right; omega)) all0)), (by omega), f23⟩
set_option maxRecDepth 65536 in
set_option maxHeartbeats 40000000 in
theorem c_strinit {l : Launch} {Z : State} {a0 : Array Value} {EL : List (String × Nat)} {nw : Prop} {zc : Int32} {un : Addr} {ca : Addr} {kc : ClassId} {vs : List Value} {la : Addr} {kl : ClassId} {ls : List Value} (g : GH Z a0 EL zc un ca kc vs la kl ls) (h : Heap) (a : Addr) (b : Addr) (kb : ClassId) (cs : List Int32) (hcs : ∀ c ∈ cs, 0 ≤ c.toInt ∧ c.toInt ≤ 255) (h0 : 0 < cs.length) (hl : cs.length ≤ 16) (ga : Z.heap.size ≤ a) (e0 : Exa Z h a "java/lang/String") (e1 : Fld Z h a "java/lang/String" "coder" "B" (.int 0)) (e2 : Fld Z h a "java/lang/String" "value" "[B" .null) (e3 : Ar Z h b kb .char (cs.map Value.int)) (zz : Z.heap.size ≤ h.size) :
    Ct l Z EL nw [] ⟨"java/lang/String", "<init>", "([C)V"⟩ jdk_42_method_3_code 2 none ({ frames := 3, cells := 1, slots := 16, locals := 52 } : Room) #[(.ref a), (.ref b)] h [a] (fun res vm' h' => ∃ d : Addr, ∃ kd : ClassId, res = none ∧ Keep h h' [a] ∧ h.size ≤ d ∧ St Z h' a d kd (cs.map by8)) := by
  have ye0 := ltN e0.lt
  have ye1 := ltN e1.lt
  have ye2 := ltN e2.lt
  have ye3 := ltN e3.lt
  refine Ct.of_go (a0 := a0) g.2.1 pn_1 (L0 := #[.val (.ref a), .val (.ref b)]) (fun m => by first | (simp [entryFrame, mkF, argsToLocals, Value.category, own_rep]; done) | rfl) ?_
  intro p e s m below meth c hown hby hml hret hnm hZ hC hO hsf
  refine Go.aloadN (hb hby D_jdk_42_method_3_code_0) (pc' := 1) rfl rfl rfl ?_
  refine Go.aloadN (hb hby D_jdk_42_method_3_code_1) (pc' := 2) rfl rfl rfl ?_
  refine Go.iconst (hb hby D_jdk_42_method_3_code_2) (pc' := 3) rfl (z := (0 : Int32)) rfl ?_
  refine Go.aloadN (hb hby D_jdk_42_method_3_code_3) (pc' := 4) rfl rfl rfl ?_
  refine Go.alen e3 (z := (cs.length.toInt32)) (by rw [List.length_map]) (hb hby D_jdk_42_method_3_code_4) (pc' := 5) rfl ?_
  refine Go.aconstNull (hb hby D_jdk_42_method_3_code_5) (pc' := 6) rfl ?_
  refine Go.callC (c_strinit4 (l := l) (nw := nw) g h a b kb cs hcs h0 hl ga e0 e1 e2 e3 (by omega)) hown rfl rfl (wd_7 g) (wd_8 g) (wd_10 g) (wd_3 g) (by decide) (argsL := [(.ref b), (.int (0 : Int32)), (.int (cs.length.toInt32)), .null]) (lenOf pd_3 rfl) rfl (by rw [hml]; rfl) (W := 0) rfl (hb hby D_jdk_42_method_3_code_6) (pc' := 9) rfl (by decide) (by decide) (by decide) (by decide) (allS ⟨by omega, (hsf _ (by simp))⟩ all0) ?_
  rintro _ vm1 h1 ⟨d_1, kd_1, rfl, K1, p1_0, o1_0⟩ C1
  have z1 := K1.1
  have yo1_0 := ltN o1_0.lt; have yo1_0' := ltN o1_0.ltb
  -- pc 9
  refine Go.ret hret (hb hby D_jdk_42_method_3_code_9) (by decide) (by decide) ?_
  intro vmR CR
  exact ⟨d_1, kd_1, rfl, ((Keep.refl h [a]).trans K1 (allS (by first | (left; simp; done) | (right; omega)) all0)), (by omega), o1_0⟩
set_option maxRecDepth 65536 in
set_option maxHeartbeats 40000000 in
theorem c_number {l : Launch} {Z : State} {a0 : Array Value} {EL : List (String × Nat)} {nw : Prop} {zc : Int32} {un : Addr} {ca : Addr} {kc : ClassId} {vs : List Value} {la : Addr} {kl : ClassId} {ls : List Value} (g : GH Z a0 EL zc un ca kc vs la kl ls) (h : Heap) (a : Addr) (zz : Z.heap.size ≤ h.size) :
    Ct l Z EL nw [] ⟨"java/lang/Number", "<init>", "()V"⟩ jdk_18_method_1_code 1 none ({ frames := 1, cells := 0, slots := 0, locals := 12 } : Room) #[(.ref a)] h [] (fun res vm' h' => res = none ∧ Keep h h' []) := by
  refine Ct.of_go (a0 := a0) g.2.1 pn_2 (L0 := #[.val (.ref a)]) (fun m => by first | (simp [entryFrame, mkF, argsToLocals, Value.category, own_rep]; done) | rfl) ?_
  intro p e s m below meth c hown hby hml hret hnm hZ hC hO hsf
  refine Go.aloadN (hb hby D_jdk_18_method_1_code_0) (pc' := 1) rfl rfl rfl ?_
  refine Go.initO hown (wd_117 g) (wd_12 g) (wd_13 g) (by rw [hml]; rfl) (hb hby D_jdk_18_method_1_code_1) (by decide) (W := 0) rfl (by decide) (pc' := 4) rfl ?_
  refine Go.ret hret (hb hby D_jdk_18_method_1_code_4) (by decide) (by decide) ?_
  intro vmR CR
  exact ⟨rfl, (Keep.refl h [])⟩
set_option maxRecDepth 65536 in
set_option maxHeartbeats 40000000 in
theorem c_intinit {l : Launch} {Z : State} {a0 : Array Value} {EL : List (String × Nat)} {nw : Prop} {zc : Int32} {un : Addr} {ca : Addr} {kc : ClassId} {vs : List Value} {la : Addr} {kl : ClassId} {ls : List Value} (g : GH Z a0 EL zc un ca kc vs la kl ls) (h : Heap) (a : Addr) (z : Int32) (ga : Z.heap.size ≤ a) (e0 : Exa Z h a "java/lang/Integer") (e1 : Fld Z h a "java/lang/Integer" "value" "I" (.int 0)) (zz : Z.heap.size ≤ h.size) :
    Ct l Z EL nw [] ⟨"java/lang/Integer", "<init>", "(I)V"⟩ jdk_33_method_23_code 2 none ({ frames := 2, cells := 0, slots := 0, locals := 24 } : Room) #[(.ref a), (.int z)] h [] (fun res vm' h' => res = none ∧ Keep h h' [a] ∧ Fld Z h' a "java/lang/Integer" "value" "I" (.int z)) := by
  have ye0 := ltN e0.lt
  have ye1 := ltN e1.lt
  refine Ct.of_go (a0 := a0) g.2.1 pn_3 (L0 := #[.val (.ref a), .val (.int z)]) (fun m => by first | (simp [entryFrame, mkF, argsToLocals, Value.category, own_rep]; done) | rfl) ?_
  intro p e s m below meth c hown hby hml hret hnm hZ hC hO hsf
  refine Go.aloadN (hb hby D_jdk_33_method_23_code_0) (pc' := 1) rfl rfl rfl ?_
  refine Go.callC (c_number (l := l) (nw := nw) g h a (by omega)) hown rfl rfl (wd_126 g) (wd_112 g) (wd_116 g) (wd_115 g) (by decide) (argsL := []) (lenOf pd_4 rfl) rfl (by rw [hml]; rfl) (W := 0) rfl (hb hby D_jdk_33_method_23_code_1) (pc' := 4) rfl (by decide) (by decide) (by decide) (by decide) all0 ?_
  rintro _ vm1 h1 ⟨rfl, K1⟩ C1
  have z1 := K1.1
  -- pc 4
  refine Go.aloadN (hb hby D_jdk_33_method_23_code_4) (pc' := 5) rfl rfl rfl ?_
  refine Go.iloadN (hb hby D_jdk_33_method_23_code_5) (pc' := 6) rfl rfl ?_
  have f2 : Fld Z h1 a "java/lang/Integer" "value" "I" (.int 0) := (e1.keep K1 nin0)
  have f3 : Exa Z h1 a "java/lang/Integer" := (e0.keep K1)
  refine Go.putF hown (wd_128 g) Via.refl f2 f3 (Or.inr ⟨(wd_129 g), rfl, hnm⟩) (wd_121 g) (ty := .int) (by decide) rfl rfl (Or.inl ⟨by decide, by decide⟩) (by omega) (hb hby D_jdk_33_method_23_code_6) (pc' := 9) rfl ?_
  intro h4 W5 z7 K6 C8
  have f9 : Fld Z h4 a "java/lang/Integer" "value" "I" (.int z) := (Fld.same W5 f2)
  refine Go.ret hret (hb hby D_jdk_33_method_23_code_9) (by decide) (by decide) ?_
  intro vmR CR
  exact ⟨rfl, (((Keep.refl h [a]).trans K1 all0).trans K6 (allS (by first | (left; simp; done) | (right; omega)) all0)), f9⟩
set_option maxRecDepth 65536 in
set_option maxHeartbeats 40000000 in
theorem c_intof {l : Launch} {Z : State} {a0 : Array Value} {EL : List (String × Nat)} {nw : Prop} {zc : Int32} {un : Addr} {ca : Addr} {kc : ClassId} {vs : List Value} {la : Addr} {kl : ClassId} {ls : List Value} (g : GH Z a0 EL zc un ca kc vs la kl ls) (h : Heap) (z : Int32) (zz : Z.heap.size ≤ h.size) :
    Ct l Z EL nw [] ⟨"java/lang/Integer", "valueOf", "(I)Ljava/lang/Integer;"⟩ jdk_33_method_22_code 1 (some (.object "java/lang/Integer")) ({ frames := 3, cells := 1, slots := 1, locals := 38 } : Room) #[(.int z)] h [] (fun res vm' h' => ∃ r : Addr, res = some (.ref r) ∧ Keep h h' [] ∧ Exa Z h' r "java/lang/Integer") := by
  refine Ct.of_go (a0 := a0) g.2.1 pn_3 (L0 := #[.val (.int z)]) (fun m => by first | (simp [entryFrame, mkF, argsToLocals, Value.category, own_rep]; done) | rfl) ?_
  intro p e s m below meth c hown hby hml hret hnm hZ hC hO hsf
  refine Go.iloadN (hb hby D_jdk_33_method_22_code_0) (pc' := 1) rfl rfl ?_
  refine Go.bipush (hb hby D_jdk_33_method_22_code_1) (pc' := 3) rfl (z := (-128 : Int32)) rfl ?_
  refine Go.icmp (hb hby D_jdk_33_method_22_code_3) (by decide) (pc' := 23) (by decide) (pc2 := 6) rfl (fun (q3 : z < (-128 : Int32)) => ?_) (fun (q3 : ¬ (z < (-128 : Int32))) => ?_)
  · refine Go.newO hown (wd_120 g) (wd_121 g) (wd_63 g) (hb hby D_jdk_33_method_22_code_23) (pc' := 26) rfl (by decide) (by decide) ?_
    intro h1 a2 g3 l4 E5 X6 D7 S8 C9
    have KE5 := Keep.ofExt E5; have zE5 := E5.1
    have f10 : Fld Z h1 a2 "java/lang/Integer" "value" "I" (.int 0) := D7 (Or.inr (wd_129 g)) (ty := .int) (by decide)
    refine Go.dup (hb hby D_jdk_33_method_22_code_26) (pc' := 27) rfl rfl ?_
    refine Go.iloadN (hb hby D_jdk_33_method_22_code_27) (pc' := 28) rfl rfl ?_
    refine Go.callC (c_intinit (l := l) (nw := nw) g h1 a2 z (by first | omega | assumption | decide) X6 f10 (by omega)) hown rfl rfl (wd_122 g) (wd_123 g) (wd_125 g) (wd_63 g) (by decide) (argsL := [(.int z)]) (lenOf pd_5 rfl) rfl (by rw [hml]; rfl) (W := 1) rfl (hb hby D_jdk_33_method_22_code_28) (pc' := 31) rfl (by decide) (by decide) (by decide) (by decide) all0 ?_
    rintro _ vm11 h11 ⟨rfl, K11, o11_0⟩ C11
    have z11 := K11.1
    -- pc 31
    have f12 : Exa Z h11 a2 "java/lang/Integer" := (X6.keep K11)
    refine Go.retA hret rfl rfl (hb hby D_jdk_33_method_22_code_31) (by decide) (by decide) ?_
    intro vmR CR
    exact ⟨a2, (by first | rfl | (simp only [own_nar]; done) | (congr 2; done)), (((Keep.refl h []).trans KE5 all0).trans K11 (allS (by first | (left; simp; done) | (right; omega)) all0)), f12⟩
  · refine Go.iloadN (hb hby D_jdk_33_method_22_code_6) (pc' := 7) rfl rfl ?_
    refine Go.getS hown (wd_65 g) Via.refl g.2.2.2.2.2.2.2.2.1 (hb hby D_jdk_33_method_22_code_7) (pc' := 10) rfl ?_
    refine Go.icmp (hb hby D_jdk_33_method_22_code_10) (by decide) (pc' := 23) (by decide) (pc2 := 13) rfl (fun (q10 : (127 : Int32) < z) => ?_) (fun (q10 : ¬ ((127 : Int32) < z)) => ?_)
    · refine Go.newO hown (wd_120 g) (wd_121 g) (wd_63 g) (hb hby D_jdk_33_method_22_code_23) (pc' := 26) rfl (by decide) (by decide) ?_
      intro h13 a14 g15 l16 E17 X18 D19 S20 C21
      have KE17 := Keep.ofExt E17; have zE17 := E17.1
      have f22 : Fld Z h13 a14 "java/lang/Integer" "value" "I" (.int 0) := D19 (Or.inr (wd_129 g)) (ty := .int) (by decide)
      refine Go.dup (hb hby D_jdk_33_method_22_code_26) (pc' := 27) rfl rfl ?_
      refine Go.iloadN (hb hby D_jdk_33_method_22_code_27) (pc' := 28) rfl rfl ?_
      refine Go.callC (c_intinit (l := l) (nw := nw) g h13 a14 z (by first | omega | assumption | decide) X18 f22 (by omega)) hown rfl rfl (wd_122 g) (wd_123 g) (wd_125 g) (wd_63 g) (by decide) (argsL := [(.int z)]) (lenOf pd_5 rfl) rfl (by rw [hml]; rfl) (W := 1) rfl (hb hby D_jdk_33_method_22_code_28) (pc' := 31) rfl (by decide) (by decide) (by decide) (by decide) all0 ?_
      rintro _ vm23 h23 ⟨rfl, K23, o23_0⟩ C23
      have z23 := K23.1
      -- pc 31
      have f24 : Exa Z h23 a14 "java/lang/Integer" := (X18.keep K23)
      refine Go.retA hret rfl rfl (hb hby D_jdk_33_method_22_code_31) (by decide) (by decide) ?_
      intro vmR CR
      exact ⟨a14, (by first | rfl | (simp only [own_nar]; done) | (congr 2; done)), (((Keep.refl h []).trans KE17 all0).trans K23 (allS (by first | (left; simp; done) | (right; omega)) all0)), f24⟩
    · refine Go.getS hown (wd_67 g) Via.refl g.2.2.2.2.2.2.2.2.2.1 (hb hby D_jdk_33_method_22_code_13) (pc' := 16) rfl ?_
      refine Go.iloadN (hb hby D_jdk_33_method_22_code_16) (pc' := 17) rfl rfl ?_
      refine Go.sipush (hb hby D_jdk_33_method_22_code_17) (pc' := 20) rfl (z := (128 : Int32)) rfl ?_
      refine Go.iadd (hb hby D_jdk_33_method_22_code_20) (pc' := 21) rfl ?_
      obtain ⟨hj1, hj2⟩ := cache_ix q3 q10
      obtain ⟨xr, hx1, hx2⟩ := g.2.2.2.2.2.2.2.2.2.2.2.1 _ hj2
      refine Go.aaload (g.2.2.2.2.2.2.2.2.2.2.1.ext hO) rfl (v := (.ref xr)) hj1 hx1 (hb hby D_jdk_33_method_22_code_21) (pc' := 22) rfl ?_
      refine Go.retA hret rfl rfl (hb hby D_jdk_33_method_22_code_22) (by decide) (by decide) ?_
      intro vmR CR
      exact ⟨xr, (by first | rfl | (simp only [own_nar]; done) | (congr 2; done)), (Keep.refl h []), (hx2.ext hO)⟩
set_option maxRecDepth 65536 in
set_option maxHeartbeats 40000000 in
theorem c_named {l : Launch} {Z : State} {a0 : Array Value} {EL : List (String × Nat)} {nw : Prop} {zc : Int32} {un : Addr} {ca : Addr} {kc : ClassId} {vs : List Value} {la : Addr} {kl : ClassId} {ls : List Value} (g : GH Z a0 EL zc un ca kc vs la kl ls) (h : Heap) (a : Addr) (v : Value) (z : Int32) (hv : v.isRef = true) (ga : Z.heap.size ≤ a) (e0 : Exa Z h a "com/example/bindery/bindery/Expr$Variable") (e1 : Fld Z h a "com/example/bindery/bindery/Named" "lexeme" "Ljava/lang/String;" .null) (e2 : Fld Z h a "com/example/bindery/bindery/Named" "line" "I" (.int 0)) (zz : Z.heap.size ≤ h.size) :
    Ct l Z EL nw [] ⟨"com/example/bindery/bindery/Named", "<init>", "(Ljava/lang/String;I)V"⟩ prog_25_method_1_code 3 none ({ frames := 1, cells := 0, slots := 0, locals := 12 } : Room) #[(.ref a), v, (.int z)] h [] (fun res vm' h' => res = none ∧ Keep h h' [a] ∧ Fld Z h' a "com/example/bindery/bindery/Named" "lexeme" "Ljava/lang/String;" v ∧ Fld Z h' a "com/example/bindery/bindery/Named" "line" "I" (.int z)) := by
  have ye0 := ltN e0.lt
  have ye1 := ltN e1.lt
  have ye2 := ltN e2.lt
  refine Ct.of_go (a0 := a0) g.2.1 pn_4 (L0 := #[.val (.ref a), .val v, .val (.int z)]) (fun m => by rcases ref_cases hv with rfl | ⟨_, rfl⟩ <;> first | (simp [entryFrame, mkF, argsToLocals, Value.category, own_rep]; done) | rfl) ?_
  intro p e s m below meth c hown hby hml hret hnm hZ hC hO hsf
  refine Go.aloadN (hb hby D_prog_25_method_1_code_0) (pc' := 1) rfl rfl rfl ?_
  refine Go.initO hown (wd_52 g) (wd_12 g) (wd_13 g) (by rw [hml]; rfl) (hb hby D_prog_25_method_1_code_1) (by decide) (W := 0) rfl (by decide) (pc' := 4) rfl ?_
  refine Go.aloadN (hb hby D_prog_25_method_1_code_4) (pc' := 5) rfl rfl rfl ?_
  refine Go.aloadN (hb hby D_prog_25_method_1_code_5) (pc' := 6) rfl rfl hv ?_
  refine Go.putF hown (wd_53 g) Via.refl e1 e0 (Or.inr ⟨(wd_54 g), rfl, hnm⟩) (wd_42 g) (ty := (.object "java/lang/String")) (by decide) (narU hv) (fitsU rfl hv) (Or.inl ⟨by decide, by decide⟩) (by omega) (hb hby D_prog_25_method_1_code_6) (pc' := 9) rfl ?_
  intro h1 W2 z4 K3 C5
  have f6 : Fld Z h1 a "com/example/bindery/bindery/Named" "lexeme" "Ljava/lang/String;" v := (Fld.same W2 e1)
  have f7 : Fld Z h1 a "com/example/bindery/bindery/Named" "line" "I" (.int 0) := (Fld.other W2 e2 (Or.inr (slot_ne (Or.inr (wd_56 g)) (Or.inr (wd_54 g)) (by decide) (t := .int) (t' := (.object "java/lang/String")) (by decide) (by decide))))
  refine Go.aloadN (hb hby D_prog_25_method_1_code_9) (pc' := 10) rfl rfl rfl ?_
  refine Go.iloadN (hb hby D_prog_25_method_1_code_10) (pc' := 11) rfl rfl ?_
  have f8 : Exa Z h1 a "com/example/bindery/bindery/Expr$Variable" := (e0.keep K3)
  refine Go.putF hown (wd_55 g) Via.refl f7 f8 (Or.inr ⟨(wd_56 g), rfl, hnm⟩) (wd_42 g) (ty := .int) (by decide) rfl rfl (Or.inl ⟨by decide, by decide⟩) (by omega) (hb hby D_prog_25_method_1_code_11) (pc' := 14) rfl ?_
  intro h9 W10 z12 K11 C13
  have f14 : Fld Z h9 a "com/example/bindery/bindery/Named" "lexeme" "Ljava/lang/String;" v := (Fld.other W10 f6 (Or.inr (slot_ne (Or.inr (wd_54 g)) (Or.inr (wd_56 g)) (by decide) (t := (.object "java/lang/String")) (t' := .int) (by decide) (by decide))))
  have f15 : Fld Z h9 a "com/example/bindery/bindery/Named" "line" "I" (.int z) := (Fld.same W10 f7)
  refine Go.ret hret (hb hby D_prog_25_method_1_code_14) (by decide) (by decide) ?_
  intro vmR CR
  exact ⟨rfl, (((Keep.refl h [a]).trans K3 (allS (by first | (left; simp; done) | (right; omega)) all0)).trans K11 (allS (by first | (left; simp; done) | (right; omega)) all0)), f14, f15⟩
set_option maxRecDepth 65536 in
set_option maxHeartbeats 40000000 in
theorem c_exprvar {l : Launch} {Z : State} {a0 : Array Value} {EL : List (String × Nat)} {nw : Prop} {zc : Int32} {un : Addr} {ca : Addr} {kc : ClassId} {vs : List Value} {la : Addr} {kl : ClassId} {ls : List Value} (g : GH Z a0 EL zc un ca kc vs la kl ls) (h : Heap) (a : Addr) (v : Value) (z : Int32) (hv : v.isRef = true) (ga : Z.heap.size ≤ a) (e0 : Exa Z h a "com/example/bindery/bindery/Expr$Variable") (e1 : Fld Z h a "com/example/bindery/bindery/Named" "lexeme" "Ljava/lang/String;" .null) (e2 : Fld Z h a "com/example/bindery/bindery/Named" "line" "I" (.int 0)) (zz : Z.heap.size ≤ h.size) :
    Ct l Z EL nw [] ⟨"com/example/bindery/bindery/Expr$Variable", "<init>", "(Ljava/lang/String;I)V"⟩ prog_14_method_1_code 3 none ({ frames := 2, cells := 0, slots := 0, locals := 26 } : Room) #[(.ref a), v, (.int z)] h [] (fun res vm' h' => res = none ∧ Keep h h' [a] ∧ Fld Z h' a "com/example/bindery/bindery/Named" "lexeme" "Ljava/lang/String;" v ∧ Fld Z h' a "com/example/bindery/bindery/Named" "line" "I" (.int z)) := by
  have ye0 := ltN e0.lt
  have ye1 := ltN e1.lt
  have ye2 := ltN e2.lt
  refine Ct.of_go (a0 := a0) g.2.1 pn_5 (L0 := #[.val (.ref a), .val v, .val (.int z)]) (fun m => by rcases ref_cases hv with rfl | ⟨_, rfl⟩ <;> first | (simp [entryFrame, mkF, argsToLocals, Value.category, own_rep]; done) | rfl) ?_
  intro p e s m below meth c hown hby hml hret hnm hZ hC hO hsf
  refine Go.aloadN (hb hby D_prog_14_method_1_code_0) (pc' := 1) rfl rfl rfl ?_
  refine Go.aloadN (hb hby D_prog_14_method_1_code_1) (pc' := 2) rfl rfl hv ?_
  refine Go.iloadN (hb hby D_prog_14_method_1_code_2) (pc' := 3) rfl rfl ?_
  refine Go.callC (c_named (l := l) (nw := nw) g h a v z hv (by first | omega | assumption | decide) e0 e1 e2 (by omega)) hown rfl rfl (wd_47 g) (wd_48 g) (wd_51 g) (wd_50 g) (by decide) (argsL := [v, (.int z)]) (lenOf pd_6 rfl) rfl (by rw [hml]; rfl) (W := 0) rfl (hb hby D_prog_14_method_1_code_3) (pc' := 6) rfl (by decide) (by decide) (by decide) (by decide) all0 ?_
  rintro _ vm1 h1 ⟨rfl, K1, o1_0, o1_1⟩ C1
  have z1 := K1.1
  -- pc 6
  refine Go.ret hret (hb hby D_prog_14_method_1_code_6) (by decide) (by decide) ?_
  intro vmR CR
  exact ⟨rfl, ((Keep.refl h [a]).trans K1 (allS (by first | (left; simp; done) | (right; omega)) all0)), o1_0, o1_1⟩
set_option maxRecDepth 65536 in
set_option maxHeartbeats 40000000 in
theorem c_gvar {l : Launch} {Z : State} {a0 : Array Value} {EL : List (String × Nat)} {nw : Prop} {zc : Int32} {un : Addr} {ca : Addr} {kc : ClassId} {vs : List Value} {la : Addr} {kl : ClassId} {ls : List Value} (g : GH Z a0 EL zc un ca kc vs la kl ls) (h : Heap) (a : Addr) (ga : Z.heap.size ≤ a) (e0 : Exa Z h a "com/example/bindery/bindery/Globals$Variable") (e1 : Fld Z h a "com/example/bindery/bindery/Globals$Variable" "value" "Ljava/lang/Object;" .null) (zz : Z.heap.size ≤ h.size) :
    Ct l Z EL nw [] ⟨"com/example/bindery/bindery/Globals$Variable", "<init>", "()V"⟩ prog_17_method_1_code 1 none ({ frames := 1, cells := 0, slots := 0, locals := 12 } : Room) #[(.ref a)] h [] (fun res vm' h' => res = none ∧ Keep h h' [a] ∧ Fld Z h' a "com/example/bindery/bindery/Globals$Variable" "value" "Ljava/lang/Object;" (.ref un)) := by
  have ye0 := ltN e0.lt
  have ye1 := ltN e1.lt
  refine Ct.of_go (a0 := a0) g.2.1 pn_6 (L0 := #[.val (.ref a)]) (fun m => by first | (simp [entryFrame, mkF, argsToLocals, Value.category, own_rep]; done) | rfl) ?_
  intro p e s m below meth c hown hby hml hret hnm hZ hC hO hsf
  refine Go.aloadN (hb hby D_prog_17_method_1_code_0) (pc' := 1) rfl rfl rfl ?_
  refine Go.initO hown (wd_36 g) (wd_12 g) (wd_13 g) (by rw [hml]; rfl) (hb hby D_prog_17_method_1_code_1) (by decide) (W := 0) rfl (by decide) (pc' := 4) rfl ?_
  refine Go.aloadN (hb hby D_prog_17_method_1_code_4) (pc' := 5) rfl rfl rfl ?_
  refine Go.getS hown (wd_37 g) Via.refl g.2.2.2.2.2.2.1 (hb hby D_prog_17_method_1_code_5) (pc' := 8) rfl ?_
  refine Go.putF hown (wd_39 g) Via.refl e1 e0 (Or.inl (wd_40 g)) (wd_31 g) (ty := (.object "java/lang/Object")) (by decide) rfl rfl (Or.inl ⟨by decide, by decide⟩) (by omega) (hb hby D_prog_17_method_1_code_8) (pc' := 11) rfl ?_
  intro h1 W2 z4 K3 C5
  have f6 : Fld Z h1 a "com/example/bindery/bindery/Globals$Variable" "value" "Ljava/lang/Object;" (.ref un) := (Fld.same W2 e1)
  refine Go.ret hret (hb hby D_prog_17_method_1_code_11) (by decide) (by decide) ?_
  intro vmR CR
  exact ⟨rfl, ((Keep.refl h [a]).trans K3 (allS (by first | (left; simp; done) | (right; omega)) all0)), f6⟩
set_option maxRecDepth 65536 in
set_option maxHeartbeats 40000000 in
theorem c_define {l : Launch} {Z : State} {a0 : Array Value} {EL : List (String × Nat)} {nw : Prop} {zc : Int32} {un : Addr} {ca : Addr} {kc : ClassId} {vs : List Value} {la : Addr} {kl : ClassId} {ls : List Value} (g : GH Z a0 EL zc un ca kc vs la kl ls) (h : Heap) (a : Addr) (v : Value) (o : Value) (hv : v.isRef = true) (ga : Z.heap.size ≤ a) (e0 : Exa Z h a "com/example/bindery/bindery/Globals$Variable") (e1 : Fld Z h a "com/example/bindery/bindery/Globals$Variable" "value" "Ljava/lang/Object;" o) (zz : Z.heap.size ≤ h.size) :
    Ct l Z EL nw [] ⟨"com/example/bindery/bindery/Globals$Variable", "define", "(Ljava/lang/Object;)V"⟩ prog_17_method_4_code 2 none ({ frames := 0, cells := 0, slots := 0, locals := 0 } : Room) #[(.ref a), v] h [] (fun res vm' h' => res = none ∧ Keep h h' [a] ∧ Fld Z h' a "com/example/bindery/bindery/Globals$Variable" "value" "Ljava/lang/Object;" v) := by
  have ye0 := ltN e0.lt
  have ye1 := ltN e1.lt
  refine Ct.of_go (a0 := a0) g.2.1 pn_6 (L0 := #[.val (.ref a), .val v]) (fun m => by rcases ref_cases hv with rfl | ⟨_, rfl⟩ <;> first | (simp [entryFrame, mkF, argsToLocals, Value.category, own_rep]; done) | rfl) ?_
  intro p e s m below meth c hown hby hml hret hnm hZ hC hO hsf
  refine Go.aloadN (hb hby D_prog_17_method_4_code_0) (pc' := 1) rfl rfl rfl ?_
  refine Go.aloadN (hb hby D_prog_17_method_4_code_1) (pc' := 2) rfl rfl hv ?_
  refine Go.putF hown (wd_39 g) Via.refl e1 e0 (Or.inl (wd_40 g)) (wd_31 g) (ty := (.object "java/lang/Object")) (by decide) (narU hv) (fitsU rfl hv) (Or.inl ⟨by decide, by decide⟩) (by omega) (hb hby D_prog_17_method_4_code_2) (pc' := 5) rfl ?_
  intro h1 W2 z4 K3 C5
  have f6 : Fld Z h1 a "com/example/bindery/bindery/Globals$Variable" "value" "Ljava/lang/Object;" v := (Fld.same W2 e1)
  refine Go.ret hret (hb hby D_prog_17_method_4_code_5) (by decide) (by decide) ?_
  intro vmR CR
  exact ⟨rfl, ((Keep.refl h [a]).trans K3 (allS (by first | (left; simp; done) | (right; omega)) all0)), f6⟩
set_option maxRecDepth 65536 in
set_option maxHeartbeats 40000000 in
theorem c_assign {l : Launch} {Z : State} {a0 : Array Value} {EL : List (String × Nat)} {nw : Prop} {zc : Int32} {un : Addr} {ca : Addr} {kc : ClassId} {vs : List Value} {la : Addr} {kl : ClassId} {ls : List Value} (g : GH Z a0 EL zc un ca kc vs la kl ls) (h : Heap) (a : Addr) (w : Value) (v : Value) (o : Value) (hw : w.isRef = true) (hv : v.isRef = true) (ga : Z.heap.size ≤ a) (ho : o.isRef = true) (hn : ¬ o = .ref un) (e0 : Exa Z h a "com/example/bindery/bindery/Globals$Variable") (e1 : Fld Z h a "com/example/bindery/bindery/Globals$Variable" "value" "Ljava/lang/Object;" o) (zz : Z.heap.size ≤ h.size) :
    Ct l Z EL nw [] ⟨"com/example/bindery/bindery/Globals$Variable", "assign", "(Lcom/example/bindery/bindery/Named;Ljava/lang/Object;)V"⟩ prog_17_method_3_code 3 none ({ frames := 0, cells := 0, slots := 0, locals := 0 } : Room) #[(.ref a), w, v] h [] (fun res vm' h' => res = none ∧ Keep h h' [a] ∧ Fld Z h' a "com/example/bindery/bindery/Globals$Variable" "value" "Ljava/lang/Object;" v) := by
  have ye0 := ltN e0.lt
  have ye1 := ltN e1.lt
  refine Ct.of_go (a0 := a0) g.2.1 pn_6 (L0 := #[.val (.ref a), .val w, .val v]) (fun m => by rcases ref_cases hw with rfl | ⟨_, rfl⟩ <;> rcases ref_cases hv with rfl | ⟨_, rfl⟩ <;> first | (simp [entryFrame, mkF, argsToLocals, Value.category, own_rep]; done) | rfl) ?_
  intro p e s m below meth c hown hby hml hret hnm hZ hC hO hsf
  refine Go.aloadN (hb hby D_prog_17_method_3_code_0) (pc' := 1) rfl rfl rfl ?_
  refine Go.getF hown (wd_39 g) Via.refl e1 (hb hby D_prog_17_method_3_code_1) (pc' := 4) rfl ?_
  refine Go.getS hown (wd_37 g) Via.refl g.2.2.2.2.2.2.1 (hb hby D_prog_17_method_3_code_4) (pc' := 7) rfl ?_
  refine Go.acmpY (hb hby D_prog_17_method_3_code_7) (by decide) (pc' := 15) (by decide) (by assumption) rfl (by simp [XT.acmp, hn]) ?_
  refine Go.aloadN (hb hby D_prog_17_method_3_code_15) (pc' := 16) rfl rfl rfl ?_
  refine Go.aloadN (hb hby D_prog_17_method_3_code_16) (pc' := 17) rfl rfl hv ?_
  refine Go.putF hown (wd_39 g) Via.refl e1 e0 (Or.inl (wd_40 g)) (wd_31 g) (ty := (.object "java/lang/Object")) (by decide) (narU hv) (fitsU rfl hv) (Or.inl ⟨by decide, by decide⟩) (by omega) (hb hby D_prog_17_method_3_code_17) (pc' := 20) rfl ?_
  intro h1 W2 z4 K3 C5
  have f6 : Fld Z h1 a "com/example/bindery/bindery/Globals$Variable" "value" "Ljava/lang/Object;" v := (Fld.same W2 e1)
  refine Go.ret hret (hb hby D_prog_17_method_3_code_20) (by decide) (by decide) ?_
  intro vmR CR
  exact ⟨rfl, ((Keep.refl h [a]).trans K3 (allS (by first | (left; simp; done) | (right; omega)) all0)), f6⟩
set_option maxRecDepth 65536 in
set_option maxHeartbeats 40000000 in
theorem c_get {l : Launch} {Z : State} {a0 : Array Value} {EL : List (String × Nat)} {nw : Prop} {zc : Int32} {un : Addr} {ca : Addr} {kc : ClassId} {vs : List Value} {la : Addr} {kl : ClassId} {ls : List Value} (g : GH Z a0 EL zc un ca kc vs la kl ls) (h : Heap) (a : Addr) (w : Value) (o : Value) (hw : w.isRef = true) (ho : o.isRef = true) (hn : ¬ o = .ref un) (e0 : Exa Z h a "com/example/bindery/bindery/Globals$Variable") (e1 : Fld Z h a "com/example/bindery/bindery/Globals$Variable" "value" "Ljava/lang/Object;" o) (zz : Z.heap.size ≤ h.size) :
    Ct l Z EL nw [] ⟨"com/example/bindery/bindery/Globals$Variable", "get", "(Lcom/example/bindery/bindery/Named;)Ljava/lang/Object;"⟩ prog_17_method_2_code 2 (some (.object "java/lang/Object")) ({ frames := 0, cells := 0, slots := 0, locals := 0 } : Room) #[(.ref a), w] h [] (fun res vm' h' => res = some o ∧ Keep h h' []) := by
  have ye0 := ltN e0.lt
  have ye1 := ltN e1.lt
  refine Ct.of_go (a0 := a0) g.2.1 pn_6 (L0 := #[.val (.ref a), .val w]) (fun m => by rcases ref_cases hw with rfl | ⟨_, rfl⟩ <;> first | (simp [entryFrame, mkF, argsToLocals, Value.category, own_rep]; done) | rfl) ?_
  intro p e s m below meth c hown hby hml hret hnm hZ hC hO hsf
  refine Go.aloadN (hb hby D_prog_17_method_2_code_0) (pc' := 1) rfl rfl rfl ?_
  refine Go.getF hown (wd_39 g) Via.refl e1 (hb hby D_prog_17_method_2_code_1) (pc' := 4) rfl ?_
  refine Go.getS hown (wd_37 g) Via.refl g.2.2.2.2.2.2.1 (hb hby D_prog_17_method_2_code_4) (pc' := 7) rfl ?_
  refine Go.acmpY (hb hby D_prog_17_method_2_code_7) (by decide) (pc' := 15) (by decide) (by assumption) rfl (by simp [XT.acmp, hn]) ?_
  refine Go.aloadN (hb hby D_prog_17_method_2_code_15) (pc' := 16) rfl rfl rfl ?_
  refine Go.getF hown (wd_39 g) Via.refl e1 (hb hby D_prog_17_method_2_code_16) (pc' := 19) rfl ?_
  refine Go.retA hret rfl (by assumption) (hb hby D_prog_17_method_2_code_19) (by decide) (by decide) ?_
  intro vmR CR
  exact ⟨(by first | rfl | (simp only [own_nar]; done) | (congr 2; done)), (Keep.refl h [])⟩
set_option maxRecDepth 65536 in
set_option maxHeartbeats 40000000 in
theorem c_canEncode {l : Launch} {Z : State} {a0 : Array Value} {EL : List (String × Nat)} {nw : Prop} {zc : Int32} {un : Addr} {ca : Addr} {kc : ClassId} {vs : List Value} {la : Addr} {kl : ClassId} {ls : List Value} (g : GH Z a0 EL zc un ca kc vs la kl ls) (h : Heap) (z : Int32) (hz : ¬ (255 : Int32) < z) (zz : Z.heap.size ≤ h.size) :
    Ct l Z EL nw [] ⟨"java/lang/StringLatin1", "canEncode", "(C)Z"⟩ jdk_43_method_3_code 1 (some .boolean) ({ frames := 0, cells := 0, slots := 0, locals := 0 } : Room) #[(.int z)] h [] (fun res vm' h' => res = some (.int (1 : Int32)) ∧ Keep h h' []) := by
  refine Ct.of_go (a0 := a0) g.2.1 pn_7 (L0 := #[.val (.int z)]) (fun m => by first | (simp [entryFrame, mkF, argsToLocals, Value.category, own_rep]; done) | rfl) ?_
  intro p e s m below meth c hown hby hml hret hnm hZ hC hO hsf
  refine Go.iloadN (hb hby D_jdk_43_method_3_code_0) (pc' := 1) rfl rfl ?_
  refine Go.sipush (hb hby D_jdk_43_method_3_code_1) (pc' := 4) rfl (z := (255 : Int32)) rfl ?_
  refine Go.icmpN (hb hby D_jdk_43_method_3_code_4) (pc' := 7) rfl hz ?_
  refine Go.iconst (hb hby D_jdk_43_method_3_code_7) (pc' := 8) rfl (z := (1 : Int32)) rfl ?_
  refine Go.goto (hb hby D_jdk_43_method_3_code_8) (by decide) (pc' := 12) (by decide) ?_
  refine Go.retN (t := .boolean) hret (by simp) (hb hby D_jdk_43_method_3_code_12) (by decide) (by decide) ?_
  intro vmR CR
  exact ⟨(by first | rfl | (simp only [own_nar]; done) | (congr 2; done)), (Keep.refl h [])⟩
set_option maxRecDepth 65536 in
set_option maxHeartbeats 40000000 in
theorem c_toBytes {l : Launch} {Z : State} {a0 : Array Value} {EL : List (String × Nat)} {nw : Prop} {zc : Int32} {un : Addr} {ca : Addr} {kc : ClassId} {vs : List Value} {la : Addr} {kl : ClassId} {ls : List Value} (g : GH Z a0 EL zc un ca kc vs la kl ls) (h : Heap) (z : Int32) (zz : Z.heap.size ≤ h.size) :
    Ct l Z EL nw [] ⟨"java/lang/StringLatin1", "toBytes", "(C)[B"⟩ jdk_43_method_46_code 1 (some (.array .byte)) ({ frames := 0, cells := 1, slots := 1, locals := 0 } : Room) #[(.int z)] h [] (fun res vm' h' => ∃ d : Addr, ∃ kd : ClassId, res = some (.ref d) ∧ Keep h h' [] ∧ h.size ≤ d ∧ Ar Z h' d kd .byte [(.int (by8 z))] ∧ Safe Z EL vm' h' d) := by
  refine Ct.of_go (a0 := a0) g.2.1 pn_7 (L0 := #[.val (.int z)]) (fun m => by first | (simp [entryFrame, mkF, argsToLocals, Value.category, own_rep]; done) | rfl) ?_
  intro p e s m below meth c hown hby hml hret hnm hZ hC hO hsf
  refine Go.iconst (hb hby D_jdk_43_method_46_code_0) (pc' := 1) rfl (z := (1 : Int32)) rfl ?_
  refine Go.newP (ty := .byte) rfl (wd_19 g) (hb hby D_jdk_43_method_46_code_1) (pc' := 3) rfl (by decide) (cap := 1) (by decide) (by decide) (by decide) (by decide) ?_
  intro h1 a2 k3 g4 l5 E6 A7 S8 C9
  have KE6 := Keep.ofExt E6; have zE6 := E6.1
  have A7 : Ar Z h1 a2 k3 .byte [(.int 0)] := A7
  refine Go.dup (hb hby D_jdk_43_method_46_code_3) (pc' := 4) rfl rfl ?_
  refine Go.iconst (hb hby D_jdk_43_method_46_code_4) (pc' := 5) rfl (z := (0 : Int32)) rfl ?_
  refine Go.iloadN (hb hby D_jdk_43_method_46_code_5) (pc' := 6) rfl rfl ?_
  refine Go.i2b (hb hby D_jdk_43_method_46_code_6) (pc' := 7) rfl ?_
  refine Go.bastore A7 (by decide) (Nat.lt_of_lt_of_eq (by decide : Int32.toNatClampNeg (0 : Int32) < 1) rfl) S8 (by omega) (hb hby D_jdk_43_method_46_code_7) (pc' := 8) rfl ?_
  intro h10 A11 z12 K13 S14 C15
  have A11 : Ar Z h10 a2 k3 .byte [(.int (nar .byte z.toInt8.toInt32))] := A11
  have A16 : Ar Z h10 a2 k3 .byte [(.int (by8 z))] := by have q := A11; rw [nar_by8] at q; exact q
  refine Go.retA hret rfl rfl (hb hby D_jdk_43_method_46_code_8) (by decide) (by decide) ?_
  intro vmR CR
  exact ⟨a2, k3, (by first | rfl | (simp only [own_nar]; done) | (congr 2; done)), (((Keep.refl h []).trans KE6 all0).trans K13 (allS (by first | (left; simp; done) | (right; omega)) all0)), (by omega), A16, (Safe.to CR (by omega) S14)⟩
set_option maxRecDepth 65536 in
set_option maxHeartbeats 40000000 in
theorem c_strinitB {l : Launch} {Z : State} {a0 : Array Value} {EL : List (String × Nat)} {nw : Prop} {zc : Int32} {un : Addr} {ca : Addr} {kc : ClassId} {vs : List Value} {la : Addr} {kl : ClassId} {ls : List Value} (g : GH Z a0 EL zc un ca kc vs la kl ls) (h : Heap) (a : Addr) (d : Addr) (kd : ClassId) (bs : List Int32) (ga : Z.heap.size ≤ a) (hb' : bs.length < 536870912) (e0 : Exa Z h a "java/lang/String") (e1 : Fld Z h a "java/lang/String" "coder" "B" (.int 0)) (e2 : Fld Z h a "java/lang/String" "value" "[B" .null) (e3 : Ar Z h d kd .byte (bs.map Value.int)) (zz : Z.heap.size ≤ h.size) :
    Ct l Z EL nw [] ⟨"java/lang/String", "<init>", "([BB)V"⟩ jdk_42_method_151_code 3 none ({ frames := 1, cells := 0, slots := 0, locals := 12 } : Room) #[(.ref a), (.ref d), (.int (0 : Int32))] h [a] (fun res vm' h' => res = none ∧ Keep h h' [a] ∧ St Z h' a d kd bs) := by
  have ye0 := ltN e0.lt
  have ye1 := ltN e1.lt
  have ye2 := ltN e2.lt
  have ye3 := ltN e3.lt
  refine Ct.of_go (a0 := a0) g.2.1 pn_1 (L0 := #[.val (.ref a), .val (.ref d), .val (.int (0 : Int32))]) (fun m => by first | (simp [entryFrame, mkF, argsToLocals, Value.category, own_rep]; done) | rfl) ?_
  intro p e s m below meth c hown hby hml hret hnm hZ hC hO hsf
  refine Go.aloadN (hb hby D_jdk_42_method_151_code_0) (pc' := 1) rfl rfl rfl ?_
  refine Go.initO hown (wd_11 g) (wd_12 g) (wd_13 g) (by rw [hml]; rfl) (hb hby D_jdk_42_method_151_code_1) (by decide) (W := 0) rfl (by decide) (pc' := 4) rfl ?_
  refine Go.aloadN (hb hby D_jdk_42_method_151_code_4) (pc' := 5) rfl rfl rfl ?_
  refine Go.aloadN (hb hby D_jdk_42_method_151_code_5) (pc' := 6) rfl rfl rfl ?_
  refine Go.putF hown (wd_28 g) Via.refl e2 e0 (Or.inr ⟨(wd_29 g), rfl, hnm⟩) (wd_2 g) (ty := (.array .byte)) (by decide) rfl rfl (Or.inr (hsf _ (by simp))) (by omega) (hb hby D_jdk_42_method_151_code_6) (pc' := 9) rfl ?_
  intro h1 W2 z4 K3 C5
  have f6 : Fld Z h1 a "java/lang/String" "coder" "B" (.int 0) := (Fld.other W2 e1 (Or.inr (slot_ne (Or.inr (wd_27 g)) (Or.inr (wd_29 g)) (by decide) (t := .byte) (t' := (.array .byte)) (by decide) (by decide))))
  have f7 : Fld Z h1 a "java/lang/String" "value" "[B" (.ref d) := (Fld.same W2 e2)
  refine Go.aloadN (hb hby D_jdk_42_method_151_code_9) (pc' := 10) rfl rfl rfl ?_
  refine Go.iloadN (hb hby D_jdk_42_method_151_code_10) (pc' := 11) rfl rfl ?_
  have f8 : Exa Z h1 a "java/lang/String" := (e0.keep K3)
  have f9 : Safe Z EL s.vm h1 a := (Safe.to C5 (by omega) (hsf _ (by simp)))
  refine Go.putF hown (wd_26 g) Via.refl f6 f8 (Or.inr ⟨(wd_27 g), rfl, hnm⟩) (wd_2 g) (ty := .byte) (by decide) (v' := (.int (0 : Int32))) rfl (by first | rfl | exact fits_nar_byte _ ) (Or.inr f9) (by omega) (hb hby D_jdk_42_method_151_code_11) (pc' := 14) rfl ?_
  intro h10 W11 z13 K12 C14
  have f15 : Fld Z h10 a "java/lang/String" "coder" "B" (.int (0 : Int32)) := (Fld.same W11 f6)
  have f16 : Fld Z h10 a "java/lang/String" "value" "[B" (.ref d) := (Fld.other W11 f7 (Or.inr (slot_ne (Or.inr (wd_29 g)) (Or.inr (wd_27 g)) (by decide) (t := (.array .byte)) (t' := .byte) (by decide) (by decide))))
  have f17 : Exa Z h10 a "java/lang/String" := (f8.keep K12)
  have f18 : Ar Z h10 d kd .byte (bs.map Value.int) := ((e3.keep K3 (ninS (Ne.symm (Ar.ne_exa e3 e0 (wd_2 g))) nin0)).keep K12 (ninS (Ne.symm (Ar.ne_exa (e3.keep K3 (ninS (Ne.symm (Ar.ne_exa e3 e0 (wd_2 g))) nin0)) (e0.keep K3) (wd_2 g))) nin0))
  have f19 : St Z h10 a d kd bs := ⟨f17, f15, f16, f18, hb'⟩
  refine Go.ret hret (hb hby D_jdk_42_method_151_code_14) (by decide) (by decide) ?_
  intro vmR CR
  exact ⟨rfl, (((Keep.refl h [a]).trans K3 (allS (by first | (left; simp; done) | (right; omega)) all0)).trans K12 (allS (by first | (left; simp; done) | (right; omega)) all0)), f19⟩
set_option maxRecDepth 65536 in
set_option maxHeartbeats 40000000 in
theorem c_valueOfC {l : Launch} {Z : State} {a0 : Array Value} {EL : List (String × Nat)} {nw : Prop} {zc : Int32} {un : Addr} {ca : Addr} {kc : ClassId} {vs : List Value} {la : Addr} {kl : ClassId} {ls : List Value} (g : GH Z a0 EL zc un ca kc vs la kl ls) (h : Heap) (z : Int32) (hz : ¬ (255 : Int32) < z) (zz : Z.heap.size ≤ h.size) :
    Ct l Z EL nw [] ⟨"java/lang/String", "valueOf", "(C)Ljava/lang/String;"⟩ jdk_42_method_139_code 1 (some (.object "java/lang/String")) ({ frames := 2, cells := 2, slots := 5, locals := 27 } : Room) #[(.int z)] h [] (fun res vm' h' => ∃ r : Addr, ∃ d : Addr, ∃ kd : ClassId, res = some (.ref r) ∧ Keep h h' [] ∧ h.size ≤ r ∧ h.size ≤ d ∧ St Z h' r d kd [(by8 z)]) := by
  refine Ct.of_go (a0 := a0) g.2.1 pn_1 (L0 := #[.val (.int z)]) (fun m => by first | (simp [entryFrame, mkF, argsToLocals, Value.category, own_rep]; done) | rfl) ?_
  intro p e s m below meth c hown hby hml hret hnm hZ hC hO hsf
  refine Go.getS hown (wd_14 g) Via.refl g.2.2.2.2.1 (hb hby D_jdk_42_method_139_code_0) (pc' := 3) rfl ?_
  refine Go.ifN (hb hby D_jdk_42_method_139_code_3) (pc' := 6) rfl g.2.2.2.2.2.1 ?_
  refine Go.iloadN (hb hby D_jdk_42_method_139_code_6) (pc' := 7) rfl rfl ?_
  refine Go.callS (c_canEncode (l := l) (nw := nw) g h z hz (by omega)) hown (wd_89 g) (wd_90 g) (wd_92 g) (wd_91 g) (by decide) (argsL := [(.int z)]) (lenOf pd_7 rfl) rfl (by rw [hml]; rfl) (W := 0) rfl (hb hby D_jdk_42_method_139_code_7) (pc' := 10) rfl (by decide) (by decide) (by decide) (by decide) all0 ?_
  rintro _ vm1 h1 ⟨rfl, K1⟩ C1
  have z1 := K1.1
  -- pc 10
  refine Go.ifN (hb hby D_jdk_42_method_139_code_10) (pc' := 13) rfl (show ¬ ((1 : Int32) = (0 : Int32)) from by decide) ?_
  refine Go.newO hown (wd_93 g) (wd_2 g) (wd_3 g) (hb hby D_jdk_42_method_139_code_13) (pc' := 16) rfl (by decide) (by decide) ?_
  intro h2 a3 g4 l5 E6 X7 D8 S9 C10
  have KE6 := Keep.ofExt E6; have zE6 := E6.1
  have f11 : Fld Z h2 a3 "java/lang/String" "coder" "B" (.int 0) := D8 (Or.inr (wd_27 g)) (ty := .byte) (by decide)
  have f12 : Fld Z h2 a3 "java/lang/String" "value" "[B" .null := D8 (Or.inr (wd_29 g)) (ty := (.array .byte)) (by decide)
  refine Go.dup (hb hby D_jdk_42_method_139_code_16) (pc' := 17) rfl rfl ?_
  refine Go.iloadN (hb hby D_jdk_42_method_139_code_17) (pc' := 18) rfl rfl ?_
  refine Go.callS (c_toBytes (l := l) (nw := nw) g h2 z (by omega)) hown (wd_94 g) (wd_95 g) (wd_96 g) (wd_91 g) (by decide) (argsL := [(.int z)]) (lenOf pd_8 rfl) rfl (by rw [hml]; rfl) (W := 2) rfl (hb hby D_jdk_42_method_139_code_18) (pc' := 21) rfl (by decide) (by decide) (by decide) (by decide) all0 ?_
  rintro _ vm13 h13 ⟨d_13, kd_13, rfl, K13, p13_0, o13_0, o13_1⟩ C13
  have z13 := K13.1
  have yo13_0 := ltN o13_0.lt
  -- pc 21
  refine Go.iconst (hb hby D_jdk_42_method_139_code_21) (pc' := 22) rfl (z := (0 : Int32)) rfl ?_
  have f14 : Exa Z h13 a3 "java/lang/String" := (X7.keep K13)
  have f15 : Fld Z h13 a3 "java/lang/String" "coder" "B" (.int 0) := (f11.keep K13 nin0)
  have f16 : Fld Z h13 a3 "java/lang/String" "value" "[B" .null := (f12.keep K13 nin0)
  have f17 : Safe Z EL vm13 h13 a3 := (Safe.to C13 (by omega) S9)
  refine Go.callC (c_strinitB (l := l) (nw := nw) g h13 a3 d_13 kd_13 [(by8 z)] (by first | omega | assumption | decide) (by simp) f14 f15 f16 o13_0 (by omega)) hown rfl rfl (wd_97 g) (wd_98 g) (wd_99 g) (wd_3 g) (by decide) (argsL := [(.ref d_13), (.int (0 : Int32))]) (lenOf pd_9 rfl) rfl (by rw [hml]; rfl) (W := 1) rfl (hb hby D_jdk_42_method_139_code_22) (pc' := 25) rfl (by decide) (by decide) (by decide) (by decide) (allS ⟨by omega, f17⟩ all0) ?_
  rintro _ vm18 h18 ⟨rfl, K18, o18_0⟩ C18
  have z18 := K18.1
  have yo18_0 := ltN o18_0.lt; have yo18_0' := ltN o18_0.ltb
  -- pc 25
  refine Go.retA hret rfl rfl (hb hby D_jdk_42_method_139_code_25) (by decide) (by decide) ?_
  intro vmR CR
  exact ⟨a3, d_13, kd_13, (by first | rfl | (simp only [own_nar]; done) | (congr 2; done)), (((((Keep.refl h []).trans K1 all0).trans KE6 all0).trans K13 all0).trans K18 (allS (by first | (left; simp; done) | (right; omega)) all0)), (by omega), (by omega), o18_0⟩
set_option maxRecDepth 65536 in
set_option maxHeartbeats 40000000 in
theorem c_longinit {l : Launch} {Z : State} {a0 : Array Value} {EL : List (String × Nat)} {nw : Prop} {zc : Int32} {un : Addr} {ca : Addr} {kc : ClassId} {vs : List Value} {la : Addr} {kl : ClassId} {ls : List Value} (g : GH Z a0 EL zc un ca kc vs la kl ls) (h : Heap) (a : Addr) (z : Int64) (ga : Z.heap.size ≤ a) (e0 : Exa Z h a "java/lang/Long") (e1 : Fld Z h a "java/lang/Long" "value" "J" (.long 0)) (zz : Z.heap.size ≤ h.size) :
    Ct l Z EL nw [] ⟨"java/lang/Long", "<init>", "(J)V"⟩ jdk_35_method_26_code 3 none ({ frames := 2, cells := 0, slots := 0, locals := 24 } : Room) #[(.ref a), (.long z)] h [] (fun res vm' h' => res = none ∧ Keep h h' [a] ∧ Fld Z h' a "java/lang/Long" "value" "J" (.long z)) := by
  have ye0 := ltN e0.lt
  have ye1 := ltN e1.lt
  refine Ct.of_go (a0 := a0) g.2.1 pn_8 (L0 := #[.val (.ref a), .val (.long z), .second]) (fun m => by first | (simp [entryFrame, mkF, argsToLocals, Value.category, own_rep]; done) | rfl) ?_
  intro p e s m below meth c hown hby hml hret hnm hZ hC hO hsf
  refine Go.aloadN (hb hby D_jdk_35_method_26_code_0) (pc' := 1) rfl rfl rfl ?_
  refine Go.callC (c_number (l := l) (nw := nw) g h a (by omega)) hown rfl rfl (wd_111 g) (wd_112 g) (wd_116 g) (wd_115 g) (by decide) (argsL := []) (lenOf pd_4 rfl) rfl (by rw [hml]; rfl) (W := 0) rfl (hb hby D_jdk_35_method_26_code_1) (pc' := 4) rfl (by decide) (by decide) (by decide) (by decide) all0 ?_
  rintro _ vm1 h1 ⟨rfl, K1⟩ C1
  have z1 := K1.1
  -- pc 4
  refine Go.aloadN (hb hby D_jdk_35_method_26_code_4) (pc' := 5) rfl rfl rfl ?_
  refine Go.lloadN (hb hby D_jdk_35_method_26_code_5) (pc' := 6) rfl rfl ?_
  have f2 : Fld Z h1 a "java/lang/Long" "value" "J" (.long 0) := (e1.keep K1 nin0)
  have f3 : Exa Z h1 a "java/lang/Long" := (e0.keep K1)
  refine Go.putF hown (wd_118 g) Via.refl f2 f3 (Or.inr ⟨(wd_119 g), rfl, hnm⟩) (wd_106 g) (ty := .long) (by decide) rfl rfl (Or.inl ⟨by decide, by decide⟩) (by omega) (hb hby D_jdk_35_method_26_code_6) (pc' := 9) rfl ?_
  intro h4 W5 z7 K6 C8
  have f9 : Fld Z h4 a "java/lang/Long" "value" "J" (.long z) := (Fld.same W5 f2)
  refine Go.ret hret (hb hby D_jdk_35_method_26_code_9) (by decide) (by decide) ?_
  intro vmR CR
  exact ⟨rfl, (((Keep.refl h [a]).trans K1 all0).trans K6 (allS (by first | (left; simp; done) | (right; omega)) all0)), f9⟩
set_option maxRecDepth 65536 in
set_option maxHeartbeats 40000000 in
theorem c_longof {l : Launch} {Z : State} {a0 : Array Value} {EL : List (String × Nat)} {nw : Prop} {zc : Int32} {un : Addr} {ca : Addr} {kc : ClassId} {vs : List Value} {la : Addr} {kl : ClassId} {ls : List Value} (g : GH Z a0 EL zc un ca kc vs la kl ls) (h : Heap) (z : Int64) (zz : Z.heap.size ≤ h.size) :
    Ct l Z EL nw [] ⟨"java/lang/Long", "valueOf", "(J)Ljava/lang/Long;"⟩ jdk_35_method_24_code 3 (some (.object "java/lang/Long")) ({ frames := 3, cells := 1, slots := 1, locals := 39 } : Room) #[(.long z)] h [] (fun res vm' h' => ∃ r : Addr, res = some (.ref r) ∧ Keep h h' [] ∧ Exa Z h' r "java/lang/Long") := by
  refine Ct.of_go (a0 := a0) g.2.1 pn_8 (L0 := #[.val (.long z), .second, .unset]) (fun m => by first | (simp [entryFrame, mkF, argsToLocals, Value.category, own_rep]; done) | rfl) ?_
  intro p e s m below meth c hown hby hml hret hnm hZ hC hO hsf
  refine Go.sipush (hb hby D_jdk_35_method_24_code_0) (pc' := 3) rfl (z := (128 : Int32)) rfl ?_
  refine Go.istoreN (hb hby D_jdk_35_method_24_code_3) (pc' := 4) rfl (L' := #[.val (.long z), .second, .val (.int (128 : Int32))]) rfl ?_
  refine Go.lloadN (hb hby D_jdk_35_method_24_code_4) (pc' := 5) rfl rfl ?_
  refine Go.ldc2Long hown (wd_82 g) (hb hby D_jdk_35_method_24_code_5) (pc' := 8) rfl ?_
  refine Go.lcmp (hb hby D_jdk_35_method_24_code_8) (pc' := 9) rfl ?_
  refine Go.ifc (hb hby D_jdk_35_method_24_code_9) (by decide) (pc' := 31) (by decide) (pc2 := 12) rfl (fun (q9 : (XT.cmpL z (-128 : Int64)) < (0 : Int32)) => ?_) (fun (q9 : ¬ ((XT.cmpL z (-128 : Int64)) < (0 : Int32))) => ?_)
  · refine Go.newO hown (wd_105 g) (wd_106 g) (wd_80 g) (hb hby D_jdk_35_method_24_code_31) (pc' := 34) rfl (by decide) (by decide) ?_
    intro h1 a2 g3 l4 E5 X6 D7 S8 C9
    have KE5 := Keep.ofExt E5; have zE5 := E5.1
    have f10 : Fld Z h1 a2 "java/lang/Long" "value" "J" (.long 0) := D7 (Or.inr (wd_119 g)) (ty := .long) (by decide)
    refine Go.dup (hb hby D_jdk_35_method_24_code_34) (pc' := 35) rfl rfl ?_
    refine Go.lloadN (hb hby D_jdk_35_method_24_code_35) (pc' := 36) rfl rfl ?_
    refine Go.callC (c_longinit (l := l) (nw := nw) g h1 a2 z (by first | omega | assumption | decide) X6 f10 (by omega)) hown rfl rfl (wd_107 g) (wd_108 g) (wd_110 g) (wd_80 g) (by decide) (argsL := [(.long z)]) (lenOf pd_10 rfl) rfl (by rw [hml]; rfl) (W := 1) rfl (hb hby D_jdk_35_method_24_code_36) (pc' := 39) rfl (by decide) (by decide) (by decide) (by decide) all0 ?_
    rintro _ vm11 h11 ⟨rfl, K11, o11_0⟩ C11
    have z11 := K11.1
    -- pc 39
    have f12 : Exa Z h11 a2 "java/lang/Long" := (X6.keep K11)
    refine Go.retA hret rfl rfl (hb hby D_jdk_35_method_24_code_39) (by decide) (by decide) ?_
    intro vmR CR
    exact ⟨a2, (by first | rfl | (simp only [own_nar]; done) | (congr 2; done)), (((Keep.refl h []).trans KE5 all0).trans K11 (allS (by first | (left; simp; done) | (right; omega)) all0)), f12⟩
  · refine Go.lloadN (hb hby D_jdk_35_method_24_code_12) (pc' := 13) rfl rfl ?_
    refine Go.ldc2Long hown (wd_83 g) (hb hby D_jdk_35_method_24_code_13) (pc' := 16) rfl ?_
    refine Go.lcmp (hb hby D_jdk_35_method_24_code_16) (pc' := 17) rfl ?_
    refine Go.ifc (hb hby D_jdk_35_method_24_code_17) (by decide) (pc' := 31) (by decide) (pc2 := 20) rfl (fun (q17 : (0 : Int32) < (XT.cmpL z (127 : Int64))) => ?_) (fun (q17 : ¬ ((0 : Int32) < (XT.cmpL z (127 : Int64)))) => ?_)
    · refine Go.newO hown (wd_105 g) (wd_106 g) (wd_80 g) (hb hby D_jdk_35_method_24_code_31) (pc' := 34) rfl (by decide) (by decide) ?_
      intro h13 a14 g15 l16 E17 X18 D19 S20 C21
      have KE17 := Keep.ofExt E17; have zE17 := E17.1
      have f22 : Fld Z h13 a14 "java/lang/Long" "value" "J" (.long 0) := D19 (Or.inr (wd_119 g)) (ty := .long) (by decide)
      refine Go.dup (hb hby D_jdk_35_method_24_code_34) (pc' := 35) rfl rfl ?_
      refine Go.lloadN (hb hby D_jdk_35_method_24_code_35) (pc' := 36) rfl rfl ?_
      refine Go.callC (c_longinit (l := l) (nw := nw) g h13 a14 z (by first | omega | assumption | decide) X18 f22 (by omega)) hown rfl rfl (wd_107 g) (wd_108 g) (wd_110 g) (wd_80 g) (by decide) (argsL := [(.long z)]) (lenOf pd_10 rfl) rfl (by rw [hml]; rfl) (W := 1) rfl (hb hby D_jdk_35_method_24_code_36) (pc' := 39) rfl (by decide) (by decide) (by decide) (by decide) all0 ?_
      rintro _ vm23 h23 ⟨rfl, K23, o23_0⟩ C23
      have z23 := K23.1
      -- pc 39
      have f24 : Exa Z h23 a14 "java/lang/Long" := (X18.keep K23)
      refine Go.retA hret rfl rfl (hb hby D_jdk_35_method_24_code_39) (by decide) (by decide) ?_
      intro vmR CR
      exact ⟨a14, (by first | rfl | (simp only [own_nar]; done) | (congr 2; done)), (((Keep.refl h []).trans KE17 all0).trans K23 (allS (by first | (left; simp; done) | (right; omega)) all0)), f24⟩
    · refine Go.getS hown (wd_84 g) Via.refl g.2.2.2.2.2.2.2.2.2.2.2.2.1 (hb hby D_jdk_35_method_24_code_20) (pc' := 23) rfl ?_
      refine Go.lloadN (hb hby D_jdk_35_method_24_code_23) (pc' := 24) rfl rfl ?_
      refine Go.l2i (hb hby D_jdk_35_method_24_code_24) (pc' := 25) rfl ?_
      refine Go.sipush (hb hby D_jdk_35_method_24_code_25) (pc' := 28) rfl (z := (128 : Int32)) rfl ?_
      refine Go.iadd (hb hby D_jdk_35_method_24_code_28) (pc' := 29) rfl ?_
      obtain ⟨hj1, hj2⟩ := cache_ixL q9 q17
      obtain ⟨xr, hx1, hx2⟩ := g.2.2.2.2.2.2.2.2.2.2.2.2.2.2 _ hj2
      refine Go.aaload (g.2.2.2.2.2.2.2.2.2.2.2.2.2.1.ext hO) rfl (v := (.ref xr)) hj1 hx1 (hb hby D_jdk_35_method_24_code_29) (pc' := 30) rfl ?_
      refine Go.retA hret rfl rfl (hb hby D_jdk_35_method_24_code_30) (by decide) (by decide) ?_
      intro vmR CR
      exact ⟨xr, (by first | rfl | (simp only [own_nar]; done) | (congr 2; done)), (Keep.refl h []), (hx2.ext hO)⟩
set_option maxRecDepth 65536 in
set_option maxHeartbeats 40000000 in
theorem c_pick {l : Launch} {Z : State} {a0 : Array Value} {EL : List (String × Nat)} {nw : Prop} {zc : Int32} {un : Addr} {ca : Addr} {kc : ClassId} {vs : List Value} {la : Addr} {kl : ClassId} {ls : List Value} (g : GH Z a0 EL zc un ca kc vs la kl ls) (h : Heap) (n : Int32) (z : Int32) (zz : Z.heap.size ≤ h.size) :
    Ct l Z EL nw [] ⟨"com/example/bindery/bindery/VariableGetPinLaw", "pick", "(II)Ljava/lang/Object;"⟩ method_2_code 3 (some (.object "java/lang/Object")) ({ frames := 4, cells := 2, slots := 5, locals := 53 } : Room) #[(.int n), (.int z)] h [] (fun res vm' h' => ∃ v : Value, res = some v ∧ Keep h h' [] ∧ v.isRef = true ∧ ¬ v = .ref un) := by
  refine Ct.of_go (a0 := a0) g.2.1 pn_9 (L0 := #[.val (.int n), .val (.int z), .unset]) (fun m => by first | (simp [entryFrame, mkF, argsToLocals, Value.category, own_rep]; done) | rfl) ?_
  intro p e s m below meth c hown hby hml hret hnm hZ hC hO hsf
  refine Go.iloadN (hb hby D_method_2_code_0) (pc' := 1) rfl rfl ?_
  refine Go.ifc (hb hby D_method_2_code_1) (by decide) (pc' := 9) (by decide) (pc2 := 4) rfl (fun (q1 : ¬ n = (0 : Int32)) => ?_) (fun (q1 : ¬ (¬ n = (0 : Int32))) => ?_)
  · refine Go.iloadN (hb hby D_method_2_code_9) (pc' := 10) rfl rfl ?_
    refine Go.iconst (hb hby D_method_2_code_10) (pc' := 11) rfl (z := (1 : Int32)) rfl ?_
    refine Go.icmp (hb hby D_method_2_code_11) (by decide) (pc' := 22) (by decide) (pc2 := 14) rfl (fun (q11 : ¬ n = (1 : Int32)) => ?_) (fun (q11 : ¬ (¬ n = (1 : Int32))) => ?_)
    · refine Go.iloadN (hb hby D_method_2_code_22) (pc' := 23) rfl rfl ?_
      refine Go.iconst (hb hby D_method_2_code_23) (pc' := 24) rfl (z := (2 : Int32)) rfl ?_
      refine Go.icmp (hb hby D_method_2_code_24) (by decide) (pc' := 40) (by decide) (pc2 := 27) rfl (fun (q24 : ¬ n = (2 : Int32)) => ?_) (fun (q24 : ¬ (¬ n = (2 : Int32))) => ?_)
      · refine Go.iloadN (hb hby D_method_2_code_40) (pc' := 41) rfl rfl ?_
        refine Go.i2l (hb hby D_method_2_code_41) (pc' := 42) rfl ?_
        refine Go.callS (c_longof (l := l) (nw := nw) g h z.toInt64 (by omega)) hown (wd_78 g) (wd_79 g) (wd_81 g) (wd_80 g) (by decide) (argsL := [(.long z.toInt64)]) (lenOf pd_11 rfl) rfl (by rw [hml]; rfl) (W := 0) rfl (hb hby D_method_2_code_42) (pc' := 45) rfl (by decide) (by decide) (by decide) (by decide) all0 ?_
        rintro _ vm1 h1 ⟨r_1, rfl, K1, o1_0⟩ C1
        have z1 := K1.1
        have yo1_0 := ltN o1_0.lt
        -- pc 45
        refine Go.astoreN (hb hby D_method_2_code_45) (pc' := 46) rfl rfl (L' := #[.val (.int n), .val (.int z), .val (.ref r_1)]) rfl ?_
        refine Go.aloadN (hb hby D_method_2_code_46) (pc' := 47) rfl rfl rfl ?_
        have f2 : Exa Z h1 un "java/lang/Object" := ((g.2.2.2.2.2.2.2.1.ext hO).keep K1)
        refine Go.retA hret rfl rfl (hb hby D_method_2_code_47) (by decide) (by decide) ?_
        intro vmR CR
        exact ⟨(.ref r_1), (by first | rfl | (simp only [own_nar]; done) | (congr 2; done)), ((Keep.refl h []).trans K1 all0), rfl, (fun q => Exa.ne o1_0 f2 (by decide) (Value.ref.inj q))⟩
      · refine Go.iloadN (hb hby D_method_2_code_27) (pc' := 28) rfl rfl ?_
        refine Go.sipush (hb hby D_method_2_code_28) (pc' := 31) rfl (z := (255 : Int32)) rfl ?_
        refine Go.iand (hb hby D_method_2_code_31) (pc' := 32) rfl ?_
        refine Go.i2c (hb hby D_method_2_code_32) (pc' := 33) rfl ?_
        rw [nch (m255 z)]
        refine Go.callS (c_valueOfC (l := l) (nw := nw) g h (z &&& (255 : Int32)) (le255 (m255 _)) (by omega)) hown (wd_86 g) (wd_87 g) (wd_88 g) (wd_3 g) (by decide) (argsL := [(.int (z &&& (255 : Int32)))]) (lenOf pd_12 rfl) rfl (by rw [hml]; rfl) (W := 0) rfl (hb hby D_method_2_code_33) (pc' := 36) rfl (by decide) (by decide) (by decide) (by decide) all0 ?_
        rintro _ vm3 h3 ⟨r_3, d_3, kd_3, rfl, K3, p3_0, p3_1, o3_0⟩ C3
        have z3 := K3.1
        have yo3_0 := ltN o3_0.lt; have yo3_0' := ltN o3_0.ltb
        -- pc 36
        refine Go.astoreN (hb hby D_method_2_code_36) (pc' := 37) rfl rfl (L' := #[.val (.int n), .val (.int z), .val (.ref r_3)]) rfl ?_
        refine Go.goto (hb hby D_method_2_code_37) (by decide) (pc' := 46) (by decide) ?_
        refine Go.aloadN (hb hby D_method_2_code_46) (pc' := 47) rfl rfl rfl ?_
        have f4 : Exa Z h3 un "java/lang/Object" := ((g.2.2.2.2.2.2.2.1.ext hO).keep K3)
        refine Go.retA hret rfl rfl (hb hby D_method_2_code_47) (by decide) (by decide) ?_
        intro vmR CR
        exact ⟨(.ref r_3), (by first | rfl | (simp only [own_nar]; done) | (congr 2; done)), ((Keep.refl h []).trans K3 all0), rfl, (fun q => Exa.ne o3_0.1 f4 (by decide) (Value.ref.inj q))⟩
    · refine Go.iloadN (hb hby D_method_2_code_14) (pc' := 15) rfl rfl ?_
      refine Go.callS (c_intof (l := l) (nw := nw) g h z (by omega)) hown (wd_61 g) (wd_62 g) (wd_64 g) (wd_63 g) (by decide) (argsL := [(.int z)]) (lenOf pd_13 rfl) rfl (by rw [hml]; rfl) (W := 0) rfl (hb hby D_method_2_code_15) (pc' := 18) rfl (by decide) (by decide) (by decide) (by decide) all0 ?_
      rintro _ vm5 h5 ⟨r_5, rfl, K5, o5_0⟩ C5
      have z5 := K5.1
      have yo5_0 := ltN o5_0.lt
      -- pc 18
      refine Go.astoreN (hb hby D_method_2_code_18) (pc' := 19) rfl rfl (L' := #[.val (.int n), .val (.int z), .val (.ref r_5)]) rfl ?_
      refine Go.goto (hb hby D_method_2_code_19) (by decide) (pc' := 46) (by decide) ?_
      refine Go.aloadN (hb hby D_method_2_code_46) (pc' := 47) rfl rfl rfl ?_
      have f6 : Exa Z h5 un "java/lang/Object" := ((g.2.2.2.2.2.2.2.1.ext hO).keep K5)
      refine Go.retA hret rfl rfl (hb hby D_method_2_code_47) (by decide) (by decide) ?_
      intro vmR CR
      exact ⟨(.ref r_5), (by first | rfl | (simp only [own_nar]; done) | (congr 2; done)), ((Keep.refl h []).trans K5 all0), rfl, (fun q => Exa.ne o5_0 f6 (by decide) (Value.ref.inj q))⟩
  · refine Go.aconstNull (hb hby D_method_2_code_4) (pc' := 5) rfl ?_
    refine Go.astoreN (hb hby D_method_2_code_5) (pc' := 6) rfl rfl (L' := #[.val (.int n), .val (.int z), .val .null]) rfl ?_
    refine Go.goto (hb hby D_method_2_code_6) (by decide) (pc' := 46) (by decide) ?_
    refine Go.aloadN (hb hby D_method_2_code_46) (pc' := 47) rfl rfl rfl ?_
    refine Go.retA hret rfl rfl (hb hby D_method_2_code_47) (by decide) (by decide) ?_
    intro vmR CR
    exact ⟨.null, (by first | rfl | (simp only [own_nar]; done) | (congr 2; done)), (Keep.refl h []), rfl, (by simp)⟩
set_option maxRecDepth 65536 in
set_option maxHeartbeats 40000000 in
theorem c_law {l : Launch} {Z : State} {a0 : Array Value} {EL : List (String × Nat)} {nw : Prop} {zc : Int32} {un : Addr} {ca : Addr} {kc : ClassId} {vs : List Value} {la : Addr} {kl : ClassId} {ls : List Value} (g : GH Z a0 EL zc un ca kc vs la kl ls) (ws : List Jvm.Cond) (h : Heap) (i0 : Int32) (i1 : Int32) (i2 : Int32) (i3 : Int32) (i4 : Int32) (i5 : Int32) (zz : Z.heap.size ≤ h.size) :
    Ct l Z EL nw ws x code maxLocals ret room_1 #[(.int i0), (.int i1), (.int i2), (.int i3), (.int i4), (.int i5)] h [] (fun res vm' h' => res = some (.int (1 : Int32)) ∧ Keep h h' []) := by
  refine Ct.of_go (a0 := a0) g.2.1 pn_9 (L0 := #[.val (.int i0), .val (.int i1), .val (.int i2), .val (.int i3), .val (.int i4), .val (.int i5), .unset, .unset, .unset, .unset, .unset, .unset, .unset, .unset, .unset, .unset, .unset]) (fun m => by first | (simp [entryFrame, mkF, argsToLocals, Value.category, own_rep, maxLocals]; done) | rfl) ?_
  intro p e s m below meth c hown hby hml hret hnm hZ hC hO hsf
  refine Go.iconst (hb hby at_0) (pc' := 1) rfl (z := (2 : Int32)) rfl ?_
  refine Go.newP (ty := .char) rfl (wd_0 g) (hb hby at_1) (pc' := 3) rfl (by decide) (cap := 2) (by decide) (by decide) (by decide) (by decide) ?_
  intro h1 a2 k3 g4 l5 E6 A7 S8 C9
  have KE6 := Keep.ofExt E6; have zE6 := E6.1
  have A7 : Ar Z h1 a2 k3 .char [(.int 0), (.int 0)] := A7
  refine Go.dup (hb hby at_3) (pc' := 4) rfl rfl ?_
  refine Go.iconst (hb hby at_4) (pc' := 5) rfl (z := (0 : Int32)) rfl ?_
  refine Go.iload (hb hby at_5) (pc' := 7) rfl rfl ?_
  refine Go.sipush (hb hby at_7) (pc' := 10) rfl (z := (255 : Int32)) rfl ?_
  refine Go.iand (hb hby at_10) (pc' := 11) rfl ?_
  refine Go.i2c (hb hby at_11) (pc' := 12) rfl ?_
  rw [nch (m255 i5)]
  refine Go.castore A7 (by decide) (Nat.lt_of_lt_of_eq (by decide : Int32.toNatClampNeg (0 : Int32) < 2) rfl) (by omega) (hb hby at_12) (pc' := 13) rfl ?_
  intro h10 A11 z12 K13 S14 C15
  rw [nch (m255 i5)] at A11
  have A11 : Ar Z h10 a2 k3 .char [(.int (i5 &&& (255 : Int32))), (.int 0)] := A11
  refine Go.dup (hb hby at_13) (pc' := 14) rfl rfl ?_
  refine Go.iconst (hb hby at_14) (pc' := 15) rfl (z := (1 : Int32)) rfl ?_
  refine Go.iload (hb hby at_15) (pc' := 17) rfl rfl ?_
  refine Go.bipush (hb hby at_17) (pc' := 19) rfl (z := (8 : Int32)) rfl ?_
  refine Go.ishr (hb hby at_19) (pc' := 20) rfl ?_
  refine Go.sipush (hb hby at_20) (pc' := 23) rfl (z := (255 : Int32)) rfl ?_
  refine Go.iand (hb hby at_23) (pc' := 24) rfl ?_
  refine Go.i2c (hb hby at_24) (pc' := 25) rfl ?_
  rw [nch (m255 (i5 >>> ((8 : Int32) &&& 31)))]
  refine Go.castore A11 (by decide) (Nat.lt_of_lt_of_eq (by decide : Int32.toNatClampNeg (1 : Int32) < 2) rfl) (by omega) (hb hby at_25) (pc' := 26) rfl ?_
  intro h16 A17 z18 K19 S20 C21
  rw [nch (m255 (i5 >>> ((8 : Int32) &&& 31)))] at A17
  have A17 : Ar Z h16 a2 k3 .char [(.int (i5 &&& (255 : Int32))), (.int ((i5 >>> ((8 : Int32) &&& 31)) &&& (255 : Int32)))] := A17
  refine Go.astore (hb hby at_26) (pc' := 28) rfl rfl (L' := #[.val (.int i0), .val (.int i1), .val (.int i2), .val (.int i3), .val (.int i4), .val (.int i5), .val (.ref a2), .unset, .unset, .unset, .unset, .unset, .unset, .unset, .unset, .unset, .unset]) rfl ?_
  refine Go.newO hown (wd_1 g) (wd_2 g) (wd_3 g) (hb hby at_28) (pc' := 31) rfl (by decide) (by decide) ?_
  intro h22 a23 g24 l25 E26 X27 D28 S29 C30
  have KE26 := Keep.ofExt E26; have zE26 := E26.1
  have f31 : Fld Z h22 a23 "java/lang/String" "coder" "B" (.int 0) := D28 (Or.inr (wd_27 g)) (ty := .byte) (by decide)
  have f32 : Fld Z h22 a23 "java/lang/String" "value" "[B" .null := D28 (Or.inr (wd_29 g)) (ty := (.array .byte)) (by decide)
  refine Go.dup (hb hby at_31) (pc' := 32) rfl rfl ?_
  refine Go.aload (hb hby at_32) (pc' := 34) rfl rfl rfl ?_
  have f33 : Ar Z h22 a2 k3 .char [(.int (i5 &&& (255 : Int32))), (.int ((i5 >>> ((8 : Int32) &&& 31)) &&& (255 : Int32)))] := (A17.keep KE26 nin0)
  refine Go.callC (c_strinit (l := l) (nw := nw) g h22 a23 a2 k3 [(i5 &&& (255 : Int32)), ((i5 >>> ((8 : Int32) &&& 31)) &&& (255 : Int32))] (alS (m255 _) (alS (m255 _) al0)) (by simp) (by simp) (by first | omega | assumption | decide) X27 f31 f32 f33 (by omega)) hown rfl rfl (wd_4 g) (wd_5 g) (wd_6 g) (wd_3 g) (by decide) (argsL := [(.ref a2)]) (lenOf pd_14 rfl) rfl (by rw [hml]; rfl) (W := 1) rfl (hb hby at_34) (pc' := 37) rfl (by decide) (by decide) (by decide) (by decide) (allS ⟨by omega, S29⟩ all0) ?_
  rintro _ vm34 h34 ⟨d_34, kd_34, rfl, K34, p34_0, o34_0⟩ C34
  have z34 := K34.1
  have yo34_0 := ltN o34_0.lt; have yo34_0' := ltN o34_0.ltb
  -- pc 37
  refine Go.astore (hb hby at_37) (pc' := 39) rfl rfl (L' := #[.val (.int i0), .val (.int i1), .val (.int i2), .val (.int i3), .val (.int i4), .val (.int i5), .val (.ref a2), .val (.ref a23), .unset, .unset, .unset, .unset, .unset, .unset, .unset, .unset, .unset]) rfl ?_
  refine Go.newO hown (wd_30 g) (wd_31 g) (wd_32 g) (hb hby at_39) (pc' := 42) rfl (by decide) (by decide) ?_
  intro h35 a36 g37 l38 E39 X40 D41 S42 C43
  have KE39 := Keep.ofExt E39; have zE39 := E39.1
  have f44 : Fld Z h35 a36 "com/example/bindery/bindery/Globals$Variable" "value" "Ljava/lang/Object;" .null := D41 (Or.inl (wd_40 g)) (ty := (.object "java/lang/Object")) (by decide)
  refine Go.dup (hb hby at_42) (pc' := 43) rfl rfl ?_
  refine Go.callC (c_gvar (l := l) (nw := nw) g h35 a36 (by first | omega | assumption | decide) X40 f44 (by omega)) hown rfl rfl (wd_33 g) (wd_34 g) (wd_35 g) (wd_32 g) (by decide) (argsL := []) (lenOf pd_4 rfl) rfl (by rw [hml]; rfl) (W := 1) rfl (hb hby at_43) (pc' := 46) rfl (by decide) (by decide) (by decide) (by decide) all0 ?_
  rintro _ vm45 h45 ⟨rfl, K45, o45_0⟩ C45
  have z45 := K45.1
  -- pc 46
  refine Go.astore (hb hby at_46) (pc' := 48) rfl rfl (L' := #[.val (.int i0), .val (.int i1), .val (.int i2), .val (.int i3), .val (.int i4), .val (.int i5), .val (.ref a2), .val (.ref a23), .val (.ref a36), .unset, .unset, .unset, .unset, .unset, .unset, .unset, .unset]) rfl ?_
  refine Go.newO hown (wd_41 g) (wd_42 g) (wd_43 g) (hb hby at_48) (pc' := 51) rfl (by decide) (by decide) ?_
  intro h46 a47 g48 l49 E50 X51 D52 S53 C54
  have KE50 := Keep.ofExt E50; have zE50 := E50.1
  have f55 : Fld Z h46 a47 "com/example/bindery/bindery/Named" "lexeme" "Ljava/lang/String;" .null := D52 (Or.inr (wd_54 g)) (ty := (.object "java/lang/String")) (by decide)
  have f56 : Fld Z h46 a47 "com/example/bindery/bindery/Named" "line" "I" (.int 0) := D52 (Or.inr (wd_56 g)) (ty := .int) (by decide)
  refine Go.dup (hb hby at_51) (pc' := 52) rfl rfl ?_
  refine Go.aload (hb hby at_52) (pc' := 54) rfl rfl rfl ?_
  refine Go.iload (hb hby at_54) (pc' := 56) rfl rfl ?_
  refine Go.callC (c_exprvar (l := l) (nw := nw) g h46 a47 (.ref a23) i4 rfl (by first | omega | assumption | decide) X51 f55 f56 (by omega)) hown rfl rfl (wd_44 g) (wd_45 g) (wd_46 g) (wd_43 g) (by decide) (argsL := [(.ref a23), (.int i4)]) (lenOf pd_6 rfl) rfl (by rw [hml]; rfl) (W := 1) rfl (hb hby at_56) (pc' := 59) rfl (by decide) (by decide) (by decide) (by decide) all0 ?_
  rintro _ vm57 h57 ⟨rfl, K57, o57_0, o57_1⟩ C57
  have z57 := K57.1
  -- pc 59
  refine Go.astore (hb hby at_59) (pc' := 61) rfl rfl (L' := #[.val (.int i0), .val (.int i1), .val (.int i2), .val (.int i3), .val (.int i4), .val (.int i5), .val (.ref a2), .val (.ref a23), .val (.ref a36), .val (.ref a47), .unset, .unset, .unset, .unset, .unset, .unset, .unset]) rfl ?_
  refine Go.iloadN (hb hby at_61) (pc' := 62) rfl rfl ?_
  refine Go.iconst (hb hby at_62) (pc' := 63) rfl (z := (3 : Int32)) rfl ?_
  refine Go.iand (hb hby at_63) (pc' := 64) rfl ?_
  refine Go.iloadN (hb hby at_64) (pc' := 65) rfl rfl ?_
  refine Go.callS (c_pick (l := l) (nw := nw) g h57 (i3 &&& (3 : Int32)) i0 (by omega)) hown (wd_57 g) (wd_58 g) (wd_60 g) (wd_59 g) (by decide) (argsL := [(.int (i3 &&& (3 : Int32))), (.int i0)]) (lenOf pd_15 rfl) rfl (by rw [hml]; rfl) (W := 0) rfl (hb hby at_65) (pc' := 68) rfl (by decide) (by decide) (by decide) (by decide) all0 ?_
  rintro _ vm58 h58 ⟨v_58, rfl, K58, p58_0, p58_1⟩ C58
  have z58 := K58.1
  -- pc 68
  refine Go.astore (hb hby at_68) (pc' := 70) rfl p58_0 (L' := #[.val (.int i0), .val (.int i1), .val (.int i2), .val (.int i3), .val (.int i4), .val (.int i5), .val (.ref a2), .val (.ref a23), .val (.ref a36), .val (.ref a47), .val v_58, .unset, .unset, .unset, .unset, .unset, .unset]) ((XS.store1 rfl (Or.inl rfl) (cat1 p58_0)).trans rfl) ?_
  refine Go.iloadN (hb hby at_70) (pc' := 71) rfl rfl ?_
  refine Go.iconst (hb hby at_71) (pc' := 72) rfl (z := (2 : Int32)) rfl ?_
  refine Go.ishr (hb hby at_72) (pc' := 73) rfl ?_
  refine Go.iconst (hb hby at_73) (pc' := 74) rfl (z := (3 : Int32)) rfl ?_
  refine Go.iand (hb hby at_74) (pc' := 75) rfl ?_
  refine Go.iloadN (hb hby at_75) (pc' := 76) rfl rfl ?_
  refine Go.callS (c_pick (l := l) (nw := nw) g h58 ((i3 >>> ((2 : Int32) &&& 31)) &&& (3 : Int32)) i1 (by omega)) hown (wd_57 g) (wd_58 g) (wd_60 g) (wd_59 g) (by decide) (argsL := [(.int ((i3 >>> ((2 : Int32) &&& 31)) &&& (3 : Int32))), (.int i1)]) (lenOf pd_15 rfl) rfl (by rw [hml]; rfl) (W := 0) rfl (hb hby at_76) (pc' := 79) rfl (by decide) (by decide) (by decide) (by decide) all0 ?_
  rintro _ vm59 h59 ⟨v_59, rfl, K59, p59_0, p59_1⟩ C59
  have z59 := K59.1
  -- pc 79
  refine Go.astore (hb hby at_79) (pc' := 81) rfl p59_0 (L' := #[.val (.int i0), .val (.int i1), .val (.int i2), .val (.int i3), .val (.int i4), .val (.int i5), .val (.ref a2), .val (.ref a23), .val (.ref a36), .val (.ref a47), .val v_58, .val v_59, .unset, .unset, .unset, .unset, .unset]) ((XS.store1 rfl (Or.inl rfl) (cat1 p59_0)).trans rfl) ?_
  refine Go.iloadN (hb hby at_81) (pc' := 82) rfl rfl ?_
  refine Go.iconst (hb hby at_82) (pc' := 83) rfl (z := (4 : Int32)) rfl ?_
  refine Go.ishr (hb hby at_83) (pc' := 84) rfl ?_
  refine Go.iconst (hb hby at_84) (pc' := 85) rfl (z := (3 : Int32)) rfl ?_
  refine Go.iand (hb hby at_85) (pc' := 86) rfl ?_
  refine Go.iloadN (hb hby at_86) (pc' := 87) rfl rfl ?_
  refine Go.callS (c_pick (l := l) (nw := nw) g h59 ((i3 >>> ((4 : Int32) &&& 31)) &&& (3 : Int32)) i2 (by omega)) hown (wd_57 g) (wd_58 g) (wd_60 g) (wd_59 g) (by decide) (argsL := [(.int ((i3 >>> ((4 : Int32) &&& 31)) &&& (3 : Int32))), (.int i2)]) (lenOf pd_15 rfl) rfl (by rw [hml]; rfl) (W := 0) rfl (hb hby at_87) (pc' := 90) rfl (by decide) (by decide) (by decide) (by decide) all0 ?_
  rintro _ vm60 h60 ⟨v_60, rfl, K60, p60_0, p60_1⟩ C60
  have z60 := K60.1
  -- pc 90
  refine Go.astore (hb hby at_90) (pc' := 92) rfl p60_0 (L' := #[.val (.int i0), .val (.int i1), .val (.int i2), .val (.int i3), .val (.int i4), .val (.int i5), .val (.ref a2), .val (.ref a23), .val (.ref a36), .val (.ref a47), .val v_58, .val v_59, .val v_60, .unset, .unset, .unset, .unset]) ((XS.store1 rfl (Or.inl rfl) (cat1 p60_0)).trans rfl) ?_
  refine Go.aload (hb hby at_92) (pc' := 94) rfl rfl rfl ?_
  refine Go.aload (hb hby at_94) (pc' := 96) rfl rfl p58_0 ?_
  have f61 : Exa Z h60 a36 "com/example/bindery/bindery/Globals$Variable" := ((((((X40.keep K45).keep KE50).keep K57).keep K58).keep K59).keep K60)
  have f62 : Fld Z h60 a36 "com/example/bindery/bindery/Globals$Variable" "value" "Ljava/lang/Object;" (.ref un) := (((((o45_0.keep KE50 nin0).keep K57 (ninS (neN (by omega)) nin0)).keep K58 nin0).keep K59 nin0).keep K60 nin0)
  refine Go.callV (y0 := ⟨"com/example/bindery/bindery/Globals$Variable", "define", "(Ljava/lang/Object;)V"⟩) (c_define (l := l) (nw := nw) g h60 a36 v_58 (.ref un) p58_0 (by first | omega | assumption | decide) f61 f62 (by omega)) hown (wd_68 g) (wd_69 g) (notFace_of_selects (wd_71 g)) (wd_71 g) (wd_70 g) f61 (wd_72 g) (wd_32 g) (by decide) (argsL := [v_58]) (lenOf pd_16 rfl) rfl (by rw [hml]; rfl) (W := 0) rfl (hb hby at_96) (pc' := 99) rfl (by decide) (by decide) (by decide) (by decide) all0 ?_
  rintro _ vm63 h63 ⟨rfl, K63, o63_0⟩ C63
  have z63 := K63.1
  -- pc 99
  refine Go.aload (hb hby at_99) (pc' := 101) rfl rfl rfl ?_
  refine Go.aload (hb hby at_101) (pc' := 103) rfl rfl rfl ?_
  have f64 : Exa Z h63 a36 "com/example/bindery/bindery/Globals$Variable" := (f61.keep K63)
  refine Go.callV (y0 := ⟨"com/example/bindery/bindery/Globals$Variable", "get", "(Lcom/example/bindery/bindery/Named;)Ljava/lang/Object;"⟩) (c_get (l := l) (nw := nw) g h63 a36 (.ref a47) v_58 rfl (by assumption) (by assumption) f64 o63_0 (by omega)) hown (wd_73 g) (wd_74 g) (notFace_of_selects (wd_76 g)) (wd_76 g) (wd_75 g) f64 (wd_77 g) (wd_32 g) (by decide) (argsL := [(.ref a47)]) (lenOf pd_17 rfl) rfl (by rw [hml]; rfl) (W := 0) rfl (hb hby at_103) (pc' := 106) rfl (by decide) (by decide) (by decide) (by decide) all0 ?_
  rintro _ vm65 h65 ⟨rfl, K65⟩ C65
  have z65 := K65.1
  -- pc 106
  refine Go.astore (hb hby at_106) (pc' := 108) rfl (by assumption) (L' := #[.val (.int i0), .val (.int i1), .val (.int i2), .val (.int i3), .val (.int i4), .val (.int i5), .val (.ref a2), .val (.ref a23), .val (.ref a36), .val (.ref a47), .val v_58, .val v_59, .val v_60, .val v_58, .unset, .unset, .unset]) ((XS.store1 rfl (Or.inl rfl) (cat1 (by assumption))).trans rfl) ?_
  refine Go.aload (hb hby at_108) (pc' := 110) rfl rfl (by assumption) ?_
  refine Go.aload (hb hby at_110) (pc' := 112) rfl rfl p58_0 ?_
  refine Go.acmpN (hb hby at_112) (pc' := 115) rfl (by assumption) p58_0 (by simp [XT.acmp]) ?_
  refine Go.iconst (hb hby at_115) (pc' := 116) rfl (z := (1 : Int32)) rfl ?_
  refine Go.goto (hb hby at_116) (by decide) (pc' := 120) (by decide) ?_
  refine Go.istore (hb hby at_120) (pc' := 122) rfl (L' := #[.val (.int i0), .val (.int i1), .val (.int i2), .val (.int i3), .val (.int i4), .val (.int i5), .val (.ref a2), .val (.ref a23), .val (.ref a36), .val (.ref a47), .val v_58, .val v_59, .val v_60, .val v_58, .val (.int (1 : Int32)), .unset, .unset]) rfl ?_
  refine Go.aload (hb hby at_122) (pc' := 124) rfl rfl rfl ?_
  refine Go.aload (hb hby at_124) (pc' := 126) rfl rfl rfl ?_
  have f66 : Exa Z h65 a36 "com/example/bindery/bindery/Globals$Variable" := (f64.keep K65)
  have f67 : Fld Z h65 a36 "com/example/bindery/bindery/Globals$Variable" "value" "Ljava/lang/Object;" v_58 := (o63_0.keep K65 nin0)
  refine Go.callV (y0 := ⟨"com/example/bindery/bindery/Globals$Variable", "get", "(Lcom/example/bindery/bindery/Named;)Ljava/lang/Object;"⟩) (c_get (l := l) (nw := nw) g h65 a36 (.ref a47) v_58 rfl (by assumption) (by assumption) f66 f67 (by omega)) hown (wd_73 g) (wd_74 g) (notFace_of_selects (wd_76 g)) (wd_76 g) (wd_75 g) f66 (wd_77 g) (wd_32 g) (by decide) (argsL := [(.ref a47)]) (lenOf pd_17 rfl) rfl (by rw [hml]; rfl) (W := 0) rfl (hb hby at_126) (pc' := 129) rfl (by decide) (by decide) (by decide) (by decide) all0 ?_
  rintro _ vm68 h68 ⟨rfl, K68⟩ C68
  have z68 := K68.1
  -- pc 129
  refine Go.astore (hb hby at_129) (pc' := 131) rfl (by assumption) (L' := #[.val (.int i0), .val (.int i1), .val (.int i2), .val (.int i3), .val (.int i4), .val (.int i5), .val (.ref a2), .val (.ref a23), .val (.ref a36), .val (.ref a47), .val v_58, .val v_59, .val v_60, .val v_58, .val (.int (1 : Int32)), .val v_58, .unset]) ((XS.store1 rfl (Or.inl rfl) (cat1 (by assumption))).trans rfl) ?_
  refine Go.iload (hb hby at_131) (pc' := 133) rfl rfl ?_
  refine Go.ifN (hb hby at_133) (pc' := 136) rfl (show ¬ ((1 : Int32) = (0 : Int32)) from by decide) ?_
  refine Go.aload (hb hby at_136) (pc' := 138) rfl rfl (by assumption) ?_
  refine Go.aload (hb hby at_138) (pc' := 140) rfl rfl p58_0 ?_
  refine Go.acmpN (hb hby at_140) (pc' := 143) rfl (by assumption) p58_0 (by simp [XT.acmp]) ?_
  refine Go.iconst (hb hby at_143) (pc' := 144) rfl (z := (1 : Int32)) rfl ?_
  refine Go.goto (hb hby at_144) (by decide) (pc' := 148) (by decide) ?_
  refine Go.istore (hb hby at_148) (pc' := 150) rfl (L' := #[.val (.int i0), .val (.int i1), .val (.int i2), .val (.int i3), .val (.int i4), .val (.int i5), .val (.ref a2), .val (.ref a23), .val (.ref a36), .val (.ref a47), .val v_58, .val v_59, .val v_60, .val v_58, .val (.int (1 : Int32)), .val v_58, .unset]) rfl ?_
  refine Go.iloadN (hb hby at_150) (pc' := 151) rfl rfl ?_
  refine Go.bipush (hb hby at_151) (pc' := 153) rfl (z := (64 : Int32)) rfl ?_
  refine Go.iand (hb hby at_153) (pc' := 154) rfl ?_
  refine Go.ifc (hb hby at_154) (by decide) (pc' := 194) (by decide) (pc2 := 157) rfl (fun (q154 : (i3 &&& (64 : Int32)) = (0 : Int32)) => ?_) (fun (q154 : ¬ ((i3 &&& (64 : Int32)) = (0 : Int32))) => ?_)
  · refine Go.iloadN (hb hby at_194) (pc' := 195) rfl rfl ?_
    refine Go.sipush (hb hby at_195) (pc' := 198) rfl (z := (128 : Int32)) rfl ?_
    refine Go.iand (hb hby at_198) (pc' := 199) rfl ?_
    refine Go.ifc (hb hby at_199) (by decide) (pc' := 237) (by decide) (pc2 := 202) rfl (fun (q199 : (i3 &&& (128 : Int32)) = (0 : Int32)) => ?_) (fun (q199 : ¬ ((i3 &&& (128 : Int32)) = (0 : Int32))) => ?_)
    · refine Go.iload (hb hby at_237) (pc' := 239) rfl rfl ?_
      refine Go.retN (t := .boolean) hret (by simp) (hb hby at_239) (by decide) (by decide) ?_
      intro vmR CR
      exact ⟨(by first | rfl | (simp only [own_nar]; done) | (congr 2; done)), ((((((((((((((((Keep.refl h []).trans KE6 all0).trans K13 (allS (by first | (left; simp; done) | (right; omega)) all0)).trans K19 (allS (by first | (left; simp; done) | (right; omega)) all0)).trans KE26 all0).trans K34 (allS (by first | (left; simp; done) | (right; omega)) all0)).trans KE39 all0).trans K45 (allS (by first | (left; simp; done) | (right; omega)) all0)).trans KE50 all0).trans K57 (allS (by first | (left; simp; done) | (right; omega)) all0)).trans K58 all0).trans K59 all0).trans K60 all0).trans K63 (allS (by first | (left; simp; done) | (right; omega)) all0)).trans K65 all0).trans K68 all0)⟩
    · refine Go.aload (hb hby at_202) (pc' := 204) rfl rfl rfl ?_
      refine Go.aload (hb hby at_204) (pc' := 206) rfl rfl p60_0 ?_
      have f69 : Exa Z h68 a36 "com/example/bindery/bindery/Globals$Variable" := (f66.keep K68)
      have f70 : Fld Z h68 a36 "com/example/bindery/bindery/Globals$Variable" "value" "Ljava/lang/Object;" v_58 := (f67.keep K68 nin0)
      refine Go.callV (y0 := ⟨"com/example/bindery/bindery/Globals$Variable", "define", "(Ljava/lang/Object;)V"⟩) (c_define (l := l) (nw := nw) g h68 a36 v_60 v_58 p60_0 (by first | omega | assumption | decide) f69 f70 (by omega)) hown (wd_68 g) (wd_69 g) (notFace_of_selects (wd_71 g)) (wd_71 g) (wd_70 g) f69 (wd_72 g) (wd_32 g) (by decide) (argsL := [v_60]) (lenOf pd_16 rfl) rfl (by rw [hml]; rfl) (W := 0) rfl (hb hby at_206) (pc' := 209) rfl (by decide) (by decide) (by decide) (by decide) all0 ?_
      rintro _ vm71 h71 ⟨rfl, K71, o71_0⟩ C71
      have z71 := K71.1
      -- pc 209
      refine Go.aload (hb hby at_209) (pc' := 211) rfl rfl rfl ?_
      refine Go.aload (hb hby at_211) (pc' := 213) rfl rfl rfl ?_
      have f72 : Exa Z h71 a36 "com/example/bindery/bindery/Globals$Variable" := (f69.keep K71)
      refine Go.callV (y0 := ⟨"com/example/bindery/bindery/Globals$Variable", "get", "(Lcom/example/bindery/bindery/Named;)Ljava/lang/Object;"⟩) (c_get (l := l) (nw := nw) g h71 a36 (.ref a47) v_60 rfl (by assumption) (by assumption) f72 o71_0 (by omega)) hown (wd_73 g) (wd_74 g) (notFace_of_selects (wd_76 g)) (wd_76 g) (wd_75 g) f72 (wd_77 g) (wd_32 g) (by decide) (argsL := [(.ref a47)]) (lenOf pd_17 rfl) rfl (by rw [hml]; rfl) (W := 0) rfl (hb hby at_213) (pc' := 216) rfl (by decide) (by decide) (by decide) (by decide) all0 ?_
      rintro _ vm73 h73 ⟨rfl, K73⟩ C73
      have z73 := K73.1
      -- pc 216
      refine Go.astore (hb hby at_216) (pc' := 218) rfl (by assumption) (L' := #[.val (.int i0), .val (.int i1), .val (.int i2), .val (.int i3), .val (.int i4), .val (.int i5), .val (.ref a2), .val (.ref a23), .val (.ref a36), .val (.ref a47), .val v_58, .val v_59, .val v_60, .val v_58, .val (.int (1 : Int32)), .val v_58, .val v_60]) ((XS.store1 rfl (Or.inl rfl) (cat1 (by assumption))).trans rfl) ?_
      refine Go.iload (hb hby at_218) (pc' := 220) rfl rfl ?_
      refine Go.ifN (hb hby at_220) (pc' := 223) rfl (show ¬ ((1 : Int32) = (0 : Int32)) from by decide) ?_
      refine Go.aload (hb hby at_223) (pc' := 225) rfl rfl (by assumption) ?_
      refine Go.aload (hb hby at_225) (pc' := 227) rfl rfl p60_0 ?_
      refine Go.acmpN (hb hby at_227) (pc' := 230) rfl (by assumption) p60_0 (by simp [XT.acmp]) ?_
      refine Go.iconst (hb hby at_230) (pc' := 231) rfl (z := (1 : Int32)) rfl ?_
      refine Go.goto (hb hby at_231) (by decide) (pc' := 235) (by decide) ?_
      refine Go.istore (hb hby at_235) (pc' := 237) rfl (L' := #[.val (.int i0), .val (.int i1), .val (.int i2), .val (.int i3), .val (.int i4), .val (.int i5), .val (.ref a2), .val (.ref a23), .val (.ref a36), .val (.ref a47), .val v_58, .val v_59, .val v_60, .val v_58, .val (.int (1 : Int32)), .val v_58, .val v_60]) rfl ?_
      refine Go.iload (hb hby at_237) (pc' := 239) rfl rfl ?_
      refine Go.retN (t := .boolean) hret (by simp) (hb hby at_239) (by decide) (by decide) ?_
      intro vmR CR
      exact ⟨(by first | rfl | (simp only [own_nar]; done) | (congr 2; done)), ((((((((((((((((((Keep.refl h []).trans KE6 all0).trans K13 (allS (by first | (left; simp; done) | (right; omega)) all0)).trans K19 (allS (by first | (left; simp; done) | (right; omega)) all0)).trans KE26 all0).trans K34 (allS (by first | (left; simp; done) | (right; omega)) all0)).trans KE39 all0).trans K45 (allS (by first | (left; simp; done) | (right; omega)) all0)).trans KE50 all0).trans K57 (allS (by first | (left; simp; done) | (right; omega)) all0)).trans K58 all0).trans K59 all0).trans K60 all0).trans K63 (allS (by first | (left; simp; done) | (right; omega)) all0)).trans K65 all0).trans K68 all0).trans K71 (allS (by first | (left; simp; done) | (right; omega)) all0)).trans K73 all0)⟩
  · refine Go.aload (hb hby at_157) (pc' := 159) rfl rfl rfl ?_
    refine Go.aload (hb hby at_159) (pc' := 161) rfl rfl rfl ?_
    refine Go.aload (hb hby at_161) (pc' := 163) rfl rfl p59_0 ?_
    have f74 : Exa Z h68 a36 "com/example/bindery/bindery/Globals$Variable" := (f66.keep K68)
    have f75 : Fld Z h68 a36 "com/example/bindery/bindery/Globals$Variable" "value" "Ljava/lang/Object;" v_58 := (f67.keep K68 nin0)
    refine Go.callV (y0 := ⟨"com/example/bindery/bindery/Globals$Variable", "assign", "(Lcom/example/bindery/bindery/Named;Ljava/lang/Object;)V"⟩) (c_assign (l := l) (nw := nw) g h68 a36 (.ref a47) v_59 v_58 rfl p59_0 (by first | omega | assumption | decide) (by assumption) (by assumption) f74 f75 (by omega)) hown (wd_100 g) (wd_101 g) (notFace_of_selects (wd_103 g)) (wd_103 g) (wd_102 g) f74 (wd_104 g) (wd_32 g) (by decide) (argsL := [(.ref a47), v_59]) (lenOf pd_18 rfl) rfl (by rw [hml]; rfl) (W := 0) rfl (hb hby at_163) (pc' := 166) rfl (by decide) (by decide) (by decide) (by decide) all0 ?_
    rintro _ vm76 h76 ⟨rfl, K76, o76_0⟩ C76
    have z76 := K76.1
    -- pc 166
    refine Go.aload (hb hby at_166) (pc' := 168) rfl rfl rfl ?_
    refine Go.aload (hb hby at_168) (pc' := 170) rfl rfl rfl ?_
    have f77 : Exa Z h76 a36 "com/example/bindery/bindery/Globals$Variable" := (f74.keep K76)
    refine Go.callV (y0 := ⟨"com/example/bindery/bindery/Globals$Variable", "get", "(Lcom/example/bindery/bindery/Named;)Ljava/lang/Object;"⟩) (c_get (l := l) (nw := nw) g h76 a36 (.ref a47) v_59 rfl (by assumption) (by assumption) f77 o76_0 (by omega)) hown (wd_73 g) (wd_74 g) (notFace_of_selects (wd_76 g)) (wd_76 g) (wd_75 g) f77 (wd_77 g) (wd_32 g) (by decide) (argsL := [(.ref a47)]) (lenOf pd_17 rfl) rfl (by rw [hml]; rfl) (W := 0) rfl (hb hby at_170) (pc' := 173) rfl (by decide) (by decide) (by decide) (by decide) all0 ?_
    rintro _ vm78 h78 ⟨rfl, K78⟩ C78
    have z78 := K78.1
    -- pc 173
    refine Go.astore (hb hby at_173) (pc' := 175) rfl (by assumption) (L' := #[.val (.int i0), .val (.int i1), .val (.int i2), .val (.int i3), .val (.int i4), .val (.int i5), .val (.ref a2), .val (.ref a23), .val (.ref a36), .val (.ref a47), .val v_58, .val v_59, .val v_60, .val v_58, .val (.int (1 : Int32)), .val v_58, .val v_59]) ((XS.store1 rfl (Or.inl rfl) (cat1 (by assumption))).trans rfl) ?_
    refine Go.iload (hb hby at_175) (pc' := 177) rfl rfl ?_
    refine Go.ifN (hb hby at_177) (pc' := 180) rfl (show ¬ ((1 : Int32) = (0 : Int32)) from by decide) ?_
    refine Go.aload (hb hby at_180) (pc' := 182) rfl rfl (by assumption) ?_
    refine Go.aload (hb hby at_182) (pc' := 184) rfl rfl p59_0 ?_
    refine Go.acmpN (hb hby at_184) (pc' := 187) rfl (by assumption) p59_0 (by simp [XT.acmp]) ?_
    refine Go.iconst (hb hby at_187) (pc' := 188) rfl (z := (1 : Int32)) rfl ?_
    refine Go.goto (hb hby at_188) (by decide) (pc' := 192) (by decide) ?_
    refine Go.istore (hb hby at_192) (pc' := 194) rfl (L' := #[.val (.int i0), .val (.int i1), .val (.int i2), .val (.int i3), .val (.int i4), .val (.int i5), .val (.ref a2), .val (.ref a23), .val (.ref a36), .val (.ref a47), .val v_58, .val v_59, .val v_60, .val v_58, .val (.int (1 : Int32)), .val v_58, .val v_59]) rfl ?_
    refine Go.iloadN (hb hby at_194) (pc' := 195) rfl rfl ?_
    refine Go.sipush (hb hby at_195) (pc' := 198) rfl (z := (128 : Int32)) rfl ?_
    refine Go.iand (hb hby at_198) (pc' := 199) rfl ?_
    refine Go.ifc (hb hby at_199) (by decide) (pc' := 237) (by decide) (pc2 := 202) rfl (fun (q199 : (i3 &&& (128 : Int32)) = (0 : Int32)) => ?_) (fun (q199 : ¬ ((i3 &&& (128 : Int32)) = (0 : Int32))) => ?_)
    · refine Go.iload (hb hby at_237) (pc' := 239) rfl rfl ?_
      refine Go.retN (t := .boolean) hret (by simp) (hb hby at_239) (by decide) (by decide) ?_
      intro vmR CR
      exact ⟨(by first | rfl | (simp only [own_nar]; done) | (congr 2; done)), ((((((((((((((((((Keep.refl h []).trans KE6 all0).trans K13 (allS (by first | (left; simp; done) | (right; omega)) all0)).trans K19 (allS (by first | (left; simp; done) | (right; omega)) all0)).trans KE26 all0).trans K34 (allS (by first | (left; simp; done) | (right; omega)) all0)).trans KE39 all0).trans K45 (allS (by first | (left; simp; done) | (right; omega)) all0)).trans KE50 all0).trans K57 (allS (by first | (left; simp; done) | (right; omega)) all0)).trans K58 all0).trans K59 all0).trans K60 all0).trans K63 (allS (by first | (left; simp; done) | (right; omega)) all0)).trans K65 all0).trans K68 all0).trans K76 (allS (by first | (left; simp; done) | (right; omega)) all0)).trans K78 all0)⟩
    · refine Go.aload (hb hby at_202) (pc' := 204) rfl rfl rfl ?_
      refine Go.aload (hb hby at_204) (pc' := 206) rfl rfl p60_0 ?_
      have f79 : Exa Z h78 a36 "com/example/bindery/bindery/Globals$Variable" := (f77.keep K78)
      have f80 : Fld Z h78 a36 "com/example/bindery/bindery/Globals$Variable" "value" "Ljava/lang/Object;" v_59 := (o76_0.keep K78 nin0)
      refine Go.callV (y0 := ⟨"com/example/bindery/bindery/Globals$Variable", "define", "(Ljava/lang/Object;)V"⟩) (c_define (l := l) (nw := nw) g h78 a36 v_60 v_59 p60_0 (by first | omega | assumption | decide) f79 f80 (by omega)) hown (wd_68 g) (wd_69 g) (notFace_of_selects (wd_71 g)) (wd_71 g) (wd_70 g) f79 (wd_72 g) (wd_32 g) (by decide) (argsL := [v_60]) (lenOf pd_16 rfl) rfl (by rw [hml]; rfl) (W := 0) rfl (hb hby at_206) (pc' := 209) rfl (by decide) (by decide) (by decide) (by decide) all0 ?_
      rintro _ vm81 h81 ⟨rfl, K81, o81_0⟩ C81
      have z81 := K81.1
      -- pc 209
      refine Go.aload (hb hby at_209) (pc' := 211) rfl rfl rfl ?_
      refine Go.aload (hb hby at_211) (pc' := 213) rfl rfl rfl ?_
      have f82 : Exa Z h81 a36 "com/example/bindery/bindery/Globals$Variable" := (f79.keep K81)
      refine Go.callV (y0 := ⟨"com/example/bindery/bindery/Globals$Variable", "get", "(Lcom/example/bindery/bindery/Named;)Ljava/lang/Object;"⟩) (c_get (l := l) (nw := nw) g h81 a36 (.ref a47) v_60 rfl (by assumption) (by assumption) f82 o81_0 (by omega)) hown (wd_73 g) (wd_74 g) (notFace_of_selects (wd_76 g)) (wd_76 g) (wd_75 g) f82 (wd_77 g) (wd_32 g) (by decide) (argsL := [(.ref a47)]) (lenOf pd_17 rfl) rfl (by rw [hml]; rfl) (W := 0) rfl (hb hby at_213) (pc' := 216) rfl (by decide) (by decide) (by decide) (by decide) all0 ?_
      rintro _ vm83 h83 ⟨rfl, K83⟩ C83
      have z83 := K83.1
      -- pc 216
      refine Go.astore (hb hby at_216) (pc' := 218) rfl (by assumption) (L' := #[.val (.int i0), .val (.int i1), .val (.int i2), .val (.int i3), .val (.int i4), .val (.int i5), .val (.ref a2), .val (.ref a23), .val (.ref a36), .val (.ref a47), .val v_58, .val v_59, .val v_60, .val v_58, .val (.int (1 : Int32)), .val v_58, .val v_60]) ((XS.store1 rfl (Or.inr ⟨_, rfl, cat1 (by assumption)⟩) (cat1 (by assumption))).trans rfl) ?_
      refine Go.iload (hb hby at_218) (pc' := 220) rfl rfl ?_
      refine Go.ifN (hb hby at_220) (pc' := 223) rfl (show ¬ ((1 : Int32) = (0 : Int32)) from by decide) ?_
      refine Go.aload (hb hby at_223) (pc' := 225) rfl rfl (by assumption) ?_
      refine Go.aload (hb hby at_225) (pc' := 227) rfl rfl p60_0 ?_
      refine Go.acmpN (hb hby at_227) (pc' := 230) rfl (by assumption) p60_0 (by simp [XT.acmp]) ?_
      refine Go.iconst (hb hby at_230) (pc' := 231) rfl (z := (1 : Int32)) rfl ?_
      refine Go.goto (hb hby at_231) (by decide) (pc' := 235) (by decide) ?_
      refine Go.istore (hb hby at_235) (pc' := 237) rfl (L' := #[.val (.int i0), .val (.int i1), .val (.int i2), .val (.int i3), .val (.int i4), .val (.int i5), .val (.ref a2), .val (.ref a23), .val (.ref a36), .val (.ref a47), .val v_58, .val v_59, .val v_60, .val v_58, .val (.int (1 : Int32)), .val v_58, .val v_60]) rfl ?_
      refine Go.iload (hb hby at_237) (pc' := 239) rfl rfl ?_
      refine Go.retN (t := .boolean) hret (by simp) (hb hby at_239) (by decide) (by decide) ?_
      intro vmR CR
      exact ⟨(by first | rfl | (simp only [own_nar]; done) | (congr 2; done)), ((((((((((((((((((((Keep.refl h []).trans KE6 all0).trans K13 (allS (by first | (left; simp; done) | (right; omega)) all0)).trans K19 (allS (by first | (left; simp; done) | (right; omega)) all0)).trans KE26 all0).trans K34 (allS (by first | (left; simp; done) | (right; omega)) all0)).trans KE39 all0).trans K45 (allS (by first | (left; simp; done) | (right; omega)) all0)).trans KE50 all0).trans K57 (allS (by first | (left; simp; done) | (right; omega)) all0)).trans K58 all0).trans K59 all0).trans K60 all0).trans K63 (allS (by first | (left; simp; done) | (right; omega)) all0)).trans K65 all0).trans K68 all0).trans K76 (allS (by first | (left; simp; done) | (right; omega)) all0)).trans K78 all0).trans K81 (allS (by first | (left; simp; done) | (right; omega)) all0)).trans K83 all0)⟩
set_option maxRecDepth 65536 in
set_option maxHeartbeats 40000000 in
theorem comes_1 {Post : Tables → Env → Array Value → State → Outcome → State → Prop} (hpost : ∀ tb e args s v u, (limb_1_1.after args s (.returned v) u = true ∧ limb_1_2.after args s (.returned v) u = true ∧ True) → Jvm.D.Framed s (.returned v) u (Jvm.fieldLocs frame_1_writes args s ++ Jvm.arrayLocs frame_1_arrays args s ++ Jvm.staticLocs frame_1_statics s) 32 128 → Post tb e args s (.returned v) u) :
    ArmFor flags0 classFile x code maxLocals ret World_1 tables_1 room_1 Calls_1 rest_1 Pre_1 Post := by
  intro l hfl _ _ p e ha hc hk s m args below hf hA hF happ hP
  obtain ⟨hcalls, hrest, hpre⟩ := hP
  obtain ⟨-, -, -, hnamed, -, -, -, hat⟩ := (Spec.applies_iff hf).mp happ
  obtain ⟨hg, hn⟩ := and_e (Cond.before_iff.mp (show (Jvm.Cond.and given_1 narrow_1).before args s = true from hpre))
  obtain ⟨h1, g0⟩ := and_e hg
  obtain ⟨k0, g1⟩ := and_e g0
  obtain ⟨k1, g2⟩ := and_e g1
  obtain ⟨k2, g3⟩ := and_e g2
  obtain ⟨k3, g4⟩ := and_e g3
  obtain ⟨k4, g5⟩ := and_e g4
  have k5 := g5
  obtain ⟨w0, w1, w2, w3, w4, w5, rfl⟩ : ∃ w0 w1 w2 w3 w4 w5 : Value, args = #[w0, w1, w2, w3, w4, w5] := by
    have hs : args.size = 6 := by simpa [Cond.value, given_1] using h1
    obtain ⟨L⟩ := args
    match L, hs with
    | [w0, w1, w2, w3, w4, w5], _ => exact ⟨w0, w1, w2, w3, w4, w5, rfl⟩
  have hw := fun d (hd : d ∈ tables_1) => atoms_spec (ws := Jvm.Cond.code x code maxLocals ret :: tables_1) hat d (List.mem_cons_of_mem _ hd)
  obtain ⟨hsets, hown0⟩ := atoms_of _ (rest_1_c_eq ▸ (show rest_1_c.before _ s = true from hrest))
  have hfit : Fit s := fun {y c} hc i hi => by
    obtain ⟨ha, rfl⟩ := Array.getElem?_eq_some_iff.mp hc
    have q := List.all_eq_true.mp ((Array.all_eq_true_iff_forall_mem.mp hF) _ (Array.getElem_mem ha)) i (List.mem_range.mpr hi)
    simpa [Array.getElem?_eq_getElem hi] using q
  obtain ⟨i0, r0⟩ := is_v k0
  obtain rfl : w0 = (.int i0) := Option.some.inj r0
  obtain ⟨i1, r1⟩ := is_v k1
  obtain rfl : w1 = (.int i1) := Option.some.inj r1
  obtain ⟨i2, r2⟩ := is_v k2
  obtain rfl : w2 = (.int i2) := Option.some.inj r2
  obtain ⟨i3, r3⟩ := is_v k3
  obtain rfl : w3 = (.int i3) := Option.some.inj r3
  obtain ⟨i4, r4⟩ := is_v k4
  obtain rfl : w4 = (.int i4) := Option.some.inj r4
  obtain ⟨i5, r5⟩ := is_v k5
  obtain rfl : w5 = (.int i5) := Option.some.inj r5
  have n5 := not_v (Cond.before_iff.mp (hsets _ (List.mem_of_getElem? (i := 2) rfl)))
  obtain ⟨zc, e10⟩ := is_v (Cond.before_iff.mp (hsets _ (List.mem_of_getElem? (i := 1) rfl)))
  have S12 : Sta s s.heap "java/lang/String" "COMPACT_STRINGS" "Z" (.int zc) := Sta.start e10 (Or.inl (hsets _ (List.mem_of_getElem? (i := 0) rfl)))
  have c17 : ¬ (zc = (0 : Int32)) := gotF (Cond.eq_ints e10 (Term.int_eval (0))) n5
  obtain ⟨un, eu⟩ := exa_v hn
  have S20 : Sta s s.heap "com/example/bindery/bindery/Globals$Variable" "UNDEFINED" "Ljava/lang/Object;" (.ref un) := Sta.start eu (Or.inr ⟨(hw _ (List.mem_of_getElem? (i := 32) rfl)), (hw _ (List.mem_of_getElem? (i := 38) rfl))⟩)
  have X20 : Exa s s.heap un "java/lang/Object" := Exa.start eu hn
  have e21 := eqv_i (Term.int_eval 127) (Cond.before_iff.mp (hsets _ (List.mem_of_getElem? (i := 12) rfl)))
  have S21 : Sta s s.heap "java/lang/Integer$IntegerCache" "high" "I" (.int 127) := Sta.start e21 (Or.inl (hsets _ (List.mem_of_getElem? (i := 10) rfl)))
  obtain ⟨ca, ec⟩ := exa_v (Cond.before_iff.mp (hsets _ (List.mem_of_getElem? (i := 14) rfl)))
  have S22 : Sta s s.heap "java/lang/Integer$IntegerCache" "cache" "[Ljava/lang/Integer;" (.ref ca) := Sta.start ec (Or.inr ⟨(hw _ (List.mem_of_getElem? (i := 66) rfl)), (hsets _ (List.mem_of_getElem? (i := 11) rfl))⟩)
  obtain ⟨cc, A22⟩ := Arr.start ec (Cond.before_iff.mp (hsets _ (List.mem_of_getElem? (i := 13) rfl)))
  have e23 := eqv_i (Term.int_eval 256) (Cond.before_iff.mp (hsets _ (List.mem_of_getElem? (i := 15) rfl)))
  obtain ⟨b23, c23, t1, t2, t34⟩ := Jvm.Lib.length_spec e23
  have t3 := t34.1
  have t4 := t34.2
  cases ec.symm.trans t1
  cases t2.symm.trans (A22.fin (Vm.Alike.refl _))
  have t5 : cc.slots.size.toInt32 = 256 := (Value.int.inj t4).symm
  have B22 := Bxs.start (val := fun j => .int (j - 128)) (fun _ => ec) A22 t3 t5 (by decide) (Cond.before_iff.mp (hsets _ (List.mem_of_getElem? (i := 16) rfl))) (fun X j hj q => eqv_i (by simp [Term.eval, (back32 hj).1]) q)
  have hbox : ∀ i, i < 256 → ∃ x, cc.slots.toList[i]? = some (.ref x) ∧ Exa s s.heap x "java/lang/Integer" := fun i hi => by
    have q := clamp_nat (n := i) (by omega)
    have sz : cc.slots.size = 256 := by
      have := congrArg Int32.toInt t5
      rw [toInt_nat t3] at this
      have e0 : (256 : Int32).toInt = 256 := rfl
      omega
    obtain ⟨bx, u1, u2, -⟩ := B22.2.2.2 i.toInt32 (fun z => z.elim (nneg32 (by omega)) fun z => by omega)
    rw [q] at u1
    exact ⟨bx, by rw [Array.getElem?_toList]; exact u1, u2⟩
  obtain ⟨la, fc⟩ := exa_v (Cond.before_iff.mp (hsets _ (List.mem_of_getElem? (i := 20) rfl)))
  have S32 : Sta s s.heap "java/lang/Long$LongCache" "cache" "[Ljava/lang/Long;" (.ref la) := Sta.start fc (Or.inl (hsets _ (List.mem_of_getElem? (i := 18) rfl)))
  obtain ⟨cl, A32⟩ := Arr.start fc (Cond.before_iff.mp (hsets _ (List.mem_of_getElem? (i := 19) rfl)))
  have e33 := eqv_i (Term.int_eval 256) (Cond.before_iff.mp (hsets _ (List.mem_of_getElem? (i := 21) rfl)))
  obtain ⟨b33, c33, u1, u2, u34⟩ := Jvm.Lib.length_spec e33
  have u3 := u34.1
  have u4 := u34.2
  cases fc.symm.trans u1
  cases u2.symm.trans (A32.fin (Vm.Alike.refl _))
  have u5 : cl.slots.size.toInt32 = 256 := (Value.int.inj u4).symm
  have B32 := Bxs.start (val := fun j => .long (j - 128).toInt64) (fun _ => fc) A32 u3 u5 (by decide) (Cond.before_iff.mp (hsets _ (List.mem_of_getElem? (i := 22) rfl))) (fun X j hj q => eqv_l (by simp [Term.eval, Unary.apply, (back32 hj).1]) q)
  have hboxL : ∀ i, i < 256 → ∃ x, cl.slots.toList[i]? = some (.ref x) ∧ Exa s s.heap x "java/lang/Long" := fun i hi => by
    have q := clamp_nat (n := i) (by omega)
    have sz : cl.slots.size = 256 := by
      have := congrArg Int32.toInt u5
      rw [toInt_nat u3] at this
      have e0 : (256 : Int32).toInt = 256 := rfl
      omega
    obtain ⟨bx, v1, v2, -⟩ := B32.2.2.2 i.toInt32 (fun z => z.elim (nneg32 (by omega)) fun z => by omega)
    rw [q] at v1
    exact ⟨bx, by rw [Array.getElem?_toList]; exact v1, v2⟩
  have hCH : CHv s [] s.vm s.heap := fun _ hp => nomatch hp
  have hEL : EW s #[(.int i0), (.int i1), (.int i2), (.int i3), (.int i4), (.int i5)] [] := EW.nil
  obtain ⟨n, o, h1, h2, h3, v, L, rfl, N, ⟨rfl, -⟩, -, -, hH, hq⟩ := c_law (l := l) (nw := True) (EL := []) (zc := zc) (un := un) (ca := ca) (kc := cc.cls) (vs := cc.slots.toList) (la := la) (kl := cl.cls) (ls := cl.slots.toList) ⟨hw, hEL, trivial, trivial, S12, c17, S20, X20, S21, S22, ⟨cc, A22, rfl, rfl⟩, hbox, S32, ⟨cl, A32, rfl, rfl⟩, hboxL⟩ tables_1 s.heap i0 i1 i2 i3 i4 i5 (Nat.le_refl _) p e ha hc hk s m _ below hf ((Spec.applies_iff_loose hf).mp happ).1 ⟨rfl, State.Warmed39.refl s, rfl, hCH, ⟨Nat.le_refl _, fun _ _ q => q⟩, all0⟩ trivial
  refine ⟨n, _, h1, h2, h3, hpost _ _ _ _ _ _ ⟨Cond.after_iff.mpr rfl, Cond.after_iff.mpr (eq_i res_at (Term.int_eval (1)) rfl), trivial⟩ ?_⟩
  exact ⟨⟨_, rfl⟩, hH trivial, (hq.2.2.2.sift fun y hy => Or.inr (N y hy)).mono (by decide) (by decide)⟩
theorem main_1_1 : Claimed_1_1 := comes_1 fun _ _ _ _ _ _ h hF => ⟨h.1, hF⟩
theorem main_1_2 : Claimed_1_2 := comes_1 fun _ _ _ _ _ _ h hF => ⟨h.2.1, hF⟩
end Jvm.Pilot.@@N@@
namespace Jvm.Pilot.@@N@@
open Jvm Jvm.ClassFile Sem Op Lib Jvm.Free Jvm.Stand Jvm.Pilot.@@N@@.Jvm.D
/-! MADE BY PROGRAM (witnessworld.py) out of the Statement's table words and the real class files: 30 classes; the members and pool entries that the words name. The judged class is class 1, her method 2. -/
namespace start1
open Jvm.ClassFile
def u (s : String) : CpInfo := .utf8 (stringToUtf16 s)
/-- a pool by its gaps: so many unusable entries, then the entry; so many at the end -/
def gap : Nat → List CpInfo → List CpInfo
  | 0, r => r
  | n + 1, r => .unusable :: gap n r
def poolList (es : List (Nat × CpInfo)) (last : Nat) : List CpInfo := es.foldr (fun e r => gap e.1 (e.2 :: r)) (gap last [])
def pool (es : List (Nat × CpInfo)) (last : Nat) : Array CpInfo := ⟨poolList es last⟩
def fileOf (pool : Array CpInfo) (this : Nat) (attrs : Array Attribute := #[]) (ms : Array MethodInfo := #[]) (fl : Nat := 33) (sup : Nat := 0) (ifs : Array Nat := #[]) (fds : Array FieldInfo := #[]) : ClassFile where
  minorVersion := 0
  majorVersion := 65
  constantPool := pool
  accessFlags := fl
  thisClass := this
  superClass := sup
  interfaces := ifs
  fields := fds
  methods := ms
  attributes := attrs
def plain (name : String) (sup : Option ClassId) : Class where
  name := name
  kind := .ordinary
  loader := none
  accessFlags := 33
  super := sup
  interfaces := #[]
  cf := none
  fields := #[]
  methods := #[]
  instanceTypes := #[]
  staticTypes := #[]
  resolved := #[]
  callSites := []
  init := .initialized
  statics := none
  mirror := none

def pool0 : Array CpInfo := pool [(5, u "<init>"), (0, u "()V"), (1, .class_ 10), (1, u "java/lang/Object")] 113

def k0c0 : Code := { maxStack := 0, maxLocals := 1, code := object_method_1_code, exceptionTable := #[], attributes := #[] }
def k0m0 : Method := { name := "<init>", desc := "()V", sig := { parameters := [], returnType := none }, accessFlags := 1, code := some k0c0 }
/-- java/lang/Object -/
def k0 : Class := { plain "java/lang/Object" none with
  accessFlags := 33
  interfaces := #[]
  cf := some (fileOf pool0 8 #[] #[{ accessFlags := 1, nameIndex := 5, descriptorIndex := 6, attributes := #[] }] 33 0 #[] #[])
  fields := #[]
  methods := #[k0m0]
  instanceTypes := #[]
  staticTypes := #[]
  resolved := Array.replicate 124 none
  statics := none }

def pool1 : Array CpInfo := pool [(2, .class_ 4), (0, .nameAndType 5 6), (0, u "java/lang/Object"), (0, u "<init>"), (0, u "()V"), (0, .methodref 8 9), (0, .class_ 10), (0, .nameAndType 11 12), (0, u "java/lang/Integer"), (0, u "valueOf"), (0, u "(I)Ljava/lang/Integer;"), (0, .methodref 14 15), (0, .class_ 16), (0, .nameAndType 11 17), (0, u "java/lang/String"), (0, u "(C)Ljava/lang/String;"), (0, .methodref 19 20), (0, .class_ 21), (0, .nameAndType 11 22), (0, u "java/lang/Long"), (0, u "(J)Ljava/lang/Long;"), (0, .methodref 14 24), (0, .nameAndType 5 25), (0, u "([C)V"), (0, .class_ 27), (0, u "com/example/bindery/bindery/Globals$Variable"), (0, .methodref 26 3), (0, .class_ 30), (0, u "com/example/bindery/bindery/Expr$Variable"), (0, .methodref 29 32), (0, .nameAndType 5 33), (0, u "(Ljava/lang/String;I)V"), (0, .methodref 35 36), (0, .class_ 37), (0, .nameAndType 38 39), (0, u "com/example/bindery/bindery/VariableGetPinLaw"), (0, u "pick"), (0, u "(II)Ljava/lang/Object;"), (0, .methodref 26 41), (0, .nameAndType 42 43), (0, u "define"), (0, u "(Ljava/lang/Object;)V"), (0, .methodref 26 45), (0, .nameAndType 46 47), (0, u "get"), (0, u "(Lcom/example/bindery/bindery/Named;)Ljava/lang/Object;"), (0, .methodref 26 49), (0, .nameAndType 50 51), (0, u "assign"), (0, u "(Lcom/example/bindery/bindery/Named;Ljava/lang/Object;)V"), (3, u "law"), (0, u "(IIIIII)Z")] 10

def k1m0 : Method := { name := "<init>", desc := "()V", sig := { parameters := [], returnType := none }, accessFlags := 2, code := none }
def k1c1 : Code := { maxStack := 2, maxLocals := 3, code := method_2_code, exceptionTable := #[], attributes := #[] }
def k1m1 : Method := { name := "pick", desc := "(II)Ljava/lang/Object;", sig := { parameters := [.int, .int], returnType := some (.object "java/lang/Object") }, accessFlags := 10, code := some k1c1 }
def k1c2 : Code := { maxStack := 5, maxLocals := 17, code := code, exceptionTable := #[], attributes := #[] }
def k1m2 : Method := { name := "law", desc := "(IIIIII)Z", sig := { parameters := [.int, .int, .int, .int, .int, .int], returnType := some .boolean }, accessFlags := 9, code := some k1c2 }
/-- com/example/bindery/bindery/VariableGetPinLaw -/
def k1 : Class := { plain "com/example/bindery/bindery/VariableGetPinLaw" (some 0) with
  accessFlags := 49
  interfaces := #[]
  cf := some (fileOf pool1 35 #[] #[{ accessFlags := 2, nameIndex := 5, descriptorIndex := 6, attributes := #[] }, { accessFlags := 10, nameIndex := 38, descriptorIndex := 39, attributes := #[] }, { accessFlags := 9, nameIndex := 55, descriptorIndex := 56, attributes := #[] }] 49 2 #[] #[])
  fields := #[]
  methods := #[k1m0, k1m1, k1m2]
  instanceTypes := #[]
  staticTypes := #[]
  resolved := Array.replicate 67 none
  statics := none }

def pool2 : Array CpInfo := pool [(1, .class_ 2), (0, u "java/io/Serializable"), (0, .class_ 4), (0, u "java/lang/Object")] 2

/-- java/io/Serializable -/
def k2 : Class := { plain "java/io/Serializable" (some 0) with
  accessFlags := 1537
  interfaces := #[]
  cf := some (fileOf pool2 1 #[] #[] 1537 3 #[] #[])
  fields := #[]
  methods := #[]
  instanceTypes := #[]
  staticTypes := #[]
  resolved := Array.replicate 7 none
  statics := none }

def pool3 : Array CpInfo := pool [(1, .class_ 2), (0, u "java/lang/Comparable"), (0, .class_ 4), (0, u "java/lang/Object")] 7

/-- java/lang/Comparable -/
def k3 : Class := { plain "java/lang/Comparable" (some 0) with
  accessFlags := 1537
  interfaces := #[]
  cf := some (fileOf pool3 1 #[] #[] 1537 3 #[] #[])
  fields := #[]
  methods := #[]
  instanceTypes := #[]
  staticTypes := #[]
  resolved := Array.replicate 12 none
  statics := none }

def pool4 : Array CpInfo := pool [(2, .class_ 4), (1, u "java/lang/CharSequence"), (42, .class_ 48), (0, u "java/lang/CharSequence$1CodePointIterator"), (10, .class_ 60), (0, u "java/lang/CharSequence$1CharIterator"), (5, .class_ 67), (0, u "java/lang/Object")] 63

/-- java/lang/CharSequence -/
def k4 : Class := { plain "java/lang/CharSequence" (some 0) with
  accessFlags := 1537
  interfaces := #[]
  cf := some (fileOf pool4 2 #[.nestMembers #[47, 59]] #[] 1537 66 #[] #[])
  fields := #[]
  methods := #[]
  instanceTypes := #[]
  staticTypes := #[]
  resolved := Array.replicate 131 none
  statics := none }

def pool5 : Array CpInfo := pool [(1, .class_ 2), (0, u "java/lang/constant/Constable"), (0, .class_ 4), (0, u "java/lang/Object")] 6

/-- java/lang/constant/Constable -/
def k5 : Class := { plain "java/lang/constant/Constable" (some 0) with
  accessFlags := 1537
  interfaces := #[]
  cf := some (fileOf pool5 1 #[] #[] 1537 3 #[] #[])
  fields := #[]
  methods := #[]
  instanceTypes := #[]
  staticTypes := #[]
  resolved := Array.replicate 11 none
  statics := none }

def pool6 : Array CpInfo := pool [(1, .class_ 2), (0, u "java/lang/constant/ConstantDesc"), (0, .class_ 4), (0, u "java/lang/Object")] 32

/-- java/lang/constant/ConstantDesc -/
def k6 : Class := { plain "java/lang/constant/ConstantDesc" (some 0) with
  accessFlags := 1537
  interfaces := #[]
  cf := some (fileOf pool6 1 #[] #[] 1537 3 #[] #[])
  fields := #[]
  methods := #[]
  instanceTypes := #[]
  staticTypes := #[]
  resolved := Array.replicate 37 none
  statics := none }

def pool7 : Array CpInfo := pool [(1, .methodref 2 3), (0, .class_ 4), (0, .nameAndType 5 6), (0, u "java/lang/Object"), (0, u "<init>"), (0, u "()V"), (2, .fieldref 10 11), (0, .class_ 12), (0, .nameAndType 13 14), (0, u "java/lang/String"), (0, u "value"), (0, u "[B"), (0, .fieldref 10 16), (0, .nameAndType 17 18), (0, u "coder"), (0, u "B"), (2, u "hash"), (0, u "I"), (2, u "hashIsZero"), (0, u "Z"), (0, .methodref 10 28), (0, .nameAndType 5 29), (0, u "([CIILjava/lang/Void;)V"), (8, .fieldref 10 39), (0, .nameAndType 40 26), (0, u "COMPACT_STRINGS"), (1, .class_ 44), (1, u "java/lang/StringUTF16"), (0, u "compress"), (1, .methodref 42 48), (0, .nameAndType 49 50), (0, u "coderFromArrayLen"), (0, u "([BI)B"), (2, u "toBytes"), (53, .class_ 109), (1, u "java/lang/StringLatin1"), (67, .methodref 42 178), (0, .nameAndType 45 179), (0, u "([CII)[B"), (29, .methodref 10 210), (0, .nameAndType 5 211), (0, u "([BB)V"), (157, u "(C)Z"), (205, .class_ 576), (0, u "java/lang/CharSequence"), (22, u "CASE_INSENSITIVE_ORDER"), (0, u "Ljava/util/Comparator;"), (181, u "valueOf"), (0, u "(C)Ljava/lang/String;"), (226, u "([C)V"), (4, .methodref 107 1016), (0, .nameAndType 1017 369), (0, u "canEncode"), (0, .methodref 107 1019), (0, .nameAndType 53 1020), (0, u "(C)[B"), (80, u "serialPersistentFields"), (0, u "[Ljava/io/ObjectStreamField;"), (0, .class_ 1104), (0, u "java/lang/String$CaseInsensitiveComparator"), (1, .class_ 1107), (0, u "java/io/Serializable"), (0, .class_ 1109), (0, u "java/lang/Comparable"), (0, .class_ 1111), (0, u "java/lang/constant/Constable"), (0, .class_ 1113), (0, u "java/lang/constant/ConstantDesc"), (2, u "serialVersionUID"), (0, u "J"), (3, u "REPL"), (0, u "C"), (2, u "LATIN1"), (1, u "UTF16")] 323

def k7m0 : Method := { name := "<init>", desc := "()V", sig := { parameters := [], returnType := none }, accessFlags := 1, code := none }
def k7c1 : Code := { maxStack := 5, maxLocals := 2, code := jdk_42_method_3_code, exceptionTable := #[], attributes := #[] }
def k7m1 : Method := { name := "<init>", desc := "([C)V", sig := { parameters := [(.array .char)], returnType := none }, accessFlags := 1, code := some k7c1 }
def k7c2 : Code := { maxStack := 4, maxLocals := 1, code := jdk_42_method_139_code, exceptionTable := #[], attributes := #[] }
def k7m2 : Method := { name := "valueOf", desc := "(C)Ljava/lang/String;", sig := { parameters := [.char], returnType := some (.object "java/lang/String") }, accessFlags := 9, code := some k7c2 }
def k7c3 : Code := { maxStack := 4, maxLocals := 6, code := jdk_42_method_149_code, exceptionTable := #[], attributes := #[] }
def k7m3 : Method := { name := "<init>", desc := "([CIILjava/lang/Void;)V", sig := { parameters := [(.array .char), .int, .int, (.object "java/lang/Void")], returnType := none }, accessFlags := 2, code := some k7c3 }
def k7c4 : Code := { maxStack := 2, maxLocals := 3, code := jdk_42_method_151_code, exceptionTable := #[], attributes := #[] }
def k7m4 : Method := { name := "<init>", desc := "([BB)V", sig := { parameters := [(.array .byte), .byte], returnType := none }, accessFlags := 0, code := some k7c4 }
/-- java/lang/String -/
def k7 : Class := { plain "java/lang/String" (some 0) with
  accessFlags := 49
  interfaces := #[2, 3, 4, 5, 6]
  cf := some (fileOf pool7 10 #[.nestMembers #[1103]] #[{ accessFlags := 1, nameIndex := 5, descriptorIndex := 6, attributes := #[] }, { accessFlags := 1, nameIndex := 5, descriptorIndex := 1010, attributes := #[] }, { accessFlags := 9, nameIndex := 782, descriptorIndex := 783, attributes := #[] }, { accessFlags := 2, nameIndex := 5, descriptorIndex := 29, attributes := #[] }, { accessFlags := 0, nameIndex := 5, descriptorIndex := 211, attributes := #[] }] 49 2 #[1106, 1108, 575, 1110, 1112] #[{ accessFlags := 18, nameIndex := 13, descriptorIndex := 14, attributes := #[] }, { accessFlags := 18, nameIndex := 17, descriptorIndex := 18, attributes := #[] }, { accessFlags := 2, nameIndex := 21, descriptorIndex := 22, attributes := #[] }, { accessFlags := 2, nameIndex := 25, descriptorIndex := 26, attributes := #[] }, { accessFlags := 26, nameIndex := 1116, descriptorIndex := 1117, attributes := #[] }, { accessFlags := 24, nameIndex := 40, descriptorIndex := 26, attributes := #[] }, { accessFlags := 26, nameIndex := 1101, descriptorIndex := 1102, attributes := #[] }, { accessFlags := 26, nameIndex := 1121, descriptorIndex := 1122, attributes := #[] }, { accessFlags := 25, nameIndex := 599, descriptorIndex := 600, attributes := #[] }, { accessFlags := 24, nameIndex := 1125, descriptorIndex := 18, attributes := #[] }, { accessFlags := 24, nameIndex := 1127, descriptorIndex := 18, attributes := #[] }])
  fields := #[{ name := "value", type := (.array .byte), accessFlags := 18, slot := 0, constantValue := 0 }, { name := "coder", type := .byte, accessFlags := 18, slot := 1, constantValue := 0 }, { name := "hash", type := .int, accessFlags := 2, slot := 2, constantValue := 0 }, { name := "hashIsZero", type := .boolean, accessFlags := 2, slot := 3, constantValue := 0 }, { name := "serialVersionUID", type := .long, accessFlags := 26, slot := 0, constantValue := 0 }, { name := "COMPACT_STRINGS", type := .boolean, accessFlags := 24, slot := 1, constantValue := 0 }, { name := "serialPersistentFields", type := (.array (.object "java/io/ObjectStreamField")), accessFlags := 26, slot := 2, constantValue := 0 }, { name := "REPL", type := .char, accessFlags := 26, slot := 3, constantValue := 0 }, { name := "CASE_INSENSITIVE_ORDER", type := (.object "java/util/Comparator"), accessFlags := 25, slot := 4, constantValue := 0 }, { name := "LATIN1", type := .byte, accessFlags := 24, slot := 5, constantValue := 0 }, { name := "UTF16", type := .byte, accessFlags := 24, slot := 6, constantValue := 0 }]
  methods := #[k7m0, k7m1, k7m2, k7m3, k7m4]
  instanceTypes := #[(.array .byte), .byte, .int, .boolean]
  staticTypes := #[.long, .boolean, (.array (.object "java/io/ObjectStreamField")), .char, (.object "java/util/Comparator"), .byte, .byte]
  resolved := Array.replicate 1451 none
  statics := some 0 }

def pool8 : Array CpInfo := pool [(6, .class_ 8), (1, u "java/lang/Object"), (0, u "<init>"), (0, u "()V"), (1, .class_ 14), (1, u "java/lang/StringUTF16"), (31, u "$assertionsDisabled"), (0, u "Z"), (13, u "HI_BYTE_SHIFT"), (0, u "I"), (2, u "LO_BYTE_SHIFT"), (49, .methodref 12 116), (0, .nameAndType 117 118), (0, u "compress"), (0, u "([CI[BII)I"), (3, u "([CII)[B"), (138, u "coderFromArrayLen"), (0, u "([BI)B"), (106, .class_ 371), (1, u "java/lang/StringUTF16$LinesSpliterator"), (58, u "MAX_LENGTH"), (196, .class_ 628), (0, u "java/lang/StringUTF16$CodePointsSpliterator"), (0, .class_ 630), (0, u "java/lang/StringUTF16$CharsSpliterator")] 4

def k8m0 : Method := { name := "<init>", desc := "()V", sig := { parameters := [], returnType := none }, accessFlags := 0, code := none }
def k8c1 : Code := { maxStack := 2, maxLocals := 2, code := jdk_52_method_15_code, exceptionTable := #[], attributes := #[] }
def k8m1 : Method := { name := "coderFromArrayLen", desc := "([BI)B", sig := { parameters := [(.array .byte), .int], returnType := some .byte }, accessFlags := 8, code := some k8c1 }
def k8c2 : Code := { maxStack := 5, maxLocals := 6, code := jdk_52_method_16_code, exceptionTable := #[], attributes := #[] }
def k8m2 : Method := { name := "compress", desc := "([CII)[B", sig := { parameters := [(.array .char), .int, .int], returnType := some (.array .byte) }, accessFlags := 9, code := some k8c2 }
def k8c3 : Code := { maxStack := 3, maxLocals := 7, code := jdk_52_method_21_code, exceptionTable := #[], attributes := #[] }
def k8m3 : Method := { name := "compress", desc := "([CI[BII)I", sig := { parameters := [(.array .char), .int, (.array .byte), .int, .int], returnType := some .int }, accessFlags := 9, code := some k8c3 }
/-- java/lang/StringUTF16 -/
def k8 : Class := { plain "java/lang/StringUTF16" (some 0) with
  accessFlags := 48
  interfaces := #[]
  cf := some (fileOf pool8 12 #[.nestMembers #[627, 629, 369]] #[{ accessFlags := 0, nameIndex := 9, descriptorIndex := 10, attributes := #[] }, { accessFlags := 8, nameIndex := 261, descriptorIndex := 262, attributes := #[] }, { accessFlags := 9, nameIndex := 117, descriptorIndex := 122, attributes := #[] }, { accessFlags := 9, nameIndex := 117, descriptorIndex := 118, attributes := #[] }] 48 6 #[] #[{ accessFlags := 26, nameIndex := 61, descriptorIndex := 62, attributes := #[] }, { accessFlags := 26, nameIndex := 65, descriptorIndex := 62, attributes := #[] }, { accessFlags := 24, nameIndex := 430, descriptorIndex := 62, attributes := #[] }, { accessFlags := 4120, nameIndex := 46, descriptorIndex := 47, attributes := #[] }])
  fields := #[{ name := "HI_BYTE_SHIFT", type := .int, accessFlags := 26, slot := 0, constantValue := 0 }, { name := "LO_BYTE_SHIFT", type := .int, accessFlags := 26, slot := 1, constantValue := 0 }, { name := "MAX_LENGTH", type := .int, accessFlags := 24, slot := 2, constantValue := 0 }, { name := "$assertionsDisabled", type := .boolean, accessFlags := 4120, slot := 3, constantValue := 0 }]
  methods := #[k8m0, k8m1, k8m2, k8m3]
  instanceTypes := #[]
  staticTypes := #[.int, .int, .int, .boolean]
  resolved := Array.replicate 635 none
  statics := none }

def pool9 : Array CpInfo := pool [(1, .methodref 2 3), (0, .class_ 4), (0, .nameAndType 5 6), (0, u "java/lang/Object"), (0, u "<init>"), (0, u "()V"), (0, .fieldref 8 9), (0, .class_ 10), (0, .nameAndType 11 12), (0, u "com/example/bindery/bindery/Globals$Variable"), (0, u "UNDEFINED"), (0, u "Ljava/lang/Object;"), (0, .fieldref 8 14), (0, .nameAndType 15 12), (0, u "value"), (25, u "get"), (0, u "(Lcom/example/bindery/bindery/Named;)Ljava/lang/Object;"), (1, u "assign"), (0, u "(Lcom/example/bindery/bindery/Named;Ljava/lang/Object;)V"), (0, u "define"), (0, u "(Ljava/lang/Object;)V"), (4, .class_ 53), (0, u "com/example/bindery/bindery/Globals")] 16

def k9c0 : Code := { maxStack := 2, maxLocals := 1, code := prog_17_method_1_code, exceptionTable := #[], attributes := #[] }
def k9m0 : Method := { name := "<init>", desc := "()V", sig := { parameters := [], returnType := none }, accessFlags := 0, code := some k9c0 }
def k9c1 : Code := { maxStack := 2, maxLocals := 2, code := prog_17_method_2_code, exceptionTable := #[], attributes := #[] }
def k9m1 : Method := { name := "get", desc := "(Lcom/example/bindery/bindery/Named;)Ljava/lang/Object;", sig := { parameters := [(.object "com/example/bindery/bindery/Named")], returnType := some (.object "java/lang/Object") }, accessFlags := 0, code := some k9c1 }
def k9c2 : Code := { maxStack := 2, maxLocals := 3, code := prog_17_method_3_code, exceptionTable := #[], attributes := #[] }
def k9m2 : Method := { name := "assign", desc := "(Lcom/example/bindery/bindery/Named;Ljava/lang/Object;)V", sig := { parameters := [(.object "com/example/bindery/bindery/Named"), (.object "java/lang/Object")], returnType := none }, accessFlags := 0, code := some k9c2 }
def k9c3 : Code := { maxStack := 2, maxLocals := 2, code := prog_17_method_4_code, exceptionTable := #[], attributes := #[] }
def k9m3 : Method := { name := "define", desc := "(Ljava/lang/Object;)V", sig := { parameters := [(.object "java/lang/Object")], returnType := none }, accessFlags := 0, code := some k9c3 }
/-- com/example/bindery/bindery/Globals$Variable -/
def k9 : Class := { plain "com/example/bindery/bindery/Globals$Variable" (some 0) with
  accessFlags := 48
  interfaces := #[]
  cf := some (fileOf pool9 8 #[.nestHost 52] #[{ accessFlags := 0, nameIndex := 5, descriptorIndex := 6, attributes := #[] }, { accessFlags := 0, nameIndex := 41, descriptorIndex := 42, attributes := #[] }, { accessFlags := 0, nameIndex := 44, descriptorIndex := 45, attributes := #[] }, { accessFlags := 0, nameIndex := 46, descriptorIndex := 47, attributes := #[] }] 48 2 #[] #[{ accessFlags := 26, nameIndex := 11, descriptorIndex := 12, attributes := #[] }, { accessFlags := 2, nameIndex := 15, descriptorIndex := 12, attributes := #[] }])
  fields := #[{ name := "UNDEFINED", type := (.object "java/lang/Object"), accessFlags := 26, slot := 0, constantValue := 0 }, { name := "value", type := (.object "java/lang/Object"), accessFlags := 2, slot := 0, constantValue := 0 }]
  methods := #[k9m0, k9m1, k9m2, k9m3]
  instanceTypes := #[(.object "java/lang/Object")]
  staticTypes := #[(.object "java/lang/Object")]
  resolved := Array.replicate 70 none
  statics := some 1 }

def pool10 : Array CpInfo := pool [(1, .methodref 2 3), (0, .class_ 4), (0, .nameAndType 5 6), (0, u "java/lang/Object"), (0, u "<init>"), (0, u "()V"), (0, .fieldref 8 9), (0, .class_ 10), (0, .nameAndType 11 12), (0, u "com/example/bindery/bindery/Named"), (0, u "lexeme"), (0, u "Ljava/lang/String;"), (0, .fieldref 8 14), (0, .nameAndType 15 16), (0, u "line"), (0, u "I"), (13, u "global"), (0, u "Lcom/example/bindery/bindery/Globals$Variable;"), (2, u "depth"), (2, u "slot"), (0, u "(Ljava/lang/String;I)V")] 19

def k10c0 : Code := { maxStack := 2, maxLocals := 3, code := prog_25_method_1_code, exceptionTable := #[], attributes := #[] }
def k10m0 : Method := { name := "<init>", desc := "(Ljava/lang/String;I)V", sig := { parameters := [(.object "java/lang/String"), .int], returnType := none }, accessFlags := 0, code := some k10c0 }
/-- com/example/bindery/bindery/Named -/
def k10 : Class := { plain "com/example/bindery/bindery/Named" (some 0) with
  accessFlags := 1056
  interfaces := #[]
  cf := some (fileOf pool10 8 #[] #[{ accessFlags := 0, nameIndex := 5, descriptorIndex := 38, attributes := #[] }] 1056 2 #[] #[{ accessFlags := 18, nameIndex := 11, descriptorIndex := 12, attributes := #[] }, { accessFlags := 18, nameIndex := 15, descriptorIndex := 16, attributes := #[] }, { accessFlags := 2, nameIndex := 30, descriptorIndex := 31, attributes := #[] }, { accessFlags := 2, nameIndex := 34, descriptorIndex := 16, attributes := #[] }, { accessFlags := 2, nameIndex := 37, descriptorIndex := 16, attributes := #[] }])
  fields := #[{ name := "lexeme", type := (.object "java/lang/String"), accessFlags := 18, slot := 0, constantValue := 0 }, { name := "line", type := .int, accessFlags := 18, slot := 1, constantValue := 0 }, { name := "global", type := (.object "com/example/bindery/bindery/Globals$Variable"), accessFlags := 2, slot := 2, constantValue := 0 }, { name := "depth", type := .int, accessFlags := 2, slot := 3, constantValue := 0 }, { name := "slot", type := .int, accessFlags := 2, slot := 4, constantValue := 0 }]
  methods := #[k10m0]
  instanceTypes := #[(.object "java/lang/String"), .int, (.object "com/example/bindery/bindery/Globals$Variable"), .int, .int]
  staticTypes := #[]
  resolved := Array.replicate 58 none
  statics := none }

def pool11 : Array CpInfo := pool [(1, .class_ 2), (0, u "com/example/bindery/bindery/Expr"), (0, .class_ 4), (0, u "java/lang/Object"), (7, .class_ 13), (0, u "com/example/bindery/bindery/Expr$Call"), (0, .class_ 15), (0, u "com/example/bindery/bindery/Expr$Assign"), (0, .class_ 17), (0, u "com/example/bindery/bindery/Expr$Variable"), (0, .class_ 19), (0, u "com/example/bindery/bindery/Expr$Logical"), (0, .class_ 21), (0, u "com/example/bindery/bindery/Expr$Binary"), (0, .class_ 23), (0, u "com/example/bindery/bindery/Expr$Unary"), (0, .class_ 25), (0, u "com/example/bindery/bindery/Expr$Literal"), (0, .class_ 27), (0, u "com/example/bindery/bindery/Expr$Visitor")] 9

/-- com/example/bindery/bindery/Expr -/
def k11 : Class := { plain "com/example/bindery/bindery/Expr" (some 0) with
  accessFlags := 1536
  interfaces := #[]
  cf := some (fileOf pool11 1 #[.nestMembers #[12, 14, 16, 18, 20, 22, 24, 26]] #[] 1536 3 #[] #[])
  fields := #[]
  methods := #[]
  instanceTypes := #[]
  staticTypes := #[]
  resolved := Array.replicate 37 none
  statics := none }

def pool12 : Array CpInfo := pool [(1, .methodref 2 3), (0, .class_ 4), (0, .nameAndType 5 6), (0, u "com/example/bindery/bindery/Named"), (0, u "<init>"), (0, u "(Ljava/lang/String;I)V"), (6, .class_ 14), (0, u "com/example/bindery/bindery/Expr$Variable"), (0, .class_ 16), (0, u "com/example/bindery/bindery/Expr")] 12

def k12c0 : Code := { maxStack := 3, maxLocals := 3, code := prog_14_method_1_code, exceptionTable := #[], attributes := #[] }
def k12m0 : Method := { name := "<init>", desc := "(Ljava/lang/String;I)V", sig := { parameters := [(.object "java/lang/String"), .int], returnType := none }, accessFlags := 0, code := some k12c0 }
/-- com/example/bindery/bindery/Expr$Variable -/
def k12 : Class := { plain "com/example/bindery/bindery/Expr$Variable" (some 10) with
  accessFlags := 49
  interfaces := #[11]
  cf := some (fileOf pool12 13 #[.nestHost 15] #[{ accessFlags := 0, nameIndex := 5, descriptorIndex := 6, attributes := #[] }] 49 2 #[15] #[])
  fields := #[]
  methods := #[k12m0]
  instanceTypes := #[(.object "java/lang/String"), .int, (.object "com/example/bindery/bindery/Globals$Variable"), .int, .int]
  staticTypes := #[]
  resolved := Array.replicate 29 none
  statics := none }

def pool13 : Array CpInfo := pool [(1, .methodref 2 3), (0, .class_ 4), (0, .nameAndType 5 6), (0, u "java/lang/Object"), (0, u "<init>"), (0, u "()V"), (1, .class_ 10), (1, u "java/lang/Number"), (2, .class_ 14), (0, u "java/io/Serializable"), (0, u "serialVersionUID"), (0, u "J")] 20

def k13c0 : Code := { maxStack := 1, maxLocals := 1, code := jdk_18_method_1_code, exceptionTable := #[], attributes := #[] }
def k13m0 : Method := { name := "<init>", desc := "()V", sig := { parameters := [], returnType := none }, accessFlags := 1, code := some k13c0 }
/-- java/lang/Number -/
def k13 : Class := { plain "java/lang/Number" (some 0) with
  accessFlags := 1057
  interfaces := #[2]
  cf := some (fileOf pool13 8 #[] #[{ accessFlags := 1, nameIndex := 5, descriptorIndex := 6, attributes := #[] }] 1057 2 #[13] #[{ accessFlags := 26, nameIndex := 15, descriptorIndex := 16, attributes := #[] }])
  fields := #[{ name := "serialVersionUID", type := .long, accessFlags := 26, slot := 0, constantValue := 0 }]
  methods := #[k13m0]
  instanceTypes := #[]
  staticTypes := #[.long]
  resolved := Array.replicate 37 none
  statics := none }

def pool14 : Array CpInfo := pool [(1, .class_ 2), (0, u "java/lang/Integer"), (16, u "digits"), (0, u "[C"), (46, u "<init>"), (17, u "DigitOnes"), (0, u "[B"), (2, u "DigitTens"), (10, .nameAndType 67 101), (0, u "()V"), (85, u "valueOf"), (0, u "(I)Ljava/lang/Integer;"), (0, .class_ 190), (0, u "java/lang/Integer$IntegerCache"), (0, .fieldref 189 192), (0, .nameAndType 193 194), (0, u "high"), (0, u "I"), (0, .fieldref 189 196), (0, .nameAndType 197 198), (0, u "cache"), (0, u "[Ljava/lang/Integer;"), (0, .methodref 1 200), (0, .nameAndType 67 201), (0, u "(I)V"), (0, .methodref 203 100), (0, .class_ 204), (0, u "java/lang/Number"), (0, .fieldref 1 206), (0, .nameAndType 207 194), (0, u "value"), (94, u "TYPE"), (0, u "Ljava/lang/Class;"), (0, .class_ 305), (0, u "java/lang/Comparable"), (0, .class_ 307), (0, u "java/lang/constant/Constable"), (0, .class_ 309), (0, u "java/lang/constant/ConstantDesc"), (0, u "MIN_VALUE"), (1, u "MAX_VALUE"), (3, u "SIZE"), (1, u "BYTES"), (1, u "serialVersionUID"), (0, u "J")] 131

def k14c0 : Code := { maxStack := 3, maxLocals := 1, code := jdk_33_method_22_code, exceptionTable := #[], attributes := #[] }
def k14m0 : Method := { name := "valueOf", desc := "(I)Ljava/lang/Integer;", sig := { parameters := [.int], returnType := some (.object "java/lang/Integer") }, accessFlags := 9, code := some k14c0 }
def k14c1 : Code := { maxStack := 2, maxLocals := 2, code := jdk_33_method_23_code, exceptionTable := #[], attributes := #[] }
def k14m1 : Method := { name := "<init>", desc := "(I)V", sig := { parameters := [.int], returnType := none }, accessFlags := 1, code := some k14c1 }
/-- java/lang/Integer -/
def k14 : Class := { plain "java/lang/Integer" (some 13) with
  accessFlags := 49
  interfaces := #[3, 5, 6]
  cf := some (fileOf pool14 1 #[.nestMembers #[189]] #[{ accessFlags := 9, nameIndex := 187, descriptorIndex := 188, attributes := #[] }, { accessFlags := 1, nameIndex := 67, descriptorIndex := 201, attributes := #[] }] 49 203 #[304, 306, 308] #[{ accessFlags := 25, nameIndex := 310, descriptorIndex := 194, attributes := #[] }, { accessFlags := 25, nameIndex := 312, descriptorIndex := 194, attributes := #[] }, { accessFlags := 25, nameIndex := 302, descriptorIndex := 303, attributes := #[] }, { accessFlags := 24, nameIndex := 19, descriptorIndex := 20, attributes := #[] }, { accessFlags := 24, nameIndex := 89, descriptorIndex := 86, attributes := #[] }, { accessFlags := 24, nameIndex := 85, descriptorIndex := 86, attributes := #[] }, { accessFlags := 18, nameIndex := 207, descriptorIndex := 194, attributes := #[] }, { accessFlags := 25, nameIndex := 316, descriptorIndex := 194, attributes := #[] }, { accessFlags := 25, nameIndex := 318, descriptorIndex := 194, attributes := #[] }, { accessFlags := 26, nameIndex := 320, descriptorIndex := 321, attributes := #[] }])
  fields := #[{ name := "MIN_VALUE", type := .int, accessFlags := 25, slot := 0, constantValue := 0 }, { name := "MAX_VALUE", type := .int, accessFlags := 25, slot := 1, constantValue := 0 }, { name := "TYPE", type := (.object "java/lang/Class"), accessFlags := 25, slot := 2, constantValue := 0 }, { name := "digits", type := (.array .char), accessFlags := 24, slot := 3, constantValue := 0 }, { name := "DigitTens", type := (.array .byte), accessFlags := 24, slot := 4, constantValue := 0 }, { name := "DigitOnes", type := (.array .byte), accessFlags := 24, slot := 5, constantValue := 0 }, { name := "value", type := .int, accessFlags := 18, slot := 0, constantValue := 0 }, { name := "SIZE", type := .int, accessFlags := 25, slot := 6, constantValue := 0 }, { name := "BYTES", type := .int, accessFlags := 25, slot := 7, constantValue := 0 }, { name := "serialVersionUID", type := .long, accessFlags := 26, slot := 8, constantValue := 0 }]
  methods := #[k14m0, k14m1]
  instanceTypes := #[.int]
  staticTypes := #[.int, .int, (.object "java/lang/Class"), (.array .char), (.array .byte), (.array .byte), .int, .int, .long]
  resolved := Array.replicate 453 none
  statics := none }

def pool15 : Array CpInfo := pool [(2, .class_ 4), (1, u "java/lang/Object"), (0, u "<init>"), (0, u "()V"), (0, .class_ 8), (0, u "java/lang/Integer"), (7, .class_ 18), (1, u "java/lang/Integer$IntegerCache"), (0, u "$assertionsDisabled"), (0, u "Z"), (26, u "high"), (0, u "I"), (8, u "archivedCache"), (0, u "[Ljava/lang/Integer;"), (12, u "cache"), (0, u "low")] 27

def k15m0 : Method := { name := "<init>", desc := "()V", sig := { parameters := [], returnType := none }, accessFlags := 2, code := none }
/-- java/lang/Integer$IntegerCache -/
def k15 : Class := { plain "java/lang/Integer$IntegerCache" (some 0) with
  accessFlags := 48
  interfaces := #[]
  cf := some (fileOf pool15 16 #[.nestHost 7] #[{ accessFlags := 2, nameIndex := 5, descriptorIndex := 6, attributes := #[] }] 48 2 #[] #[{ accessFlags := 24, nameIndex := 72, descriptorIndex := 48, attributes := #[] }, { accessFlags := 24, nameIndex := 47, descriptorIndex := 48, attributes := #[] }, { accessFlags := 24, nameIndex := 71, descriptorIndex := 58, attributes := #[] }, { accessFlags := 8, nameIndex := 57, descriptorIndex := 58, attributes := #[] }, { accessFlags := 4120, nameIndex := 19, descriptorIndex := 20, attributes := #[] }])
  fields := #[{ name := "low", type := .int, accessFlags := 24, slot := 0, constantValue := 0 }, { name := "high", type := .int, accessFlags := 24, slot := 1, constantValue := 0 }, { name := "cache", type := (.array (.object "java/lang/Integer")), accessFlags := 24, slot := 2, constantValue := 0 }, { name := "archivedCache", type := (.array (.object "java/lang/Integer")), accessFlags := 8, slot := 3, constantValue := 0 }, { name := "$assertionsDisabled", type := .boolean, accessFlags := 4120, slot := 4, constantValue := 0 }]
  methods := #[k15m0]
  instanceTypes := #[]
  staticTypes := #[.int, .int, (.array (.object "java/lang/Integer")), (.array (.object "java/lang/Integer")), .boolean]
  resolved := Array.replicate 100 none
  statics := some 2 }

def pool16 : Array CpInfo := pool [(1, .class_ 2), (0, u "java/lang/Long"), (55, .nameAndType 59 60), (0, u "<init>"), (0, u "()V"), (24, u "valueOf"), (143, u "(J)Ljava/lang/Long;"), (0, .long 18446744073709551488), (1, .long 127), (1, .fieldref 235 236), (0, .class_ 237), (0, .nameAndType 238 239), (0, u "java/lang/Long$LongCache"), (0, u "cache"), (0, u "[Ljava/lang/Long;"), (0, .methodref 1 241), (0, .nameAndType 59 242), (0, u "(J)V"), (27, .methodref 271 58), (0, .class_ 272), (0, u "java/lang/Number"), (0, .fieldref 1 274), (0, .nameAndType 275 276), (0, u "value"), (0, u "J"), (84, u "TYPE"), (0, u "Ljava/lang/Class;"), (0, .class_ 364), (0, u "java/lang/Comparable"), (0, .class_ 366), (0, u "java/lang/constant/Constable"), (0, .class_ 368), (0, u "java/lang/constant/ConstantDesc"), (0, u "MIN_VALUE"), (1, u "MAX_VALUE"), (4, u "SIZE"), (0, u "I"), (1, u "BYTES"), (1, u "serialVersionUID")] 142

def k16c0 : Code := { maxStack := 4, maxLocals := 3, code := jdk_35_method_24_code, exceptionTable := #[], attributes := #[] }
def k16m0 : Method := { name := "valueOf", desc := "(J)Ljava/lang/Long;", sig := { parameters := [.long], returnType := some (.object "java/lang/Long") }, accessFlags := 9, code := some k16c0 }
def k16c1 : Code := { maxStack := 3, maxLocals := 3, code := jdk_35_method_26_code, exceptionTable := #[], attributes := #[] }
def k16m1 : Method := { name := "<init>", desc := "(J)V", sig := { parameters := [.long], returnType := none }, accessFlags := 1, code := some k16c1 }
/-- java/lang/Long -/
def k16 : Class := { plain "java/lang/Long" (some 13) with
  accessFlags := 49
  interfaces := #[3, 5, 6]
  cf := some (fileOf pool16 1 #[.nestMembers #[235]] #[{ accessFlags := 9, nameIndex := 85, descriptorIndex := 229, attributes := #[] }, { accessFlags := 1, nameIndex := 59, descriptorIndex := 242, attributes := #[] }] 49 271 #[363, 365, 367] #[{ accessFlags := 25, nameIndex := 369, descriptorIndex := 276, attributes := #[] }, { accessFlags := 25, nameIndex := 371, descriptorIndex := 276, attributes := #[] }, { accessFlags := 25, nameIndex := 361, descriptorIndex := 362, attributes := #[] }, { accessFlags := 18, nameIndex := 275, descriptorIndex := 276, attributes := #[] }, { accessFlags := 25, nameIndex := 376, descriptorIndex := 377, attributes := #[] }, { accessFlags := 25, nameIndex := 379, descriptorIndex := 377, attributes := #[] }, { accessFlags := 26, nameIndex := 381, descriptorIndex := 276, attributes := #[] }])
  fields := #[{ name := "MIN_VALUE", type := .long, accessFlags := 25, slot := 0, constantValue := 0 }, { name := "MAX_VALUE", type := .long, accessFlags := 25, slot := 1, constantValue := 0 }, { name := "TYPE", type := (.object "java/lang/Class"), accessFlags := 25, slot := 2, constantValue := 0 }, { name := "value", type := .long, accessFlags := 18, slot := 0, constantValue := 0 }, { name := "SIZE", type := .int, accessFlags := 25, slot := 3, constantValue := 0 }, { name := "BYTES", type := .int, accessFlags := 25, slot := 4, constantValue := 0 }, { name := "serialVersionUID", type := .long, accessFlags := 26, slot := 5, constantValue := 0 }]
  methods := #[k16m0, k16m1]
  instanceTypes := #[.long]
  staticTypes := #[.long, .long, (.object "java/lang/Class"), .int, .int, .long]
  resolved := Array.replicate 524 none
  statics := none }

def pool17 : Array CpInfo := pool [(2, .class_ 4), (1, u "java/lang/Object"), (0, u "<init>"), (0, u "()V"), (0, .class_ 8), (0, u "java/lang/Long"), (7, .class_ 18), (1, u "java/lang/Long$LongCache"), (0, u "$assertionsDisabled"), (0, u "Z"), (8, u "archivedCache"), (0, u "[Ljava/lang/Long;"), (7, u "cache")] 24

def k17m0 : Method := { name := "<init>", desc := "()V", sig := { parameters := [], returnType := none }, accessFlags := 2, code := none }
/-- java/lang/Long$LongCache -/
def k17 : Class := { plain "java/lang/Long$LongCache" (some 0) with
  accessFlags := 48
  interfaces := #[]
  cf := some (fileOf pool17 16 #[.nestHost 7] #[{ accessFlags := 2, nameIndex := 5, descriptorIndex := 6, attributes := #[] }] 48 2 #[] #[{ accessFlags := 24, nameIndex := 38, descriptorIndex := 30, attributes := #[] }, { accessFlags := 8, nameIndex := 29, descriptorIndex := 30, attributes := #[] }, { accessFlags := 4120, nameIndex := 19, descriptorIndex := 20, attributes := #[] }])
  fields := #[{ name := "cache", type := (.array (.object "java/lang/Long")), accessFlags := 24, slot := 0, constantValue := 0 }, { name := "archivedCache", type := (.array (.object "java/lang/Long")), accessFlags := 8, slot := 1, constantValue := 0 }, { name := "$assertionsDisabled", type := .boolean, accessFlags := 4120, slot := 2, constantValue := 0 }]
  methods := #[k17m0]
  instanceTypes := #[]
  staticTypes := #[(.array (.object "java/lang/Long")), (.array (.object "java/lang/Long")), .boolean]
  resolved := Array.replicate 63 none
  statics := some 3 }

def pool18 : Array CpInfo := pool [(4, .class_ 6), (1, u "java/lang/Object"), (0, u "<init>"), (0, u "()V"), (5, .class_ 16), (1, u "java/lang/StringLatin1"), (73, u "canEncode"), (14, u "(C)Z"), (15, u "$assertionsDisabled"), (0, u "Z"), (98, .class_ 223), (1, u "java/lang/StringLatin1$LinesSpliterator"), (156, u "toBytes"), (1, u "(C)[B"), (7, .class_ 391), (0, u "java/lang/StringLatin1$CharsSpliterator")] 3

def k18m0 : Method := { name := "<init>", desc := "()V", sig := { parameters := [], returnType := none }, accessFlags := 0, code := none }
def k18c1 : Code := { maxStack := 2, maxLocals := 1, code := jdk_43_method_3_code, exceptionTable := #[], attributes := #[] }
def k18m1 : Method := { name := "canEncode", desc := "(C)Z", sig := { parameters := [.char], returnType := some .boolean }, accessFlags := 9, code := some k18c1 }
def k18c2 : Code := { maxStack := 4, maxLocals := 1, code := jdk_43_method_46_code, exceptionTable := #[], attributes := #[] }
def k18m2 : Method := { name := "toBytes", desc := "(C)[B", sig := { parameters := [.char], returnType := some (.array .byte) }, accessFlags := 9, code := some k18c2 }
/-- java/lang/StringLatin1 -/
def k18 : Class := { plain "java/lang/StringLatin1" (some 0) with
  accessFlags := 48
  interfaces := #[]
  cf := some (fileOf pool18 14 #[.nestMembers #[390, 221]] #[{ accessFlags := 0, nameIndex := 7, descriptorIndex := 8, attributes := #[] }, { accessFlags := 9, nameIndex := 90, descriptorIndex := 105, attributes := #[] }, { accessFlags := 9, nameIndex := 380, descriptorIndex := 382, attributes := #[] }] 48 4 #[] #[{ accessFlags := 4120, nameIndex := 121, descriptorIndex := 122, attributes := #[] }])
  fields := #[{ name := "$assertionsDisabled", type := .boolean, accessFlags := 4120, slot := 0, constantValue := 0 }]
  methods := #[k18m0, k18m1, k18m2]
  instanceTypes := #[]
  staticTypes := #[.boolean]
  resolved := Array.replicate 395 none
  statics := none }

def pool19 : Array CpInfo := pool [(2, .class_ 4), (1, u "java/lang/Object"), (0, u "<init>"), (0, u "()V"), (17, .class_ 26), (1, u "jdk/internal/util/Preconditions"), (28, .class_ 56), (0, u "jdk/internal/util/Preconditions$4"), (57, .class_ 115), (0, u "jdk/internal/util/Preconditions$1"), (7, u "SIOOBE_FORMATTER"), (0, u "Ljava/util/function/BiFunction;"), (0, .class_ 126), (0, u "jdk/internal/util/Preconditions$2"), (3, u "AIOOBE_FORMATTER"), (0, .class_ 132), (0, u "jdk/internal/util/Preconditions$3"), (3, u "IOOBE_FORMATTER")] 57

def k19m0 : Method := { name := "<init>", desc := "()V", sig := { parameters := [], returnType := none }, accessFlags := 1, code := none }
/-- jdk/internal/util/Preconditions -/
def k19 : Class := { plain "jdk/internal/util/Preconditions" (some 0) with
  accessFlags := 33
  interfaces := #[]
  cf := some (fileOf pool19 24 #[.nestMembers #[55, 131, 125, 114]] #[{ accessFlags := 1, nameIndex := 5, descriptorIndex := 6, attributes := #[] }] 33 2 #[] #[{ accessFlags := 25, nameIndex := 123, descriptorIndex := 124, attributes := #[] }, { accessFlags := 25, nameIndex := 130, descriptorIndex := 124, attributes := #[] }, { accessFlags := 25, nameIndex := 136, descriptorIndex := 124, attributes := #[] }])
  fields := #[{ name := "SIOOBE_FORMATTER", type := (.object "java/util/function/BiFunction"), accessFlags := 25, slot := 0, constantValue := 0 }, { name := "AIOOBE_FORMATTER", type := (.object "java/util/function/BiFunction"), accessFlags := 25, slot := 1, constantValue := 0 }, { name := "IOOBE_FORMATTER", type := (.object "java/util/function/BiFunction"), accessFlags := 25, slot := 2, constantValue := 0 }]
  methods := #[k19m0]
  instanceTypes := #[]
  staticTypes := #[(.object "java/util/function/BiFunction"), (.object "java/util/function/BiFunction"), (.object "java/util/function/BiFunction")]
  resolved := Array.replicate 194 none
  statics := some 4 }

def pool20 : Array CpInfo := pool [(9, u "<init>"), (6, .class_ 18), (1, u "java/lang/Object"), (0, u "()V"), (1, .class_ 23), (1, u "jdk/internal/util/ArraysSupport"), (0, u "LOG2_ARRAY_LONG_INDEX_SCALE"), (0, u "I"), (2, u "U"), (0, u "Ljdk/internal/misc/Unsafe;"), (8, u "BIG_ENDIAN"), (0, u "Z"), (8, u "LOG2_BYTE_BIT_SIZE"), (4, u "LOG2_ARRAY_INT_INDEX_SCALE"), (54, u "JLA"), (0, u "Ljdk/internal/access/JavaLangAccess;"), (11, u "LOG2_ARRAY_BOOLEAN_INDEX_SCALE"), (9, u "LOG2_ARRAY_BYTE_INDEX_SCALE"), (5, u "LOG2_ARRAY_CHAR_INDEX_SCALE"), (5, u "LOG2_ARRAY_SHORT_INDEX_SCALE"), (18, u "LOG2_ARRAY_FLOAT_INDEX_SCALE"), (24, u "LOG2_ARRAY_DOUBLE_INDEX_SCALE"), (89, u "T_BOOLEAN"), (2, u "T_CHAR"), (1, u "T_FLOAT"), (1, u "T_DOUBLE"), (1, u "T_BYTE"), (1, u "T_SHORT"), (1, u "T_INT"), (1, u "T_LONG"), (1, u "SOFT_MAX_ARRAY_LENGTH")] 83

def k20m0 : Method := { name := "<init>", desc := "()V", sig := { parameters := [], returnType := none }, accessFlags := 2, code := none }
/-- jdk/internal/util/ArraysSupport -/
def k20 : Class := { plain "jdk/internal/util/ArraysSupport" (some 0) with
  accessFlags := 33
  interfaces := #[]
  cf := some (fileOf pool20 21 #[] #[{ accessFlags := 2, nameIndex := 9, descriptorIndex := 19, attributes := #[] }] 33 16 #[] #[{ accessFlags := 24, nameIndex := 28, descriptorIndex := 29, attributes := #[] }, { accessFlags := 26, nameIndex := 38, descriptorIndex := 39, attributes := #[] }, { accessFlags := 25, nameIndex := 121, descriptorIndex := 25, attributes := #[] }, { accessFlags := 25, nameIndex := 131, descriptorIndex := 25, attributes := #[] }, { accessFlags := 25, nameIndex := 137, descriptorIndex := 25, attributes := #[] }, { accessFlags := 25, nameIndex := 143, descriptorIndex := 25, attributes := #[] }, { accessFlags := 25, nameIndex := 53, descriptorIndex := 25, attributes := #[] }, { accessFlags := 25, nameIndex := 24, descriptorIndex := 25, attributes := #[] }, { accessFlags := 25, nameIndex := 162, descriptorIndex := 25, attributes := #[] }, { accessFlags := 25, nameIndex := 187, descriptorIndex := 25, attributes := #[] }, { accessFlags := 26, nameIndex := 48, descriptorIndex := 25, attributes := #[] }, { accessFlags := 25, nameIndex := 277, descriptorIndex := 25, attributes := #[] }, { accessFlags := 25, nameIndex := 280, descriptorIndex := 25, attributes := #[] }, { accessFlags := 25, nameIndex := 282, descriptorIndex := 25, attributes := #[] }, { accessFlags := 25, nameIndex := 284, descriptorIndex := 25, attributes := #[] }, { accessFlags := 25, nameIndex := 286, descriptorIndex := 25, attributes := #[] }, { accessFlags := 25, nameIndex := 288, descriptorIndex := 25, attributes := #[] }, { accessFlags := 25, nameIndex := 290, descriptorIndex := 25, attributes := #[] }, { accessFlags := 25, nameIndex := 292, descriptorIndex := 25, attributes := #[] }, { accessFlags := 26, nameIndex := 108, descriptorIndex := 109, attributes := #[] }, { accessFlags := 25, nameIndex := 294, descriptorIndex := 25, attributes := #[] }])
  fields := #[{ name := "U", type := (.object "jdk/internal/misc/Unsafe"), accessFlags := 24, slot := 0, constantValue := 0 }, { name := "BIG_ENDIAN", type := .boolean, accessFlags := 26, slot := 1, constantValue := 0 }, { name := "LOG2_ARRAY_BOOLEAN_INDEX_SCALE", type := .int, accessFlags := 25, slot := 2, constantValue := 0 }, { name := "LOG2_ARRAY_BYTE_INDEX_SCALE", type := .int, accessFlags := 25, slot := 3, constantValue := 0 }, { name := "LOG2_ARRAY_CHAR_INDEX_SCALE", type := .int, accessFlags := 25, slot := 4, constantValue := 0 }, { name := "LOG2_ARRAY_SHORT_INDEX_SCALE", type := .int, accessFlags := 25, slot := 5, constantValue := 0 }, { name := "LOG2_ARRAY_INT_INDEX_SCALE", type := .int, accessFlags := 25, slot := 6, constantValue := 0 }, { name := "LOG2_ARRAY_LONG_INDEX_SCALE", type := .int, accessFlags := 25, slot := 7, constantValue := 0 }, { name := "LOG2_ARRAY_FLOAT_INDEX_SCALE", type := .int, accessFlags := 25, slot := 8, constantValue := 0 }, { name := "LOG2_ARRAY_DOUBLE_INDEX_SCALE", type := .int, accessFlags := 25, slot := 9, constantValue := 0 }, { name := "LOG2_BYTE_BIT_SIZE", type := .int, accessFlags := 26, slot := 10, constantValue := 0 }, { name := "T_BOOLEAN", type := .int, accessFlags := 25, slot := 11, constantValue := 0 }, { name := "T_CHAR", type := .int, accessFlags := 25, slot := 12, constantValue := 0 }, { name := "T_FLOAT", type := .int, accessFlags := 25, slot := 13, constantValue := 0 }, { name := "T_DOUBLE", type := .int, accessFlags := 25, slot := 14, constantValue := 0 }, { name := "T_BYTE", type := .int, accessFlags := 25, slot := 15, constantValue := 0 }, { name := "T_SHORT", type := .int, accessFlags := 25, slot := 16, constantValue := 0 }, { name := "T_INT", type := .int, accessFlags := 25, slot := 17, constantValue := 0 }, { name := "T_LONG", type := .int, accessFlags := 25, slot := 18, constantValue := 0 }, { name := "JLA", type := (.object "jdk/internal/access/JavaLangAccess"), accessFlags := 26, slot := 19, constantValue := 0 }, { name := "SOFT_MAX_ARRAY_LENGTH", type := .int, accessFlags := 25, slot := 20, constantValue := 0 }]
  methods := #[k20m0]
  instanceTypes := #[]
  staticTypes := #[(.object "jdk/internal/misc/Unsafe"), .boolean, .int, .int, .int, .int, .int, .int, .int, .int, .int, .int, .int, .int, .int, .int, .int, .int, .int, (.object "jdk/internal/access/JavaLangAccess"), .int]
  resolved := Array.replicate 378 none
  statics := none }

def pool21 : Array CpInfo := pool [(1, u "java/lang/Cloneable"), (0, .class_ 1), (0, u "java/lang/Object"), (0, .class_ 3)] 3

/-- java/lang/Cloneable -/
def k21 : Class := { plain "java/lang/Cloneable" (some 0) with
  accessFlags := 1537
  interfaces := #[]
  cf := some (fileOf pool21 2 #[] #[] 1537 4 #[] #[])
  fields := #[]
  methods := #[]
  instanceTypes := #[]
  staticTypes := #[]
  resolved := Array.replicate 8 none
  statics := none }

/-- the primitive byte -/
def k22 : Class := { plain "byte" none with kind := .primitive 'B', accessFlags := 0x411 }
/-- [B -/
def k23 : Class := { plain "[B" (some 0) with kind := .array 22 .byte, interfaces := #[21, 2], accessFlags := 1041 }

/-- the primitive char -/
def k24 : Class := { plain "char" none with kind := .primitive 'C', accessFlags := 0x411 }
/-- [C -/
def k25 : Class := { plain "[C" (some 0) with kind := .array 24 .char, interfaces := #[21, 2], accessFlags := 1041 }

/-- the primitive int -/
def k26 : Class := { plain "int" none with kind := .primitive 'I', accessFlags := 0x411 }
/-- [I -/
def k27 : Class := { plain "[I" (some 0) with kind := .array 26 .int, interfaces := #[21, 2], accessFlags := 1041 }

/-- [Ljava/lang/Integer; -/
def k28 : Class := { plain "[Ljava/lang/Integer;" (some 0) with kind := .array 14 (.object "java/lang/Integer"), interfaces := #[21, 2], accessFlags := 1041 }

/-- [Ljava/lang/Long; -/
def k29 : Class := { plain "[Ljava/lang/Long;" (some 0) with kind := .array 16 (.object "java/lang/Long"), interfaces := #[21, 2], accessFlags := 1041 }

def heap : Heap := #[{ cls := 7, slots := #[.long 0, .int 1, .null, .int 0, .null, .int 0, .int 0], vm := .statics 7 },
  { cls := 9, slots := #[.ref 519], vm := .statics 9 },
  { cls := 15, slots := #[.int 0, .int 127, .ref 5, .null, .int 0], vm := .statics 15 },
  { cls := 17, slots := #[.ref 6, .null, .int 0], vm := .statics 17 },
  { cls := 19, slots := #[.null, .null, .null], vm := .statics 19 },
  { cls := 28, slots := #[.ref 7, .ref 8, .ref 9, .ref 10, .ref 11, .ref 12, .ref 13, .ref 14, .ref 15, .ref 16, .ref 17, .ref 18, .ref 19, .ref 20, .ref 21, .ref 22, .ref 23, .ref 24, .ref 25, .ref 26, .ref 27, .ref 28, .ref 29, .ref 30, .ref 31, .ref 32, .ref 33, .ref 34, .ref 35, .ref 36, .ref 37, .ref 38, .ref 39, .ref 40, .ref 41, .ref 42, .ref 43, .ref 44, .ref 45, .ref 46, .ref 47, .ref 48, .ref 49, .ref 50, .ref 51, .ref 52, .ref 53, .ref 54, .ref 55, .ref 56, .ref 57, .ref 58, .ref 59, .ref 60, .ref 61, .ref 62, .ref 63, .ref 64, .ref 65, .ref 66, .ref 67, .ref 68, .ref 69, .ref 70, .ref 71, .ref 72, .ref 73, .ref 74, .ref 75, .ref 76, .ref 77, .ref 78, .ref 79, .ref 80, .ref 81, .ref 82, .ref 83, .ref 84, .ref 85, .ref 86, .ref 87, .ref 88, .ref 89, .ref 90, .ref 91, .ref 92, .ref 93, .ref 94, .ref 95, .ref 96, .ref 97, .ref 98, .ref 99, .ref 100, .ref 101, .ref 102, .ref 103, .ref 104, .ref 105, .ref 106, .ref 107, .ref 108, .ref 109, .ref 110, .ref 111, .ref 112, .ref 113, .ref 114, .ref 115, .ref 116, .ref 117, .ref 118, .ref 119, .ref 120, .ref 121, .ref 122, .ref 123, .ref 124, .ref 125, .ref 126, .ref 127, .ref 128, .ref 129, .ref 130, .ref 131, .ref 132, .ref 133, .ref 134, .ref 135, .ref 136, .ref 137, .ref 138, .ref 139, .ref 140, .ref 141, .ref 142, .ref 143, .ref 144, .ref 145, .ref 146, .ref 147, .ref 148, .ref 149, .ref 150, .ref 151, .ref 152, .ref 153, .ref 154, .ref 155, .ref 156, .ref 157, .ref 158, .ref 159, .ref 160, .ref 161, .ref 162, .ref 163, .ref 164, .ref 165, .ref 166, .ref 167, .ref 168, .ref 169, .ref 170, .ref 171, .ref 172, .ref 173, .ref 174, .ref 175, .ref 176, .ref 177, .ref 178, .ref 179, .ref 180, .ref 181, .ref 182, .ref 183, .ref 184, .ref 185, .ref 186, .ref 187, .ref 188, .ref 189, .ref 190, .ref 191, .ref 192, .ref 193, .ref 194, .ref 195, .ref 196, .ref 197, .ref 198, .ref 199, .ref 200, .ref 201, .ref 202, .ref 203, .ref 204, .ref 205, .ref 206, .ref 207, .ref 208, .ref 209, .ref 210, .ref 211, .ref 212, .ref 213, .ref 214, .ref 215, .ref 216, .ref 217, .ref 218, .ref 219, .ref 220, .ref 221, .ref 222, .ref 223, .ref 224, .ref 225, .ref 226, .ref 227, .ref 228, .ref 229, .ref 230, .ref 231, .ref 232, .ref 233, .ref 234, .ref 235, .ref 236, .ref 237, .ref 238, .ref 239, .ref 240, .ref 241, .ref 242, .ref 243, .ref 244, .ref 245, .ref 246, .ref 247, .ref 248, .ref 249, .ref 250, .ref 251, .ref 252, .ref 253, .ref 254, .ref 255, .ref 256, .ref 257, .ref 258, .ref 259, .ref 260, .ref 261, .ref 262], vm := .none },
  { cls := 29, slots := #[.ref 263, .ref 264, .ref 265, .ref 266, .ref 267, .ref 268, .ref 269, .ref 270, .ref 271, .ref 272, .ref 273, .ref 274, .ref 275, .ref 276, .ref 277, .ref 278, .ref 279, .ref 280, .ref 281, .ref 282, .ref 283, .ref 284, .ref 285, .ref 286, .ref 287, .ref 288, .ref 289, .ref 290, .ref 291, .ref 292, .ref 293, .ref 294, .ref 295, .ref 296, .ref 297, .ref 298, .ref 299, .ref 300, .ref 301, .ref 302, .ref 303, .ref 304, .ref 305, .ref 306, .ref 307, .ref 308, .ref 309, .ref 310, .ref 311, .ref 312, .ref 313, .ref 314, .ref 315, .ref 316, .ref 317, .ref 318, .ref 319, .ref 320, .ref 321, .ref 322, .ref 323, .ref 324, .ref 325, .ref 326, .ref 327, .ref 328, .ref 329, .ref 330, .ref 331, .ref 332, .ref 333, .ref 334, .ref 335, .ref 336, .ref 337, .ref 338, .ref 339, .ref 340, .ref 341, .ref 342, .ref 343, .ref 344, .ref 345, .ref 346, .ref 347, .ref 348, .ref 349, .ref 350, .ref 351, .ref 352, .ref 353, .ref 354, .ref 355, .ref 356, .ref 357, .ref 358, .ref 359, .ref 360, .ref 361, .ref 362, .ref 363, .ref 364, .ref 365, .ref 366, .ref 367, .ref 368, .ref 369, .ref 370, .ref 371, .ref 372, .ref 373, .ref 374, .ref 375, .ref 376, .ref 377, .ref 378, .ref 379, .ref 380, .ref 381, .ref 382, .ref 383, .ref 384, .ref 385, .ref 386, .ref 387, .ref 388, .ref 389, .ref 390, .ref 391, .ref 392, .ref 393, .ref 394, .ref 395, .ref 396, .ref 397, .ref 398, .ref 399, .ref 400, .ref 401, .ref 402, .ref 403, .ref 404, .ref 405, .ref 406, .ref 407, .ref 408, .ref 409, .ref 410, .ref 411, .ref 412, .ref 413, .ref 414, .ref 415, .ref 416, .ref 417, .ref 418, .ref 419, .ref 420, .ref 421, .ref 422, .ref 423, .ref 424, .ref 425, .ref 426, .ref 427, .ref 428, .ref 429, .ref 430, .ref 431, .ref 432, .ref 433, .ref 434, .ref 435, .ref 436, .ref 437, .ref 438, .ref 439, .ref 440, .ref 441, .ref 442, .ref 443, .ref 444, .ref 445, .ref 446, .ref 447, .ref 448, .ref 449, .ref 450, .ref 451, .ref 452, .ref 453, .ref 454, .ref 455, .ref 456, .ref 457, .ref 458, .ref 459, .ref 460, .ref 461, .ref 462, .ref 463, .ref 464, .ref 465, .ref 466, .ref 467, .ref 468, .ref 469, .ref 470, .ref 471, .ref 472, .ref 473, .ref 474, .ref 475, .ref 476, .ref 477, .ref 478, .ref 479, .ref 480, .ref 481, .ref 482, .ref 483, .ref 484, .ref 485, .ref 486, .ref 487, .ref 488, .ref 489, .ref 490, .ref 491, .ref 492, .ref 493, .ref 494, .ref 495, .ref 496, .ref 497, .ref 498, .ref 499, .ref 500, .ref 501, .ref 502, .ref 503, .ref 504, .ref 505, .ref 506, .ref 507, .ref 508, .ref 509, .ref 510, .ref 511, .ref 512, .ref 513, .ref 514, .ref 515, .ref 516, .ref 517, .ref 518], vm := .none },
  { cls := 14, slots := #[.int (-128)], vm := .none },
  { cls := 14, slots := #[.int (-127)], vm := .none },
  { cls := 14, slots := #[.int (-126)], vm := .none },
  { cls := 14, slots := #[.int (-125)], vm := .none },
  { cls := 14, slots := #[.int (-124)], vm := .none },
  { cls := 14, slots := #[.int (-123)], vm := .none },
  { cls := 14, slots := #[.int (-122)], vm := .none },
  { cls := 14, slots := #[.int (-121)], vm := .none },
  { cls := 14, slots := #[.int (-120)], vm := .none },
  { cls := 14, slots := #[.int (-119)], vm := .none },
  { cls := 14, slots := #[.int (-118)], vm := .none },
  { cls := 14, slots := #[.int (-117)], vm := .none },
  { cls := 14, slots := #[.int (-116)], vm := .none },
  { cls := 14, slots := #[.int (-115)], vm := .none },
  { cls := 14, slots := #[.int (-114)], vm := .none },
  { cls := 14, slots := #[.int (-113)], vm := .none },
  { cls := 14, slots := #[.int (-112)], vm := .none },
  { cls := 14, slots := #[.int (-111)], vm := .none },
  { cls := 14, slots := #[.int (-110)], vm := .none },
  { cls := 14, slots := #[.int (-109)], vm := .none },
  { cls := 14, slots := #[.int (-108)], vm := .none },
  { cls := 14, slots := #[.int (-107)], vm := .none },
  { cls := 14, slots := #[.int (-106)], vm := .none },
  { cls := 14, slots := #[.int (-105)], vm := .none },
  { cls := 14, slots := #[.int (-104)], vm := .none },
  { cls := 14, slots := #[.int (-103)], vm := .none },
  { cls := 14, slots := #[.int (-102)], vm := .none },
  { cls := 14, slots := #[.int (-101)], vm := .none },
  { cls := 14, slots := #[.int (-100)], vm := .none },
  { cls := 14, slots := #[.int (-99)], vm := .none },
  { cls := 14, slots := #[.int (-98)], vm := .none },
  { cls := 14, slots := #[.int (-97)], vm := .none },
  { cls := 14, slots := #[.int (-96)], vm := .none },
  { cls := 14, slots := #[.int (-95)], vm := .none },
  { cls := 14, slots := #[.int (-94)], vm := .none },
  { cls := 14, slots := #[.int (-93)], vm := .none },
  { cls := 14, slots := #[.int (-92)], vm := .none },
  { cls := 14, slots := #[.int (-91)], vm := .none },
  { cls := 14, slots := #[.int (-90)], vm := .none },
  { cls := 14, slots := #[.int (-89)], vm := .none },
  { cls := 14, slots := #[.int (-88)], vm := .none },
  { cls := 14, slots := #[.int (-87)], vm := .none },
  { cls := 14, slots := #[.int (-86)], vm := .none },
  { cls := 14, slots := #[.int (-85)], vm := .none },
  { cls := 14, slots := #[.int (-84)], vm := .none },
  { cls := 14, slots := #[.int (-83)], vm := .none },
  { cls := 14, slots := #[.int (-82)], vm := .none },
  { cls := 14, slots := #[.int (-81)], vm := .none },
  { cls := 14, slots := #[.int (-80)], vm := .none },
  { cls := 14, slots := #[.int (-79)], vm := .none },
  { cls := 14, slots := #[.int (-78)], vm := .none },
  { cls := 14, slots := #[.int (-77)], vm := .none },
  { cls := 14, slots := #[.int (-76)], vm := .none },
  { cls := 14, slots := #[.int (-75)], vm := .none },
  { cls := 14, slots := #[.int (-74)], vm := .none },
  { cls := 14, slots := #[.int (-73)], vm := .none },
  { cls := 14, slots := #[.int (-72)], vm := .none },
  { cls := 14, slots := #[.int (-71)], vm := .none },
  { cls := 14, slots := #[.int (-70)], vm := .none },
  { cls := 14, slots := #[.int (-69)], vm := .none },
  { cls := 14, slots := #[.int (-68)], vm := .none },
  { cls := 14, slots := #[.int (-67)], vm := .none },
  { cls := 14, slots := #[.int (-66)], vm := .none },
  { cls := 14, slots := #[.int (-65)], vm := .none },
  { cls := 14, slots := #[.int (-64)], vm := .none },
  { cls := 14, slots := #[.int (-63)], vm := .none },
  { cls := 14, slots := #[.int (-62)], vm := .none },
  { cls := 14, slots := #[.int (-61)], vm := .none },
  { cls := 14, slots := #[.int (-60)], vm := .none },
  { cls := 14, slots := #[.int (-59)], vm := .none },
  { cls := 14, slots := #[.int (-58)], vm := .none },
  { cls := 14, slots := #[.int (-57)], vm := .none },
  { cls := 14, slots := #[.int (-56)], vm := .none },
  { cls := 14, slots := #[.int (-55)], vm := .none },
  { cls := 14, slots := #[.int (-54)], vm := .none },
  { cls := 14, slots := #[.int (-53)], vm := .none },
  { cls := 14, slots := #[.int (-52)], vm := .none },
  { cls := 14, slots := #[.int (-51)], vm := .none },
  { cls := 14, slots := #[.int (-50)], vm := .none },
  { cls := 14, slots := #[.int (-49)], vm := .none },
  { cls := 14, slots := #[.int (-48)], vm := .none },
  { cls := 14, slots := #[.int (-47)], vm := .none },
  { cls := 14, slots := #[.int (-46)], vm := .none },
  { cls := 14, slots := #[.int (-45)], vm := .none },
  { cls := 14, slots := #[.int (-44)], vm := .none },
  { cls := 14, slots := #[.int (-43)], vm := .none },
  { cls := 14, slots := #[.int (-42)], vm := .none },
  { cls := 14, slots := #[.int (-41)], vm := .none },
  { cls := 14, slots := #[.int (-40)], vm := .none },
  { cls := 14, slots := #[.int (-39)], vm := .none },
  { cls := 14, slots := #[.int (-38)], vm := .none },
  { cls := 14, slots := #[.int (-37)], vm := .none },
  { cls := 14, slots := #[.int (-36)], vm := .none },
  { cls := 14, slots := #[.int (-35)], vm := .none },
  { cls := 14, slots := #[.int (-34)], vm := .none },
  { cls := 14, slots := #[.int (-33)], vm := .none },
  { cls := 14, slots := #[.int (-32)], vm := .none },
  { cls := 14, slots := #[.int (-31)], vm := .none },
  { cls := 14, slots := #[.int (-30)], vm := .none },
  { cls := 14, slots := #[.int (-29)], vm := .none },
  { cls := 14, slots := #[.int (-28)], vm := .none },
  { cls := 14, slots := #[.int (-27)], vm := .none },
  { cls := 14, slots := #[.int (-26)], vm := .none },
  { cls := 14, slots := #[.int (-25)], vm := .none },
  { cls := 14, slots := #[.int (-24)], vm := .none },
  { cls := 14, slots := #[.int (-23)], vm := .none },
  { cls := 14, slots := #[.int (-22)], vm := .none },
  { cls := 14, slots := #[.int (-21)], vm := .none },
  { cls := 14, slots := #[.int (-20)], vm := .none },
  { cls := 14, slots := #[.int (-19)], vm := .none },
  { cls := 14, slots := #[.int (-18)], vm := .none },
  { cls := 14, slots := #[.int (-17)], vm := .none },
  { cls := 14, slots := #[.int (-16)], vm := .none },
  { cls := 14, slots := #[.int (-15)], vm := .none },
  { cls := 14, slots := #[.int (-14)], vm := .none },
  { cls := 14, slots := #[.int (-13)], vm := .none },
  { cls := 14, slots := #[.int (-12)], vm := .none },
  { cls := 14, slots := #[.int (-11)], vm := .none },
  { cls := 14, slots := #[.int (-10)], vm := .none },
  { cls := 14, slots := #[.int (-9)], vm := .none },
  { cls := 14, slots := #[.int (-8)], vm := .none },
  { cls := 14, slots := #[.int (-7)], vm := .none },
  { cls := 14, slots := #[.int (-6)], vm := .none },
  { cls := 14, slots := #[.int (-5)], vm := .none },
  { cls := 14, slots := #[.int (-4)], vm := .none },
  { cls := 14, slots := #[.int (-3)], vm := .none },
  { cls := 14, slots := #[.int (-2)], vm := .none },
  { cls := 14, slots := #[.int (-1)], vm := .none },
  { cls := 14, slots := #[.int (0)], vm := .none },
  { cls := 14, slots := #[.int (1)], vm := .none },
  { cls := 14, slots := #[.int (2)], vm := .none },
  { cls := 14, slots := #[.int (3)], vm := .none },
  { cls := 14, slots := #[.int (4)], vm := .none },
  { cls := 14, slots := #[.int (5)], vm := .none },
  { cls := 14, slots := #[.int (6)], vm := .none },
  { cls := 14, slots := #[.int (7)], vm := .none },
  { cls := 14, slots := #[.int (8)], vm := .none },
  { cls := 14, slots := #[.int (9)], vm := .none },
  { cls := 14, slots := #[.int (10)], vm := .none },
  { cls := 14, slots := #[.int (11)], vm := .none },
  { cls := 14, slots := #[.int (12)], vm := .none },
  { cls := 14, slots := #[.int (13)], vm := .none },
  { cls := 14, slots := #[.int (14)], vm := .none },
  { cls := 14, slots := #[.int (15)], vm := .none },
  { cls := 14, slots := #[.int (16)], vm := .none },
  { cls := 14, slots := #[.int (17)], vm := .none },
  { cls := 14, slots := #[.int (18)], vm := .none },
  { cls := 14, slots := #[.int (19)], vm := .none },
  { cls := 14, slots := #[.int (20)], vm := .none },
  { cls := 14, slots := #[.int (21)], vm := .none },
  { cls := 14, slots := #[.int (22)], vm := .none },
  { cls := 14, slots := #[.int (23)], vm := .none },
  { cls := 14, slots := #[.int (24)], vm := .none },
  { cls := 14, slots := #[.int (25)], vm := .none },
  { cls := 14, slots := #[.int (26)], vm := .none },
  { cls := 14, slots := #[.int (27)], vm := .none },
  { cls := 14, slots := #[.int (28)], vm := .none },
  { cls := 14, slots := #[.int (29)], vm := .none },
  { cls := 14, slots := #[.int (30)], vm := .none },
  { cls := 14, slots := #[.int (31)], vm := .none },
  { cls := 14, slots := #[.int (32)], vm := .none },
  { cls := 14, slots := #[.int (33)], vm := .none },
  { cls := 14, slots := #[.int (34)], vm := .none },
  { cls := 14, slots := #[.int (35)], vm := .none },
  { cls := 14, slots := #[.int (36)], vm := .none },
  { cls := 14, slots := #[.int (37)], vm := .none },
  { cls := 14, slots := #[.int (38)], vm := .none },
  { cls := 14, slots := #[.int (39)], vm := .none },
  { cls := 14, slots := #[.int (40)], vm := .none },
  { cls := 14, slots := #[.int (41)], vm := .none },
  { cls := 14, slots := #[.int (42)], vm := .none },
  { cls := 14, slots := #[.int (43)], vm := .none },
  { cls := 14, slots := #[.int (44)], vm := .none },
  { cls := 14, slots := #[.int (45)], vm := .none },
  { cls := 14, slots := #[.int (46)], vm := .none },
  { cls := 14, slots := #[.int (47)], vm := .none },
  { cls := 14, slots := #[.int (48)], vm := .none },
  { cls := 14, slots := #[.int (49)], vm := .none },
  { cls := 14, slots := #[.int (50)], vm := .none },
  { cls := 14, slots := #[.int (51)], vm := .none },
  { cls := 14, slots := #[.int (52)], vm := .none },
  { cls := 14, slots := #[.int (53)], vm := .none },
  { cls := 14, slots := #[.int (54)], vm := .none },
  { cls := 14, slots := #[.int (55)], vm := .none },
  { cls := 14, slots := #[.int (56)], vm := .none },
  { cls := 14, slots := #[.int (57)], vm := .none },
  { cls := 14, slots := #[.int (58)], vm := .none },
  { cls := 14, slots := #[.int (59)], vm := .none },
  { cls := 14, slots := #[.int (60)], vm := .none },
  { cls := 14, slots := #[.int (61)], vm := .none },
  { cls := 14, slots := #[.int (62)], vm := .none },
  { cls := 14, slots := #[.int (63)], vm := .none },
  { cls := 14, slots := #[.int (64)], vm := .none },
  { cls := 14, slots := #[.int (65)], vm := .none },
  { cls := 14, slots := #[.int (66)], vm := .none },
  { cls := 14, slots := #[.int (67)], vm := .none },
  { cls := 14, slots := #[.int (68)], vm := .none },
  { cls := 14, slots := #[.int (69)], vm := .none },
  { cls := 14, slots := #[.int (70)], vm := .none },
  { cls := 14, slots := #[.int (71)], vm := .none },
  { cls := 14, slots := #[.int (72)], vm := .none },
  { cls := 14, slots := #[.int (73)], vm := .none },
  { cls := 14, slots := #[.int (74)], vm := .none },
  { cls := 14, slots := #[.int (75)], vm := .none },
  { cls := 14, slots := #[.int (76)], vm := .none },
  { cls := 14, slots := #[.int (77)], vm := .none },
  { cls := 14, slots := #[.int (78)], vm := .none },
  { cls := 14, slots := #[.int (79)], vm := .none },
  { cls := 14, slots := #[.int (80)], vm := .none },
  { cls := 14, slots := #[.int (81)], vm := .none },
  { cls := 14, slots := #[.int (82)], vm := .none },
  { cls := 14, slots := #[.int (83)], vm := .none },
  { cls := 14, slots := #[.int (84)], vm := .none },
  { cls := 14, slots := #[.int (85)], vm := .none },
  { cls := 14, slots := #[.int (86)], vm := .none },
  { cls := 14, slots := #[.int (87)], vm := .none },
  { cls := 14, slots := #[.int (88)], vm := .none },
  { cls := 14, slots := #[.int (89)], vm := .none },
  { cls := 14, slots := #[.int (90)], vm := .none },
  { cls := 14, slots := #[.int (91)], vm := .none },
  { cls := 14, slots := #[.int (92)], vm := .none },
  { cls := 14, slots := #[.int (93)], vm := .none },
  { cls := 14, slots := #[.int (94)], vm := .none },
  { cls := 14, slots := #[.int (95)], vm := .none },
  { cls := 14, slots := #[.int (96)], vm := .none },
  { cls := 14, slots := #[.int (97)], vm := .none },
  { cls := 14, slots := #[.int (98)], vm := .none },
  { cls := 14, slots := #[.int (99)], vm := .none },
  { cls := 14, slots := #[.int (100)], vm := .none },
  { cls := 14, slots := #[.int (101)], vm := .none },
  { cls := 14, slots := #[.int (102)], vm := .none },
  { cls := 14, slots := #[.int (103)], vm := .none },
  { cls := 14, slots := #[.int (104)], vm := .none },
  { cls := 14, slots := #[.int (105)], vm := .none },
  { cls := 14, slots := #[.int (106)], vm := .none },
  { cls := 14, slots := #[.int (107)], vm := .none },
  { cls := 14, slots := #[.int (108)], vm := .none },
  { cls := 14, slots := #[.int (109)], vm := .none },
  { cls := 14, slots := #[.int (110)], vm := .none },
  { cls := 14, slots := #[.int (111)], vm := .none },
  { cls := 14, slots := #[.int (112)], vm := .none },
  { cls := 14, slots := #[.int (113)], vm := .none },
  { cls := 14, slots := #[.int (114)], vm := .none },
  { cls := 14, slots := #[.int (115)], vm := .none },
  { cls := 14, slots := #[.int (116)], vm := .none },
  { cls := 14, slots := #[.int (117)], vm := .none },
  { cls := 14, slots := #[.int (118)], vm := .none },
  { cls := 14, slots := #[.int (119)], vm := .none },
  { cls := 14, slots := #[.int (120)], vm := .none },
  { cls := 14, slots := #[.int (121)], vm := .none },
  { cls := 14, slots := #[.int (122)], vm := .none },
  { cls := 14, slots := #[.int (123)], vm := .none },
  { cls := 14, slots := #[.int (124)], vm := .none },
  { cls := 14, slots := #[.int (125)], vm := .none },
  { cls := 14, slots := #[.int (126)], vm := .none },
  { cls := 14, slots := #[.int (127)], vm := .none },
  { cls := 16, slots := #[.long (-128)], vm := .none },
  { cls := 16, slots := #[.long (-127)], vm := .none },
  { cls := 16, slots := #[.long (-126)], vm := .none },
  { cls := 16, slots := #[.long (-125)], vm := .none },
  { cls := 16, slots := #[.long (-124)], vm := .none },
  { cls := 16, slots := #[.long (-123)], vm := .none },
  { cls := 16, slots := #[.long (-122)], vm := .none },
  { cls := 16, slots := #[.long (-121)], vm := .none },
  { cls := 16, slots := #[.long (-120)], vm := .none },
  { cls := 16, slots := #[.long (-119)], vm := .none },
  { cls := 16, slots := #[.long (-118)], vm := .none },
  { cls := 16, slots := #[.long (-117)], vm := .none },
  { cls := 16, slots := #[.long (-116)], vm := .none },
  { cls := 16, slots := #[.long (-115)], vm := .none },
  { cls := 16, slots := #[.long (-114)], vm := .none },
  { cls := 16, slots := #[.long (-113)], vm := .none },
  { cls := 16, slots := #[.long (-112)], vm := .none },
  { cls := 16, slots := #[.long (-111)], vm := .none },
  { cls := 16, slots := #[.long (-110)], vm := .none },
  { cls := 16, slots := #[.long (-109)], vm := .none },
  { cls := 16, slots := #[.long (-108)], vm := .none },
  { cls := 16, slots := #[.long (-107)], vm := .none },
  { cls := 16, slots := #[.long (-106)], vm := .none },
  { cls := 16, slots := #[.long (-105)], vm := .none },
  { cls := 16, slots := #[.long (-104)], vm := .none },
  { cls := 16, slots := #[.long (-103)], vm := .none },
  { cls := 16, slots := #[.long (-102)], vm := .none },
  { cls := 16, slots := #[.long (-101)], vm := .none },
  { cls := 16, slots := #[.long (-100)], vm := .none },
  { cls := 16, slots := #[.long (-99)], vm := .none },
  { cls := 16, slots := #[.long (-98)], vm := .none },
  { cls := 16, slots := #[.long (-97)], vm := .none },
  { cls := 16, slots := #[.long (-96)], vm := .none },
  { cls := 16, slots := #[.long (-95)], vm := .none },
  { cls := 16, slots := #[.long (-94)], vm := .none },
  { cls := 16, slots := #[.long (-93)], vm := .none },
  { cls := 16, slots := #[.long (-92)], vm := .none },
  { cls := 16, slots := #[.long (-91)], vm := .none },
  { cls := 16, slots := #[.long (-90)], vm := .none },
  { cls := 16, slots := #[.long (-89)], vm := .none },
  { cls := 16, slots := #[.long (-88)], vm := .none },
  { cls := 16, slots := #[.long (-87)], vm := .none },
  { cls := 16, slots := #[.long (-86)], vm := .none },
  { cls := 16, slots := #[.long (-85)], vm := .none },
  { cls := 16, slots := #[.long (-84)], vm := .none },
  { cls := 16, slots := #[.long (-83)], vm := .none },
  { cls := 16, slots := #[.long (-82)], vm := .none },
  { cls := 16, slots := #[.long (-81)], vm := .none },
  { cls := 16, slots := #[.long (-80)], vm := .none },
  { cls := 16, slots := #[.long (-79)], vm := .none },
  { cls := 16, slots := #[.long (-78)], vm := .none },
  { cls := 16, slots := #[.long (-77)], vm := .none },
  { cls := 16, slots := #[.long (-76)], vm := .none },
  { cls := 16, slots := #[.long (-75)], vm := .none },
  { cls := 16, slots := #[.long (-74)], vm := .none },
  { cls := 16, slots := #[.long (-73)], vm := .none },
  { cls := 16, slots := #[.long (-72)], vm := .none },
  { cls := 16, slots := #[.long (-71)], vm := .none },
  { cls := 16, slots := #[.long (-70)], vm := .none },
  { cls := 16, slots := #[.long (-69)], vm := .none },
  { cls := 16, slots := #[.long (-68)], vm := .none },
  { cls := 16, slots := #[.long (-67)], vm := .none },
  { cls := 16, slots := #[.long (-66)], vm := .none },
  { cls := 16, slots := #[.long (-65)], vm := .none },
  { cls := 16, slots := #[.long (-64)], vm := .none },
  { cls := 16, slots := #[.long (-63)], vm := .none },
  { cls := 16, slots := #[.long (-62)], vm := .none },
  { cls := 16, slots := #[.long (-61)], vm := .none },
  { cls := 16, slots := #[.long (-60)], vm := .none },
  { cls := 16, slots := #[.long (-59)], vm := .none },
  { cls := 16, slots := #[.long (-58)], vm := .none },
  { cls := 16, slots := #[.long (-57)], vm := .none },
  { cls := 16, slots := #[.long (-56)], vm := .none },
  { cls := 16, slots := #[.long (-55)], vm := .none },
  { cls := 16, slots := #[.long (-54)], vm := .none },
  { cls := 16, slots := #[.long (-53)], vm := .none },
  { cls := 16, slots := #[.long (-52)], vm := .none },
  { cls := 16, slots := #[.long (-51)], vm := .none },
  { cls := 16, slots := #[.long (-50)], vm := .none },
  { cls := 16, slots := #[.long (-49)], vm := .none },
  { cls := 16, slots := #[.long (-48)], vm := .none },
  { cls := 16, slots := #[.long (-47)], vm := .none },
  { cls := 16, slots := #[.long (-46)], vm := .none },
  { cls := 16, slots := #[.long (-45)], vm := .none },
  { cls := 16, slots := #[.long (-44)], vm := .none },
  { cls := 16, slots := #[.long (-43)], vm := .none },
  { cls := 16, slots := #[.long (-42)], vm := .none },
  { cls := 16, slots := #[.long (-41)], vm := .none },
  { cls := 16, slots := #[.long (-40)], vm := .none },
  { cls := 16, slots := #[.long (-39)], vm := .none },
  { cls := 16, slots := #[.long (-38)], vm := .none },
  { cls := 16, slots := #[.long (-37)], vm := .none },
  { cls := 16, slots := #[.long (-36)], vm := .none },
  { cls := 16, slots := #[.long (-35)], vm := .none },
  { cls := 16, slots := #[.long (-34)], vm := .none },
  { cls := 16, slots := #[.long (-33)], vm := .none },
  { cls := 16, slots := #[.long (-32)], vm := .none },
  { cls := 16, slots := #[.long (-31)], vm := .none },
  { cls := 16, slots := #[.long (-30)], vm := .none },
  { cls := 16, slots := #[.long (-29)], vm := .none },
  { cls := 16, slots := #[.long (-28)], vm := .none },
  { cls := 16, slots := #[.long (-27)], vm := .none },
  { cls := 16, slots := #[.long (-26)], vm := .none },
  { cls := 16, slots := #[.long (-25)], vm := .none },
  { cls := 16, slots := #[.long (-24)], vm := .none },
  { cls := 16, slots := #[.long (-23)], vm := .none },
  { cls := 16, slots := #[.long (-22)], vm := .none },
  { cls := 16, slots := #[.long (-21)], vm := .none },
  { cls := 16, slots := #[.long (-20)], vm := .none },
  { cls := 16, slots := #[.long (-19)], vm := .none },
  { cls := 16, slots := #[.long (-18)], vm := .none },
  { cls := 16, slots := #[.long (-17)], vm := .none },
  { cls := 16, slots := #[.long (-16)], vm := .none },
  { cls := 16, slots := #[.long (-15)], vm := .none },
  { cls := 16, slots := #[.long (-14)], vm := .none },
  { cls := 16, slots := #[.long (-13)], vm := .none },
  { cls := 16, slots := #[.long (-12)], vm := .none },
  { cls := 16, slots := #[.long (-11)], vm := .none },
  { cls := 16, slots := #[.long (-10)], vm := .none },
  { cls := 16, slots := #[.long (-9)], vm := .none },
  { cls := 16, slots := #[.long (-8)], vm := .none },
  { cls := 16, slots := #[.long (-7)], vm := .none },
  { cls := 16, slots := #[.long (-6)], vm := .none },
  { cls := 16, slots := #[.long (-5)], vm := .none },
  { cls := 16, slots := #[.long (-4)], vm := .none },
  { cls := 16, slots := #[.long (-3)], vm := .none },
  { cls := 16, slots := #[.long (-2)], vm := .none },
  { cls := 16, slots := #[.long (-1)], vm := .none },
  { cls := 16, slots := #[.long (0)], vm := .none },
  { cls := 16, slots := #[.long (1)], vm := .none },
  { cls := 16, slots := #[.long (2)], vm := .none },
  { cls := 16, slots := #[.long (3)], vm := .none },
  { cls := 16, slots := #[.long (4)], vm := .none },
  { cls := 16, slots := #[.long (5)], vm := .none },
  { cls := 16, slots := #[.long (6)], vm := .none },
  { cls := 16, slots := #[.long (7)], vm := .none },
  { cls := 16, slots := #[.long (8)], vm := .none },
  { cls := 16, slots := #[.long (9)], vm := .none },
  { cls := 16, slots := #[.long (10)], vm := .none },
  { cls := 16, slots := #[.long (11)], vm := .none },
  { cls := 16, slots := #[.long (12)], vm := .none },
  { cls := 16, slots := #[.long (13)], vm := .none },
  { cls := 16, slots := #[.long (14)], vm := .none },
  { cls := 16, slots := #[.long (15)], vm := .none },
  { cls := 16, slots := #[.long (16)], vm := .none },
  { cls := 16, slots := #[.long (17)], vm := .none },
  { cls := 16, slots := #[.long (18)], vm := .none },
  { cls := 16, slots := #[.long (19)], vm := .none },
  { cls := 16, slots := #[.long (20)], vm := .none },
  { cls := 16, slots := #[.long (21)], vm := .none },
  { cls := 16, slots := #[.long (22)], vm := .none },
  { cls := 16, slots := #[.long (23)], vm := .none },
  { cls := 16, slots := #[.long (24)], vm := .none },
  { cls := 16, slots := #[.long (25)], vm := .none },
  { cls := 16, slots := #[.long (26)], vm := .none },
  { cls := 16, slots := #[.long (27)], vm := .none },
  { cls := 16, slots := #[.long (28)], vm := .none },
  { cls := 16, slots := #[.long (29)], vm := .none },
  { cls := 16, slots := #[.long (30)], vm := .none },
  { cls := 16, slots := #[.long (31)], vm := .none },
  { cls := 16, slots := #[.long (32)], vm := .none },
  { cls := 16, slots := #[.long (33)], vm := .none },
  { cls := 16, slots := #[.long (34)], vm := .none },
  { cls := 16, slots := #[.long (35)], vm := .none },
  { cls := 16, slots := #[.long (36)], vm := .none },
  { cls := 16, slots := #[.long (37)], vm := .none },
  { cls := 16, slots := #[.long (38)], vm := .none },
  { cls := 16, slots := #[.long (39)], vm := .none },
  { cls := 16, slots := #[.long (40)], vm := .none },
  { cls := 16, slots := #[.long (41)], vm := .none },
  { cls := 16, slots := #[.long (42)], vm := .none },
  { cls := 16, slots := #[.long (43)], vm := .none },
  { cls := 16, slots := #[.long (44)], vm := .none },
  { cls := 16, slots := #[.long (45)], vm := .none },
  { cls := 16, slots := #[.long (46)], vm := .none },
  { cls := 16, slots := #[.long (47)], vm := .none },
  { cls := 16, slots := #[.long (48)], vm := .none },
  { cls := 16, slots := #[.long (49)], vm := .none },
  { cls := 16, slots := #[.long (50)], vm := .none },
  { cls := 16, slots := #[.long (51)], vm := .none },
  { cls := 16, slots := #[.long (52)], vm := .none },
  { cls := 16, slots := #[.long (53)], vm := .none },
  { cls := 16, slots := #[.long (54)], vm := .none },
  { cls := 16, slots := #[.long (55)], vm := .none },
  { cls := 16, slots := #[.long (56)], vm := .none },
  { cls := 16, slots := #[.long (57)], vm := .none },
  { cls := 16, slots := #[.long (58)], vm := .none },
  { cls := 16, slots := #[.long (59)], vm := .none },
  { cls := 16, slots := #[.long (60)], vm := .none },
  { cls := 16, slots := #[.long (61)], vm := .none },
  { cls := 16, slots := #[.long (62)], vm := .none },
  { cls := 16, slots := #[.long (63)], vm := .none },
  { cls := 16, slots := #[.long (64)], vm := .none },
  { cls := 16, slots := #[.long (65)], vm := .none },
  { cls := 16, slots := #[.long (66)], vm := .none },
  { cls := 16, slots := #[.long (67)], vm := .none },
  { cls := 16, slots := #[.long (68)], vm := .none },
  { cls := 16, slots := #[.long (69)], vm := .none },
  { cls := 16, slots := #[.long (70)], vm := .none },
  { cls := 16, slots := #[.long (71)], vm := .none },
  { cls := 16, slots := #[.long (72)], vm := .none },
  { cls := 16, slots := #[.long (73)], vm := .none },
  { cls := 16, slots := #[.long (74)], vm := .none },
  { cls := 16, slots := #[.long (75)], vm := .none },
  { cls := 16, slots := #[.long (76)], vm := .none },
  { cls := 16, slots := #[.long (77)], vm := .none },
  { cls := 16, slots := #[.long (78)], vm := .none },
  { cls := 16, slots := #[.long (79)], vm := .none },
  { cls := 16, slots := #[.long (80)], vm := .none },
  { cls := 16, slots := #[.long (81)], vm := .none },
  { cls := 16, slots := #[.long (82)], vm := .none },
  { cls := 16, slots := #[.long (83)], vm := .none },
  { cls := 16, slots := #[.long (84)], vm := .none },
  { cls := 16, slots := #[.long (85)], vm := .none },
  { cls := 16, slots := #[.long (86)], vm := .none },
  { cls := 16, slots := #[.long (87)], vm := .none },
  { cls := 16, slots := #[.long (88)], vm := .none },
  { cls := 16, slots := #[.long (89)], vm := .none },
  { cls := 16, slots := #[.long (90)], vm := .none },
  { cls := 16, slots := #[.long (91)], vm := .none },
  { cls := 16, slots := #[.long (92)], vm := .none },
  { cls := 16, slots := #[.long (93)], vm := .none },
  { cls := 16, slots := #[.long (94)], vm := .none },
  { cls := 16, slots := #[.long (95)], vm := .none },
  { cls := 16, slots := #[.long (96)], vm := .none },
  { cls := 16, slots := #[.long (97)], vm := .none },
  { cls := 16, slots := #[.long (98)], vm := .none },
  { cls := 16, slots := #[.long (99)], vm := .none },
  { cls := 16, slots := #[.long (100)], vm := .none },
  { cls := 16, slots := #[.long (101)], vm := .none },
  { cls := 16, slots := #[.long (102)], vm := .none },
  { cls := 16, slots := #[.long (103)], vm := .none },
  { cls := 16, slots := #[.long (104)], vm := .none },
  { cls := 16, slots := #[.long (105)], vm := .none },
  { cls := 16, slots := #[.long (106)], vm := .none },
  { cls := 16, slots := #[.long (107)], vm := .none },
  { cls := 16, slots := #[.long (108)], vm := .none },
  { cls := 16, slots := #[.long (109)], vm := .none },
  { cls := 16, slots := #[.long (110)], vm := .none },
  { cls := 16, slots := #[.long (111)], vm := .none },
  { cls := 16, slots := #[.long (112)], vm := .none },
  { cls := 16, slots := #[.long (113)], vm := .none },
  { cls := 16, slots := #[.long (114)], vm := .none },
  { cls := 16, slots := #[.long (115)], vm := .none },
  { cls := 16, slots := #[.long (116)], vm := .none },
  { cls := 16, slots := #[.long (117)], vm := .none },
  { cls := 16, slots := #[.long (118)], vm := .none },
  { cls := 16, slots := #[.long (119)], vm := .none },
  { cls := 16, slots := #[.long (120)], vm := .none },
  { cls := 16, slots := #[.long (121)], vm := .none },
  { cls := 16, slots := #[.long (122)], vm := .none },
  { cls := 16, slots := #[.long (123)], vm := .none },
  { cls := 16, slots := #[.long (124)], vm := .none },
  { cls := 16, slots := #[.long (125)], vm := .none },
  { cls := 16, slots := #[.long (126)], vm := .none },
  { cls := 16, slots := #[.long (127)], vm := .none },
  { cls := 0, slots := #[], vm := .none }]
def classes : Array Class := #[k0, k1, k2, k3, k4, k5, k6, k7, k8, k9, k10, k11, k12, k13, k14, k15, k16, k17, k18, k19, k20, k21, k22, k23, k24, k25, k26, k27, k28, k29]
def interned : List (Array UInt16 × Addr) := []
def slotsUsed : Nat := 1043
def theMethod : MethodId := ⟨1, 2⟩
def args0 : Array Value := #[.int 5, .int 6, .int 7, .int 8, .int 0, .int 3]
def aboutOver (below : List Frame) : State where
  vm := { classes := classes, interned := interned.toArray }
  heap := heap
  slotsUsed := slotsUsed
  threads := #[{ frames := .invoking theMethod args0 :: below }]
def below0 : List Frame := [.native { method := ⟨0, 0⟩, args := #[] }]
def about1 : State := aboutOver below0
def p0 : Program := .bare "" "" ""
def e0 : Env := launch0.env 0 0 0
theorem w_frames : about1.frames = Frame.invoking theMethod args0 :: below0 := rfl
set_option maxRecDepth 65536 in
theorem w_args : argsFit about1.vm theMethod args0 = true := by decide +kernel
set_option maxRecDepth 65536 in
theorem w_heap : heapFits about1 = true := by decide +kernel
set_option maxRecDepth 65536 in
theorem w_runnable : about1.curStatus? = some .runnable := by decide +kernel
set_option maxRecDepth 65536 in
theorem w_alone : about1.alone = true := by decide +kernel
set_option maxRecDepth 65536 in
theorem w_named : about1.methodNamed? x = some theMethod := by decide +kernel
set_option maxRecDepth 65536 in
theorem w_hears : about1.hears theMethod below0 = true := by decide +kernel
set_option maxRecDepth 65536 in
theorem w_ripe : about1.ripe theMethod args0 below0 = true := by decide +kernel
theorem w_running : about1.status = .running := rfl
set_option maxRecDepth 65536 in
theorem w_room : about1.hasRoom e0.platform room_1 = true :=
  launch0.hasRoom_least _ room_1 (by decide +kernel) (by decide +kernel) (by decide +kernel) (by decide +kernel) (by decide +kernel) (by decide +kernel)
theorem allAtoms_all (ts : List Jvm.Cond) (a : Array Jvm.Value) (st : Jvm.State) : (allAtoms ts).before a st = ts.all (fun c => c.before a st) := by
  induction ts with
  | nil => rfl
  | cons c t ih =>
    show (Jvm.Cond.and c (allAtoms t)).before a st = _
    rw [Jvm.Cond.before_and, ih, List.all_cons]
def words1 : List Jvm.Cond := Jvm.Cond.code x code maxLocals ret :: tables_1
/-- a 'code' word, met by the world's own term for the bytes: nothing is compared byte by byte -/
theorem code_word {y : MethodName} {bytes : ByteArray} {mx : Nat} {rt : Option FieldType} {a : Array Value} {s : State} {m : MethodId} {meth : Method} {c : Code} (h1 : s.methodNamed? y = some m) (h2 : s.vm.method? m = some meth) (h3 : meth.code = some c) (h4 : c.code = bytes)
    (h5 : (c.maxLocals == mx && c.exceptionTable.isEmpty && decide (c.maxStack ≤ mostOperands) && decide (meth.sig.returnType = rt) && !meth.locks && decide (parseMethodDescriptor y.desc = some meth.sig)) = true) : (Jvm.Cond.code y bytes mx rt).before a s = true := by
  simp only [Bool.and_eq_true, beq_iff_eq, Bool.not_eq_true', decide_eq_true_eq] at h5
  obtain ⟨⟨⟨⟨⟨g1, g2⟩, g3⟩, g4⟩, g5⟩, g6⟩ := h5
  simp [Cond.before, Cond.holds, Cond.value, h1, h2, h3, h4, g1, g2, g3, g4, g5, g6]
def isCode : Jvm.Cond → Bool
  | .code _ _ _ _ => true
  | _ => false
theorem all_split {L : List Jvm.Cond} {P : Jvm.Cond → Bool} (h1 : L.all (fun c => isCode c || P c) = true) (h2 : ∀ c ∈ L.filter isCode, P c = true) : L.all P = true := by
  refine List.all_eq_true.mpr fun c hc => ?_
  have h := List.all_eq_true.mp h1 c hc
  rcases Bool.eq_false_or_eq_true (isCode c) with hi | hi
  · exact h2 c (List.mem_filter.mpr ⟨hc, hi⟩)
  · simpa [hi] using h
set_option maxRecDepth 65536 in
theorem w_c0 : (Jvm.Cond.code x code maxLocals ret).before args0 about1 = true := code_word (m := ⟨1, 2⟩) (meth := k1m2) (c := k1c2) (by decide +kernel) rfl rfl rfl (by decide +kernel)
set_option maxRecDepth 65536 in
theorem w_c1 : (Jvm.Cond.code ({ cls := "java/lang/String", name := "<init>", desc := "([C)V" } : Jvm.MethodName) jdk_42_method_3_code (2 : Nat) (Option.none : Option Jvm.ClassFile.FieldType)).before args0 about1 = true := code_word (m := ⟨7, 1⟩) (meth := k7m1) (c := k7c1) (by decide +kernel) rfl rfl rfl (by decide +kernel)
set_option maxRecDepth 65536 in
theorem w_c2 : (Jvm.Cond.code ({ cls := "java/lang/String", name := "<init>", desc := "([CIILjava/lang/Void;)V" } : Jvm.MethodName) jdk_42_method_149_code (6 : Nat) (Option.none : Option Jvm.ClassFile.FieldType)).before args0 about1 = true := code_word (m := ⟨7, 3⟩) (meth := k7m3) (c := k7c3) (by decide +kernel) rfl rfl rfl (by decide +kernel)
set_option maxRecDepth 65536 in
theorem w_c3 : (Jvm.Cond.code ({ cls := "java/lang/Object", name := "<init>", desc := "()V" } : Jvm.MethodName) object_method_1_code (1 : Nat) (Option.none : Option Jvm.ClassFile.FieldType)).before args0 about1 = true := code_word (m := ⟨0, 0⟩) (meth := k0m0) (c := k0c0) (by decide +kernel) rfl rfl rfl (by decide +kernel)
set_option maxRecDepth 65536 in
theorem w_c4 : (Jvm.Cond.code ({ cls := "java/lang/StringUTF16", name := "compress", desc := "([CII)[B" } : Jvm.MethodName) jdk_52_method_16_code (6 : Nat) (Option.some (Jvm.ClassFile.FieldType.array Jvm.ClassFile.FieldType.byte))).before args0 about1 = true := code_word (m := ⟨8, 2⟩) (meth := k8m2) (c := k8c2) (by decide +kernel) rfl rfl rfl (by decide +kernel)
set_option maxRecDepth 65536 in
theorem w_c5 : (Jvm.Cond.code ({ cls := "java/lang/StringUTF16", name := "compress", desc := "([CI[BII)I" } : Jvm.MethodName) jdk_52_method_21_code (7 : Nat) (Option.some Jvm.ClassFile.FieldType.int)).before args0 about1 = true := code_word (m := ⟨8, 3⟩) (meth := k8m3) (c := k8c3) (by decide +kernel) rfl rfl rfl (by decide +kernel)
set_option maxRecDepth 65536 in
theorem w_c6 : (Jvm.Cond.code ({ cls := "java/lang/StringUTF16", name := "coderFromArrayLen", desc := "([BI)B" } : Jvm.MethodName) jdk_52_method_15_code (2 : Nat) (Option.some Jvm.ClassFile.FieldType.byte)).before args0 about1 = true := code_word (m := ⟨8, 1⟩) (meth := k8m1) (c := k8c1) (by decide +kernel) rfl rfl rfl (by decide +kernel)
set_option maxRecDepth 65536 in
theorem w_c7 : (Jvm.Cond.code ({ cls := "com/example/bindery/bindery/Globals$Variable", name := "<init>", desc := "()V" } : Jvm.MethodName) prog_17_method_1_code (1 : Nat) (Option.none : Option Jvm.ClassFile.FieldType)).before args0 about1 = true := code_word (m := ⟨9, 0⟩) (meth := k9m0) (c := k9c0) (by decide +kernel) rfl rfl rfl (by decide +kernel)
set_option maxRecDepth 65536 in
theorem w_c8 : (Jvm.Cond.code ({ cls := "com/example/bindery/bindery/Expr$Variable", name := "<init>", desc := "(Ljava/lang/String;I)V" } : Jvm.MethodName) prog_14_method_1_code (3 : Nat) (Option.none : Option Jvm.ClassFile.FieldType)).before args0 about1 = true := code_word (m := ⟨12, 0⟩) (meth := k12m0) (c := k12c0) (by decide +kernel) rfl rfl rfl (by decide +kernel)
set_option maxRecDepth 65536 in
theorem w_c9 : (Jvm.Cond.code ({ cls := "com/example/bindery/bindery/Named", name := "<init>", desc := "(Ljava/lang/String;I)V" } : Jvm.MethodName) prog_25_method_1_code (3 : Nat) (Option.none : Option Jvm.ClassFile.FieldType)).before args0 about1 = true := code_word (m := ⟨10, 0⟩) (meth := k10m0) (c := k10c0) (by decide +kernel) rfl rfl rfl (by decide +kernel)
set_option maxRecDepth 65536 in
theorem w_c10 : (Jvm.Cond.code ({ cls := "com/example/bindery/bindery/VariableGetPinLaw", name := "pick", desc := "(II)Ljava/lang/Object;" } : Jvm.MethodName) method_2_code (3 : Nat) (Option.some (Jvm.ClassFile.FieldType.object "java/lang/Object"))).before args0 about1 = true := code_word (m := ⟨1, 1⟩) (meth := k1m1) (c := k1c1) (by decide +kernel) rfl rfl rfl (by decide +kernel)
set_option maxRecDepth 65536 in
theorem w_c11 : (Jvm.Cond.code ({ cls := "java/lang/Integer", name := "valueOf", desc := "(I)Ljava/lang/Integer;" } : Jvm.MethodName) jdk_33_method_22_code (1 : Nat) (Option.some (Jvm.ClassFile.FieldType.object "java/lang/Integer"))).before args0 about1 = true := code_word (m := ⟨14, 0⟩) (meth := k14m0) (c := k14c0) (by decide +kernel) rfl rfl rfl (by decide +kernel)
set_option maxRecDepth 65536 in
theorem w_c12 : (Jvm.Cond.code ({ cls := "com/example/bindery/bindery/Globals$Variable", name := "define", desc := "(Ljava/lang/Object;)V" } : Jvm.MethodName) prog_17_method_4_code (2 : Nat) (Option.none : Option Jvm.ClassFile.FieldType)).before args0 about1 = true := code_word (m := ⟨9, 3⟩) (meth := k9m3) (c := k9c3) (by decide +kernel) rfl rfl rfl (by decide +kernel)
set_option maxRecDepth 65536 in
theorem w_c13 : (Jvm.Cond.code ({ cls := "com/example/bindery/bindery/Globals$Variable", name := "get", desc := "(Lcom/example/bindery/bindery/Named;)Ljava/lang/Object;" } : Jvm.MethodName) prog_17_method_2_code (2 : Nat) (Option.some (Jvm.ClassFile.FieldType.object "java/lang/Object"))).before args0 about1 = true := code_word (m := ⟨9, 1⟩) (meth := k9m1) (c := k9c1) (by decide +kernel) rfl rfl rfl (by decide +kernel)
set_option maxRecDepth 65536 in
theorem w_c14 : (Jvm.Cond.code ({ cls := "java/lang/Long", name := "valueOf", desc := "(J)Ljava/lang/Long;" } : Jvm.MethodName) jdk_35_method_24_code (3 : Nat) (Option.some (Jvm.ClassFile.FieldType.object "java/lang/Long"))).before args0 about1 = true := code_word (m := ⟨16, 0⟩) (meth := k16m0) (c := k16c0) (by decide +kernel) rfl rfl rfl (by decide +kernel)
set_option maxRecDepth 65536 in
theorem w_c15 : (Jvm.Cond.code ({ cls := "java/lang/String", name := "valueOf", desc := "(C)Ljava/lang/String;" } : Jvm.MethodName) jdk_42_method_139_code (1 : Nat) (Option.some (Jvm.ClassFile.FieldType.object "java/lang/String"))).before args0 about1 = true := code_word (m := ⟨7, 2⟩) (meth := k7m2) (c := k7c2) (by decide +kernel) rfl rfl rfl (by decide +kernel)
set_option maxRecDepth 65536 in
theorem w_c16 : (Jvm.Cond.code ({ cls := "java/lang/StringLatin1", name := "canEncode", desc := "(C)Z" } : Jvm.MethodName) jdk_43_method_3_code (1 : Nat) (Option.some Jvm.ClassFile.FieldType.boolean)).before args0 about1 = true := code_word (m := ⟨18, 1⟩) (meth := k18m1) (c := k18c1) (by decide +kernel) rfl rfl rfl (by decide +kernel)
set_option maxRecDepth 65536 in
theorem w_c17 : (Jvm.Cond.code ({ cls := "java/lang/StringLatin1", name := "toBytes", desc := "(C)[B" } : Jvm.MethodName) jdk_43_method_46_code (1 : Nat) (Option.some (Jvm.ClassFile.FieldType.array Jvm.ClassFile.FieldType.byte))).before args0 about1 = true := code_word (m := ⟨18, 2⟩) (meth := k18m2) (c := k18c2) (by decide +kernel) rfl rfl rfl (by decide +kernel)
set_option maxRecDepth 65536 in
theorem w_c18 : (Jvm.Cond.code ({ cls := "java/lang/String", name := "<init>", desc := "([BB)V" } : Jvm.MethodName) jdk_42_method_151_code (3 : Nat) (Option.none : Option Jvm.ClassFile.FieldType)).before args0 about1 = true := code_word (m := ⟨7, 4⟩) (meth := k7m4) (c := k7c4) (by decide +kernel) rfl rfl rfl (by decide +kernel)
set_option maxRecDepth 65536 in
theorem w_c19 : (Jvm.Cond.code ({ cls := "com/example/bindery/bindery/Globals$Variable", name := "assign", desc := "(Lcom/example/bindery/bindery/Named;Ljava/lang/Object;)V" } : Jvm.MethodName) prog_17_method_3_code (3 : Nat) (Option.none : Option Jvm.ClassFile.FieldType)).before args0 about1 = true := code_word (m := ⟨9, 2⟩) (meth := k9m2) (c := k9c2) (by decide +kernel) rfl rfl rfl (by decide +kernel)
set_option maxRecDepth 65536 in
theorem w_c20 : (Jvm.Cond.code ({ cls := "java/lang/Long", name := "<init>", desc := "(J)V" } : Jvm.MethodName) jdk_35_method_26_code (3 : Nat) (Option.none : Option Jvm.ClassFile.FieldType)).before args0 about1 = true := code_word (m := ⟨16, 1⟩) (meth := k16m1) (c := k16c1) (by decide +kernel) rfl rfl rfl (by decide +kernel)
set_option maxRecDepth 65536 in
theorem w_c21 : (Jvm.Cond.code ({ cls := "java/lang/Number", name := "<init>", desc := "()V" } : Jvm.MethodName) jdk_18_method_1_code (1 : Nat) (Option.none : Option Jvm.ClassFile.FieldType)).before args0 about1 = true := code_word (m := ⟨13, 0⟩) (meth := k13m0) (c := k13c0) (by decide +kernel) rfl rfl rfl (by decide +kernel)
set_option maxRecDepth 65536 in
theorem w_c22 : (Jvm.Cond.code ({ cls := "java/lang/Integer", name := "<init>", desc := "(I)V" } : Jvm.MethodName) jdk_33_method_23_code (2 : Nat) (Option.none : Option Jvm.ClassFile.FieldType)).before args0 about1 = true := code_word (m := ⟨14, 1⟩) (meth := k14m1) (c := k14c1) (by decide +kernel) rfl rfl rfl (by decide +kernel)
def codes1 : List Jvm.Cond := [Jvm.Cond.code x code maxLocals ret, Jvm.Cond.code ({ cls := "java/lang/String", name := "<init>", desc := "([C)V" } : Jvm.MethodName) jdk_42_method_3_code (2 : Nat) (Option.none : Option Jvm.ClassFile.FieldType), Jvm.Cond.code ({ cls := "java/lang/String", name := "<init>", desc := "([CIILjava/lang/Void;)V" } : Jvm.MethodName) jdk_42_method_149_code (6 : Nat) (Option.none : Option Jvm.ClassFile.FieldType), Jvm.Cond.code ({ cls := "java/lang/Object", name := "<init>", desc := "()V" } : Jvm.MethodName) object_method_1_code (1 : Nat) (Option.none : Option Jvm.ClassFile.FieldType), Jvm.Cond.code ({ cls := "java/lang/StringUTF16", name := "compress", desc := "([CII)[B" } : Jvm.MethodName) jdk_52_method_16_code (6 : Nat) (Option.some (Jvm.ClassFile.FieldType.array Jvm.ClassFile.FieldType.byte)), Jvm.Cond.code ({ cls := "java/lang/StringUTF16", name := "compress", desc := "([CI[BII)I" } : Jvm.MethodName) jdk_52_method_21_code (7 : Nat) (Option.some Jvm.ClassFile.FieldType.int), Jvm.Cond.code ({ cls := "java/lang/StringUTF16", name := "coderFromArrayLen", desc := "([BI)B" } : Jvm.MethodName) jdk_52_method_15_code (2 : Nat) (Option.some Jvm.ClassFile.FieldType.byte), Jvm.Cond.code ({ cls := "com/example/bindery/bindery/Globals$Variable", name := "<init>", desc := "()V" } : Jvm.MethodName) prog_17_method_1_code (1 : Nat) (Option.none : Option Jvm.ClassFile.FieldType), Jvm.Cond.code ({ cls := "com/example/bindery/bindery/Expr$Variable", name := "<init>", desc := "(Ljava/lang/String;I)V" } : Jvm.MethodName) prog_14_method_1_code (3 : Nat) (Option.none : Option Jvm.ClassFile.FieldType), Jvm.Cond.code ({ cls := "com/example/bindery/bindery/Named", name := "<init>", desc := "(Ljava/lang/String;I)V" } : Jvm.MethodName) prog_25_method_1_code (3 : Nat) (Option.none : Option Jvm.ClassFile.FieldType), Jvm.Cond.code ({ cls := "com/example/bindery/bindery/VariableGetPinLaw", name := "pick", desc := "(II)Ljava/lang/Object;" } : Jvm.MethodName) method_2_code (3 : Nat) (Option.some (Jvm.ClassFile.FieldType.object "java/lang/Object")), Jvm.Cond.code ({ cls := "java/lang/Integer", name := "valueOf", desc := "(I)Ljava/lang/Integer;" } : Jvm.MethodName) jdk_33_method_22_code (1 : Nat) (Option.some (Jvm.ClassFile.FieldType.object "java/lang/Integer")), Jvm.Cond.code ({ cls := "com/example/bindery/bindery/Globals$Variable", name := "define", desc := "(Ljava/lang/Object;)V" } : Jvm.MethodName) prog_17_method_4_code (2 : Nat) (Option.none : Option Jvm.ClassFile.FieldType), Jvm.Cond.code ({ cls := "com/example/bindery/bindery/Globals$Variable", name := "get", desc := "(Lcom/example/bindery/bindery/Named;)Ljava/lang/Object;" } : Jvm.MethodName) prog_17_method_2_code (2 : Nat) (Option.some (Jvm.ClassFile.FieldType.object "java/lang/Object")), Jvm.Cond.code ({ cls := "java/lang/Long", name := "valueOf", desc := "(J)Ljava/lang/Long;" } : Jvm.MethodName) jdk_35_method_24_code (3 : Nat) (Option.some (Jvm.ClassFile.FieldType.object "java/lang/Long")), Jvm.Cond.code ({ cls := "java/lang/String", name := "valueOf", desc := "(C)Ljava/lang/String;" } : Jvm.MethodName) jdk_42_method_139_code (1 : Nat) (Option.some (Jvm.ClassFile.FieldType.object "java/lang/String")), Jvm.Cond.code ({ cls := "java/lang/StringLatin1", name := "canEncode", desc := "(C)Z" } : Jvm.MethodName) jdk_43_method_3_code (1 : Nat) (Option.some Jvm.ClassFile.FieldType.boolean), Jvm.Cond.code ({ cls := "java/lang/StringLatin1", name := "toBytes", desc := "(C)[B" } : Jvm.MethodName) jdk_43_method_46_code (1 : Nat) (Option.some (Jvm.ClassFile.FieldType.array Jvm.ClassFile.FieldType.byte)), Jvm.Cond.code ({ cls := "java/lang/String", name := "<init>", desc := "([BB)V" } : Jvm.MethodName) jdk_42_method_151_code (3 : Nat) (Option.none : Option Jvm.ClassFile.FieldType), Jvm.Cond.code ({ cls := "com/example/bindery/bindery/Globals$Variable", name := "assign", desc := "(Lcom/example/bindery/bindery/Named;Ljava/lang/Object;)V" } : Jvm.MethodName) prog_17_method_3_code (3 : Nat) (Option.none : Option Jvm.ClassFile.FieldType), Jvm.Cond.code ({ cls := "java/lang/Long", name := "<init>", desc := "(J)V" } : Jvm.MethodName) jdk_35_method_26_code (3 : Nat) (Option.none : Option Jvm.ClassFile.FieldType), Jvm.Cond.code ({ cls := "java/lang/Number", name := "<init>", desc := "()V" } : Jvm.MethodName) jdk_18_method_1_code (1 : Nat) (Option.none : Option Jvm.ClassFile.FieldType), Jvm.Cond.code ({ cls := "java/lang/Integer", name := "<init>", desc := "(I)V" } : Jvm.MethodName) jdk_33_method_23_code (2 : Nat) (Option.none : Option Jvm.ClassFile.FieldType)]
set_option maxRecDepth 65536 in
theorem codes_eq : words1.filter isCode = codes1 := rfl
theorem w_codes : ∀ c ∈ words1.filter isCode, c.before args0 about1 = true := by
  rw [codes_eq]
  intro c hc
  simp only [codes1, List.mem_cons, List.not_mem_nil, or_false] at hc
  rcases hc with rfl | rfl | rfl | rfl | rfl | rfl | rfl | rfl | rfl | rfl | rfl | rfl | rfl | rfl | rfl | rfl | rfl | rfl | rfl | rfl | rfl | rfl | rfl
  · exact w_c0
  · exact w_c1
  · exact w_c2
  · exact w_c3
  · exact w_c4
  · exact w_c5
  · exact w_c6
  · exact w_c7
  · exact w_c8
  · exact w_c9
  · exact w_c10
  · exact w_c11
  · exact w_c12
  · exact w_c13
  · exact w_c14
  · exact w_c15
  · exact w_c16
  · exact w_c17
  · exact w_c18
  · exact w_c19
  · exact w_c20
  · exact w_c21
  · exact w_c22
set_option maxRecDepth 65536 in
theorem w_t1 : (words1.take 24).all (fun c => isCode c || c.before args0 about1) = true := by decide +kernel
set_option maxRecDepth 65536 in
theorem w_t2 : ((words1.drop 24).take 24).all (fun c => isCode c || c.before args0 about1) = true := by decide +kernel
set_option maxRecDepth 65536 in
theorem w_t3 : (((words1.drop 24).drop 24).take 24).all (fun c => isCode c || c.before args0 about1) = true := by decide +kernel
set_option maxRecDepth 65536 in
theorem w_t4 : ((((words1.drop 24).drop 24).drop 24).take 24).all (fun c => isCode c || c.before args0 about1) = true := by decide +kernel
set_option maxRecDepth 65536 in
theorem w_t5 : (((((words1.drop 24).drop 24).drop 24).drop 24).take 24).all (fun c => isCode c || c.before args0 about1) = true := by decide +kernel
set_option maxRecDepth 65536 in
theorem w_t6 : (((((words1.drop 24).drop 24).drop 24).drop 24).drop 24).all (fun c => isCode c || c.before args0 about1) = true := by decide +kernel
theorem w_tables : (allAtoms (Jvm.Cond.code x code maxLocals ret :: tables_1)).before args0 about1 = true := by
  rw [allAtoms_all]
  show words1.all (fun c => c.before args0 about1) = true
  refine all_split ?_ w_codes
  rw [← List.take_append_drop 24 words1, List.all_append, w_t1, ← List.take_append_drop 24 (words1.drop 24), List.all_append, w_t2, ← List.take_append_drop 24 ((words1.drop 24).drop 24), List.all_append, w_t3, ← List.take_append_drop 24 (((words1.drop 24).drop 24).drop 24), List.all_append, w_t4, ← List.take_append_drop 24 ((((words1.drop 24).drop 24).drop 24).drop 24), List.all_append, w_t5, w_t6]
  rfl
set_option maxRecDepth 65536 in
theorem w_rest : rest_1_c.before args0 about1 = true := by decide +kernel
set_option maxRecDepth 65536 in
theorem w_case : (Jvm.Cond.and given_1 narrow_1).before args0 about1 = true := by decide +kernel
theorem w_applies : (headSpec (Jvm.Cond.code x code maxLocals ret :: tables_1) room_1).applies x e0.platform about1 = true :=
  (Spec.applies_iff w_frames).mpr ⟨w_running, w_runnable, w_alone, w_named, w_hears, w_ripe, w_room, w_tables⟩
theorem atStart : AtStart classFile x code maxLocals ret World_1 tables_1 room_1 Calls_1 rest_1 Pre_1 launch0 p0 e0 about1 theMethod args0 below0 :=
  ⟨lists_1, trivial, launch0.admits_env _ _ _, launch0.least_env, fairChoices_fair.cas, fairChoices_fair.clock, w_frames, w_args, w_heap, w_applies, trivial, w_rest, w_case⟩
end start1
theorem witness_1 : WitnessClaimed_1 := ⟨start1.p0, start1.e0, start1.about1, start1.theMethod, start1.args0, start1.below0, start1.atStart⟩
end Jvm.Pilot.@@N@@
