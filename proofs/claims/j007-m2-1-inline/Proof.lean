import JvmDerived
import JvmDerived.Pilot.@@N@@Statement
import JvmDerived.Pilot.@@N@@Code
set_option linter.unusedVariables false
set_option linter.unusedSimpArgs false
namespace Jvm.Own
open Sem ClassFile Op Lib Jvm.Free Jvm.Stand Jvm.LawKit Jvm.RoadKit Bundle Jvm.Free.Exc
/-- the walk of a method's body from one point on: it ends in a return that answers Q -/
def Go (p : Program) (l : Launch) (e : Env) (R : Room) (s : State) (m : MethodId) (args : Array Value) (below : List Frame) (meth : Method) (c : Code) (Z : State) (a0 : Array Value) (EL : List (String × Nat)) (nw fk : Prop) (Q : Option Value → Vm → Heap → Prop)
    (vm : Vm) (h : Heap) (k n pc : Nat) (L : Array Slot) (st : List Value) : Prop :=
  ∀ (T : State) (locs : List Loc) (k0 : Nat), p.tables.exec = Jvm.exec → meth.locks = false → EW Z a0 EL →
    Stand p l e R (s.setVm vm) m args below meth c T locs k n → T.heap = h → s.Since vm k0 → k0 ≤ h.size → Fr Z.heap.size locs → Z.Warmed39 vm → (nw → s.WarmedH vm) → CHr Z EL s.vm s.heap vm h → Ext Z.heap h → (fk → vm.MethodsKnown ∧ vm.FramesKnown below) → Ext Z.heap s.heap →
    ∃ (t : State) (v : Option Value) (L' : List Loc), Steps p.tables e below (T.setTop (mkF m pc L st)) t ∧ t.status = .running ∧ Ended t below (.returned v) ∧ Fr Z.heap.size L' ∧ Q v t.vm t.heap ∧ CHr Z EL s.vm s.heap t.vm t.heap ∧ Ext Z.heap t.heap ∧ ReturnedEndW s (.returned v) t L' R.cells R.slots ∧ (nw → s.WarmedH t.vm)
/-- a method's contract at one call: these arguments, this heap; sf: what it may write of Strings and byte arrays -/
def Ct (l : Launch) (Z : State) (EL : List (String × Nat)) (nw fk : Prop) (ws : List Jvm.Cond) (y : MethodName) (bytes : ByteArray) (maxL : Nat) (ret : Option FieldType) (rm : Room) (as : Array Value) (h : Heap) (sf : List Addr) (Q : Option Value → Vm → Heap → Prop) : Prop :=
  MetFree l y (head1 (Jvm.Cond.code y bytes maxL ret :: ws) rm) (fun a U => a = as ∧ Z.Warmed39 U.vm ∧ U.heap = h ∧ CHv Z EL U.vm h ∧ Ext Z.heap h ∧ ∀ x ∈ sf, Safe Z EL U.vm h x) (fun _ _ bl s _ => fk → s.vm.MethodsKnown ∧ s.vm.FramesKnown bl)
    (fun _ U o U' => ∃ v L, o = .returned v ∧ Fr Z.heap.size L ∧ Q v U'.vm U'.heap ∧ CHr Z EL U.vm U.heap U'.vm U'.heap ∧ Ext Z.heap U'.heap ∧ (nw → U.WarmedH U'.vm) ∧ ReturnedEndW U o U' L rm.cells rm.slots)
/-- an array, by its components -/
def Ar (Z : State) (h : Heap) (a : Addr) (k : ClassId) (ty : FieldType) (vs : List Value) : Prop := ∃ c : Cell, Arr Z h a c ty ∧ c.cls = k ∧ c.slots.toList = vs
/-- a String of Latin-1 bytes -/
def St (Z : State) (h : Heap) (a b : Addr) (k : ClassId) (bs : List Int32) : Prop := Exa Z h a "java/lang/String" ∧ Fld Z h a "java/lang/String" "coder" "B" (.int 0) ∧ Fld Z h a "java/lang/String" "value" "[B" (.ref b) ∧ Ar Z h b k .byte (bs.map Value.int) ∧ bs.length < 536870912
section Facts
variable {Z : State} {h h' h0 : Heap} {a b w : Addr} {k : ClassId} {ty : FieldType} {vs : List Value} {bs : List Int32} {ws : List Addr} {sl : Nat} {v : Value} {EL : List (String × Nat)} {vm vm' : Vm}
theorem ext_trans {h1 h2 h3 : Heap} (E : Ext h1 h2) (F : Ext h2 h3) : Ext h1 h3 := ⟨Nat.le_trans E.1 F.1, fun a c q => F.2 a c (E.2 a c q)⟩
theorem ext_keep (O : Ext Z.heap h) (K : Keep h h' ws) (q : ∀ x ∈ ws, Z.heap.size ≤ x) : Ext Z.heap h' := (Old.keep (n0 := Z.heap.size) ⟨rfl, O⟩ K q).2
theorem ext_wr (O : Ext Z.heap h) (W : Wr h h' a sl v) (q : Z.heap.size ≤ a) : Ext Z.heap h' := (Old.wr (n0 := Z.heap.size) ⟨rfl, O⟩ W q).2
theorem Ar.lt (F : Ar Z h a k ty vs) : a < h.size := by obtain ⟨c, A, -⟩ := F; exact A.lt
theorem Ar.ext (F : Ar Z h a k ty vs) (E : Ext h h') : Ar Z h' a k ty vs := by obtain ⟨c, A, r⟩ := F; exact ⟨c, A.ext E, r⟩
theorem Ar.other (F : Ar Z h a k ty vs) (W : Wr h h' b sl v) (q : a ≠ b) : Ar Z h' a k ty vs := by obtain ⟨c, A, r⟩ := F; exact ⟨c, A.other W q, r⟩
theorem Ar.keep (F : Ar Z h a k ty vs) (K : Keep h h' ws) (q : a ∉ ws) : Ar Z h' a k ty vs := by obtain ⟨c, A, r⟩ := F; exact ⟨c, ⟨K.2.1 a c A.1 q, A.2⟩, r⟩
theorem Ar.set (F : Ar Z h a k ty vs) (W : Wr h h' a sl v) : Ar Z h' a k ty (vs.set sl v) := by
  obtain ⟨c, A, r1, r2⟩ := F
  refine ⟨_, A.same W, r1, ?_⟩
  simp [Cell.setSlot, r2]
theorem Ar.of_arv {z : Int32} {d : Value} (F : Arv Z h a k ty z vs d) (hl : z.toNatClampNeg = vs.length) : Ar Z h a k ty vs := by
  obtain ⟨c, A, r1, r2, r3, H, -⟩ := F
  refine ⟨c, A, r1, List.ext_getElem? fun i => ?_⟩
  by_cases hi : i < c.slots.size
  · have q := H i hi
    rw [Array.getElem?_toList, q]
    have : i < vs.length := by omega
    simp [List.getD, this]
  · rw [Array.getElem?_toList, Array.getElem?_eq_none (by omega), List.getElem?_eq_none (by omega)]
theorem Ar.safe (hal : Z.vm.Alike vm) (F : Ar Z h a k ty vs) (ht : ty ≠ .byte) : Safe Z EL vm h a := by obtain ⟨c, A, -⟩ := F; exact Safe.arr hal A ht
theorem Ar.ne_exa {C : String} {a0 : Array Value} {kk : Nat} (F : Ar Z h a k ty vs) (E : Exa Z h b C) (wi : (Jvm.Cond.instantiable C kk).before a0 Z = true) : b ≠ a := by obtain ⟨c, A, -⟩ := F; exact ne_arr E wi A
theorem Ar.ne_ty {ty' : FieldType} {k' : ClassId} {vs' : List Value} (F : Ar Z h a k ty vs) (G : Ar Z h b k' ty' vs') (hn : ty ≠ ty') : a ≠ b := by
  rintro rfl
  obtain ⟨c, A, -⟩ := F
  obtain ⟨c', B, -⟩ := G
  cases A.1.symm.trans B.1
  obtain ⟨-, k1, h1, c1, h2⟩ := A.2.1
  obtain ⟨-, k2, g1, c2, g2⟩ := B.2.1
  cases h1.symm.trans g1
  have q := h2.symm.trans g2
  injection q with _ e
  exact hn e
theorem St.lt (F : St Z h a b k bs) : a < h.size := F.1.lt
theorem St.ltb (F : St Z h a b k bs) : b < h.size := F.2.2.2.1.lt
theorem Fld.uniq {C n d : String} {v w : Value} (F : Fld Z h a C n d v) (G : Fld Z h a C n d w) : v = w := Classical.byContradiction fun q => Fld.ne F G q rfl
theorem Ar.uniq {k' : ClassId} {ty' : FieldType} {vs' : List Value} (F : Ar Z h a k ty vs) (G : Ar Z h a k' ty' vs') : vs = vs' := by
  obtain ⟨c, A, -, rfl⟩ := F
  obtain ⟨c', B, -, rfl⟩ := G
  cases A.1.symm.trans B.1; rfl
theorem map_int_inj {xs ys : List Int32} (q : xs.map Value.int = ys.map Value.int) : xs = ys := by
  induction xs generalizing ys with
  | nil => cases ys with | nil => rfl | cons y ys => cases q
  | cons x xs ih => cases ys with
    | nil => cases q
    | cons y ys => simp only [List.map_cons, List.cons.injEq, Value.int.injEq] at q; rw [q.1, ih q.2]
theorem St.uniq {b' : Addr} {k' : ClassId} {bs' : List Int32} (F : St Z h a b k bs) (G : St Z h a b' k' bs') : bs = bs' := by
  cases Value.ref.inj (Fld.uniq F.2.2.1 G.2.2.1)
  exact map_int_inj (Ar.uniq F.2.2.2.1 G.2.2.2.1)
theorem St.ext (F : St Z h a b k bs) (E : Ext h h') : St Z h' a b k bs := ⟨F.1.ext E, F.2.1.ext E, F.2.2.1.ext E, F.2.2.2.1.ext E, F.2.2.2.2⟩
theorem St.keep (F : St Z h a b k bs) (K : Keep h h' ws) (q : a ∉ ws) (q' : b ∉ ws) : St Z h' a b k bs := ⟨F.1.keep K, F.2.1.keep K q, F.2.2.1.keep K q, F.2.2.2.1.keep K q', F.2.2.2.2⟩
theorem St.wr (F : St Z h a b k bs) (W : Wr h h' w sl v) (q : a ≠ w) (q' : b ≠ w) : St Z h' a b k bs := F.keep (Keep.of_wr W) (by simpa using q) (by simpa using q')
theorem Keep.ofExt (E : Ext h h') : Keep h h' [] := (Keep.refl h []).ext E
theorem Keep.tr (K : Keep h0 h ws) (K' : Keep h h' ws) : Keep h0 h' ws := K.trans K' fun x hx => Or.inl hx
theorem Keep.more {ws' : List Addr} (K : Keep h h' ws) (q : ∀ x ∈ ws, x ∈ ws' ∨ h.size ≤ x) : Keep h h' ws' := (Keep.refl h ws').trans K q
theorem ltN {x : Addr} {n : Nat} (q : x < n) : n > x := q
theorem neN {x y : Addr} (q : @Eq Nat x y → False) : x ≠ y := q
theorem Safe.to (C : CHr Z EL vm h vm' h') (lt : h.size > a) (S : Safe Z EL vm h a) : Safe Z EL vm' h' a := C.safe lt S
theorem tr0 (E : Ext h h') : h.size ≤ h'.size := E.1
theorem cat1 {v : Value} (q : v.isRef = true) : v.category = 1 := by cases v <;> simp [Value.isRef] at q <;> rfl
theorem narU {v : Value} {ty : FieldType} (q : v.isRef = true) : narrow ty v = v := by cases v <;> simp [Value.isRef] at q <;> cases ty <;> rfl
theorem fitsU {v : Value} {ty : FieldType} (r : ty.isReference = true) (q : v.isRef = true) : fits ty v = true := by cases ty <;> simp [FieldType.isReference] at r <;> cases v <;> simp [Value.isRef] at q <;> rfl
theorem noInst {a0 : Array Value} {C K : String} {n : Nat} (w : (Jvm.Cond.superclass C "java/lang/Object").before a0 Z = true) (w0 : (Jvm.Cond.noSuperclass "java/lang/Object").before a0 Z = true) (wi : (Jvm.Cond.instantiable K n).before a0 Z = true) (h1 : C ≠ K) (h2 : "java/lang/Object" ≠ K) : ∃ c t, Z.vm.findClass C = some c ∧ Z.vm.findClass K = some t ∧ Z.vm.assignable c t = false := by
  obtain ⟨t, kt, g0, g2, g5, g7, -, -⟩ := Cond.instantiable_spec wi
  have g7' : kt.isInterface = false := (Bool.or_eq_false_iff.mp g7).1
  have n0 : NS Z "java/lang/Object" K := by
    obtain ⟨c, k, q1, q2, q3, -, -⟩ := Cond.noSuperclass_spec w0
    have ne := ids_ne q1 g0 h2
    refine ⟨c, t, q1, g0, fun fuel => ?_⟩
    cases fuel with
    | zero => rfl
    | succ f => simp [Vm.isSubclassAux, ne, q2, q3]
  obtain ⟨c, t', h0, g0', n3⟩ := NS.step w n0 h1
  cases g0.symm.trans g0'
  obtain ⟨p, k, kp, q1, q2, q3, q4, q5, -, q7⟩ := Cond.superclass_spec h0 w
  have ne := ids_ne h0 g0 h1
  refine ⟨c, t, h0, g0, ?_⟩
  show Z.vm.assignableAux (255 + 1) c t = false
  simp [Vm.assignableAux, ne, q2, g2, q5, g5, g7', Vm.isSubclass, n3]
theorem own_rep {α : Type} (n : Nat) (v : α) : Array.replicate n v = (List.replicate n v).toArray := rfl
theorem Wr.sz (W : Wr h h' a sl v) : h'.size = h.size := W.size
theorem clampL {n : Nat} (q : n < 2 ^ 31) : n.toInt32.toNatClampNeg = n := by
  have e1 : n.toInt32.toInt = n := Int32.toInt_ofNat_small q
  rw [← Int32.toNat_toInt, e1]; rfl
theorem Ar.arv {d : Value} (F : Ar Z h a k ty vs) (f : ∀ v ∈ vs, fits ty v = true) (q : vs.length < 2 ^ 31) : Arv Z h a k ty vs.length.toInt32 vs d := by
  obtain ⟨c, A, r1, r2⟩ := F
  have hs : c.slots.size = vs.length := by rw [← r2]; simp
  have e1 : vs.length.toInt32.toInt = vs.length := Int32.toInt_ofNat_small q
  refine ⟨c, A, r1, by rw [hs, clampL q], fun z => ?_, fun i hi => ?_, fun i hi => ?_⟩
  · have := Int32.lt_iff_toInt_lt.mp z
    have e0 : (0 : Int32).toInt = 0 := rfl
    omega
  · have hi' : i < vs.length := by omega
    rw [← Array.getElem?_toList, r2]; simp [List.getD, hi']
  · have hi' : i < vs.length := by omega
    have : vs.getD i d = vs[i] := by simp [List.getD, hi']
    rw [this]; exact f _ (List.getElem_mem hi')
theorem nf_same {a0 : Array Value} {y y' : MethodName} (nf : NotFace Z y) (w : (Jvm.Cond.declares y).before a0 Z = true) (e : y'.cls = y.cls) : NotFace Z y' := fun r0 h0 => by
  obtain ⟨m, meth, h1, -⟩ := Cond.declares_spec w
  obtain ⟨kr, k1, k2⟩ := nf m h1
  have c1 := findClass_of_methodNamed h1
  have c0 := findClass_of_methodNamed h0
  rw [e, c1] at c0
  exact ⟨kr, by rw [show r0.cls = m.cls from (Option.some.inj c0).symm]; exact k1, k2⟩
theorem same_of_declares {a0 : Array Value} {y : MethodName} (w : (Jvm.Cond.declares y).before a0 Z = true) (nf : NotFace Z y) (hy : y.cls ≠ "java/lang/invoke/MethodHandle" ∧ y.cls ≠ "java/lang/invoke/VarHandle") : (Jvm.Cond.sameMethod y.cls y.cls y.name y.desc).before a0 Z = true := by
  obtain ⟨m, meth, h1, -⟩ := Cond.declares_spec w
  obtain ⟨kr, k1, k2⟩ := nf m h1
  have hf := State.methodFound?_of_named h1 hy
  have hc := findClass_of_methodNamed h1
  have h1' : Z.methodNamed? ⟨y.cls, y.name, y.desc⟩ = some m := h1
  simp [Cond.before, Cond.holds, Cond.value, hc, hf, h1', k1, k2]
theorem sel_priv {a0 : Array Value} {C : String} {y : MethodName} (w : (Jvm.Cond.selects C y y).before a0 Z = true) (wi : (Jvm.Cond.instanceMethod y).before a0 Z = true) (wp : (Jvm.Cond.privateMethod y).before a0 Z = true) (hy : y.cls ≠ "java/lang/invoke/MethodHandle" ∧ y.cls ≠ "java/lang/invoke/VarHandle") : (Jvm.Cond.selects y.cls y y).before a0 Z = true := by
  obtain ⟨c, r, m, h1, h2, h3, h4, mk, h5, h6⟩ := Cond.selects_spec w
  obtain ⟨m', meth, g1, g2, -, -⟩ := Cond.instanceMethod_spec wi
  cases h3.symm.trans g1
  have hp := Cond.privateMethod_at wp m meth g1 g2
  have hf := State.methodFound?_of_named g1 hy
  have hc := findClass_of_methodNamed g1
  simp [Cond.before, Cond.holds, Cond.value, hc, hf, g1, selectMethod_private g2 hp, h5, h6]
end Facts
section Walk
variable {p : Program} {l : Launch} {e : Env} {R : Room} {s : State} {m : MethodId} {args : Array Value} {below : List Frame} {meth : Method} {c : Code} {Z : State} {a0 : Array Value} {EL : List (String × Nat)} {nw fk : Prop} {Q : Option Value → Vm → Heap → Prop} {vm : Vm} {h : Heap} {k n pc pc' : Nat} {L : Array Slot} {st : List Value}
theorem Go.plain {pc2 : Nat} {L2 : Array Slot} {st2 : List Value} (hstep : ∀ (T : State) (locs : List Loc), p.tables.exec = Jvm.exec → Stand p l e R (s.setVm vm) m args below meth c T locs k n → ∀ target, Steps p.tables e below (T.setTop (mkF m pc2 L2 st2)) target → Steps p.tables e below (T.setTop (mkF m pc L st)) target)
    (K : Go p l e R s m args below meth c Z a0 EL nw fk Q vm h k n pc2 L2 st2) : Go p l e R s m args below meth c Z a0 EL nw fk Q vm h k n pc L st := fun T locs k0 hx hk hE X eT hS hk0 hF hZ hN hC hO hK hO0 => by
  obtain ⟨t, v, L', r1, r2⟩ := K T locs k0 hx hk hE X eT hS hk0 hF hZ hN hC hO hK hO0
  exact ⟨t, v, L', hstep T locs hx X _ r1, r2⟩
theorem Go.mono {k' n' : Nat} (K : Go p l e R s m args below meth c Z a0 EL nw fk Q vm h k' n' pc L st) (hk : k ≤ k') (hn : n ≤ n') : Go p l e R s m args below meth c Z a0 EL nw fk Q vm h k n pc L st := fun T locs k0 hx hl hE X eT hS hk0 hF hZ hN hC hO hK hO0 =>
  K T locs k0 hx hl hE ⟨X.admits, X.cas, X.clock, X.frames, X.room, X.hears, X.method, X.code, X.here, X.tail, X.warmed, X.limits, X.bytes, X.same.mono hk hn⟩ eT hS hk0 hF hZ hN hC hO hK hO0
theorem Go.aloadN {q : Fin 4} {v : Value} (hd : decode c.code pc = .ok (.aload_n q, 1)) (hp : pc + 1 = pc') (hl : L[q.val]? = some (.val v)) (hv : v.isRef = true) (K : Go p l e R s m args below meth c Z a0 EL nw fk Q vm h k n pc' L (v :: st)) : Go p l e R s m args below meth c Z a0 EL nw fk Q vm h k n pc L st := by
  subst hp
  exact Go.plain (fun T _ hx X _ r => XS.aloadN X.here hx rfl hd hl hv r) K
theorem Go.aload {q : Nat} {v : Value} (hd : decode c.code pc = .ok (.aload q, 2)) (hp : pc + 2 = pc') (hl : L[q]? = some (.val v)) (hv : v.isRef = true) (K : Go p l e R s m args below meth c Z a0 EL nw fk Q vm h k n pc' L (v :: st)) : Go p l e R s m args below meth c Z a0 EL nw fk Q vm h k n pc L st := by
  subst hp
  exact Go.plain (fun T _ hx X _ r => XS.aload X.here hx rfl hd hl hv r) K
theorem Go.iloadN {q : Fin 4} {z : Int32} (hd : decode c.code pc = .ok (.iload_n q, 1)) (hp : pc + 1 = pc') (hl : L[q.val]? = some (.val (.int z))) (K : Go p l e R s m args below meth c Z a0 EL nw fk Q vm h k n pc' L (.int z :: st)) : Go p l e R s m args below meth c Z a0 EL nw fk Q vm h k n pc L st := by
  subst hp
  exact Go.plain (fun T _ hx X _ r => XS.iloadN X.here hx rfl hd hl r) K
theorem Go.iload {q : Nat} {z : Int32} (hd : decode c.code pc = .ok (.iload q, 2)) (hp : pc + 2 = pc') (hl : L[q]? = some (.val (.int z))) (K : Go p l e R s m args below meth c Z a0 EL nw fk Q vm h k n pc' L (.int z :: st)) : Go p l e R s m args below meth c Z a0 EL nw fk Q vm h k n pc L st := by
  subst hp
  exact Go.plain (fun T _ hx X _ r => XS.iload X.here hx rfl hd hl r) K
theorem Go.lloadN {q : Fin 4} {z : Int64} (hd : decode c.code pc = .ok (.lload_n q, 1)) (hp : pc + 1 = pc') (hl : L[q.val]? = some (.val (.long z))) (K : Go p l e R s m args below meth c Z a0 EL nw fk Q vm h k n pc' L (.long z :: st)) : Go p l e R s m args below meth c Z a0 EL nw fk Q vm h k n pc L st := by
  subst hp
  exact Go.plain (fun T _ hx X _ r => XT.lloadN X.here hx rfl hd hl r) K
theorem Go.lload {q : Nat} {z : Int64} (hd : decode c.code pc = .ok (.lload q, 2)) (hp : pc + 2 = pc') (hl : L[q]? = some (.val (.long z))) (K : Go p l e R s m args below meth c Z a0 EL nw fk Q vm h k n pc' L (.long z :: st)) : Go p l e R s m args below meth c Z a0 EL nw fk Q vm h k n pc L st := by
  subst hp
  exact Go.plain (fun T _ hx X _ r => XT.lload X.here hx rfl hd hl r) K
theorem Go.iconst {i : Int} {z : Int32} (hd : decode c.code pc = .ok (.iconst i, 1)) (hp : pc + 1 = pc') (hz : Int32.ofInt i = z) (K : Go p l e R s m args below meth c Z a0 EL nw fk Q vm h k n pc' L (.int z :: st)) : Go p l e R s m args below meth c Z a0 EL nw fk Q vm h k n pc L st := by
  subst hp
  exact Go.plain (fun T _ hx X _ r => XS.iconst X.here hx rfl hd (by rw [hz]; exact r)) K
theorem Go.bipush {i : Int} {z : Int32} (hd : decode c.code pc = .ok (.bipush i, 2)) (hp : pc + 2 = pc') (hz : (Int8.ofInt i).toInt32 = z) (K : Go p l e R s m args below meth c Z a0 EL nw fk Q vm h k n pc' L (.int z :: st)) : Go p l e R s m args below meth c Z a0 EL nw fk Q vm h k n pc L st := by
  subst hp
  exact Go.plain (fun T _ hx X _ r => XS.bipush X.here hx rfl hd (by rw [hz]; exact r)) K
theorem Go.sipush {i : Int} {z : Int32} (hd : decode c.code pc = .ok (.sipush i, 3)) (hp : pc + 3 = pc') (hz : (Int16.ofInt i).toInt32 = z) (K : Go p l e R s m args below meth c Z a0 EL nw fk Q vm h k n pc' L (.int z :: st)) : Go p l e R s m args below meth c Z a0 EL nw fk Q vm h k n pc L st := by
  subst hp
  exact Go.plain (fun T _ hx X _ r => XS.sipush X.here hx rfl hd (by rw [hz]; exact r)) K
theorem Go.lconst {q : Fin 2} (hd : decode c.code pc = .ok (.lconst q, 1)) (hp : pc + 1 = pc') (K : Go p l e R s m args below meth c Z a0 EL nw fk Q vm h k n pc' L (.long (Int64.ofNat q) :: st)) : Go p l e R s m args below meth c Z a0 EL nw fk Q vm h k n pc L st := by
  subst hp
  exact Go.plain (fun T _ hx X _ r => XT.lconst X.here hx rfl hd r) K
theorem Go.aconstNull (hd : decode c.code pc = .ok (.aconst_null, 1)) (hp : pc + 1 = pc') (K : Go p l e R s m args below meth c Z a0 EL nw fk Q vm h k n pc' L (.null :: st)) : Go p l e R s m args below meth c Z a0 EL nw fk Q vm h k n pc L st := by
  subst hp
  exact Go.plain (fun T _ hx X _ r => XS.aconstNull X.here hx rfl hd r) K
theorem Go.iadd {x y : Int32} (hd : decode c.code pc = .ok (.iadd, 1)) (hp : pc + 1 = pc') (K : Go p l e R s m args below meth c Z a0 EL nw fk Q vm h k n pc' L (.int (x + y) :: st)) : Go p l e R s m args below meth c Z a0 EL nw fk Q vm h k n pc L (.int y :: .int x :: st) := by
  subst hp
  exact Go.plain (fun T _ hx X _ r => XS.iadd X.here hx rfl hd rfl r) K
theorem Go.isub {x y : Int32} (hd : decode c.code pc = .ok (.isub, 1)) (hp : pc + 1 = pc') (K : Go p l e R s m args below meth c Z a0 EL nw fk Q vm h k n pc' L (.int (x - y) :: st)) : Go p l e R s m args below meth c Z a0 EL nw fk Q vm h k n pc L (.int y :: .int x :: st) := by
  subst hp
  exact Go.plain (fun T _ hx X _ r => XS.isub X.here hx rfl hd rfl r) K
theorem Go.iand {x y : Int32} (hd : decode c.code pc = .ok (.iand, 1)) (hp : pc + 1 = pc') (K : Go p l e R s m args below meth c Z a0 EL nw fk Q vm h k n pc' L (.int (x &&& y) :: st)) : Go p l e R s m args below meth c Z a0 EL nw fk Q vm h k n pc L (.int y :: .int x :: st) := by
  subst hp
  exact Go.plain (fun T _ hx X _ r => XS.iand X.here hx rfl hd rfl r) K
theorem Go.imul {x y : Int32} (hd : decode c.code pc = .ok (.imul, 1)) (hp : pc + 1 = pc') (K : Go p l e R s m args below meth c Z a0 EL nw fk Q vm h k n pc' L (.int (x * y) :: st)) : Go p l e R s m args below meth c Z a0 EL nw fk Q vm h k n pc L (.int y :: .int x :: st) := by
  subst hp
  exact Go.plain (fun T _ hx X _ r => XS.imul X.here hx rfl hd rfl r) K
theorem Go.ineg {x : Int32} (hd : decode c.code pc = .ok (.ineg, 1)) (hp : pc + 1 = pc') (K : Go p l e R s m args below meth c Z a0 EL nw fk Q vm h k n pc' L (.int (-x) :: st)) : Go p l e R s m args below meth c Z a0 EL nw fk Q vm h k n pc L (.int x :: st) := by
  subst hp
  exact Go.plain (fun T _ hx X _ r => XS.ineg X.here hx rfl hd rfl r) K
theorem Go.idiv {x y : Int32} (hd : decode c.code pc = .ok (.idiv, 1)) (hp : pc + 1 = pc') (hy : y ≠ 0) (K : Go p l e R s m args below meth c Z a0 EL nw fk Q vm h k n pc' L (.int (x / y) :: st)) : Go p l e R s m args below meth c Z a0 EL nw fk Q vm h k n pc L (.int y :: .int x :: st) := by
  subst hp
  exact Go.plain (fun T _ hx X _ r => XS.idiv X.here hx rfl hd rfl hy r) K
theorem Go.ixor {x y : Int32} (hd : decode c.code pc = .ok (.ixor, 1)) (hp : pc + 1 = pc') (K : Go p l e R s m args below meth c Z a0 EL nw fk Q vm h k n pc' L (.int (x ^^^ y) :: st)) : Go p l e R s m args below meth c Z a0 EL nw fk Q vm h k n pc L (.int y :: .int x :: st) := by
  subst hp
  exact Go.plain (fun T _ hx X _ r => XT.ixor X.here hx rfl hd rfl r) K
theorem Go.ior {x y : Int32} (hd : decode c.code pc = .ok (.ior, 1)) (hp : pc + 1 = pc') (K : Go p l e R s m args below meth c Z a0 EL nw fk Q vm h k n pc' L (.int (x ||| y) :: st)) : Go p l e R s m args below meth c Z a0 EL nw fk Q vm h k n pc L (.int y :: .int x :: st) := by
  subst hp
  exact Go.plain (fun T _ hx X _ r => XT.ior X.here hx rfl hd rfl r) K
theorem Go.ishl {x y : Int32} (hd : decode c.code pc = .ok (.ishl, 1)) (hp : pc + 1 = pc') (K : Go p l e R s m args below meth c Z a0 EL nw fk Q vm h k n pc' L (.int (x <<< (y &&& 31)) :: st)) : Go p l e R s m args below meth c Z a0 EL nw fk Q vm h k n pc L (.int y :: .int x :: st) := by
  subst hp
  exact Go.plain (fun T _ hx X _ r => XT.ishl X.here hx rfl hd rfl r) K
theorem Go.ishr {x y : Int32} (hd : decode c.code pc = .ok (.ishr, 1)) (hp : pc + 1 = pc') (K : Go p l e R s m args below meth c Z a0 EL nw fk Q vm h k n pc' L (.int (x >>> (y &&& 31)) :: st)) : Go p l e R s m args below meth c Z a0 EL nw fk Q vm h k n pc L (.int y :: .int x :: st) := by
  subst hp
  exact Go.plain (fun T _ hx X _ r => XT.ishr X.here hx rfl hd rfl r) K
theorem Go.iushr {x y : Int32} (hd : decode c.code pc = .ok (.iushr, 1)) (hp : pc + 1 = pc') (K : Go p l e R s m args below meth c Z a0 EL nw fk Q vm h k n pc' L (.int (XT.ushr x y) :: st)) : Go p l e R s m args below meth c Z a0 EL nw fk Q vm h k n pc L (.int y :: .int x :: st) := by
  subst hp
  exact Go.plain (fun T _ hx X _ r => XT.iushr X.here hx rfl hd rfl r) K
theorem Go.ladd {x y : Int64} (hd : decode c.code pc = .ok (.ladd, 1)) (hp : pc + 1 = pc') (K : Go p l e R s m args below meth c Z a0 EL nw fk Q vm h k n pc' L (.long (x + y) :: st)) : Go p l e R s m args below meth c Z a0 EL nw fk Q vm h k n pc L (.long y :: .long x :: st) := by
  subst hp
  exact Go.plain (fun T _ hx X _ r => XT.ladd X.here hx rfl hd rfl r) K
theorem Go.lsub {x y : Int64} (hd : decode c.code pc = .ok (.lsub, 1)) (hp : pc + 1 = pc') (K : Go p l e R s m args below meth c Z a0 EL nw fk Q vm h k n pc' L (.long (x - y) :: st)) : Go p l e R s m args below meth c Z a0 EL nw fk Q vm h k n pc L (.long y :: .long x :: st) := by
  subst hp
  exact Go.plain (fun T _ hx X _ r => XT.lsub X.here hx rfl hd rfl r) K
theorem Go.lmul {x y : Int64} (hd : decode c.code pc = .ok (.lmul, 1)) (hp : pc + 1 = pc') (K : Go p l e R s m args below meth c Z a0 EL nw fk Q vm h k n pc' L (.long (x * y) :: st)) : Go p l e R s m args below meth c Z a0 EL nw fk Q vm h k n pc L (.long y :: .long x :: st) := by
  subst hp
  exact Go.plain (fun T _ hx X _ r => XT.lmul X.here hx rfl hd rfl r) K
theorem Go.land {x y : Int64} (hd : decode c.code pc = .ok (.land, 1)) (hp : pc + 1 = pc') (K : Go p l e R s m args below meth c Z a0 EL nw fk Q vm h k n pc' L (.long (x &&& y) :: st)) : Go p l e R s m args below meth c Z a0 EL nw fk Q vm h k n pc L (.long y :: .long x :: st) := by
  subst hp
  exact Go.plain (fun T _ hx X _ r => XT.land X.here hx rfl hd rfl r) K
theorem Go.lor {x y : Int64} (hd : decode c.code pc = .ok (.lor, 1)) (hp : pc + 1 = pc') (K : Go p l e R s m args below meth c Z a0 EL nw fk Q vm h k n pc' L (.long (x ||| y) :: st)) : Go p l e R s m args below meth c Z a0 EL nw fk Q vm h k n pc L (.long y :: .long x :: st) := by
  subst hp
  exact Go.plain (fun T _ hx X _ r => XT.lor X.here hx rfl hd rfl r) K
theorem Go.lxor {x y : Int64} (hd : decode c.code pc = .ok (.lxor, 1)) (hp : pc + 1 = pc') (K : Go p l e R s m args below meth c Z a0 EL nw fk Q vm h k n pc' L (.long (x ^^^ y) :: st)) : Go p l e R s m args below meth c Z a0 EL nw fk Q vm h k n pc L (.long y :: .long x :: st) := by
  subst hp
  exact Go.plain (fun T _ hx X _ r => XT.lxor X.here hx rfl hd rfl r) K
theorem Go.lshl {x : Int64} {y : Int32} (hd : decode c.code pc = .ok (.lshl, 1)) (hp : pc + 1 = pc') (K : Go p l e R s m args below meth c Z a0 EL nw fk Q vm h k n pc' L (.long (x <<< (y.toInt64 &&& 63)) :: st)) : Go p l e R s m args below meth c Z a0 EL nw fk Q vm h k n pc L (.int y :: .long x :: st) := by
  subst hp
  exact Go.plain (fun T _ hx X _ r => XT.lshl X.here hx rfl hd rfl r) K
theorem Go.lshr {x : Int64} {y : Int32} (hd : decode c.code pc = .ok (.lshr, 1)) (hp : pc + 1 = pc') (K : Go p l e R s m args below meth c Z a0 EL nw fk Q vm h k n pc' L (.long (x >>> (y.toInt64 &&& 63)) :: st)) : Go p l e R s m args below meth c Z a0 EL nw fk Q vm h k n pc L (.int y :: .long x :: st) := by
  subst hp
  exact Go.plain (fun T _ hx X _ r => XT.lshr X.here hx rfl hd rfl r) K
theorem Go.lushr {x : Int64} {y : Int32} (hd : decode c.code pc = .ok (.lushr, 1)) (hp : pc + 1 = pc') (K : Go p l e R s m args below meth c Z a0 EL nw fk Q vm h k n pc' L (.long (XT.ushrL x y) :: st)) : Go p l e R s m args below meth c Z a0 EL nw fk Q vm h k n pc L (.int y :: .long x :: st) := by
  subst hp
  exact Go.plain (fun T _ hx X _ r => XT.lushr X.here hx rfl hd rfl r) K
theorem Go.ldiv {x y : Int64} (hd : decode c.code pc = .ok (.ldiv, 1)) (hp : pc + 1 = pc') (hy : y ≠ 0) (K : Go p l e R s m args below meth c Z a0 EL nw fk Q vm h k n pc' L (.long (x / y) :: st)) : Go p l e R s m args below meth c Z a0 EL nw fk Q vm h k n pc L (.long y :: .long x :: st) := by
  subst hp
  exact Go.plain (fun T _ hx X _ r => XT.ldiv X.here hx rfl hd rfl hy r) K
theorem Go.lrem {x y : Int64} (hd : decode c.code pc = .ok (.lrem, 1)) (hp : pc + 1 = pc') (hy : y ≠ 0) (K : Go p l e R s m args below meth c Z a0 EL nw fk Q vm h k n pc' L (.long (x - (x / y) * y) :: st)) : Go p l e R s m args below meth c Z a0 EL nw fk Q vm h k n pc L (.long y :: .long x :: st) := by
  subst hp
  exact Go.plain (fun T _ hx X _ r => XT.lrem X.here hx rfl hd rfl hy r) K
theorem Go.lneg {x : Int64} (hd : decode c.code pc = .ok (.lneg, 1)) (hp : pc + 1 = pc') (K : Go p l e R s m args below meth c Z a0 EL nw fk Q vm h k n pc' L (.long (-x) :: st)) : Go p l e R s m args below meth c Z a0 EL nw fk Q vm h k n pc L (.long x :: st) := by
  subst hp
  exact Go.plain (fun T _ hx X _ r => XT.lneg X.here hx rfl hd rfl r) K
theorem Go.i2l {x : Int32} (hd : decode c.code pc = .ok (.i2l, 1)) (hp : pc + 1 = pc') (K : Go p l e R s m args below meth c Z a0 EL nw fk Q vm h k n pc' L (.long x.toInt64 :: st)) : Go p l e R s m args below meth c Z a0 EL nw fk Q vm h k n pc L (.int x :: st) := by
  subst hp
  exact Go.plain (fun T _ hx X _ r => XT.i2l X.here hx rfl hd rfl r) K
theorem Go.l2i {x : Int64} (hd : decode c.code pc = .ok (.l2i, 1)) (hp : pc + 1 = pc') (K : Go p l e R s m args below meth c Z a0 EL nw fk Q vm h k n pc' L (.int x.toInt32 :: st)) : Go p l e R s m args below meth c Z a0 EL nw fk Q vm h k n pc L (.long x :: st) := by
  subst hp
  exact Go.plain (fun T _ hx X _ r => XT.l2i X.here hx rfl hd rfl r) K
theorem Go.i2b {x : Int32} (hd : decode c.code pc = .ok (.i2b, 1)) (hp : pc + 1 = pc') (K : Go p l e R s m args below meth c Z a0 EL nw fk Q vm h k n pc' L (.int x.toInt8.toInt32 :: st)) : Go p l e R s m args below meth c Z a0 EL nw fk Q vm h k n pc L (.int x :: st) := by
  subst hp
  exact Go.plain (fun T _ hx X _ r => XT.i2b X.here hx rfl hd rfl r) K
theorem Go.i2c {x : Int32} (hd : decode c.code pc = .ok (.i2c, 1)) (hp : pc + 1 = pc') (K : Go p l e R s m args below meth c Z a0 EL nw fk Q vm h k n pc' L (.int (nar .char x) :: st)) : Go p l e R s m args below meth c Z a0 EL nw fk Q vm h k n pc L (.int x :: st) := by
  subst hp
  exact Go.plain (fun T _ hx X _ r => XT.i2c X.here hx rfl hd rfl r) K
theorem Go.i2s {x : Int32} (hd : decode c.code pc = .ok (.i2s, 1)) (hp : pc + 1 = pc') (K : Go p l e R s m args below meth c Z a0 EL nw fk Q vm h k n pc' L (.int x.toInt16.toInt32 :: st)) : Go p l e R s m args below meth c Z a0 EL nw fk Q vm h k n pc L (.int x :: st) := by
  subst hp
  exact Go.plain (fun T _ hx X _ r => XT.i2s X.here hx rfl hd rfl r) K
theorem Go.lcmp {x y : Int64} (hd : decode c.code pc = .ok (.lcmp, 1)) (hp : pc + 1 = pc') (K : Go p l e R s m args below meth c Z a0 EL nw fk Q vm h k n pc' L (.int (XT.cmpL x y) :: st)) : Go p l e R s m args below meth c Z a0 EL nw fk Q vm h k n pc L (.long y :: .long x :: st) := by
  subst hp
  exact Go.plain (fun T _ hx X _ r => XT.lcmp X.here hx rfl hd rfl r) K
theorem Go.dup {v : Value} (hd : decode c.code pc = .ok (.dup, 1)) (hp : pc + 1 = pc') (hc : v.category = 1) (K : Go p l e R s m args below meth c Z a0 EL nw fk Q vm h k n pc' L (v :: v :: st)) : Go p l e R s m args below meth c Z a0 EL nw fk Q vm h k n pc L (v :: st) := by
  subst hp
  exact Go.plain (fun T _ hx X _ r => XS.dup X.here hx rfl hd rfl hc r) K
theorem Go.pop {v : Value} (hd : decode c.code pc = .ok (.pop, 1)) (hp : pc + 1 = pc') (hc : v.category = 1) (K : Go p l e R s m args below meth c Z a0 EL nw fk Q vm h k n pc' L st) : Go p l e R s m args below meth c Z a0 EL nw fk Q vm h k n pc L (v :: st) := by
  subst hp
  exact Go.plain (fun T _ hx X _ r => XT.pop X.here hx rfl hd rfl hc r) K
theorem Go.dupX1 {v w : Value} (hd : decode c.code pc = .ok (.dup_x1, 1)) (hp : pc + 1 = pc') (hc : v.category = 1) (hc' : w.category = 1) (K : Go p l e R s m args below meth c Z a0 EL nw fk Q vm h k n pc' L (v :: w :: v :: st)) : Go p l e R s m args below meth c Z a0 EL nw fk Q vm h k n pc L (v :: w :: st) := by
  subst hp
  exact Go.plain (fun T _ hx X _ r => XT.dupX1 X.here hx rfl hd rfl hc hc' r) K
theorem Go.dup2 {v w : Value} (hd : decode c.code pc = .ok (.dup2, 1)) (hp : pc + 1 = pc') (hc : v.category = 1) (hc' : w.category = 1) (K : Go p l e R s m args below meth c Z a0 EL nw fk Q vm h k n pc' L (v :: w :: v :: w :: st)) : Go p l e R s m args below meth c Z a0 EL nw fk Q vm h k n pc L (v :: w :: st) := by
  subst hp
  exact Go.plain (fun T _ hx X _ r => XT.dup2 X.here hx rfl hd rfl hc hc' r) K
theorem Go.istoreN {q : Fin 4} {z : Int32} {L' : Array Slot} (hd : decode c.code pc = .ok (.istore_n q, 1)) (hp : pc + 1 = pc') (hl : storeLocals L q.val (.int z) = some L') (K : Go p l e R s m args below meth c Z a0 EL nw fk Q vm h k n pc' L' st) : Go p l e R s m args below meth c Z a0 EL nw fk Q vm h k n pc L (.int z :: st) := by
  subst hp
  exact Go.plain (fun T _ hx X _ r => XS.istoreN X.here hx rfl hd rfl hl r) K
theorem Go.istore {q : Nat} {z : Int32} {L' : Array Slot} (hd : decode c.code pc = .ok (.istore q, 2)) (hp : pc + 2 = pc') (hl : storeLocals L q (.int z) = some L') (K : Go p l e R s m args below meth c Z a0 EL nw fk Q vm h k n pc' L' st) : Go p l e R s m args below meth c Z a0 EL nw fk Q vm h k n pc L (.int z :: st) := by
  subst hp
  exact Go.plain (fun T _ hx X _ r => XS.istore X.here hx rfl hd rfl hl r) K
theorem Go.lstoreN {q : Fin 4} {z : Int64} {L' : Array Slot} (hd : decode c.code pc = .ok (.lstore_n q, 1)) (hp : pc + 1 = pc') (hl : storeLocals L q.val (.long z) = some L') (K : Go p l e R s m args below meth c Z a0 EL nw fk Q vm h k n pc' L' st) : Go p l e R s m args below meth c Z a0 EL nw fk Q vm h k n pc L (.long z :: st) := by
  subst hp
  exact Go.plain (fun T _ hx X _ r => XT.lstoreN X.here hx rfl hd rfl hl r) K
theorem Go.lstore {q : Nat} {z : Int64} {L' : Array Slot} (hd : decode c.code pc = .ok (.lstore q, 2)) (hp : pc + 2 = pc') (hl : storeLocals L q (.long z) = some L') (K : Go p l e R s m args below meth c Z a0 EL nw fk Q vm h k n pc' L' st) : Go p l e R s m args below meth c Z a0 EL nw fk Q vm h k n pc L (.long z :: st) := by
  subst hp
  exact Go.plain (fun T _ hx X _ r => XT.lstore X.here hx rfl hd rfl hl r) K
theorem Go.astoreN {q : Fin 4} {v : Value} {L' : Array Slot} (hd : decode c.code pc = .ok (.astore_n q, 1)) (hp : pc + 1 = pc') (hv : v.isRef = true) (hl : storeLocals L q.val v = some L') (K : Go p l e R s m args below meth c Z a0 EL nw fk Q vm h k n pc' L' st) : Go p l e R s m args below meth c Z a0 EL nw fk Q vm h k n pc L (v :: st) := by
  subst hp
  exact Go.plain (fun T _ hx X _ r => XS.astoreN X.here hx rfl hd rfl hv hl r) K
theorem Go.astore {q : Nat} {v : Value} {L' : Array Slot} (hd : decode c.code pc = .ok (.astore q, 2)) (hp : pc + 2 = pc') (hv : v.isRef = true) (hl : storeLocals L q v = some L') (K : Go p l e R s m args below meth c Z a0 EL nw fk Q vm h k n pc' L' st) : Go p l e R s m args below meth c Z a0 EL nw fk Q vm h k n pc L (v :: st) := by
  subst hp
  exact Go.plain (fun T _ hx X _ r => XS.astore X.here hx rfl hd rfl hv hl r) K
theorem Go.iinc {q : Nat} {i : Int} {x : Int32} {L' : Array Slot} (hd : decode c.code pc = .ok (.iinc q i, 3)) (hp : pc + 3 = pc') (hl : L[q]? = some (.val (.int x))) (hl' : storeLocals L q (.int (x + Int32.ofInt i)) = some L') (K : Go p l e R s m args below meth c Z a0 EL nw fk Q vm h k n pc' L' st) : Go p l e R s m args below meth c Z a0 EL nw fk Q vm h k n pc L st := by
  subst hp
  exact Go.plain (fun T _ hx X _ r => XS.iinc X.here hx rfl hd hl hl' r) K
theorem Go.irem {x y : Int32} (hd : decode c.code pc = .ok (.irem, 1)) (hp : pc + 1 = pc') (hy : y ≠ 0) (K : Go p l e R s m args below meth c Z a0 EL nw fk Q vm h k n pc' L (.int (x % y) :: st)) : Go p l e R s m args below meth c Z a0 EL nw fk Q vm h k n pc L (.int y :: .int x :: st) := by
  subst hp
  exact Go.plain (fun T _ hx X _ r => iremM X hx (g := mkF m pc L (.int y :: .int x :: st)) rfl hd rfl hy r) K
theorem Go.goto {o : Int} (hd : decode c.code pc = .ok (.goto o, 3)) (ho : 0 ≤ (pc : Int) + o) (hp : ((pc : Int) + o).toNat = pc') (K : Go p l e R s m args below meth c Z a0 EL nw fk Q vm h k n pc' L st) : Go p l e R s m args below meth c Z a0 EL nw fk Q vm h k n pc L st :=
  Go.plain (fun T _ hx X _ r => XS.goto X.here hx rfl rfl hd ho hp r) K
/-- what a comparison of ints asks -/
def cP : ClassFile.Cond → Int32 → Int32 → Prop
  | .eq, x, y => x = y
  | .ne, x, y => ¬ x = y
  | .lt, x, y => x < y
  | .ge, x, y => ¬ x < y
  | .gt, x, y => y < x
  | .le, x, y => ¬ y < x
theorem cP_t {cd : ClassFile.Cond} {x y : Int32} (q : cP cd x y) : if_icmp.holds cd x y = true := by
  cases cd
  · exact (teq q).1
  · exact (feq q).2
  · exact (tlt q).1
  · exact (flt q).2.1
  · exact (tlt q).2.2.1
  · exact (flt q).2.2.2
theorem cP_f {cd : ClassFile.Cond} {x y : Int32} (q : ¬ cP cd x y) : if_icmp.holds cd x y = false := by
  cases cd
  · exact (feq q).1
  · exact (teq (Classical.not_not.mp q)).2
  · exact (flt q).1
  · exact (tlt (Classical.not_not.mp q)).2.1
  · exact (flt q).2.2.1
  · exact (tlt (Classical.not_not.mp q)).2.2.2
theorem Go.icmp {cd : ClassFile.Cond} {x y : Int32} {o : Int} {pc2 : Nat} (hd : decode c.code pc = .ok (.if_icmp cd o, 3)) (ho : 0 ≤ (pc : Int) + o) (hp : ((pc : Int) + o).toNat = pc') (hp2 : pc + 3 = pc2) (Kt : cP cd x y → Go p l e R s m args below meth c Z a0 EL nw fk Q vm h k n pc' L st) (Kf : ¬ cP cd x y → Go p l e R s m args below meth c Z a0 EL nw fk Q vm h k n pc2 L st) : Go p l e R s m args below meth c Z a0 EL nw fk Q vm h k n pc L (.int y :: .int x :: st) := by
  subst hp2
  by_cases q : cP cd x y
  · exact Go.plain (fun T _ hx X _ r => XS.icmpYes X.here hx rfl rfl hd rfl (cP_t q) ho hp r) (Kt q)
  · exact Go.plain (fun T _ hx X _ r => XS.icmpNo X.here hx rfl hd rfl (cP_f q) r) (Kf q)
theorem Go.icmpY {cd : ClassFile.Cond} {x y : Int32} {o : Int} (hd : decode c.code pc = .ok (.if_icmp cd o, 3)) (ho : 0 ≤ (pc : Int) + o) (hp : ((pc : Int) + o).toNat = pc') (q : cP cd x y) (K : Go p l e R s m args below meth c Z a0 EL nw fk Q vm h k n pc' L st) : Go p l e R s m args below meth c Z a0 EL nw fk Q vm h k n pc L (.int y :: .int x :: st) :=
  Go.plain (fun T _ hx X _ r => XS.icmpYes X.here hx rfl rfl hd rfl (cP_t q) ho hp r) K
theorem Go.icmpN {cd : ClassFile.Cond} {x y : Int32} {o : Int} (hd : decode c.code pc = .ok (.if_icmp cd o, 3)) (hp : pc + 3 = pc') (q : ¬ cP cd x y) (K : Go p l e R s m args below meth c Z a0 EL nw fk Q vm h k n pc' L st) : Go p l e R s m args below meth c Z a0 EL nw fk Q vm h k n pc L (.int y :: .int x :: st) := by
  subst hp
  exact Go.plain (fun T _ hx X _ r => XS.icmpNo X.here hx rfl hd rfl (cP_f q) r) K
theorem Go.ifc {cd : ClassFile.Cond} {x : Int32} {o : Int} {pc2 : Nat} (hd : decode c.code pc = .ok (.ifCond cd o, 3)) (ho : 0 ≤ (pc : Int) + o) (hp : ((pc : Int) + o).toNat = pc') (hp2 : pc + 3 = pc2) (Kt : cP cd x 0 → Go p l e R s m args below meth c Z a0 EL nw fk Q vm h k n pc' L st) (Kf : ¬ cP cd x 0 → Go p l e R s m args below meth c Z a0 EL nw fk Q vm h k n pc2 L st) : Go p l e R s m args below meth c Z a0 EL nw fk Q vm h k n pc L (.int x :: st) := by
  subst hp2
  by_cases q : cP cd x 0
  · exact Go.plain (fun T _ hx X _ r => XS.ifYes X.here hx rfl rfl hd rfl ((if0 cd x).trans (cP_t q)) ho hp r) (Kt q)
  · exact Go.plain (fun T _ hx X _ r => XS.ifNo X.here hx rfl hd rfl ((if0 cd x).trans (cP_f q)) r) (Kf q)
theorem Go.ifY {cd : ClassFile.Cond} {x : Int32} {o : Int} (hd : decode c.code pc = .ok (.ifCond cd o, 3)) (ho : 0 ≤ (pc : Int) + o) (hp : ((pc : Int) + o).toNat = pc') (q : cP cd x 0) (K : Go p l e R s m args below meth c Z a0 EL nw fk Q vm h k n pc' L st) : Go p l e R s m args below meth c Z a0 EL nw fk Q vm h k n pc L (.int x :: st) :=
  Go.plain (fun T _ hx X _ r => XS.ifYes X.here hx rfl rfl hd rfl ((if0 cd x).trans (cP_t q)) ho hp r) K
theorem Go.ifN {cd : ClassFile.Cond} {x : Int32} {o : Int} (hd : decode c.code pc = .ok (.ifCond cd o, 3)) (hp : pc + 3 = pc') (q : ¬ cP cd x 0) (K : Go p l e R s m args below meth c Z a0 EL nw fk Q vm h k n pc' L st) : Go p l e R s m args below meth c Z a0 EL nw fk Q vm h k n pc L (.int x :: st) := by
  subst hp
  exact Go.plain (fun T _ hx X _ r => XS.ifNo X.here hx rfl hd rfl ((if0 cd x).trans (cP_f q)) r) K
theorem Go.ifnullY {o : Int} (hd : decode c.code pc = .ok (.ifnull o, 3)) (ho : 0 ≤ (pc : Int) + o) (hp : ((pc : Int) + o).toNat = pc') (K : Go p l e R s m args below meth c Z a0 EL nw fk Q vm h k n pc' L st) : Go p l e R s m args below meth c Z a0 EL nw fk Q vm h k n pc L (.null :: st) :=
  Go.plain (fun T _ hx X _ r => XS.ifnullYes X.here hx rfl rfl hd rfl ho hp r) K
theorem Go.ifnullN {o : Int} {b : Addr} (hd : decode c.code pc = .ok (.ifnull o, 3)) (hp : pc + 3 = pc') (K : Go p l e R s m args below meth c Z a0 EL nw fk Q vm h k n pc' L st) : Go p l e R s m args below meth c Z a0 EL nw fk Q vm h k n pc L (.ref b :: st) := by
  subst hp
  exact Go.plain (fun T _ hx X _ r => XS.ifnullNo X.here hx rfl hd rfl r) K
theorem Go.ifnonnullY {o : Int} {b : Addr} (hd : decode c.code pc = .ok (.ifnonnull o, 3)) (ho : 0 ≤ (pc : Int) + o) (hp : ((pc : Int) + o).toNat = pc') (K : Go p l e R s m args below meth c Z a0 EL nw fk Q vm h k n pc' L st) : Go p l e R s m args below meth c Z a0 EL nw fk Q vm h k n pc L (.ref b :: st) :=
  Go.plain (fun T _ hx X _ r => XT.ifnonnullYes X.here hx rfl rfl hd rfl ho hp r) K
theorem Go.ifnonnullN {o : Int} (hd : decode c.code pc = .ok (.ifnonnull o, 3)) (hp : pc + 3 = pc') (K : Go p l e R s m args below meth c Z a0 EL nw fk Q vm h k n pc' L st) : Go p l e R s m args below meth c Z a0 EL nw fk Q vm h k n pc L (.null :: st) := by
  subst hp
  exact Go.plain (fun T _ hx X _ r => XT.ifnonnullNo X.here hx rfl hd rfl r) K
theorem Go.acmpY {cd : ClassFile.ACond} {x y : Value} {o : Int} (hd : decode c.code pc = .ok (.if_acmp cd o, 3)) (ho : 0 ≤ (pc : Int) + o) (hp : ((pc : Int) + o).toNat = pc') (h1 : x.isRef = true) (h2 : y.isRef = true) (q : XT.acmp cd x y = true) (K : Go p l e R s m args below meth c Z a0 EL nw fk Q vm h k n pc' L st) : Go p l e R s m args below meth c Z a0 EL nw fk Q vm h k n pc L (y :: x :: st) :=
  Go.plain (fun T _ hx X _ r => XT.acmpYes X.here hx rfl rfl hd rfl h1 h2 q ho hp r) K
theorem Go.acmpN {cd : ClassFile.ACond} {x y : Value} {o : Int} (hd : decode c.code pc = .ok (.if_acmp cd o, 3)) (hp : pc + 3 = pc') (h1 : x.isRef = true) (h2 : y.isRef = true) (q : XT.acmp cd x y = false) (K : Go p l e R s m args below meth c Z a0 EL nw fk Q vm h k n pc' L st) : Go p l e R s m args below meth c Z a0 EL nw fk Q vm h k n pc L (y :: x :: st) := by
  subst hp
  exact Go.plain (fun T _ hx X _ r => XT.acmpNo X.here hx rfl hd rfl h1 h2 q r) K
theorem Go.getF {own R0 O nm d : String} {index : Nat} {a : Addr} {v : Value} (hown : Z.vm.findClass own = some m.cls) (w : (Jvm.Cond.fieldLink own index R0 nm d).before a0 Z = true) (via : Via Z R0 O nm d) (F : Fld Z h a O nm d v) (hd : decode c.code pc = .ok (.getfield index, 3)) (hp : pc + 3 = pc') (K : Go p l e R s m args below meth c Z a0 EL nw fk Q vm h k n pc' L (v :: st)) : Go p l e R s m args below meth c Z a0 EL nw fk Q vm h k n pc L (.ref a :: st) := fun T locs k0 hx hk hE X eT hS hk0 hF hZ hN hC hO hK hO0 => by
  subst hp
  have hown' : (s.setVm vm).vm.findClass own = some m.cls := by
    show vm.findClass own = _
    rw [hZ.alike.findClass]; exact hown
  obtain ⟨T', X', e', st'⟩ := RoadKit.getF X hx (s := s.setVm vm) hZ hown' (host := "") (Or.inl w) via eT F (g := mkF m pc L (.ref a :: st)) rfl rfl hd
  obtain ⟨t, v, L', r1, r2⟩ := K T' locs k0 hx hk hE X' e' hS hk0 hF hZ hN hC hO hK hO0
  exact ⟨t, v, L', st' _ r1, r2⟩
theorem Go.getFN {own R0 O nm d host : String} {index : Nat} {a : Addr} {v : Value} (hown : Z.vm.findClass own = some m.cls) (w : (Jvm.Cond.fieldLinkNest own index R0 nm d host).before a0 Z = true) (via : Via Z R0 O nm d) (F : Fld Z h a O nm d v) (hd : decode c.code pc = .ok (.getfield index, 3)) (hp : pc + 3 = pc') (K : Go p l e R s m args below meth c Z a0 EL nw fk Q vm h k n pc' L (v :: st)) : Go p l e R s m args below meth c Z a0 EL nw fk Q vm h k n pc L (.ref a :: st) := fun T locs k0 hx hk hE X eT hS hk0 hF hZ hN hC hO hK hO0 => by
  subst hp
  have hown' : (s.setVm vm).vm.findClass own = some m.cls := by
    show vm.findClass own = _
    rw [hZ.alike.findClass]; exact hown
  obtain ⟨T', X', e', st'⟩ := RoadKit.getF X hx (s := s.setVm vm) hZ hown' (Or.inr w) via eT F (g := mkF m pc L (.ref a :: st)) rfl rfl hd
  obtain ⟨t, v, L', r1, r2⟩ := K T' locs k0 hx hk hE X' e' hS hk0 hF hZ hN hC hO hK hO0
  exact ⟨t, v, L', st' _ r1, r2⟩
theorem Go.getS {own R0 O nm d : String} {index : Nat} {v : Value} (hown : Z.vm.findClass own = some m.cls) (w : (Jvm.Cond.fieldLink own index R0 nm d).before a0 Z = true) (via : Via Z R0 O nm d) (F : Sta Z Z.heap O nm d v) (hd : decode c.code pc = .ok (.getstatic index, 3)) (hp : pc + 3 = pc') (K : Go p l e R s m args below meth c Z a0 EL nw fk Q vm h k n pc' L (v :: st)) : Go p l e R s m args below meth c Z a0 EL nw fk Q vm h k n pc L st := fun T locs k0 hx hk hE X eT hS hk0 hF hZ hN hC hO hK hO0 => by
  subst hp
  have hown' : (s.setVm vm).vm.findClass own = some m.cls := by
    show vm.findClass own = _
    rw [hZ.alike.findClass]; exact hown
  obtain ⟨T', X', e', st'⟩ := RoadKit.getS X hx (s := s.setVm vm) hZ (host := "") hown' w via eT (F.ext hO) (g := mkF m pc L st) rfl hd
  obtain ⟨t, v, L', r1, r2⟩ := K T' locs k0 hx hk hE X' e' hS hk0 hF hZ hN hC hO hK hO0
  exact ⟨t, v, L', st' _ r1, r2⟩
theorem Go.getSN {own R0 O nm d host : String} {index : Nat} {v : Value} (hown : Z.vm.findClass own = some m.cls) (w : (Jvm.Cond.fieldLinkNest own index R0 nm d host).before a0 Z = true) (via : Via Z R0 O nm d) (F : Sta Z Z.heap O nm d v) (hd : decode c.code pc = .ok (.getstatic index, 3)) (hp : pc + 3 = pc') (K : Go p l e R s m args below meth c Z a0 EL nw fk Q vm h k n pc' L (v :: st)) : Go p l e R s m args below meth c Z a0 EL nw fk Q vm h k n pc L st := fun T locs k0 hx hk hE X eT hS hk0 hF hZ hN hC hO hK hO0 => by
  subst hp
  have hown' : (s.setVm vm).vm.findClass own = some m.cls := by
    show vm.findClass own = _
    rw [hZ.alike.findClass]; exact hown
  obtain ⟨T', X', e', st'⟩ := RoadKit.getS2 X hx (s := s.setVm vm) hZ hown' (Or.inr w) via eT (F.ext hO) (g := mkF m pc L st) rfl hd
  obtain ⟨t, v, L', r1, r2⟩ := K T' locs k0 hx hk hE X' e' hS hk0 hF hZ hN hC hO hK hO0
  exact ⟨t, v, L', st' _ r1, r2⟩
theorem Go.castY {own K0 : String} {index : Nat} {a : Addr} (hown : Z.vm.findClass own = some m.cls) (w : (Jvm.Cond.classLink own index K0).before a0 Z = true) (F : Ins Z h a K0 true) (hd : decode c.code pc = .ok (.checkcast index, 3)) (hp : pc + 3 = pc') (K : Go p l e R s m args below meth c Z a0 EL nw fk Q vm h k n pc' L (.ref a :: st)) : Go p l e R s m args below meth c Z a0 EL nw fk Q vm h k n pc L (.ref a :: st) := fun T locs k0 hx hk hE X eT hS hk0 hF hZ hN hC hO hK hO0 => by
  subst hp
  have hown' : (s.setVm vm).vm.findClass own = some m.cls := by
    show vm.findClass own = _
    rw [hZ.alike.findClass]; exact hown
  obtain ⟨T', X', e', st'⟩ := RoadKit.castY X hx (s := s.setVm vm) hZ hown' w eT F (g := mkF m pc L (.ref a :: st)) rfl rfl hd
  obtain ⟨t, v, L', r1, r2⟩ := K T' locs k0 hx hk hE X' e' hS hk0 hF hZ hN hC hO hK hO0
  exact ⟨t, v, L', st' _ r1, r2⟩
theorem Go.instY {own K0 : String} {index : Nat} {a : Addr} (hown : Z.vm.findClass own = some m.cls) (w : (Jvm.Cond.classLink own index K0).before a0 Z = true) (F : Ins Z h a K0 true) (hd : decode c.code pc = .ok (.instanceof index, 3)) (hp : pc + 3 = pc') (K : Go p l e R s m args below meth c Z a0 EL nw fk Q vm h k n pc' L (.int 1 :: st)) : Go p l e R s m args below meth c Z a0 EL nw fk Q vm h k n pc L (.ref a :: st) := fun T locs k0 hx hk hE X eT hS hk0 hF hZ hN hC hO hK hO0 => by
  subst hp
  have hown' : (s.setVm vm).vm.findClass own = some m.cls := by
    show vm.findClass own = _
    rw [hZ.alike.findClass]; exact hown
  obtain ⟨T', X', e', st'⟩ := RoadKit.instY X hx (s := s.setVm vm) hZ hown' w eT F (g := mkF m pc L (.ref a :: st)) rfl rfl hd
  obtain ⟨t, v, L', r1, r2⟩ := K T' locs k0 hx hk hE X' e' hS hk0 hF hZ hN hC hO hK hO0
  exact ⟨t, v, L', st' _ r1, r2⟩
theorem Go.instNo {own K0 C : String} {index : Nat} {a : Addr} (hown : Z.vm.findClass own = some m.cls) (w : (Jvm.Cond.classLink own index K0).before a0 Z = true) (E : Exa Z h a C) (F : ∃ c t, Z.vm.findClass C = some c ∧ Z.vm.findClass K0 = some t ∧ Z.vm.assignable c t = false) (hd : decode c.code pc = .ok (.instanceof index, 3)) (hp : pc + 3 = pc') (K : Go p l e R s m args below meth c Z a0 EL nw fk Q vm h k n pc' L (.int 0 :: st)) : Go p l e R s m args below meth c Z a0 EL nw fk Q vm h k n pc L (.ref a :: st) := fun T locs k0 hx hk hE X eT hS hk0 hF hZ hN hC hO hK hO0 => by
  subst hp
  have hown' : (s.setVm vm).vm.findClass own = some m.cls := by
    show vm.findClass own = _
    rw [hZ.alike.findClass]; exact hown
  obtain ⟨T', X', e', st'⟩ := RoadKit.instNo X hx (s := s.setVm vm) hZ hown' w eT E F (g := mkF m pc L (.ref a :: st)) rfl rfl hd
  obtain ⟨t, v, L', r1, r2⟩ := K T' locs k0 hx hk hE X' e' hS hk0 hF hZ hN hC hO hK hO0
  exact ⟨t, v, L', st' _ r1, r2⟩
theorem Go.initO {own : String} {index W : Nat} {a : Addr} (hown : Z.vm.findClass own = some m.cls) (w1 : (Jvm.Cond.methodLink own index Lib.objectInit).before a0 Z = true) (w2 : (Jvm.Cond.instanceMethod Lib.objectInit).before a0 Z = true) (w3 : (Jvm.Cond.code Lib.objectInit ⟨#[0xb1]⟩ 1 none).before a0 Z = true) (hL : L.size = c.maxLocals) (hd : decode c.code pc = .ok (.invokespecial index, 3)) (hf : 1 ≤ R.frames) (hW : (st.map fun v => v.category).sum = W) (hl : W + 12 ≤ R.locals) (hp : pc + 3 = pc') (K : Go p l e R s m args below meth c Z a0 EL nw fk Q vm h k n pc' L st) : Go p l e R s m args below meth c Z a0 EL nw fk Q vm h k n pc L (.ref a :: st) := fun T locs k0 hx hk hE X eT hS hk0 hF hZ hN hC hO hK hO0 => by
  subst hp
  have hown' : (s.setVm vm).vm.findClass own = some m.cls := by
    show vm.findClass own = _
    rw [hZ.alike.findClass]; exact hown
  obtain ⟨T', X', e', st'⟩ := RoadKit.initO X hx (s := s.setVm vm) hZ hown' w1 w2 w3 eT (g := mkF m pc L (.ref a :: st)) rfl hL rfl hd hf (W := W) (by show 2 * 0 + _ ≤ _; rw [Nat.mul_zero, Nat.zero_add]; exact Nat.le_of_eq hW) hl
  obtain ⟨t, v, L', r1, r2⟩ := K T' locs k0 hx hk hE X' e' hS hk0 hF hZ hN hC hO hK hO0
  exact ⟨t, v, L', st' _ r1, r2⟩
theorem Go.ldcInt {own : String} {index : Nat} {z : Int32} (hown : Z.vm.findClass own = some m.cls) (w : (Jvm.Cond.constant own index z).before a0 Z = true) (hd : decode c.code pc = .ok (.ldc index, 2)) (hp : pc + 2 = pc') (K : Go p l e R s m args below meth c Z a0 EL nw fk Q vm h k n pc' L (.int z :: st)) : Go p l e R s m args below meth c Z a0 EL nw fk Q vm h k n pc L st := fun T locs k0 hx hk hE X eT hS hk0 hF hZ hN hC hO hK hO0 => by
  subst hp
  have hown' : (s.setVm vm).vm.findClass own = some m.cls := by
    show vm.findClass own = _
    rw [hZ.alike.findClass]; exact hown
  obtain ⟨t, v, L', r1, r2⟩ := K T locs k0 hx hk hE X eT hS hk0 hF hZ hN hC hO hK hO0
  exact ⟨t, v, L', X.ldcInt hx hown' (mv (s := s.setVm vm) hZ w) (g := mkF m pc L st) rfl hd _ r1, r2⟩
theorem Go.ldc2Long {own : String} {index : Nat} {z : Int64} (hown : Z.vm.findClass own = some m.cls) (w : (Jvm.Cond.constantLong own index z).before a0 Z = true) (hd : decode c.code pc = .ok (.ldc2_w index, 3)) (hp : pc + 3 = pc') (K : Go p l e R s m args below meth c Z a0 EL nw fk Q vm h k n pc' L (.long z :: st)) : Go p l e R s m args below meth c Z a0 EL nw fk Q vm h k n pc L st := fun T locs k0 hx hk hE X eT hS hk0 hF hZ hN hC hO hK hO0 => by
  subst hp
  have hown' : (s.setVm vm).vm.findClass own = some m.cls := by
    show vm.findClass own = _
    rw [hZ.alike.findClass]; exact hown
  obtain ⟨t, v, L', r1, r2⟩ := K T locs k0 hx hk hE X eT hS hk0 hF hZ hN hC hO hK hO0
  exact ⟨t, v, L', X.ldc2Long hx hown' (mv (s := s.setVm vm) hZ w) (g := mkF m pc L st) rfl hd _ r1, r2⟩
theorem Go.alen {a : Addr} {kA : ClassId} {ty : FieldType} {vs : List Value} {z : Int32} (A : Ar Z h a kA ty vs) (hz : vs.length.toInt32 = z) (hd : decode c.code pc = .ok (.arraylength, 1)) (hp : pc + 1 = pc') (K : Go p l e R s m args below meth c Z a0 EL nw fk Q vm h k n pc' L (.int z :: st)) : Go p l e R s m args below meth c Z a0 EL nw fk Q vm h k n pc L (.ref a :: st) := fun T locs k0 hx hk hE X eT hS hk0 hF hZ hN hC hO hK hO0 => by
  subst hp
  obtain ⟨t, v, L', r1, r2⟩ := K T locs k0 hx hk hE X eT hS hk0 hF hZ hN hC hO hK hO0
  obtain ⟨cl, A, -, rfl⟩ := A
  refine ⟨t, v, L', X.arraylength hx (cell := cl) (by rw [eT]; exact A.1) (State.isArrayOf_alike (s := Z) (T := s.setVm vm) hZ.alike A.2.1) (g := mkF m pc L (.ref a :: st)) rfl rfl hd _ ?_, r2⟩
  have q : cl.slots.size.toInt32 = z := by rw [← hz]; simp
  rw [q]; exact r1
theorem Go.caload {a : Addr} {kA : ClassId} {vs : List Value} {j : Int32} {v : Value} (A : Ar Z h a kA .char vs) (hj : ¬ j < 0) (hv : vs[j.toNatClampNeg]? = some v) (hd : decode c.code pc = .ok (.caload, 1)) (hp : pc + 1 = pc') (K : Go p l e R s m args below meth c Z a0 EL nw fk Q vm h k n pc' L (v :: st)) : Go p l e R s m args below meth c Z a0 EL nw fk Q vm h k n pc L (.int j :: .ref a :: st) := fun T locs k0 hx hk hE X eT hS hk0 hF hZ hN hC hO hK hO0 => by
  subst hp
  obtain ⟨t, v', L', r1, r2⟩ := K T locs k0 hx hk hE X eT hS hk0 hF hZ hN hC hO hK hO0
  obtain ⟨cl, A, -, rfl⟩ := A
  rw [Array.getElem?_toList] at hv
  exact ⟨t, v', L', X.caload hx (cell := cl) (by rw [eT]; exact A.1) (State.isArrayOf_alike (s := Z) (T := s.setVm vm) hZ.alike A.2.1) A.2.2 (fun q => q.elim hj fun q => absurd (Array.getElem?_eq_some_iff.mp hv).1 (Nat.not_lt.mpr q)) hv (g := mkF m pc L (.int j :: .ref a :: st)) rfl rfl hd _ r1, r2⟩
theorem Go.baload {a : Addr} {kA : ClassId} {vs : List Value} {j : Int32} {v : Value} (A : Ar Z h a kA .byte vs) (hj : ¬ j < 0) (hv : vs[j.toNatClampNeg]? = some v) (hd : decode c.code pc = .ok (.baload, 1)) (hp : pc + 1 = pc') (K : Go p l e R s m args below meth c Z a0 EL nw fk Q vm h k n pc' L (v :: st)) : Go p l e R s m args below meth c Z a0 EL nw fk Q vm h k n pc L (.int j :: .ref a :: st) := fun T locs k0 hx hk hE X eT hS hk0 hF hZ hN hC hO hK hO0 => by
  subst hp
  obtain ⟨t, v', L', r1, r2⟩ := K T locs k0 hx hk hE X eT hS hk0 hF hZ hN hC hO hK hO0
  obtain ⟨cl, A, -, rfl⟩ := A
  rw [Array.getElem?_toList] at hv
  exact ⟨t, v', L', X.baloadBytes hx (cell := cl) (by rw [eT]; exact A.1) (State.isArrayOf_alike (s := Z) (T := s.setVm vm) hZ.alike A.2.1) A.2.2 (fun q => q.elim hj fun q => absurd (Array.getElem?_eq_some_iff.mp hv).1 (Nat.not_lt.mpr q)) hv (g := mkF m pc L (.int j :: .ref a :: st)) rfl rfl hd _ r1, r2⟩
theorem Go.iaload {a : Addr} {kA : ClassId} {vs : List Value} {j : Int32} {v : Value} (A : Ar Z h a kA .int vs) (hj : ¬ j < 0) (hv : vs[j.toNatClampNeg]? = some v) (hd : decode c.code pc = .ok (.iaload, 1)) (hp : pc + 1 = pc') (K : Go p l e R s m args below meth c Z a0 EL nw fk Q vm h k n pc' L (v :: st)) : Go p l e R s m args below meth c Z a0 EL nw fk Q vm h k n pc L (.int j :: .ref a :: st) := fun T locs k0 hx hk hE X eT hS hk0 hF hZ hN hC hO hK hO0 => by
  subst hp
  obtain ⟨t, v', L', r1, r2⟩ := K T locs k0 hx hk hE X eT hS hk0 hF hZ hN hC hO hK hO0
  obtain ⟨cl, A, -, rfl⟩ := A
  rw [Array.getElem?_toList] at hv
  exact ⟨t, v', L', X.iaload hx (cell := cl) (by rw [eT]; exact A.1) (State.isArrayOf_alike (s := Z) (T := s.setVm vm) hZ.alike A.2.1) A.2.2 (fun q => q.elim hj fun q => absurd (Array.getElem?_eq_some_iff.mp hv).1 (Nat.not_lt.mpr q)) hv (g := mkF m pc L (.int j :: .ref a :: st)) rfl rfl hd _ r1, r2⟩
theorem Go.laload {a : Addr} {kA : ClassId} {vs : List Value} {j : Int32} {v : Value} (A : Ar Z h a kA .long vs) (hj : ¬ j < 0) (hv : vs[j.toNatClampNeg]? = some v) (hd : decode c.code pc = .ok (.laload, 1)) (hp : pc + 1 = pc') (K : Go p l e R s m args below meth c Z a0 EL nw fk Q vm h k n pc' L (v :: st)) : Go p l e R s m args below meth c Z a0 EL nw fk Q vm h k n pc L (.int j :: .ref a :: st) := fun T locs k0 hx hk hE X eT hS hk0 hF hZ hN hC hO hK hO0 => by
  subst hp
  obtain ⟨t, v', L', r1, r2⟩ := K T locs k0 hx hk hE X eT hS hk0 hF hZ hN hC hO hK hO0
  obtain ⟨cl, A, -, rfl⟩ := A
  rw [Array.getElem?_toList] at hv
  exact ⟨t, v', L', X.laload hx (cell := cl) (by rw [eT]; exact A.1) (State.isArrayOf_alike (s := Z) (T := s.setVm vm) hZ.alike A.2.1) A.2.2 (fun q => q.elim hj fun q => absurd (Array.getElem?_eq_some_iff.mp hv).1 (Nat.not_lt.mpr q)) hv (g := mkF m pc L (.int j :: .ref a :: st)) rfl rfl hd _ r1, r2⟩
theorem Go.aaload {a : Addr} {kA : ClassId} {ty : FieldType} {vs : List Value} {j : Int32} {v : Value} (A : Ar Z h a kA ty vs) (hty : ty.isReference = true) (hj : ¬ j < 0) (hv : vs[j.toNatClampNeg]? = some v) (hd : decode c.code pc = .ok (.aaload, 1)) (hp : pc + 1 = pc') (K : Go p l e R s m args below meth c Z a0 EL nw fk Q vm h k n pc' L (v :: st)) : Go p l e R s m args below meth c Z a0 EL nw fk Q vm h k n pc L (.int j :: .ref a :: st) := fun T locs k0 hx hk hE X eT hS hk0 hF hZ hN hC hO hK hO0 => by
  subst hp
  obtain ⟨t, v', L', r1, r2⟩ := K T locs k0 hx hk hE X eT hS hk0 hF hZ hN hC hO hK hO0
  obtain ⟨cl, A, -, rfl⟩ := A
  rw [Array.getElem?_toList] at hv
  exact ⟨t, v', L', X.aaload hx (cell := cl) (by rw [eT]; exact A.1) (State.isArrayOf_alike (s := Z) (T := s.setVm vm) hZ.alike A.2.1) hty A.2.2 (fun q => q.elim hj fun q => absurd (Array.getElem?_eq_some_iff.mp hv).1 (Nat.not_lt.mpr q)) hv (g := mkF m pc L (.int j :: .ref a :: st)) rfl rfl hd _ r1, r2⟩
theorem Go.newO {own C : String} {index nn : Nat} (hown : Z.vm.findClass own = some m.cls) (w : (Jvm.Cond.classLink own index C).before a0 Z = true) (wi : (Jvm.Cond.instantiable C nn).before a0 Z = true) (wz : (Jvm.Cond.initialized C).before a0 Z = true) (hd : decode c.code pc = .ok (.new index, 3)) (hp : pc + 3 = pc') (hc : k + 1 ≤ R.cells) (hl : n + nn ≤ R.slots)
    (K : ∀ (h' : Heap) (a : Addr), h.size ≤ a → h'.size > a → Ext h h' → Exa Z h' a C → (∀ {O nm d : String} {ty : FieldType}, Laid Z a0 C O nm d → parseFieldDescriptor d = some ty → Fld Z h' a O nm d (defaultValue ty)) → Safe Z EL vm h' a → CHr Z EL vm h vm h' → Unt h' a → Go p l e R s m args below meth c Z a0 EL nw fk Q vm h' (k + 1) (n + nn) pc' L (.ref a :: st)) : Go p l e R s m args below meth c Z a0 EL nw fk Q vm h k n pc L st := fun T locs k0 hx hk hE X eT hS hk0 hF hZ hN hC hO hK hO0 => by
  subst hp
  have hown' : (s.setVm vm).vm.findClass own = some m.cls := by
    show vm.findClass own = _
    rw [hZ.alike.findClass]; exact hown
  obtain ⟨T', h', X', e', E', A', D', N', st'⟩ := RoadKit.newO X hx (s := s.setVm vm) hZ hown' w wi wz eT (g := mkF m pc L st) rfl hd hc hl
  obtain ⟨t, v, L', r1, r2⟩ := K h' h.size (Nat.le_refl _) A'.lt E' A' D' (Safe.ext E' hC.1 (Safe.new (Nat.le_refl _))) (CHr.ext E' hC.1) N' T' locs k0 hx hk hE X' e' hS (Nat.le_trans hk0 E'.1) hF hZ hN (hC.trans (CHr.ext E' hC.1)) (ext_trans hO E') hK hO0
  exact ⟨t, v, L', st' _ r1, r2⟩
theorem Go.newP {aty : ArrayType} {ty : FieldType} {z : Int32} {cap : Nat} (hty : newarray.typeOf aty = ty) (w : (Jvm.Cond.arrayClass ty).before a0 Z = true) (hd : decode c.code pc = .ok (.newarray aty, 2)) (hp : pc + 2 = pc') (hz : ¬ z < 0) (hcap : z.toNatClampNeg ≤ cap) (hb : cap * 8 ≤ 536870912) (hc : k + 1 ≤ R.cells) (hl : n + cap ≤ R.slots)
    (K : ∀ (h' : Heap) (a : Addr) (kA : ClassId), h.size ≤ a → h'.size > a → Ext h h' → Ar Z h' a kA ty (List.replicate z.toNatClampNeg (defaultValue ty)) → Safe Z EL vm h' a → CHr Z EL vm h vm h' → Go p l e R s m args below meth c Z a0 EL nw fk Q vm h' (k + 1) (n + cap) pc' L (.ref a :: st)) : Go p l e R s m args below meth c Z a0 EL nw fk Q vm h k n pc L (.int z :: st) := fun T locs k0 hx hk hE X eT hS hk0 hF hZ hN hC hO hK hO0 => by
  subst hp hty
  obtain ⟨T', h', cA, X', e', E', A', st'⟩ := RoadKit.newP X hx (s := s.setVm vm) hZ w eT (g := mkF m pc L (.int z :: st)) rfl hd rfl hz hcap hb hc hl
  obtain ⟨t, v, L', r1, r2⟩ := K h' h.size cA (Nat.le_refl _) A'.lt E' ⟨_, A', rfl, by simp [newA]⟩ (Safe.ext E' hC.1 (Safe.new (Nat.le_refl _))) (CHr.ext E' hC.1) T' locs k0 hx hk hE X' e' hS (Nat.le_trans hk0 E'.1) hF hZ hN (hC.trans (CHr.ext E' hC.1)) (ext_trans hO E') hK hO0
  exact ⟨t, v, L', st' _ r1, r2⟩
theorem Go.newR {own C : String} {index : Nat} {z : Int32} {cap : Nat} (hown : Z.vm.findClass own = some m.cls) (w1 : (Jvm.Cond.classLink own index C).before a0 Z = true) (w2 : (Jvm.Cond.arrayOver (.object C)).before a0 Z = true) (hd : decode c.code pc = .ok (.anewarray index, 3)) (hp : pc + 3 = pc') (hz : ¬ z < 0) (hcap : z.toNatClampNeg ≤ cap) (hb : cap * 8 ≤ 536870912) (hc : k + 1 ≤ R.cells) (hl : n + cap ≤ R.slots)
    (K : ∀ (h' : Heap) (a : Addr) (kA : ClassId), h.size ≤ a → h'.size > a → Ext h h' → Ar Z h' a kA (.object C) (List.replicate z.toNatClampNeg .null) → Ovr Z kA C → CHr Z EL vm h vm h' → Go p l e R s m args below meth c Z a0 EL nw fk Q vm h' (k + 1) (n + cap) pc' L (.ref a :: st)) : Go p l e R s m args below meth c Z a0 EL nw fk Q vm h k n pc L (.int z :: st) := fun T locs k0 hx hk hE X eT hS hk0 hF hZ hN hC hO hK hO0 => by
  subst hp
  have hown' : (s.setVm vm).vm.findClass own = some m.cls := by
    show vm.findClass own = _
    rw [hZ.alike.findClass]; exact hown
  obtain ⟨T', h', cA, X', e', E', A', O', st'⟩ := RoadKit.newR X hx (s := s.setVm vm) hZ hown' w1 w2 eT (g := mkF m pc L (.int z :: st)) rfl hd rfl hz hcap hb hc hl
  obtain ⟨t, v, L', r1, r2⟩ := K h' h.size cA (Nat.le_refl _) A'.lt E' ⟨_, A', rfl, by simp [newA, defaultValue]⟩ O' (CHr.ext E' hC.1) T' locs k0 hx hk hE X' e' hS (Nat.le_trans hk0 E'.1) hF hZ hN (hC.trans (CHr.ext E' hC.1)) (ext_trans hO E') hK hO0
  exact ⟨t, v, L', st' _ r1, r2⟩
theorem Go.putF {own R0 O nm d C : String} {index kk : Nat} {ty : FieldType} {a : Addr} {v v' old : Value} (hown : Z.vm.findClass own = some m.cls) (w : (Jvm.Cond.fieldLink own index R0 nm d).before a0 Z = true) (via : Via Z R0 O nm d) (F : Fld Z h a O nm d old) (E : Exa Z h a C)
    (Ly : (Jvm.Cond.lays C O nm d).before a0 Z = true ∨ ((Jvm.Cond.laysFinal C O nm d).before a0 Z = true ∧ own = O ∧ meth.name = "<init>")) (wi : (Jvm.Cond.instantiable C kk).before a0 Z = true) (hty : parseFieldDescriptor d = some ty) (hn : narrow ty v = v') (hf : fits ty v' = true) (hs0 : (C ≠ "java/lang/String" ∧ C ≠ "[B") ∨ Safe Z EL vm h a) (hge : Z.heap.size ≤ a) (hd : decode c.code pc = .ok (.putfield index, 3)) (hp : pc + 3 = pc')
    (K : ∀ (h' : Heap), Wr h h' a (RoadKit.slotOf Z O nm d) v' → h'.size = h.size → Keep h h' [a] → CHr Z EL vm h vm h' → Go p l e R s m args below meth c Z a0 EL nw fk Q vm h' k n pc' L st) : Go p l e R s m args below meth c Z a0 EL nw fk Q vm h k n pc L (v :: .ref a :: st) := fun T locs k0 hx hk hE X eT hS hk0 hF hZ hN hC hO hK hO0 => by
  subst hp
  have hown' : (s.setVm vm).vm.findClass own = some m.cls := by
    show vm.findClass own = _
    rw [hZ.alike.findClass]; exact hown
  have hs : Safe Z EL vm h a := hs0.elim (fun q => Safe.exa hZ.alike E q.1 q.2) id
  obtain ⟨T', h', X', e', W', st'⟩ := RoadKit.putFN X hx (s := s.setVm vm) hZ hown' w via eT F E Ly wi hty hn hf (g := mkF m pc L (v :: .ref a :: st)) rfl rfl hd
  obtain ⟨t, v, L', r1, r2⟩ := K h' W' W'.size (Keep.of_wr W') (CHr.wr W' hs hC.1) T' _ k0 hx hk hE X' e' hS (by rw [W'.size]; exact hk0) (Fr.snoc X' hF hge) hZ hN (hC.trans (CHr.wr W' hs hC.1)) (ext_wr hO W' hge) hK hO0
  exact ⟨t, v, L', st' _ r1, r2⟩
theorem Go.putFN {own R0 O nm d C host : String} {index kk : Nat} {ty : FieldType} {a : Addr} {v old : Value} (hown : Z.vm.findClass own = some m.cls) (w : (Jvm.Cond.fieldLinkNest own index R0 nm d host).before a0 Z = true) (via : Via Z R0 O nm d) (F : Fld Z h a O nm d old) (E : Exa Z h a C)
    (Ly : (Jvm.Cond.lays C O nm d).before a0 Z = true ∨ ((Jvm.Cond.laysFinal C O nm d).before a0 Z = true ∧ own = O ∧ meth.name = "<init>")) (wi : (Jvm.Cond.instantiable C kk).before a0 Z = true) (hty : parseFieldDescriptor d = some ty) (hn : narrow ty v = v) (hf : fits ty v = true) (hs0 : (C ≠ "java/lang/String" ∧ C ≠ "[B") ∨ Safe Z EL vm h a) (hge : Z.heap.size ≤ a) (hd : decode c.code pc = .ok (.putfield index, 3)) (hp : pc + 3 = pc')
    (K : ∀ (h' : Heap), Wr h h' a (RoadKit.slotOf Z O nm d) v → h'.size = h.size → Keep h h' [a] → CHr Z EL vm h vm h' → Go p l e R s m args below meth c Z a0 EL nw fk Q vm h' k n pc' L st) : Go p l e R s m args below meth c Z a0 EL nw fk Q vm h k n pc L (v :: .ref a :: st) := fun T locs k0 hx hk hE X eT hS hk0 hF hZ hN hC hO hK hO0 => by
  subst hp
  have hown' : (s.setVm vm).vm.findClass own = some m.cls := by
    show vm.findClass own = _
    rw [hZ.alike.findClass]; exact hown
  have hs : Safe Z EL vm h a := hs0.elim (fun q => Safe.exa hZ.alike E q.1 q.2) id
  obtain ⟨T', h', X', e', W', st'⟩ := RoadKit.putF X hx (s := s.setVm vm) hZ hown' (Or.inr w) via eT F E Ly wi hty hn hf (g := mkF m pc L (v :: .ref a :: st)) rfl rfl hd
  obtain ⟨t, v, L', r1, r2⟩ := K h' W' W'.size (Keep.of_wr W') (CHr.wr W' hs hC.1) T' _ k0 hx hk hE X' e' hS (by rw [W'.size]; exact hk0) (Fr.snoc X' hF hge) hZ hN (hC.trans (CHr.wr W' hs hC.1)) (ext_wr hO W' hge) hK hO0
  exact ⟨t, v, L', st' _ r1, r2⟩
theorem Go.castore {a : Addr} {kA : ClassId} {vs : List Value} {j x : Int32} (A : Ar Z h a kA .char vs) (hj : ¬ j < 0) (hlt : j.toNatClampNeg < vs.length) (hge : Z.heap.size ≤ a) (hd : decode c.code pc = .ok (.castore, 1)) (hp : pc + 1 = pc')
    (K : ∀ (h' : Heap), Ar Z h' a kA .char (vs.set j.toNatClampNeg (.int (nar .char x))) → h'.size = h.size → Keep h h' [a] → Safe Z EL vm h' a → CHr Z EL vm h vm h' → Go p l e R s m args below meth c Z a0 EL nw fk Q vm h' k n pc' L st) : Go p l e R s m args below meth c Z a0 EL nw fk Q vm h k n pc L (.int x :: .int j :: .ref a :: st) := fun T locs k0 hx hk hE X eT hS hk0 hF hZ hN hC hO hK hO0 => by
  subst hp
  have A0 := A
  have hs : Safe Z EL vm h a := A.safe hZ.alike (by intro q; cases q)
  obtain ⟨cl, A, -, e2⟩ := A
  have hin : ¬ (j < 0 ∨ cl.slots.size ≤ j.toNatClampNeg) := fun q => q.elim hj fun q => by rw [← e2] at hlt; simp at hlt; omega
  obtain ⟨T', h', X', e', W', st'⟩ := RoadKit.stC X hx (s := s.setVm vm) hZ eT A hin (g := mkF m pc L (.int x :: .int j :: .ref a :: st)) rfl rfl hd
  obtain ⟨t, v, L', r1, r2⟩ := K h' (A0.set W') W'.size (Keep.of_wr W') (Safe.wr W' hs hC.1 hs) (CHr.wr W' hs hC.1) T' _ k0 hx hk hE X' e' hS (by rw [W'.size]; exact hk0) (Fr.snoc X' hF hge) hZ hN (hC.trans (CHr.wr W' hs hC.1)) (ext_wr hO W' hge) hK hO0
  exact ⟨t, v, L', st' _ r1, r2⟩
theorem Go.bastore {a : Addr} {kA : ClassId} {vs : List Value} {j x : Int32} (A : Ar Z h a kA .byte vs) (hj : ¬ j < 0) (hlt : j.toNatClampNeg < vs.length) (hs : Safe Z EL vm h a) (hge : Z.heap.size ≤ a) (hd : decode c.code pc = .ok (.bastore, 1)) (hp : pc + 1 = pc')
    (K : ∀ (h' : Heap), Ar Z h' a kA .byte (vs.set j.toNatClampNeg (.int (nar .byte x))) → h'.size = h.size → Keep h h' [a] → Safe Z EL vm h' a → CHr Z EL vm h vm h' → Go p l e R s m args below meth c Z a0 EL nw fk Q vm h' k n pc' L st) : Go p l e R s m args below meth c Z a0 EL nw fk Q vm h k n pc L (.int x :: .int j :: .ref a :: st) := fun T locs k0 hx hk hE X eT hS hk0 hF hZ hN hC hO hK hO0 => by
  subst hp
  have A0 := A
  obtain ⟨cl, A, -, e2⟩ := A
  have hin : ¬ (j < 0 ∨ cl.slots.size ≤ j.toNatClampNeg) := fun q => q.elim hj fun q => by rw [← e2] at hlt; simp at hlt; omega
  obtain ⟨T', h', X', e', W', st'⟩ := RoadKit.stB X hx (s := s.setVm vm) hZ eT A hin (g := mkF m pc L (.int x :: .int j :: .ref a :: st)) rfl rfl hd
  obtain ⟨t, v, L', r1, r2⟩ := K h' (A0.set W') W'.size (Keep.of_wr W') (Safe.wr W' hs hC.1 hs) (CHr.wr W' hs hC.1) T' _ k0 hx hk hE X' e' hS (by rw [W'.size]; exact hk0) (Fr.snoc X' hF hge) hZ hN (hC.trans (CHr.wr W' hs hC.1)) (ext_wr hO W' hge) hK hO0
  exact ⟨t, v, L', st' _ r1, r2⟩
theorem Go.zastore {a : Addr} {kA : ClassId} {vs : List Value} {j x : Int32} (A : Ar Z h a kA .boolean vs) (hj : ¬ j < 0) (hlt : j.toNatClampNeg < vs.length) (hge : Z.heap.size ≤ a) (hd : decode c.code pc = .ok (.bastore, 1)) (hp : pc + 1 = pc')
    (K : ∀ (h' : Heap), Ar Z h' a kA .boolean (vs.set j.toNatClampNeg (.int (nar .boolean x))) → h'.size = h.size → Keep h h' [a] → Safe Z EL vm h' a → CHr Z EL vm h vm h' → Go p l e R s m args below meth c Z a0 EL nw fk Q vm h' k n pc' L st) : Go p l e R s m args below meth c Z a0 EL nw fk Q vm h k n pc L (.int x :: .int j :: .ref a :: st) := fun T locs k0 hx hk hE X eT hS hk0 hF hZ hN hC hO hK hO0 => by
  subst hp
  have A0 := A
  have hs : Safe Z EL vm h a := A.safe hZ.alike (by intro q; cases q)
  obtain ⟨cl, A, -, e2⟩ := A
  have hin : ¬ (j < 0 ∨ cl.slots.size ≤ j.toNatClampNeg) := fun q => q.elim hj fun q => by rw [← e2] at hlt; simp at hlt; omega
  obtain ⟨T', h', X', e', W', st'⟩ := RoadKit.stZ X hx (s := s.setVm vm) hZ eT A hin (g := mkF m pc L (.int x :: .int j :: .ref a :: st)) rfl rfl hd
  obtain ⟨t, v, L', r1, r2⟩ := K h' (A0.set W') W'.size (Keep.of_wr W') (Safe.wr W' hs hC.1 hs) (CHr.wr W' hs hC.1) T' _ k0 hx hk hE X' e' hS (by rw [W'.size]; exact hk0) (Fr.snoc X' hF hge) hZ hN (hC.trans (CHr.wr W' hs hC.1)) (ext_wr hO W' hge) hK hO0
  exact ⟨t, v, L', st' _ r1, r2⟩
theorem Go.iastore {a : Addr} {kA : ClassId} {vs : List Value} {j x : Int32} (A : Ar Z h a kA .int vs) (hj : ¬ j < 0) (hlt : j.toNatClampNeg < vs.length) (hge : Z.heap.size ≤ a) (hd : decode c.code pc = .ok (.iastore, 1)) (hp : pc + 1 = pc')
    (K : ∀ (h' : Heap), Ar Z h' a kA .int (vs.set j.toNatClampNeg (.int x)) → h'.size = h.size → Keep h h' [a] → Safe Z EL vm h' a → CHr Z EL vm h vm h' → Go p l e R s m args below meth c Z a0 EL nw fk Q vm h' k n pc' L st) : Go p l e R s m args below meth c Z a0 EL nw fk Q vm h k n pc L (.int x :: .int j :: .ref a :: st) := fun T locs k0 hx hk hE X eT hS hk0 hF hZ hN hC hO hK hO0 => by
  subst hp
  have A0 := A
  have hs : Safe Z EL vm h a := A.safe hZ.alike (by intro q; cases q)
  obtain ⟨cl, A, -, e2⟩ := A
  have hin : ¬ (j < 0 ∨ cl.slots.size ≤ j.toNatClampNeg) := fun q => q.elim hj fun q => by rw [← e2] at hlt; simp at hlt; omega
  obtain ⟨T', h', X', e', W', st'⟩ := RoadKit.stI X hx (s := s.setVm vm) hZ eT A hin (g := mkF m pc L (.int x :: .int j :: .ref a :: st)) rfl rfl hd
  obtain ⟨t, v, L', r1, r2⟩ := K h' (A0.set W') W'.size (Keep.of_wr W') (Safe.wr W' hs hC.1 hs) (CHr.wr W' hs hC.1) T' _ k0 hx hk hE X' e' hS (by rw [W'.size]; exact hk0) (Fr.snoc X' hF hge) hZ hN (hC.trans (CHr.wr W' hs hC.1)) (ext_wr hO W' hge) hK hO0
  exact ⟨t, v, L', st' _ r1, r2⟩
theorem Go.aastore {a : Addr} {kA : ClassId} {ty : FieldType} {vs : List Value} {j : Int32} {v : Value} (A : Ar Z h a kA ty vs) (hty : ty.isReference = true) (hj : ¬ j < 0) (hlt : j.toNatClampNeg < vs.length) (F : Sto Z h a v) (hge : Z.heap.size ≤ a) (hd : decode c.code pc = .ok (.aastore, 1)) (hp : pc + 1 = pc')
    (K : ∀ (h' : Heap), Ar Z h' a kA ty (vs.set j.toNatClampNeg v) → h'.size = h.size → Keep h h' [a] → CHr Z EL vm h vm h' → Go p l e R s m args below meth c Z a0 EL nw fk Q vm h' k n pc' L st) : Go p l e R s m args below meth c Z a0 EL nw fk Q vm h k n pc L (v :: .int j :: .ref a :: st) := fun T locs k0 hx hk hE X eT hS hk0 hF hZ hN hC hO hK hO0 => by
  subst hp
  have A0 := A
  have hs : Safe Z EL vm h a := A.safe hZ.alike (by rintro rfl; cases hty)
  obtain ⟨cl, A, -, e2⟩ := A
  have hin : ¬ (j < 0 ∨ cl.slots.size ≤ j.toNatClampNeg) := fun q => q.elim hj fun q => by rw [← e2] at hlt; simp at hlt; omega
  obtain ⟨T', h', X', e', W', st'⟩ := RoadKit.stR X hx (s := s.setVm vm) hZ eT A hin hty F (g := mkF m pc L (v :: .int j :: .ref a :: st)) rfl rfl hd
  obtain ⟨t, v, L', r1, r2⟩ := K h' (A0.set W') W'.size (Keep.of_wr W') (CHr.wr W' hs hC.1) T' _ k0 hx hk hE X' e' hS (by rw [W'.size]; exact hk0) (Fr.snoc X' hF hge) hZ hN (hC.trans (CHr.wr W' hs hC.1)) (ext_wr hO W' hge) hK hO0
  exact ⟨t, v, L', st' _ r1, r2⟩
theorem Go.know {P : Prop} (q : Z.Warmed39 vm → CHv Z EL vm h → Ext Z.heap h → P) (K : P → Go p l e R s m args below meth c Z a0 EL nw fk Q vm h k n pc L st) : Go p l e R s m args below meth c Z a0 EL nw fk Q vm h k n pc L st := fun T locs k0 hx hk hE X eT hS hk0 hF hZ hN hC hO hK hO0 => K (q hZ hC.1 hO) T locs k0 hx hk hE X eT hS hk0 hF hZ hN hC hO hK hO0
theorem Go.joinH {pcM k1 n1 : Nat} {P : Vm → Heap → Value → Prop} {F : Value → Array Slot} {S : Value → List Value} (J : ∀ vm' h' v, P vm' h' v → Go p l e R s m args below meth c Z a0 EL nw fk Q vm' h' k1 n1 pcM (F v) (S v)) (K : (∀ vm' h' v, P vm' h' v → Go p l e R s m args below meth c Z a0 EL nw fk Q vm' h' k1 n1 pcM (F v) (S v)) → Go p l e R s m args below meth c Z a0 EL nw fk Q vm h k n pc L st) : Go p l e R s m args below meth c Z a0 EL nw fk Q vm h k n pc L st := K J
theorem Go.joinI {pcM : Nat} {P : Int32 → Prop} {F : Int32 → Array Slot} {S : Int32 → List Value} (J : ∀ x, P x → Go p l e R s m args below meth c Z a0 EL nw fk Q vm h k n pcM (F x) (S x)) (K : (∀ x, P x → Go p l e R s m args below meth c Z a0 EL nw fk Q vm h k n pcM (F x) (S x)) → Go p l e R s m args below meth c Z a0 EL nw fk Q vm h k n pc L st) : Go p l e R s m args below meth c Z a0 EL nw fk Q vm h k n pc L st := K J
theorem Go.joinJ {pcM : Nat} {P : Int64 → Prop} {F : Int64 → Array Slot} {S : Int64 → List Value} (J : ∀ x, P x → Go p l e R s m args below meth c Z a0 EL nw fk Q vm h k n pcM (F x) (S x)) (K : (∀ x, P x → Go p l e R s m args below meth c Z a0 EL nw fk Q vm h k n pcM (F x) (S x)) → Go p l e R s m args below meth c Z a0 EL nw fk Q vm h k n pc L st) : Go p l e R s m args below meth c Z a0 EL nw fk Q vm h k n pc L st := K J
theorem Go.loop {pcH : Nat} {st0 : List Value} {Inv : Nat → Vm → Heap → Nat → Nat → Array Slot → Prop} (step : ∀ r vm h k n L, Inv r vm h k n L → (∀ r' vm' h' k' n' L', r' < r → Inv r' vm' h' k' n' L' → Go p l e R s m args below meth c Z a0 EL nw fk Q vm' h' k' n' pcH L' st0) → Go p l e R s m args below meth c Z a0 EL nw fk Q vm h k n pcH L st0) : ∀ r vm h k n L, Inv r vm h k n L → Go p l e R s m args below meth c Z a0 EL nw fk Q vm h k n pcH L st0 := by
  intro r
  induction r using Nat.strongRecOn with
  | ind r ih => intro vm h k n L hI; exact step r vm h k n L hI fun r' vm' h' k' n' L' hr hI' => ih r' hr vm' h' k' n' L' hI'
theorem Go.castNull {index : Nat} (hd : decode c.code pc = .ok (.checkcast index, 3)) (hp : pc + 3 = pc') (K : Go p l e R s m args below meth c Z a0 EL nw fk Q vm h k n pc' L (.null :: st)) : Go p l e R s m args below meth c Z a0 EL nw fk Q vm h k n pc L (.null :: st) := by
  subst hp
  exact Go.plain (fun T _ hx X _ r => Stand.checkcastNull X hx (g := mkF m pc L (.null :: st)) rfl (rest := st) rfl hd _ r) K
theorem Go.instNull {index : Nat} (hd : decode c.code pc = .ok (.instanceof index, 3)) (hp : pc + 3 = pc') (K : Go p l e R s m args below meth c Z a0 EL nw fk Q vm h k n pc' L (.int 0 :: st)) : Go p l e R s m args below meth c Z a0 EL nw fk Q vm h k n pc L (.null :: st) := by
  subst hp
  exact Go.plain (fun T _ hx X _ r => Stand.instanceofNull X hx (g := mkF m pc L (.null :: st)) rfl (rest := st) rfl hd _ r) K
theorem Go.ldcStr {own text : String} {index n0 : Nat} {vs : List Value} (hnw : ¬ nw) (hown : Z.vm.findClass own = some m.cls) (w : (Jvm.Cond.stringLink own index text).before a0 Z = true) (wS : ∀ a ∈ Bundle.stringAtoms, a.before a0 Z = true) (hmem : (own, index) ∈ EL)
    (ht : (∀ c ∈ text.toList, c.toNat < 256) ∧ text.toList.map (fun c => Value.int (Jvm.Lit.byteI c.toNat.toUInt16)) = vs) (hd : decode c.code pc = .ok (.ldc index, 2)) (hp : pc + 2 = pc') (hn : 4 * text.toList.length ≤ n0) (hbig : n0 ≤ 536870912) (hc : k + 2 ≤ R.cells) (hl : n + (n0 + 4) ≤ R.slots)
    (K : ∀ (vm' : Vm) (h' : Heap) (a b : Addr) (kA : ClassId), Ext h h' → CHr Z EL vm h vm' h' → Exa Z h' a "java/lang/String" → Fld Z h' a "java/lang/String" "coder" "B" (.int 0) → Fld Z h' a "java/lang/String" "value" "[B" (.ref b) → Ar Z h' b kA .byte vs → h'.size > a → h'.size > b → (∀ x, Safe Z EL vm' h' x → x ≠ a ∧ x ≠ b) → Go p l e R s m args below meth c Z a0 EL nw fk Q vm' h' (k + 2) (n + (n0 + 4)) pc' L (.ref a :: st)) : Go p l e R s m args below meth c Z a0 EL nw fk Q vm h k n pc L st := fun T locs k0 hx hk hE X eT hS hk0 hF hZ hN hC hO hK hO0 => by
  subst hp
  have hown' : (s.setVm vm).vm.findClass own = some m.cls := by
    show vm.findClass own = _
    rw [hZ.alike.findClass]; exact hown
  have hlen : vs.length = text.toList.length := by rw [← ht.2, List.length_map]
  have hz : ¬ (vs.length.toInt32 < 0) := by
    have q : vs.length < 2 ^ 31 := by omega
    have := Int32.toInt_ofNat_small q
    intro z
    have := Int32.lt_iff_toInt_lt.mp z
    have e0 : (0 : Int32).toInt = 0 := rfl
    have e1 : vs.length.toInt32.toInt = vs.length := Int32.toInt_ofNat_small q
    omega
  have hlz : vs.length.toInt32.toNatClampNeg = vs.length := by
    have q : vs.length < 2 ^ 31 := by omega
    have e1 : vs.length.toInt32.toInt = vs.length := Int32.toInt_ofNat_small q
    rw [← Int32.toNat_toInt, e1]; rfl
  obtain ⟨a, T', h', k1, b, kA, X', e', E', hS', hk', hZ', hown2, x1, x2, x3, x4, x5, x6, hC', -, hsafe, st'⟩ := ldcCH X hx hZ hown' w wS eT hS hk0 hE hmem hC.1 ht hz hlz (g := mkF m pc L st) rfl hd hn hbig hc hl
  obtain ⟨t, v, L', r1, r2⟩ := K T'.vm h' a b kA E' hC' x1 x2 x3 (Ar.of_arv x4 hlz) x5 x6 hsafe T' locs k1 hx hk hE X' e' hS' hk' hF hZ' (fun q => absurd q hnw) (hC.trans hC') (ext_trans hO E') (fun z => ⟨Vm.MethodsKnown.alikeC (hZ.alike.symm.trans (State.Warmed39.alike hZ')) (hK z).1, Vm.FramesKnown.alikeC (hZ.alike.symm.trans (State.Warmed39.alike hZ')) (hK z).2⟩) hO0
  exact ⟨t, v, L', st' _ r1, r2⟩
theorem Go.ldcRef {own text : String} {index n0 : Nat} (hnw : ¬ nw) (hown : Z.vm.findClass own = some m.cls) (w : (Jvm.Cond.stringLink own index text).before a0 Z = true) (wS : ∀ a ∈ Bundle.stringAtoms, a.before a0 Z = true)
    (hd : decode c.code pc = .ok (.ldc index, 2)) (hp : pc + 2 = pc') (hn : 4 * text.toList.length ≤ n0) (hbig : n0 ≤ 536870912) (hc : k + 2 ≤ R.cells) (hl : n + (n0 + 4) ≤ R.slots)
    (K : ∀ (vm' : Vm) (h' : Heap) (a : Addr), Ext h h' → CHr Z EL vm h vm' h' → Go p l e R s m args below meth c Z a0 EL nw fk Q vm' h' (k + 2) (n + (n0 + 4)) pc' L (.ref a :: st)) : Go p l e R s m args below meth c Z a0 EL nw fk Q vm h k n pc L st := fun T locs k0 hx hk hE X eT hS hk0 hF hZ hN hC hO hK hO0 => by
  subst hp
  have hown' : (s.setVm vm).vm.findClass own = some m.cls := by
    show vm.findClass own = _
    rw [hZ.alike.findClass]; exact hown
  obtain ⟨a, T', h', k1, X', e', E', hS', hk', hZ', hown2, hC', -, st'⟩ := ldcOH X hx hZ hown' w wS eT hS hk0 hE hC.1 (g := mkF m pc L st) rfl hd hn hbig hc hl
  obtain ⟨t, v, L', r1, r2⟩ := K T'.vm h' a E' hC' T' locs k1 hx hk hE X' e' hS' hk' hF hZ' (fun q => absurd q hnw) (hC.trans hC') (ext_trans hO E') (fun z => ⟨Vm.MethodsKnown.alikeC (hZ.alike.symm.trans (State.Warmed39.alike hZ')) (hK z).1, Vm.FramesKnown.alikeC (hZ.alike.symm.trans (State.Warmed39.alike hZ')) (hK z).2⟩) hO0
  exact ⟨t, v, L', st' _ r1, r2⟩
theorem Go.exc1 {own rc : String} {links : List Link} {ic nn W : Nat} {a : Addr} {msg : Value} (hfk : fk) (hst : l.stackTraces = true) (hown : Z.vm.findClass own = some m.cls) (hok : linksOk 1 links = true)
    (w1 : (Jvm.Cond.methodLink own ic (ctor 1 (headName links))).before a0 Z = true) (w2 : (Jvm.Cond.instanceMethod (ctor 1 (headName links))).before a0 Z = true) (wT : (chainTab 1 rc links).before a0 Z = true) (wi : (Jvm.Cond.instantiable rc nn).before a0 Z = true) (r : ∀ d ∈ twoRefs, d.before a0 Z = true)
    (E : Exa Z h a rc) (N : Unt h a) (B : Fld Z h a tN "backtrace" obD .null) (B2 : Fld Z h a tN "detailMessage" msgD .null) (hmsg : msg.isRef = true) (hrc : rc ≠ "java/lang/String" ∧ rc ≠ "[B") (hge : Z.heap.size ≤ a) (hL : L.size = c.maxLocals) (hW : (st.map fun v => v.category).sum = W)
    (hd : decode c.code pc = .ok (.invokespecial ic, 3)) (hp : pc + 3 = pc') (hf : 4 + links.length ≤ R.frames) (hlo : W + (56 + 14 * links.length) ≤ R.locals) (hc : k + 1 ≤ R.cells) (hsl : n + 2752 ≤ R.slots)
    (K : ∀ (h' : Heap), Kp Z h h' a → Keep h h' [a] → Exa Z h' a rc → Fld Z h' a tN "detailMessage" msgD msg → CHr Z EL vm h vm h' → Go p l e R s m args below meth c Z a0 EL nw fk Q vm h' (k + 1) (n + 2752) pc' L st) : Go p l e R s m args below meth c Z a0 EL nw fk Q vm h k n pc L (msg :: .ref a :: st) := fun T locs k0 hx hk hE X eT hS hk0 hF hZ hN hC hO hK hO0 => by
  subst hp
  have hown' : (s.setVm vm).vm.findClass own = some m.cls := by
    show vm.findClass own = _
    rw [hZ.alike.findClass]; exact hown
  have hs : Safe Z EL vm h a := Safe.exa hZ.alike E hrc.1 hrc.2
  obtain ⟨T', h', X', e', K', E', N', M', -, -, st'⟩ := excL1 X hx hst (s := s.setVm vm) hZ hown' hok w1 w2 wT wi r (ThS.ext hO0 ThS.start) (ThS.ext hO ThS.start) (hK hfk).1 (hK hfk).2 eT E N B B2 hmsg (g := mkF m pc L (msg :: .ref a :: st)) rfl hL rfl hd hf (by show 2 * 0 + _ + _ ≤ _; rw [Nat.mul_zero, Nat.zero_add, hW]; exact hlo) hc hsl
  have KK := keep_of_kp K'
  have C' : CHr Z EL vm h vm h' := CHr.keep KK (allS hs all0) hC.1
  obtain ⟨t, v, L', r1, r2⟩ := K h' K' KK E' M' C' T' _ k0 hx hk hE X' e' hS (Nat.le_trans hk0 KK.1) (Fr.six hF hge) hZ hN (hC.trans C') (ext_keep hO KK (allS hge all0)) hK hO0
  exact ⟨t, v, L', st' _ r1, r2⟩
theorem Go.ret (hret : meth.sig.returnType = none) (hd : decode c.code pc = .ok (.return_, 1)) (hk1 : k ≤ R.cells) (hn1 : n ≤ R.slots) (q : ∀ vm', CHr Z EL vm h vm' h → Q none vm' h) : Go p l e R s m args below meth c Z a0 EL nw fk Q vm h k n pc L [] := fun T locs k0 hx hk hE X eT hS hk0 hF hZ hN hC hO hK hO0 => by
  subst eT
  obtain ⟨fs, h1, h2, h3, h4⟩ := X.leaveW hS hk0 (v := none) (fun _ => rfl) hk
  have hA := CHv.at X hZ hE hC.1
  refine ⟨_, none, locs, X.returnOut hx hret hd h1, h2, h3, hF, q _ hA, hC.trans hA, hO, ?_, fun z => State.WarmedH.trans (t := s.setVm vm) (hN z) X.warmed⟩
  exact ⟨h4.1, h4.2.1, h4.2.2.1, h4.2.2.2.mono hk1 hn1⟩
theorem Go.retV {w : Value} {t : FieldType} {i : Instr} (hret : meth.sig.returnType = some t) (hn : narrow t w = w)
    (hi : (i = .ireturn ∧ (t = .int ∨ t = .boolean ∨ t = .byte ∨ t = .char ∨ t = .short) ∧ ∃ z, w = .int z) ∨ (i = .lreturn ∧ t = .long ∧ ∃ z, w = .long z) ∨ (i = .dreturn ∧ t = .double ∧ ∃ z, w = .double z) ∨ (i = .freturn ∧ t = .float ∧ ∃ z, w = .float z) ∨ (i = .areturn ∧ t.isReference = true ∧ w.isRef = true))
    (hd : decode c.code pc = .ok (i, 1)) (hk1 : k ≤ R.cells) (hn1 : n ≤ R.slots) (q : ∀ vm', CHr Z EL vm h vm' h → Q (some w) vm' h) : Go p l e R s m args below meth c Z a0 EL nw fk Q vm h k n pc L (w :: st) := fun T locs k0 hx hk hE X eT hS hk0 hF hZ hN hC hO hK hO0 => by
  subst eT
  obtain ⟨fs, h1, h2, h3, h4⟩ := X.leaveW hS hk0 (v := some w) (fun z => by rw [hret] at z; cases z) hk
  have hA := CHv.at X hZ hE hC.1
  refine ⟨_, some w, locs, retOut X hx hret hn hi hd h1, h2, h3, hF, q _ hA, hC.trans hA, hO, ?_, fun z => State.WarmedH.trans (t := s.setVm vm) (hN z) X.warmed⟩
  exact ⟨h4.1, h4.2.1, h4.2.2.1, h4.2.2.2.mono hk1 hn1⟩
theorem Go.retA {w : Value} {t : FieldType} (hret : meth.sig.returnType = some t) (ht : t.isReference = true) (hw : w.isRef = true) (hd : decode c.code pc = .ok (.areturn, 1)) (hk1 : k ≤ R.cells) (hn1 : n ≤ R.slots) (q : ∀ vm', CHr Z EL vm h vm' h → Q (some w) vm' h) : Go p l e R s m args below meth c Z a0 EL nw fk Q vm h k n pc L (w :: st) :=
  Go.retV hret (by cases t <;> simp [FieldType.isReference] at ht <;> cases w <;> simp [Value.isRef] at hw <;> rfl) (Or.inr (Or.inr (Or.inr (Or.inr ⟨rfl, ht, hw⟩)))) hd hk1 hn1 q
theorem Go.retI {z : Int32} (hret : meth.sig.returnType = some .int) (hd : decode c.code pc = .ok (.ireturn, 1)) (hk1 : k ≤ R.cells) (hn1 : n ≤ R.slots) (q : ∀ vm', CHr Z EL vm h vm' h → Q (some (.int z)) vm' h) : Go p l e R s m args below meth c Z a0 EL nw fk Q vm h k n pc L (.int z :: st) :=
  Go.retV hret rfl (Or.inl ⟨rfl, Or.inl rfl, _, rfl⟩) hd hk1 hn1 q
theorem Go.retJ {z : Int64} (hret : meth.sig.returnType = some .long) (hd : decode c.code pc = .ok (.lreturn, 1)) (hk1 : k ≤ R.cells) (hn1 : n ≤ R.slots) (q : ∀ vm', CHr Z EL vm h vm' h → Q (some (.long z)) vm' h) : Go p l e R s m args below meth c Z a0 EL nw fk Q vm h k n pc L (.long z :: st) :=
  Go.retV hret rfl (Or.inr (Or.inl ⟨rfl, rfl, _, rfl⟩)) hd hk1 hn1 q
theorem Go.retN {z : Int32} {t : FieldType} (hret : meth.sig.returnType = some t) (ht : t = .boolean ∨ t = .byte ∨ t = .char ∨ t = .short) (hd : decode c.code pc = .ok (.ireturn, 1)) (hk1 : k ≤ R.cells) (hn1 : n ≤ R.slots) (q : ∀ vm', CHr Z EL vm h vm' h → Q (some (.int (nar t z))) vm' h) : Go p l e R s m args below meth c Z a0 EL nw fk Q vm h k n pc L (.int z :: st) := fun T locs k0 hx hk hE X eT hS hk0 hF hZ hN hC hO hK hO0 => by
  subst eT
  obtain ⟨fs, h1, h2, h3, h4⟩ := X.leaveW hS hk0 (v := some (.int (nar t z))) (fun z => by rw [hret] at z; cases z) hk
  have hA := CHv.at X hZ hE hC.1
  refine ⟨_, some (.int (nar t z)), locs, RoadKit.retN X hx hret ht hd h1, h2, h3, hF, q _ hA, hC.trans hA, hO, ?_, fun z => State.WarmedH.trans (t := s.setVm vm) (hN z) X.warmed⟩
  exact ⟨h4.1, h4.2.1, h4.2.2.1, h4.2.2.2.mono hk1 hn1⟩
theorem Ct.of_go {ws : List Jvm.Cond} {y : MethodName} {bytes : ByteArray} {maxL : Nat} {ret : Option FieldType} {rm : Room} {as : Array Value} {sf : List Addr} {L0 : Array Slot} (hEL : EW Z a0 EL) (pn : plainFor y = true) (hL : ∀ m, entryFrame m as maxL = mkF m 0 L0 [])
    (body : ∀ (p : Program) (e : Env) (s : State) (m : MethodId) (below : List Frame) (meth : Method) (c : Code), Z.vm.findClass y.cls = some m.cls → c.code = bytes → c.maxLocals = maxL → meth.sig.returnType = ret → meth.name = y.name → Z.Warmed39 s.vm → CHv Z EL s.vm h → Ext Z.heap h → (∀ x ∈ sf, Safe Z EL s.vm h x) →
      Go p l e rm s m as below meth c Z a0 EL nw fk Q s.vm h 0 0 0 L0 []) : Ct l Z EL nw fk ws y bytes maxL ret rm as h sf Q := by
  refine MetFree.of_bodySF pn hisR ?_
  intro p e s m args below meth c s₁ Bd hml hP hK
  obtain ⟨rfl, hZ, hh, hC, hO, hsf⟩ := hP
  have hown : s.vm.findClass y.cls = some m.cls := findClass_of_methodNamed Bd.named
  have hnm := (name_of_methodNamed Bd.named Bd.method).1
  have X0 : Stand p l e rm (s.setVm s.vm) m args below meth c s₁ [] 0 0 := Stand.of_body Bd
  have e0 : s₁.heap = h := by rw [← hh, Bd.state]; rfl
  have hC0 : CHr Z EL s.vm s.heap s.vm h := by rw [hh]; exact CHr.refl hC
  obtain ⟨t, v, L', r1, r2, r3, r4, r5, r6, r7, r8, r9⟩ := body p e s m below meth c (by rw [← hZ.alike.findClass]; exact hown) Bd.bytes hml Bd.returns hnm hZ hC hO hsf s₁ [] 0 Bd.exec Bd.notSynchronized hEL X0 e0 ((State.WarmedH.refl s).since 0) (Nat.zero_le _) (Fr.nil _) hZ (fun _ => State.WarmedH.refl s) hC0 hO hK (hh ▸ hO)
  exact ⟨t, .returned v, castTop (hL m) r1, r2, r3, v, L', rfl, r4, r5, r6, r7, r9, r8⟩
theorem Ct.back {y : MethodName} {bytes : ByteArray} {maxL : Nat} {ret : Option FieldType} {rm : Room} {len W : Nat} {as : Array Value} {sf : List Addr} {Q' : Option Value → Vm → Heap → Prop} (hM : Ct l Z EL nw fk [] y bytes maxL ret rm as h sf Q')
    (hZ : Z.Warmed39 vm) (wc : (Jvm.Cond.code y bytes maxL ret).before a0 Z = true) (wz : (Jvm.Cond.initialized y.cls).before a0 Z = true) (hf : rm.frames + 1 ≤ R.frames) (hl : W + (maxL + 11) + rm.locals ≤ R.locals) (hEL : EW Z a0 EL) (H : CHv Z EL vm h) (hO : Ext Z.heap h) (hsf : ∀ x ∈ sf, h.size > x ∧ Safe Z EL vm h x) (hKK : fk → vm.MethodsKnown ∧ vm.FramesKnown below) :
    BackS l R p e below (s.setVm vm) args y len W (fun A a => a = as ∧ A.U.heap = h ∧ A.cells + rm.cells ≤ R.cells ∧ A.slots + rm.slots ≤ R.slots)
      (fun A _ v B => ∃ L, B.locs = A.locs ++ L ∧ B.cells = A.cells + rm.cells ∧ B.slots = A.slots + rm.slots ∧ Fr Z.heap.size L ∧ Q' v B.U.vm B.U.heap ∧ CHr Z EL vm h B.U.vm B.U.heap ∧ Ext Z.heap B.U.heap ∧ (nw → (s.setVm vm).WarmedH B.U.vm)) :=
  BackS.of_freeWG (bytes := bytes) (maxL := maxL) (ret := ret) (E := fun _ first o t L k n => k = rm.cells ∧ n = rm.slots ∧ ∃ v, o = .returned v ∧ Fr Z.heap.size L ∧ Q' v t.vm t.heap ∧ CHr Z EL first.vm first.heap t.vm t.heap ∧ Ext Z.heap t.heap ∧ (nw → first.WarmedH t.vm)) hM hf hl
    (fun m meth c A a Y hp => have hU : Z.Warmed39 A.U.vm := wtrans (s := s.setVm vm) hZ Y.warmed
      ⟨by show (Jvm.Cond.and _ .tt).before a A.U = true; rw [Cond.before_and, mv hU wc]; rfl, mv hU wc, mv hU wz, hp.2.2.1, hp.2.2.2⟩)
    (fun m meth c A a g mk Y hp => ⟨hp.1, wtrans (s := s.setVm vm) hZ Y.warmed, hp.2.1, (CHv.at Y hZ hEL H).1, hO, fun x hx => (CHv.at Y hZ hEL H).safe (hsf x hx).1 (hsf x hx).2⟩) (fun m meth c A a g mk Y _ hg z => known_frames Y hg (hKK z).1 (hKK z).2)
    (fun _ _ _ _ ⟨v, L, h1, h2, h3, h4, h5, h6, h7⟩ => ⟨L, _, _, h7, rfl, rfl, v, h1, h2, h3, h4, h5, h6⟩)
    (fun m meth c A a g mk v t L k n Y hp _ _ ⟨e1, e2, v', e3, e4, e5, e6, e7, e8⟩ => by
      cases e3; subst e1 e2
      refine ⟨L, rfl, rfl, rfl, e4, e5, (CHv.at Y hZ hEL H).trans ?_, e7, fun z => State.WarmedH.trans Y.warmed (e8 z)⟩
      rw [← hp.2.1]; exact e6)
theorem nf_warm {y : MethodName} (hZ : Z.Warmed39 vm) (nf : NotFace Z y) : NotFace (s.setVm vm) y := fun r0 hr => by
  have q : Z.methodNamed? y = some r0 := by
    have := State.methodNamed?_setVm (s := Z) (vm' := vm) hZ.alike y
    rw [← this]; exact hr
  obtain ⟨kr, h1, h2⟩ := nf r0 q
  obtain ⟨kr', g1, g2⟩ := hZ.alike.2.2 _ _ h1
  exact ⟨kr', g1, by rw [g2]; exact h2⟩
theorem Go.callS {own : String} {y : MethodName} {bytes : ByteArray} {maxL : Nat} {ret : Option FieldType} {rm : Room} {W index : Nat} {argsL : List Value} {as : Array Value} {sf : List Addr} {Q' : Option Value → Vm → Heap → Prop} (hM : Ct l Z EL nw fk [] y bytes maxL ret rm as h sf Q') (hown : Z.vm.findClass own = some m.cls) (w1 : (Jvm.Cond.methodLink own index y).before a0 Z = true) (w2 : (Jvm.Cond.static y).before a0 Z = true) (wc : (Jvm.Cond.code y bytes maxL ret).before a0 Z = true) (wz : (Jvm.Cond.initialized y.cls).before a0 Z = true)
    (hy : y.cls ≠ "java/lang/invoke/MethodHandle" ∧ y.cls ≠ "java/lang/invoke/VarHandle") (hlen : ∀ sig, parseMethodDescriptor y.desc = some sig → argsL.length = sig.parameters.length) (has : as = argsL.toArray) (hL : L.size = c.maxLocals) (hW : (st.map fun v => v.category).sum = W) (hd : decode c.code pc = .ok (.invokestatic index, 3)) (hp : pc + 3 = pc') (hf : rm.frames + 1 ≤ R.frames) (hl : W + (maxL + 11) + rm.locals ≤ R.locals) (hc1 : k + rm.cells ≤ R.cells) (hc2 : n + rm.slots ≤ R.slots) (hsf : ∀ x ∈ sf, h.size > x ∧ Safe Z EL vm h x)
    (K : ∀ (v : Option Value) (vm' : Vm) (h' : Heap), Q' v vm' h' → CHr Z EL vm h vm' h' → Go p l e R s m args below meth c Z a0 EL nw fk Q vm' h' (k + rm.cells) (n + rm.slots) pc' L (v.toList ++ st)) : Go p l e R s m args below meth c Z a0 EL nw fk Q vm h k n pc L (argsL.reverse ++ st) := fun T locs k0 hx hk hE X eT hS hk0 hF hZ hN hC hO hK hO0 => by
  subst hp has
  have hown' : (s.setVm vm).vm.findClass own = some m.cls := by
    show vm.findClass own = _
    rw [hZ.alike.findClass]; exact hown
  have hWW : 2 * (mkF m pc L (argsL.reverse ++ st)).monitorRoom + (st.map fun v => v.category).sum ≤ W := by show 2 * 0 + _ ≤ _; rw [Nat.mul_zero, Nat.zero_add]; exact Nat.le_of_eq hW
  have hB := fun len => Ct.back (p := p) (e := e) (below := below) (s := s) (args := args) (len := len) hM hZ wc wz hf hl hE hC.1 hO hsf hK
  obtain ⟨v, vm1, ⟨T', L1, k1, n1⟩, -, X', hS', hg', hP', st'⟩ := callSS X hx hown' (mv (s := s.setVm vm) hZ w1) (mv (s := s.setVm vm) hZ w2) (mv (s := s.setVm vm) hZ wz) (mv (s := s.setVm vm) hZ wc) hy (hB 3) (g := mkF m pc L (argsL.reverse ++ st)) rfl hL hlen rfl hWW hd (fun _ _ => ⟨rfl, eT, hc1, hc2⟩)
  dsimp only [Pt.U, Pt.locs, Pt.cells, Pt.slots] at X' hS' hg' hP' st'
  obtain ⟨L2, rfl, rfl, rfl, q1, q2, q3, q4, q5⟩ := hP'
  obtain ⟨t, v', L', r1, r2⟩ := K v T'.vm T'.heap q2 q3 T' _ _ hx hk hE X' rfl (hS.trans hS' (Nat.le_trans hk0 (by rw [← eT]; exact hg'))) (Nat.le_refl _) (Fr.app hF q1) (State.Warmed39.trans (t := s.setVm vm) hZ hS'.1) (fun z => State.WarmedH.trans (t := s.setVm vm) (hN z) (q5 z)) (hC.trans q3) q4 (fun z => ⟨Vm.MethodsKnown.alikeC (State.Warmed39.alike (s := s.setVm vm) hS'.1) (hK z).1, Vm.FramesKnown.alikeC (State.Warmed39.alike (s := s.setVm vm) hS'.1) (hK z).2⟩) hO0
  exact ⟨t, v', L', st'.trans r1, r2⟩
theorem Go.callSN {own host : String} {y : MethodName} {bytes : ByteArray} {maxL : Nat} {ret : Option FieldType} {rm : Room} {W index : Nat} {argsL : List Value} {as : Array Value} {sf : List Addr} {Q' : Option Value → Vm → Heap → Prop} (hM : Ct l Z EL nw fk [] y bytes maxL ret rm as h sf Q') (hown : Z.vm.findClass own = some m.cls) (w1 : (Jvm.Cond.methodLinkNest own index y host).before a0 Z = true) (w2 : (Jvm.Cond.static y).before a0 Z = true) (wc : (Jvm.Cond.code y bytes maxL ret).before a0 Z = true) (wz : (Jvm.Cond.initialized y.cls).before a0 Z = true)
    (hy : y.cls ≠ "java/lang/invoke/MethodHandle" ∧ y.cls ≠ "java/lang/invoke/VarHandle") (hlen : ∀ sig, parseMethodDescriptor y.desc = some sig → argsL.length = sig.parameters.length) (has : as = argsL.toArray) (hL : L.size = c.maxLocals) (hW : (st.map fun v => v.category).sum = W) (hd : decode c.code pc = .ok (.invokestatic index, 3)) (hp : pc + 3 = pc') (hf : rm.frames + 1 ≤ R.frames) (hl : W + (maxL + 11) + rm.locals ≤ R.locals) (hc1 : k + rm.cells ≤ R.cells) (hc2 : n + rm.slots ≤ R.slots) (hsf : ∀ x ∈ sf, h.size > x ∧ Safe Z EL vm h x)
    (K : ∀ (v : Option Value) (vm' : Vm) (h' : Heap), Q' v vm' h' → CHr Z EL vm h vm' h' → Go p l e R s m args below meth c Z a0 EL nw fk Q vm' h' (k + rm.cells) (n + rm.slots) pc' L (v.toList ++ st)) : Go p l e R s m args below meth c Z a0 EL nw fk Q vm h k n pc L (argsL.reverse ++ st) := fun T locs k0 hx hk hE X eT hS hk0 hF hZ hN hC hO hK hO0 => by
  subst hp has
  have hown' : (s.setVm vm).vm.findClass own = some m.cls := by
    show vm.findClass own = _
    rw [hZ.alike.findClass]; exact hown
  have hWW : 2 * (mkF m pc L (argsL.reverse ++ st)).monitorRoom + (st.map fun v => v.category).sum ≤ W := by show 2 * 0 + _ ≤ _; rw [Nat.mul_zero, Nat.zero_add]; exact Nat.le_of_eq hW
  have hB := fun len => Ct.back (p := p) (e := e) (below := below) (s := s) (args := args) (len := len) hM hZ wc wz hf hl hE hC.1 hO hsf hK
  obtain ⟨v, vm1, ⟨T', L1, k1, n1⟩, -, X', hS', hg', hP', st'⟩ := callSNS X hx hown' (Cond.methodLinkNest_wide hZ w1 :) (mv (s := s.setVm vm) hZ w2) (mv (s := s.setVm vm) hZ wz) (mv (s := s.setVm vm) hZ wc) hy (hB 3) (g := mkF m pc L (argsL.reverse ++ st)) rfl hL hlen rfl hWW hd (fun _ _ => ⟨rfl, eT, hc1, hc2⟩)
  dsimp only [Pt.U, Pt.locs, Pt.cells, Pt.slots] at X' hS' hg' hP' st'
  obtain ⟨L2, rfl, rfl, rfl, q1, q2, q3, q4, q5⟩ := hP'
  obtain ⟨t, v', L', r1, r2⟩ := K v T'.vm T'.heap q2 q3 T' _ _ hx hk hE X' rfl (hS.trans hS' (Nat.le_trans hk0 (by rw [← eT]; exact hg'))) (Nat.le_refl _) (Fr.app hF q1) (State.Warmed39.trans (t := s.setVm vm) hZ hS'.1) (fun z => State.WarmedH.trans (t := s.setVm vm) (hN z) (q5 z)) (hC.trans q3) q4 (fun z => ⟨Vm.MethodsKnown.alikeC (State.Warmed39.alike (s := s.setVm vm) hS'.1) (hK z).1, Vm.FramesKnown.alikeC (State.Warmed39.alike (s := s.setVm vm) hS'.1) (hK z).2⟩) hO0
  exact ⟨t, v', L', st'.trans r1, r2⟩
theorem Go.callC {own : String} {a : Addr} {y : MethodName} {bytes : ByteArray} {maxL : Nat} {ret : Option FieldType} {rm : Room} {W index : Nat} {argsL : List Value} {as : Array Value} {sf : List Addr} {Q' : Option Value → Vm → Heap → Prop} (hM : Ct l Z EL nw fk [] y bytes maxL ret rm as h sf Q') (hown : Z.vm.findClass own = some m.cls) (hret0 : ret = none) (hinit : y.name = "<init>") (w1 : (Jvm.Cond.methodLink own index y).before a0 Z = true) (w2 : (Jvm.Cond.instanceMethod y).before a0 Z = true) (wc : (Jvm.Cond.code y bytes maxL ret).before a0 Z = true) (wz : (Jvm.Cond.initialized y.cls).before a0 Z = true)
    (hy : y.cls ≠ "java/lang/invoke/MethodHandle" ∧ y.cls ≠ "java/lang/invoke/VarHandle") (hlen : ∀ sig, parseMethodDescriptor y.desc = some sig → argsL.length = sig.parameters.length) (has : as = (.ref a :: argsL).toArray) (hL : L.size = c.maxLocals) (hW : (st.map fun v => v.category).sum = W) (hd : decode c.code pc = .ok (.invokespecial index, 3)) (hp : pc + 3 = pc') (hf : rm.frames + 1 ≤ R.frames) (hl : W + (maxL + 11) + rm.locals ≤ R.locals) (hc1 : k + rm.cells ≤ R.cells) (hc2 : n + rm.slots ≤ R.slots) (hsf : ∀ x ∈ sf, h.size > x ∧ Safe Z EL vm h x)
    (K : ∀ (v : Option Value) (vm' : Vm) (h' : Heap), Q' v vm' h' → CHr Z EL vm h vm' h' → Go p l e R s m args below meth c Z a0 EL nw fk Q vm' h' (k + rm.cells) (n + rm.slots) pc' L (v.toList ++ st)) : Go p l e R s m args below meth c Z a0 EL nw fk Q vm h k n pc L (argsL.reverse ++ .ref a :: st) := fun T locs k0 hx hk hE X eT hS hk0 hF hZ hN hC hO hK hO0 => by
  subst hp has
  have hown' : (s.setVm vm).vm.findClass own = some m.cls := by
    show vm.findClass own = _
    rw [hZ.alike.findClass]; exact hown
  have hWW : 2 * (mkF m pc L (argsL.reverse ++ .ref a :: st)).monitorRoom + (st.map fun v => v.category).sum ≤ W := by show 2 * 0 + _ ≤ _; rw [Nat.mul_zero, Nat.zero_add]; exact Nat.le_of_eq hW
  have hB := fun len => Ct.back (p := p) (e := e) (below := below) (s := s) (args := args) (len := len) hM hZ wc wz hf hl hE hC.1 hO hsf hK
  subst hret0
  obtain ⟨v, vm1, ⟨T', L1, k1, n1⟩, -, X', hS', hg', hP', st'⟩ := X.specialBackS hx hinit hown' (mv (s := s.setVm vm) hZ w1) (mv (s := s.setVm vm) hZ w2) (mv (s := s.setVm vm) hZ wc) hy (hB 3) (g := mkF m pc L (argsL.reverse ++ .ref a :: st)) rfl hL (Steps.refl _) (a := a) (argsL := argsL) (rest := st) hlen rfl hWW hd (fun _ _ => ⟨rfl, eT, hc1, hc2⟩)
  dsimp only [Pt.U, Pt.locs, Pt.cells, Pt.slots] at X' hS' hg' hP' st'
  obtain ⟨L2, rfl, rfl, rfl, q1, q2, q3, q4, q5⟩ := hP'
  obtain ⟨t, v', L', r1, r2⟩ := K v T'.vm T'.heap q2 q3 T' _ _ hx hk hE X' rfl (hS.trans hS' (Nat.le_trans hk0 (by rw [← eT]; exact hg'))) (Nat.le_refl _) (Fr.app hF q1) (State.Warmed39.trans (t := s.setVm vm) hZ hS'.1) (fun z => State.WarmedH.trans (t := s.setVm vm) (hN z) (q5 z)) (hC.trans q3) q4 (fun z => ⟨Vm.MethodsKnown.alikeC (State.Warmed39.alike (s := s.setVm vm) hS'.1) (hK z).1, Vm.FramesKnown.alikeC (State.Warmed39.alike (s := s.setVm vm) hS'.1) (hK z).2⟩) hO0
  exact ⟨t, v', L', st'.trans r1, r2⟩
theorem Go.callCN {own host : String} {a : Addr} {y : MethodName} {bytes : ByteArray} {maxL : Nat} {ret : Option FieldType} {rm : Room} {W index : Nat} {argsL : List Value} {as : Array Value} {sf : List Addr} {Q' : Option Value → Vm → Heap → Prop} (hM : Ct l Z EL nw fk [] y bytes maxL ret rm as h sf Q') (hown : Z.vm.findClass own = some m.cls) (hret0 : ret = none) (hinit : y.name = "<init>") (w1 : (Jvm.Cond.methodLinkNest own index y host).before a0 Z = true) (w2 : (Jvm.Cond.instanceMethod y).before a0 Z = true) (wc : (Jvm.Cond.code y bytes maxL ret).before a0 Z = true) (wz : (Jvm.Cond.initialized y.cls).before a0 Z = true)
    (hy : y.cls ≠ "java/lang/invoke/MethodHandle" ∧ y.cls ≠ "java/lang/invoke/VarHandle") (hlen : ∀ sig, parseMethodDescriptor y.desc = some sig → argsL.length = sig.parameters.length) (has : as = (.ref a :: argsL).toArray) (hL : L.size = c.maxLocals) (hW : (st.map fun v => v.category).sum = W) (hd : decode c.code pc = .ok (.invokespecial index, 3)) (hp : pc + 3 = pc') (hf : rm.frames + 1 ≤ R.frames) (hl : W + (maxL + 11) + rm.locals ≤ R.locals) (hc1 : k + rm.cells ≤ R.cells) (hc2 : n + rm.slots ≤ R.slots) (hsf : ∀ x ∈ sf, h.size > x ∧ Safe Z EL vm h x)
    (K : ∀ (v : Option Value) (vm' : Vm) (h' : Heap), Q' v vm' h' → CHr Z EL vm h vm' h' → Go p l e R s m args below meth c Z a0 EL nw fk Q vm' h' (k + rm.cells) (n + rm.slots) pc' L (v.toList ++ st)) : Go p l e R s m args below meth c Z a0 EL nw fk Q vm h k n pc L (argsL.reverse ++ .ref a :: st) := fun T locs k0 hx hk hE X eT hS hk0 hF hZ hN hC hO hK hO0 => by
  subst hp has
  have hown' : (s.setVm vm).vm.findClass own = some m.cls := by
    show vm.findClass own = _
    rw [hZ.alike.findClass]; exact hown
  have hWW : 2 * (mkF m pc L (argsL.reverse ++ .ref a :: st)).monitorRoom + (st.map fun v => v.category).sum ≤ W := by show 2 * 0 + _ ≤ _; rw [Nat.mul_zero, Nat.zero_add]; exact Nat.le_of_eq hW
  have hB := fun len => Ct.back (p := p) (e := e) (below := below) (s := s) (args := args) (len := len) hM hZ wc wz hf hl hE hC.1 hO hsf hK
  subst hret0
  obtain ⟨v, vm1, ⟨T', L1, k1, n1⟩, -, X', hS', hg', hP', st'⟩ := X.specialBackNestS hx hinit hown' (Cond.methodLinkNest_wide hZ w1 :) (mv (s := s.setVm vm) hZ w2) (mv (s := s.setVm vm) hZ wc) hy (hB 3) (g := mkF m pc L (argsL.reverse ++ .ref a :: st)) rfl hL (Steps.refl _) (a := a) (argsL := argsL) (rest := st) hlen rfl hWW hd (fun _ _ => ⟨rfl, eT, hc1, hc2⟩)
  dsimp only [Pt.U, Pt.locs, Pt.cells, Pt.slots] at X' hS' hg' hP' st'
  obtain ⟨L2, rfl, rfl, rfl, q1, q2, q3, q4, q5⟩ := hP'
  obtain ⟨t, v', L', r1, r2⟩ := K v T'.vm T'.heap q2 q3 T' _ _ hx hk hE X' rfl (hS.trans hS' (Nat.le_trans hk0 (by rw [← eT]; exact hg'))) (Nat.le_refl _) (Fr.app hF q1) (State.Warmed39.trans (t := s.setVm vm) hZ hS'.1) (fun z => State.WarmedH.trans (t := s.setVm vm) (hN z) (q5 z)) (hC.trans q3) q4 (fun z => ⟨Vm.MethodsKnown.alikeC (State.Warmed39.alike (s := s.setVm vm) hS'.1) (hK z).1, Vm.FramesKnown.alikeC (State.Warmed39.alike (s := s.setVm vm) hS'.1) (hK z).2⟩) hO0
  exact ⟨t, v', L', st'.trans r1, r2⟩
theorem Go.callV {own C : String} {a : Addr} {y0 : MethodName} {y : MethodName} {bytes : ByteArray} {maxL : Nat} {ret : Option FieldType} {rm : Room} {W index : Nat} {argsL : List Value} {as : Array Value} {sf : List Addr} {Q' : Option Value → Vm → Heap → Prop} (hM : Ct l Z EL nw fk [] y bytes maxL ret rm as h sf Q') (hown : Z.vm.findClass own = some m.cls) (w1 : (Jvm.Cond.methodLink own index y0).before a0 Z = true) (w2 : (Jvm.Cond.declares y0).before a0 Z = true) (nf : NotFace Z y0) (w3 : (Jvm.Cond.selects C y0 y).before a0 Z = true) (w4 : (Jvm.Cond.instanceMethod y).before a0 Z = true) (E : Exa Z h a C) (wc : (Jvm.Cond.code y bytes maxL ret).before a0 Z = true) (wz : (Jvm.Cond.initialized y.cls).before a0 Z = true)
    (hy : y0.cls ≠ "java/lang/invoke/MethodHandle" ∧ y0.cls ≠ "java/lang/invoke/VarHandle") (hlen : ∀ sig, parseMethodDescriptor y0.desc = some sig → argsL.length = sig.parameters.length) (has : as = (.ref a :: argsL).toArray) (hL : L.size = c.maxLocals) (hW : (st.map fun v => v.category).sum = W) (hd : decode c.code pc = .ok (.invokevirtual index, 3)) (hp : pc + 3 = pc') (hf : rm.frames + 1 ≤ R.frames) (hl : W + (maxL + 11) + rm.locals ≤ R.locals) (hc1 : k + rm.cells ≤ R.cells) (hc2 : n + rm.slots ≤ R.slots) (hsf : ∀ x ∈ sf, h.size > x ∧ Safe Z EL vm h x)
    (K : ∀ (v : Option Value) (vm' : Vm) (h' : Heap), Q' v vm' h' → CHr Z EL vm h vm' h' → Go p l e R s m args below meth c Z a0 EL nw fk Q vm' h' (k + rm.cells) (n + rm.slots) pc' L (v.toList ++ st)) : Go p l e R s m args below meth c Z a0 EL nw fk Q vm h k n pc L (argsL.reverse ++ .ref a :: st) := fun T locs k0 hx hk hE X eT hS hk0 hF hZ hN hC hO hK hO0 => by
  subst hp has
  have hown' : (s.setVm vm).vm.findClass own = some m.cls := by
    show vm.findClass own = _
    rw [hZ.alike.findClass]; exact hown
  have hWW : 2 * (mkF m pc L (argsL.reverse ++ .ref a :: st)).monitorRoom + (st.map fun v => v.category).sum ≤ W := by show 2 * 0 + _ ≤ _; rw [Nat.mul_zero, Nat.zero_add]; exact Nat.le_of_eq hW
  have hB := fun len => Ct.back (p := p) (e := e) (below := below) (s := s) (args := args) (len := len) hM hZ wc wz hf hl hE hC.1 hO hsf hK
  obtain ⟨cB, kB, qa, qb, qc⟩ := isOf (s := s.setVm vm) (T := T) hZ eT E
  obtain ⟨v, vm1, ⟨T', L1, k1, n1⟩, -, X', hS', hg', hP', st'⟩ := X.virtualBackS hx hown' (mv (s := s.setVm vm) hZ w1) (mv (s := s.setVm vm) hZ w2) (nf_warm hZ nf) (mv (s := s.setVm vm) hZ w3) (mv (s := s.setVm vm) hZ w4) hy (hB 3) qa qc (g := mkF m pc L (argsL.reverse ++ .ref a :: st)) rfl hL (Steps.refl _) (argsL := argsL) (rest := st) hlen rfl hWW hd (fun _ _ => ⟨rfl, eT, hc1, hc2⟩)
  dsimp only [Pt.U, Pt.locs, Pt.cells, Pt.slots] at X' hS' hg' hP' st'
  obtain ⟨L2, rfl, rfl, rfl, q1, q2, q3, q4, q5⟩ := hP'
  obtain ⟨t, v', L', r1, r2⟩ := K v T'.vm T'.heap q2 q3 T' _ _ hx hk hE X' rfl (hS.trans hS' (Nat.le_trans hk0 (by rw [← eT]; exact hg'))) (Nat.le_refl _) (Fr.app hF q1) (State.Warmed39.trans (t := s.setVm vm) hZ hS'.1) (fun z => State.WarmedH.trans (t := s.setVm vm) (hN z) (q5 z)) (hC.trans q3) q4 (fun z => ⟨Vm.MethodsKnown.alikeC (State.Warmed39.alike (s := s.setVm vm) hS'.1) (hK z).1, Vm.FramesKnown.alikeC (State.Warmed39.alike (s := s.setVm vm) hS'.1) (hK z).2⟩) hO0
  exact ⟨t, v', L', st'.trans r1, r2⟩
theorem Go.callVU {own C owner : String} {a : Addr} {y0 : MethodName} {y : MethodName} {bytes : ByteArray} {maxL : Nat} {ret : Option FieldType} {rm : Room} {W index : Nat} {argsL : List Value} {as : Array Value} {sf : List Addr} {Q' : Option Value → Vm → Heap → Prop} (hM : Ct l Z EL nw fk [] y bytes maxL ret rm as h sf Q') (hown : Z.vm.findClass own = some m.cls) (w1 : (Jvm.Cond.methodLink own index y0).before a0 Z = true) (w2 : (Jvm.Cond.sameMethod y0.cls owner y0.name y0.desc).before a0 Z = true) (w5 : (Jvm.Cond.declares ⟨owner, y0.name, y0.desc⟩).before a0 Z = true) (w3 : (Jvm.Cond.selects C y0 y).before a0 Z = true) (w4 : (Jvm.Cond.instanceMethod y).before a0 Z = true) (E : Exa Z h a C) (wc : (Jvm.Cond.code y bytes maxL ret).before a0 Z = true) (wz : (Jvm.Cond.initialized y.cls).before a0 Z = true)
    (hy : owner ≠ "java/lang/invoke/MethodHandle" ∧ owner ≠ "java/lang/invoke/VarHandle") (hlen : ∀ sig, parseMethodDescriptor y0.desc = some sig → argsL.length = sig.parameters.length) (has : as = (.ref a :: argsL).toArray) (hL : L.size = c.maxLocals) (hW : (st.map fun v => v.category).sum = W) (hd : decode c.code pc = .ok (.invokevirtual index, 3)) (hp : pc + 3 = pc') (hf : rm.frames + 1 ≤ R.frames) (hl : W + (maxL + 11) + rm.locals ≤ R.locals) (hc1 : k + rm.cells ≤ R.cells) (hc2 : n + rm.slots ≤ R.slots) (hsf : ∀ x ∈ sf, h.size > x ∧ Safe Z EL vm h x)
    (K : ∀ (v : Option Value) (vm' : Vm) (h' : Heap), Q' v vm' h' → CHr Z EL vm h vm' h' → Go p l e R s m args below meth c Z a0 EL nw fk Q vm' h' (k + rm.cells) (n + rm.slots) pc' L (v.toList ++ st)) : Go p l e R s m args below meth c Z a0 EL nw fk Q vm h k n pc L (argsL.reverse ++ .ref a :: st) := fun T locs k0 hx hk hE X eT hS hk0 hF hZ hN hC hO hK hO0 => by
  subst hp has
  have hown' : (s.setVm vm).vm.findClass own = some m.cls := by
    show vm.findClass own = _
    rw [hZ.alike.findClass]; exact hown
  have hWW : 2 * (mkF m pc L (argsL.reverse ++ .ref a :: st)).monitorRoom + (st.map fun v => v.category).sum ≤ W := by show 2 * 0 + _ ≤ _; rw [Nat.mul_zero, Nat.zero_add]; exact Nat.le_of_eq hW
  have hB := fun len => Ct.back (p := p) (e := e) (below := below) (s := s) (args := args) (len := len) hM hZ wc wz hf hl hE hC.1 hO hsf hK
  obtain ⟨cB, kB, qa, qb, qc⟩ := isOf (s := s.setVm vm) (T := T) hZ eT E
  obtain ⟨v, vm1, ⟨T', L1, k1, n1⟩, -, X', hS', hg', hP', st'⟩ := X.virtualBackUpS hx hown' (mv (s := s.setVm vm) hZ w1) (mv (s := s.setVm vm) hZ w2) (mv (s := s.setVm vm) hZ w5) hy (mv (s := s.setVm vm) hZ w3) (mv (s := s.setVm vm) hZ w4) (hB 3) qa qc (g := mkF m pc L (argsL.reverse ++ .ref a :: st)) rfl hL (Steps.refl _) (argsL := argsL) (rest := st) hlen rfl hWW hd (fun _ _ => ⟨rfl, eT, hc1, hc2⟩)
  dsimp only [Pt.U, Pt.locs, Pt.cells, Pt.slots] at X' hS' hg' hP' st'
  obtain ⟨L2, rfl, rfl, rfl, q1, q2, q3, q4, q5⟩ := hP'
  obtain ⟨t, v', L', r1, r2⟩ := K v T'.vm T'.heap q2 q3 T' _ _ hx hk hE X' rfl (hS.trans hS' (Nat.le_trans hk0 (by rw [← eT]; exact hg'))) (Nat.le_refl _) (Fr.app hF q1) (State.Warmed39.trans (t := s.setVm vm) hZ hS'.1) (fun z => State.WarmedH.trans (t := s.setVm vm) (hN z) (q5 z)) (hC.trans q3) q4 (fun z => ⟨Vm.MethodsKnown.alikeC (State.Warmed39.alike (s := s.setVm vm) hS'.1) (hK z).1, Vm.FramesKnown.alikeC (State.Warmed39.alike (s := s.setVm vm) hS'.1) (hK z).2⟩) hO0
  exact ⟨t, v', L', st'.trans r1, r2⟩
theorem Go.callI {own C : String} {a : Addr} {count : Nat} {y0 : MethodName} {y : MethodName} {bytes : ByteArray} {maxL : Nat} {ret : Option FieldType} {rm : Room} {W index : Nat} {argsL : List Value} {as : Array Value} {sf : List Addr} {Q' : Option Value → Vm → Heap → Prop} (hM : Ct l Z EL nw fk [] y bytes maxL ret rm as h sf Q') (hown : Z.vm.findClass own = some m.cls) (w1 : (Jvm.Cond.methodLink own index y0).before a0 Z = true) (w2 : (Jvm.Cond.declares y0).before a0 Z = true) (w5 : (Jvm.Cond.interfaceMethod y0.cls y0.cls y0.name y0.desc).before a0 Z = true) (w3 : (Jvm.Cond.selects C y0 y).before a0 Z = true) (w4 : (Jvm.Cond.instanceMethod y).before a0 Z = true) (w6 : (Jvm.Cond.publicMethod y).before a0 Z = true) (w7 : (Jvm.Cond.unhidden C y0.name y0.desc).before a0 Z = true) (w8 : (Jvm.Cond.castable C y0.cls).before a0 Z = true) (h5 : ((Jvm.Cond.interfaceMethod y0.cls y0.cls y0.name y0.desc).onTables && (Jvm.Cond.interfaceMethod y0.cls y0.cls y0.name y0.desc).keepsFace) = true) (E : Exa Z h a C) (wc : (Jvm.Cond.code y bytes maxL ret).before a0 Z = true) (wz : (Jvm.Cond.initialized y.cls).before a0 Z = true)
    (hy : y0.cls ≠ "java/lang/invoke/MethodHandle" ∧ y0.cls ≠ "java/lang/invoke/VarHandle") (hlen : ∀ sig, parseMethodDescriptor y0.desc = some sig → argsL.length = sig.parameters.length) (has : as = (.ref a :: argsL).toArray) (hL : L.size = c.maxLocals) (hW : (st.map fun v => v.category).sum = W) (hd : decode c.code pc = .ok (.invokeinterface index count, 5)) (hp : pc + 5 = pc') (hf : rm.frames + 1 ≤ R.frames) (hl : W + (maxL + 11) + rm.locals ≤ R.locals) (hc1 : k + rm.cells ≤ R.cells) (hc2 : n + rm.slots ≤ R.slots) (hsf : ∀ x ∈ sf, h.size > x ∧ Safe Z EL vm h x)
    (K : ∀ (v : Option Value) (vm' : Vm) (h' : Heap), Q' v vm' h' → CHr Z EL vm h vm' h' → Go p l e R s m args below meth c Z a0 EL nw fk Q vm' h' (k + rm.cells) (n + rm.slots) pc' L (v.toList ++ st)) : Go p l e R s m args below meth c Z a0 EL nw fk Q vm h k n pc L (argsL.reverse ++ .ref a :: st) := fun T locs k0 hx hk hE X eT hS hk0 hF hZ hN hC hO hK hO0 => by
  subst hp has
  have hown' : (s.setVm vm).vm.findClass own = some m.cls := by
    show vm.findClass own = _
    rw [hZ.alike.findClass]; exact hown
  have hWW : 2 * (mkF m pc L (argsL.reverse ++ .ref a :: st)).monitorRoom + (st.map fun v => v.category).sum ≤ W := by show 2 * 0 + _ ≤ _; rw [Nat.mul_zero, Nat.zero_add]; exact Nat.le_of_eq hW
  have hB := fun len => Ct.back (p := p) (e := e) (below := below) (s := s) (args := args) (len := len) hM hZ wc wz hf hl hE hC.1 hO hsf hK
  obtain ⟨cB, kB, qa, qb, qc⟩ := isOf (s := s.setVm vm) (T := T) hZ eT E
  obtain ⟨v, vm1, ⟨T', L1, k1, n1⟩, -, X', hS', hg', hP', st'⟩ := X.interfaceBackS hx hown' (mv (s := s.setVm vm) hZ w1) (mv (s := s.setVm vm) hZ w2) (mv (s := s.setVm vm) hZ w5 h5) (mv (s := s.setVm vm) hZ w3) (mv (s := s.setVm vm) hZ w4) (mv (s := s.setVm vm) hZ w6) (mv (s := s.setVm vm) hZ w7) (mv (s := s.setVm vm) hZ w8) hy (hB 5) qa qb qc (g := mkF m pc L (argsL.reverse ++ .ref a :: st)) rfl hL (Steps.refl _) (argsL := argsL) (rest := st) hlen rfl hWW hd (fun _ _ => ⟨rfl, eT, hc1, hc2⟩)
  dsimp only [Pt.U, Pt.locs, Pt.cells, Pt.slots] at X' hS' hg' hP' st'
  obtain ⟨L2, rfl, rfl, rfl, q1, q2, q3, q4, q5⟩ := hP'
  obtain ⟨t, v', L', r1, r2⟩ := K v T'.vm T'.heap q2 q3 T' _ _ hx hk hE X' rfl (hS.trans hS' (Nat.le_trans hk0 (by rw [← eT]; exact hg'))) (Nat.le_refl _) (Fr.app hF q1) (State.Warmed39.trans (t := s.setVm vm) hZ hS'.1) (fun z => State.WarmedH.trans (t := s.setVm vm) (hN z) (q5 z)) (hC.trans q3) q4 (fun z => ⟨Vm.MethodsKnown.alikeC (State.Warmed39.alike (s := s.setVm vm) hS'.1) (hK z).1, Vm.FramesKnown.alikeC (State.Warmed39.alike (s := s.setVm vm) hS'.1) (hK z).2⟩) hO0
  exact ⟨t, v', L', st'.trans r1, r2⟩
theorem Go.callP {own C : String} {a : Addr} {y : MethodName} {bytes : ByteArray} {maxL : Nat} {ret : Option FieldType} {rm : Room} {W index : Nat} {argsL : List Value} {as : Array Value} {sf : List Addr} {Q' : Option Value → Vm → Heap → Prop} (hM : Ct l Z EL nw fk [] y bytes maxL ret rm as h sf Q') (hown : Z.vm.findClass own = some m.cls) (w1 : (Jvm.Cond.methodLink own index y).before a0 Z = true) (w2 : (Jvm.Cond.instanceMethod y).before a0 Z = true) (w3 : (Jvm.Cond.selects y.cls y y).before a0 Z = true) (w4 : (Jvm.Cond.privateMethod y).before a0 Z = true) (E : Exa Z h a C) (wc : (Jvm.Cond.code y bytes maxL ret).before a0 Z = true) (wz : (Jvm.Cond.initialized y.cls).before a0 Z = true)
    (hy : y.cls ≠ "java/lang/invoke/MethodHandle" ∧ y.cls ≠ "java/lang/invoke/VarHandle") (hlen : ∀ sig, parseMethodDescriptor y.desc = some sig → argsL.length = sig.parameters.length) (has : as = (.ref a :: argsL).toArray) (hL : L.size = c.maxLocals) (hW : (st.map fun v => v.category).sum = W) (hd : decode c.code pc = .ok (.invokevirtual index, 3)) (hp : pc + 3 = pc') (hf : rm.frames + 1 ≤ R.frames) (hl : W + (maxL + 11) + rm.locals ≤ R.locals) (hc1 : k + rm.cells ≤ R.cells) (hc2 : n + rm.slots ≤ R.slots) (hsf : ∀ x ∈ sf, h.size > x ∧ Safe Z EL vm h x)
    (K : ∀ (v : Option Value) (vm' : Vm) (h' : Heap), Q' v vm' h' → CHr Z EL vm h vm' h' → Go p l e R s m args below meth c Z a0 EL nw fk Q vm' h' (k + rm.cells) (n + rm.slots) pc' L (v.toList ++ st)) : Go p l e R s m args below meth c Z a0 EL nw fk Q vm h k n pc L (argsL.reverse ++ .ref a :: st) := fun T locs k0 hx hk hE X eT hS hk0 hF hZ hN hC hO hK hO0 => by
  subst hp has
  have hown' : (s.setVm vm).vm.findClass own = some m.cls := by
    show vm.findClass own = _
    rw [hZ.alike.findClass]; exact hown
  have hWW : 2 * (mkF m pc L (argsL.reverse ++ .ref a :: st)).monitorRoom + (st.map fun v => v.category).sum ≤ W := by show 2 * 0 + _ ≤ _; rw [Nat.mul_zero, Nat.zero_add]; exact Nat.le_of_eq hW
  have hB := fun len => Ct.back (p := p) (e := e) (below := below) (s := s) (args := args) (len := len) hM hZ wc wz hf hl hE hC.1 hO hsf hK
  obtain ⟨cq, q1', q2'⟩ := E.cell
  obtain ⟨v, vm1, ⟨T', L1, k1, n1⟩, -, X', hS', hg', hP', st'⟩ := X.privateBackS hx hown' (mv (s := s.setVm vm) hZ w1) (mv (s := s.setVm vm) hZ w2) (mv (s := s.setVm vm) hZ w3) (Cond.privateMethod_at (mvP (s := s.setVm vm) hZ w4 (args := #[]))) (mv (s := s.setVm vm) hZ wc) hy (hB 3) (g := mkF m pc L (argsL.reverse ++ .ref a :: st)) rfl hL (Steps.refl _) (a := a) (cell := cq) (by rw [eT]; exact q1') q2' (argsL := argsL) (rest := st) hlen rfl hWW hd (fun _ _ => ⟨rfl, eT, hc1, hc2⟩)
  dsimp only [Pt.U, Pt.locs, Pt.cells, Pt.slots] at X' hS' hg' hP' st'
  obtain ⟨L2, rfl, rfl, rfl, q1, q2, q3, q4, q5⟩ := hP'
  obtain ⟨t, v', L', r1, r2⟩ := K v T'.vm T'.heap q2 q3 T' _ _ hx hk hE X' rfl (hS.trans hS' (Nat.le_trans hk0 (by rw [← eT]; exact hg'))) (Nat.le_refl _) (Fr.app hF q1) (State.Warmed39.trans (t := s.setVm vm) hZ hS'.1) (fun z => State.WarmedH.trans (t := s.setVm vm) (hN z) (q5 z)) (hC.trans q3) q4 (fun z => ⟨Vm.MethodsKnown.alikeC (State.Warmed39.alike (s := s.setVm vm) hS'.1) (hK z).1, Vm.FramesKnown.alikeC (State.Warmed39.alike (s := s.setVm vm) hS'.1) (hK z).2⟩) hO0
  exact ⟨t, v', L', st'.trans r1, r2⟩
theorem Go.callU {own K : String} {a : Addr} {y : MethodName} {bytes : ByteArray} {maxL : Nat} {ret : Option FieldType} {rm : Room} {W index : Nat} {argsL : List Value} {as : Array Value} {sf : List Addr} {Q' : Option Value → Vm → Heap → Prop} (hM : Ct l Z EL nw fk [] y bytes maxL ret rm as h sf Q') (hown : Z.vm.findClass own = some m.cls) (w1 : (Jvm.Cond.methodLink own index y).before a0 Z = true) (w2 : (Jvm.Cond.sameMethod y.cls y.cls y.name y.desc).before a0 Z = true) (w3 : (Jvm.Cond.instanceMethod y).before a0 Z = true) (w4 : (Jvm.Cond.superclass own y.cls).before a0 Z = true) (hn : y.name ≠ "<init>") (F : Ins Z h a K true) (wc : (Jvm.Cond.code y bytes maxL ret).before a0 Z = true) (wz : (Jvm.Cond.initialized y.cls).before a0 Z = true)
    (hy : y.cls ≠ "java/lang/invoke/MethodHandle" ∧ y.cls ≠ "java/lang/invoke/VarHandle") (hlen : ∀ sig, parseMethodDescriptor y.desc = some sig → argsL.length = sig.parameters.length) (has : as = (.ref a :: argsL).toArray) (hL : L.size = c.maxLocals) (hW : (st.map fun v => v.category).sum = W) (hd : decode c.code pc = .ok (.invokespecial index, 3)) (hp : pc + 3 = pc') (hf : rm.frames + 1 ≤ R.frames) (hl : W + (maxL + 11) + rm.locals ≤ R.locals) (hc1 : k + rm.cells ≤ R.cells) (hc2 : n + rm.slots ≤ R.slots) (hsf : ∀ x ∈ sf, h.size > x ∧ Safe Z EL vm h x)
    (K : ∀ (v : Option Value) (vm' : Vm) (h' : Heap), Q' v vm' h' → CHr Z EL vm h vm' h' → Go p l e R s m args below meth c Z a0 EL nw fk Q vm' h' (k + rm.cells) (n + rm.slots) pc' L (v.toList ++ st)) : Go p l e R s m args below meth c Z a0 EL nw fk Q vm h k n pc L (argsL.reverse ++ .ref a :: st) := fun T locs k0 hx hk hE X eT hS hk0 hF hZ hN hC hO hK hO0 => by
  subst hp has
  have hown' : (s.setVm vm).vm.findClass own = some m.cls := by
    show vm.findClass own = _
    rw [hZ.alike.findClass]; exact hown
  have hWW : 2 * (mkF m pc L (argsL.reverse ++ .ref a :: st)).monitorRoom + (st.map fun v => v.category).sum ≤ W := by show 2 * 0 + _ ≤ _; rw [Nat.mul_zero, Nat.zero_add]; exact Nat.le_of_eq hW
  have hB := fun len => Ct.back (p := p) (e := e) (below := below) (s := s) (args := args) (len := len) hM hZ wc wz hf hl hE hC.1 hO hsf hK
  obtain ⟨v, vm1, ⟨T', L1, k1, n1⟩, -, X', hS', hg', hP', st'⟩ := superBackS X hx (s := s.setVm vm) hZ hown' w1 w2 w3 w4 hn (hB 3) eT F (g := mkF m pc L (argsL.reverse ++ .ref a :: st)) rfl hL wc (argsL := argsL) (rest := st) hlen rfl hWW hd (fun _ _ => ⟨rfl, eT, hc1, hc2⟩)
  dsimp only [Pt.U, Pt.locs, Pt.cells, Pt.slots] at X' hS' hg' hP' st'
  obtain ⟨L2, rfl, rfl, rfl, q1, q2, q3, q4, q5⟩ := hP'
  obtain ⟨t, v', L', r1, r2⟩ := K v T'.vm T'.heap q2 q3 T' _ _ hx hk hE X' rfl (hS.trans hS' (Nat.le_trans hk0 (by rw [← eT]; exact hg'))) (Nat.le_refl _) (Fr.app hF q1) (State.Warmed39.trans (t := s.setVm vm) hZ hS'.1) (fun z => State.WarmedH.trans (t := s.setVm vm) (hN z) (q5 z)) (hC.trans q3) q4 (fun z => ⟨Vm.MethodsKnown.alikeC (State.Warmed39.alike (s := s.setVm vm) hS'.1) (hK z).1, Vm.FramesKnown.alikeC (State.Warmed39.alike (s := s.setVm vm) hS'.1) (hK z).2⟩) hO0
  exact ⟨t, v', L', st'.trans r1, r2⟩
theorem Go.acopy {own : String} {index W : Nat} {a b : Addr} {kA kB : ClassId} {vs vd : List Value} {sp dp nn : Int32} (hown : Z.vm.findClass own = some m.cls) (w1 : (Jvm.Cond.methodLink own index Jvm.Stand.acN).before a0 Z = true) (w2 : (Jvm.Cond.native Jvm.Stand.acN).before a0 Z = true) (w3 : (Jvm.Cond.static Jvm.Stand.acN).before a0 Z = true) (w4 : (Jvm.Cond.initialized "java/lang/System").before a0 Z = true) (A : Ar Z h a kA .byte vs) (B : Ar Z h b kB .byte vd)
    (fA : ∀ v ∈ vs, fits .byte v = true) (fB : ∀ v ∈ vd, fits .byte v = true) (lA : vs.length < 2 ^ 31) (lB : vd.length < 2 ^ 31) (h1 : ¬ sp < 0) (h2 : ¬ dp < 0) (h3 : ¬ nn < 0) (h4 : sp.toNatClampNeg + nn.toNatClampNeg ≤ vs.length) (h5 : dp.toNatClampNeg + nn.toNatClampNeg ≤ vd.length) (hs : Safe Z EL vm h b) (hge : Z.heap.size ≤ b)
    (hL : L.size = c.maxLocals) (hW : (st.map fun v => v.category).sum = W) (hd : decode c.code pc = .ok (.invokestatic index, 3)) (hp : pc + 3 = pc') (hf : 1 ≤ R.frames) (hlo : W + (nativeFrameWords "java/lang/System" "arraycopy" 5 + 11) ≤ R.locals)
    (K : ∀ (h' : Heap), Ar Z h' b kB .byte (vd.take dp.toNatClampNeg ++ (vs.drop sp.toNatClampNeg).take nn.toNatClampNeg ++ vd.drop (dp.toNatClampNeg + nn.toNatClampNeg)) → Keep h h' [b] → Safe Z EL vm h' b → CHr Z EL vm h vm h' → Go p l e R s m args below meth c Z a0 EL nw fk Q vm h' k n pc' L st) : Go p l e R s m args below meth c Z a0 EL nw fk Q vm h k n pc L (.int nn :: .int dp :: .ref b :: .int sp :: .ref a :: st) := fun T locs k0 hx hk hE X eT hS hk0 hF hZ hN hC hO hK hO0 => by
  subst hp
  have hown' : (s.setVm vm).vm.findClass own = some m.cls := by
    show vm.findClass own = _
    rw [hZ.alike.findClass]; exact hown
  have A1 := A.arv (d := .int 0) fA lA
  have B1 := B.arv (d := .int 0) fB lB
  have cA := clampL lA
  have cB := clampL lB
  obtain ⟨T', h', L1, X', e', F', K', B', st'⟩ := cpA X hx (s := s.setVm vm) hZ hown' w1 w2 w3 w4 eT A1 B1 (Or.inl ⟨rfl, rfl⟩) h1 h2 h3 (by rw [cA]; exact h4) (by rw [cB]; exact h5) rfl h5 hF hge (g := mkF m pc L (.int nn :: .int dp :: .ref b :: .int sp :: .ref a :: st)) rfl hL rfl hd hf (W := W) (by show 2 * 0 + _ ≤ _; rw [Nat.mul_zero, Nat.zero_add]; exact Nat.le_of_eq hW) hlo
  have C' : CHr Z EL vm h vm h' := CHr.keep K' (allS hs all0) hC.1
  have us : ((List.range nn.toNatClampNeg).map fun i => vs.getD (sp.toNatClampNeg + i) (Value.int 0)) = (vs.drop sp.toNatClampNeg).take nn.toNatClampNeg := by
    apply List.ext_getElem
    · simp; omega
    · intro i q1 q2
      simp at q1 q2
      simp [List.getD, show sp.toNatClampNeg + i < vs.length by omega]
  rw [us] at B'
  have Bn := Ar.of_arv B' (by rw [cB]; simp; omega)
  obtain ⟨t, v, L', r1, r2⟩ := K h' Bn K' (C'.safe B.lt hs) C' T' L1 k0 hx hk hE X' e' hS (Nat.le_trans hk0 K'.1) F' hZ hN (hC.trans C') (ext_keep hO K' (allS hge all0)) hK hO0
  exact ⟨t, v, L', st' _ r1, r2⟩
end Walk
end Jvm.Own
namespace Jvm.Own
open Sem ClassFile Op Lib Jvm.Free Jvm.Stand Jvm.LawKit Jvm.RoadKit Bundle
theorem nc255 (x : Int32) : nar .char (x &&& 255) = x &&& 255 := i2c_mask x
theorem and_toInt (x : Int32) (m : Nat) (hm : m < 2 ^ 31) : 0 ≤ (x &&& Int32.ofNat m).toInt ∧ (x &&& Int32.ofNat m).toInt ≤ m := by
  have e : (x &&& Int32.ofNat m).toInt = (x.toBitVec &&& BitVec.ofNat 32 m).toInt := rfl
  have h1 : (x.toBitVec &&& BitVec.ofNat 32 m).toNat ≤ m := by
    rw [BitVec.toNat_and]
    refine Nat.le_trans Nat.and_le_right ?_
    rw [BitVec.toNat_ofNat]; exact Nat.mod_le _ _
  rw [e, BitVec.toInt_eq_toNat_of_lt (by omega)]
  omega
theorem m255 (x : Int32) : 0 ≤ (x &&& 255).toInt ∧ (x &&& 255).toInt ≤ 255 := and_toInt x 255 (by decide)
theorem al0 {P : Int32 → Prop} : ∀ x ∈ ([] : List Int32), P x := fun _ h => nomatch h
theorem alS {P : Int32 → Prop} {y : Int32} {L : List Int32} (q : P y) (r : ∀ x ∈ L, P x) : ∀ x ∈ y :: L, P x := fun x hx => (List.mem_cons.mp hx).elim (fun e => e ▸ q) (r x)
/-- the byte that a char becomes -/
def by8 (c : Int32) : Int32 := c.toInt8.toInt32
theorem toInt_nat {n : Nat} (h : n < 2 ^ 31) : n.toInt32.toInt = n := Int32.toInt_ofNat_small h
theorem clamp_nat {n : Nat} (h : n < 2 ^ 31) : n.toInt32.toNatClampNeg = n := by
  rw [← Int32.toNat_toInt, toInt_nat h]; rfl
theorem lt32 {i n : Nat} (hi : i < 2 ^ 31) (hn : n < 2 ^ 31) : i.toInt32 < n.toInt32 ↔ i < n := by
  rw [Int32.lt_iff_toInt_lt, toInt_nat hi, toInt_nat hn]; omega
theorem nneg32 {n : Nat} (h : n < 2 ^ 31) : ¬ n.toInt32 < 0 := by
  rw [Int32.lt_iff_toInt_lt, toInt_nat h]
  have e0 : (0 : Int32).toInt = 0 := rfl
  omega
theorem succ32 (i : Nat) : i.toInt32 + 1 = (i + 1).toInt32 := (Int32.ofNat_add i 1).symm
theorem eq32 {i n : Nat} (hi : i < 2 ^ 31) (hn : n < 2 ^ 31) : i.toInt32 = n.toInt32 ↔ i = n := by
  constructor
  · intro q
    have := congrArg Int32.toInt q
    rw [toInt_nat hi, toInt_nat hn] at this; omega
  · rintro rfl; rfl
theorem nz32 {n : Nat} (h : n < 2 ^ 31) (h0 : 0 < n) : ¬ n.toInt32 = 0 := fun q => by
  have := (eq32 (n := 0) h (by decide)).mp q; omega
theorem nar_by8 (c : Int32) : nar .byte (c.toInt8.toInt32) = by8 c := by
  show (c.toInt8.toInt32).toInt8.toInt32 = _
  simp [by8]
theorem sub0 (x : Int32) : x - x = 0 := by simp
theorem cache_ix {z : Int32} (h1 : ¬ z < -128) (h2 : ¬ (127 : Int32) < z) : ¬ (z + 128) < 0 ∧ (z + 128).toNatClampNeg < 256 := by
  rw [Int32.lt_iff_toInt_lt] at h1 h2
  have e1 : (-128 : Int32).toInt = -128 := rfl
  have e2 : (127 : Int32).toInt = 127 := rfl
  have e3 : (128 : Int32).toInt = 128 := rfl
  have e0 : (0 : Int32).toInt = 0 := rfl
  have q : (z + 128).toInt = z.toInt + 128 := by
    rw [Int32.toInt_add, e3]
    exact Int.bmod_eq_of_le (by omega) (by omega)
  refine ⟨?_, ?_⟩
  · rw [Int32.lt_iff_toInt_lt, q]; omega
  · rw [← Int32.toNat_toInt, q]; omega
theorem cache_ixL {z : Int64} (h1 : ¬ XT.cmpL z (-128) < 0) (h2 : ¬ (0 : Int32) < XT.cmpL z 127) : ¬ (z.toInt32 + 128) < 0 ∧ (z.toInt32 + 128).toNatClampNeg < 256 := by
  have g1 : ¬ z < -128 := fun q => h1 (by
    have a : ¬ (-128 : Int64) < z := fun r => by rw [Int64.lt_iff_toInt_lt] at q r; omega
    have b : ¬ z = -128 := fun r => by rw [r] at q; exact absurd q (by decide)
    rw [XT.cmpL, if_neg a, if_neg b]; decide)
  have g2 : ¬ (127 : Int64) < z := fun q => h2 (by rw [XT.cmpL, if_pos q]; decide)
  rw [Int64.lt_iff_toInt_lt] at g1 g2
  have e1 : (-128 : Int64).toInt = -128 := rfl
  have e2 : (127 : Int64).toInt = 127 := rfl
  have e3 : z.toInt32.toInt = z.toInt := by
    rw [Int64.toInt_toInt32]; exact Int.bmod_eq_of_le (by omega) (by omega)
  refine cache_ix ?_ ?_
  · rw [Int32.lt_iff_toInt_lt, e3]
    have : (-128 : Int32).toInt = -128 := rfl
    omega
  · rw [Int32.lt_iff_toInt_lt, e3]
    have : (127 : Int32).toInt = 127 := rfl
    omega
theorem and_toInt64 (x : Int64) (m : Nat) (hm : m < 2 ^ 63) : 0 ≤ (x &&& Int64.ofNat m).toInt ∧ (x &&& Int64.ofNat m).toInt ≤ m := by
  have e : (x &&& Int64.ofNat m).toInt = (x.toBitVec &&& BitVec.ofNat 64 m).toInt := rfl
  have h1 : (x.toBitVec &&& BitVec.ofNat 64 m).toNat ≤ m := by
    rw [BitVec.toNat_and]
    refine Nat.le_trans Nat.and_le_right ?_
    rw [BitVec.toNat_ofNat]; exact Nat.mod_le _ _
  rw [e, BitVec.toInt_eq_toNat_of_lt (by omega)]
  omega
theorem l255 (x : Int64) : 0 ≤ (x &&& 255).toInt32.toInt ∧ (x &&& 255).toInt32.toInt ≤ 255 := by
  have h : 0 ≤ (x &&& 255).toInt ∧ (x &&& 255).toInt ≤ 255 := and_toInt64 x 255 (by decide)
  have e3 : (x &&& 255).toInt32.toInt = (x &&& 255).toInt := by
    rw [Int64.toInt_toInt32]; exact Int.bmod_eq_of_le (by omega) (by omega)
  rw [e3]; exact h
/-- true and false as ints -/
def bo (q : Prop) [Decidable q] : Int32 := if q then 1 else 0
theorem bo_yes {q : Prop} [Decidable q] (h : q) : bo q = 1 := if_pos h
theorem bo_no {q : Prop} [Decidable q] (h : ¬ q) : bo q = 0 := if_neg h
theorem bo_nar {q : Prop} [Decidable q] : nar .boolean (bo q) = bo q := by unfold bo; split <;> rfl
theorem bo_ne0 {q : Prop} [Decidable q] : (¬ bo q = 0) ↔ q := by unfold bo; split <;> simp_all
theorem bo_cases {q : Prop} [Decidable q] : q ∧ bo q = 1 ∨ ¬ q ∧ bo q = 0 := by by_cases h : q <;> simp [bo, h]
theorem bo_congr {p q : Prop} [Decidable p] [Decidable q] (h : p ↔ q) : bo p = bo q := by unfold bo; simp [h]
theorem toInt_eq {x : Int32} {n : Int} (h : x.toInt = n) : x = Int32.ofInt n := by rw [← h, Int32.ofInt_toInt]
theorem and3 (x : Int32) : x &&& 3 = 0 ∨ x &&& 3 = 1 ∨ x &&& 3 = 2 ∨ x &&& 3 = 3 := by
  have h := and_toInt x 3 (by decide)
  have e : (x &&& Int32.ofNat 3) = x &&& 3 := rfl
  rw [e] at h
  have : (x &&& 3).toInt = 0 ∨ (x &&& 3).toInt = 1 ∨ (x &&& 3).toInt = 2 ∨ (x &&& 3).toInt = 3 := by omega
  rcases this with q | q | q | q
  · exact Or.inl (toInt_eq q)
  · exact Or.inr (Or.inl (toInt_eq q))
  · exact Or.inr (Or.inr (Or.inl (toInt_eq q)))
  · exact Or.inr (Or.inr (Or.inr (toInt_eq q)))
theorem rem3 (x : Int32) : (x &&& 3) % 3 = 0 ∨ (x &&& 3) % 3 = 1 ∨ (x &&& 3) % 3 = 2 := by
  rcases and3 x with q | q | q | q <;> rw [q] <;> decide
theorem by8_toInt (c : Int32) : (by8 c).toInt = c.toInt.bmod 256 := by
  show (c.toInt8.toInt32).toInt = _
  rw [Int8.toInt_toInt32, Int32.toInt_toInt8]
theorem by8_inj {x y : Int32} (hx : 0 ≤ x.toInt ∧ x.toInt ≤ 255) (hy : 0 ≤ y.toInt ∧ y.toInt ≤ 255) (h : by8 x = by8 y) : x = y := by
  have q := congrArg Int32.toInt h
  rw [by8_toInt, by8_toInt] at q
  apply Int32.toInt_inj.mp
  have h1 : (x.toInt.bmod 256) % 256 = x.toInt % 256 := Int.bmod_emod
  have h2 : (y.toInt.bmod 256) % 256 = y.toInt % 256 := Int.bmod_emod
  rw [q] at h1
  omega
theorem nch {x : Int32} (h : 0 ≤ x.toInt ∧ x.toInt ≤ 255) : nar .char x = x := by
  have e : x &&& 255 = x := by
    apply Int32.toBitVec_inj.mp
    show x.toBitVec &&& 255#32 = x.toBitVec
    apply BitVec.eq_of_toNat_eq
    have hn : x.toBitVec.toNat ≤ 255 := by
      have h2 : x.toInt = x.toBitVec.toInt := rfl
      rw [h2, BitVec.toInt_eq_toNat_cond] at h
      have := x.toBitVec.isLt
      split at h <;> omega
    rw [BitVec.toNat_and]
    show x.toBitVec.toNat &&& (2 ^ 8 - 1) = _
    rw [Nat.and_two_pow_sub_one_eq_mod]; omega
  rw [← e]; exact nc255 x
theorem le255 {x : Int32} (h : 0 ≤ x.toInt ∧ x.toInt ≤ 255) : ¬ (255 : Int32) < x := by
  rw [Int32.lt_iff_toInt_lt]
  have : (255 : Int32).toInt = 255 := rfl
  omega
theorem chL (x : Int64) : 0 ≤ (nar .char (nar .char (x &&& 255).toInt32)).toInt ∧ (nar .char (nar .char (x &&& 255).toInt32)).toInt ≤ 255 := by
  rw [nch (l255 x), nch (l255 x)]; exact l255 x
theorem nar01 {x : Int32} (h : x = 0 ∨ x = 1) : nar .boolean x = x := by rcases h with rfl | rfl <;> rfl
theorem not0lt {n : Int32} : (¬ (0 : Int32) < n) ↔ n < 1 := by
  rw [Int32.lt_iff_toInt_lt, Int32.lt_iff_toInt_lt]
  have : (0 : Int32).toInt = 0 := rfl
  have : (1 : Int32).toInt = 1 := rfl
  omega
theorem not1lt {n : Int32} : (¬ (1 : Int32) < n) ↔ n < 2 := by
  rw [Int32.lt_iff_toInt_lt, Int32.lt_iff_toInt_lt]
  have : (2 : Int32).toInt = 2 := rfl
  have : (1 : Int32).toInt = 1 := rfl
  omega
theorem and3L (x : Int64) : x &&& 3 = 0 ∨ x &&& 3 = 1 ∨ x &&& 3 = 2 ∨ x &&& 3 = 3 := by
  have h : 0 ≤ (x &&& 3).toInt ∧ (x &&& 3).toInt ≤ 3 := and_toInt64 x 3 (by decide)
  have e : ∀ n : Int, (x &&& 3).toInt = n → x &&& 3 = Int64.ofInt n := fun n q => by rw [← q, Int64.ofInt_toInt]
  have : (x &&& 3).toInt = 0 ∨ (x &&& 3).toInt = 1 ∨ (x &&& 3).toInt = 2 ∨ (x &&& 3).toInt = 3 := by omega
  rcases this with q | q | q | q
  · exact Or.inl (e _ q)
  · exact Or.inr (Or.inl (e _ q))
  · exact Or.inr (Or.inr (Or.inl (e _ q)))
  · exact Or.inr (Or.inr (Or.inr (e _ q)))
theorem fill_set {α : Type} (xs : List α) (z : α) (i : Nat) (hi : i < xs.length) : (xs.take i ++ List.replicate (xs.length - i) z).set i xs[i] = xs.take (i + 1) ++ List.replicate (xs.length - (i + 1)) z := by
  have h1 : (xs.take i).length = i := by simp; omega
  have h2 : xs.length - i = (xs.length - (i + 1)) + 1 := by omega
  rw [List.set_append_right _ _ (by omega), h1, Nat.sub_self, h2, List.replicate_succ, List.set_cons_zero, List.take_succ_eq_append_getElem hi, List.append_assoc]; rfl
end Jvm.Own
namespace Jvm.Own
open Sem ClassFile Op Lib Jvm.Free Jvm.Stand Jvm.LawKit Jvm.RoadKit Bundle Jvm.Free.SB Jvm.Free.SBG
section Ldcw
variable {p : Program} {l : Launch} {e : Env} {R : Room} {s : State} {m : MethodId} {args : Array Value} {below : List Frame} {meth : Method} {c : Code} {T : State} {locs : List Loc} {cells slots : Nat}
set_option maxHeartbeats 1000000 in
/-- ldc_w of a String constant: where it isn't held yet, what is made is told -/
theorem ldcw_made (X : Stand p l e R s m args below meth c T locs cells slots) (hx : p.tables.exec = Jvm.exec) {own text : String} {index : Nat} (hown : s.vm.findClass own = some m.cls) (hlink : (Jvm.Cond.stringLink own index text).before args s = true) (hS : ∀ a ∈ Bundle.stringAtoms, a.before args s = true)
    {g : JFrame} (hg : g.method = m) (hd : decode c.code g.pc = .ok (.ldc_w index, 3)) {n : Nat} (hn : 4 * text.toList.length ≤ n) (hbig : n ≤ 536870912) (hc1 : cells + 2 ≤ R.cells) (hc2 : slots + (n + 4) ≤ R.slots) :
    ∃ (a : Addr) (T' : State), Stand p l e R (s.setVm T'.vm) m args below meth c T' locs (cells + 2) (slots + (n + 4)) ∧ s.Since T'.vm T'.heap.size ∧ (∃ k, T'.vm.classes[m.cls]? = some k ∧ k.resolved[index]? = some (some (.string a))) ∧ (∀ b, b < T.heap.size → T'.heap[b]? = T.heap[b]?) ∧ T.Warmed39 T'.vm ∧
      (T'.vm.interned = T.vm.interned ∨ ∃ units : Array UInt16, T'.vm.interned = T.vm.interned.push (units, a) ∧ T.vm.interned.find? (fun q => q.1 == units) = none ∧ (units.all (· < 256) = true → SlIn 0 T.heap.size T' a units)) ∧
      ∀ target, Steps p.tables e below (T'.setTop { g with pc := g.pc + 3, stack := .ref a :: g.stack }) target → Steps p.tables e below (T.setTop g) target := by
  have hown' : (s.setVm T.vm).vm.findClass own = some m.cls := by
    show T.vm.findClass own = _
    rw [X.warmed.alike.findClass]; exact hown
  obtain ⟨k, cf, i, units, hk, hcf, hc, hu, hnm, hdec, hres⟩ := Cond.stringLink_spec hown' (Cond.stringLink_warmed39 X.warmed.wide hlink)
  subst hg
  have hk : T.vm.classes[g.method.cls]? = some k := hk
  rcases hres with hopen | ⟨a, hr⟩
  · have q2 : k.cf.bind (namesOf? ·.constantPool index) = some (.string text) := by rw [hcf]; exact hnm
    have q3 : k.cf.bind (·.constantPool[index]?) = some (.string i) := by rw [hcf]; exact hc
    have q4 : k.cf.bind (·.constantPool.utf8? i) = some units := by rw [hcf]; simp [ConstantPool.utf8?, hu]
    cases hf : T.vm.interned.find? (fun q => q.1 == units) with
    | some pr =>
      obtain ⟨u, a⟩ := pr
      obtain rfl : u = units := by simpa using Array.find?_some hf
      have hT : T.Warmed39 (T.vm.noted g.method.cls index (.string a)) := (State.Warmed39.refl T).notedString hk (Or.inl hopen) q2 q3 q4 hf
      have hW : s.Warmed39 (T.vm.noted g.method.cls index (.string a)) := State.Warmed39.trans X.warmed.wide hT
      refine ⟨a, T.setVm (T.vm.noted g.method.cls index (.string a)), (X.mono (by omega) (by omega)).retabled hW, ⟨hW, State.Booked.step (T₂ := T.setVm (T.vm.noted g.method.cls index (.string a))) (X.warmed.no_new_pair _) X.same.2.1 ⟨Nat.le_refl _, Or.inl rfl⟩⟩, ⟨_, Vm.classes_note_self index (.string a) hk, Class.resolved_note_self (.string a) hopen⟩, fun _ _ => rfl, hT, Or.inl rfl, fun target r => ?_⟩
      jvm_step X.here [hx, hd, ldc_w.wp_string_found (e := e) (s := T) (f := g) X.here.top hk hcf hc hu hopen hf]
      exact r
    | none =>
      obtain ⟨Zs, LZ, hn4, hfv, hfc⟩ := StringT.of_atoms (args := args) hS
      obtain ⟨kS, kB, LT, hty⟩ := LZ.warmer X.warmed.alike
      have hb : (stringBytes units).size ≤ n := Nat.le_trans (text_bytes_le hdec) hn
      have hfs : T.fitsSlot = s.fitsSlot := (show T.fitsSlot = (s.setVm T.vm).fitsSlot from rfl).trans (State.fitsSlot_setVm X.warmed.alike)
      obtain ⟨vm', hvm⟩ : ∃ v, v = (({ T.vm with interned := T.vm.interned.push (units, T.heap.size + 1) } : Vm).noted g.method.cls index (.string (T.heap.size + 1))) := ⟨_, rfl⟩
      have hT : T.Warmed39 vm' := by
        rw [hvm]
        refine ((State.Warmed39.refl T).interns units (T.heap.size + 1)).notedString hk (Or.inl hopen) q2 q3 q4 ?_
        show (T.vm.interned.push (units, T.heap.size + 1)).find? _ = _
        rw [Array.find?_push, hf]; simp
      have hW : s.Warmed39 vm' := State.Warmed39.trans X.warmed.wide hT
      have hwe := withString_eq T Zs.cB Zs.cS kS Zs.fv Zs.fc units
      have XP := (X.pushed (bytesOf Zs.cB units)).pushed (stringAt Zs.cS kS Zs.fv Zs.fc units T.heap.size)
      rw [← hwe] at XP
      have b1 : (bytesOf Zs.cB units).slots.size = (stringBytes units).size := by rw [(Cell.writeAll_facts _ _).2.2]; simp [bytes0]
      have b2 : (stringAt Zs.cS kS Zs.fv Zs.fc units T.heap.size).slots.size = 4 := by simp [string0, Cell.setSlot, hty, hn4]
      have hh : ((withString T Zs.cB Zs.cS kS Zs.fv Zs.fc units).setVm vm').heap = (T.heap.push (bytesOf Zs.cB units)).push (stringAt Zs.cS kS Zs.fv Zs.fc units T.heap.size) := by
        show (withString T Zs.cB Zs.cS kS Zs.fv Zs.fc units).heap = _
        rw [hwe]; rfl
      have hint : vm'.interned = T.vm.interned.push (units, T.heap.size + 1) := by rw [hvm]; rfl
      refine ⟨T.heap.size + 1, (withString T Zs.cB Zs.cS kS Zs.fv Zs.fc units).setVm vm', (XP.mono (by omega) (by rw [b1, b2]; omega)).retabled hW, ⟨hW, State.Booked.step (X.warmed.no_new_pair _) X.same.2.1 ⟨by rw [hh]; simp; omega, Or.inr ⟨units, T.heap.size + 1, hint, by omega, by rw [hh]; simp⟩⟩⟩, ?_, ?_, hT, Or.inr ⟨units, hint, hf, fun hl => made_sl hS LZ hn4 hty hW.alike ?_ ?_ hl (by omega) 0⟩, fun target r => ?_⟩
      · rw [hvm]; exact ⟨_, Vm.classes_note_self (vm := { T.vm with interned := T.vm.interned.push (units, T.heap.size + 1) }) index (.string (T.heap.size + 1)) hk, Class.resolved_note_self (.string (T.heap.size + 1)) hopen⟩
      · intro b hb'
        rw [hh, Array.getElem?_push, if_neg (by rw [Array.size_push]; omega), Array.getElem?_push, if_neg (by omega)]
      · rw [hh, Array.getElem?_push, if_neg (by rw [Array.size_push]; omega), Array.getElem?_push, if_pos rfl]
      · rw [hh, Array.getElem?_push, if_pos (by rw [Array.size_push])]
      · refine Steps.instr (c := _) (by simpa using X.here) ?_
        simp [jvm, wpRun, exec, X.here.top, hx, hd]
        refine ldc_w.wp_string_new (e := e) (s := T) (f := g) X.here.top hk hcf hc hu hopen hf LT.found LT.cls LT.initialized LT.ordinary LT.foundB LT.clsB LT.kindB LT.value LT.coder ?_ ?_ (X.cellsAbove hc1) ?_ (stringBytes_fit LT.clsB LT.kindB units) LT.valueSlot LT.coderSlot (by rw [hfs]; exact hfv _) (by rw [hfs]; exact hfc _) (fun d' acts' => ?_)
        · rw [Launch.admits_arrayLengthLimit X.admits]; omega
        · rw [Launch.admits_maxHeapBytes X.admits]; simp only [componentBytes]; omega
        · have := X.slotsAbove hc2
          rw [hty, hn4]; omega
        · intro acts''
          rw [← hvm]
          have t1 : (withString T Zs.cB Zs.cS kS Zs.fv Zs.fc units).topJava?.isSome := by simpa [withString] using X.here.top
          have t2 : ((withString T Zs.cB Zs.cS kS Zs.fv Zs.fc units).setVm vm').topJava?.isSome := by simpa using t1
          simp [jvm, afterInstr, t1, t2]
          rw [State.modifyTopJava_setTop]
          exact r
  · refine ⟨a, T, (X.mono (by omega) (by omega)).retabled X.warmed.wide, X.warmed.since _, ⟨k, hk, hr⟩, fun _ _ => rfl, State.Warmed39.refl T, Or.inl rfl, fun target r => ?_⟩
    jvm_step X.here [hx, hd, ldc_w.wp_string (e := e) (s := T) (f := g) X.here.top hk hcf hc hr]
    exact r
end Ldcw
/-- what a held constant reads as -/
theorem read_sl {Z : State} {vm : Vm} {h : Heap} {a : Addr} {units : Array UInt16} (hal : Z.vm.Alike vm) (hlat : units.all (· < 256) = true) (F : SlOf (Wst Z vm h) a units) :
    ∃ (b : Addr) (k : ClassId), Exa Z h a "java/lang/String" ∧ Fld Z h a "java/lang/String" "coder" "B" (.int 0) ∧ Fld Z h a "java/lang/String" "value" "[B" (.ref b) ∧ Ar Z h b k .byte (units.toList.map fun u => Value.int (Jvm.Lit.byteI u)) := by
  obtain ⟨q, cS, rfl, ⟨⟨s1, s2, s3, ⟨cv, kv, iv, s4, s4'⟩, ⟨cc, kc, ic, s5, s5'⟩, s6, s7, s8, s9, s10, s11, s12, -⟩, hfS, hcS⟩, ⟨kS, k1, k2, k3⟩, hB, hbyt⟩ := F
  obtain ⟨kv', z4⟩ := ff_back (U := Wst Z vm h) hal s4
  obtain ⟨kc', z5⟩ := ff_back (U := Wst Z vm h) hal s5
  have hfS : vm.findClass "java/lang/String" = some cS := hfS
  have hfZ : Z.vm.findClass "java/lang/String" = some q.sC.cls := by rw [← hal.findClass, hcS]; exact hfS
  obtain ⟨kz, hkz, -⟩ := Vm.findClass_spec hfZ
  obtain ⟨kz', hkz', ekz⟩ := hal.2.2 _ _ hkz
  have ekS : kz' = kS := Option.some.inj (hkz'.symm.trans (show vm.classes[q.sC.cls]? = some kS from hcS ▸ k1))
  obtain ⟨hst, k9, hk9, comp, hkind⟩ := s11
  have hBZ : Z.vm.findClass "[B" = some q.SA.cls := by rw [← hal.findClass]; exact hB
  obtain ⟨kb, hkb, -⟩ := Vm.findClass_spec hBZ
  obtain ⟨kb', hkb', ekb⟩ := hal.2.2 _ _ hkb
  have e9 : k9 = kb' := Option.some.inj ((show vm.classes[q.SA.cls]? = some k9 from hk9).symm.trans hkb')
  refine ⟨q.sd, q.SA.cls, ⟨q.sC, kz, s1, hfZ, hkz, s3, fun _ => by rw [k3, ← ekS, ekz]⟩, ⟨q.sC, cc, kc', ic, q.fSC, s1, z5, s7, s2, s3, by rw [← hal.assignable]; exact s5', s9⟩, ⟨q.sC, cv, kv', iv, q.fSV, s1, z4, s6, s2, s3, by rw [← hal.assignable]; exact s4', s8⟩, q.SA, ⟨s10, ⟨hst, kb, hkb, comp, by rw [e9, ekb] at hkind; exact hkind⟩, s12⟩, rfl, ?_⟩
  have hsl : q.SA.slots = units.map fun u => Value.int (Jvm.Lit.byteI u) := by rw [hbyt, SBG.stringBytes_lat hlat]; rfl
  rw [hsl, Array.toList_map]
section GoLdcw
variable {p : Program} {l : Launch} {e : Env} {R : Room} {s : State} {m : MethodId} {args : Array Value} {below : List Frame} {meth : Method} {c : Code} {Z : State} {a0 : Array Value} {EL : List (String × Nat)} {nw fk : Prop} {Q : Option Value → Vm → Heap → Prop} {vm : Vm} {h : Heap} {k n pc pc' : Nat} {L : Array Slot} {st : List Value}
theorem Go.ldcwStr {own text : String} {index n0 : Nat} {vs : List Value} (hnw : ¬ nw) (hown : Z.vm.findClass own = some m.cls) (w : (Jvm.Cond.stringLink own index text).before a0 Z = true) (wS : ∀ a ∈ Bundle.stringAtoms, a.before a0 Z = true) (hmem : (own, index) ∈ EL)
    (ht : (∀ c ∈ text.toList, c.toNat < 256) ∧ text.toList.map (fun c => Value.int (Jvm.Lit.byteI c.toNat.toUInt16)) = vs) (hd : decode c.code pc = .ok (.ldc_w index, 3)) (hp : pc + 3 = pc') (hn : 4 * text.toList.length ≤ n0) (hbig : n0 ≤ 536870912) (hc : k + 2 ≤ R.cells) (hl : n + (n0 + 4) ≤ R.slots)
    (K : ∀ (vm' : Vm) (h' : Heap) (a b : Addr) (kA : ClassId), Ext h h' → CHr Z EL vm h vm' h' → Exa Z h' a "java/lang/String" → Fld Z h' a "java/lang/String" "coder" "B" (.int 0) → Fld Z h' a "java/lang/String" "value" "[B" (.ref b) → Ar Z h' b kA .byte vs → h'.size > a → h'.size > b → Go p l e R s m args below meth c Z a0 EL nw fk Q vm' h' (k + 2) (n + (n0 + 4)) pc' L (.ref a :: st)) : Go p l e R s m args below meth c Z a0 EL nw fk Q vm h k n pc L st := fun T locs k0 hx hk hE X eT hS hk0 hF hZ hN hC hO hK hO0 => by
  subst hp eT
  have hown' : (s.setVm vm).vm.findClass own = some m.cls := by
    show vm.findClass own = _
    rw [hZ.alike.findClass]; exact hown
  obtain ⟨a, T', X', hS', ⟨kk, hkk, hrr⟩, hb, hTW, hint, st'⟩ := ldcw_made X hx hown' (mvS hZ w) (fun d hd => by
    have q := wS d hd
    simp only [Bundle.stringAtoms, List.mem_cons, List.not_mem_nil, or_false] at hd
    rcases hd with rfl | rfl | rfl | rfl | rfl | rfl | rfl
    · exact mv (s := s.setVm vm) hZ q
    · exact mv (s := s.setVm vm) hZ q
    · exact mvA (s := s.setVm vm) hZ q
    all_goals exact mv (s := s.setVm vm) hZ q) (g := mkF m pc L st) rfl hd hn hbig hc hl
  have E : Ext T.heap T'.heap := ext_of hb
  have hZ' : Z.Warmed39 T'.vm := State.Warmed39.trans (t := s.setVm vm) hZ hS'.1
  have hZT : Z.Warmed39 T.vm := wtrans (s := s.setVm vm) hZ X.warmed
  have A := CHv.at X hZ hE hC.1
  have B := CHv.later (vm := T.vm) (vm1 := T'.vm) hZT (show (Wst Z T.vm T.heap).Warmed39 T'.vm from hTW) hE E (hint.imp id fun ⟨us, e1, e2, e3⟩ => ⟨us, a, e1, e2, fun hl => by
    obtain ⟨q, cS, hq, r1, r2, r3, r4, r5⟩ := e3 hl
    have F : SlB T' q us := ⟨cS, r1, r2, r3, r4⟩
    exact ⟨q, hq, F.carry (V := Wst Z T'.vm T'.heap) (Vm.Alike.refl _) F.ha F.hd, r5.elim (fun z => absurd z.1 (Nat.not_lt_zero _)) id⟩⟩) A.1
  have hCC : CHr Z EL vm T.heap T'.vm T'.heap := A.trans ⟨B.1, E.1, B.2⟩
  have hf : T'.vm.findClass own = some m.cls := by rw [hZ'.alike.findClass]; exact hown
  obtain ⟨k1, cf, i, units, hkx, hcf, hcp, hu, -, htext, -⟩ := Cond.stringLink_spec (s := Wst Z T'.vm T'.heap) hf (mvS (args := a0) (s := { Z with heap := T'.heap }) hZ' w)
  cases hkk.symm.trans (show T'.vm.classes[m.cls]? = some k1 from hkx)
  have hlat := Jvm.ClassFile.lat_of_text htext ht.1
  obtain ⟨b, kA, x1, x2, x3, x4⟩ := read_sl (vm := T'.vm) (h := T'.heap) hZ'.alike hlat (hCC.1 _ hmem units a ⟨m.cls, kk, cf, i, hf, hkk, hcf, hcp, hu, Or.inl hrr⟩)
  have eu : (units.toList.map fun u => Value.int (Jvm.Lit.byteI u)) = vs := by rw [← ht.2, Jvm.ClassFile.units_of_text htext ht.1, List.map_map]; rfl
  rw [eu] at x4
  obtain ⟨t, v, L', r1, r2⟩ := K T'.vm T'.heap a b kA E hCC x1 x2 x3 x4 x1.lt x4.lt T' locs T'.heap.size hx hk hE X' rfl (hS.trans hS' (Nat.le_trans hk0 E.1)) (Nat.le_refl _) hF hZ' (fun q => absurd q hnw) (hC.trans hCC) (ext_trans hO E) (fun z => ⟨Vm.MethodsKnown.alikeC (hZ.alike.symm.trans hZ'.alike) (hK z).1, Vm.FramesKnown.alikeC (hZ.alike.symm.trans hZ'.alike) (hK z).2⟩) hO0
  exact ⟨t, v, L', st' _ r1, r2⟩
end GoLdcw
end Jvm.Own
namespace Jvm.Own
open Sem ClassFile Op Lib Jvm.Free Jvm.Stand Jvm.LawKit Jvm.RoadKit Bundle
theorem add32 (a b : Nat) : a.toInt32 + b.toInt32 = (a + b).toInt32 := (Int32.ofNat_add a b).symm
theorem sub32 {a b : Nat} (h : b ≤ a) : a.toInt32 - b.toInt32 = (a - b).toInt32 := by
  have q := add32 (a - b) b
  rw [Nat.sub_add_cancel h] at q
  rw [← q, Int32.add_sub_cancel]
theorem pos32 {n : Nat} (h : n < 2 ^ 31) (h0 : 0 < n) : (0 : Int32) < n.toInt32 := by
  rw [Int32.lt_iff_toInt_lt, toInt_nat h]
  have : (0 : Int32).toInt = 0 := rfl
  omega
theorem big32 {n : Nat} (h : n ≤ 2000) : ¬ (2147483639 : Int32) < n.toInt32 := by
  rw [Int32.lt_iff_toInt_lt, toInt_nat (by omega)]
  have : (2147483639 : Int32).toInt = 2147483639 := rfl
  omega
theorem nbig {n : Nat} (h : n ≤ 2000) : ¬ n.toInt32 = (2147483647 : Int32) := fun q => by
  have e := congrArg Int32.toInt q
  rw [toInt_nat (by omega)] at e
  have : (2147483647 : Int32).toInt = 2147483647 := rfl
  omega
theorem suble {a b : Nat} (h : a ≤ b) (hb : b < 2 ^ 31) : ¬ (0 : Int32) < a.toInt32 - b.toInt32 := by
  rw [Int32.lt_iff_toInt_lt, Int32.toInt_sub, toInt_nat (by omega), toInt_nat hb, Int.bmod_def]
  have : (0 : Int32).toInt = 0 := rfl
  omega
theorem shr0n (x : Int32) : x >>> (0 &&& 31) = x := by
  apply Int32.toInt_inj.mp
  have e : (x >>> (0 &&& 31)).toInt = (x.toBitVec.sshiftRight 0).toInt := rfl
  rw [e, BitVec.toInt_sshiftRight]
  show x.toInt >>> 0 = _
  rw [Int.shiftRight_zero]
theorem shl0n (x : Int32) : x <<< (0 &&& 31) = x := by
  apply Int32.toBitVec_inj.mp
  show x.toBitVec <<< (0 : Nat) = _
  simp
/-- a builder's array: what it holds, then zeros -/
def pad (bs : List Int32) (cap : Nat) : List Int32 := bs ++ List.replicate (cap - bs.length) 0
def Byt (bs : List Int32) : Prop := ∀ v ∈ bs.map Value.int, fits .byte v = true
def cap2 (cap len : Nat) : Nat := cap + max (len - cap) (cap + 2)
theorem pad_len {bs : List Int32} {cap : Nat} (h : bs.length ≤ cap) : ((pad bs cap).map Value.int).length = cap := by simp [pad]; omega
theorem Byt.nil : Byt [] := fun _ h => nomatch h
theorem Byt.app {a b : List Int32} (h1 : Byt a) (h2 : Byt b) : Byt (a ++ b) := fun v h => by
  rw [List.map_append] at h
  exact (List.mem_append.mp h).elim (h1 v) (h2 v)
theorem Byt.rep (n : Nat) : ∀ v ∈ List.replicate n (Value.int 0), fits .byte v = true := fun v h => by rw [(List.mem_replicate.mp h).2]; rfl
theorem Byt.pad {bs : List Int32} (cap : Nat) (h : Byt bs) : Byt (pad bs cap) := Byt.app h fun v q => Byt.rep _ v (by rw [List.map_replicate] at q; exact q)
theorem Byt.one (x : Int32) : Byt [by8 x] := fun v h => by
  rw [List.map_cons, List.map_nil] at h
  rw [List.mem_singleton.mp h]; exact fits_nar_byte x
theorem Byt.map8 : ∀ xs : List Int32, Byt (xs.map by8)
  | [] => Byt.nil
  | x :: xs => Byt.app (Byt.one x) (Byt.map8 xs)
theorem pad_grow {bs : List Int32} {cap c2 : Nat} (h : bs.length ≤ cap) (h2 : cap ≤ c2) : pad bs cap ++ List.replicate (c2 - cap) 0 = pad bs c2 := by
  unfold pad
  rw [List.append_assoc, List.replicate_append_replicate, show cap - bs.length + (c2 - cap) = c2 - bs.length by omega]
theorem pad_put {bs cs : List Int32} {cap : Nat} (h : bs.length + cs.length ≤ cap) : ((pad bs cap).map Value.int).take bs.length ++ ((cs.map Value.int).drop 0).take cs.length ++ ((pad bs cap).map Value.int).drop (bs.length + cs.length) = (pad (bs ++ cs) cap).map Value.int := by
  have h1 : (cs.map Value.int).take cs.length = cs.map Value.int := List.take_of_length_le (by simp)
  have h2 : ((pad bs cap).map Value.int).take bs.length = bs.map Value.int := by
    unfold pad
    rw [List.map_append, List.take_append_of_le_length (by simp), List.take_of_length_le (by simp)]
  have h3 : ((pad bs cap).map Value.int).drop (bs.length + cs.length) = List.replicate (cap - (bs ++ cs).length) (Value.int 0) := by
    unfold pad
    rw [List.map_append, List.drop_append, List.map_replicate, List.drop_replicate, List.drop_of_length_le (by simp)]
    simp; omega
  rw [List.drop_zero, h1, h2, h3]
  unfold pad
  rw [List.map_append, List.map_append, List.map_replicate]
theorem cp_new {vs : List Int32} {P cap : Nat} (h : vs.length = cap) : (List.replicate P (Value.int 0)).take 0 ++ ((vs.map Value.int).drop 0).take cap ++ (List.replicate P (Value.int 0)).drop (0 + cap) = (vs ++ List.replicate (P - cap) 0).map Value.int := by
  subst h
  rw [List.take_zero, List.drop_zero, List.take_of_length_le (by simp), List.nil_append, Nat.zero_add, List.drop_replicate, List.map_append, List.map_replicate]
theorem cp_range {bs : List Int32} {cap : Nat} (h : bs.length ≤ cap) : (List.replicate bs.length (Value.int 0)).take 0 ++ (((pad bs cap).map Value.int).drop 0).take bs.length ++ (List.replicate bs.length (Value.int 0)).drop (0 + bs.length) = bs.map Value.int := by
  have h2 : ((pad bs cap).map Value.int).take bs.length = bs.map Value.int := by
    unfold pad
    rw [List.map_append, List.take_append_of_le_length (by simp), List.take_of_length_le (by simp)]
  rw [List.take_zero, List.drop_zero, h2, List.nil_append, Nat.zero_add, List.drop_replicate, Nat.sub_self]
  simp
end Jvm.Own
namespace Jvm.Pilot.@@N@@
open Jvm Jvm.ClassFile Sem Op Lib Jvm.Free Jvm.Stand Jvm.LawKit Jvm.RoadKit Bundle Jvm.Own Jvm.Pilot.@@N@@.Jvm.D
def GH (Z : State) (a0 : Array Value) (EL : List (String × Nat)) (zc : Int32) (sf : Value) : Prop :=
  (∀ d ∈ tables_1, d.before a0 Z = true) ∧ EW Z a0 EL ∧ (∀ a ∈ Bundle.stringAtoms, a.before a0 Z = true) ∧ (∀ p ∈ consts_1, p ∈ EL) ∧ Sta Z Z.heap "java/lang/String" "COMPACT_STRINGS" "Z" (.int zc) ∧ ¬ zc = 0 ∧ Sta Z Z.heap "jdk/internal/util/Preconditions" "SIOOBE_FORMATTER" "Ljava/util/function/BiFunction;" sf ∧ sf.isRef = true
def K251 : List Int32 := [(40 : Int32)]
theorem lK251 : K251.length = 1 := rfl
theorem fK251 : Byt K251 := by unfold Byt; decide +kernel
def K253 : List Int32 := [(41 : Int32)]
theorem lK253 : K253.length = 1 := rfl
theorem fK253 : Byt K253 := by unfold Byt; decide +kernel
def K255 : List Int32 := [(83 : Int32), (85 : Int32), (77 : Int32), (40 : Int32)]
theorem lK255 : K255.length = 4 := rfl
theorem fK255 : Byt K255 := by unfold Byt; decide +kernel
def K257 : List Int32 := [(32 : Int32), (47 : Int32), (32 : Int32), (49 : Int32), (48 : Int32), (48 : Int32), (48 : Int32), (48 : Int32), (48 : Int32), (48 : Int32), (48 : Int32), (48 : Int32), (48 : Int32), (48 : Int32), (48 : Int32), (48 : Int32), (48 : Int32), (48 : Int32), (48 : Int32), (41 : Int32), (44 : Int32), (32 : Int32), (83 : Int32), (85 : Int32), (77 : Int32), (40 : Int32)]
theorem lK257 : K257.length = 26 := rfl
theorem fK257 : Byt K257 := by unfold Byt; decide +kernel
def K259 : List Int32 := [(32 : Int32), (47 : Int32), (32 : Int32), (49 : Int32), (48 : Int32), (48 : Int32), (48 : Int32), (48 : Int32), (48 : Int32), (48 : Int32), (48 : Int32), (48 : Int32), (48 : Int32), (48 : Int32), (32 : Int32), (37 : Int32), (32 : Int32), (49 : Int32), (48 : Int32), (48 : Int32), (48 : Int32), (48 : Int32), (48 : Int32), (41 : Int32), (44 : Int32), (32 : Int32), (83 : Int32), (85 : Int32), (77 : Int32), (40 : Int32)]
theorem lK259 : K259.length = 30 := rfl
theorem fK259 : Byt K259 := by unfold Byt; decide +kernel
def K261 : List Int32 := [(32 : Int32), (47 : Int32), (32 : Int32), (49 : Int32), (48 : Int32), (48 : Int32), (48 : Int32), (48 : Int32), (48 : Int32), (32 : Int32), (37 : Int32), (32 : Int32), (49 : Int32), (48 : Int32), (48 : Int32), (48 : Int32), (48 : Int32), (48 : Int32), (41 : Int32), (44 : Int32), (32 : Int32), (83 : Int32), (85 : Int32), (77 : Int32), (40 : Int32)]
theorem lK261 : K261.length = 25 := rfl
theorem fK261 : Byt K261 := by unfold Byt; decide +kernel
def K263 : List Int32 := [(32 : Int32), (37 : Int32), (32 : Int32), (49 : Int32), (48 : Int32), (48 : Int32), (48 : Int32), (48 : Int32), (48 : Int32), (41 : Int32)]
theorem lK263 : K263.length = 10 := rfl
theorem fK263 : Byt K263 := by unfold Byt; decide +kernel
def K14 : List Int32 := [(118 : Int32)]
theorem lK14 : K14.length = 1 := rfl
theorem fK14 : Byt K14 := by unfold Byt; decide +kernel
def K22 : List Int32 := [(83 : Int32), (85 : Int32), (77 : Int32), (40 : Int32), (40 : Int32), (118 : Int32), (41 : Int32), (32 : Int32), (47 : Int32), (32 : Int32), (49 : Int32), (48 : Int32), (48 : Int32), (48 : Int32), (48 : Int32), (48 : Int32), (48 : Int32), (48 : Int32), (48 : Int32), (48 : Int32), (48 : Int32), (48 : Int32), (48 : Int32), (48 : Int32), (48 : Int32), (48 : Int32), (41 : Int32), (44 : Int32), (32 : Int32), (83 : Int32), (85 : Int32), (77 : Int32), (40 : Int32), (40 : Int32), (118 : Int32), (41 : Int32), (32 : Int32), (47 : Int32), (32 : Int32), (49 : Int32), (48 : Int32), (48 : Int32), (48 : Int32), (48 : Int32), (48 : Int32), (48 : Int32), (48 : Int32), (48 : Int32), (48 : Int32), (48 : Int32), (32 : Int32), (37 : Int32), (32 : Int32), (49 : Int32), (48 : Int32), (48 : Int32), (48 : Int32), (48 : Int32), (48 : Int32), (41 : Int32), (44 : Int32), (32 : Int32), (83 : Int32), (85 : Int32), (77 : Int32), (40 : Int32), (40 : Int32), (118 : Int32), (41 : Int32), (32 : Int32), (47 : Int32), (32 : Int32), (49 : Int32), (48 : Int32), (48 : Int32), (48 : Int32), (48 : Int32), (48 : Int32), (32 : Int32), (37 : Int32), (32 : Int32), (49 : Int32), (48 : Int32), (48 : Int32), (48 : Int32), (48 : Int32), (48 : Int32), (41 : Int32), (44 : Int32), (32 : Int32), (83 : Int32), (85 : Int32), (77 : Int32), (40 : Int32), (40 : Int32), (118 : Int32), (41 : Int32), (32 : Int32), (37 : Int32), (32 : Int32), (49 : Int32), (48 : Int32), (48 : Int32), (48 : Int32), (48 : Int32), (48 : Int32), (41 : Int32)]
theorem lK22 : K22.length = 107 := rfl
theorem fK22 : Byt K22 := by unfold Byt; decide +kernel
def P1 (cs : List Int32) : List Int32 := (([] ++ K251) ++ cs) ++ K253
def sumS (cs : List Int32) : List Int32 := ((((((((([] ++ K255) ++ P1 cs) ++ K257) ++ P1 cs) ++ K259) ++ P1 cs) ++ K261) ++ P1 cs) ++ K263)
theorem n123 (x : Int32) : (1 + (x &&& 2147483647) % 3) = 1 ∨ (1 + (x &&& 2147483647) % 3) = 2 ∨ (1 + (x &&& 2147483647) % 3) = 3 := by
  have h : 0 ≤ (x &&& 2147483647).toInt ∧ (x &&& 2147483647).toInt ≤ 2147483647 := and_toInt x 2147483647 (by decide)
  have e3 : (3 : Int32).toInt = 3 := rfl
  have e : ((x &&& 2147483647) % 3).toInt = (x &&& 2147483647).toInt % 3 := by
    rw [Int32.toInt_mod, e3, Int.tmod_eq_emod_of_nonneg h.1]
  have b : ((x &&& 2147483647) % 3).toInt = 0 ∨ ((x &&& 2147483647) % 3).toInt = 1 ∨ ((x &&& 2147483647) % 3).toInt = 2 := by omega
  rcases b with b | b | b
  · exact Or.inl (by rw [toInt_eq b]; rfl)
  · exact Or.inr (Or.inl (by rw [toInt_eq b]; rfl))
  · exact Or.inr (Or.inr (by rw [toInt_eq b]; rfl))

theorem wd_0 {Z : State} {a0 : Array Value} {EL : List (String × Nat)} {zc : Int32} {sf : Value} (g : GH Z a0 EL zc sf) : (Jvm.Cond.constant "com/example/coffer/coffer/LedgerExactSumPinLaw" (7 : Nat) (2147483647 : Int32)).before a0 Z = true := g.1 _ (List.mem_of_getElem? (i := 0) rfl)
theorem wd_1 {Z : State} {a0 : Array Value} {EL : List (String × Nat)} {zc : Int32} {sf : Value} (g : GH Z a0 EL zc sf) : (Jvm.Cond.methodLink "com/example/coffer/coffer/LedgerExactSumPinLaw" (8 : Nat) ({ cls := "com/example/coffer/coffer/LedgerExactSumPinLaw", name := "draw", desc := "(ICCC)Ljava/lang/String;" } : Jvm.MethodName)).before a0 Z = true := g.1 _ (List.mem_of_getElem? (i := 1) rfl)
theorem wd_2 {Z : State} {a0 : Array Value} {EL : List (String × Nat)} {zc : Int32} {sf : Value} (g : GH Z a0 EL zc sf) : (Jvm.Cond.static ({ cls := "com/example/coffer/coffer/LedgerExactSumPinLaw", name := "draw", desc := "(ICCC)Ljava/lang/String;" } : Jvm.MethodName)).before a0 Z = true := g.1 _ (List.mem_of_getElem? (i := 2) rfl)
theorem wd_3 {Z : State} {a0 : Array Value} {EL : List (String × Nat)} {zc : Int32} {sf : Value} (g : GH Z a0 EL zc sf) : (Jvm.Cond.initialized "com/example/coffer/coffer/LedgerExactSumPinLaw").before a0 Z = true := g.1 _ (List.mem_of_getElem? (i := 3) rfl)
theorem wd_4 {Z : State} {a0 : Array Value} {EL : List (String × Nat)} {zc : Int32} {sf : Value} (g : GH Z a0 EL zc sf) : (Jvm.Cond.code ({ cls := "com/example/coffer/coffer/LedgerExactSumPinLaw", name := "draw", desc := "(ICCC)Ljava/lang/String;" } : Jvm.MethodName) method_3_code (4 : Nat) (Option.some (Jvm.ClassFile.FieldType.object "java/lang/String"))).before a0 Z = true := g.1 _ (List.mem_of_getElem? (i := 4) rfl)
theorem wd_5 {Z : State} {a0 : Array Value} {EL : List (String × Nat)} {zc : Int32} {sf : Value} (g : GH Z a0 EL zc sf) : (Jvm.Cond.classLink "com/example/coffer/coffer/LedgerExactSumPinLaw" (25 : Nat) "java/lang/String").before a0 Z = true := g.1 _ (List.mem_of_getElem? (i := 5) rfl)
theorem wd_6 {Z : State} {a0 : Array Value} {EL : List (String × Nat)} {zc : Int32} {sf : Value} (g : GH Z a0 EL zc sf) : (Jvm.Cond.instantiable "java/lang/String" (4 : Nat)).before a0 Z = true := g.1 _ (List.mem_of_getElem? (i := 6) rfl)
theorem wd_7 {Z : State} {a0 : Array Value} {EL : List (String × Nat)} {zc : Int32} {sf : Value} (g : GH Z a0 EL zc sf) : (Jvm.Cond.initialized "java/lang/String").before a0 Z = true := g.1 _ (List.mem_of_getElem? (i := 7) rfl)
theorem wd_8 {Z : State} {a0 : Array Value} {EL : List (String × Nat)} {zc : Int32} {sf : Value} (g : GH Z a0 EL zc sf) : (Jvm.Cond.arrayClass Jvm.ClassFile.FieldType.char).before a0 Z = true := g.1 _ (List.mem_of_getElem? (i := 8) rfl)
theorem wd_9 {Z : State} {a0 : Array Value} {EL : List (String × Nat)} {zc : Int32} {sf : Value} (g : GH Z a0 EL zc sf) : (Jvm.Cond.methodLink "com/example/coffer/coffer/LedgerExactSumPinLaw" (38 : Nat) ({ cls := "java/lang/String", name := "<init>", desc := "([C)V" } : Jvm.MethodName)).before a0 Z = true := g.1 _ (List.mem_of_getElem? (i := 9) rfl)
theorem wd_10 {Z : State} {a0 : Array Value} {EL : List (String × Nat)} {zc : Int32} {sf : Value} (g : GH Z a0 EL zc sf) : (Jvm.Cond.instanceMethod ({ cls := "java/lang/String", name := "<init>", desc := "([C)V" } : Jvm.MethodName)).before a0 Z = true := g.1 _ (List.mem_of_getElem? (i := 10) rfl)
theorem wd_11 {Z : State} {a0 : Array Value} {EL : List (String × Nat)} {zc : Int32} {sf : Value} (g : GH Z a0 EL zc sf) : (Jvm.Cond.code ({ cls := "java/lang/String", name := "<init>", desc := "([C)V" } : Jvm.MethodName) jdk_42_method_3_code (2 : Nat) (Option.none : Option Jvm.ClassFile.FieldType)).before a0 Z = true := g.1 _ (List.mem_of_getElem? (i := 11) rfl)
theorem wd_12 {Z : State} {a0 : Array Value} {EL : List (String × Nat)} {zc : Int32} {sf : Value} (g : GH Z a0 EL zc sf) : (Jvm.Cond.methodLink "java/lang/String" (27 : Nat) ({ cls := "java/lang/String", name := "<init>", desc := "([CIILjava/lang/Void;)V" } : Jvm.MethodName)).before a0 Z = true := g.1 _ (List.mem_of_getElem? (i := 12) rfl)
theorem wd_13 {Z : State} {a0 : Array Value} {EL : List (String × Nat)} {zc : Int32} {sf : Value} (g : GH Z a0 EL zc sf) : (Jvm.Cond.instanceMethod ({ cls := "java/lang/String", name := "<init>", desc := "([CIILjava/lang/Void;)V" } : Jvm.MethodName)).before a0 Z = true := g.1 _ (List.mem_of_getElem? (i := 13) rfl)
theorem wd_15 {Z : State} {a0 : Array Value} {EL : List (String × Nat)} {zc : Int32} {sf : Value} (g : GH Z a0 EL zc sf) : (Jvm.Cond.code ({ cls := "java/lang/String", name := "<init>", desc := "([CIILjava/lang/Void;)V" } : Jvm.MethodName) jdk_42_method_149_code (6 : Nat) (Option.none : Option Jvm.ClassFile.FieldType)).before a0 Z = true := g.1 _ (List.mem_of_getElem? (i := 15) rfl)
theorem wd_16 {Z : State} {a0 : Array Value} {EL : List (String × Nat)} {zc : Int32} {sf : Value} (g : GH Z a0 EL zc sf) : (Jvm.Cond.methodLink "java/lang/String" (1 : Nat) ({ cls := "java/lang/Object", name := "<init>", desc := "()V" } : Jvm.MethodName)).before a0 Z = true := g.1 _ (List.mem_of_getElem? (i := 16) rfl)
theorem wd_17 {Z : State} {a0 : Array Value} {EL : List (String × Nat)} {zc : Int32} {sf : Value} (g : GH Z a0 EL zc sf) : (Jvm.Cond.instanceMethod ({ cls := "java/lang/Object", name := "<init>", desc := "()V" } : Jvm.MethodName)).before a0 Z = true := g.1 _ (List.mem_of_getElem? (i := 17) rfl)
theorem wd_18 {Z : State} {a0 : Array Value} {EL : List (String × Nat)} {zc : Int32} {sf : Value} (g : GH Z a0 EL zc sf) : (Jvm.Cond.code ({ cls := "java/lang/Object", name := "<init>", desc := "()V" } : Jvm.MethodName) object_method_1_code (1 : Nat) (Option.none : Option Jvm.ClassFile.FieldType)).before a0 Z = true := g.1 _ (List.mem_of_getElem? (i := 18) rfl)
theorem wd_19 {Z : State} {a0 : Array Value} {EL : List (String × Nat)} {zc : Int32} {sf : Value} (g : GH Z a0 EL zc sf) : (Jvm.Cond.fieldLink "java/lang/String" (38 : Nat) "java/lang/String" "COMPACT_STRINGS" "Z").before a0 Z = true := g.1 _ (List.mem_of_getElem? (i := 19) rfl)
theorem wd_20 {Z : State} {a0 : Array Value} {EL : List (String × Nat)} {zc : Int32} {sf : Value} (g : GH Z a0 EL zc sf) : (Jvm.Cond.methodLink "java/lang/String" (177 : Nat) ({ cls := "java/lang/StringUTF16", name := "compress", desc := "([CII)[B" } : Jvm.MethodName)).before a0 Z = true := g.1 _ (List.mem_of_getElem? (i := 20) rfl)
theorem wd_21 {Z : State} {a0 : Array Value} {EL : List (String × Nat)} {zc : Int32} {sf : Value} (g : GH Z a0 EL zc sf) : (Jvm.Cond.static ({ cls := "java/lang/StringUTF16", name := "compress", desc := "([CII)[B" } : Jvm.MethodName)).before a0 Z = true := g.1 _ (List.mem_of_getElem? (i := 21) rfl)
theorem wd_22 {Z : State} {a0 : Array Value} {EL : List (String × Nat)} {zc : Int32} {sf : Value} (g : GH Z a0 EL zc sf) : (Jvm.Cond.initialized "java/lang/StringUTF16").before a0 Z = true := g.1 _ (List.mem_of_getElem? (i := 22) rfl)
theorem wd_23 {Z : State} {a0 : Array Value} {EL : List (String × Nat)} {zc : Int32} {sf : Value} (g : GH Z a0 EL zc sf) : (Jvm.Cond.code ({ cls := "java/lang/StringUTF16", name := "compress", desc := "([CII)[B" } : Jvm.MethodName) jdk_52_method_16_code (6 : Nat) (Option.some (Jvm.ClassFile.FieldType.array Jvm.ClassFile.FieldType.byte))).before a0 Z = true := g.1 _ (List.mem_of_getElem? (i := 23) rfl)
theorem wd_24 {Z : State} {a0 : Array Value} {EL : List (String × Nat)} {zc : Int32} {sf : Value} (g : GH Z a0 EL zc sf) : (Jvm.Cond.arrayClass Jvm.ClassFile.FieldType.byte).before a0 Z = true := g.1 _ (List.mem_of_getElem? (i := 24) rfl)
theorem wd_25 {Z : State} {a0 : Array Value} {EL : List (String × Nat)} {zc : Int32} {sf : Value} (g : GH Z a0 EL zc sf) : (Jvm.Cond.methodLink "java/lang/StringUTF16" (115 : Nat) ({ cls := "java/lang/StringUTF16", name := "compress", desc := "([CI[BII)I" } : Jvm.MethodName)).before a0 Z = true := g.1 _ (List.mem_of_getElem? (i := 25) rfl)
theorem wd_26 {Z : State} {a0 : Array Value} {EL : List (String × Nat)} {zc : Int32} {sf : Value} (g : GH Z a0 EL zc sf) : (Jvm.Cond.static ({ cls := "java/lang/StringUTF16", name := "compress", desc := "([CI[BII)I" } : Jvm.MethodName)).before a0 Z = true := g.1 _ (List.mem_of_getElem? (i := 26) rfl)
theorem wd_27 {Z : State} {a0 : Array Value} {EL : List (String × Nat)} {zc : Int32} {sf : Value} (g : GH Z a0 EL zc sf) : (Jvm.Cond.code ({ cls := "java/lang/StringUTF16", name := "compress", desc := "([CI[BII)I" } : Jvm.MethodName) jdk_52_method_21_code (7 : Nat) (Option.some Jvm.ClassFile.FieldType.int)).before a0 Z = true := g.1 _ (List.mem_of_getElem? (i := 27) rfl)
theorem wd_28 {Z : State} {a0 : Array Value} {EL : List (String × Nat)} {zc : Int32} {sf : Value} (g : GH Z a0 EL zc sf) : (Jvm.Cond.methodLink "java/lang/String" (47 : Nat) ({ cls := "java/lang/StringUTF16", name := "coderFromArrayLen", desc := "([BI)B" } : Jvm.MethodName)).before a0 Z = true := g.1 _ (List.mem_of_getElem? (i := 28) rfl)
theorem wd_29 {Z : State} {a0 : Array Value} {EL : List (String × Nat)} {zc : Int32} {sf : Value} (g : GH Z a0 EL zc sf) : (Jvm.Cond.static ({ cls := "java/lang/StringUTF16", name := "coderFromArrayLen", desc := "([BI)B" } : Jvm.MethodName)).before a0 Z = true := g.1 _ (List.mem_of_getElem? (i := 29) rfl)
theorem wd_30 {Z : State} {a0 : Array Value} {EL : List (String × Nat)} {zc : Int32} {sf : Value} (g : GH Z a0 EL zc sf) : (Jvm.Cond.code ({ cls := "java/lang/StringUTF16", name := "coderFromArrayLen", desc := "([BI)B" } : Jvm.MethodName) jdk_52_method_15_code (2 : Nat) (Option.some Jvm.ClassFile.FieldType.byte)).before a0 Z = true := g.1 _ (List.mem_of_getElem? (i := 30) rfl)
theorem wd_31 {Z : State} {a0 : Array Value} {EL : List (String × Nat)} {zc : Int32} {sf : Value} (g : GH Z a0 EL zc sf) : (Jvm.Cond.fieldLink "java/lang/String" (15 : Nat) "java/lang/String" "coder" "B").before a0 Z = true := g.1 _ (List.mem_of_getElem? (i := 31) rfl)
theorem wd_32 {Z : State} {a0 : Array Value} {EL : List (String × Nat)} {zc : Int32} {sf : Value} (g : GH Z a0 EL zc sf) : (Jvm.Cond.laysFinal "java/lang/String" "java/lang/String" "coder" "B").before a0 Z = true := g.1 _ (List.mem_of_getElem? (i := 32) rfl)
theorem wd_33 {Z : State} {a0 : Array Value} {EL : List (String × Nat)} {zc : Int32} {sf : Value} (g : GH Z a0 EL zc sf) : (Jvm.Cond.fieldLink "java/lang/String" (9 : Nat) "java/lang/String" "value" "[B").before a0 Z = true := g.1 _ (List.mem_of_getElem? (i := 33) rfl)
theorem wd_34 {Z : State} {a0 : Array Value} {EL : List (String × Nat)} {zc : Int32} {sf : Value} (g : GH Z a0 EL zc sf) : (Jvm.Cond.laysFinal "java/lang/String" "java/lang/String" "value" "[B").before a0 Z = true := g.1 _ (List.mem_of_getElem? (i := 34) rfl)
theorem wd_35 {Z : State} {a0 : Array Value} {EL : List (String × Nat)} {zc : Int32} {sf : Value} (g : GH Z a0 EL zc sf) : (Jvm.Cond.stringLink "com/example/coffer/coffer/LedgerExactSumPinLaw" (14 : Nat) "v").before a0 Z = true := g.1 _ (List.mem_of_getElem? (i := 35) rfl)
theorem wd_38 {Z : State} {a0 : Array Value} {EL : List (String × Nat)} {zc : Int32} {sf : Value} (g : GH Z a0 EL zc sf) : (Jvm.Cond.methodLink "com/example/coffer/coffer/LedgerExactSumPinLaw" (16 : Nat) ({ cls := "com/example/coffer/coffer/Ledger", name := "exactSum", desc := "(Ljava/lang/String;)Ljava/lang/String;" } : Jvm.MethodName)).before a0 Z = true := g.1 _ (List.mem_of_getElem? (i := 38) rfl)
theorem wd_39 {Z : State} {a0 : Array Value} {EL : List (String × Nat)} {zc : Int32} {sf : Value} (g : GH Z a0 EL zc sf) : (Jvm.Cond.static ({ cls := "com/example/coffer/coffer/Ledger", name := "exactSum", desc := "(Ljava/lang/String;)Ljava/lang/String;" } : Jvm.MethodName)).before a0 Z = true := g.1 _ (List.mem_of_getElem? (i := 39) rfl)
theorem wd_40 {Z : State} {a0 : Array Value} {EL : List (String × Nat)} {zc : Int32} {sf : Value} (g : GH Z a0 EL zc sf) : (Jvm.Cond.initialized "com/example/coffer/coffer/Ledger").before a0 Z = true := g.1 _ (List.mem_of_getElem? (i := 40) rfl)
theorem wd_41 {Z : State} {a0 : Array Value} {EL : List (String × Nat)} {zc : Int32} {sf : Value} (g : GH Z a0 EL zc sf) : (Jvm.Cond.code ({ cls := "com/example/coffer/coffer/Ledger", name := "exactSum", desc := "(Ljava/lang/String;)Ljava/lang/String;" } : Jvm.MethodName) prog_19_method_11_code (2 : Nat) (Option.some (Jvm.ClassFile.FieldType.object "java/lang/String"))).before a0 Z = true := g.1 _ (List.mem_of_getElem? (i := 41) rfl)
theorem wd_42 {Z : State} {a0 : Array Value} {EL : List (String × Nat)} {zc : Int32} {sf : Value} (g : GH Z a0 EL zc sf) : (Jvm.Cond.classLink "com/example/coffer/coffer/Ledger" (57 : Nat) "java/lang/StringBuilder").before a0 Z = true := g.1 _ (List.mem_of_getElem? (i := 42) rfl)
theorem wd_43 {Z : State} {a0 : Array Value} {EL : List (String × Nat)} {zc : Int32} {sf : Value} (g : GH Z a0 EL zc sf) : (Jvm.Cond.instantiable "java/lang/StringBuilder" (4 : Nat)).before a0 Z = true := g.1 _ (List.mem_of_getElem? (i := 43) rfl)
theorem wd_44 {Z : State} {a0 : Array Value} {EL : List (String × Nat)} {zc : Int32} {sf : Value} (g : GH Z a0 EL zc sf) : (Jvm.Cond.initialized "java/lang/StringBuilder").before a0 Z = true := g.1 _ (List.mem_of_getElem? (i := 44) rfl)
theorem wd_45 {Z : State} {a0 : Array Value} {EL : List (String × Nat)} {zc : Int32} {sf : Value} (g : GH Z a0 EL zc sf) : (Jvm.Cond.methodLink "com/example/coffer/coffer/Ledger" (59 : Nat) ({ cls := "java/lang/StringBuilder", name := "<init>", desc := "()V" } : Jvm.MethodName)).before a0 Z = true := g.1 _ (List.mem_of_getElem? (i := 45) rfl)
theorem wd_46 {Z : State} {a0 : Array Value} {EL : List (String × Nat)} {zc : Int32} {sf : Value} (g : GH Z a0 EL zc sf) : (Jvm.Cond.instanceMethod ({ cls := "java/lang/StringBuilder", name := "<init>", desc := "()V" } : Jvm.MethodName)).before a0 Z = true := g.1 _ (List.mem_of_getElem? (i := 46) rfl)
theorem wd_47 {Z : State} {a0 : Array Value} {EL : List (String × Nat)} {zc : Int32} {sf : Value} (g : GH Z a0 EL zc sf) : (Jvm.Cond.code ({ cls := "java/lang/StringBuilder", name := "<init>", desc := "()V" } : Jvm.MethodName) jdk_67_method_1_code (1 : Nat) (Option.none : Option Jvm.ClassFile.FieldType)).before a0 Z = true := g.1 _ (List.mem_of_getElem? (i := 47) rfl)
theorem wd_48 {Z : State} {a0 : Array Value} {EL : List (String × Nat)} {zc : Int32} {sf : Value} (g : GH Z a0 EL zc sf) : (Jvm.Cond.methodLink "java/lang/StringBuilder" (1 : Nat) ({ cls := "java/lang/AbstractStringBuilder", name := "<init>", desc := "(I)V" } : Jvm.MethodName)).before a0 Z = true := g.1 _ (List.mem_of_getElem? (i := 48) rfl)
theorem wd_49 {Z : State} {a0 : Array Value} {EL : List (String × Nat)} {zc : Int32} {sf : Value} (g : GH Z a0 EL zc sf) : (Jvm.Cond.instanceMethod ({ cls := "java/lang/AbstractStringBuilder", name := "<init>", desc := "(I)V" } : Jvm.MethodName)).before a0 Z = true := g.1 _ (List.mem_of_getElem? (i := 49) rfl)
theorem wd_52 {Z : State} {a0 : Array Value} {EL : List (String × Nat)} {zc : Int32} {sf : Value} (g : GH Z a0 EL zc sf) : (Jvm.Cond.initialized "java/lang/AbstractStringBuilder").before a0 Z = true := g.1 _ (List.mem_of_getElem? (i := 52) rfl)
theorem wd_53 {Z : State} {a0 : Array Value} {EL : List (String × Nat)} {zc : Int32} {sf : Value} (g : GH Z a0 EL zc sf) : (Jvm.Cond.code ({ cls := "java/lang/AbstractStringBuilder", name := "<init>", desc := "(I)V" } : Jvm.MethodName) jdk_68_method_2_code (2 : Nat) (Option.none : Option Jvm.ClassFile.FieldType)).before a0 Z = true := g.1 _ (List.mem_of_getElem? (i := 53) rfl)
theorem wd_54 {Z : State} {a0 : Array Value} {EL : List (String × Nat)} {zc : Int32} {sf : Value} (g : GH Z a0 EL zc sf) : (Jvm.Cond.methodLink "java/lang/AbstractStringBuilder" (3 : Nat) ({ cls := "java/lang/Object", name := "<init>", desc := "()V" } : Jvm.MethodName)).before a0 Z = true := g.1 _ (List.mem_of_getElem? (i := 54) rfl)
theorem wd_55 {Z : State} {a0 : Array Value} {EL : List (String × Nat)} {zc : Int32} {sf : Value} (g : GH Z a0 EL zc sf) : (Jvm.Cond.fieldLink "java/lang/AbstractStringBuilder" (18 : Nat) "java/lang/String" "COMPACT_STRINGS" "Z").before a0 Z = true := g.1 _ (List.mem_of_getElem? (i := 55) rfl)
theorem wd_56 {Z : State} {a0 : Array Value} {EL : List (String × Nat)} {zc : Int32} {sf : Value} (g : GH Z a0 EL zc sf) : (Jvm.Cond.fieldLink "java/lang/AbstractStringBuilder" (15 : Nat) "java/lang/AbstractStringBuilder" "value" "[B").before a0 Z = true := g.1 _ (List.mem_of_getElem? (i := 56) rfl)
theorem wd_57 {Z : State} {a0 : Array Value} {EL : List (String × Nat)} {zc : Int32} {sf : Value} (g : GH Z a0 EL zc sf) : (Jvm.Cond.lays "java/lang/StringBuilder" "java/lang/AbstractStringBuilder" "value" "[B").before a0 Z = true := g.1 _ (List.mem_of_getElem? (i := 57) rfl)
theorem wd_58 {Z : State} {a0 : Array Value} {EL : List (String × Nat)} {zc : Int32} {sf : Value} (g : GH Z a0 EL zc sf) : (Jvm.Cond.fieldLink "java/lang/AbstractStringBuilder" (22 : Nat) "java/lang/AbstractStringBuilder" "coder" "B").before a0 Z = true := g.1 _ (List.mem_of_getElem? (i := 58) rfl)
theorem wd_59 {Z : State} {a0 : Array Value} {EL : List (String × Nat)} {zc : Int32} {sf : Value} (g : GH Z a0 EL zc sf) : (Jvm.Cond.lays "java/lang/StringBuilder" "java/lang/AbstractStringBuilder" "coder" "B").before a0 Z = true := g.1 _ (List.mem_of_getElem? (i := 59) rfl)
theorem wd_60 {Z : State} {a0 : Array Value} {EL : List (String × Nat)} {zc : Int32} {sf : Value} (g : GH Z a0 EL zc sf) : (Jvm.Cond.stringLink "com/example/coffer/coffer/Ledger" (251 : Nat) "(").before a0 Z = true := g.1 _ (List.mem_of_getElem? (i := 60) rfl)
theorem wd_61 {Z : State} {a0 : Array Value} {EL : List (String × Nat)} {zc : Int32} {sf : Value} (g : GH Z a0 EL zc sf) : (Jvm.Cond.methodLink "com/example/coffer/coffer/Ledger" (62 : Nat) ({ cls := "java/lang/StringBuilder", name := "append", desc := "(Ljava/lang/String;)Ljava/lang/StringBuilder;" } : Jvm.MethodName)).before a0 Z = true := g.1 _ (List.mem_of_getElem? (i := 61) rfl)
theorem wd_62 {Z : State} {a0 : Array Value} {EL : List (String × Nat)} {zc : Int32} {sf : Value} (g : GH Z a0 EL zc sf) : (Jvm.Cond.declares ({ cls := "java/lang/StringBuilder", name := "append", desc := "(Ljava/lang/String;)Ljava/lang/StringBuilder;" } : Jvm.MethodName)).before a0 Z = true := g.1 _ (List.mem_of_getElem? (i := 62) rfl)
theorem wd_63 {Z : State} {a0 : Array Value} {EL : List (String × Nat)} {zc : Int32} {sf : Value} (g : GH Z a0 EL zc sf) : (Jvm.Cond.instanceMethod ({ cls := "java/lang/StringBuilder", name := "append", desc := "(Ljava/lang/String;)Ljava/lang/StringBuilder;" } : Jvm.MethodName)).before a0 Z = true := g.1 _ (List.mem_of_getElem? (i := 63) rfl)
theorem wd_64 {Z : State} {a0 : Array Value} {EL : List (String × Nat)} {zc : Int32} {sf : Value} (g : GH Z a0 EL zc sf) : (Jvm.Cond.selects "java/lang/StringBuilder" ({ cls := "java/lang/StringBuilder", name := "append", desc := "(Ljava/lang/String;)Ljava/lang/StringBuilder;" } : Jvm.MethodName) ({ cls := "java/lang/StringBuilder", name := "append", desc := "(Ljava/lang/String;)Ljava/lang/StringBuilder;" } : Jvm.MethodName)).before a0 Z = true := g.1 _ (List.mem_of_getElem? (i := 64) rfl)
theorem wd_65 {Z : State} {a0 : Array Value} {EL : List (String × Nat)} {zc : Int32} {sf : Value} (g : GH Z a0 EL zc sf) : (Jvm.Cond.code ({ cls := "java/lang/StringBuilder", name := "append", desc := "(Ljava/lang/String;)Ljava/lang/StringBuilder;" } : Jvm.MethodName) jdk_67_method_7_code (2 : Nat) (Option.some (Jvm.ClassFile.FieldType.object "java/lang/StringBuilder"))).before a0 Z = true := g.1 _ (List.mem_of_getElem? (i := 65) rfl)
theorem wd_66 {Z : State} {a0 : Array Value} {EL : List (String × Nat)} {zc : Int32} {sf : Value} (g : GH Z a0 EL zc sf) : (Jvm.Cond.methodLink "java/lang/StringBuilder" (29 : Nat) ({ cls := "java/lang/AbstractStringBuilder", name := "append", desc := "(Ljava/lang/String;)Ljava/lang/AbstractStringBuilder;" } : Jvm.MethodName)).before a0 Z = true := g.1 _ (List.mem_of_getElem? (i := 66) rfl)
theorem wd_67 {Z : State} {a0 : Array Value} {EL : List (String × Nat)} {zc : Int32} {sf : Value} (g : GH Z a0 EL zc sf) : (Jvm.Cond.instanceMethod ({ cls := "java/lang/AbstractStringBuilder", name := "append", desc := "(Ljava/lang/String;)Ljava/lang/AbstractStringBuilder;" } : Jvm.MethodName)).before a0 Z = true := g.1 _ (List.mem_of_getElem? (i := 67) rfl)
theorem wd_68 {Z : State} {a0 : Array Value} {EL : List (String × Nat)} {zc : Int32} {sf : Value} (g : GH Z a0 EL zc sf) : (Jvm.Cond.superclass "java/lang/StringBuilder" "java/lang/AbstractStringBuilder").before a0 Z = true := g.1 _ (List.mem_of_getElem? (i := 68) rfl)
theorem wd_69 {Z : State} {a0 : Array Value} {EL : List (String × Nat)} {zc : Int32} {sf : Value} (g : GH Z a0 EL zc sf) : (Jvm.Cond.declares ({ cls := "java/lang/AbstractStringBuilder", name := "append", desc := "(Ljava/lang/String;)Ljava/lang/AbstractStringBuilder;" } : Jvm.MethodName)).before a0 Z = true := g.1 _ (List.mem_of_getElem? (i := 69) rfl)
theorem wd_70 {Z : State} {a0 : Array Value} {EL : List (String × Nat)} {zc : Int32} {sf : Value} (g : GH Z a0 EL zc sf) : (Jvm.Cond.code ({ cls := "java/lang/AbstractStringBuilder", name := "append", desc := "(Ljava/lang/String;)Ljava/lang/AbstractStringBuilder;" } : Jvm.MethodName) jdk_68_method_22_code (3 : Nat) (Option.some (Jvm.ClassFile.FieldType.object "java/lang/AbstractStringBuilder"))).before a0 Z = true := g.1 _ (List.mem_of_getElem? (i := 70) rfl)
theorem wd_71 {Z : State} {a0 : Array Value} {EL : List (String × Nat)} {zc : Int32} {sf : Value} (g : GH Z a0 EL zc sf) : (Jvm.Cond.methodLink "java/lang/AbstractStringBuilder" (32 : Nat) ({ cls := "java/lang/String", name := "length", desc := "()I" } : Jvm.MethodName)).before a0 Z = true := g.1 _ (List.mem_of_getElem? (i := 71) rfl)
theorem wd_72 {Z : State} {a0 : Array Value} {EL : List (String × Nat)} {zc : Int32} {sf : Value} (g : GH Z a0 EL zc sf) : (Jvm.Cond.declares ({ cls := "java/lang/String", name := "length", desc := "()I" } : Jvm.MethodName)).before a0 Z = true := g.1 _ (List.mem_of_getElem? (i := 72) rfl)
theorem wd_73 {Z : State} {a0 : Array Value} {EL : List (String × Nat)} {zc : Int32} {sf : Value} (g : GH Z a0 EL zc sf) : (Jvm.Cond.instanceMethod ({ cls := "java/lang/String", name := "length", desc := "()I" } : Jvm.MethodName)).before a0 Z = true := g.1 _ (List.mem_of_getElem? (i := 73) rfl)
theorem wd_74 {Z : State} {a0 : Array Value} {EL : List (String × Nat)} {zc : Int32} {sf : Value} (g : GH Z a0 EL zc sf) : (Jvm.Cond.selects "java/lang/String" ({ cls := "java/lang/String", name := "length", desc := "()I" } : Jvm.MethodName) ({ cls := "java/lang/String", name := "length", desc := "()I" } : Jvm.MethodName)).before a0 Z = true := g.1 _ (List.mem_of_getElem? (i := 74) rfl)
theorem wd_75 {Z : State} {a0 : Array Value} {EL : List (String × Nat)} {zc : Int32} {sf : Value} (g : GH Z a0 EL zc sf) : (Jvm.Cond.code ({ cls := "java/lang/String", name := "length", desc := "()I" } : Jvm.MethodName) jdk_42_method_54_code (1 : Nat) (Option.some Jvm.ClassFile.FieldType.int)).before a0 Z = true := g.1 _ (List.mem_of_getElem? (i := 75) rfl)
theorem wd_76 {Z : State} {a0 : Array Value} {EL : List (String × Nat)} {zc : Int32} {sf : Value} (g : GH Z a0 EL zc sf) : (Jvm.Cond.methodLink "java/lang/String" (335 : Nat) ({ cls := "java/lang/String", name := "coder", desc := "()B" } : Jvm.MethodName)).before a0 Z = true := g.1 _ (List.mem_of_getElem? (i := 76) rfl)
theorem wd_77 {Z : State} {a0 : Array Value} {EL : List (String × Nat)} {zc : Int32} {sf : Value} (g : GH Z a0 EL zc sf) : (Jvm.Cond.declares ({ cls := "java/lang/String", name := "coder", desc := "()B" } : Jvm.MethodName)).before a0 Z = true := g.1 _ (List.mem_of_getElem? (i := 77) rfl)
theorem wd_78 {Z : State} {a0 : Array Value} {EL : List (String × Nat)} {zc : Int32} {sf : Value} (g : GH Z a0 EL zc sf) : (Jvm.Cond.instanceMethod ({ cls := "java/lang/String", name := "coder", desc := "()B" } : Jvm.MethodName)).before a0 Z = true := g.1 _ (List.mem_of_getElem? (i := 78) rfl)
theorem wd_79 {Z : State} {a0 : Array Value} {EL : List (String × Nat)} {zc : Int32} {sf : Value} (g : GH Z a0 EL zc sf) : (Jvm.Cond.selects "java/lang/String" ({ cls := "java/lang/String", name := "coder", desc := "()B" } : Jvm.MethodName) ({ cls := "java/lang/String", name := "coder", desc := "()B" } : Jvm.MethodName)).before a0 Z = true := g.1 _ (List.mem_of_getElem? (i := 79) rfl)
theorem wd_80 {Z : State} {a0 : Array Value} {EL : List (String × Nat)} {zc : Int32} {sf : Value} (g : GH Z a0 EL zc sf) : (Jvm.Cond.code ({ cls := "java/lang/String", name := "coder", desc := "()B" } : Jvm.MethodName) jdk_42_method_152_code (1 : Nat) (Option.some Jvm.ClassFile.FieldType.byte)).before a0 Z = true := g.1 _ (List.mem_of_getElem? (i := 80) rfl)
theorem wd_81 {Z : State} {a0 : Array Value} {EL : List (String × Nat)} {zc : Int32} {sf : Value} (g : GH Z a0 EL zc sf) : (Jvm.Cond.fieldLink "java/lang/AbstractStringBuilder" (79 : Nat) "java/lang/AbstractStringBuilder" "count" "I").before a0 Z = true := g.1 _ (List.mem_of_getElem? (i := 81) rfl)
theorem wd_82 {Z : State} {a0 : Array Value} {EL : List (String × Nat)} {zc : Int32} {sf : Value} (g : GH Z a0 EL zc sf) : (Jvm.Cond.lays "java/lang/StringBuilder" "java/lang/AbstractStringBuilder" "count" "I").before a0 Z = true := g.1 _ (List.mem_of_getElem? (i := 82) rfl)
theorem wd_83 {Z : State} {a0 : Array Value} {EL : List (String × Nat)} {zc : Int32} {sf : Value} (g : GH Z a0 EL zc sf) : (Jvm.Cond.methodLink "java/lang/AbstractStringBuilder" (100 : Nat) ({ cls := "java/lang/AbstractStringBuilder", name := "ensureCapacityInternal", desc := "(I)V" } : Jvm.MethodName)).before a0 Z = true := g.1 _ (List.mem_of_getElem? (i := 83) rfl)
theorem wd_84 {Z : State} {a0 : Array Value} {EL : List (String × Nat)} {zc : Int32} {sf : Value} (g : GH Z a0 EL zc sf) : (Jvm.Cond.instanceMethod ({ cls := "java/lang/AbstractStringBuilder", name := "ensureCapacityInternal", desc := "(I)V" } : Jvm.MethodName)).before a0 Z = true := g.1 _ (List.mem_of_getElem? (i := 84) rfl)
theorem wd_85 {Z : State} {a0 : Array Value} {EL : List (String × Nat)} {zc : Int32} {sf : Value} (g : GH Z a0 EL zc sf) : (Jvm.Cond.privateMethod ({ cls := "java/lang/AbstractStringBuilder", name := "ensureCapacityInternal", desc := "(I)V" } : Jvm.MethodName)).before a0 Z = true := g.1 _ (List.mem_of_getElem? (i := 85) rfl)
theorem wd_86 {Z : State} {a0 : Array Value} {EL : List (String × Nat)} {zc : Int32} {sf : Value} (g : GH Z a0 EL zc sf) : (Jvm.Cond.selects "java/lang/StringBuilder" ({ cls := "java/lang/AbstractStringBuilder", name := "ensureCapacityInternal", desc := "(I)V" } : Jvm.MethodName) ({ cls := "java/lang/AbstractStringBuilder", name := "ensureCapacityInternal", desc := "(I)V" } : Jvm.MethodName)).before a0 Z = true := g.1 _ (List.mem_of_getElem? (i := 86) rfl)
theorem wd_87 {Z : State} {a0 : Array Value} {EL : List (String × Nat)} {zc : Int32} {sf : Value} (g : GH Z a0 EL zc sf) : (Jvm.Cond.code ({ cls := "java/lang/AbstractStringBuilder", name := "ensureCapacityInternal", desc := "(I)V" } : Jvm.MethodName) jdk_68_method_9_code (3 : Nat) (Option.none : Option Jvm.ClassFile.FieldType)).before a0 Z = true := g.1 _ (List.mem_of_getElem? (i := 87) rfl)
theorem wd_88 {Z : State} {a0 : Array Value} {EL : List (String × Nat)} {zc : Int32} {sf : Value} (g : GH Z a0 EL zc sf) : (Jvm.Cond.methodLink "java/lang/AbstractStringBuilder" (208 : Nat) ({ cls := "java/lang/AbstractStringBuilder", name := "putStringAt", desc := "(ILjava/lang/String;)V" } : Jvm.MethodName)).before a0 Z = true := g.1 _ (List.mem_of_getElem? (i := 88) rfl)
theorem wd_89 {Z : State} {a0 : Array Value} {EL : List (String × Nat)} {zc : Int32} {sf : Value} (g : GH Z a0 EL zc sf) : (Jvm.Cond.instanceMethod ({ cls := "java/lang/AbstractStringBuilder", name := "putStringAt", desc := "(ILjava/lang/String;)V" } : Jvm.MethodName)).before a0 Z = true := g.1 _ (List.mem_of_getElem? (i := 89) rfl)
theorem wd_90 {Z : State} {a0 : Array Value} {EL : List (String × Nat)} {zc : Int32} {sf : Value} (g : GH Z a0 EL zc sf) : (Jvm.Cond.privateMethod ({ cls := "java/lang/AbstractStringBuilder", name := "putStringAt", desc := "(ILjava/lang/String;)V" } : Jvm.MethodName)).before a0 Z = true := g.1 _ (List.mem_of_getElem? (i := 90) rfl)
theorem wd_91 {Z : State} {a0 : Array Value} {EL : List (String × Nat)} {zc : Int32} {sf : Value} (g : GH Z a0 EL zc sf) : (Jvm.Cond.selects "java/lang/StringBuilder" ({ cls := "java/lang/AbstractStringBuilder", name := "putStringAt", desc := "(ILjava/lang/String;)V" } : Jvm.MethodName) ({ cls := "java/lang/AbstractStringBuilder", name := "putStringAt", desc := "(ILjava/lang/String;)V" } : Jvm.MethodName)).before a0 Z = true := g.1 _ (List.mem_of_getElem? (i := 91) rfl)
theorem wd_92 {Z : State} {a0 : Array Value} {EL : List (String × Nat)} {zc : Int32} {sf : Value} (g : GH Z a0 EL zc sf) : (Jvm.Cond.code ({ cls := "java/lang/AbstractStringBuilder", name := "putStringAt", desc := "(ILjava/lang/String;)V" } : Jvm.MethodName) jdk_68_method_73_code (3 : Nat) (Option.none : Option Jvm.ClassFile.FieldType)).before a0 Z = true := g.1 _ (List.mem_of_getElem? (i := 92) rfl)
theorem wd_93 {Z : State} {a0 : Array Value} {EL : List (String × Nat)} {zc : Int32} {sf : Value} (g : GH Z a0 EL zc sf) : (Jvm.Cond.methodLink "java/lang/AbstractStringBuilder" (397 : Nat) ({ cls := "java/lang/AbstractStringBuilder", name := "inflateIfNeededFor", desc := "(Ljava/lang/String;)V" } : Jvm.MethodName)).before a0 Z = true := g.1 _ (List.mem_of_getElem? (i := 93) rfl)
theorem wd_94 {Z : State} {a0 : Array Value} {EL : List (String × Nat)} {zc : Int32} {sf : Value} (g : GH Z a0 EL zc sf) : (Jvm.Cond.instanceMethod ({ cls := "java/lang/AbstractStringBuilder", name := "inflateIfNeededFor", desc := "(Ljava/lang/String;)V" } : Jvm.MethodName)).before a0 Z = true := g.1 _ (List.mem_of_getElem? (i := 94) rfl)
theorem wd_95 {Z : State} {a0 : Array Value} {EL : List (String × Nat)} {zc : Int32} {sf : Value} (g : GH Z a0 EL zc sf) : (Jvm.Cond.privateMethod ({ cls := "java/lang/AbstractStringBuilder", name := "inflateIfNeededFor", desc := "(Ljava/lang/String;)V" } : Jvm.MethodName)).before a0 Z = true := g.1 _ (List.mem_of_getElem? (i := 95) rfl)
theorem wd_96 {Z : State} {a0 : Array Value} {EL : List (String × Nat)} {zc : Int32} {sf : Value} (g : GH Z a0 EL zc sf) : (Jvm.Cond.selects "java/lang/StringBuilder" ({ cls := "java/lang/AbstractStringBuilder", name := "inflateIfNeededFor", desc := "(Ljava/lang/String;)V" } : Jvm.MethodName) ({ cls := "java/lang/AbstractStringBuilder", name := "inflateIfNeededFor", desc := "(Ljava/lang/String;)V" } : Jvm.MethodName)).before a0 Z = true := g.1 _ (List.mem_of_getElem? (i := 96) rfl)
theorem wd_97 {Z : State} {a0 : Array Value} {EL : List (String × Nat)} {zc : Int32} {sf : Value} (g : GH Z a0 EL zc sf) : (Jvm.Cond.code ({ cls := "java/lang/AbstractStringBuilder", name := "inflateIfNeededFor", desc := "(Ljava/lang/String;)V" } : Jvm.MethodName) jdk_68_method_71_code (2 : Nat) (Option.none : Option Jvm.ClassFile.FieldType)).before a0 Z = true := g.1 _ (List.mem_of_getElem? (i := 97) rfl)
theorem wd_98 {Z : State} {a0 : Array Value} {EL : List (String × Nat)} {zc : Int32} {sf : Value} (g : GH Z a0 EL zc sf) : (Jvm.Cond.methodLink "java/lang/AbstractStringBuilder" (40 : Nat) ({ cls := "java/lang/String", name := "coder", desc := "()B" } : Jvm.MethodName)).before a0 Z = true := g.1 _ (List.mem_of_getElem? (i := 98) rfl)
theorem wd_99 {Z : State} {a0 : Array Value} {EL : List (String × Nat)} {zc : Int32} {sf : Value} (g : GH Z a0 EL zc sf) : (Jvm.Cond.methodLink "java/lang/AbstractStringBuilder" (399 : Nat) ({ cls := "java/lang/String", name := "getBytes", desc := "([BIB)V" } : Jvm.MethodName)).before a0 Z = true := g.1 _ (List.mem_of_getElem? (i := 99) rfl)
theorem wd_100 {Z : State} {a0 : Array Value} {EL : List (String × Nat)} {zc : Int32} {sf : Value} (g : GH Z a0 EL zc sf) : (Jvm.Cond.declares ({ cls := "java/lang/String", name := "getBytes", desc := "([BIB)V" } : Jvm.MethodName)).before a0 Z = true := g.1 _ (List.mem_of_getElem? (i := 100) rfl)
theorem wd_101 {Z : State} {a0 : Array Value} {EL : List (String × Nat)} {zc : Int32} {sf : Value} (g : GH Z a0 EL zc sf) : (Jvm.Cond.instanceMethod ({ cls := "java/lang/String", name := "getBytes", desc := "([BIB)V" } : Jvm.MethodName)).before a0 Z = true := g.1 _ (List.mem_of_getElem? (i := 101) rfl)
theorem wd_102 {Z : State} {a0 : Array Value} {EL : List (String × Nat)} {zc : Int32} {sf : Value} (g : GH Z a0 EL zc sf) : (Jvm.Cond.selects "java/lang/String" ({ cls := "java/lang/String", name := "getBytes", desc := "([BIB)V" } : Jvm.MethodName) ({ cls := "java/lang/String", name := "getBytes", desc := "([BIB)V" } : Jvm.MethodName)).before a0 Z = true := g.1 _ (List.mem_of_getElem? (i := 102) rfl)
theorem wd_103 {Z : State} {a0 : Array Value} {EL : List (String × Nat)} {zc : Int32} {sf : Value} (g : GH Z a0 EL zc sf) : (Jvm.Cond.code ({ cls := "java/lang/String", name := "getBytes", desc := "([BIB)V" } : Jvm.MethodName) jdk_42_method_147_code (4 : Nat) (Option.none : Option Jvm.ClassFile.FieldType)).before a0 Z = true := g.1 _ (List.mem_of_getElem? (i := 103) rfl)
theorem wd_104 {Z : State} {a0 : Array Value} {EL : List (String × Nat)} {zc : Int32} {sf : Value} (g : GH Z a0 EL zc sf) : (Jvm.Cond.methodLink "java/lang/String" (212 : Nat) ({ cls := "java/lang/System", name := "arraycopy", desc := "(Ljava/lang/Object;ILjava/lang/Object;II)V" } : Jvm.MethodName)).before a0 Z = true := g.1 _ (List.mem_of_getElem? (i := 104) rfl)
theorem wd_105 {Z : State} {a0 : Array Value} {EL : List (String × Nat)} {zc : Int32} {sf : Value} (g : GH Z a0 EL zc sf) : (Jvm.Cond.static ({ cls := "java/lang/System", name := "arraycopy", desc := "(Ljava/lang/Object;ILjava/lang/Object;II)V" } : Jvm.MethodName)).before a0 Z = true := g.1 _ (List.mem_of_getElem? (i := 105) rfl)
theorem wd_106 {Z : State} {a0 : Array Value} {EL : List (String × Nat)} {zc : Int32} {sf : Value} (g : GH Z a0 EL zc sf) : (Jvm.Cond.initialized "java/lang/System").before a0 Z = true := g.1 _ (List.mem_of_getElem? (i := 106) rfl)
theorem wd_107 {Z : State} {a0 : Array Value} {EL : List (String × Nat)} {zc : Int32} {sf : Value} (g : GH Z a0 EL zc sf) : (Jvm.Cond.native ({ cls := "java/lang/System", name := "arraycopy", desc := "(Ljava/lang/Object;ILjava/lang/Object;II)V" } : Jvm.MethodName)).before a0 Z = true := g.1 _ (List.mem_of_getElem? (i := 107) rfl)
theorem wd_108 {Z : State} {a0 : Array Value} {EL : List (String × Nat)} {zc : Int32} {sf : Value} (g : GH Z a0 EL zc sf) : (Jvm.Cond.stringLink "com/example/coffer/coffer/Ledger" (253 : Nat) ")").before a0 Z = true := g.1 _ (List.mem_of_getElem? (i := 108) rfl)
theorem wd_109 {Z : State} {a0 : Array Value} {EL : List (String × Nat)} {zc : Int32} {sf : Value} (g : GH Z a0 EL zc sf) : (Jvm.Cond.methodLink "com/example/coffer/coffer/Ledger" (72 : Nat) ({ cls := "java/lang/StringBuilder", name := "toString", desc := "()Ljava/lang/String;" } : Jvm.MethodName)).before a0 Z = true := g.1 _ (List.mem_of_getElem? (i := 109) rfl)
theorem wd_110 {Z : State} {a0 : Array Value} {EL : List (String × Nat)} {zc : Int32} {sf : Value} (g : GH Z a0 EL zc sf) : (Jvm.Cond.declares ({ cls := "java/lang/StringBuilder", name := "toString", desc := "()Ljava/lang/String;" } : Jvm.MethodName)).before a0 Z = true := g.1 _ (List.mem_of_getElem? (i := 110) rfl)
theorem wd_111 {Z : State} {a0 : Array Value} {EL : List (String × Nat)} {zc : Int32} {sf : Value} (g : GH Z a0 EL zc sf) : (Jvm.Cond.instanceMethod ({ cls := "java/lang/StringBuilder", name := "toString", desc := "()Ljava/lang/String;" } : Jvm.MethodName)).before a0 Z = true := g.1 _ (List.mem_of_getElem? (i := 111) rfl)
theorem wd_112 {Z : State} {a0 : Array Value} {EL : List (String × Nat)} {zc : Int32} {sf : Value} (g : GH Z a0 EL zc sf) : (Jvm.Cond.selects "java/lang/StringBuilder" ({ cls := "java/lang/StringBuilder", name := "toString", desc := "()Ljava/lang/String;" } : Jvm.MethodName) ({ cls := "java/lang/StringBuilder", name := "toString", desc := "()Ljava/lang/String;" } : Jvm.MethodName)).before a0 Z = true := g.1 _ (List.mem_of_getElem? (i := 112) rfl)
theorem wd_113 {Z : State} {a0 : Array Value} {EL : List (String × Nat)} {zc : Int32} {sf : Value} (g : GH Z a0 EL zc sf) : (Jvm.Cond.code ({ cls := "java/lang/StringBuilder", name := "toString", desc := "()Ljava/lang/String;" } : Jvm.MethodName) jdk_67_method_42_code (1 : Nat) (Option.some (Jvm.ClassFile.FieldType.object "java/lang/String"))).before a0 Z = true := g.1 _ (List.mem_of_getElem? (i := 113) rfl)
theorem wd_114 {Z : State} {a0 : Array Value} {EL : List (String × Nat)} {zc : Int32} {sf : Value} (g : GH Z a0 EL zc sf) : (Jvm.Cond.classLink "java/lang/StringBuilder" (18 : Nat) "java/lang/String").before a0 Z = true := g.1 _ (List.mem_of_getElem? (i := 114) rfl)
theorem wd_115 {Z : State} {a0 : Array Value} {EL : List (String × Nat)} {zc : Int32} {sf : Value} (g : GH Z a0 EL zc sf) : (Jvm.Cond.methodLink "java/lang/StringBuilder" (137 : Nat) ({ cls := "java/lang/String", name := "<init>", desc := "(Ljava/lang/StringBuilder;)V" } : Jvm.MethodName)).before a0 Z = true := g.1 _ (List.mem_of_getElem? (i := 115) rfl)
theorem wd_116 {Z : State} {a0 : Array Value} {EL : List (String × Nat)} {zc : Int32} {sf : Value} (g : GH Z a0 EL zc sf) : (Jvm.Cond.instanceMethod ({ cls := "java/lang/String", name := "<init>", desc := "(Ljava/lang/StringBuilder;)V" } : Jvm.MethodName)).before a0 Z = true := g.1 _ (List.mem_of_getElem? (i := 116) rfl)
theorem wd_117 {Z : State} {a0 : Array Value} {EL : List (String × Nat)} {zc : Int32} {sf : Value} (g : GH Z a0 EL zc sf) : (Jvm.Cond.code ({ cls := "java/lang/String", name := "<init>", desc := "(Ljava/lang/StringBuilder;)V" } : Jvm.MethodName) jdk_42_method_53_code (2 : Nat) (Option.none : Option Jvm.ClassFile.FieldType)).before a0 Z = true := g.1 _ (List.mem_of_getElem? (i := 117) rfl)
theorem wd_118 {Z : State} {a0 : Array Value} {EL : List (String × Nat)} {zc : Int32} {sf : Value} (g : GH Z a0 EL zc sf) : (Jvm.Cond.methodLink "java/lang/String" (489 : Nat) ({ cls := "java/lang/String", name := "<init>", desc := "(Ljava/lang/AbstractStringBuilder;Ljava/lang/Void;)V" } : Jvm.MethodName)).before a0 Z = true := g.1 _ (List.mem_of_getElem? (i := 118) rfl)
theorem wd_119 {Z : State} {a0 : Array Value} {EL : List (String × Nat)} {zc : Int32} {sf : Value} (g : GH Z a0 EL zc sf) : (Jvm.Cond.instanceMethod ({ cls := "java/lang/String", name := "<init>", desc := "(Ljava/lang/AbstractStringBuilder;Ljava/lang/Void;)V" } : Jvm.MethodName)).before a0 Z = true := g.1 _ (List.mem_of_getElem? (i := 119) rfl)
theorem wd_120 {Z : State} {a0 : Array Value} {EL : List (String × Nat)} {zc : Int32} {sf : Value} (g : GH Z a0 EL zc sf) : (Jvm.Cond.code ({ cls := "java/lang/String", name := "<init>", desc := "(Ljava/lang/AbstractStringBuilder;Ljava/lang/Void;)V" } : Jvm.MethodName) jdk_42_method_150_code (5 : Nat) (Option.none : Option Jvm.ClassFile.FieldType)).before a0 Z = true := g.1 _ (List.mem_of_getElem? (i := 120) rfl)
theorem wd_121 {Z : State} {a0 : Array Value} {EL : List (String × Nat)} {zc : Int32} {sf : Value} (g : GH Z a0 EL zc sf) : (Jvm.Cond.methodLink "java/lang/String" (552 : Nat) ({ cls := "java/lang/AbstractStringBuilder", name := "getValue", desc := "()[B" } : Jvm.MethodName)).before a0 Z = true := g.1 _ (List.mem_of_getElem? (i := 121) rfl)
theorem wd_122 {Z : State} {a0 : Array Value} {EL : List (String × Nat)} {zc : Int32} {sf : Value} (g : GH Z a0 EL zc sf) : (Jvm.Cond.declares ({ cls := "java/lang/AbstractStringBuilder", name := "getValue", desc := "()[B" } : Jvm.MethodName)).before a0 Z = true := g.1 _ (List.mem_of_getElem? (i := 122) rfl)
theorem wd_123 {Z : State} {a0 : Array Value} {EL : List (String × Nat)} {zc : Int32} {sf : Value} (g : GH Z a0 EL zc sf) : (Jvm.Cond.instanceMethod ({ cls := "java/lang/AbstractStringBuilder", name := "getValue", desc := "()[B" } : Jvm.MethodName)).before a0 Z = true := g.1 _ (List.mem_of_getElem? (i := 123) rfl)
theorem wd_124 {Z : State} {a0 : Array Value} {EL : List (String × Nat)} {zc : Int32} {sf : Value} (g : GH Z a0 EL zc sf) : (Jvm.Cond.selects "java/lang/StringBuilder" ({ cls := "java/lang/AbstractStringBuilder", name := "getValue", desc := "()[B" } : Jvm.MethodName) ({ cls := "java/lang/AbstractStringBuilder", name := "getValue", desc := "()[B" } : Jvm.MethodName)).before a0 Z = true := g.1 _ (List.mem_of_getElem? (i := 124) rfl)
theorem wd_125 {Z : State} {a0 : Array Value} {EL : List (String × Nat)} {zc : Int32} {sf : Value} (g : GH Z a0 EL zc sf) : (Jvm.Cond.code ({ cls := "java/lang/AbstractStringBuilder", name := "getValue", desc := "()[B" } : Jvm.MethodName) jdk_68_method_64_code (1 : Nat) (Option.some (Jvm.ClassFile.FieldType.array Jvm.ClassFile.FieldType.byte))).before a0 Z = true := g.1 _ (List.mem_of_getElem? (i := 125) rfl)
theorem wd_126 {Z : State} {a0 : Array Value} {EL : List (String × Nat)} {zc : Int32} {sf : Value} (g : GH Z a0 EL zc sf) : (Jvm.Cond.methodLink "java/lang/String" (549 : Nat) ({ cls := "java/lang/AbstractStringBuilder", name := "length", desc := "()I" } : Jvm.MethodName)).before a0 Z = true := g.1 _ (List.mem_of_getElem? (i := 126) rfl)
theorem wd_127 {Z : State} {a0 : Array Value} {EL : List (String × Nat)} {zc : Int32} {sf : Value} (g : GH Z a0 EL zc sf) : (Jvm.Cond.declares ({ cls := "java/lang/AbstractStringBuilder", name := "length", desc := "()I" } : Jvm.MethodName)).before a0 Z = true := g.1 _ (List.mem_of_getElem? (i := 127) rfl)
theorem wd_128 {Z : State} {a0 : Array Value} {EL : List (String × Nat)} {zc : Int32} {sf : Value} (g : GH Z a0 EL zc sf) : (Jvm.Cond.instanceMethod ({ cls := "java/lang/AbstractStringBuilder", name := "length", desc := "()I" } : Jvm.MethodName)).before a0 Z = true := g.1 _ (List.mem_of_getElem? (i := 128) rfl)
theorem wd_129 {Z : State} {a0 : Array Value} {EL : List (String × Nat)} {zc : Int32} {sf : Value} (g : GH Z a0 EL zc sf) : (Jvm.Cond.selects "java/lang/StringBuilder" ({ cls := "java/lang/AbstractStringBuilder", name := "length", desc := "()I" } : Jvm.MethodName) ({ cls := "java/lang/StringBuilder", name := "length", desc := "()I" } : Jvm.MethodName)).before a0 Z = true := g.1 _ (List.mem_of_getElem? (i := 129) rfl)
theorem wd_130 {Z : State} {a0 : Array Value} {EL : List (String × Nat)} {zc : Int32} {sf : Value} (g : GH Z a0 EL zc sf) : (Jvm.Cond.instanceMethod ({ cls := "java/lang/StringBuilder", name := "length", desc := "()I" } : Jvm.MethodName)).before a0 Z = true := g.1 _ (List.mem_of_getElem? (i := 130) rfl)
theorem wd_131 {Z : State} {a0 : Array Value} {EL : List (String × Nat)} {zc : Int32} {sf : Value} (g : GH Z a0 EL zc sf) : (Jvm.Cond.code ({ cls := "java/lang/StringBuilder", name := "length", desc := "()I" } : Jvm.MethodName) jdk_67_method_93_code (1 : Nat) (Option.some Jvm.ClassFile.FieldType.int)).before a0 Z = true := g.1 _ (List.mem_of_getElem? (i := 131) rfl)
theorem wd_132 {Z : State} {a0 : Array Value} {EL : List (String × Nat)} {zc : Int32} {sf : Value} (g : GH Z a0 EL zc sf) : (Jvm.Cond.methodLink "java/lang/StringBuilder" (343 : Nat) ({ cls := "java/lang/AbstractStringBuilder", name := "length", desc := "()I" } : Jvm.MethodName)).before a0 Z = true := g.1 _ (List.mem_of_getElem? (i := 132) rfl)
theorem wd_133 {Z : State} {a0 : Array Value} {EL : List (String × Nat)} {zc : Int32} {sf : Value} (g : GH Z a0 EL zc sf) : (Jvm.Cond.code ({ cls := "java/lang/AbstractStringBuilder", name := "length", desc := "()I" } : Jvm.MethodName) jdk_68_method_6_code (1 : Nat) (Option.some Jvm.ClassFile.FieldType.int)).before a0 Z = true := g.1 _ (List.mem_of_getElem? (i := 133) rfl)
theorem wd_134 {Z : State} {a0 : Array Value} {EL : List (String × Nat)} {zc : Int32} {sf : Value} (g : GH Z a0 EL zc sf) : (Jvm.Cond.methodLink "java/lang/String" (1047 : Nat) ({ cls := "java/lang/AbstractStringBuilder", name := "isLatin1", desc := "()Z" } : Jvm.MethodName)).before a0 Z = true := g.1 _ (List.mem_of_getElem? (i := 134) rfl)
theorem wd_135 {Z : State} {a0 : Array Value} {EL : List (String × Nat)} {zc : Int32} {sf : Value} (g : GH Z a0 EL zc sf) : (Jvm.Cond.declares ({ cls := "java/lang/AbstractStringBuilder", name := "isLatin1", desc := "()Z" } : Jvm.MethodName)).before a0 Z = true := g.1 _ (List.mem_of_getElem? (i := 135) rfl)
theorem wd_136 {Z : State} {a0 : Array Value} {EL : List (String × Nat)} {zc : Int32} {sf : Value} (g : GH Z a0 EL zc sf) : (Jvm.Cond.instanceMethod ({ cls := "java/lang/AbstractStringBuilder", name := "isLatin1", desc := "()Z" } : Jvm.MethodName)).before a0 Z = true := g.1 _ (List.mem_of_getElem? (i := 136) rfl)
theorem wd_137 {Z : State} {a0 : Array Value} {EL : List (String × Nat)} {zc : Int32} {sf : Value} (g : GH Z a0 EL zc sf) : (Jvm.Cond.selects "java/lang/StringBuilder" ({ cls := "java/lang/AbstractStringBuilder", name := "isLatin1", desc := "()Z" } : Jvm.MethodName) ({ cls := "java/lang/AbstractStringBuilder", name := "isLatin1", desc := "()Z" } : Jvm.MethodName)).before a0 Z = true := g.1 _ (List.mem_of_getElem? (i := 137) rfl)
theorem wd_138 {Z : State} {a0 : Array Value} {EL : List (String × Nat)} {zc : Int32} {sf : Value} (g : GH Z a0 EL zc sf) : (Jvm.Cond.code ({ cls := "java/lang/AbstractStringBuilder", name := "isLatin1", desc := "()Z" } : Jvm.MethodName) jdk_68_method_68_code (1 : Nat) (Option.some Jvm.ClassFile.FieldType.boolean)).before a0 Z = true := g.1 _ (List.mem_of_getElem? (i := 138) rfl)
theorem wd_139 {Z : State} {a0 : Array Value} {EL : List (String × Nat)} {zc : Int32} {sf : Value} (g : GH Z a0 EL zc sf) : (Jvm.Cond.methodLink "java/lang/String" (54 : Nat) ({ cls := "java/util/Arrays", name := "copyOfRange", desc := "([BII)[B" } : Jvm.MethodName)).before a0 Z = true := g.1 _ (List.mem_of_getElem? (i := 139) rfl)
theorem wd_140 {Z : State} {a0 : Array Value} {EL : List (String × Nat)} {zc : Int32} {sf : Value} (g : GH Z a0 EL zc sf) : (Jvm.Cond.static ({ cls := "java/util/Arrays", name := "copyOfRange", desc := "([BII)[B" } : Jvm.MethodName)).before a0 Z = true := g.1 _ (List.mem_of_getElem? (i := 140) rfl)
theorem wd_141 {Z : State} {a0 : Array Value} {EL : List (String × Nat)} {zc : Int32} {sf : Value} (g : GH Z a0 EL zc sf) : (Jvm.Cond.initialized "java/util/Arrays").before a0 Z = true := g.1 _ (List.mem_of_getElem? (i := 141) rfl)
theorem wd_142 {Z : State} {a0 : Array Value} {EL : List (String × Nat)} {zc : Int32} {sf : Value} (g : GH Z a0 EL zc sf) : (Jvm.Cond.code ({ cls := "java/util/Arrays", name := "copyOfRange", desc := "([BII)[B" } : Jvm.MethodName) jdk_65_method_132_code (3 : Nat) (Option.some (Jvm.ClassFile.FieldType.array Jvm.ClassFile.FieldType.byte))).before a0 Z = true := g.1 _ (List.mem_of_getElem? (i := 142) rfl)
theorem wd_143 {Z : State} {a0 : Array Value} {EL : List (String × Nat)} {zc : Int32} {sf : Value} (g : GH Z a0 EL zc sf) : (Jvm.Cond.methodLink "java/util/Arrays" (339 : Nat) ({ cls := "java/util/Arrays", name := "copyOfRangeByte", desc := "([BII)[B" } : Jvm.MethodName)).before a0 Z = true := g.1 _ (List.mem_of_getElem? (i := 143) rfl)
theorem wd_144 {Z : State} {a0 : Array Value} {EL : List (String × Nat)} {zc : Int32} {sf : Value} (g : GH Z a0 EL zc sf) : (Jvm.Cond.static ({ cls := "java/util/Arrays", name := "copyOfRangeByte", desc := "([BII)[B" } : Jvm.MethodName)).before a0 Z = true := g.1 _ (List.mem_of_getElem? (i := 144) rfl)
theorem wd_145 {Z : State} {a0 : Array Value} {EL : List (String × Nat)} {zc : Int32} {sf : Value} (g : GH Z a0 EL zc sf) : (Jvm.Cond.code ({ cls := "java/util/Arrays", name := "copyOfRangeByte", desc := "([BII)[B" } : Jvm.MethodName) jdk_65_method_133_code (5 : Nat) (Option.some (Jvm.ClassFile.FieldType.array Jvm.ClassFile.FieldType.byte))).before a0 Z = true := g.1 _ (List.mem_of_getElem? (i := 145) rfl)
theorem wd_146 {Z : State} {a0 : Array Value} {EL : List (String × Nat)} {zc : Int32} {sf : Value} (g : GH Z a0 EL zc sf) : (Jvm.Cond.methodLink "java/util/Arrays" (343 : Nat) ({ cls := "java/util/Arrays", name := "checkLength", desc := "(II)V" } : Jvm.MethodName)).before a0 Z = true := g.1 _ (List.mem_of_getElem? (i := 146) rfl)
theorem wd_147 {Z : State} {a0 : Array Value} {EL : List (String × Nat)} {zc : Int32} {sf : Value} (g : GH Z a0 EL zc sf) : (Jvm.Cond.static ({ cls := "java/util/Arrays", name := "checkLength", desc := "(II)V" } : Jvm.MethodName)).before a0 Z = true := g.1 _ (List.mem_of_getElem? (i := 147) rfl)
theorem wd_148 {Z : State} {a0 : Array Value} {EL : List (String × Nat)} {zc : Int32} {sf : Value} (g : GH Z a0 EL zc sf) : (Jvm.Cond.code ({ cls := "java/util/Arrays", name := "checkLength", desc := "(II)V" } : Jvm.MethodName) jdk_65_method_131_code (2 : Nat) (Option.none : Option Jvm.ClassFile.FieldType)).before a0 Z = true := g.1 _ (List.mem_of_getElem? (i := 148) rfl)
theorem wd_149 {Z : State} {a0 : Array Value} {EL : List (String × Nat)} {zc : Int32} {sf : Value} (g : GH Z a0 EL zc sf) : (Jvm.Cond.methodLink "java/util/Arrays" (304 : Nat) ({ cls := "java/lang/Math", name := "min", desc := "(II)I" } : Jvm.MethodName)).before a0 Z = true := g.1 _ (List.mem_of_getElem? (i := 149) rfl)
theorem wd_150 {Z : State} {a0 : Array Value} {EL : List (String × Nat)} {zc : Int32} {sf : Value} (g : GH Z a0 EL zc sf) : (Jvm.Cond.static ({ cls := "java/lang/Math", name := "min", desc := "(II)I" } : Jvm.MethodName)).before a0 Z = true := g.1 _ (List.mem_of_getElem? (i := 150) rfl)
theorem wd_151 {Z : State} {a0 : Array Value} {EL : List (String × Nat)} {zc : Int32} {sf : Value} (g : GH Z a0 EL zc sf) : (Jvm.Cond.initialized "java/lang/Math").before a0 Z = true := g.1 _ (List.mem_of_getElem? (i := 151) rfl)
theorem wd_152 {Z : State} {a0 : Array Value} {EL : List (String × Nat)} {zc : Int32} {sf : Value} (g : GH Z a0 EL zc sf) : (Jvm.Cond.code ({ cls := "java/lang/Math", name := "min", desc := "(II)I" } : Jvm.MethodName) jdk_29_method_69_code (2 : Nat) (Option.some Jvm.ClassFile.FieldType.int)).before a0 Z = true := g.1 _ (List.mem_of_getElem? (i := 152) rfl)
theorem wd_153 {Z : State} {a0 : Array Value} {EL : List (String × Nat)} {zc : Int32} {sf : Value} (g : GH Z a0 EL zc sf) : (Jvm.Cond.methodLink "java/util/Arrays" (150 : Nat) ({ cls := "java/lang/System", name := "arraycopy", desc := "(Ljava/lang/Object;ILjava/lang/Object;II)V" } : Jvm.MethodName)).before a0 Z = true := g.1 _ (List.mem_of_getElem? (i := 153) rfl)
theorem wd_154 {Z : State} {a0 : Array Value} {EL : List (String × Nat)} {zc : Int32} {sf : Value} (g : GH Z a0 EL zc sf) : (Jvm.Cond.stringLink "com/example/coffer/coffer/Ledger" (255 : Nat) "SUM(").before a0 Z = true := g.1 _ (List.mem_of_getElem? (i := 154) rfl)
theorem wd_155 {Z : State} {a0 : Array Value} {EL : List (String × Nat)} {zc : Int32} {sf : Value} (g : GH Z a0 EL zc sf) : (Jvm.Cond.stringLink "com/example/coffer/coffer/Ledger" (257 : Nat) " / 1000000000000000), SUM(").before a0 Z = true := g.1 _ (List.mem_of_getElem? (i := 155) rfl)
theorem wd_156 {Z : State} {a0 : Array Value} {EL : List (String × Nat)} {zc : Int32} {sf : Value} (g : GH Z a0 EL zc sf) : (Jvm.Cond.methodLink "java/lang/AbstractStringBuilder" (104 : Nat) ({ cls := "java/lang/AbstractStringBuilder", name := "newCapacity", desc := "(I)I" } : Jvm.MethodName)).before a0 Z = true := g.1 _ (List.mem_of_getElem? (i := 156) rfl)
theorem wd_157 {Z : State} {a0 : Array Value} {EL : List (String × Nat)} {zc : Int32} {sf : Value} (g : GH Z a0 EL zc sf) : (Jvm.Cond.instanceMethod ({ cls := "java/lang/AbstractStringBuilder", name := "newCapacity", desc := "(I)I" } : Jvm.MethodName)).before a0 Z = true := g.1 _ (List.mem_of_getElem? (i := 157) rfl)
theorem wd_158 {Z : State} {a0 : Array Value} {EL : List (String × Nat)} {zc : Int32} {sf : Value} (g : GH Z a0 EL zc sf) : (Jvm.Cond.privateMethod ({ cls := "java/lang/AbstractStringBuilder", name := "newCapacity", desc := "(I)I" } : Jvm.MethodName)).before a0 Z = true := g.1 _ (List.mem_of_getElem? (i := 158) rfl)
theorem wd_159 {Z : State} {a0 : Array Value} {EL : List (String × Nat)} {zc : Int32} {sf : Value} (g : GH Z a0 EL zc sf) : (Jvm.Cond.selects "java/lang/StringBuilder" ({ cls := "java/lang/AbstractStringBuilder", name := "newCapacity", desc := "(I)I" } : Jvm.MethodName) ({ cls := "java/lang/AbstractStringBuilder", name := "newCapacity", desc := "(I)I" } : Jvm.MethodName)).before a0 Z = true := g.1 _ (List.mem_of_getElem? (i := 159) rfl)
theorem wd_160 {Z : State} {a0 : Array Value} {EL : List (String × Nat)} {zc : Int32} {sf : Value} (g : GH Z a0 EL zc sf) : (Jvm.Cond.code ({ cls := "java/lang/AbstractStringBuilder", name := "newCapacity", desc := "(I)I" } : Jvm.MethodName) jdk_68_method_10_code (6 : Nat) (Option.some Jvm.ClassFile.FieldType.int)).before a0 Z = true := g.1 _ (List.mem_of_getElem? (i := 160) rfl)
theorem wd_161 {Z : State} {a0 : Array Value} {EL : List (String × Nat)} {zc : Int32} {sf : Value} (g : GH Z a0 EL zc sf) : (Jvm.Cond.methodLink "java/lang/AbstractStringBuilder" (114 : Nat) ({ cls := "jdk/internal/util/ArraysSupport", name := "newLength", desc := "(III)I" } : Jvm.MethodName)).before a0 Z = true := g.1 _ (List.mem_of_getElem? (i := 161) rfl)
theorem wd_162 {Z : State} {a0 : Array Value} {EL : List (String × Nat)} {zc : Int32} {sf : Value} (g : GH Z a0 EL zc sf) : (Jvm.Cond.static ({ cls := "jdk/internal/util/ArraysSupport", name := "newLength", desc := "(III)I" } : Jvm.MethodName)).before a0 Z = true := g.1 _ (List.mem_of_getElem? (i := 162) rfl)
theorem wd_163 {Z : State} {a0 : Array Value} {EL : List (String × Nat)} {zc : Int32} {sf : Value} (g : GH Z a0 EL zc sf) : (Jvm.Cond.initialized "jdk/internal/util/ArraysSupport").before a0 Z = true := g.1 _ (List.mem_of_getElem? (i := 163) rfl)
theorem wd_164 {Z : State} {a0 : Array Value} {EL : List (String × Nat)} {zc : Int32} {sf : Value} (g : GH Z a0 EL zc sf) : (Jvm.Cond.code ({ cls := "jdk/internal/util/ArraysSupport", name := "newLength", desc := "(III)I" } : Jvm.MethodName) jdk_48_method_27_code (4 : Nat) (Option.some Jvm.ClassFile.FieldType.int)).before a0 Z = true := g.1 _ (List.mem_of_getElem? (i := 164) rfl)
theorem wd_165 {Z : State} {a0 : Array Value} {EL : List (String × Nat)} {zc : Int32} {sf : Value} (g : GH Z a0 EL zc sf) : (Jvm.Cond.methodLink "jdk/internal/util/ArraysSupport" (194 : Nat) ({ cls := "java/lang/Math", name := "max", desc := "(II)I" } : Jvm.MethodName)).before a0 Z = true := g.1 _ (List.mem_of_getElem? (i := 165) rfl)
theorem wd_166 {Z : State} {a0 : Array Value} {EL : List (String × Nat)} {zc : Int32} {sf : Value} (g : GH Z a0 EL zc sf) : (Jvm.Cond.static ({ cls := "java/lang/Math", name := "max", desc := "(II)I" } : Jvm.MethodName)).before a0 Z = true := g.1 _ (List.mem_of_getElem? (i := 166) rfl)
theorem wd_167 {Z : State} {a0 : Array Value} {EL : List (String × Nat)} {zc : Int32} {sf : Value} (g : GH Z a0 EL zc sf) : (Jvm.Cond.code ({ cls := "java/lang/Math", name := "max", desc := "(II)I" } : Jvm.MethodName) jdk_29_method_65_code (2 : Nat) (Option.some Jvm.ClassFile.FieldType.int)).before a0 Z = true := g.1 _ (List.mem_of_getElem? (i := 167) rfl)
theorem wd_168 {Z : State} {a0 : Array Value} {EL : List (String × Nat)} {zc : Int32} {sf : Value} (g : GH Z a0 EL zc sf) : (Jvm.Cond.constant "jdk/internal/util/ArraysSupport" (200 : Nat) (2147483639 : Int32)).before a0 Z = true := g.1 _ (List.mem_of_getElem? (i := 168) rfl)
theorem wd_169 {Z : State} {a0 : Array Value} {EL : List (String × Nat)} {zc : Int32} {sf : Value} (g : GH Z a0 EL zc sf) : (Jvm.Cond.constant "java/lang/AbstractStringBuilder" (39 : Nat) (2147483647 : Int32)).before a0 Z = true := g.1 _ (List.mem_of_getElem? (i := 169) rfl)
theorem wd_170 {Z : State} {a0 : Array Value} {EL : List (String × Nat)} {zc : Int32} {sf : Value} (g : GH Z a0 EL zc sf) : (Jvm.Cond.methodLink "java/lang/AbstractStringBuilder" (108 : Nat) ({ cls := "java/util/Arrays", name := "copyOf", desc := "([BI)[B" } : Jvm.MethodName)).before a0 Z = true := g.1 _ (List.mem_of_getElem? (i := 170) rfl)
theorem wd_171 {Z : State} {a0 : Array Value} {EL : List (String × Nat)} {zc : Int32} {sf : Value} (g : GH Z a0 EL zc sf) : (Jvm.Cond.static ({ cls := "java/util/Arrays", name := "copyOf", desc := "([BI)[B" } : Jvm.MethodName)).before a0 Z = true := g.1 _ (List.mem_of_getElem? (i := 171) rfl)
theorem wd_172 {Z : State} {a0 : Array Value} {EL : List (String × Nat)} {zc : Int32} {sf : Value} (g : GH Z a0 EL zc sf) : (Jvm.Cond.code ({ cls := "java/util/Arrays", name := "copyOf", desc := "([BI)[B" } : Jvm.MethodName) jdk_65_method_121_code (3 : Nat) (Option.some (Jvm.ClassFile.FieldType.array Jvm.ClassFile.FieldType.byte))).before a0 Z = true := g.1 _ (List.mem_of_getElem? (i := 172) rfl)
theorem wd_173 {Z : State} {a0 : Array Value} {EL : List (String × Nat)} {zc : Int32} {sf : Value} (g : GH Z a0 EL zc sf) : (Jvm.Cond.stringLink "com/example/coffer/coffer/Ledger" (259 : Nat) " / 10000000000 % 100000), SUM(").before a0 Z = true := g.1 _ (List.mem_of_getElem? (i := 173) rfl)
theorem wd_174 {Z : State} {a0 : Array Value} {EL : List (String × Nat)} {zc : Int32} {sf : Value} (g : GH Z a0 EL zc sf) : (Jvm.Cond.stringLink "com/example/coffer/coffer/Ledger" (261 : Nat) " / 100000 % 100000), SUM(").before a0 Z = true := g.1 _ (List.mem_of_getElem? (i := 174) rfl)
theorem wd_175 {Z : State} {a0 : Array Value} {EL : List (String × Nat)} {zc : Int32} {sf : Value} (g : GH Z a0 EL zc sf) : (Jvm.Cond.stringLink "com/example/coffer/coffer/Ledger" (263 : Nat) " % 100000)").before a0 Z = true := g.1 _ (List.mem_of_getElem? (i := 175) rfl)
theorem wd_176 {Z : State} {a0 : Array Value} {EL : List (String × Nat)} {zc : Int32} {sf : Value} (g : GH Z a0 EL zc sf) : (Jvm.Cond.stringLink "com/example/coffer/coffer/LedgerExactSumPinLaw" (22 : Nat) "SUM((v) / 1000000000000000), SUM((v) / 10000000000 % 100000), SUM((v) / 100000 % 100000), SUM((v) % 100000)").before a0 Z = true := g.1 _ (List.mem_of_getElem? (i := 176) rfl)
theorem wd_177 {Z : State} {a0 : Array Value} {EL : List (String × Nat)} {zc : Int32} {sf : Value} (g : GH Z a0 EL zc sf) : (Jvm.Cond.methodLink "com/example/coffer/coffer/LedgerExactSumPinLaw" (24 : Nat) ({ cls := "java/lang/String", name := "equals", desc := "(Ljava/lang/Object;)Z" } : Jvm.MethodName)).before a0 Z = true := g.1 _ (List.mem_of_getElem? (i := 177) rfl)
theorem wd_178 {Z : State} {a0 : Array Value} {EL : List (String × Nat)} {zc : Int32} {sf : Value} (g : GH Z a0 EL zc sf) : (Jvm.Cond.declares ({ cls := "java/lang/String", name := "equals", desc := "(Ljava/lang/Object;)Z" } : Jvm.MethodName)).before a0 Z = true := g.1 _ (List.mem_of_getElem? (i := 178) rfl)
theorem wd_179 {Z : State} {a0 : Array Value} {EL : List (String × Nat)} {zc : Int32} {sf : Value} (g : GH Z a0 EL zc sf) : (Jvm.Cond.instanceMethod ({ cls := "java/lang/String", name := "equals", desc := "(Ljava/lang/Object;)Z" } : Jvm.MethodName)).before a0 Z = true := g.1 _ (List.mem_of_getElem? (i := 179) rfl)
theorem wd_180 {Z : State} {a0 : Array Value} {EL : List (String × Nat)} {zc : Int32} {sf : Value} (g : GH Z a0 EL zc sf) : (Jvm.Cond.selects "java/lang/String" ({ cls := "java/lang/String", name := "equals", desc := "(Ljava/lang/Object;)Z" } : Jvm.MethodName) ({ cls := "java/lang/String", name := "equals", desc := "(Ljava/lang/Object;)Z" } : Jvm.MethodName)).before a0 Z = true := g.1 _ (List.mem_of_getElem? (i := 180) rfl)
theorem wd_181 {Z : State} {a0 : Array Value} {EL : List (String × Nat)} {zc : Int32} {sf : Value} (g : GH Z a0 EL zc sf) : (Jvm.Cond.code ({ cls := "java/lang/String", name := "equals", desc := "(Ljava/lang/Object;)Z" } : Jvm.MethodName) jdk_42_method_66_code (3 : Nat) (Option.some Jvm.ClassFile.FieldType.boolean)).before a0 Z = true := g.1 _ (List.mem_of_getElem? (i := 181) rfl)
theorem wd_182 {Z : State} {a0 : Array Value} {EL : List (String × Nat)} {zc : Int32} {sf : Value} (g : GH Z a0 EL zc sf) : (Jvm.Cond.classLink "java/lang/String" (10 : Nat) "java/lang/String").before a0 Z = true := g.1 _ (List.mem_of_getElem? (i := 182) rfl)
theorem wd_183 {Z : State} {a0 : Array Value} {EL : List (String × Nat)} {zc : Int32} {sf : Value} (g : GH Z a0 EL zc sf) : (Jvm.Cond.methodLink "java/lang/String" (541 : Nat) ({ cls := "java/lang/StringLatin1", name := "equals", desc := "([B[B)Z" } : Jvm.MethodName)).before a0 Z = true := g.1 _ (List.mem_of_getElem? (i := 183) rfl)
theorem wd_184 {Z : State} {a0 : Array Value} {EL : List (String × Nat)} {zc : Int32} {sf : Value} (g : GH Z a0 EL zc sf) : (Jvm.Cond.static ({ cls := "java/lang/StringLatin1", name := "equals", desc := "([B[B)Z" } : Jvm.MethodName)).before a0 Z = true := g.1 _ (List.mem_of_getElem? (i := 184) rfl)
theorem wd_185 {Z : State} {a0 : Array Value} {EL : List (String × Nat)} {zc : Int32} {sf : Value} (g : GH Z a0 EL zc sf) : (Jvm.Cond.initialized "java/lang/StringLatin1").before a0 Z = true := g.1 _ (List.mem_of_getElem? (i := 185) rfl)
theorem wd_186 {Z : State} {a0 : Array Value} {EL : List (String × Nat)} {zc : Int32} {sf : Value} (g : GH Z a0 EL zc sf) : (Jvm.Cond.code ({ cls := "java/lang/StringLatin1", name := "equals", desc := "([B[B)Z" } : Jvm.MethodName) jdk_43_method_13_code (3 : Nat) (Option.some Jvm.ClassFile.FieldType.boolean)).before a0 Z = true := g.1 _ (List.mem_of_getElem? (i := 186) rfl)
theorem wd_187 {Z : State} {a0 : Array Value} {EL : List (String × Nat)} {zc : Int32} {sf : Value} (g : GH Z a0 EL zc sf) : (Jvm.Cond.methodLink "com/example/coffer/coffer/LedgerExactSumPinLaw" (30 : Nat) ({ cls := "java/lang/String", name := "length", desc := "()I" } : Jvm.MethodName)).before a0 Z = true := g.1 _ (List.mem_of_getElem? (i := 187) rfl)
theorem wd_188 {Z : State} {a0 : Array Value} {EL : List (String × Nat)} {zc : Int32} {sf : Value} (g : GH Z a0 EL zc sf) : (Jvm.Cond.methodLink "com/example/coffer/coffer/LedgerExactSumPinLaw" (34 : Nat) ({ cls := "com/example/coffer/coffer/LedgerExactSumPinLaw", name := "copyAt", desc := "(Ljava/lang/String;ILjava/lang/String;I)Z" } : Jvm.MethodName)).before a0 Z = true := g.1 _ (List.mem_of_getElem? (i := 188) rfl)
theorem wd_189 {Z : State} {a0 : Array Value} {EL : List (String × Nat)} {zc : Int32} {sf : Value} (g : GH Z a0 EL zc sf) : (Jvm.Cond.static ({ cls := "com/example/coffer/coffer/LedgerExactSumPinLaw", name := "copyAt", desc := "(Ljava/lang/String;ILjava/lang/String;I)Z" } : Jvm.MethodName)).before a0 Z = true := g.1 _ (List.mem_of_getElem? (i := 189) rfl)
theorem wd_190 {Z : State} {a0 : Array Value} {EL : List (String × Nat)} {zc : Int32} {sf : Value} (g : GH Z a0 EL zc sf) : (Jvm.Cond.code ({ cls := "com/example/coffer/coffer/LedgerExactSumPinLaw", name := "copyAt", desc := "(Ljava/lang/String;ILjava/lang/String;I)Z" } : Jvm.MethodName) method_4_code (5 : Nat) (Option.some Jvm.ClassFile.FieldType.boolean)).before a0 Z = true := g.1 _ (List.mem_of_getElem? (i := 190) rfl)
theorem wd_191 {Z : State} {a0 : Array Value} {EL : List (String × Nat)} {zc : Int32} {sf : Value} (g : GH Z a0 EL zc sf) : (Jvm.Cond.methodLink "com/example/coffer/coffer/LedgerExactSumPinLaw" (41 : Nat) ({ cls := "java/lang/String", name := "charAt", desc := "(I)C" } : Jvm.MethodName)).before a0 Z = true := g.1 _ (List.mem_of_getElem? (i := 191) rfl)
theorem wd_192 {Z : State} {a0 : Array Value} {EL : List (String × Nat)} {zc : Int32} {sf : Value} (g : GH Z a0 EL zc sf) : (Jvm.Cond.declares ({ cls := "java/lang/String", name := "charAt", desc := "(I)C" } : Jvm.MethodName)).before a0 Z = true := g.1 _ (List.mem_of_getElem? (i := 192) rfl)
theorem wd_193 {Z : State} {a0 : Array Value} {EL : List (String × Nat)} {zc : Int32} {sf : Value} (g : GH Z a0 EL zc sf) : (Jvm.Cond.instanceMethod ({ cls := "java/lang/String", name := "charAt", desc := "(I)C" } : Jvm.MethodName)).before a0 Z = true := g.1 _ (List.mem_of_getElem? (i := 193) rfl)
theorem wd_194 {Z : State} {a0 : Array Value} {EL : List (String × Nat)} {zc : Int32} {sf : Value} (g : GH Z a0 EL zc sf) : (Jvm.Cond.selects "java/lang/String" ({ cls := "java/lang/String", name := "charAt", desc := "(I)C" } : Jvm.MethodName) ({ cls := "java/lang/String", name := "charAt", desc := "(I)C" } : Jvm.MethodName)).before a0 Z = true := g.1 _ (List.mem_of_getElem? (i := 194) rfl)
theorem wd_195 {Z : State} {a0 : Array Value} {EL : List (String × Nat)} {zc : Int32} {sf : Value} (g : GH Z a0 EL zc sf) : (Jvm.Cond.code ({ cls := "java/lang/String", name := "charAt", desc := "(I)C" } : Jvm.MethodName) jdk_42_method_56_code (2 : Nat) (Option.some Jvm.ClassFile.FieldType.char)).before a0 Z = true := g.1 _ (List.mem_of_getElem? (i := 195) rfl)
theorem wd_196 {Z : State} {a0 : Array Value} {EL : List (String × Nat)} {zc : Int32} {sf : Value} (g : GH Z a0 EL zc sf) : (Jvm.Cond.methodLink "java/lang/String" (492 : Nat) ({ cls := "java/lang/String", name := "isLatin1", desc := "()Z" } : Jvm.MethodName)).before a0 Z = true := g.1 _ (List.mem_of_getElem? (i := 196) rfl)
theorem wd_197 {Z : State} {a0 : Array Value} {EL : List (String × Nat)} {zc : Int32} {sf : Value} (g : GH Z a0 EL zc sf) : (Jvm.Cond.declares ({ cls := "java/lang/String", name := "isLatin1", desc := "()Z" } : Jvm.MethodName)).before a0 Z = true := g.1 _ (List.mem_of_getElem? (i := 197) rfl)
theorem wd_198 {Z : State} {a0 : Array Value} {EL : List (String × Nat)} {zc : Int32} {sf : Value} (g : GH Z a0 EL zc sf) : (Jvm.Cond.instanceMethod ({ cls := "java/lang/String", name := "isLatin1", desc := "()Z" } : Jvm.MethodName)).before a0 Z = true := g.1 _ (List.mem_of_getElem? (i := 198) rfl)
theorem wd_199 {Z : State} {a0 : Array Value} {EL : List (String × Nat)} {zc : Int32} {sf : Value} (g : GH Z a0 EL zc sf) : (Jvm.Cond.selects "java/lang/String" ({ cls := "java/lang/String", name := "isLatin1", desc := "()Z" } : Jvm.MethodName) ({ cls := "java/lang/String", name := "isLatin1", desc := "()Z" } : Jvm.MethodName)).before a0 Z = true := g.1 _ (List.mem_of_getElem? (i := 199) rfl)
theorem wd_200 {Z : State} {a0 : Array Value} {EL : List (String × Nat)} {zc : Int32} {sf : Value} (g : GH Z a0 EL zc sf) : (Jvm.Cond.code ({ cls := "java/lang/String", name := "isLatin1", desc := "()Z" } : Jvm.MethodName) jdk_42_method_154_code (1 : Nat) (Option.some Jvm.ClassFile.FieldType.boolean)).before a0 Z = true := g.1 _ (List.mem_of_getElem? (i := 200) rfl)
theorem wd_201 {Z : State} {a0 : Array Value} {EL : List (String × Nat)} {zc : Int32} {sf : Value} (g : GH Z a0 EL zc sf) : (Jvm.Cond.methodLink "java/lang/String" (495 : Nat) ({ cls := "java/lang/StringLatin1", name := "charAt", desc := "([BI)C" } : Jvm.MethodName)).before a0 Z = true := g.1 _ (List.mem_of_getElem? (i := 201) rfl)
theorem wd_202 {Z : State} {a0 : Array Value} {EL : List (String × Nat)} {zc : Int32} {sf : Value} (g : GH Z a0 EL zc sf) : (Jvm.Cond.static ({ cls := "java/lang/StringLatin1", name := "charAt", desc := "([BI)C" } : Jvm.MethodName)).before a0 Z = true := g.1 _ (List.mem_of_getElem? (i := 202) rfl)
theorem wd_203 {Z : State} {a0 : Array Value} {EL : List (String × Nat)} {zc : Int32} {sf : Value} (g : GH Z a0 EL zc sf) : (Jvm.Cond.code ({ cls := "java/lang/StringLatin1", name := "charAt", desc := "([BI)C" } : Jvm.MethodName) jdk_43_method_2_code (2 : Nat) (Option.some Jvm.ClassFile.FieldType.char)).before a0 Z = true := g.1 _ (List.mem_of_getElem? (i := 203) rfl)
theorem wd_204 {Z : State} {a0 : Array Value} {EL : List (String × Nat)} {zc : Int32} {sf : Value} (g : GH Z a0 EL zc sf) : (Jvm.Cond.methodLink "java/lang/StringLatin1" (9 : Nat) ({ cls := "java/lang/String", name := "checkIndex", desc := "(II)V" } : Jvm.MethodName)).before a0 Z = true := g.1 _ (List.mem_of_getElem? (i := 204) rfl)
theorem wd_205 {Z : State} {a0 : Array Value} {EL : List (String × Nat)} {zc : Int32} {sf : Value} (g : GH Z a0 EL zc sf) : (Jvm.Cond.static ({ cls := "java/lang/String", name := "checkIndex", desc := "(II)V" } : Jvm.MethodName)).before a0 Z = true := g.1 _ (List.mem_of_getElem? (i := 205) rfl)
theorem wd_206 {Z : State} {a0 : Array Value} {EL : List (String × Nat)} {zc : Int32} {sf : Value} (g : GH Z a0 EL zc sf) : (Jvm.Cond.code ({ cls := "java/lang/String", name := "checkIndex", desc := "(II)V" } : Jvm.MethodName) jdk_42_method_155_code (2 : Nat) (Option.none : Option Jvm.ClassFile.FieldType)).before a0 Z = true := g.1 _ (List.mem_of_getElem? (i := 206) rfl)
theorem wd_207 {Z : State} {a0 : Array Value} {EL : List (String × Nat)} {zc : Int32} {sf : Value} (g : GH Z a0 EL zc sf) : (Jvm.Cond.fieldLink "java/lang/String" (1053 : Nat) "jdk/internal/util/Preconditions" "SIOOBE_FORMATTER" "Ljava/util/function/BiFunction;").before a0 Z = true := g.1 _ (List.mem_of_getElem? (i := 207) rfl)
theorem wd_208 {Z : State} {a0 : Array Value} {EL : List (String × Nat)} {zc : Int32} {sf : Value} (g : GH Z a0 EL zc sf) : (Jvm.Cond.initialized "jdk/internal/util/Preconditions").before a0 Z = true := g.1 _ (List.mem_of_getElem? (i := 208) rfl)
theorem wd_209 {Z : State} {a0 : Array Value} {EL : List (String × Nat)} {zc : Int32} {sf : Value} (g : GH Z a0 EL zc sf) : (Jvm.Cond.methodLink "java/lang/String" (1059 : Nat) ({ cls := "jdk/internal/util/Preconditions", name := "checkIndex", desc := "(IILjava/util/function/BiFunction;)I" } : Jvm.MethodName)).before a0 Z = true := g.1 _ (List.mem_of_getElem? (i := 209) rfl)
theorem wd_210 {Z : State} {a0 : Array Value} {EL : List (String × Nat)} {zc : Int32} {sf : Value} (g : GH Z a0 EL zc sf) : (Jvm.Cond.static ({ cls := "jdk/internal/util/Preconditions", name := "checkIndex", desc := "(IILjava/util/function/BiFunction;)I" } : Jvm.MethodName)).before a0 Z = true := g.1 _ (List.mem_of_getElem? (i := 210) rfl)
theorem wd_211 {Z : State} {a0 : Array Value} {EL : List (String × Nat)} {zc : Int32} {sf : Value} (g : GH Z a0 EL zc sf) : (Jvm.Cond.code ({ cls := "jdk/internal/util/Preconditions", name := "checkIndex", desc := "(IILjava/util/function/BiFunction;)I" } : Jvm.MethodName) jdk_41_method_11_code (3 : Nat) (Option.some Jvm.ClassFile.FieldType.int)).before a0 Z = true := g.1 _ (List.mem_of_getElem? (i := 211) rfl)
theorem D_prog_19_method_11_code_0 : decode prog_19_method_11_code 0 = .ok (.new 57, 3) := by decide +kernel
theorem D_prog_19_method_11_code_12 : decode prog_19_method_11_code 12 = .ok (.aload_n 0, 1) := by decide +kernel
theorem D_prog_19_method_11_code_13 : decode prog_19_method_11_code 13 = .ok (.invokevirtual 62, 3) := by decide +kernel
theorem D_prog_19_method_11_code_16 : decode prog_19_method_11_code 16 = .ok (.ldc 253, 2) := by decide +kernel
theorem D_prog_19_method_11_code_18 : decode prog_19_method_11_code 18 = .ok (.invokevirtual 62, 3) := by decide +kernel
theorem D_prog_19_method_11_code_21 : decode prog_19_method_11_code 21 = .ok (.invokevirtual 72, 3) := by decide +kernel
theorem D_prog_19_method_11_code_24 : decode prog_19_method_11_code 24 = .ok (.astore_n 1, 1) := by decide +kernel
theorem D_prog_19_method_11_code_25 : decode prog_19_method_11_code 25 = .ok (.new 57, 3) := by decide +kernel
theorem D_prog_19_method_11_code_28 : decode prog_19_method_11_code 28 = .ok (.dup, 1) := by decide +kernel
theorem D_prog_19_method_11_code_29 : decode prog_19_method_11_code 29 = .ok (.invokespecial 59, 3) := by decide +kernel
theorem D_prog_19_method_11_code_3 : decode prog_19_method_11_code 3 = .ok (.dup, 1) := by decide +kernel
theorem D_prog_19_method_11_code_32 : decode prog_19_method_11_code 32 = .ok (.ldc 255, 2) := by decide +kernel
theorem D_prog_19_method_11_code_34 : decode prog_19_method_11_code 34 = .ok (.invokevirtual 62, 3) := by decide +kernel
theorem D_prog_19_method_11_code_37 : decode prog_19_method_11_code 37 = .ok (.aload_n 1, 1) := by decide +kernel
theorem D_prog_19_method_11_code_38 : decode prog_19_method_11_code 38 = .ok (.invokevirtual 62, 3) := by decide +kernel
theorem D_prog_19_method_11_code_4 : decode prog_19_method_11_code 4 = .ok (.invokespecial 59, 3) := by decide +kernel
theorem D_prog_19_method_11_code_41 : decode prog_19_method_11_code 41 = .ok (.ldc_w 257, 3) := by decide +kernel
theorem D_prog_19_method_11_code_44 : decode prog_19_method_11_code 44 = .ok (.invokevirtual 62, 3) := by decide +kernel
theorem D_prog_19_method_11_code_47 : decode prog_19_method_11_code 47 = .ok (.aload_n 1, 1) := by decide +kernel
theorem D_prog_19_method_11_code_48 : decode prog_19_method_11_code 48 = .ok (.invokevirtual 62, 3) := by decide +kernel
theorem D_prog_19_method_11_code_51 : decode prog_19_method_11_code 51 = .ok (.ldc_w 259, 3) := by decide +kernel
theorem D_prog_19_method_11_code_54 : decode prog_19_method_11_code 54 = .ok (.invokevirtual 62, 3) := by decide +kernel
theorem D_prog_19_method_11_code_57 : decode prog_19_method_11_code 57 = .ok (.aload_n 1, 1) := by decide +kernel
theorem D_prog_19_method_11_code_58 : decode prog_19_method_11_code 58 = .ok (.invokevirtual 62, 3) := by decide +kernel
theorem D_prog_19_method_11_code_61 : decode prog_19_method_11_code 61 = .ok (.ldc_w 261, 3) := by decide +kernel
theorem D_prog_19_method_11_code_64 : decode prog_19_method_11_code 64 = .ok (.invokevirtual 62, 3) := by decide +kernel
theorem D_prog_19_method_11_code_67 : decode prog_19_method_11_code 67 = .ok (.aload_n 1, 1) := by decide +kernel
theorem D_prog_19_method_11_code_68 : decode prog_19_method_11_code 68 = .ok (.invokevirtual 62, 3) := by decide +kernel
theorem D_prog_19_method_11_code_7 : decode prog_19_method_11_code 7 = .ok (.ldc 251, 2) := by decide +kernel
theorem D_prog_19_method_11_code_71 : decode prog_19_method_11_code 71 = .ok (.ldc_w 263, 3) := by decide +kernel
theorem D_prog_19_method_11_code_74 : decode prog_19_method_11_code 74 = .ok (.invokevirtual 62, 3) := by decide +kernel
theorem D_prog_19_method_11_code_77 : decode prog_19_method_11_code 77 = .ok (.invokevirtual 72, 3) := by decide +kernel
theorem D_prog_19_method_11_code_80 : decode prog_19_method_11_code 80 = .ok (.areturn, 1) := by decide +kernel
theorem D_prog_19_method_11_code_9 : decode prog_19_method_11_code 9 = .ok (.invokevirtual 62, 3) := by decide +kernel
theorem D_method_4_code_0 : decode method_4_code 0 = .ok (.aload_n 0, 1) := by decide +kernel
theorem D_method_4_code_1 : decode method_4_code 1 = .ok (.iload_n 1, 1) := by decide +kernel
theorem D_method_4_code_100 : decode method_4_code 100 = .ok (.iconst 2, 1) := by decide +kernel
theorem D_method_4_code_101 : decode method_4_code 101 = .ok (.invokevirtual 41, 3) := by decide +kernel
theorem D_method_4_code_104 : decode method_4_code 104 = .ok (.if_icmp .ne 7, 3) := by decide +kernel
theorem D_method_4_code_107 : decode method_4_code 107 = .ok (.iconst 1, 1) := by decide +kernel
theorem D_method_4_code_108 : decode method_4_code 108 = .ok (.goto 4, 3) := by decide +kernel
theorem D_method_4_code_112 : decode method_4_code 112 = .ok (.istore 4, 2) := by decide +kernel
theorem D_method_4_code_114 : decode method_4_code 114 = .ok (.iload 4, 2) := by decide +kernel
theorem D_method_4_code_116 : decode method_4_code 116 = .ok (.ireturn, 1) := by decide +kernel
theorem D_method_4_code_12 : decode method_4_code 12 = .ok (.aload_n 0, 1) := by decide +kernel
theorem D_method_4_code_13 : decode method_4_code 13 = .ok (.iload_n 1, 1) := by decide +kernel
theorem D_method_4_code_14 : decode method_4_code 14 = .ok (.iload_n 3, 1) := by decide +kernel
theorem D_method_4_code_15 : decode method_4_code 15 = .ok (.iadd, 1) := by decide +kernel
theorem D_method_4_code_16 : decode method_4_code 16 = .ok (.iconst 1, 1) := by decide +kernel
theorem D_method_4_code_17 : decode method_4_code 17 = .ok (.iadd, 1) := by decide +kernel
theorem D_method_4_code_18 : decode method_4_code 18 = .ok (.invokevirtual 41, 3) := by decide +kernel
theorem D_method_4_code_2 : decode method_4_code 2 = .ok (.invokevirtual 41, 3) := by decide +kernel
theorem D_method_4_code_21 : decode method_4_code 21 = .ok (.bipush 41, 2) := by decide +kernel
theorem D_method_4_code_23 : decode method_4_code 23 = .ok (.if_icmp .eq 5, 3) := by decide +kernel
theorem D_method_4_code_28 : decode method_4_code 28 = .ok (.aload_n 0, 1) := by decide +kernel
theorem D_method_4_code_29 : decode method_4_code 29 = .ok (.iload_n 1, 1) := by decide +kernel
theorem D_method_4_code_30 : decode method_4_code 30 = .ok (.iconst 1, 1) := by decide +kernel
theorem D_method_4_code_31 : decode method_4_code 31 = .ok (.iadd, 1) := by decide +kernel
theorem D_method_4_code_32 : decode method_4_code 32 = .ok (.invokevirtual 41, 3) := by decide +kernel
theorem D_method_4_code_35 : decode method_4_code 35 = .ok (.aload_n 2, 1) := by decide +kernel
theorem D_method_4_code_36 : decode method_4_code 36 = .ok (.iconst 0, 1) := by decide +kernel
theorem D_method_4_code_37 : decode method_4_code 37 = .ok (.invokevirtual 41, 3) := by decide +kernel
theorem D_method_4_code_40 : decode method_4_code 40 = .ok (.if_icmp .ne 7, 3) := by decide +kernel
theorem D_method_4_code_43 : decode method_4_code 43 = .ok (.iconst 1, 1) := by decide +kernel
theorem D_method_4_code_44 : decode method_4_code 44 = .ok (.goto 4, 3) := by decide +kernel
theorem D_method_4_code_48 : decode method_4_code 48 = .ok (.istore 4, 2) := by decide +kernel
theorem D_method_4_code_5 : decode method_4_code 5 = .ok (.bipush 40, 2) := by decide +kernel
theorem D_method_4_code_50 : decode method_4_code 50 = .ok (.iload_n 3, 1) := by decide +kernel
theorem D_method_4_code_51 : decode method_4_code 51 = .ok (.iconst 2, 1) := by decide +kernel
theorem D_method_4_code_52 : decode method_4_code 52 = .ok (.if_icmp .lt 30, 3) := by decide +kernel
theorem D_method_4_code_55 : decode method_4_code 55 = .ok (.iload 4, 2) := by decide +kernel
theorem D_method_4_code_57 : decode method_4_code 57 = .ok (.ifCond .eq 22, 3) := by decide +kernel
theorem D_method_4_code_60 : decode method_4_code 60 = .ok (.aload_n 0, 1) := by decide +kernel
theorem D_method_4_code_61 : decode method_4_code 61 = .ok (.iload_n 1, 1) := by decide +kernel
theorem D_method_4_code_62 : decode method_4_code 62 = .ok (.iconst 2, 1) := by decide +kernel
theorem D_method_4_code_63 : decode method_4_code 63 = .ok (.iadd, 1) := by decide +kernel
theorem D_method_4_code_64 : decode method_4_code 64 = .ok (.invokevirtual 41, 3) := by decide +kernel
theorem D_method_4_code_67 : decode method_4_code 67 = .ok (.aload_n 2, 1) := by decide +kernel
theorem D_method_4_code_68 : decode method_4_code 68 = .ok (.iconst 1, 1) := by decide +kernel
theorem D_method_4_code_69 : decode method_4_code 69 = .ok (.invokevirtual 41, 3) := by decide +kernel
theorem D_method_4_code_7 : decode method_4_code 7 = .ok (.if_icmp .eq 5, 3) := by decide +kernel
theorem D_method_4_code_72 : decode method_4_code 72 = .ok (.if_icmp .ne 7, 3) := by decide +kernel
theorem D_method_4_code_75 : decode method_4_code 75 = .ok (.iconst 1, 1) := by decide +kernel
theorem D_method_4_code_76 : decode method_4_code 76 = .ok (.goto 4, 3) := by decide +kernel
theorem D_method_4_code_80 : decode method_4_code 80 = .ok (.istore 4, 2) := by decide +kernel
theorem D_method_4_code_82 : decode method_4_code 82 = .ok (.iload_n 3, 1) := by decide +kernel
theorem D_method_4_code_83 : decode method_4_code 83 = .ok (.iconst 3, 1) := by decide +kernel
theorem D_method_4_code_84 : decode method_4_code 84 = .ok (.if_icmp .lt 30, 3) := by decide +kernel
theorem D_method_4_code_87 : decode method_4_code 87 = .ok (.iload 4, 2) := by decide +kernel
theorem D_method_4_code_89 : decode method_4_code 89 = .ok (.ifCond .eq 22, 3) := by decide +kernel
theorem D_method_4_code_92 : decode method_4_code 92 = .ok (.aload_n 0, 1) := by decide +kernel
theorem D_method_4_code_93 : decode method_4_code 93 = .ok (.iload_n 1, 1) := by decide +kernel
theorem D_method_4_code_94 : decode method_4_code 94 = .ok (.iconst 3, 1) := by decide +kernel
theorem D_method_4_code_95 : decode method_4_code 95 = .ok (.iadd, 1) := by decide +kernel
theorem D_method_4_code_96 : decode method_4_code 96 = .ok (.invokevirtual 41, 3) := by decide +kernel
theorem D_method_4_code_99 : decode method_4_code 99 = .ok (.aload_n 2, 1) := by decide +kernel
theorem D_method_3_code_0 : decode method_3_code 0 = .ok (.iload_n 0, 1) := by decide +kernel
theorem D_method_3_code_1 : decode method_3_code 1 = .ok (.iconst 1, 1) := by decide +kernel
theorem D_method_3_code_10 : decode method_3_code 10 = .ok (.newarray .char, 2) := by decide +kernel
theorem D_method_3_code_12 : decode method_3_code 12 = .ok (.dup, 1) := by decide +kernel
theorem D_method_3_code_13 : decode method_3_code 13 = .ok (.iconst 0, 1) := by decide +kernel
theorem D_method_3_code_14 : decode method_3_code 14 = .ok (.iload_n 1, 1) := by decide +kernel
theorem D_method_3_code_15 : decode method_3_code 15 = .ok (.castore, 1) := by decide +kernel
theorem D_method_3_code_16 : decode method_3_code 16 = .ok (.invokespecial 38, 3) := by decide +kernel
theorem D_method_3_code_19 : decode method_3_code 19 = .ok (.areturn, 1) := by decide +kernel
theorem D_method_3_code_2 : decode method_3_code 2 = .ok (.if_icmp .ne 18, 3) := by decide +kernel
theorem D_method_3_code_20 : decode method_3_code 20 = .ok (.iload_n 0, 1) := by decide +kernel
theorem D_method_3_code_21 : decode method_3_code 21 = .ok (.iconst 2, 1) := by decide +kernel
theorem D_method_3_code_22 : decode method_3_code 22 = .ok (.if_icmp .ne 22, 3) := by decide +kernel
theorem D_method_3_code_25 : decode method_3_code 25 = .ok (.new 25, 3) := by decide +kernel
theorem D_method_3_code_28 : decode method_3_code 28 = .ok (.dup, 1) := by decide +kernel
theorem D_method_3_code_29 : decode method_3_code 29 = .ok (.iconst 2, 1) := by decide +kernel
theorem D_method_3_code_30 : decode method_3_code 30 = .ok (.newarray .char, 2) := by decide +kernel
theorem D_method_3_code_32 : decode method_3_code 32 = .ok (.dup, 1) := by decide +kernel
theorem D_method_3_code_33 : decode method_3_code 33 = .ok (.iconst 0, 1) := by decide +kernel
theorem D_method_3_code_34 : decode method_3_code 34 = .ok (.iload_n 1, 1) := by decide +kernel
theorem D_method_3_code_35 : decode method_3_code 35 = .ok (.castore, 1) := by decide +kernel
theorem D_method_3_code_36 : decode method_3_code 36 = .ok (.dup, 1) := by decide +kernel
theorem D_method_3_code_37 : decode method_3_code 37 = .ok (.iconst 1, 1) := by decide +kernel
theorem D_method_3_code_38 : decode method_3_code 38 = .ok (.iload_n 2, 1) := by decide +kernel
theorem D_method_3_code_39 : decode method_3_code 39 = .ok (.castore, 1) := by decide +kernel
theorem D_method_3_code_40 : decode method_3_code 40 = .ok (.invokespecial 38, 3) := by decide +kernel
theorem D_method_3_code_43 : decode method_3_code 43 = .ok (.areturn, 1) := by decide +kernel
theorem D_method_3_code_44 : decode method_3_code 44 = .ok (.new 25, 3) := by decide +kernel
theorem D_method_3_code_47 : decode method_3_code 47 = .ok (.dup, 1) := by decide +kernel
theorem D_method_3_code_48 : decode method_3_code 48 = .ok (.iconst 3, 1) := by decide +kernel
theorem D_method_3_code_49 : decode method_3_code 49 = .ok (.newarray .char, 2) := by decide +kernel
theorem D_method_3_code_5 : decode method_3_code 5 = .ok (.new 25, 3) := by decide +kernel
theorem D_method_3_code_51 : decode method_3_code 51 = .ok (.dup, 1) := by decide +kernel
theorem D_method_3_code_52 : decode method_3_code 52 = .ok (.iconst 0, 1) := by decide +kernel
theorem D_method_3_code_53 : decode method_3_code 53 = .ok (.iload_n 1, 1) := by decide +kernel
theorem D_method_3_code_54 : decode method_3_code 54 = .ok (.castore, 1) := by decide +kernel
theorem D_method_3_code_55 : decode method_3_code 55 = .ok (.dup, 1) := by decide +kernel
theorem D_method_3_code_56 : decode method_3_code 56 = .ok (.iconst 1, 1) := by decide +kernel
theorem D_method_3_code_57 : decode method_3_code 57 = .ok (.iload_n 2, 1) := by decide +kernel
theorem D_method_3_code_58 : decode method_3_code 58 = .ok (.castore, 1) := by decide +kernel
theorem D_method_3_code_59 : decode method_3_code 59 = .ok (.dup, 1) := by decide +kernel
theorem D_method_3_code_60 : decode method_3_code 60 = .ok (.iconst 2, 1) := by decide +kernel
theorem D_method_3_code_61 : decode method_3_code 61 = .ok (.iload_n 3, 1) := by decide +kernel
theorem D_method_3_code_62 : decode method_3_code 62 = .ok (.castore, 1) := by decide +kernel
theorem D_method_3_code_63 : decode method_3_code 63 = .ok (.invokespecial 38, 3) := by decide +kernel
theorem D_method_3_code_66 : decode method_3_code 66 = .ok (.areturn, 1) := by decide +kernel
theorem D_method_3_code_8 : decode method_3_code 8 = .ok (.dup, 1) := by decide +kernel
theorem D_method_3_code_9 : decode method_3_code 9 = .ok (.iconst 1, 1) := by decide +kernel
theorem D_jdk_68_method_2_code_0 : decode jdk_68_method_2_code 0 = .ok (.aload_n 0, 1) := by decide +kernel
theorem D_jdk_68_method_2_code_1 : decode jdk_68_method_2_code 1 = .ok (.invokespecial 3, 3) := by decide +kernel
theorem D_jdk_68_method_2_code_10 : decode jdk_68_method_2_code 10 = .ok (.aload_n 0, 1) := by decide +kernel
theorem D_jdk_68_method_2_code_11 : decode jdk_68_method_2_code 11 = .ok (.iload_n 1, 1) := by decide +kernel
theorem D_jdk_68_method_2_code_12 : decode jdk_68_method_2_code 12 = .ok (.newarray .byte, 2) := by decide +kernel
theorem D_jdk_68_method_2_code_14 : decode jdk_68_method_2_code 14 = .ok (.putfield 15, 3) := by decide +kernel
theorem D_jdk_68_method_2_code_17 : decode jdk_68_method_2_code 17 = .ok (.aload_n 0, 1) := by decide +kernel
theorem D_jdk_68_method_2_code_18 : decode jdk_68_method_2_code 18 = .ok (.iconst 0, 1) := by decide +kernel
theorem D_jdk_68_method_2_code_19 : decode jdk_68_method_2_code 19 = .ok (.putfield 22, 3) := by decide +kernel
theorem D_jdk_68_method_2_code_22 : decode jdk_68_method_2_code 22 = .ok (.goto 16, 3) := by decide +kernel
theorem D_jdk_68_method_2_code_38 : decode jdk_68_method_2_code 38 = .ok (.return_, 1) := by decide +kernel
theorem D_jdk_68_method_2_code_4 : decode jdk_68_method_2_code 4 = .ok (.getstatic 18, 3) := by decide +kernel
theorem D_jdk_68_method_2_code_7 : decode jdk_68_method_2_code 7 = .ok (.ifCond .eq 18, 3) := by decide +kernel
theorem D_jdk_68_method_22_code_0 : decode jdk_68_method_22_code 0 = .ok (.aload_n 1, 1) := by decide +kernel
theorem D_jdk_68_method_22_code_1 : decode jdk_68_method_22_code 1 = .ok (.ifnonnull 8, 3) := by decide +kernel
theorem D_jdk_68_method_22_code_10 : decode jdk_68_method_22_code 10 = .ok (.invokevirtual 32, 3) := by decide +kernel
theorem D_jdk_68_method_22_code_13 : decode jdk_68_method_22_code 13 = .ok (.istore_n 2, 1) := by decide +kernel
theorem D_jdk_68_method_22_code_14 : decode jdk_68_method_22_code 14 = .ok (.aload_n 0, 1) := by decide +kernel
theorem D_jdk_68_method_22_code_15 : decode jdk_68_method_22_code 15 = .ok (.aload_n 0, 1) := by decide +kernel
theorem D_jdk_68_method_22_code_16 : decode jdk_68_method_22_code 16 = .ok (.getfield 79, 3) := by decide +kernel
theorem D_jdk_68_method_22_code_19 : decode jdk_68_method_22_code 19 = .ok (.iload_n 2, 1) := by decide +kernel
theorem D_jdk_68_method_22_code_20 : decode jdk_68_method_22_code 20 = .ok (.iadd, 1) := by decide +kernel
theorem D_jdk_68_method_22_code_21 : decode jdk_68_method_22_code 21 = .ok (.invokevirtual 100, 3) := by decide +kernel
theorem D_jdk_68_method_22_code_24 : decode jdk_68_method_22_code 24 = .ok (.aload_n 0, 1) := by decide +kernel
theorem D_jdk_68_method_22_code_25 : decode jdk_68_method_22_code 25 = .ok (.aload_n 0, 1) := by decide +kernel
theorem D_jdk_68_method_22_code_26 : decode jdk_68_method_22_code 26 = .ok (.getfield 79, 3) := by decide +kernel
theorem D_jdk_68_method_22_code_29 : decode jdk_68_method_22_code 29 = .ok (.aload_n 1, 1) := by decide +kernel
theorem D_jdk_68_method_22_code_30 : decode jdk_68_method_22_code 30 = .ok (.invokevirtual 208, 3) := by decide +kernel
theorem D_jdk_68_method_22_code_33 : decode jdk_68_method_22_code 33 = .ok (.aload_n 0, 1) := by decide +kernel
theorem D_jdk_68_method_22_code_34 : decode jdk_68_method_22_code 34 = .ok (.dup, 1) := by decide +kernel
theorem D_jdk_68_method_22_code_35 : decode jdk_68_method_22_code 35 = .ok (.getfield 79, 3) := by decide +kernel
theorem D_jdk_68_method_22_code_38 : decode jdk_68_method_22_code 38 = .ok (.iload_n 2, 1) := by decide +kernel
theorem D_jdk_68_method_22_code_39 : decode jdk_68_method_22_code 39 = .ok (.iadd, 1) := by decide +kernel
theorem D_jdk_68_method_22_code_40 : decode jdk_68_method_22_code 40 = .ok (.putfield 79, 3) := by decide +kernel
theorem D_jdk_68_method_22_code_43 : decode jdk_68_method_22_code 43 = .ok (.aload_n 0, 1) := by decide +kernel
theorem D_jdk_68_method_22_code_44 : decode jdk_68_method_22_code 44 = .ok (.areturn, 1) := by decide +kernel
theorem D_jdk_68_method_22_code_9 : decode jdk_68_method_22_code 9 = .ok (.aload_n 1, 1) := by decide +kernel
theorem D_jdk_68_method_9_code_0 : decode jdk_68_method_9_code 0 = .ok (.aload_n 0, 1) := by decide +kernel
theorem D_jdk_68_method_9_code_1 : decode jdk_68_method_9_code 1 = .ok (.getfield 15, 3) := by decide +kernel
theorem D_jdk_68_method_9_code_10 : decode jdk_68_method_9_code 10 = .ok (.istore_n 2, 1) := by decide +kernel
theorem D_jdk_68_method_9_code_11 : decode jdk_68_method_9_code 11 = .ok (.iload_n 1, 1) := by decide +kernel
theorem D_jdk_68_method_9_code_12 : decode jdk_68_method_9_code 12 = .ok (.iload_n 2, 1) := by decide +kernel
theorem D_jdk_68_method_9_code_13 : decode jdk_68_method_9_code 13 = .ok (.isub, 1) := by decide +kernel
theorem D_jdk_68_method_9_code_14 : decode jdk_68_method_9_code 14 = .ok (.ifCond .le 24, 3) := by decide +kernel
theorem D_jdk_68_method_9_code_17 : decode jdk_68_method_9_code 17 = .ok (.aload_n 0, 1) := by decide +kernel
theorem D_jdk_68_method_9_code_18 : decode jdk_68_method_9_code 18 = .ok (.aload_n 0, 1) := by decide +kernel
theorem D_jdk_68_method_9_code_19 : decode jdk_68_method_9_code 19 = .ok (.getfield 15, 3) := by decide +kernel
theorem D_jdk_68_method_9_code_22 : decode jdk_68_method_9_code 22 = .ok (.aload_n 0, 1) := by decide +kernel
theorem D_jdk_68_method_9_code_23 : decode jdk_68_method_9_code 23 = .ok (.iload_n 1, 1) := by decide +kernel
theorem D_jdk_68_method_9_code_24 : decode jdk_68_method_9_code 24 = .ok (.invokevirtual 104, 3) := by decide +kernel
theorem D_jdk_68_method_9_code_27 : decode jdk_68_method_9_code 27 = .ok (.aload_n 0, 1) := by decide +kernel
theorem D_jdk_68_method_9_code_28 : decode jdk_68_method_9_code 28 = .ok (.getfield 22, 3) := by decide +kernel
theorem D_jdk_68_method_9_code_31 : decode jdk_68_method_9_code 31 = .ok (.ishl, 1) := by decide +kernel
theorem D_jdk_68_method_9_code_32 : decode jdk_68_method_9_code 32 = .ok (.invokestatic 108, 3) := by decide +kernel
theorem D_jdk_68_method_9_code_35 : decode jdk_68_method_9_code 35 = .ok (.putfield 15, 3) := by decide +kernel
theorem D_jdk_68_method_9_code_38 : decode jdk_68_method_9_code 38 = .ok (.return_, 1) := by decide +kernel
theorem D_jdk_68_method_9_code_4 : decode jdk_68_method_9_code 4 = .ok (.arraylength, 1) := by decide +kernel
theorem D_jdk_68_method_9_code_5 : decode jdk_68_method_9_code 5 = .ok (.aload_n 0, 1) := by decide +kernel
theorem D_jdk_68_method_9_code_6 : decode jdk_68_method_9_code 6 = .ok (.getfield 22, 3) := by decide +kernel
theorem D_jdk_68_method_9_code_9 : decode jdk_68_method_9_code 9 = .ok (.ishr, 1) := by decide +kernel
theorem D_jdk_68_method_64_code_0 : decode jdk_68_method_64_code 0 = .ok (.aload_n 0, 1) := by decide +kernel
theorem D_jdk_68_method_64_code_1 : decode jdk_68_method_64_code 1 = .ok (.getfield 15, 3) := by decide +kernel
theorem D_jdk_68_method_64_code_4 : decode jdk_68_method_64_code 4 = .ok (.areturn, 1) := by decide +kernel
theorem D_jdk_68_method_71_code_0 : decode jdk_68_method_71_code 0 = .ok (.getstatic 18, 3) := by decide +kernel
theorem D_jdk_68_method_71_code_10 : decode jdk_68_method_71_code 10 = .ok (.aload_n 1, 1) := by decide +kernel
theorem D_jdk_68_method_71_code_11 : decode jdk_68_method_71_code 11 = .ok (.invokevirtual 40, 3) := by decide +kernel
theorem D_jdk_68_method_71_code_14 : decode jdk_68_method_71_code 14 = .ok (.if_icmp .eq 7, 3) := by decide +kernel
theorem D_jdk_68_method_71_code_21 : decode jdk_68_method_71_code 21 = .ok (.return_, 1) := by decide +kernel
theorem D_jdk_68_method_71_code_3 : decode jdk_68_method_71_code 3 = .ok (.ifCond .eq 18, 3) := by decide +kernel
theorem D_jdk_68_method_71_code_6 : decode jdk_68_method_71_code 6 = .ok (.aload_n 0, 1) := by decide +kernel
theorem D_jdk_68_method_71_code_7 : decode jdk_68_method_71_code 7 = .ok (.getfield 22, 3) := by decide +kernel
theorem D_jdk_68_method_68_code_0 : decode jdk_68_method_68_code 0 = .ok (.getstatic 18, 3) := by decide +kernel
theorem D_jdk_68_method_68_code_10 : decode jdk_68_method_68_code 10 = .ok (.ifCond .ne 7, 3) := by decide +kernel
theorem D_jdk_68_method_68_code_13 : decode jdk_68_method_68_code 13 = .ok (.iconst 1, 1) := by decide +kernel
theorem D_jdk_68_method_68_code_14 : decode jdk_68_method_68_code 14 = .ok (.goto 4, 3) := by decide +kernel
theorem D_jdk_68_method_68_code_18 : decode jdk_68_method_68_code 18 = .ok (.ireturn, 1) := by decide +kernel
theorem D_jdk_68_method_68_code_3 : decode jdk_68_method_68_code 3 = .ok (.ifCond .eq 14, 3) := by decide +kernel
theorem D_jdk_68_method_68_code_6 : decode jdk_68_method_68_code 6 = .ok (.aload_n 0, 1) := by decide +kernel
theorem D_jdk_68_method_68_code_7 : decode jdk_68_method_68_code 7 = .ok (.getfield 22, 3) := by decide +kernel
theorem D_jdk_68_method_6_code_0 : decode jdk_68_method_6_code 0 = .ok (.aload_n 0, 1) := by decide +kernel
theorem D_jdk_68_method_6_code_1 : decode jdk_68_method_6_code 1 = .ok (.getfield 79, 3) := by decide +kernel
theorem D_jdk_68_method_6_code_4 : decode jdk_68_method_6_code 4 = .ok (.ireturn, 1) := by decide +kernel
theorem D_jdk_68_method_10_code_0 : decode jdk_68_method_10_code 0 = .ok (.aload_n 0, 1) := by decide +kernel
theorem D_jdk_68_method_10_code_1 : decode jdk_68_method_10_code 1 = .ok (.getfield 15, 3) := by decide +kernel
theorem D_jdk_68_method_10_code_11 : decode jdk_68_method_10_code 11 = .ok (.ishl, 1) := by decide +kernel
theorem D_jdk_68_method_10_code_12 : decode jdk_68_method_10_code 12 = .ok (.istore_n 3, 1) := by decide +kernel
theorem D_jdk_68_method_10_code_13 : decode jdk_68_method_10_code 13 = .ok (.iload_n 3, 1) := by decide +kernel
theorem D_jdk_68_method_10_code_14 : decode jdk_68_method_10_code 14 = .ok (.iload_n 2, 1) := by decide +kernel
theorem D_jdk_68_method_10_code_15 : decode jdk_68_method_10_code 15 = .ok (.isub, 1) := by decide +kernel
theorem D_jdk_68_method_10_code_16 : decode jdk_68_method_10_code 16 = .ok (.istore 4, 2) := by decide +kernel
theorem D_jdk_68_method_10_code_18 : decode jdk_68_method_10_code 18 = .ok (.iload_n 2, 1) := by decide +kernel
theorem D_jdk_68_method_10_code_19 : decode jdk_68_method_10_code 19 = .ok (.iload 4, 2) := by decide +kernel
theorem D_jdk_68_method_10_code_21 : decode jdk_68_method_10_code 21 = .ok (.iload_n 2, 1) := by decide +kernel
theorem D_jdk_68_method_10_code_22 : decode jdk_68_method_10_code 22 = .ok (.iconst 2, 1) := by decide +kernel
theorem D_jdk_68_method_10_code_23 : decode jdk_68_method_10_code 23 = .ok (.aload_n 0, 1) := by decide +kernel
theorem D_jdk_68_method_10_code_24 : decode jdk_68_method_10_code 24 = .ok (.getfield 22, 3) := by decide +kernel
theorem D_jdk_68_method_10_code_27 : decode jdk_68_method_10_code 27 = .ok (.ishl, 1) := by decide +kernel
theorem D_jdk_68_method_10_code_28 : decode jdk_68_method_10_code 28 = .ok (.iadd, 1) := by decide +kernel
theorem D_jdk_68_method_10_code_29 : decode jdk_68_method_10_code 29 = .ok (.invokestatic 114, 3) := by decide +kernel
theorem D_jdk_68_method_10_code_32 : decode jdk_68_method_10_code 32 = .ok (.istore 5, 2) := by decide +kernel
theorem D_jdk_68_method_10_code_34 : decode jdk_68_method_10_code 34 = .ok (.iload 5, 2) := by decide +kernel
theorem D_jdk_68_method_10_code_36 : decode jdk_68_method_10_code 36 = .ok (.ldc 39, 2) := by decide +kernel
theorem D_jdk_68_method_10_code_38 : decode jdk_68_method_10_code 38 = .ok (.if_icmp .ne 13, 3) := by decide +kernel
theorem D_jdk_68_method_10_code_4 : decode jdk_68_method_10_code 4 = .ok (.arraylength, 1) := by decide +kernel
theorem D_jdk_68_method_10_code_5 : decode jdk_68_method_10_code 5 = .ok (.istore_n 2, 1) := by decide +kernel
theorem D_jdk_68_method_10_code_51 : decode jdk_68_method_10_code 51 = .ok (.iload 5, 2) := by decide +kernel
theorem D_jdk_68_method_10_code_53 : decode jdk_68_method_10_code 53 = .ok (.aload_n 0, 1) := by decide +kernel
theorem D_jdk_68_method_10_code_54 : decode jdk_68_method_10_code 54 = .ok (.getfield 22, 3) := by decide +kernel
theorem D_jdk_68_method_10_code_57 : decode jdk_68_method_10_code 57 = .ok (.ishr, 1) := by decide +kernel
theorem D_jdk_68_method_10_code_58 : decode jdk_68_method_10_code 58 = .ok (.ireturn, 1) := by decide +kernel
theorem D_jdk_68_method_10_code_6 : decode jdk_68_method_10_code 6 = .ok (.iload_n 1, 1) := by decide +kernel
theorem D_jdk_68_method_10_code_7 : decode jdk_68_method_10_code 7 = .ok (.aload_n 0, 1) := by decide +kernel
theorem D_jdk_68_method_10_code_8 : decode jdk_68_method_10_code 8 = .ok (.getfield 22, 3) := by decide +kernel
theorem D_jdk_68_method_73_code_0 : decode jdk_68_method_73_code 0 = .ok (.aload_n 0, 1) := by decide +kernel
theorem D_jdk_68_method_73_code_1 : decode jdk_68_method_73_code 1 = .ok (.aload_n 2, 1) := by decide +kernel
theorem D_jdk_68_method_73_code_10 : decode jdk_68_method_73_code 10 = .ok (.iload_n 1, 1) := by decide +kernel
theorem D_jdk_68_method_73_code_11 : decode jdk_68_method_73_code 11 = .ok (.aload_n 0, 1) := by decide +kernel
theorem D_jdk_68_method_73_code_12 : decode jdk_68_method_73_code 12 = .ok (.getfield 22, 3) := by decide +kernel
theorem D_jdk_68_method_73_code_15 : decode jdk_68_method_73_code 15 = .ok (.invokevirtual 399, 3) := by decide +kernel
theorem D_jdk_68_method_73_code_18 : decode jdk_68_method_73_code 18 = .ok (.return_, 1) := by decide +kernel
theorem D_jdk_68_method_73_code_2 : decode jdk_68_method_73_code 2 = .ok (.invokevirtual 397, 3) := by decide +kernel
theorem D_jdk_68_method_73_code_5 : decode jdk_68_method_73_code 5 = .ok (.aload_n 2, 1) := by decide +kernel
theorem D_jdk_68_method_73_code_6 : decode jdk_68_method_73_code 6 = .ok (.aload_n 0, 1) := by decide +kernel
theorem D_jdk_68_method_73_code_7 : decode jdk_68_method_73_code 7 = .ok (.getfield 15, 3) := by decide +kernel
theorem D_jdk_29_method_65_code_0 : decode jdk_29_method_65_code 0 = .ok (.iload_n 0, 1) := by decide +kernel
theorem D_jdk_29_method_65_code_1 : decode jdk_29_method_65_code 1 = .ok (.iload_n 1, 1) := by decide +kernel
theorem D_jdk_29_method_65_code_10 : decode jdk_29_method_65_code 10 = .ok (.ireturn, 1) := by decide +kernel
theorem D_jdk_29_method_65_code_2 : decode jdk_29_method_65_code 2 = .ok (.if_icmp .lt 7, 3) := by decide +kernel
theorem D_jdk_29_method_65_code_5 : decode jdk_29_method_65_code 5 = .ok (.iload_n 0, 1) := by decide +kernel
theorem D_jdk_29_method_65_code_6 : decode jdk_29_method_65_code 6 = .ok (.goto 4, 3) := by decide +kernel
theorem D_jdk_29_method_65_code_9 : decode jdk_29_method_65_code 9 = .ok (.iload_n 1, 1) := by decide +kernel
theorem D_jdk_29_method_69_code_0 : decode jdk_29_method_69_code 0 = .ok (.iload_n 0, 1) := by decide +kernel
theorem D_jdk_29_method_69_code_1 : decode jdk_29_method_69_code 1 = .ok (.iload_n 1, 1) := by decide +kernel
theorem D_jdk_29_method_69_code_10 : decode jdk_29_method_69_code 10 = .ok (.ireturn, 1) := by decide +kernel
theorem D_jdk_29_method_69_code_2 : decode jdk_29_method_69_code 2 = .ok (.if_icmp .gt 7, 3) := by decide +kernel
theorem D_jdk_29_method_69_code_5 : decode jdk_29_method_69_code 5 = .ok (.iload_n 0, 1) := by decide +kernel
theorem D_jdk_29_method_69_code_6 : decode jdk_29_method_69_code 6 = .ok (.goto 4, 3) := by decide +kernel
theorem D_jdk_29_method_69_code_9 : decode jdk_29_method_69_code 9 = .ok (.iload_n 1, 1) := by decide +kernel
theorem D_jdk_42_method_150_code_0 : decode jdk_42_method_150_code 0 = .ok (.aload_n 0, 1) := by decide +kernel
theorem D_jdk_42_method_150_code_1 : decode jdk_42_method_150_code 1 = .ok (.invokespecial 1, 3) := by decide +kernel
theorem D_jdk_42_method_150_code_10 : decode jdk_42_method_150_code 10 = .ok (.invokevirtual 549, 3) := by decide +kernel
theorem D_jdk_42_method_150_code_13 : decode jdk_42_method_150_code 13 = .ok (.istore 4, 2) := by decide +kernel
theorem D_jdk_42_method_150_code_15 : decode jdk_42_method_150_code 15 = .ok (.aload_n 1, 1) := by decide +kernel
theorem D_jdk_42_method_150_code_16 : decode jdk_42_method_150_code 16 = .ok (.invokevirtual 1047, 3) := by decide +kernel
theorem D_jdk_42_method_150_code_19 : decode jdk_42_method_150_code 19 = .ok (.ifCond .eq 22, 3) := by decide +kernel
theorem D_jdk_42_method_150_code_22 : decode jdk_42_method_150_code 22 = .ok (.aload_n 0, 1) := by decide +kernel
theorem D_jdk_42_method_150_code_23 : decode jdk_42_method_150_code 23 = .ok (.iconst 0, 1) := by decide +kernel
theorem D_jdk_42_method_150_code_24 : decode jdk_42_method_150_code 24 = .ok (.putfield 15, 3) := by decide +kernel
theorem D_jdk_42_method_150_code_27 : decode jdk_42_method_150_code 27 = .ok (.aload_n 0, 1) := by decide +kernel
theorem D_jdk_42_method_150_code_28 : decode jdk_42_method_150_code 28 = .ok (.aload_n 3, 1) := by decide +kernel
theorem D_jdk_42_method_150_code_29 : decode jdk_42_method_150_code 29 = .ok (.iconst 0, 1) := by decide +kernel
theorem D_jdk_42_method_150_code_30 : decode jdk_42_method_150_code 30 = .ok (.iload 4, 2) := by decide +kernel
theorem D_jdk_42_method_150_code_32 : decode jdk_42_method_150_code 32 = .ok (.invokestatic 54, 3) := by decide +kernel
theorem D_jdk_42_method_150_code_35 : decode jdk_42_method_150_code 35 = .ok (.putfield 9, 3) := by decide +kernel
theorem D_jdk_42_method_150_code_38 : decode jdk_42_method_150_code 38 = .ok (.goto 59, 3) := by decide +kernel
theorem D_jdk_42_method_150_code_4 : decode jdk_42_method_150_code 4 = .ok (.aload_n 1, 1) := by decide +kernel
theorem D_jdk_42_method_150_code_5 : decode jdk_42_method_150_code 5 = .ok (.invokevirtual 552, 3) := by decide +kernel
theorem D_jdk_42_method_150_code_8 : decode jdk_42_method_150_code 8 = .ok (.astore_n 3, 1) := by decide +kernel
theorem D_jdk_42_method_150_code_9 : decode jdk_42_method_150_code 9 = .ok (.aload_n 1, 1) := by decide +kernel
theorem D_jdk_42_method_150_code_97 : decode jdk_42_method_150_code 97 = .ok (.return_, 1) := by decide +kernel
theorem D_jdk_42_method_53_code_0 : decode jdk_42_method_53_code 0 = .ok (.aload_n 0, 1) := by decide +kernel
theorem D_jdk_42_method_53_code_1 : decode jdk_42_method_53_code 1 = .ok (.aload_n 1, 1) := by decide +kernel
theorem D_jdk_42_method_53_code_2 : decode jdk_42_method_53_code 2 = .ok (.aconst_null, 1) := by decide +kernel
theorem D_jdk_42_method_53_code_3 : decode jdk_42_method_53_code 3 = .ok (.invokespecial 489, 3) := by decide +kernel
theorem D_jdk_42_method_53_code_6 : decode jdk_42_method_53_code 6 = .ok (.return_, 1) := by decide +kernel
theorem D_jdk_42_method_3_code_0 : decode jdk_42_method_3_code 0 = .ok (.aload_n 0, 1) := by decide +kernel
theorem D_jdk_42_method_3_code_1 : decode jdk_42_method_3_code 1 = .ok (.aload_n 1, 1) := by decide +kernel
theorem D_jdk_42_method_3_code_2 : decode jdk_42_method_3_code 2 = .ok (.iconst 0, 1) := by decide +kernel
theorem D_jdk_42_method_3_code_3 : decode jdk_42_method_3_code 3 = .ok (.aload_n 1, 1) := by decide +kernel
theorem D_jdk_42_method_3_code_4 : decode jdk_42_method_3_code 4 = .ok (.arraylength, 1) := by decide +kernel
theorem D_jdk_42_method_3_code_5 : decode jdk_42_method_3_code 5 = .ok (.aconst_null, 1) := by decide +kernel
theorem D_jdk_42_method_3_code_6 : decode jdk_42_method_3_code 6 = .ok (.invokespecial 27, 3) := by decide +kernel
theorem D_jdk_42_method_3_code_9 : decode jdk_42_method_3_code 9 = .ok (.return_, 1) := by decide +kernel
theorem D_jdk_42_method_149_code_0 : decode jdk_42_method_149_code 0 = .ok (.aload_n 0, 1) := by decide +kernel
theorem D_jdk_42_method_149_code_1 : decode jdk_42_method_149_code 1 = .ok (.invokespecial 1, 3) := by decide +kernel
theorem D_jdk_42_method_149_code_27 : decode jdk_42_method_149_code 27 = .ok (.getstatic 38, 3) := by decide +kernel
theorem D_jdk_42_method_149_code_30 : decode jdk_42_method_149_code 30 = .ok (.ifCond .eq 28, 3) := by decide +kernel
theorem D_jdk_42_method_149_code_33 : decode jdk_42_method_149_code 33 = .ok (.aload_n 1, 1) := by decide +kernel
theorem D_jdk_42_method_149_code_34 : decode jdk_42_method_149_code 34 = .ok (.iload_n 2, 1) := by decide +kernel
theorem D_jdk_42_method_149_code_35 : decode jdk_42_method_149_code 35 = .ok (.iload_n 3, 1) := by decide +kernel
theorem D_jdk_42_method_149_code_36 : decode jdk_42_method_149_code 36 = .ok (.invokestatic 177, 3) := by decide +kernel
theorem D_jdk_42_method_149_code_39 : decode jdk_42_method_149_code 39 = .ok (.astore 5, 2) := by decide +kernel
theorem D_jdk_42_method_149_code_4 : decode jdk_42_method_149_code 4 = .ok (.iload_n 3, 1) := by decide +kernel
theorem D_jdk_42_method_149_code_41 : decode jdk_42_method_149_code 41 = .ok (.aload_n 0, 1) := by decide +kernel
theorem D_jdk_42_method_149_code_42 : decode jdk_42_method_149_code 42 = .ok (.aload 5, 2) := by decide +kernel
theorem D_jdk_42_method_149_code_44 : decode jdk_42_method_149_code 44 = .ok (.iload_n 3, 1) := by decide +kernel
theorem D_jdk_42_method_149_code_45 : decode jdk_42_method_149_code 45 = .ok (.invokestatic 47, 3) := by decide +kernel
theorem D_jdk_42_method_149_code_48 : decode jdk_42_method_149_code 48 = .ok (.putfield 15, 3) := by decide +kernel
theorem D_jdk_42_method_149_code_5 : decode jdk_42_method_149_code 5 = .ok (.ifCond .ne 22, 3) := by decide +kernel
theorem D_jdk_42_method_149_code_51 : decode jdk_42_method_149_code 51 = .ok (.aload_n 0, 1) := by decide +kernel
theorem D_jdk_42_method_149_code_52 : decode jdk_42_method_149_code 52 = .ok (.aload 5, 2) := by decide +kernel
theorem D_jdk_42_method_149_code_54 : decode jdk_42_method_149_code 54 = .ok (.putfield 9, 3) := by decide +kernel
theorem D_jdk_42_method_149_code_57 : decode jdk_42_method_149_code 57 = .ok (.return_, 1) := by decide +kernel
theorem D_jdk_42_method_56_code_0 : decode jdk_42_method_56_code 0 = .ok (.aload_n 0, 1) := by decide +kernel
theorem D_jdk_42_method_56_code_1 : decode jdk_42_method_56_code 1 = .ok (.invokevirtual 492, 3) := by decide +kernel
theorem D_jdk_42_method_56_code_11 : decode jdk_42_method_56_code 11 = .ok (.iload_n 1, 1) := by decide +kernel
theorem D_jdk_42_method_56_code_12 : decode jdk_42_method_56_code 12 = .ok (.invokestatic 495, 3) := by decide +kernel
theorem D_jdk_42_method_56_code_15 : decode jdk_42_method_56_code 15 = .ok (.ireturn, 1) := by decide +kernel
theorem D_jdk_42_method_56_code_4 : decode jdk_42_method_56_code 4 = .ok (.ifCond .eq 12, 3) := by decide +kernel
theorem D_jdk_42_method_56_code_7 : decode jdk_42_method_56_code 7 = .ok (.aload_n 0, 1) := by decide +kernel
theorem D_jdk_42_method_56_code_8 : decode jdk_42_method_56_code 8 = .ok (.getfield 9, 3) := by decide +kernel
theorem D_jdk_42_method_155_code_0 : decode jdk_42_method_155_code 0 = .ok (.iload_n 0, 1) := by decide +kernel
theorem D_jdk_42_method_155_code_1 : decode jdk_42_method_155_code 1 = .ok (.iload_n 1, 1) := by decide +kernel
theorem D_jdk_42_method_155_code_2 : decode jdk_42_method_155_code 2 = .ok (.getstatic 1053, 3) := by decide +kernel
theorem D_jdk_42_method_155_code_5 : decode jdk_42_method_155_code 5 = .ok (.invokestatic 1059, 3) := by decide +kernel
theorem D_jdk_42_method_155_code_8 : decode jdk_42_method_155_code 8 = .ok (.pop, 1) := by decide +kernel
theorem D_jdk_42_method_155_code_9 : decode jdk_42_method_155_code 9 = .ok (.return_, 1) := by decide +kernel
theorem D_jdk_42_method_152_code_0 : decode jdk_42_method_152_code 0 = .ok (.getstatic 38, 3) := by decide +kernel
theorem D_jdk_42_method_152_code_10 : decode jdk_42_method_152_code 10 = .ok (.goto 4, 3) := by decide +kernel
theorem D_jdk_42_method_152_code_14 : decode jdk_42_method_152_code 14 = .ok (.ireturn, 1) := by decide +kernel
theorem D_jdk_42_method_152_code_3 : decode jdk_42_method_152_code 3 = .ok (.ifCond .eq 10, 3) := by decide +kernel
theorem D_jdk_42_method_152_code_6 : decode jdk_42_method_152_code 6 = .ok (.aload_n 0, 1) := by decide +kernel
theorem D_jdk_42_method_152_code_7 : decode jdk_42_method_152_code 7 = .ok (.getfield 15, 3) := by decide +kernel
theorem D_jdk_42_method_66_code_0 : decode jdk_42_method_66_code 0 = .ok (.aload_n 0, 1) := by decide +kernel
theorem D_jdk_42_method_66_code_1 : decode jdk_42_method_66_code 1 = .ok (.aload_n 1, 1) := by decide +kernel
theorem D_jdk_42_method_66_code_11 : decode jdk_42_method_66_code 11 = .ok (.ifCond .eq 43, 3) := by decide +kernel
theorem D_jdk_42_method_66_code_14 : decode jdk_42_method_66_code 14 = .ok (.aload_n 1, 1) := by decide +kernel
theorem D_jdk_42_method_66_code_15 : decode jdk_42_method_66_code 15 = .ok (.checkcast 10, 3) := by decide +kernel
theorem D_jdk_42_method_66_code_18 : decode jdk_42_method_66_code 18 = .ok (.astore_n 2, 1) := by decide +kernel
theorem D_jdk_42_method_66_code_19 : decode jdk_42_method_66_code 19 = .ok (.getstatic 38, 3) := by decide +kernel
theorem D_jdk_42_method_66_code_2 : decode jdk_42_method_66_code 2 = .ok (.if_acmp .ne 5, 3) := by decide +kernel
theorem D_jdk_42_method_66_code_22 : decode jdk_42_method_66_code 22 = .ok (.ifCond .eq 14, 3) := by decide +kernel
theorem D_jdk_42_method_66_code_25 : decode jdk_42_method_66_code 25 = .ok (.aload_n 0, 1) := by decide +kernel
theorem D_jdk_42_method_66_code_26 : decode jdk_42_method_66_code 26 = .ok (.getfield 15, 3) := by decide +kernel
theorem D_jdk_42_method_66_code_29 : decode jdk_42_method_66_code 29 = .ok (.aload_n 2, 1) := by decide +kernel
theorem D_jdk_42_method_66_code_30 : decode jdk_42_method_66_code 30 = .ok (.getfield 15, 3) := by decide +kernel
theorem D_jdk_42_method_66_code_33 : decode jdk_42_method_66_code 33 = .ok (.if_icmp .ne 21, 3) := by decide +kernel
theorem D_jdk_42_method_66_code_36 : decode jdk_42_method_66_code 36 = .ok (.aload_n 0, 1) := by decide +kernel
theorem D_jdk_42_method_66_code_37 : decode jdk_42_method_66_code 37 = .ok (.getfield 9, 3) := by decide +kernel
theorem D_jdk_42_method_66_code_40 : decode jdk_42_method_66_code 40 = .ok (.aload_n 2, 1) := by decide +kernel
theorem D_jdk_42_method_66_code_41 : decode jdk_42_method_66_code 41 = .ok (.getfield 9, 3) := by decide +kernel
theorem D_jdk_42_method_66_code_44 : decode jdk_42_method_66_code 44 = .ok (.invokestatic 541, 3) := by decide +kernel
theorem D_jdk_42_method_66_code_47 : decode jdk_42_method_66_code 47 = .ok (.ifCond .eq 7, 3) := by decide +kernel
theorem D_jdk_42_method_66_code_5 : decode jdk_42_method_66_code 5 = .ok (.iconst 1, 1) := by decide +kernel
theorem D_jdk_42_method_66_code_50 : decode jdk_42_method_66_code 50 = .ok (.iconst 1, 1) := by decide +kernel
theorem D_jdk_42_method_66_code_51 : decode jdk_42_method_66_code 51 = .ok (.goto 4, 3) := by decide +kernel
theorem D_jdk_42_method_66_code_54 : decode jdk_42_method_66_code 54 = .ok (.iconst 0, 1) := by decide +kernel
theorem D_jdk_42_method_66_code_55 : decode jdk_42_method_66_code 55 = .ok (.ireturn, 1) := by decide +kernel
theorem D_jdk_42_method_66_code_6 : decode jdk_42_method_66_code 6 = .ok (.ireturn, 1) := by decide +kernel
theorem D_jdk_42_method_66_code_7 : decode jdk_42_method_66_code 7 = .ok (.aload_n 1, 1) := by decide +kernel
theorem D_jdk_42_method_66_code_8 : decode jdk_42_method_66_code 8 = .ok (.instanceof 10, 3) := by decide +kernel
theorem D_jdk_42_method_147_code_0 : decode jdk_42_method_147_code 0 = .ok (.aload_n 0, 1) := by decide +kernel
theorem D_jdk_42_method_147_code_1 : decode jdk_42_method_147_code 1 = .ok (.invokevirtual 335, 3) := by decide +kernel
theorem D_jdk_42_method_147_code_12 : decode jdk_42_method_147_code 12 = .ok (.iconst 0, 1) := by decide +kernel
theorem D_jdk_42_method_147_code_13 : decode jdk_42_method_147_code 13 = .ok (.aload_n 1, 1) := by decide +kernel
theorem D_jdk_42_method_147_code_14 : decode jdk_42_method_147_code 14 = .ok (.iload_n 2, 1) := by decide +kernel
theorem D_jdk_42_method_147_code_15 : decode jdk_42_method_147_code 15 = .ok (.iload_n 3, 1) := by decide +kernel
theorem D_jdk_42_method_147_code_16 : decode jdk_42_method_147_code 16 = .ok (.ishl, 1) := by decide +kernel
theorem D_jdk_42_method_147_code_17 : decode jdk_42_method_147_code 17 = .ok (.aload_n 0, 1) := by decide +kernel
theorem D_jdk_42_method_147_code_18 : decode jdk_42_method_147_code 18 = .ok (.getfield 9, 3) := by decide +kernel
theorem D_jdk_42_method_147_code_21 : decode jdk_42_method_147_code 21 = .ok (.arraylength, 1) := by decide +kernel
theorem D_jdk_42_method_147_code_22 : decode jdk_42_method_147_code 22 = .ok (.invokestatic 212, 3) := by decide +kernel
theorem D_jdk_42_method_147_code_25 : decode jdk_42_method_147_code 25 = .ok (.goto 18, 3) := by decide +kernel
theorem D_jdk_42_method_147_code_4 : decode jdk_42_method_147_code 4 = .ok (.iload_n 3, 1) := by decide +kernel
theorem D_jdk_42_method_147_code_43 : decode jdk_42_method_147_code 43 = .ok (.return_, 1) := by decide +kernel
theorem D_jdk_42_method_147_code_5 : decode jdk_42_method_147_code 5 = .ok (.if_icmp .ne 23, 3) := by decide +kernel
theorem D_jdk_42_method_147_code_8 : decode jdk_42_method_147_code 8 = .ok (.aload_n 0, 1) := by decide +kernel
theorem D_jdk_42_method_147_code_9 : decode jdk_42_method_147_code 9 = .ok (.getfield 9, 3) := by decide +kernel
theorem D_jdk_42_method_154_code_0 : decode jdk_42_method_154_code 0 = .ok (.getstatic 38, 3) := by decide +kernel
theorem D_jdk_42_method_154_code_10 : decode jdk_42_method_154_code 10 = .ok (.ifCond .ne 7, 3) := by decide +kernel
theorem D_jdk_42_method_154_code_13 : decode jdk_42_method_154_code 13 = .ok (.iconst 1, 1) := by decide +kernel
theorem D_jdk_42_method_154_code_14 : decode jdk_42_method_154_code 14 = .ok (.goto 4, 3) := by decide +kernel
theorem D_jdk_42_method_154_code_18 : decode jdk_42_method_154_code 18 = .ok (.ireturn, 1) := by decide +kernel
theorem D_jdk_42_method_154_code_3 : decode jdk_42_method_154_code 3 = .ok (.ifCond .eq 14, 3) := by decide +kernel
theorem D_jdk_42_method_154_code_6 : decode jdk_42_method_154_code 6 = .ok (.aload_n 0, 1) := by decide +kernel
theorem D_jdk_42_method_154_code_7 : decode jdk_42_method_154_code 7 = .ok (.getfield 15, 3) := by decide +kernel
theorem D_jdk_42_method_54_code_0 : decode jdk_42_method_54_code 0 = .ok (.aload_n 0, 1) := by decide +kernel
theorem D_jdk_42_method_54_code_1 : decode jdk_42_method_54_code 1 = .ok (.getfield 9, 3) := by decide +kernel
theorem D_jdk_42_method_54_code_10 : decode jdk_42_method_54_code 10 = .ok (.ireturn, 1) := by decide +kernel
theorem D_jdk_42_method_54_code_4 : decode jdk_42_method_54_code 4 = .ok (.arraylength, 1) := by decide +kernel
theorem D_jdk_42_method_54_code_5 : decode jdk_42_method_54_code 5 = .ok (.aload_n 0, 1) := by decide +kernel
theorem D_jdk_42_method_54_code_6 : decode jdk_42_method_54_code 6 = .ok (.invokevirtual 335, 3) := by decide +kernel
theorem D_jdk_42_method_54_code_9 : decode jdk_42_method_54_code 9 = .ok (.ishr, 1) := by decide +kernel
theorem D_jdk_67_method_1_code_0 : decode jdk_67_method_1_code 0 = .ok (.aload_n 0, 1) := by decide +kernel
theorem D_jdk_67_method_1_code_1 : decode jdk_67_method_1_code 1 = .ok (.bipush 16, 2) := by decide +kernel
theorem D_jdk_67_method_1_code_3 : decode jdk_67_method_1_code 3 = .ok (.invokespecial 1, 3) := by decide +kernel
theorem D_jdk_67_method_1_code_6 : decode jdk_67_method_1_code 6 = .ok (.return_, 1) := by decide +kernel
theorem D_jdk_67_method_7_code_0 : decode jdk_67_method_7_code 0 = .ok (.aload_n 0, 1) := by decide +kernel
theorem D_jdk_67_method_7_code_1 : decode jdk_67_method_7_code 1 = .ok (.aload_n 1, 1) := by decide +kernel
theorem D_jdk_67_method_7_code_2 : decode jdk_67_method_7_code 2 = .ok (.invokespecial 29, 3) := by decide +kernel
theorem D_jdk_67_method_7_code_5 : decode jdk_67_method_7_code 5 = .ok (.pop, 1) := by decide +kernel
theorem D_jdk_67_method_7_code_6 : decode jdk_67_method_7_code 6 = .ok (.aload_n 0, 1) := by decide +kernel
theorem D_jdk_67_method_7_code_7 : decode jdk_67_method_7_code 7 = .ok (.areturn, 1) := by decide +kernel
theorem D_jdk_67_method_93_code_0 : decode jdk_67_method_93_code 0 = .ok (.aload_n 0, 1) := by decide +kernel
theorem D_jdk_67_method_93_code_1 : decode jdk_67_method_93_code 1 = .ok (.invokespecial 343, 3) := by decide +kernel
theorem D_jdk_67_method_93_code_4 : decode jdk_67_method_93_code 4 = .ok (.ireturn, 1) := by decide +kernel
theorem D_jdk_67_method_42_code_0 : decode jdk_67_method_42_code 0 = .ok (.new 18, 3) := by decide +kernel
theorem D_jdk_67_method_42_code_3 : decode jdk_67_method_42_code 3 = .ok (.dup, 1) := by decide +kernel
theorem D_jdk_67_method_42_code_4 : decode jdk_67_method_42_code 4 = .ok (.aload_n 0, 1) := by decide +kernel
theorem D_jdk_67_method_42_code_5 : decode jdk_67_method_42_code 5 = .ok (.invokespecial 137, 3) := by decide +kernel
theorem D_jdk_67_method_42_code_8 : decode jdk_67_method_42_code 8 = .ok (.areturn, 1) := by decide +kernel
theorem D_jdk_43_method_2_code_0 : decode jdk_43_method_2_code 0 = .ok (.iload_n 1, 1) := by decide +kernel
theorem D_jdk_43_method_2_code_1 : decode jdk_43_method_2_code 1 = .ok (.aload_n 0, 1) := by decide +kernel
theorem D_jdk_43_method_2_code_12 : decode jdk_43_method_2_code 12 = .ok (.iand, 1) := by decide +kernel
theorem D_jdk_43_method_2_code_13 : decode jdk_43_method_2_code 13 = .ok (.i2c, 1) := by decide +kernel
theorem D_jdk_43_method_2_code_14 : decode jdk_43_method_2_code 14 = .ok (.ireturn, 1) := by decide +kernel
theorem D_jdk_43_method_2_code_2 : decode jdk_43_method_2_code 2 = .ok (.arraylength, 1) := by decide +kernel
theorem D_jdk_43_method_2_code_3 : decode jdk_43_method_2_code 3 = .ok (.invokestatic 9, 3) := by decide +kernel
theorem D_jdk_43_method_2_code_6 : decode jdk_43_method_2_code 6 = .ok (.aload_n 0, 1) := by decide +kernel
theorem D_jdk_43_method_2_code_7 : decode jdk_43_method_2_code 7 = .ok (.iload_n 1, 1) := by decide +kernel
theorem D_jdk_43_method_2_code_8 : decode jdk_43_method_2_code 8 = .ok (.baload, 1) := by decide +kernel
theorem D_jdk_43_method_2_code_9 : decode jdk_43_method_2_code 9 = .ok (.sipush 255, 3) := by decide +kernel
theorem D_jdk_43_method_13_code_0 : decode jdk_43_method_13_code 0 = .ok (.aload_n 0, 1) := by decide +kernel
theorem D_jdk_43_method_13_code_1 : decode jdk_43_method_13_code 1 = .ok (.arraylength, 1) := by decide +kernel
theorem D_jdk_43_method_13_code_10 : decode jdk_43_method_13_code 10 = .ok (.aload_n 0, 1) := by decide +kernel
theorem D_jdk_43_method_13_code_11 : decode jdk_43_method_13_code 11 = .ok (.arraylength, 1) := by decide +kernel
theorem D_jdk_43_method_13_code_12 : decode jdk_43_method_13_code 12 = .ok (.if_icmp .ge 20, 3) := by decide +kernel
theorem D_jdk_43_method_13_code_15 : decode jdk_43_method_13_code 15 = .ok (.aload_n 0, 1) := by decide +kernel
theorem D_jdk_43_method_13_code_16 : decode jdk_43_method_13_code 16 = .ok (.iload_n 2, 1) := by decide +kernel
theorem D_jdk_43_method_13_code_17 : decode jdk_43_method_13_code 17 = .ok (.baload, 1) := by decide +kernel
theorem D_jdk_43_method_13_code_18 : decode jdk_43_method_13_code 18 = .ok (.aload_n 1, 1) := by decide +kernel
theorem D_jdk_43_method_13_code_19 : decode jdk_43_method_13_code 19 = .ok (.iload_n 2, 1) := by decide +kernel
theorem D_jdk_43_method_13_code_2 : decode jdk_43_method_13_code 2 = .ok (.aload_n 1, 1) := by decide +kernel
theorem D_jdk_43_method_13_code_20 : decode jdk_43_method_13_code 20 = .ok (.baload, 1) := by decide +kernel
theorem D_jdk_43_method_13_code_21 : decode jdk_43_method_13_code 21 = .ok (.if_icmp .eq 5, 3) := by decide +kernel
theorem D_jdk_43_method_13_code_24 : decode jdk_43_method_13_code 24 = .ok (.iconst 0, 1) := by decide +kernel
theorem D_jdk_43_method_13_code_25 : decode jdk_43_method_13_code 25 = .ok (.ireturn, 1) := by decide +kernel
theorem D_jdk_43_method_13_code_26 : decode jdk_43_method_13_code 26 = .ok (.iinc 2 1, 3) := by decide +kernel
theorem D_jdk_43_method_13_code_29 : decode jdk_43_method_13_code 29 = .ok (.goto (-20), 3) := by decide +kernel
theorem D_jdk_43_method_13_code_3 : decode jdk_43_method_13_code 3 = .ok (.arraylength, 1) := by decide +kernel
theorem D_jdk_43_method_13_code_32 : decode jdk_43_method_13_code 32 = .ok (.iconst 1, 1) := by decide +kernel
theorem D_jdk_43_method_13_code_33 : decode jdk_43_method_13_code 33 = .ok (.ireturn, 1) := by decide +kernel
theorem D_jdk_43_method_13_code_34 : decode jdk_43_method_13_code 34 = .ok (.iconst 0, 1) := by decide +kernel
theorem D_jdk_43_method_13_code_35 : decode jdk_43_method_13_code 35 = .ok (.ireturn, 1) := by decide +kernel
theorem D_jdk_43_method_13_code_4 : decode jdk_43_method_13_code 4 = .ok (.if_icmp .ne 30, 3) := by decide +kernel
theorem D_jdk_43_method_13_code_7 : decode jdk_43_method_13_code 7 = .ok (.iconst 0, 1) := by decide +kernel
theorem D_jdk_43_method_13_code_8 : decode jdk_43_method_13_code 8 = .ok (.istore_n 2, 1) := by decide +kernel
theorem D_jdk_43_method_13_code_9 : decode jdk_43_method_13_code 9 = .ok (.iload_n 2, 1) := by decide +kernel
theorem D_jdk_52_method_15_code_0 : decode jdk_52_method_15_code 0 = .ok (.iload_n 1, 1) := by decide +kernel
theorem D_jdk_52_method_15_code_1 : decode jdk_52_method_15_code 1 = .ok (.aload_n 0, 1) := by decide +kernel
theorem D_jdk_52_method_15_code_2 : decode jdk_52_method_15_code 2 = .ok (.arraylength, 1) := by decide +kernel
theorem D_jdk_52_method_15_code_3 : decode jdk_52_method_15_code 3 = .ok (.isub, 1) := by decide +kernel
theorem D_jdk_52_method_15_code_4 : decode jdk_52_method_15_code 4 = .ok (.bipush 31, 2) := by decide +kernel
theorem D_jdk_52_method_15_code_6 : decode jdk_52_method_15_code 6 = .ok (.iushr, 1) := by decide +kernel
theorem D_jdk_52_method_15_code_7 : decode jdk_52_method_15_code 7 = .ok (.i2b, 1) := by decide +kernel
theorem D_jdk_52_method_15_code_8 : decode jdk_52_method_15_code 8 = .ok (.ireturn, 1) := by decide +kernel
theorem D_jdk_52_method_16_code_0 : decode jdk_52_method_16_code 0 = .ok (.iload_n 2, 1) := by decide +kernel
theorem D_jdk_52_method_16_code_1 : decode jdk_52_method_16_code 1 = .ok (.newarray .byte, 2) := by decide +kernel
theorem D_jdk_52_method_16_code_12 : decode jdk_52_method_16_code 12 = .ok (.istore 4, 2) := by decide +kernel
theorem D_jdk_52_method_16_code_14 : decode jdk_52_method_16_code 14 = .ok (.iload 4, 2) := by decide +kernel
theorem D_jdk_52_method_16_code_16 : decode jdk_52_method_16_code 16 = .ok (.iload_n 2, 1) := by decide +kernel
theorem D_jdk_52_method_16_code_17 : decode jdk_52_method_16_code 17 = .ok (.if_icmp .eq 40, 3) := by decide +kernel
theorem D_jdk_52_method_16_code_3 : decode jdk_52_method_16_code 3 = .ok (.astore_n 3, 1) := by decide +kernel
theorem D_jdk_52_method_16_code_4 : decode jdk_52_method_16_code 4 = .ok (.aload_n 0, 1) := by decide +kernel
theorem D_jdk_52_method_16_code_5 : decode jdk_52_method_16_code 5 = .ok (.iload_n 1, 1) := by decide +kernel
theorem D_jdk_52_method_16_code_57 : decode jdk_52_method_16_code 57 = .ok (.aload_n 3, 1) := by decide +kernel
theorem D_jdk_52_method_16_code_58 : decode jdk_52_method_16_code 58 = .ok (.areturn, 1) := by decide +kernel
theorem D_jdk_52_method_16_code_6 : decode jdk_52_method_16_code 6 = .ok (.aload_n 3, 1) := by decide +kernel
theorem D_jdk_52_method_16_code_7 : decode jdk_52_method_16_code 7 = .ok (.iconst 0, 1) := by decide +kernel
theorem D_jdk_52_method_16_code_8 : decode jdk_52_method_16_code 8 = .ok (.iload_n 2, 1) := by decide +kernel
theorem D_jdk_52_method_16_code_9 : decode jdk_52_method_16_code 9 = .ok (.invokestatic 115, 3) := by decide +kernel
theorem D_jdk_52_method_21_code_0 : decode jdk_52_method_21_code 0 = .ok (.iconst 0, 1) := by decide +kernel
theorem D_jdk_52_method_21_code_1 : decode jdk_52_method_21_code 1 = .ok (.istore 5, 2) := by decide +kernel
theorem D_jdk_52_method_21_code_10 : decode jdk_52_method_21_code 10 = .ok (.aload_n 0, 1) := by decide +kernel
theorem D_jdk_52_method_21_code_11 : decode jdk_52_method_21_code 11 = .ok (.iload_n 1, 1) := by decide +kernel
theorem D_jdk_52_method_21_code_12 : decode jdk_52_method_21_code 12 = .ok (.caload, 1) := by decide +kernel
theorem D_jdk_52_method_21_code_13 : decode jdk_52_method_21_code 13 = .ok (.istore 6, 2) := by decide +kernel
theorem D_jdk_52_method_21_code_15 : decode jdk_52_method_21_code 15 = .ok (.iload 6, 2) := by decide +kernel
theorem D_jdk_52_method_21_code_17 : decode jdk_52_method_21_code 17 = .ok (.sipush 255, 3) := by decide +kernel
theorem D_jdk_52_method_21_code_20 : decode jdk_52_method_21_code 20 = .ok (.if_icmp .le 6, 3) := by decide +kernel
theorem D_jdk_52_method_21_code_26 : decode jdk_52_method_21_code 26 = .ok (.aload_n 2, 1) := by decide +kernel
theorem D_jdk_52_method_21_code_27 : decode jdk_52_method_21_code 27 = .ok (.iload_n 3, 1) := by decide +kernel
theorem D_jdk_52_method_21_code_28 : decode jdk_52_method_21_code 28 = .ok (.iload 6, 2) := by decide +kernel
theorem D_jdk_52_method_21_code_3 : decode jdk_52_method_21_code 3 = .ok (.iload 5, 2) := by decide +kernel
theorem D_jdk_52_method_21_code_30 : decode jdk_52_method_21_code 30 = .ok (.i2b, 1) := by decide +kernel
theorem D_jdk_52_method_21_code_31 : decode jdk_52_method_21_code 31 = .ok (.bastore, 1) := by decide +kernel
theorem D_jdk_52_method_21_code_32 : decode jdk_52_method_21_code 32 = .ok (.iinc 1 1, 3) := by decide +kernel
theorem D_jdk_52_method_21_code_35 : decode jdk_52_method_21_code 35 = .ok (.iinc 3 1, 3) := by decide +kernel
theorem D_jdk_52_method_21_code_38 : decode jdk_52_method_21_code 38 = .ok (.iinc 5 1, 3) := by decide +kernel
theorem D_jdk_52_method_21_code_41 : decode jdk_52_method_21_code 41 = .ok (.goto (-38), 3) := by decide +kernel
theorem D_jdk_52_method_21_code_44 : decode jdk_52_method_21_code 44 = .ok (.iload 4, 2) := by decide +kernel
theorem D_jdk_52_method_21_code_46 : decode jdk_52_method_21_code 46 = .ok (.ireturn, 1) := by decide +kernel
theorem D_jdk_52_method_21_code_5 : decode jdk_52_method_21_code 5 = .ok (.iload 4, 2) := by decide +kernel
theorem D_jdk_52_method_21_code_7 : decode jdk_52_method_21_code 7 = .ok (.if_icmp .ge 37, 3) := by decide +kernel
theorem D_jdk_65_method_131_code_0 : decode jdk_65_method_131_code 0 = .ok (.iload_n 1, 1) := by decide +kernel
theorem D_jdk_65_method_131_code_1 : decode jdk_65_method_131_code 1 = .ok (.iload_n 0, 1) := by decide +kernel
theorem D_jdk_65_method_131_code_2 : decode jdk_65_method_131_code 2 = .ok (.if_icmp .ge 35, 3) := by decide +kernel
theorem D_jdk_65_method_131_code_37 : decode jdk_65_method_131_code 37 = .ok (.return_, 1) := by decide +kernel
theorem D_jdk_65_method_121_code_0 : decode jdk_65_method_121_code 0 = .ok (.iload_n 1, 1) := by decide +kernel
theorem D_jdk_65_method_121_code_1 : decode jdk_65_method_121_code 1 = .ok (.aload_n 0, 1) := by decide +kernel
theorem D_jdk_65_method_121_code_14 : decode jdk_65_method_121_code 14 = .ok (.iload_n 1, 1) := by decide +kernel
theorem D_jdk_65_method_121_code_15 : decode jdk_65_method_121_code 15 = .ok (.newarray .byte, 2) := by decide +kernel
theorem D_jdk_65_method_121_code_17 : decode jdk_65_method_121_code 17 = .ok (.astore_n 2, 1) := by decide +kernel
theorem D_jdk_65_method_121_code_18 : decode jdk_65_method_121_code 18 = .ok (.aload_n 0, 1) := by decide +kernel
theorem D_jdk_65_method_121_code_19 : decode jdk_65_method_121_code 19 = .ok (.iconst 0, 1) := by decide +kernel
theorem D_jdk_65_method_121_code_2 : decode jdk_65_method_121_code 2 = .ok (.arraylength, 1) := by decide +kernel
theorem D_jdk_65_method_121_code_20 : decode jdk_65_method_121_code 20 = .ok (.aload_n 2, 1) := by decide +kernel
theorem D_jdk_65_method_121_code_21 : decode jdk_65_method_121_code 21 = .ok (.iconst 0, 1) := by decide +kernel
theorem D_jdk_65_method_121_code_22 : decode jdk_65_method_121_code 22 = .ok (.aload_n 0, 1) := by decide +kernel
theorem D_jdk_65_method_121_code_23 : decode jdk_65_method_121_code 23 = .ok (.arraylength, 1) := by decide +kernel
theorem D_jdk_65_method_121_code_24 : decode jdk_65_method_121_code 24 = .ok (.iload_n 1, 1) := by decide +kernel
theorem D_jdk_65_method_121_code_25 : decode jdk_65_method_121_code 25 = .ok (.invokestatic 304, 3) := by decide +kernel
theorem D_jdk_65_method_121_code_28 : decode jdk_65_method_121_code 28 = .ok (.invokestatic 150, 3) := by decide +kernel
theorem D_jdk_65_method_121_code_3 : decode jdk_65_method_121_code 3 = .ok (.if_icmp .ne 11, 3) := by decide +kernel
theorem D_jdk_65_method_121_code_31 : decode jdk_65_method_121_code 31 = .ok (.aload_n 2, 1) := by decide +kernel
theorem D_jdk_65_method_121_code_32 : decode jdk_65_method_121_code 32 = .ok (.areturn, 1) := by decide +kernel
theorem D_jdk_65_method_132_code_0 : decode jdk_65_method_132_code 0 = .ok (.iload_n 1, 1) := by decide +kernel
theorem D_jdk_65_method_132_code_1 : decode jdk_65_method_132_code 1 = .ok (.ifCond .ne 9, 3) := by decide +kernel
theorem D_jdk_65_method_132_code_10 : decode jdk_65_method_132_code 10 = .ok (.aload_n 0, 1) := by decide +kernel
theorem D_jdk_65_method_132_code_11 : decode jdk_65_method_132_code 11 = .ok (.iload_n 1, 1) := by decide +kernel
theorem D_jdk_65_method_132_code_12 : decode jdk_65_method_132_code 12 = .ok (.iload_n 2, 1) := by decide +kernel
theorem D_jdk_65_method_132_code_13 : decode jdk_65_method_132_code 13 = .ok (.invokestatic 339, 3) := by decide +kernel
theorem D_jdk_65_method_132_code_16 : decode jdk_65_method_132_code 16 = .ok (.areturn, 1) := by decide +kernel
theorem D_jdk_65_method_132_code_4 : decode jdk_65_method_132_code 4 = .ok (.iload_n 2, 1) := by decide +kernel
theorem D_jdk_65_method_132_code_5 : decode jdk_65_method_132_code 5 = .ok (.aload_n 0, 1) := by decide +kernel
theorem D_jdk_65_method_132_code_6 : decode jdk_65_method_132_code 6 = .ok (.arraylength, 1) := by decide +kernel
theorem D_jdk_65_method_132_code_7 : decode jdk_65_method_132_code 7 = .ok (.if_icmp .eq 10, 3) := by decide +kernel
theorem D_jdk_65_method_133_code_0 : decode jdk_65_method_133_code 0 = .ok (.iload_n 1, 1) := by decide +kernel
theorem D_jdk_65_method_133_code_1 : decode jdk_65_method_133_code 1 = .ok (.iload_n 2, 1) := by decide +kernel
theorem D_jdk_65_method_133_code_10 : decode jdk_65_method_133_code 10 = .ok (.newarray .byte, 2) := by decide +kernel
theorem D_jdk_65_method_133_code_12 : decode jdk_65_method_133_code 12 = .ok (.astore 4, 2) := by decide +kernel
theorem D_jdk_65_method_133_code_14 : decode jdk_65_method_133_code 14 = .ok (.aload_n 0, 1) := by decide +kernel
theorem D_jdk_65_method_133_code_15 : decode jdk_65_method_133_code 15 = .ok (.iload_n 1, 1) := by decide +kernel
theorem D_jdk_65_method_133_code_16 : decode jdk_65_method_133_code 16 = .ok (.aload 4, 2) := by decide +kernel
theorem D_jdk_65_method_133_code_18 : decode jdk_65_method_133_code 18 = .ok (.iconst 0, 1) := by decide +kernel
theorem D_jdk_65_method_133_code_19 : decode jdk_65_method_133_code 19 = .ok (.aload_n 0, 1) := by decide +kernel
theorem D_jdk_65_method_133_code_2 : decode jdk_65_method_133_code 2 = .ok (.invokestatic 343, 3) := by decide +kernel
theorem D_jdk_65_method_133_code_20 : decode jdk_65_method_133_code 20 = .ok (.arraylength, 1) := by decide +kernel
theorem D_jdk_65_method_133_code_21 : decode jdk_65_method_133_code 21 = .ok (.iload_n 1, 1) := by decide +kernel
theorem D_jdk_65_method_133_code_22 : decode jdk_65_method_133_code 22 = .ok (.isub, 1) := by decide +kernel
theorem D_jdk_65_method_133_code_23 : decode jdk_65_method_133_code 23 = .ok (.iload_n 3, 1) := by decide +kernel
theorem D_jdk_65_method_133_code_24 : decode jdk_65_method_133_code 24 = .ok (.invokestatic 304, 3) := by decide +kernel
theorem D_jdk_65_method_133_code_27 : decode jdk_65_method_133_code 27 = .ok (.invokestatic 150, 3) := by decide +kernel
theorem D_jdk_65_method_133_code_30 : decode jdk_65_method_133_code 30 = .ok (.aload 4, 2) := by decide +kernel
theorem D_jdk_65_method_133_code_32 : decode jdk_65_method_133_code 32 = .ok (.areturn, 1) := by decide +kernel
theorem D_jdk_65_method_133_code_5 : decode jdk_65_method_133_code 5 = .ok (.iload_n 2, 1) := by decide +kernel
theorem D_jdk_65_method_133_code_6 : decode jdk_65_method_133_code 6 = .ok (.iload_n 1, 1) := by decide +kernel
theorem D_jdk_65_method_133_code_7 : decode jdk_65_method_133_code 7 = .ok (.isub, 1) := by decide +kernel
theorem D_jdk_65_method_133_code_8 : decode jdk_65_method_133_code 8 = .ok (.istore_n 3, 1) := by decide +kernel
theorem D_jdk_65_method_133_code_9 : decode jdk_65_method_133_code 9 = .ok (.iload_n 3, 1) := by decide +kernel
theorem D_jdk_48_method_27_code_0 : decode jdk_48_method_27_code 0 = .ok (.iload_n 0, 1) := by decide +kernel
theorem D_jdk_48_method_27_code_1 : decode jdk_48_method_27_code 1 = .ok (.iload_n 1, 1) := by decide +kernel
theorem D_jdk_48_method_27_code_10 : decode jdk_48_method_27_code 10 = .ok (.if_icmp .ge 11, 3) := by decide +kernel
theorem D_jdk_48_method_27_code_13 : decode jdk_48_method_27_code 13 = .ok (.iload_n 3, 1) := by decide +kernel
theorem D_jdk_48_method_27_code_14 : decode jdk_48_method_27_code 14 = .ok (.ldc 200, 2) := by decide +kernel
theorem D_jdk_48_method_27_code_16 : decode jdk_48_method_27_code 16 = .ok (.if_icmp .gt 5, 3) := by decide +kernel
theorem D_jdk_48_method_27_code_19 : decode jdk_48_method_27_code 19 = .ok (.iload_n 3, 1) := by decide +kernel
theorem D_jdk_48_method_27_code_2 : decode jdk_48_method_27_code 2 = .ok (.iload_n 2, 1) := by decide +kernel
theorem D_jdk_48_method_27_code_20 : decode jdk_48_method_27_code 20 = .ok (.ireturn, 1) := by decide +kernel
theorem D_jdk_48_method_27_code_3 : decode jdk_48_method_27_code 3 = .ok (.invokestatic 194, 3) := by decide +kernel
theorem D_jdk_48_method_27_code_6 : decode jdk_48_method_27_code 6 = .ok (.iadd, 1) := by decide +kernel
theorem D_jdk_48_method_27_code_7 : decode jdk_48_method_27_code 7 = .ok (.istore_n 3, 1) := by decide +kernel
theorem D_jdk_48_method_27_code_8 : decode jdk_48_method_27_code 8 = .ok (.iconst 0, 1) := by decide +kernel
theorem D_jdk_48_method_27_code_9 : decode jdk_48_method_27_code 9 = .ok (.iload_n 3, 1) := by decide +kernel
theorem D_jdk_41_method_11_code_0 : decode jdk_41_method_11_code 0 = .ok (.iload_n 0, 1) := by decide +kernel
theorem D_jdk_41_method_11_code_1 : decode jdk_41_method_11_code 1 = .ok (.ifCond .lt 8, 3) := by decide +kernel
theorem D_jdk_41_method_11_code_16 : decode jdk_41_method_11_code 16 = .ok (.iload_n 0, 1) := by decide +kernel
theorem D_jdk_41_method_11_code_17 : decode jdk_41_method_11_code 17 = .ok (.ireturn, 1) := by decide +kernel
theorem D_jdk_41_method_11_code_4 : decode jdk_41_method_11_code 4 = .ok (.iload_n 0, 1) := by decide +kernel
theorem D_jdk_41_method_11_code_5 : decode jdk_41_method_11_code 5 = .ok (.iload_n 1, 1) := by decide +kernel
theorem D_jdk_41_method_11_code_6 : decode jdk_41_method_11_code 6 = .ok (.if_icmp .lt 10, 3) := by decide +kernel
theorem pd_0 : parseMethodDescriptor "([CI[BII)I" = some ⟨[(.array .char), .int, (.array .byte), .int, .int], some .int⟩ := by decide +kernel
theorem pd_1 : parseMethodDescriptor "([CII)[B" = some ⟨[(.array .char), .int, .int], some (.array .byte)⟩ := by decide +kernel
theorem pd_2 : parseMethodDescriptor "([BI)B" = some ⟨[(.array .byte), .int], some .byte⟩ := by decide +kernel
theorem pd_3 : parseMethodDescriptor "([CIILjava/lang/Void;)V" = some ⟨[(.array .char), .int, .int, (.object "java/lang/Void")], none⟩ := by decide +kernel
theorem pd_4 : parseMethodDescriptor "([B[B)Z" = some ⟨[(.array .byte), (.array .byte)], some .boolean⟩ := by decide +kernel
theorem pd_5 : parseMethodDescriptor "(II)I" = some ⟨[.int, .int], some .int⟩ := by decide +kernel
theorem pd_6 : parseMethodDescriptor "(III)I" = some ⟨[.int, .int, .int], some .int⟩ := by decide +kernel
theorem pd_7 : parseMethodDescriptor "(I)I" = some ⟨[.int], some .int⟩ := by decide +kernel
theorem pd_8 : parseMethodDescriptor "([BI)[B" = some ⟨[(.array .byte), .int], some (.array .byte)⟩ := by decide +kernel
theorem pd_9 : parseMethodDescriptor "()B" = some ⟨[], some .byte⟩ := by decide +kernel
theorem pd_10 : parseMethodDescriptor "(Ljava/lang/String;)V" = some ⟨[(.object "java/lang/String")], none⟩ := by decide +kernel
theorem pd_11 : parseMethodDescriptor "([BIB)V" = some ⟨[(.array .byte), .int, .byte], none⟩ := by decide +kernel
theorem pd_12 : parseMethodDescriptor "()I" = some ⟨[], some .int⟩ := by decide +kernel
theorem pd_13 : parseMethodDescriptor "(I)V" = some ⟨[.int], none⟩ := by decide +kernel
theorem pd_14 : parseMethodDescriptor "(ILjava/lang/String;)V" = some ⟨[.int, (.object "java/lang/String")], none⟩ := by decide +kernel
theorem pd_15 : parseMethodDescriptor "(Ljava/lang/String;)Ljava/lang/AbstractStringBuilder;" = some ⟨[(.object "java/lang/String")], some (.object "java/lang/AbstractStringBuilder")⟩ := by decide +kernel
theorem pd_16 : parseMethodDescriptor "(II)V" = some ⟨[.int, .int], none⟩ := by decide +kernel
theorem pd_17 : parseMethodDescriptor "([BII)[B" = some ⟨[(.array .byte), .int, .int], some (.array .byte)⟩ := by decide +kernel
theorem pd_18 : parseMethodDescriptor "()[B" = some ⟨[], some (.array .byte)⟩ := by decide +kernel
theorem pd_19 : parseMethodDescriptor "()Z" = some ⟨[], some .boolean⟩ := by decide +kernel
theorem pd_20 : parseMethodDescriptor "(Ljava/lang/AbstractStringBuilder;Ljava/lang/Void;)V" = some ⟨[(.object "java/lang/AbstractStringBuilder"), (.object "java/lang/Void")], none⟩ := by decide +kernel
theorem pd_21 : parseMethodDescriptor "(Ljava/lang/StringBuilder;)V" = some ⟨[(.object "java/lang/StringBuilder")], none⟩ := by decide +kernel
theorem pd_22 : parseMethodDescriptor "()V" = some ⟨[], none⟩ := by decide +kernel
theorem pd_23 : parseMethodDescriptor "(Ljava/lang/String;)Ljava/lang/StringBuilder;" = some ⟨[(.object "java/lang/String")], some (.object "java/lang/StringBuilder")⟩ := by decide +kernel
theorem pd_24 : parseMethodDescriptor "()Ljava/lang/String;" = some ⟨[], some (.object "java/lang/String")⟩ := by decide +kernel
theorem pd_25 : parseMethodDescriptor "(IILjava/util/function/BiFunction;)I" = some ⟨[.int, .int, (.object "java/util/function/BiFunction")], some .int⟩ := by decide +kernel
theorem pd_26 : parseMethodDescriptor "([BI)C" = some ⟨[(.array .byte), .int], some .char⟩ := by decide +kernel
theorem pd_27 : parseMethodDescriptor "(I)C" = some ⟨[.int], some .char⟩ := by decide +kernel
theorem pd_28 : parseMethodDescriptor "([C)V" = some ⟨[(.array .char)], none⟩ := by decide +kernel
theorem pd_29 : parseMethodDescriptor "(ICCC)Ljava/lang/String;" = some ⟨[.int, .char, .char, .char], some (.object "java/lang/String")⟩ := by decide +kernel
theorem pd_30 : parseMethodDescriptor "(Ljava/lang/String;)Ljava/lang/String;" = some ⟨[(.object "java/lang/String")], some (.object "java/lang/String")⟩ := by decide +kernel
theorem pd_31 : parseMethodDescriptor "(Ljava/lang/Object;)Z" = some ⟨[(.object "java/lang/Object")], some .boolean⟩ := by decide +kernel
theorem pd_32 : parseMethodDescriptor "(Ljava/lang/String;ILjava/lang/String;I)Z" = some ⟨[(.object "java/lang/String"), .int, (.object "java/lang/String"), .int], some .boolean⟩ := by decide +kernel
theorem pn_0 : plainName "java/lang/StringUTF16" = true := by first | (simp [plainName, overriddenIn]; done) | decide +kernel
theorem pn_1 : plainName "java/lang/String" = true := by first | (simp [plainName, overriddenIn]; done) | decide +kernel
theorem pn_2 : plainName "java/lang/StringLatin1" = true := by first | (simp [plainName, overriddenIn]; done) | decide +kernel
theorem pn_3 : plainName "jdk/internal/util/ArraysSupport" = true := by first | (simp [plainName, overriddenIn]; done) | decide +kernel
theorem pn_4 : plainName "java/lang/AbstractStringBuilder" = true := by first | (simp [plainName, overriddenIn]; done) | decide +kernel
theorem pn_5 : plainName "java/util/Arrays" = true := by first | (simp [plainName, overriddenIn]; done) | decide +kernel
theorem pn_6 : plainName "java/lang/StringBuilder" = true := by first | (simp [plainName, overriddenIn]; done) | decide +kernel
theorem pn_7 : plainName "com/example/coffer/coffer/Ledger" = true := by first | (simp [plainName, overriddenIn]; done) | decide +kernel
theorem pn_8 : plainName "jdk/internal/util/Preconditions" = true := by first | (simp [plainName, overriddenIn]; done) | decide +kernel
theorem pn_9 : plainName "com/example/coffer/coffer/LedgerExactSumPinLaw" = true := by first | (simp [plainName, overriddenIn]; done) | decide +kernel
set_option maxRecDepth 65536 in
set_option maxHeartbeats 40000000 in
theorem c_compress5 {l : Launch} {Z : State} {a0 : Array Value} {EL : List (String × Nat)} {nw fk : Prop} {zc : Int32} {sf : Value} (g : GH Z a0 EL zc sf) (h : Heap) (b : Addr) (kb : ClassId) (cs : List Int32) (d : Addr) (kd : ClassId) (hcs : ∀ c ∈ cs, 0 ≤ c.toInt ∧ c.toInt ≤ 255) (hl : cs.length ≤ 4000) (hne : ¬ b = d) (gd : Z.heap.size ≤ d) (e0 : Ar Z h b kb .char (cs.map Value.int)) (e1 : Ar Z h d kd .byte ((List.replicate cs.length (0 : Int32)).map Value.int)) (zz : Z.heap.size ≤ h.size) :
    Ct l Z EL nw fk [] ⟨"java/lang/StringUTF16", "compress", "([CI[BII)I"⟩ jdk_52_method_21_code 7 (some .int) ({ frames := 0, cells := 0, slots := 0, locals := 0 } : Room) #[(.ref b), (.int (0 : Int32)), (.ref d), (.int (0 : Int32)), (.int (cs.length.toInt32))] h [d] (fun res vm' h' => res = some (.int (cs.length.toInt32)) ∧ Keep h h' [d] ∧ Ar Z h' d kd .byte ((cs.map by8).map Value.int) ∧ Safe Z EL vm' h' d) := by
  have ye0 := ltN e0.lt
  have ye1 := ltN e1.lt
  refine Ct.of_go (a0 := a0) g.2.1 (plainFor_of_name pn_0) (L0 := #[.val (.ref b), .val (.int (0 : Int32)), .val (.ref d), .val (.int (0 : Int32)), .val (.int (cs.length.toInt32)), .unset, .unset]) (fun m => by first | (simp [entryFrame, mkF, argsToLocals, Value.category, own_rep]; done) | rfl) ?_
  intro p e s m below meth c hown hby hml hret hnm hZ hC hO hsf
  refine Go.iconst (hb hby D_jdk_52_method_21_code_0) (pc' := 1) rfl (z := (0 : Int32)) rfl ?_
  refine Go.istore (hb hby D_jdk_52_method_21_code_1) (pc' := 3) rfl (L' := #[.val (.ref b), .val (.int (0 : Int32)), .val (.ref d), .val (.int (0 : Int32)), .val (.int (cs.length.toInt32)), .val (.int (0 : Int32)), .unset]) rfl ?_
  refine Go.loop (Inv := fun r vmI hI kI nI LI => vmI = s.vm ∧ kI = 0 ∧ nI = 0 ∧ ∃ (i : Nat) (s6 : Slot), i + r = cs.length ∧ (s6 = .unset ∨ ∃ w, s6 = .val (.int w)) ∧ LI = #[.val (.ref b), .val (.int i.toInt32), .val (.ref d), .val (.int i.toInt32), .val (.int (cs.length.toInt32)), .val (.int i.toInt32), s6] ∧ Keep h hI [d] ∧ Ar Z hI d kd .byte (((cs.map by8).take i ++ List.replicate ((cs.map by8).length - i) 0).map Value.int) ∧ Safe Z EL s.vm hI d) ?_ cs.length _ _ _ _ _ ⟨rfl, rfl, rfl, 0, .unset, Nat.zero_add _, Or.inl rfl, rfl, Keep.refl _ _, by simpa using e1, hsf _ (by simp)⟩
  rintro r vmI hI kI nI LI ⟨rfl, rfl, rfl, i, s6, hir, hs6, rfl, KI, AI, SI⟩ ih
  have yI := KI.1
  have hi31 : i < 2 ^ 31 := by omega
  have hn31 : cs.length < 2 ^ 31 := by omega
  rcases hs6 with rfl | ⟨w6, rfl⟩
  · refine Go.iload (hb hby D_jdk_52_method_21_code_3) (pc' := 5) rfl rfl ?_
    refine Go.iload (hb hby D_jdk_52_method_21_code_5) (pc' := 7) rfl rfl ?_
    refine Go.icmp (hb hby D_jdk_52_method_21_code_7) (by decide) (pc' := 44) (by decide) (pc2 := 10) rfl (fun (q7 : ¬ i.toInt32 < (cs.length.toInt32)) => ?_) (fun (q7 : ¬ (¬ i.toInt32 < (cs.length.toInt32))) => ?_)
    · have hi : ¬ i < cs.length := fun z => q7 ((lt32 hi31 hn31).mpr z)
      have hi' : i = cs.length := by omega
      subst hi'
      have AI' : Ar Z hI d kd .byte ((cs.map by8).map Value.int) := by have q := AI; rw [show (cs.map by8).take cs.length ++ List.replicate ((cs.map by8).length - cs.length) 0 = cs.map by8 by simp [List.take_of_length_le]] at q; exact q
      refine Go.iload (hb hby D_jdk_52_method_21_code_44) (pc' := 46) rfl rfl ?_
      refine Go.retI hret (hb hby D_jdk_52_method_21_code_46) (by decide) (by decide) ?_
      intro vmR CR
      exact ⟨(by first | rfl | (simp only [own_nar]; done) | (congr 2; done)), ((Keep.refl h [d]).trans KI (allS (by first | (left; simp; done) | (right; omega)) all0)), AI', (Safe.to CR (by omega) SI)⟩
    · refine Go.aloadN (hb hby D_jdk_52_method_21_code_10) (pc' := 11) rfl rfl rfl ?_
      refine Go.iloadN (hb hby D_jdk_52_method_21_code_11) (pc' := 12) rfl rfl ?_
      have f1 : Ar Z hI b kb .char (cs.map Value.int) := (e0.keep KI (ninS hne nin0))
      have hi : i < cs.length := (lt32 hi31 hn31).mp (Classical.not_not.mp q7)
      obtain ⟨cx, hc⟩ : ∃ cx, cs[i] = cx := ⟨_, rfl⟩
      have hcb := hcs cx (hc ▸ List.getElem_mem hi)
      refine Go.caload f1 (v := (.int cx)) (nneg32 hi31) (by rw [clamp_nat hi31]; simp [hi, hc]) (hb hby D_jdk_52_method_21_code_12) (pc' := 13) rfl ?_
      refine Go.istore (hb hby D_jdk_52_method_21_code_13) (pc' := 15) rfl (L' := #[.val (.ref b), .val (.int i.toInt32), .val (.ref d), .val (.int i.toInt32), .val (.int (cs.length.toInt32)), .val (.int i.toInt32), .val (.int cx)]) rfl ?_
      refine Go.iload (hb hby D_jdk_52_method_21_code_15) (pc' := 17) rfl rfl ?_
      refine Go.sipush (hb hby D_jdk_52_method_21_code_17) (pc' := 20) rfl (z := (255 : Int32)) rfl ?_
      refine Go.icmpY (hb hby D_jdk_52_method_21_code_20) (by decide) (pc' := 26) (by decide) (by show ¬ (255 : Int32) < cx; rw [Int32.lt_iff_toInt_lt]; have : (255 : Int32).toInt = 255 := rfl; omega) ?_
      refine Go.aloadN (hb hby D_jdk_52_method_21_code_26) (pc' := 27) rfl rfl rfl ?_
      refine Go.iloadN (hb hby D_jdk_52_method_21_code_27) (pc' := 28) rfl rfl ?_
      refine Go.iload (hb hby D_jdk_52_method_21_code_28) (pc' := 30) rfl rfl ?_
      refine Go.i2b (hb hby D_jdk_52_method_21_code_30) (pc' := 31) rfl ?_
      refine Go.bastore AI (nneg32 hi31) (by rw [clamp_nat hi31]; simp; omega) SI (by omega) (hb hby D_jdk_52_method_21_code_31) (pc' := 32) rfl ?_
      intro h2 A3 z4 K5 S6 C7
      have A3 : Ar Z h2 d kd .byte ((((cs.map by8).take i ++ List.replicate ((cs.map by8).length - i) 0).map Value.int).set i.toInt32.toNatClampNeg (.int (nar .byte cx.toInt8.toInt32))) := A3
      refine Go.iinc (hb hby D_jdk_52_method_21_code_32) (pc' := 35) rfl rfl (L' := #[.val (.ref b), .val (.int (i.toInt32 + 1)), .val (.ref d), .val (.int i.toInt32), .val (.int (cs.length.toInt32)), .val (.int i.toInt32), .val (.int cx)]) rfl ?_
      refine Go.iinc (hb hby D_jdk_52_method_21_code_35) (pc' := 38) rfl rfl (L' := #[.val (.ref b), .val (.int (i.toInt32 + 1)), .val (.ref d), .val (.int (i.toInt32 + 1)), .val (.int (cs.length.toInt32)), .val (.int i.toInt32), .val (.int cx)]) rfl ?_
      refine Go.iinc (hb hby D_jdk_52_method_21_code_38) (pc' := 41) rfl rfl (L' := #[.val (.ref b), .val (.int (i.toInt32 + 1)), .val (.ref d), .val (.int (i.toInt32 + 1)), .val (.int (cs.length.toInt32)), .val (.int (i.toInt32 + 1)), .val (.int cx)]) rfl ?_
      refine Go.goto (hb hby D_jdk_52_method_21_code_41) (by decide) (pc' := 3) (by decide) ?_
      have hset := fill_set (cs.map by8) 0 i (by simpa using hi)
      rw [succ32 i]
      refine ih (r - 1) _ _ _ _ _ (by omega) ⟨rfl, rfl, rfl, i + 1, _, by omega, Or.inr ⟨_, rfl⟩, rfl, Keep.tr KI K5, ?_, S6⟩
      rw [nar_by8, clamp_nat hi31] at A3
      have e2 : (cs.map by8)[i]'(by simpa using hi) = by8 cx := by simp [hc]
      rw [← hset, e2, List.map_set]; exact A3
  · refine Go.iload (hb hby D_jdk_52_method_21_code_3) (pc' := 5) rfl rfl ?_
    refine Go.iload (hb hby D_jdk_52_method_21_code_5) (pc' := 7) rfl rfl ?_
    refine Go.icmp (hb hby D_jdk_52_method_21_code_7) (by decide) (pc' := 44) (by decide) (pc2 := 10) rfl (fun (q7 : ¬ i.toInt32 < (cs.length.toInt32)) => ?_) (fun (q7 : ¬ (¬ i.toInt32 < (cs.length.toInt32))) => ?_)
    · have hi : ¬ i < cs.length := fun z => q7 ((lt32 hi31 hn31).mpr z)
      have hi' : i = cs.length := by omega
      subst hi'
      have AI' : Ar Z hI d kd .byte ((cs.map by8).map Value.int) := by have q := AI; rw [show (cs.map by8).take cs.length ++ List.replicate ((cs.map by8).length - cs.length) 0 = cs.map by8 by simp [List.take_of_length_le]] at q; exact q
      refine Go.iload (hb hby D_jdk_52_method_21_code_44) (pc' := 46) rfl rfl ?_
      refine Go.retI hret (hb hby D_jdk_52_method_21_code_46) (by decide) (by decide) ?_
      intro vmR CR
      exact ⟨(by first | rfl | (simp only [own_nar]; done) | (congr 2; done)), ((Keep.refl h [d]).trans KI (allS (by first | (left; simp; done) | (right; omega)) all0)), AI', (Safe.to CR (by omega) SI)⟩
    · refine Go.aloadN (hb hby D_jdk_52_method_21_code_10) (pc' := 11) rfl rfl rfl ?_
      refine Go.iloadN (hb hby D_jdk_52_method_21_code_11) (pc' := 12) rfl rfl ?_
      have f8 : Ar Z hI b kb .char (cs.map Value.int) := (e0.keep KI (ninS hne nin0))
      have hi : i < cs.length := (lt32 hi31 hn31).mp (Classical.not_not.mp q7)
      obtain ⟨cx, hc⟩ : ∃ cx, cs[i] = cx := ⟨_, rfl⟩
      have hcb := hcs cx (hc ▸ List.getElem_mem hi)
      refine Go.caload f8 (v := (.int cx)) (nneg32 hi31) (by rw [clamp_nat hi31]; simp [hi, hc]) (hb hby D_jdk_52_method_21_code_12) (pc' := 13) rfl ?_
      refine Go.istore (hb hby D_jdk_52_method_21_code_13) (pc' := 15) rfl (L' := #[.val (.ref b), .val (.int i.toInt32), .val (.ref d), .val (.int i.toInt32), .val (.int (cs.length.toInt32)), .val (.int i.toInt32), .val (.int cx)]) rfl ?_
      refine Go.iload (hb hby D_jdk_52_method_21_code_15) (pc' := 17) rfl rfl ?_
      refine Go.sipush (hb hby D_jdk_52_method_21_code_17) (pc' := 20) rfl (z := (255 : Int32)) rfl ?_
      refine Go.icmpY (hb hby D_jdk_52_method_21_code_20) (by decide) (pc' := 26) (by decide) (by show ¬ (255 : Int32) < cx; rw [Int32.lt_iff_toInt_lt]; have : (255 : Int32).toInt = 255 := rfl; omega) ?_
      refine Go.aloadN (hb hby D_jdk_52_method_21_code_26) (pc' := 27) rfl rfl rfl ?_
      refine Go.iloadN (hb hby D_jdk_52_method_21_code_27) (pc' := 28) rfl rfl ?_
      refine Go.iload (hb hby D_jdk_52_method_21_code_28) (pc' := 30) rfl rfl ?_
      refine Go.i2b (hb hby D_jdk_52_method_21_code_30) (pc' := 31) rfl ?_
      refine Go.bastore AI (nneg32 hi31) (by rw [clamp_nat hi31]; simp; omega) SI (by omega) (hb hby D_jdk_52_method_21_code_31) (pc' := 32) rfl ?_
      intro h9 A10 z11 K12 S13 C14
      have A10 : Ar Z h9 d kd .byte ((((cs.map by8).take i ++ List.replicate ((cs.map by8).length - i) 0).map Value.int).set i.toInt32.toNatClampNeg (.int (nar .byte cx.toInt8.toInt32))) := A10
      refine Go.iinc (hb hby D_jdk_52_method_21_code_32) (pc' := 35) rfl rfl (L' := #[.val (.ref b), .val (.int (i.toInt32 + 1)), .val (.ref d), .val (.int i.toInt32), .val (.int (cs.length.toInt32)), .val (.int i.toInt32), .val (.int cx)]) rfl ?_
      refine Go.iinc (hb hby D_jdk_52_method_21_code_35) (pc' := 38) rfl rfl (L' := #[.val (.ref b), .val (.int (i.toInt32 + 1)), .val (.ref d), .val (.int (i.toInt32 + 1)), .val (.int (cs.length.toInt32)), .val (.int i.toInt32), .val (.int cx)]) rfl ?_
      refine Go.iinc (hb hby D_jdk_52_method_21_code_38) (pc' := 41) rfl rfl (L' := #[.val (.ref b), .val (.int (i.toInt32 + 1)), .val (.ref d), .val (.int (i.toInt32 + 1)), .val (.int (cs.length.toInt32)), .val (.int (i.toInt32 + 1)), .val (.int cx)]) rfl ?_
      refine Go.goto (hb hby D_jdk_52_method_21_code_41) (by decide) (pc' := 3) (by decide) ?_
      have hset := fill_set (cs.map by8) 0 i (by simpa using hi)
      rw [succ32 i]
      refine ih (r - 1) _ _ _ _ _ (by omega) ⟨rfl, rfl, rfl, i + 1, _, by omega, Or.inr ⟨_, rfl⟩, rfl, Keep.tr KI K12, ?_, S13⟩
      rw [nar_by8, clamp_nat hi31] at A10
      have e2 : (cs.map by8)[i]'(by simpa using hi) = by8 cx := by simp [hc]
      rw [← hset, e2, List.map_set]; exact A10
set_option maxRecDepth 65536 in
set_option maxHeartbeats 40000000 in
theorem c_compress3 {l : Launch} {Z : State} {a0 : Array Value} {EL : List (String × Nat)} {nw fk : Prop} {zc : Int32} {sf : Value} (g : GH Z a0 EL zc sf) (h : Heap) (b : Addr) (kb : ClassId) (cs : List Int32) (hcs : ∀ c ∈ cs, 0 ≤ c.toInt ∧ c.toInt ≤ 255) (hl : cs.length ≤ 4) (e0 : Ar Z h b kb .char (cs.map Value.int)) (zz : Z.heap.size ≤ h.size) :
    Ct l Z EL nw fk [] ⟨"java/lang/StringUTF16", "compress", "([CII)[B"⟩ jdk_52_method_16_code 6 (some (.array .byte)) ({ frames := 1, cells := 1, slots := 4, locals := 18 } : Room) #[(.ref b), (.int (0 : Int32)), (.int (cs.length.toInt32))] h [] (fun res vm' h' => ∃ d : Addr, ∃ kd : ClassId, res = some (.ref d) ∧ Keep h h' [] ∧ h.size ≤ d ∧ Ar Z h' d kd .byte ((cs.map by8).map Value.int) ∧ Safe Z EL vm' h' d) := by
  have ye0 := ltN e0.lt
  refine Ct.of_go (a0 := a0) g.2.1 (plainFor_of_name pn_0) (L0 := #[.val (.ref b), .val (.int (0 : Int32)), .val (.int (cs.length.toInt32)), .unset, .unset, .unset]) (fun m => by first | (simp [entryFrame, mkF, argsToLocals, Value.category, own_rep]; done) | rfl) ?_
  intro p e s m below meth c hown hby hml hret hnm hZ hC hO hsf
  refine Go.iloadN (hb hby D_jdk_52_method_16_code_0) (pc' := 1) rfl rfl ?_
  refine Go.newP (ty := .byte) rfl (wd_24 g) (hb hby D_jdk_52_method_16_code_1) (pc' := 3) rfl (nneg32 (by omega)) (cap := 4) (by rw [clamp_nat (by omega)]; exact hl) (by decide) (by decide) (by decide) ?_
  intro h1 a2 k3 g4 l5 E6 A7 S8 C9
  have KE6 := Keep.ofExt E6; have zE6 := E6.1
  have A7 : Ar Z h1 a2 k3 .byte (List.replicate (cs.length.toInt32).toNatClampNeg (.int 0)) := A7
  have A10 : Ar Z h1 a2 k3 .byte ((List.replicate cs.length (0 : Int32)).map Value.int) := by rw [clamp_nat (by omega)] at A7; rw [List.map_replicate]; exact A7
  refine Go.astoreN (hb hby D_jdk_52_method_16_code_3) (pc' := 4) rfl rfl (L' := #[.val (.ref b), .val (.int (0 : Int32)), .val (.int (cs.length.toInt32)), .val (.ref a2), .unset, .unset]) rfl ?_
  refine Go.aloadN (hb hby D_jdk_52_method_16_code_4) (pc' := 5) rfl rfl rfl ?_
  refine Go.iloadN (hb hby D_jdk_52_method_16_code_5) (pc' := 6) rfl rfl ?_
  refine Go.aloadN (hb hby D_jdk_52_method_16_code_6) (pc' := 7) rfl rfl rfl ?_
  refine Go.iconst (hb hby D_jdk_52_method_16_code_7) (pc' := 8) rfl (z := (0 : Int32)) rfl ?_
  refine Go.iloadN (hb hby D_jdk_52_method_16_code_8) (pc' := 9) rfl rfl ?_
  have f11 : Ar Z h1 b kb .char (cs.map Value.int) := (e0.keep KE6 nin0)
  refine Go.callS (c_compress5 (l := l) (nw := nw) (fk := fk) g h1 b kb cs a2 k3 hcs (by omega) (neN (by omega)) (by omega) f11 A10 (by omega)) hown (wd_25 g) (wd_26 g) (wd_27 g) (wd_22 g) (by decide) (argsL := [(.ref b), (.int (0 : Int32)), (.ref a2), (.int (0 : Int32)), (.int (cs.length.toInt32))]) (lenOf pd_0 rfl) rfl (by rw [hml]; rfl) (W := 0) rfl (hb hby D_jdk_52_method_16_code_9) (pc' := 12) rfl (by decide) (by decide) (by decide) (by decide) (allS ⟨by omega, S8⟩ all0) ?_
  rintro _ vm12 h12 ⟨rfl, K12, o12_0, o12_1⟩ C12
  have z12 := K12.1
  have yo12_0 := ltN o12_0.lt
  -- pc 12
  refine Go.istore (hb hby D_jdk_52_method_16_code_12) (pc' := 14) rfl (L' := #[.val (.ref b), .val (.int (0 : Int32)), .val (.int (cs.length.toInt32)), .val (.ref a2), .val (.int (cs.length.toInt32)), .unset]) rfl ?_
  refine Go.iload (hb hby D_jdk_52_method_16_code_14) (pc' := 16) rfl rfl ?_
  refine Go.iloadN (hb hby D_jdk_52_method_16_code_16) (pc' := 17) rfl rfl ?_
  refine Go.icmpY (hb hby D_jdk_52_method_16_code_17) (by decide) (pc' := 57) (by decide) rfl ?_
  refine Go.aloadN (hb hby D_jdk_52_method_16_code_57) (pc' := 58) rfl rfl rfl ?_
  refine Go.retA hret rfl rfl (hb hby D_jdk_52_method_16_code_58) (by decide) (by decide) ?_
  intro vmR CR
  exact ⟨a2, k3, (by first | rfl | (simp only [own_nar]; done) | (congr 2; done)), (((Keep.refl h []).trans KE6 all0).trans K12 (allS (by first | (left; simp; done) | (right; omega)) all0)), (by omega), o12_0, (Safe.to CR (by omega) o12_1)⟩
set_option maxRecDepth 65536 in
set_option maxHeartbeats 40000000 in
theorem c_coderOf {l : Launch} {Z : State} {a0 : Array Value} {EL : List (String × Nat)} {nw fk : Prop} {zc : Int32} {sf : Value} (g : GH Z a0 EL zc sf) (h : Heap) (d : Addr) (kd : ClassId) (bs : List Int32) (z : Int32) (hz : bs.length.toInt32 = z) (e0 : Ar Z h d kd .byte (bs.map Value.int)) (zz : Z.heap.size ≤ h.size) :
    Ct l Z EL nw fk [] ⟨"java/lang/StringUTF16", "coderFromArrayLen", "([BI)B"⟩ jdk_52_method_15_code 2 (some .byte) ({ frames := 0, cells := 0, slots := 0, locals := 0 } : Room) #[(.ref d), (.int z)] h [] (fun res vm' h' => res = some (.int (0 : Int32)) ∧ Keep h h' []) := by
  have ye0 := ltN e0.lt
  refine Ct.of_go (a0 := a0) g.2.1 (plainFor_of_name pn_0) (L0 := #[.val (.ref d), .val (.int z)]) (fun m => by first | (simp [entryFrame, mkF, argsToLocals, Value.category, own_rep]; done) | rfl) ?_
  intro p e s m below meth c hown hby hml hret hnm hZ hC hO hsf
  refine Go.iloadN (hb hby D_jdk_52_method_15_code_0) (pc' := 1) rfl rfl ?_
  refine Go.aloadN (hb hby D_jdk_52_method_15_code_1) (pc' := 2) rfl rfl rfl ?_
  refine Go.alen e0 (z := (bs.length.toInt32)) (by rw [List.length_map]) (hb hby D_jdk_52_method_15_code_2) (pc' := 3) rfl ?_
  refine Go.isub (hb hby D_jdk_52_method_15_code_3) (pc' := 4) rfl ?_
  refine Go.bipush (hb hby D_jdk_52_method_15_code_4) (pc' := 6) rfl (z := (31 : Int32)) rfl ?_
  refine Go.iushr (hb hby D_jdk_52_method_15_code_6) (pc' := 7) rfl ?_
  refine Go.i2b (hb hby D_jdk_52_method_15_code_7) (pc' := 8) rfl ?_
  refine Go.retN (t := .byte) hret (by simp) (hb hby D_jdk_52_method_15_code_8) (by decide) (by decide) ?_
  intro vmR CR
  exact ⟨(by rw [hz, sub0]; rfl), (Keep.refl h [])⟩
set_option maxRecDepth 65536 in
set_option maxHeartbeats 40000000 in
theorem c_strinit4 {l : Launch} {Z : State} {a0 : Array Value} {EL : List (String × Nat)} {nw fk : Prop} {zc : Int32} {sf : Value} (g : GH Z a0 EL zc sf) (h : Heap) (a : Addr) (b : Addr) (kb : ClassId) (cs : List Int32) (hcs : ∀ c ∈ cs, 0 ≤ c.toInt ∧ c.toInt ≤ 255) (h0 : 0 < cs.length) (hl : cs.length ≤ 4) (ga : Z.heap.size ≤ a) (e0 : Exa Z h a "java/lang/String") (e1 : Fld Z h a "java/lang/String" "coder" "B" (.int 0)) (e2 : Fld Z h a "java/lang/String" "value" "[B" .null) (e3 : Ar Z h b kb .char (cs.map Value.int)) (zz : Z.heap.size ≤ h.size) :
    Ct l Z EL nw fk [] ⟨"java/lang/String", "<init>", "([CIILjava/lang/Void;)V"⟩ jdk_42_method_149_code 6 none ({ frames := 2, cells := 1, slots := 4, locals := 35 } : Room) #[(.ref a), (.ref b), (.int (0 : Int32)), (.int (cs.length.toInt32)), .null] h [a] (fun res vm' h' => ∃ d : Addr, ∃ kd : ClassId, res = none ∧ Keep h h' [a] ∧ h.size ≤ d ∧ St Z h' a d kd (cs.map by8)) := by
  have ye0 := ltN e0.lt
  have ye1 := ltN e1.lt
  have ye2 := ltN e2.lt
  have ye3 := ltN e3.lt
  refine Ct.of_go (a0 := a0) g.2.1 (plainFor_of_name pn_1) (L0 := #[.val (.ref a), .val (.ref b), .val (.int (0 : Int32)), .val (.int (cs.length.toInt32)), .val .null, .unset]) (fun m => by first | (simp [entryFrame, mkF, argsToLocals, Value.category, own_rep]; done) | rfl) ?_
  intro p e s m below meth c hown hby hml hret hnm hZ hC hO hsf
  refine Go.aloadN (hb hby D_jdk_42_method_149_code_0) (pc' := 1) rfl rfl rfl ?_
  refine Go.initO hown (wd_16 g) (wd_17 g) (wd_18 g) (by rw [hml]; rfl) (hb hby D_jdk_42_method_149_code_1) (by decide) (W := 0) rfl (by decide) (pc' := 4) rfl ?_
  refine Go.iloadN (hb hby D_jdk_42_method_149_code_4) (pc' := 5) rfl rfl ?_
  refine Go.ifY (hb hby D_jdk_42_method_149_code_5) (by decide) (pc' := 27) (by decide) (nz32 (by omega) h0) ?_
  refine Go.getS hown (wd_19 g) Via.refl g.2.2.2.2.1 (hb hby D_jdk_42_method_149_code_27) (pc' := 30) rfl ?_
  refine Go.ifN (hb hby D_jdk_42_method_149_code_30) (pc' := 33) rfl g.2.2.2.2.2.1 ?_
  refine Go.aloadN (hb hby D_jdk_42_method_149_code_33) (pc' := 34) rfl rfl rfl ?_
  refine Go.iloadN (hb hby D_jdk_42_method_149_code_34) (pc' := 35) rfl rfl ?_
  refine Go.iloadN (hb hby D_jdk_42_method_149_code_35) (pc' := 36) rfl rfl ?_
  refine Go.callS (c_compress3 (l := l) (nw := nw) (fk := fk) g h b kb cs hcs hl e3 (by omega)) hown (wd_20 g) (wd_21 g) (wd_23 g) (wd_22 g) (by decide) (argsL := [(.ref b), (.int (0 : Int32)), (.int (cs.length.toInt32))]) (lenOf pd_1 rfl) rfl (by rw [hml]; rfl) (W := 0) rfl (hb hby D_jdk_42_method_149_code_36) (pc' := 39) rfl (by decide) (by decide) (by decide) (by decide) all0 ?_
  rintro _ vm1 h1 ⟨d_1, kd_1, rfl, K1, p1_0, o1_0, o1_1⟩ C1
  have z1 := K1.1
  have yo1_0 := ltN o1_0.lt
  -- pc 39
  refine Go.astore (hb hby D_jdk_42_method_149_code_39) (pc' := 41) rfl rfl (L' := #[.val (.ref a), .val (.ref b), .val (.int (0 : Int32)), .val (.int (cs.length.toInt32)), .val .null, .val (.ref d_1)]) rfl ?_
  refine Go.aloadN (hb hby D_jdk_42_method_149_code_41) (pc' := 42) rfl rfl rfl ?_
  refine Go.aload (hb hby D_jdk_42_method_149_code_42) (pc' := 44) rfl rfl rfl ?_
  refine Go.iloadN (hb hby D_jdk_42_method_149_code_44) (pc' := 45) rfl rfl ?_
  refine Go.callS (c_coderOf (l := l) (nw := nw) (fk := fk) g h1 d_1 kd_1 (cs.map by8) (cs.length.toInt32) (by rw [List.length_map]) o1_0 (by omega)) hown (wd_28 g) (wd_29 g) (wd_30 g) (wd_22 g) (by decide) (argsL := [(.ref d_1), (.int (cs.length.toInt32))]) (lenOf pd_2 rfl) rfl (by rw [hml]; rfl) (W := 1) rfl (hb hby D_jdk_42_method_149_code_45) (pc' := 48) rfl (by decide) (by decide) (by decide) (by decide) all0 ?_
  rintro _ vm2 h2 ⟨rfl, K2⟩ C2
  have z2 := K2.1
  -- pc 48
  have f3 : Fld Z h2 a "java/lang/String" "coder" "B" (.int 0) := ((e1.keep K1 nin0).keep K2 nin0)
  have f4 : Exa Z h2 a "java/lang/String" := ((e0.keep K1).keep K2)
  have f5 : Safe Z EL vm2 h2 a := (Safe.to C2 (by omega) (Safe.to C1 (by omega) (hsf _ (by simp))))
  refine Go.putF hown (wd_31 g) Via.refl f3 f4 (Or.inr ⟨(wd_32 g), rfl, hnm⟩) (wd_6 g) (ty := .byte) (by decide) (v' := (.int (0 : Int32))) rfl (by first | rfl | exact fits_nar_byte _ ) (Or.inr f5) (by omega) (hb hby D_jdk_42_method_149_code_48) (pc' := 51) rfl ?_
  intro h6 W7 z9 K8 C10
  have f11 : Fld Z h2 a "java/lang/String" "value" "[B" .null := ((e2.keep K1 nin0).keep K2 nin0)
  have f12 : Fld Z h6 a "java/lang/String" "coder" "B" (.int (0 : Int32)) := (Fld.same W7 f3)
  have f13 : Fld Z h6 a "java/lang/String" "value" "[B" .null := (Fld.other W7 f11 (Or.inr (slot_ne (Or.inr (wd_34 g)) (Or.inr (wd_32 g)) (by decide) (t := (.array .byte)) (t' := .byte) (by decide) (by decide))))
  refine Go.aloadN (hb hby D_jdk_42_method_149_code_51) (pc' := 52) rfl rfl rfl ?_
  refine Go.aload (hb hby D_jdk_42_method_149_code_52) (pc' := 54) rfl rfl rfl ?_
  have f14 : Exa Z h6 a "java/lang/String" := (f4.keep K8)
  have f15 : Safe Z EL vm2 h6 a := (Safe.to C10 (by omega) f5)
  refine Go.putF hown (wd_33 g) Via.refl f13 f14 (Or.inr ⟨(wd_34 g), rfl, hnm⟩) (wd_6 g) (ty := (.array .byte)) (by decide) rfl rfl (Or.inr f15) (by omega) (hb hby D_jdk_42_method_149_code_54) (pc' := 57) rfl ?_
  intro h16 W17 z19 K18 C20
  have f21 : Fld Z h16 a "java/lang/String" "coder" "B" (.int (0 : Int32)) := (Fld.other W17 f12 (Or.inr (slot_ne (Or.inr (wd_32 g)) (Or.inr (wd_34 g)) (by decide) (t := .byte) (t' := (.array .byte)) (by decide) (by decide))))
  have f22 : Fld Z h16 a "java/lang/String" "value" "[B" (.ref d_1) := (Fld.same W17 f13)
  have f24 : Exa Z h16 a "java/lang/String" := (f14.keep K18)
  have f25 : Ar Z h16 d_1 kd_1 .byte ((cs.map by8).map Value.int) := (((o1_0.keep K2 nin0).keep K8 (ninS (Ne.symm (Ar.ne_exa (o1_0.keep K2 nin0) ((e0.keep K1).keep K2) (wd_6 g))) nin0)).keep K18 (ninS (Ne.symm (Ar.ne_exa ((o1_0.keep K2 nin0).keep K8 (ninS (Ne.symm (Ar.ne_exa (o1_0.keep K2 nin0) ((e0.keep K1).keep K2) (wd_6 g))) nin0)) (((e0.keep K1).keep K2).keep K8) (wd_6 g))) nin0))
  have f23 : St Z h16 a d_1 kd_1 (cs.map by8) := ⟨f24, f21, f22, f25, by rw [List.length_map]; omega⟩
  refine Go.ret hret (hb hby D_jdk_42_method_149_code_57) (by decide) (by decide) ?_
  intro vmR CR
  exact ⟨d_1, kd_1, rfl, (((((Keep.refl h [a]).trans K1 all0).trans K2 all0).trans K8 (allS (by first | (left; simp; done) | (right; omega)) all0)).trans K18 (allS (by first | (left; simp; done) | (right; omega)) all0)), (by omega), f23⟩
set_option maxRecDepth 65536 in
set_option maxHeartbeats 40000000 in
theorem c_strinit {l : Launch} {Z : State} {a0 : Array Value} {EL : List (String × Nat)} {nw fk : Prop} {zc : Int32} {sf : Value} (g : GH Z a0 EL zc sf) (h : Heap) (a : Addr) (b : Addr) (kb : ClassId) (cs : List Int32) (hcs : ∀ c ∈ cs, 0 ≤ c.toInt ∧ c.toInt ≤ 255) (h0 : 0 < cs.length) (hl : cs.length ≤ 4) (ga : Z.heap.size ≤ a) (e0 : Exa Z h a "java/lang/String") (e1 : Fld Z h a "java/lang/String" "coder" "B" (.int 0)) (e2 : Fld Z h a "java/lang/String" "value" "[B" .null) (e3 : Ar Z h b kb .char (cs.map Value.int)) (zz : Z.heap.size ≤ h.size) :
    Ct l Z EL nw fk [] ⟨"java/lang/String", "<init>", "([C)V"⟩ jdk_42_method_3_code 2 none ({ frames := 3, cells := 1, slots := 4, locals := 52 } : Room) #[(.ref a), (.ref b)] h [a] (fun res vm' h' => ∃ d : Addr, ∃ kd : ClassId, res = none ∧ Keep h h' [a] ∧ h.size ≤ d ∧ St Z h' a d kd (cs.map by8)) := by
  have ye0 := ltN e0.lt
  have ye1 := ltN e1.lt
  have ye2 := ltN e2.lt
  have ye3 := ltN e3.lt
  refine Ct.of_go (a0 := a0) g.2.1 (plainFor_of_name pn_1) (L0 := #[.val (.ref a), .val (.ref b)]) (fun m => by first | (simp [entryFrame, mkF, argsToLocals, Value.category, own_rep]; done) | rfl) ?_
  intro p e s m below meth c hown hby hml hret hnm hZ hC hO hsf
  refine Go.aloadN (hb hby D_jdk_42_method_3_code_0) (pc' := 1) rfl rfl rfl ?_
  refine Go.aloadN (hb hby D_jdk_42_method_3_code_1) (pc' := 2) rfl rfl rfl ?_
  refine Go.iconst (hb hby D_jdk_42_method_3_code_2) (pc' := 3) rfl (z := (0 : Int32)) rfl ?_
  refine Go.aloadN (hb hby D_jdk_42_method_3_code_3) (pc' := 4) rfl rfl rfl ?_
  refine Go.alen e3 (z := (cs.length.toInt32)) (by rw [List.length_map]) (hb hby D_jdk_42_method_3_code_4) (pc' := 5) rfl ?_
  refine Go.aconstNull (hb hby D_jdk_42_method_3_code_5) (pc' := 6) rfl ?_
  refine Go.callC (c_strinit4 (l := l) (nw := nw) (fk := fk) g h a b kb cs hcs h0 hl ga e0 e1 e2 e3 (by omega)) hown rfl rfl (wd_12 g) (wd_13 g) (wd_15 g) (wd_7 g) (by decide) (argsL := [(.ref b), (.int (0 : Int32)), (.int (cs.length.toInt32)), .null]) (lenOf pd_3 rfl) rfl (by rw [hml]; rfl) (W := 0) rfl (hb hby D_jdk_42_method_3_code_6) (pc' := 9) rfl (by decide) (by decide) (by decide) (by decide) (allS ⟨by omega, (hsf _ (by simp))⟩ all0) ?_
  rintro _ vm1 h1 ⟨d_1, kd_1, rfl, K1, p1_0, o1_0⟩ C1
  have z1 := K1.1
  have yo1_0 := ltN o1_0.lt; have yo1_0' := ltN o1_0.ltb
  -- pc 9
  refine Go.ret hret (hb hby D_jdk_42_method_3_code_9) (by decide) (by decide) ?_
  intro vmR CR
  exact ⟨d_1, kd_1, rfl, ((Keep.refl h [a]).trans K1 (allS (by first | (left; simp; done) | (right; omega)) all0)), (by omega), o1_0⟩
set_option maxRecDepth 65536 in
set_option maxHeartbeats 40000000 in
theorem c_l1eq {l : Launch} {Z : State} {a0 : Array Value} {EL : List (String × Nat)} {nw fk : Prop} {zc : Int32} {sf : Value} (g : GH Z a0 EL zc sf) (h : Heap) (a : Addr) (ka : ClassId) (bs : List Int32) (b : Addr) (kb : ClassId) (cs : List Int32) (hl1 : bs.length < 536870912) (hl2 : cs.length < 536870912) (e0 : Ar Z h a ka .byte (bs.map Value.int)) (e1 : Ar Z h b kb .byte (cs.map Value.int)) (zz : Z.heap.size ≤ h.size) :
    Ct l Z EL nw fk [] ⟨"java/lang/StringLatin1", "equals", "([B[B)Z"⟩ jdk_43_method_13_code 3 (some .boolean) ({ frames := 0, cells := 0, slots := 0, locals := 0 } : Room) #[(.ref a), (.ref b)] h [] (fun res vm' h' => res = some (.int (bo (bs = cs))) ∧ Keep h h' []) := by
  have ye0 := ltN e0.lt
  have ye1 := ltN e1.lt
  refine Ct.of_go (a0 := a0) g.2.1 (plainFor_of_name pn_2) (L0 := #[.val (.ref a), .val (.ref b), .unset]) (fun m => by first | (simp [entryFrame, mkF, argsToLocals, Value.category, own_rep]; done) | rfl) ?_
  intro p e s m below meth c hown hby hml hret hnm hZ hC hO hsf
  refine Go.aloadN (hb hby D_jdk_43_method_13_code_0) (pc' := 1) rfl rfl rfl ?_
  refine Go.alen e0 (z := (bs.length.toInt32)) (by rw [List.length_map]) (hb hby D_jdk_43_method_13_code_1) (pc' := 2) rfl ?_
  refine Go.aloadN (hb hby D_jdk_43_method_13_code_2) (pc' := 3) rfl rfl rfl ?_
  refine Go.alen e1 (z := (cs.length.toInt32)) (by rw [List.length_map]) (hb hby D_jdk_43_method_13_code_3) (pc' := 4) rfl ?_
  refine Go.icmp (hb hby D_jdk_43_method_13_code_4) (by decide) (pc' := 34) (by decide) (pc2 := 7) rfl (fun (q4 : ¬ (bs.length.toInt32) = (cs.length.toInt32)) => ?_) (fun (q4 : ¬ (¬ (bs.length.toInt32) = (cs.length.toInt32))) => ?_)
  · refine Go.iconst (hb hby D_jdk_43_method_13_code_34) (pc' := 35) rfl (z := (0 : Int32)) rfl ?_
    refine Go.retN (t := .boolean) hret (by simp) (hb hby D_jdk_43_method_13_code_35) (by decide) (by decide) ?_
    intro vmR CR
    exact ⟨(by rw [bo_no (fun z => q4 (by rw [z]))]; rfl), (Keep.refl h [])⟩
  · refine Go.iconst (hb hby D_jdk_43_method_13_code_7) (pc' := 8) rfl (z := (0 : Int32)) rfl ?_
    refine Go.istoreN (hb hby D_jdk_43_method_13_code_8) (pc' := 9) rfl (L' := #[.val (.ref a), .val (.ref b), .val (.int (0 : Int32))]) rfl ?_
    have hlen : bs.length = cs.length := (eq32 (by omega) (by omega)).mp (Classical.not_not.mp q4)
    refine Go.loop (Inv := fun r vmI hI kI nI LI => vmI = s.vm ∧ h = hI ∧ kI = 0 ∧ nI = 0 ∧ ∃ (i : Nat), i + r = bs.length ∧ LI = #[.val (.ref a), .val (.ref b), .val (.int i.toInt32)] ∧ ∀ j, j < i → bs[j]? = cs[j]?) ?_ bs.length _ _ _ _ _ ⟨rfl, rfl, rfl, rfl, 0, Nat.zero_add _, rfl, fun j hj => absurd hj (Nat.not_lt_zero _)⟩
    rintro r vmI hI kI nI LI ⟨rfl, rfl, rfl, rfl, i, hir, rfl, hsame⟩ ih
    have hi31 : i < 2 ^ 31 := by omega
    have hn31 : bs.length < 2 ^ 31 := by omega
    refine Go.iloadN (hb hby D_jdk_43_method_13_code_9) (pc' := 10) rfl rfl ?_
    refine Go.aloadN (hb hby D_jdk_43_method_13_code_10) (pc' := 11) rfl rfl rfl ?_
    refine Go.alen e0 (z := (bs.length.toInt32)) (by rw [List.length_map]) (hb hby D_jdk_43_method_13_code_11) (pc' := 12) rfl ?_
    refine Go.icmp (hb hby D_jdk_43_method_13_code_12) (by decide) (pc' := 32) (by decide) (pc2 := 15) rfl (fun (q12 : ¬ i.toInt32 < (bs.length.toInt32)) => ?_) (fun (q12 : ¬ (¬ i.toInt32 < (bs.length.toInt32))) => ?_)
    · refine Go.iconst (hb hby D_jdk_43_method_13_code_32) (pc' := 33) rfl (z := (1 : Int32)) rfl ?_
      refine Go.retN (t := .boolean) hret (by simp) (hb hby D_jdk_43_method_13_code_33) (by decide) (by decide) ?_
      intro vmR CR
      exact ⟨(by rw [bo_yes (List.ext_getElem? fun j => by by_cases hj : j < i; exact hsame j hj; have : ¬ i < bs.length := fun z => q12 ((lt32 hi31 hn31).mpr z); rw [List.getElem?_eq_none (by omega), List.getElem?_eq_none (by omega)])]; rfl), (Keep.refl h [])⟩
    · refine Go.aloadN (hb hby D_jdk_43_method_13_code_15) (pc' := 16) rfl rfl rfl ?_
      refine Go.iloadN (hb hby D_jdk_43_method_13_code_16) (pc' := 17) rfl rfl ?_
      have hi : i < bs.length := (lt32 hi31 hn31).mp (Classical.not_not.mp q12)
      obtain ⟨x, hx⟩ : ∃ x, bs[i] = x := ⟨_, rfl⟩
      obtain ⟨y, hy⟩ : ∃ y, cs[i]'(hlen ▸ hi) = y := ⟨_, rfl⟩
      refine Go.baload e0 (v := (.int x)) (nneg32 hi31) (by rw [clamp_nat hi31]; simp [hi, hx]) (hb hby D_jdk_43_method_13_code_17) (pc' := 18) rfl ?_
      refine Go.aloadN (hb hby D_jdk_43_method_13_code_18) (pc' := 19) rfl rfl rfl ?_
      refine Go.iloadN (hb hby D_jdk_43_method_13_code_19) (pc' := 20) rfl rfl ?_
      refine Go.baload e1 (v := (.int y)) (nneg32 hi31) (by rw [clamp_nat hi31]; simp [hlen ▸ hi, hy]) (hb hby D_jdk_43_method_13_code_20) (pc' := 21) rfl ?_
      refine Go.icmp (hb hby D_jdk_43_method_13_code_21) (by decide) (pc' := 26) (by decide) (pc2 := 24) rfl (fun (q21 : x = y) => ?_) (fun (q21 : ¬ (x = y)) => ?_)
      · refine Go.iinc (hb hby D_jdk_43_method_13_code_26) (pc' := 29) rfl rfl (L' := #[.val (.ref a), .val (.ref b), .val (.int (i.toInt32 + 1))]) rfl ?_
        refine Go.goto (hb hby D_jdk_43_method_13_code_29) (by decide) (pc' := 9) (by decide) ?_
        rw [succ32 i]
        refine ih (r - 1) _ _ _ _ _ (by omega) ⟨rfl, rfl, rfl, rfl, i + 1, by omega, rfl, fun j hj => ?_⟩
        rcases Nat.lt_succ_iff_lt_or_eq.mp hj with hj | rfl
        · exact hsame j hj
        · rw [List.getElem?_eq_getElem hi, List.getElem?_eq_getElem (hlen ▸ hi), hx, hy, q21]
      · refine Go.iconst (hb hby D_jdk_43_method_13_code_24) (pc' := 25) rfl (z := (0 : Int32)) rfl ?_
        refine Go.retN (t := .boolean) hret (by simp) (hb hby D_jdk_43_method_13_code_25) (by decide) (by decide) ?_
        intro vmR CR
        exact ⟨(by rw [bo_no (fun z => q21 (by subst z; rw [← hx, ← hy]))]; rfl), (Keep.refl h [])⟩
set_option maxRecDepth 65536 in
set_option maxHeartbeats 40000000 in
theorem c_eq {l : Launch} {Z : State} {a0 : Array Value} {EL : List (String × Nat)} {nw fk : Prop} {zc : Int32} {sf : Value} (g : GH Z a0 EL zc sf) (h : Heap) (a : Addr) (d : Addr) (kd : ClassId) (bs : List Int32) (b : Addr) (f : Addr) (kf : ClassId) (cs : List Int32) (e0 : St Z h a d kd bs) (e1 : St Z h b f kf cs) (zz : Z.heap.size ≤ h.size) :
    Ct l Z EL nw fk [] ⟨"java/lang/String", "equals", "(Ljava/lang/Object;)Z"⟩ jdk_42_method_66_code 3 (some .boolean) ({ frames := 1, cells := 0, slots := 0, locals := 14 } : Room) #[(.ref a), (.ref b)] h [] (fun res vm' h' => res = some (.int (bo (bs = cs))) ∧ Keep h h' []) := by
  have ye0 := ltN e0.lt; have ye0' := ltN e0.ltb
  have ye1 := ltN e1.lt; have ye1' := ltN e1.ltb
  refine Ct.of_go (a0 := a0) g.2.1 (plainFor_of_name pn_1) (L0 := #[.val (.ref a), .val (.ref b), .unset]) (fun m => by first | (simp [entryFrame, mkF, argsToLocals, Value.category, own_rep]; done) | rfl) ?_
  intro p e s m below meth c hown hby hml hret hnm hZ hC hO hsf
  by_cases hab : a = b
  · subst hab
    refine Go.aloadN (hb hby D_jdk_42_method_66_code_0) (pc' := 1) rfl rfl rfl ?_
    refine Go.aloadN (hb hby D_jdk_42_method_66_code_1) (pc' := 2) rfl rfl rfl ?_
    refine Go.acmpN (hb hby D_jdk_42_method_66_code_2) (pc' := 5) rfl rfl rfl (by simp [XT.acmp]) ?_
    refine Go.iconst (hb hby D_jdk_42_method_66_code_5) (pc' := 6) rfl (z := (1 : Int32)) rfl ?_
    refine Go.retN (t := .boolean) hret (by simp) (hb hby D_jdk_42_method_66_code_6) (by decide) (by decide) ?_
    intro vmR CR
    exact ⟨(by rw [bo_yes (St.uniq e0 e1)]; rfl), (Keep.refl h [])⟩
  · refine Go.aloadN (hb hby D_jdk_42_method_66_code_0) (pc' := 1) rfl rfl rfl ?_
    refine Go.aloadN (hb hby D_jdk_42_method_66_code_1) (pc' := 2) rfl rfl rfl ?_
    refine Go.acmpY (hb hby D_jdk_42_method_66_code_2) (by decide) (pc' := 7) (by decide) rfl rfl (by simp [XT.acmp, hab]) ?_
    refine Go.aloadN (hb hby D_jdk_42_method_66_code_7) (pc' := 8) rfl rfl rfl ?_
    refine Go.instY hown (wd_182 g) (Ins.self e1.1) (hb hby D_jdk_42_method_66_code_8) (pc' := 11) rfl ?_
    refine Go.ifN (hb hby D_jdk_42_method_66_code_11) (pc' := 14) rfl (show ¬ ((1 : Int32) = (0 : Int32)) from by decide) ?_
    refine Go.aloadN (hb hby D_jdk_42_method_66_code_14) (pc' := 15) rfl rfl rfl ?_
    refine Go.castY hown (wd_182 g) (Ins.self e1.1) (hb hby D_jdk_42_method_66_code_15) (pc' := 18) rfl ?_
    refine Go.astoreN (hb hby D_jdk_42_method_66_code_18) (pc' := 19) rfl rfl (L' := #[.val (.ref a), .val (.ref b), .val (.ref b)]) rfl ?_
    refine Go.getS hown (wd_19 g) Via.refl g.2.2.2.2.1 (hb hby D_jdk_42_method_66_code_19) (pc' := 22) rfl ?_
    refine Go.ifN (hb hby D_jdk_42_method_66_code_22) (pc' := 25) rfl g.2.2.2.2.2.1 ?_
    refine Go.aloadN (hb hby D_jdk_42_method_66_code_25) (pc' := 26) rfl rfl rfl ?_
    refine Go.getF hown (wd_31 g) Via.refl e0.2.1 (hb hby D_jdk_42_method_66_code_26) (pc' := 29) rfl ?_
    refine Go.aloadN (hb hby D_jdk_42_method_66_code_29) (pc' := 30) rfl rfl rfl ?_
    refine Go.getF hown (wd_31 g) Via.refl e1.2.1 (hb hby D_jdk_42_method_66_code_30) (pc' := 33) rfl ?_
    refine Go.icmpN (hb hby D_jdk_42_method_66_code_33) (pc' := 36) rfl (fun q => q rfl) ?_
    refine Go.aloadN (hb hby D_jdk_42_method_66_code_36) (pc' := 37) rfl rfl rfl ?_
    refine Go.getF hown (wd_33 g) Via.refl e0.2.2.1 (hb hby D_jdk_42_method_66_code_37) (pc' := 40) rfl ?_
    refine Go.aloadN (hb hby D_jdk_42_method_66_code_40) (pc' := 41) rfl rfl rfl ?_
    refine Go.getF hown (wd_33 g) Via.refl e1.2.2.1 (hb hby D_jdk_42_method_66_code_41) (pc' := 44) rfl ?_
    refine Go.callS (c_l1eq (l := l) (nw := nw) (fk := fk) g h d kd bs f kf cs e0.2.2.2.2 e1.2.2.2.2 e0.2.2.2.1 e1.2.2.2.1 (by omega)) hown (wd_183 g) (wd_184 g) (wd_186 g) (wd_185 g) (by decide) (argsL := [(.ref d), (.ref f)]) (lenOf pd_4 rfl) rfl (by rw [hml]; rfl) (W := 0) rfl (hb hby D_jdk_42_method_66_code_44) (pc' := 47) rfl (by decide) (by decide) (by decide) (by decide) all0 ?_
    rintro _ vm1 h1 ⟨rfl, K1⟩ C1
    have z1 := K1.1
    -- pc 47
    refine Go.ifc (hb hby D_jdk_42_method_66_code_47) (by decide) (pc' := 54) (by decide) (pc2 := 50) rfl (fun (q47 : (bo (bs = cs)) = (0 : Int32)) => ?_) (fun (q47 : ¬ ((bo (bs = cs)) = (0 : Int32))) => ?_)
    · refine Go.iconst (hb hby D_jdk_42_method_66_code_54) (pc' := 55) rfl (z := (0 : Int32)) rfl ?_
      refine Go.retN (t := .boolean) hret (by simp) (hb hby D_jdk_42_method_66_code_55) (by decide) (by decide) ?_
      intro vmR CR
      exact ⟨(by first | (rw [bo_yes (bo_ne0.mp q47)]; rfl) | (rw [bo_no (fun z => (bo_ne0.mpr z) q47)]; rfl)), ((Keep.refl h []).trans K1 all0)⟩
    · refine Go.iconst (hb hby D_jdk_42_method_66_code_50) (pc' := 51) rfl (z := (1 : Int32)) rfl ?_
      refine Go.goto (hb hby D_jdk_42_method_66_code_51) (by decide) (pc' := 55) (by decide) ?_
      refine Go.retN (t := .boolean) hret (by simp) (hb hby D_jdk_42_method_66_code_55) (by decide) (by decide) ?_
      intro vmR CR
      exact ⟨(by first | (rw [bo_yes (bo_ne0.mp q47)]; rfl) | (rw [bo_no (fun z => (bo_ne0.mpr z) q47)]; rfl)), ((Keep.refl h []).trans K1 all0)⟩
set_option maxRecDepth 65536 in
set_option maxHeartbeats 40000000 in
theorem c_eqnull {l : Launch} {Z : State} {a0 : Array Value} {EL : List (String × Nat)} {nw fk : Prop} {zc : Int32} {sf : Value} (g : GH Z a0 EL zc sf) (h : Heap) (a : Addr) (zz : Z.heap.size ≤ h.size) :
    Ct l Z EL nw fk [] ⟨"java/lang/String", "equals", "(Ljava/lang/Object;)Z"⟩ jdk_42_method_66_code 3 (some .boolean) ({ frames := 0, cells := 0, slots := 0, locals := 0 } : Room) #[(.ref a), .null] h [] (fun res vm' h' => res = some (.int (0 : Int32)) ∧ Keep h h' []) := by
  refine Ct.of_go (a0 := a0) g.2.1 (plainFor_of_name pn_1) (L0 := #[.val (.ref a), .val .null, .unset]) (fun m => by first | (simp [entryFrame, mkF, argsToLocals, Value.category, own_rep]; done) | rfl) ?_
  intro p e s m below meth c hown hby hml hret hnm hZ hC hO hsf
  refine Go.aloadN (hb hby D_jdk_42_method_66_code_0) (pc' := 1) rfl rfl rfl ?_
  refine Go.aloadN (hb hby D_jdk_42_method_66_code_1) (pc' := 2) rfl rfl rfl ?_
  refine Go.acmpY (hb hby D_jdk_42_method_66_code_2) (by decide) (pc' := 7) (by decide) rfl rfl (by simp [XT.acmp]) ?_
  refine Go.aloadN (hb hby D_jdk_42_method_66_code_7) (pc' := 8) rfl rfl rfl ?_
  refine Go.instNull (hb hby D_jdk_42_method_66_code_8) (pc' := 11) rfl ?_
  refine Go.ifY (hb hby D_jdk_42_method_66_code_11) (by decide) (pc' := 54) (by decide) (show (0 : Int32) = (0 : Int32) from by decide) ?_
  refine Go.iconst (hb hby D_jdk_42_method_66_code_54) (pc' := 55) rfl (z := (0 : Int32)) rfl ?_
  refine Go.retN (t := .boolean) hret (by simp) (hb hby D_jdk_42_method_66_code_55) (by decide) (by decide) ?_
  intro vmR CR
  exact ⟨(by first | rfl | (simp only [own_nar]; done) | (congr 2; done)), (Keep.refl h [])⟩
set_option maxRecDepth 65536 in
set_option maxHeartbeats 40000000 in
theorem c_max {l : Launch} {Z : State} {a0 : Array Value} {EL : List (String × Nat)} {nw fk : Prop} {zc : Int32} {sf : Value} (g : GH Z a0 EL zc sf) (h : Heap) (x : Nat) (y : Nat) (hx : x < 2 ^ 31) (hy : y < 2 ^ 31) (zz : Z.heap.size ≤ h.size) :
    Ct l Z EL nw fk [] ⟨"java/lang/Math", "max", "(II)I"⟩ jdk_29_method_65_code 2 (some .int) ({ frames := 0, cells := 0, slots := 0, locals := 0 } : Room) #[(.int x.toInt32), (.int y.toInt32)] h [] (fun res vm' h' => res = some (.int (max x y).toInt32) ∧ Keep h h' []) := by
  refine Ct.of_go (a0 := a0) g.2.1 (by decide +kernel) (L0 := #[.val (.int x.toInt32), .val (.int y.toInt32)]) (fun m => by first | (simp [entryFrame, mkF, argsToLocals, Value.category, own_rep]; done) | rfl) ?_
  intro p e s m below meth c hown hby hml hret hnm hZ hC hO hsf
  refine Go.iloadN (hb hby D_jdk_29_method_65_code_0) (pc' := 1) rfl rfl ?_
  refine Go.iloadN (hb hby D_jdk_29_method_65_code_1) (pc' := 2) rfl rfl ?_
  refine Go.icmp (hb hby D_jdk_29_method_65_code_2) (by decide) (pc' := 9) (by decide) (pc2 := 5) rfl (fun (q2 : x.toInt32 < y.toInt32) => ?_) (fun (q2 : ¬ (x.toInt32 < y.toInt32)) => ?_)
  · refine Go.iloadN (hb hby D_jdk_29_method_65_code_9) (pc' := 10) rfl rfl ?_
    refine Go.retI hret (hb hby D_jdk_29_method_65_code_10) (by decide) (by decide) ?_
    intro vmR CR
    exact ⟨(by rw [Nat.max_eq_right (Nat.le_of_lt ((lt32 hx hy).mp q2))]), (Keep.refl h [])⟩
  · refine Go.iloadN (hb hby D_jdk_29_method_65_code_5) (pc' := 6) rfl rfl ?_
    refine Go.goto (hb hby D_jdk_29_method_65_code_6) (by decide) (pc' := 10) (by decide) ?_
    refine Go.retI hret (hb hby D_jdk_29_method_65_code_10) (by decide) (by decide) ?_
    intro vmR CR
    exact ⟨(by rw [Nat.max_eq_left (Nat.le_of_not_lt fun z => q2 ((lt32 hx hy).mpr z))]), (Keep.refl h [])⟩
set_option maxRecDepth 65536 in
set_option maxHeartbeats 40000000 in
theorem c_min1 {l : Launch} {Z : State} {a0 : Array Value} {EL : List (String × Nat)} {nw fk : Prop} {zc : Int32} {sf : Value} (g : GH Z a0 EL zc sf) (h : Heap) (x : Int32) (y : Int32) (hle : ¬ y < x) (zz : Z.heap.size ≤ h.size) :
    Ct l Z EL nw fk [] ⟨"java/lang/Math", "min", "(II)I"⟩ jdk_29_method_69_code 2 (some .int) ({ frames := 0, cells := 0, slots := 0, locals := 0 } : Room) #[(.int x), (.int y)] h [] (fun res vm' h' => res = some (.int x) ∧ Keep h h' []) := by
  refine Ct.of_go (a0 := a0) g.2.1 (by decide +kernel) (L0 := #[.val (.int x), .val (.int y)]) (fun m => by first | (simp [entryFrame, mkF, argsToLocals, Value.category, own_rep]; done) | rfl) ?_
  intro p e s m below meth c hown hby hml hret hnm hZ hC hO hsf
  refine Go.iloadN (hb hby D_jdk_29_method_69_code_0) (pc' := 1) rfl rfl ?_
  refine Go.iloadN (hb hby D_jdk_29_method_69_code_1) (pc' := 2) rfl rfl ?_
  refine Go.icmpN (hb hby D_jdk_29_method_69_code_2) (pc' := 5) rfl hle ?_
  refine Go.iloadN (hb hby D_jdk_29_method_69_code_5) (pc' := 6) rfl rfl ?_
  refine Go.goto (hb hby D_jdk_29_method_69_code_6) (by decide) (pc' := 10) (by decide) ?_
  refine Go.retI hret (hb hby D_jdk_29_method_69_code_10) (by decide) (by decide) ?_
  intro vmR CR
  exact ⟨(by first | rfl | (simp only [own_nar]; done) | (congr 2; done)), (Keep.refl h [])⟩
set_option maxRecDepth 65536 in
set_option maxHeartbeats 40000000 in
theorem c_min2 {l : Launch} {Z : State} {a0 : Array Value} {EL : List (String × Nat)} {nw fk : Prop} {zc : Int32} {sf : Value} (g : GH Z a0 EL zc sf) (h : Heap) (x : Int32) (y : Int32) (hlt : y < x) (zz : Z.heap.size ≤ h.size) :
    Ct l Z EL nw fk [] ⟨"java/lang/Math", "min", "(II)I"⟩ jdk_29_method_69_code 2 (some .int) ({ frames := 0, cells := 0, slots := 0, locals := 0 } : Room) #[(.int x), (.int y)] h [] (fun res vm' h' => res = some (.int y) ∧ Keep h h' []) := by
  refine Ct.of_go (a0 := a0) g.2.1 (by decide +kernel) (L0 := #[.val (.int x), .val (.int y)]) (fun m => by first | (simp [entryFrame, mkF, argsToLocals, Value.category, own_rep]; done) | rfl) ?_
  intro p e s m below meth c hown hby hml hret hnm hZ hC hO hsf
  refine Go.iloadN (hb hby D_jdk_29_method_69_code_0) (pc' := 1) rfl rfl ?_
  refine Go.iloadN (hb hby D_jdk_29_method_69_code_1) (pc' := 2) rfl rfl ?_
  refine Go.icmpY (hb hby D_jdk_29_method_69_code_2) (by decide) (pc' := 9) (by decide) hlt ?_
  refine Go.iloadN (hb hby D_jdk_29_method_69_code_9) (pc' := 10) rfl rfl ?_
  refine Go.retI hret (hb hby D_jdk_29_method_69_code_10) (by decide) (by decide) ?_
  intro vmR CR
  exact ⟨(by first | rfl | (simp only [own_nar]; done) | (congr 2; done)), (Keep.refl h [])⟩
set_option maxRecDepth 65536 in
set_option maxHeartbeats 40000000 in
theorem c_newLength {l : Launch} {Z : State} {a0 : Array Value} {EL : List (String × Nat)} {nw fk : Prop} {zc : Int32} {sf : Value} (g : GH Z a0 EL zc sf) (h : Heap) (x : Nat) (y : Nat) (z : Nat) (hs : x + max y z ≤ 2000) (h0 : 0 < x + max y z) (zz : Z.heap.size ≤ h.size) :
    Ct l Z EL nw fk [] ⟨"jdk/internal/util/ArraysSupport", "newLength", "(III)I"⟩ jdk_48_method_27_code 4 (some .int) ({ frames := 1, cells := 0, slots := 0, locals := 14 } : Room) #[(.int x.toInt32), (.int y.toInt32), (.int z.toInt32)] h [] (fun res vm' h' => res = some (.int (x + max y z).toInt32) ∧ Keep h h' []) := by
  refine Ct.of_go (a0 := a0) g.2.1 (plainFor_of_name pn_3) (L0 := #[.val (.int x.toInt32), .val (.int y.toInt32), .val (.int z.toInt32), .unset]) (fun m => by first | (simp [entryFrame, mkF, argsToLocals, Value.category, own_rep]; done) | rfl) ?_
  intro p e s m below meth c hown hby hml hret hnm hZ hC hO hsf
  refine Go.iloadN (hb hby D_jdk_48_method_27_code_0) (pc' := 1) rfl rfl ?_
  refine Go.iloadN (hb hby D_jdk_48_method_27_code_1) (pc' := 2) rfl rfl ?_
  refine Go.iloadN (hb hby D_jdk_48_method_27_code_2) (pc' := 3) rfl rfl ?_
  refine Go.callS (c_max (l := l) (nw := nw) (fk := fk) g h y z (by omega) (by omega) (by omega)) hown (wd_165 g) (wd_166 g) (wd_167 g) (wd_151 g) (by decide) (argsL := [(.int y.toInt32), (.int z.toInt32)]) (lenOf pd_5 rfl) rfl (by rw [hml]; rfl) (W := 1) rfl (hb hby D_jdk_48_method_27_code_3) (pc' := 6) rfl (by decide) (by decide) (by decide) (by decide) all0 ?_
  rintro _ vm1 h1 ⟨rfl, K1⟩ C1
  have z1 := K1.1
  -- pc 6
  refine Go.iadd (hb hby D_jdk_48_method_27_code_6) (pc' := 7) rfl ?_
  rw [add32]
  refine Go.istoreN (hb hby D_jdk_48_method_27_code_7) (pc' := 8) rfl (L' := #[.val (.int x.toInt32), .val (.int y.toInt32), .val (.int z.toInt32), .val (.int (x + max y z).toInt32)]) rfl ?_
  refine Go.iconst (hb hby D_jdk_48_method_27_code_8) (pc' := 9) rfl (z := (0 : Int32)) rfl ?_
  refine Go.iloadN (hb hby D_jdk_48_method_27_code_9) (pc' := 10) rfl rfl ?_
  refine Go.icmpN (hb hby D_jdk_48_method_27_code_10) (pc' := 13) rfl (fun q => q (pos32 (by omega) h0)) ?_
  refine Go.iloadN (hb hby D_jdk_48_method_27_code_13) (pc' := 14) rfl rfl ?_
  refine Go.ldcInt hown (wd_168 g) (hb hby D_jdk_48_method_27_code_14) (pc' := 16) rfl ?_
  refine Go.icmpN (hb hby D_jdk_48_method_27_code_16) (pc' := 19) rfl (big32 hs) ?_
  refine Go.iloadN (hb hby D_jdk_48_method_27_code_19) (pc' := 20) rfl rfl ?_
  refine Go.retI hret (hb hby D_jdk_48_method_27_code_20) (by decide) (by decide) ?_
  intro vmR CR
  exact ⟨(by first | rfl | (simp only [own_nar]; done) | (congr 2; done)), ((Keep.refl h []).trans K1 all0)⟩
set_option maxRecDepth 65536 in
set_option maxHeartbeats 40000000 in
theorem c_newCapacity {l : Launch} {Z : State} {a0 : Array Value} {EL : List (String × Nat)} {nw fk : Prop} {zc : Int32} {sf : Value} (g : GH Z a0 EL zc sf) (h : Heap) (a : Addr) (d : Addr) (kd : ClassId) (vs : List Value) (cap : Nat) (q : Nat) (hl : vs.length = cap) (hq : cap < q) (hbq : q ≤ 500) (e0 : Fld Z h a "java/lang/AbstractStringBuilder" "coder" "B" (.int 0)) (e1 : Fld Z h a "java/lang/AbstractStringBuilder" "value" "[B" (.ref d)) (e2 : Ar Z h d kd .byte vs) (zz : Z.heap.size ≤ h.size) :
    Ct l Z EL nw fk [] ⟨"java/lang/AbstractStringBuilder", "newCapacity", "(I)I"⟩ jdk_68_method_10_code 6 (some .int) ({ frames := 2, cells := 0, slots := 0, locals := 29 } : Room) #[(.ref a), (.int q.toInt32)] h [] (fun res vm' h' => res = some (.int (cap2 cap q).toInt32) ∧ Keep h h' []) := by
  have ye0 := ltN e0.lt
  have ye1 := ltN e1.lt
  have ye2 := ltN e2.lt
  refine Ct.of_go (a0 := a0) g.2.1 (plainFor_of_name pn_4) (L0 := #[.val (.ref a), .val (.int q.toInt32), .unset, .unset, .unset, .unset]) (fun m => by first | (simp [entryFrame, mkF, argsToLocals, Value.category, own_rep]; done) | rfl) ?_
  intro p e s m below meth c hown hby hml hret hnm hZ hC hO hsf
  refine Go.aloadN (hb hby D_jdk_68_method_10_code_0) (pc' := 1) rfl rfl rfl ?_
  refine Go.getF hown (wd_56 g) Via.refl e1 (hb hby D_jdk_68_method_10_code_1) (pc' := 4) rfl ?_
  refine Go.alen e2 (z := cap.toInt32) (by rw [hl]) (hb hby D_jdk_68_method_10_code_4) (pc' := 5) rfl ?_
  refine Go.istoreN (hb hby D_jdk_68_method_10_code_5) (pc' := 6) rfl (L' := #[.val (.ref a), .val (.int q.toInt32), .val (.int cap.toInt32), .unset, .unset, .unset]) rfl ?_
  refine Go.iloadN (hb hby D_jdk_68_method_10_code_6) (pc' := 7) rfl rfl ?_
  refine Go.aloadN (hb hby D_jdk_68_method_10_code_7) (pc' := 8) rfl rfl rfl ?_
  refine Go.getF hown (wd_58 g) Via.refl e0 (hb hby D_jdk_68_method_10_code_8) (pc' := 11) rfl ?_
  refine Go.ishl (hb hby D_jdk_68_method_10_code_11) (pc' := 12) rfl ?_
  rw [shl0n]
  refine Go.istoreN (hb hby D_jdk_68_method_10_code_12) (pc' := 13) rfl (L' := #[.val (.ref a), .val (.int q.toInt32), .val (.int cap.toInt32), .val (.int q.toInt32), .unset, .unset]) rfl ?_
  refine Go.iloadN (hb hby D_jdk_68_method_10_code_13) (pc' := 14) rfl rfl ?_
  refine Go.iloadN (hb hby D_jdk_68_method_10_code_14) (pc' := 15) rfl rfl ?_
  refine Go.isub (hb hby D_jdk_68_method_10_code_15) (pc' := 16) rfl ?_
  rw [sub32 (by omega)]
  refine Go.istore (hb hby D_jdk_68_method_10_code_16) (pc' := 18) rfl (L' := #[.val (.ref a), .val (.int q.toInt32), .val (.int cap.toInt32), .val (.int q.toInt32), .val (.int (q - cap).toInt32), .unset]) rfl ?_
  refine Go.iloadN (hb hby D_jdk_68_method_10_code_18) (pc' := 19) rfl rfl ?_
  refine Go.iload (hb hby D_jdk_68_method_10_code_19) (pc' := 21) rfl rfl ?_
  refine Go.iloadN (hb hby D_jdk_68_method_10_code_21) (pc' := 22) rfl rfl ?_
  refine Go.iconst (hb hby D_jdk_68_method_10_code_22) (pc' := 23) rfl (z := (2 : Int32)) rfl ?_
  refine Go.aloadN (hb hby D_jdk_68_method_10_code_23) (pc' := 24) rfl rfl rfl ?_
  refine Go.getF hown (wd_58 g) Via.refl e0 (hb hby D_jdk_68_method_10_code_24) (pc' := 27) rfl ?_
  refine Go.ishl (hb hby D_jdk_68_method_10_code_27) (pc' := 28) rfl ?_
  rw [shl0n]
  refine Go.iadd (hb hby D_jdk_68_method_10_code_28) (pc' := 29) rfl ?_
  rw [show (cap.toInt32 + 2) = (cap + 2).toInt32 from add32 cap 2]
  refine Go.callS (c_newLength (l := l) (nw := nw) (fk := fk) g h cap (q - cap) (cap + 2) (by omega) (by omega) (by omega)) hown (wd_161 g) (wd_162 g) (wd_164 g) (wd_163 g) (by decide) (argsL := [(.int cap.toInt32), (.int (q - cap).toInt32), (.int (cap + 2).toInt32)]) (lenOf pd_6 rfl) rfl (by rw [hml]; rfl) (W := 0) rfl (hb hby D_jdk_68_method_10_code_29) (pc' := 32) rfl (by decide) (by decide) (by decide) (by decide) all0 ?_
  rintro _ vm1 h1 ⟨rfl, K1⟩ C1
  have z1 := K1.1
  -- pc 32
  refine Go.istore (hb hby D_jdk_68_method_10_code_32) (pc' := 34) rfl (L' := #[.val (.ref a), .val (.int q.toInt32), .val (.int cap.toInt32), .val (.int q.toInt32), .val (.int (q - cap).toInt32), .val (.int (cap + max (q - cap) (cap + 2)).toInt32)]) rfl ?_
  refine Go.iload (hb hby D_jdk_68_method_10_code_34) (pc' := 36) rfl rfl ?_
  refine Go.ldcInt hown (wd_169 g) (hb hby D_jdk_68_method_10_code_36) (pc' := 38) rfl ?_
  refine Go.icmpY (hb hby D_jdk_68_method_10_code_38) (by decide) (pc' := 51) (by decide) (nbig (by omega)) ?_
  refine Go.iload (hb hby D_jdk_68_method_10_code_51) (pc' := 53) rfl rfl ?_
  refine Go.aloadN (hb hby D_jdk_68_method_10_code_53) (pc' := 54) rfl rfl rfl ?_
  have f2 : Fld Z h1 a "java/lang/AbstractStringBuilder" "coder" "B" (.int 0) := (e0.keep K1 nin0)
  refine Go.getF hown (wd_58 g) Via.refl f2 (hb hby D_jdk_68_method_10_code_54) (pc' := 57) rfl ?_
  refine Go.ishr (hb hby D_jdk_68_method_10_code_57) (pc' := 58) rfl ?_
  rw [shr0n]
  refine Go.retI hret (hb hby D_jdk_68_method_10_code_58) (by decide) (by decide) ?_
  intro vmR CR
  exact ⟨rfl, ((Keep.refl h []).trans K1 all0)⟩
set_option maxRecDepth 65536 in
set_option maxHeartbeats 40000000 in
theorem c_copyOf {l : Launch} {Z : State} {a0 : Array Value} {EL : List (String × Nat)} {nw fk : Prop} {zc : Int32} {sf : Value} (g : GH Z a0 EL zc sf) (h : Heap) (d : Addr) (kd : ClassId) (vs : List Int32) (cap : Nat) (q : Nat) (hl : vs.length = cap) (hq : cap < q) (hbq : q ≤ 160) (fb : Byt vs) (e0 : Ar Z h d kd .byte (vs.map Value.int)) (zz : Z.heap.size ≤ h.size) :
    Ct l Z EL nw fk [] ⟨"java/util/Arrays", "copyOf", "([BI)[B"⟩ jdk_65_method_121_code 3 (some (.array .byte)) ({ frames := 1, cells := 1, slots := 160, locals := 18 } : Room) #[(.ref d), (.int q.toInt32)] h [] (fun res vm' h' => ∃ d2 : Addr, ∃ k2 : ClassId, res = some (.ref d2) ∧ Keep h h' [] ∧ h.size ≤ d2 ∧ Ar Z h' d2 k2 .byte ((vs ++ List.replicate (q - cap) 0).map Value.int) ∧ Safe Z EL vm' h' d2) := by
  have ye0 := ltN e0.lt
  refine Ct.of_go (a0 := a0) g.2.1 (plainFor_of_name pn_5) (L0 := #[.val (.ref d), .val (.int q.toInt32), .unset]) (fun m => by first | (simp [entryFrame, mkF, argsToLocals, Value.category, own_rep]; done) | rfl) ?_
  intro p e s m below meth c hown hby hml hret hnm hZ hC hO hsf
  refine Go.iloadN (hb hby D_jdk_65_method_121_code_0) (pc' := 1) rfl rfl ?_
  refine Go.aloadN (hb hby D_jdk_65_method_121_code_1) (pc' := 2) rfl rfl rfl ?_
  refine Go.alen e0 (z := cap.toInt32) (by rw [List.length_map, hl]) (hb hby D_jdk_65_method_121_code_2) (pc' := 3) rfl ?_
  refine Go.icmpY (hb hby D_jdk_65_method_121_code_3) (by decide) (pc' := 14) (by decide) (fun z => by have := (eq32 (by omega) (by omega)).mp z; omega) ?_
  refine Go.iloadN (hb hby D_jdk_65_method_121_code_14) (pc' := 15) rfl rfl ?_
  refine Go.newP (ty := .byte) rfl (wd_24 g) (hb hby D_jdk_65_method_121_code_15) (pc' := 17) rfl (nneg32 (by omega)) (cap := 160) (by rw [clamp_nat (by omega)]; omega) (by decide) (by decide) (by decide) ?_
  intro h1 a2 k3 g4 l5 E6 A7 S8 C9
  have KE6 := Keep.ofExt E6; have zE6 := E6.1
  have A7 : Ar Z h1 a2 k3 .byte (List.replicate q.toInt32.toNatClampNeg (.int 0)) := A7
  refine Go.astoreN (hb hby D_jdk_65_method_121_code_17) (pc' := 18) rfl rfl (L' := #[.val (.ref d), .val (.int q.toInt32), .val (.ref a2)]) rfl ?_
  refine Go.aloadN (hb hby D_jdk_65_method_121_code_18) (pc' := 19) rfl rfl rfl ?_
  refine Go.iconst (hb hby D_jdk_65_method_121_code_19) (pc' := 20) rfl (z := (0 : Int32)) rfl ?_
  refine Go.aloadN (hb hby D_jdk_65_method_121_code_20) (pc' := 21) rfl rfl rfl ?_
  refine Go.iconst (hb hby D_jdk_65_method_121_code_21) (pc' := 22) rfl (z := (0 : Int32)) rfl ?_
  refine Go.aloadN (hb hby D_jdk_65_method_121_code_22) (pc' := 23) rfl rfl rfl ?_
  have f10 : Ar Z h1 d kd .byte (vs.map Value.int) := (e0.keep KE6 nin0)
  refine Go.alen f10 (z := cap.toInt32) (by rw [List.length_map, hl]) (hb hby D_jdk_65_method_121_code_23) (pc' := 24) rfl ?_
  refine Go.iloadN (hb hby D_jdk_65_method_121_code_24) (pc' := 25) rfl rfl ?_
  refine Go.callS (c_min1 (l := l) (nw := nw) (fk := fk) g h1 cap.toInt32 q.toInt32 (fun z => by have := (lt32 (by omega) (by omega)).mp z; omega) (by omega)) hown (wd_149 g) (wd_150 g) (wd_152 g) (wd_151 g) (by decide) (argsL := [(.int cap.toInt32), (.int q.toInt32)]) (lenOf pd_5 rfl) rfl (by rw [hml]; rfl) (W := 4) rfl (hb hby D_jdk_65_method_121_code_25) (pc' := 28) rfl (by decide) (by decide) (by decide) (by decide) all0 ?_
  rintro _ vm11 h11 ⟨rfl, K11⟩ C11
  have z11 := K11.1
  -- pc 28
  have f12 : Ar Z h11 d kd .byte (vs.map Value.int) := (f10.keep K11 nin0)
  have f13 : Ar Z h11 a2 k3 .byte (List.replicate q.toInt32.toNatClampNeg (.int 0)) := (A7.keep K11 nin0)
  have f14 : Safe Z EL vm11 h11 a2 := (Safe.to C11 (by omega) S8)
  refine Go.acopy hown (wd_153 g) (wd_107 g) (wd_105 g) (wd_106 g) f12 f13 fb (Byt.rep _) (by rw [List.length_map]; omega) (by rw [List.length_replicate, clamp_nat (by omega)]; omega) (by decide) (by decide) (nneg32 (by omega)) (by rw [clamp_nat (by omega), List.length_map, hl]; exact Nat.le_of_eq (Nat.zero_add _)) (by rw [clamp_nat (by omega), List.length_replicate, clamp_nat (by omega)]; show 0 + cap ≤ q; omega) f14 (by omega) (by rw [hml]; rfl) (W := 0) rfl (hb hby D_jdk_65_method_121_code_28) (pc' := 31) rfl (by decide) (by decide) ?_
  intro h15 A16 K17 S18 C19
  have zK17 := K17.1
  have A16 : Ar Z h15 a2 k3 .byte ((vs ++ List.replicate (q - cap) 0).map Value.int) := by have q9 := A16; rw [clamp_nat (show q < 2 ^ 31 by omega), clamp_nat (show cap < 2 ^ 31 by omega), show Int32.toNatClampNeg 0 = 0 from rfl, cp_new hl] at q9; exact q9
  refine Go.aloadN (hb hby D_jdk_65_method_121_code_31) (pc' := 32) rfl rfl rfl ?_
  refine Go.retA hret rfl rfl (hb hby D_jdk_65_method_121_code_32) (by decide) (by decide) ?_
  intro vmR CR
  exact ⟨a2, k3, (by first | rfl | (simp only [own_nar]; done) | (congr 2; done)), ((((Keep.refl h []).trans KE6 all0).trans K11 all0).trans K17 (allS (by first | (left; simp; done) | (right; omega)) all0)), (by omega), A16, (Safe.to CR (by omega) S18)⟩
set_option maxRecDepth 65536 in
set_option maxHeartbeats 40000000 in
theorem c_ensFit {l : Launch} {Z : State} {a0 : Array Value} {EL : List (String × Nat)} {nw fk : Prop} {zc : Int32} {sf : Value} (g : GH Z a0 EL zc sf) (h : Heap) (a : Addr) (d : Addr) (kd : ClassId) (bs : List Int32) (cap : Nat) (N : Nat) (q : Nat) (hN : bs.length = N) (hcap : N ≤ cap) (hc5 : cap ≤ 150) (fb : Byt bs) (hq : q ≤ cap) (e0 : Exa Z h a "java/lang/StringBuilder") (e1 : Fld Z h a "java/lang/AbstractStringBuilder" "coder" "B" (.int 0)) (e2 : Fld Z h a "java/lang/AbstractStringBuilder" "value" "[B" (.ref d)) (e3 : Ar Z h d kd .byte ((pad bs cap).map Value.int)) (zz : Z.heap.size ≤ h.size) :
    Ct l Z EL nw fk [] ⟨"java/lang/AbstractStringBuilder", "ensureCapacityInternal", "(I)V"⟩ jdk_68_method_9_code 3 none ({ frames := 0, cells := 0, slots := 0, locals := 0 } : Room) #[(.ref a), (.int q.toInt32)] h [] (fun res vm' h' => res = none ∧ Keep h h' []) := by
  have ye0 := ltN e0.lt
  have ye1 := ltN e1.lt
  have ye2 := ltN e2.lt
  have ye3 := ltN e3.lt
  refine Ct.of_go (a0 := a0) g.2.1 (plainFor_of_name pn_4) (L0 := #[.val (.ref a), .val (.int q.toInt32), .unset]) (fun m => by first | (simp [entryFrame, mkF, argsToLocals, Value.category, own_rep]; done) | rfl) ?_
  intro p e s m below meth c hown hby hml hret hnm hZ hC hO hsf
  refine Go.aloadN (hb hby D_jdk_68_method_9_code_0) (pc' := 1) rfl rfl rfl ?_
  refine Go.getF hown (wd_56 g) Via.refl e2 (hb hby D_jdk_68_method_9_code_1) (pc' := 4) rfl ?_
  refine Go.alen e3 (z := cap.toInt32) (by rw [pad_len (by omega)]) (hb hby D_jdk_68_method_9_code_4) (pc' := 5) rfl ?_
  refine Go.aloadN (hb hby D_jdk_68_method_9_code_5) (pc' := 6) rfl rfl rfl ?_
  refine Go.getF hown (wd_58 g) Via.refl e1 (hb hby D_jdk_68_method_9_code_6) (pc' := 9) rfl ?_
  refine Go.ishr (hb hby D_jdk_68_method_9_code_9) (pc' := 10) rfl ?_
  rw [shr0n]
  refine Go.istoreN (hb hby D_jdk_68_method_9_code_10) (pc' := 11) rfl (L' := #[.val (.ref a), .val (.int q.toInt32), .val (.int cap.toInt32)]) rfl ?_
  refine Go.iloadN (hb hby D_jdk_68_method_9_code_11) (pc' := 12) rfl rfl ?_
  refine Go.iloadN (hb hby D_jdk_68_method_9_code_12) (pc' := 13) rfl rfl ?_
  refine Go.isub (hb hby D_jdk_68_method_9_code_13) (pc' := 14) rfl ?_
  refine Go.ifY (hb hby D_jdk_68_method_9_code_14) (by decide) (pc' := 38) (by decide) (suble hq (by omega)) ?_
  refine Go.ret hret (hb hby D_jdk_68_method_9_code_38) (by decide) (by decide) ?_
  intro vmR CR
  exact ⟨rfl, (Keep.refl h [])⟩
set_option maxRecDepth 65536 in
set_option maxHeartbeats 40000000 in
theorem c_ensGrow {l : Launch} {Z : State} {a0 : Array Value} {EL : List (String × Nat)} {nw fk : Prop} {zc : Int32} {sf : Value} (g : GH Z a0 EL zc sf) (h : Heap) (a : Addr) (d : Addr) (kd : ClassId) (bs : List Int32) (cap : Nat) (N : Nat) (q : Nat) (hN : bs.length = N) (hcap : N ≤ cap) (hc5 : cap ≤ 150) (fb : Byt bs) (hq : cap < q) (hq2 : cap2 cap q ≤ 150) (ga : Z.heap.size ≤ a) (e0 : Exa Z h a "java/lang/StringBuilder") (e1 : Fld Z h a "java/lang/AbstractStringBuilder" "count" "I" (.int N.toInt32)) (e2 : Fld Z h a "java/lang/AbstractStringBuilder" "coder" "B" (.int 0)) (e3 : Fld Z h a "java/lang/AbstractStringBuilder" "value" "[B" (.ref d)) (e4 : Ar Z h d kd .byte ((pad bs cap).map Value.int)) (zz : Z.heap.size ≤ h.size) :
    Ct l Z EL nw fk [] ⟨"java/lang/AbstractStringBuilder", "ensureCapacityInternal", "(I)V"⟩ jdk_68_method_9_code 3 none ({ frames := 3, cells := 1, slots := 160, locals := 48 } : Room) #[(.ref a), (.int q.toInt32)] h [] (fun res vm' h' => ∃ d2 : Addr, ∃ k2 : ClassId, res = none ∧ Keep h h' [a] ∧ h.size ≤ d2 ∧ Fld Z h' a "java/lang/AbstractStringBuilder" "count" "I" (.int N.toInt32) ∧ Fld Z h' a "java/lang/AbstractStringBuilder" "coder" "B" (.int 0) ∧ Fld Z h' a "java/lang/AbstractStringBuilder" "value" "[B" (.ref d2) ∧ Ar Z h' d2 k2 .byte ((pad bs (cap2 cap q)).map Value.int) ∧ Safe Z EL vm' h' d2) := by
  have ye0 := ltN e0.lt
  have ye1 := ltN e1.lt
  have ye2 := ltN e2.lt
  have ye3 := ltN e3.lt
  have ye4 := ltN e4.lt
  refine Ct.of_go (a0 := a0) g.2.1 (plainFor_of_name pn_4) (L0 := #[.val (.ref a), .val (.int q.toInt32), .unset]) (fun m => by first | (simp [entryFrame, mkF, argsToLocals, Value.category, own_rep]; done) | rfl) ?_
  intro p e s m below meth c hown hby hml hret hnm hZ hC hO hsf
  refine Go.aloadN (hb hby D_jdk_68_method_9_code_0) (pc' := 1) rfl rfl rfl ?_
  refine Go.getF hown (wd_56 g) Via.refl e3 (hb hby D_jdk_68_method_9_code_1) (pc' := 4) rfl ?_
  refine Go.alen e4 (z := cap.toInt32) (by rw [pad_len (by omega)]) (hb hby D_jdk_68_method_9_code_4) (pc' := 5) rfl ?_
  refine Go.aloadN (hb hby D_jdk_68_method_9_code_5) (pc' := 6) rfl rfl rfl ?_
  refine Go.getF hown (wd_58 g) Via.refl e2 (hb hby D_jdk_68_method_9_code_6) (pc' := 9) rfl ?_
  refine Go.ishr (hb hby D_jdk_68_method_9_code_9) (pc' := 10) rfl ?_
  rw [shr0n]
  refine Go.istoreN (hb hby D_jdk_68_method_9_code_10) (pc' := 11) rfl (L' := #[.val (.ref a), .val (.int q.toInt32), .val (.int cap.toInt32)]) rfl ?_
  refine Go.iloadN (hb hby D_jdk_68_method_9_code_11) (pc' := 12) rfl rfl ?_
  refine Go.iloadN (hb hby D_jdk_68_method_9_code_12) (pc' := 13) rfl rfl ?_
  refine Go.isub (hb hby D_jdk_68_method_9_code_13) (pc' := 14) rfl ?_
  refine Go.ifN (hb hby D_jdk_68_method_9_code_14) (pc' := 17) rfl (fun z => z (by rw [sub32 (by omega)]; exact pos32 (by unfold cap2 at hq2; omega) (by omega))) ?_
  refine Go.aloadN (hb hby D_jdk_68_method_9_code_17) (pc' := 18) rfl rfl rfl ?_
  refine Go.aloadN (hb hby D_jdk_68_method_9_code_18) (pc' := 19) rfl rfl rfl ?_
  refine Go.getF hown (wd_56 g) Via.refl e3 (hb hby D_jdk_68_method_9_code_19) (pc' := 22) rfl ?_
  refine Go.aloadN (hb hby D_jdk_68_method_9_code_22) (pc' := 23) rfl rfl rfl ?_
  refine Go.iloadN (hb hby D_jdk_68_method_9_code_23) (pc' := 24) rfl rfl ?_
  refine Go.callP (c_newCapacity (l := l) (nw := nw) (fk := fk) g h a d kd ((pad bs cap).map Value.int) cap q (pad_len (by omega)) hq (by unfold cap2 at hq2; omega) e2 e3 e4 (by omega)) hown (wd_156 g) (wd_157 g) (sel_priv (wd_159 g) (wd_157 g) (wd_158 g) (by decide)) (wd_158 g) e0 (wd_160 g) (wd_52 g) (by decide) (argsL := [(.int q.toInt32)]) (lenOf pd_7 rfl) rfl (by rw [hml]; rfl) (W := 2) rfl (hb hby D_jdk_68_method_9_code_24) (pc' := 27) rfl (by decide) (by decide) (by decide) (by decide) all0 ?_
  rintro _ vm1 h1 ⟨rfl, K1⟩ C1
  have z1 := K1.1
  -- pc 27
  refine Go.aloadN (hb hby D_jdk_68_method_9_code_27) (pc' := 28) rfl rfl rfl ?_
  have f2 : Fld Z h1 a "java/lang/AbstractStringBuilder" "coder" "B" (.int 0) := (e2.keep K1 nin0)
  refine Go.getF hown (wd_58 g) Via.refl f2 (hb hby D_jdk_68_method_9_code_28) (pc' := 31) rfl ?_
  refine Go.ishl (hb hby D_jdk_68_method_9_code_31) (pc' := 32) rfl ?_
  rw [shl0n]
  have f3 : Ar Z h1 d kd .byte ((pad bs cap).map Value.int) := (e4.keep K1 nin0)
  refine Go.callS (c_copyOf (l := l) (nw := nw) (fk := fk) g h1 d kd (pad bs cap) cap (cap2 cap q) (by have q9 := pad_len (bs := bs) (cap := cap) (by omega); rw [List.length_map] at q9; exact q9) (by unfold cap2; omega) (by omega) (fb.pad _) f3 (by omega)) hown (wd_170 g) (wd_171 g) (wd_172 g) (wd_141 g) (by decide) (argsL := [(.ref d), (.int (cap2 cap q).toInt32)]) (lenOf pd_8 rfl) rfl (by rw [hml]; rfl) (W := 1) rfl (hb hby D_jdk_68_method_9_code_32) (pc' := 35) rfl (by decide) (by decide) (by decide) (by decide) all0 ?_
  rintro _ vm4 h4 ⟨d2_4, k2_4, rfl, K4, p4_0, o4_0, o4_1⟩ C4
  have z4 := K4.1
  have yo4_0 := ltN o4_0.lt
  -- pc 35
  have f5 : Fld Z h4 a "java/lang/AbstractStringBuilder" "value" "[B" (.ref d) := ((e3.keep K1 nin0).keep K4 nin0)
  have f6 : Exa Z h4 a "java/lang/StringBuilder" := ((e0.keep K1).keep K4)
  refine Go.putF hown (wd_56 g) Via.refl f5 f6 (Or.inl (wd_57 g)) (wd_43 g) (ty := (.array .byte)) (by decide) rfl rfl (Or.inl ⟨by decide, by decide⟩) (by omega) (hb hby D_jdk_68_method_9_code_35) (pc' := 38) rfl ?_
  intro h7 W8 z10 K9 C11
  have f12 : Fld Z h4 a "java/lang/AbstractStringBuilder" "count" "I" (.int N.toInt32) := ((e1.keep K1 nin0).keep K4 nin0)
  have f13 : Fld Z h4 a "java/lang/AbstractStringBuilder" "coder" "B" (.int 0) := (f2.keep K4 nin0)
  have f14 : Fld Z h7 a "java/lang/AbstractStringBuilder" "count" "I" (.int N.toInt32) := (Fld.other W8 f12 (Or.inr (slot_ne (Or.inl (wd_82 g)) (Or.inl (wd_57 g)) (by decide) (t := .int) (t' := (.array .byte)) (by decide) (by decide))))
  have f15 : Fld Z h7 a "java/lang/AbstractStringBuilder" "coder" "B" (.int 0) := (Fld.other W8 f13 (Or.inr (slot_ne (Or.inl (wd_59 g)) (Or.inl (wd_57 g)) (by decide) (t := .byte) (t' := (.array .byte)) (by decide) (by decide))))
  have f16 : Fld Z h7 a "java/lang/AbstractStringBuilder" "value" "[B" (.ref d2_4) := (Fld.same W8 f5)
  have f18 : Ar Z h7 d2_4 k2_4 .byte (((pad bs cap) ++ List.replicate ((cap2 cap q) - cap) 0).map Value.int) := (o4_0.keep K9 (ninS (Ne.symm (Ar.ne_exa o4_0 ((e0.keep K1).keep K4) (wd_43 g))) nin0))
  have f17 : Ar Z h7 d2_4 k2_4 .byte ((pad bs (cap2 cap q)).map Value.int) := by have q9 := f18; rw [pad_grow (by omega) (by unfold cap2; omega)] at q9; exact q9
  have f19 : Safe Z EL vm4 h7 d2_4 := (Safe.to C11 (by omega) o4_1)
  refine Go.ret hret (hb hby D_jdk_68_method_9_code_38) (by decide) (by decide) ?_
  intro vmR CR
  exact ⟨d2_4, k2_4, rfl, ((((Keep.refl h [a]).trans K1 all0).trans K4 all0).trans K9 (allS (by first | (left; simp; done) | (right; omega)) all0)), (by omega), f14, f15, f16, f17, (Safe.to CR (by omega) f19)⟩
set_option maxRecDepth 65536 in
set_option maxHeartbeats 40000000 in
theorem c_coder {l : Launch} {Z : State} {a0 : Array Value} {EL : List (String × Nat)} {nw fk : Prop} {zc : Int32} {sf : Value} (g : GH Z a0 EL zc sf) (h : Heap) (a : Addr) (d : Addr) (kd : ClassId) (bs : List Int32) (e0 : St Z h a d kd bs) (zz : Z.heap.size ≤ h.size) :
    Ct l Z EL nw fk [] ⟨"java/lang/String", "coder", "()B"⟩ jdk_42_method_152_code 1 (some .byte) ({ frames := 0, cells := 0, slots := 0, locals := 0 } : Room) #[(.ref a)] h [] (fun res vm' h' => res = some (.int (0 : Int32)) ∧ Keep h h' []) := by
  have ye0 := ltN e0.lt; have ye0' := ltN e0.ltb
  refine Ct.of_go (a0 := a0) g.2.1 (plainFor_of_name pn_1) (L0 := #[.val (.ref a)]) (fun m => by first | (simp [entryFrame, mkF, argsToLocals, Value.category, own_rep]; done) | rfl) ?_
  intro p e s m below meth c hown hby hml hret hnm hZ hC hO hsf
  refine Go.getS hown (wd_19 g) Via.refl g.2.2.2.2.1 (hb hby D_jdk_42_method_152_code_0) (pc' := 3) rfl ?_
  refine Go.ifN (hb hby D_jdk_42_method_152_code_3) (pc' := 6) rfl g.2.2.2.2.2.1 ?_
  refine Go.aloadN (hb hby D_jdk_42_method_152_code_6) (pc' := 7) rfl rfl rfl ?_
  refine Go.getF hown (wd_31 g) Via.refl e0.2.1 (hb hby D_jdk_42_method_152_code_7) (pc' := 10) rfl ?_
  refine Go.goto (hb hby D_jdk_42_method_152_code_10) (by decide) (pc' := 14) (by decide) ?_
  refine Go.retN (t := .byte) hret (by simp) (hb hby D_jdk_42_method_152_code_14) (by decide) (by decide) ?_
  intro vmR CR
  exact ⟨(by first | rfl | (simp only [own_nar]; done) | (congr 2; done)), (Keep.refl h [])⟩
set_option maxRecDepth 65536 in
set_option maxHeartbeats 40000000 in
theorem c_length {l : Launch} {Z : State} {a0 : Array Value} {EL : List (String × Nat)} {nw fk : Prop} {zc : Int32} {sf : Value} (g : GH Z a0 EL zc sf) (h : Heap) (a : Addr) (d : Addr) (kd : ClassId) (bs : List Int32) (M : Nat) (hM : bs.length = M) (e0 : St Z h a d kd bs) (zz : Z.heap.size ≤ h.size) :
    Ct l Z EL nw fk [] ⟨"java/lang/String", "length", "()I"⟩ jdk_42_method_54_code 1 (some .int) ({ frames := 1, cells := 0, slots := 0, locals := 13 } : Room) #[(.ref a)] h [] (fun res vm' h' => res = some (.int M.toInt32) ∧ Keep h h' []) := by
  have ye0 := ltN e0.lt; have ye0' := ltN e0.ltb
  refine Ct.of_go (a0 := a0) g.2.1 (plainFor_of_name pn_1) (L0 := #[.val (.ref a)]) (fun m => by first | (simp [entryFrame, mkF, argsToLocals, Value.category, own_rep]; done) | rfl) ?_
  intro p e s m below meth c hown hby hml hret hnm hZ hC hO hsf
  refine Go.aloadN (hb hby D_jdk_42_method_54_code_0) (pc' := 1) rfl rfl rfl ?_
  refine Go.getF hown (wd_33 g) Via.refl e0.2.2.1 (hb hby D_jdk_42_method_54_code_1) (pc' := 4) rfl ?_
  refine Go.alen e0.2.2.2.1 (z := M.toInt32) (by rw [List.length_map, hM]) (hb hby D_jdk_42_method_54_code_4) (pc' := 5) rfl ?_
  refine Go.aloadN (hb hby D_jdk_42_method_54_code_5) (pc' := 6) rfl rfl rfl ?_
  refine Go.callV (y0 := ⟨"java/lang/String", "coder", "()B"⟩) (c_coder (l := l) (nw := nw) (fk := fk) g h a d kd bs e0 (by omega)) hown (wd_76 g) (wd_77 g) (notFace_of_selects (wd_79 g)) (wd_79 g) (wd_78 g) e0.1 (wd_80 g) (wd_7 g) (by decide) (argsL := []) (lenOf pd_9 rfl) rfl (by rw [hml]; rfl) (W := 1) rfl (hb hby D_jdk_42_method_54_code_6) (pc' := 9) rfl (by decide) (by decide) (by decide) (by decide) all0 ?_
  rintro _ vm1 h1 ⟨rfl, K1⟩ C1
  have z1 := K1.1
  -- pc 9
  refine Go.ishr (hb hby D_jdk_42_method_54_code_9) (pc' := 10) rfl ?_
  rw [show ((M.toInt32) >>> ((0 : Int32) &&& 31)) = M.toInt32 from shr0n _]
  refine Go.retI hret (hb hby D_jdk_42_method_54_code_10) (by decide) (by decide) ?_
  intro vmR CR
  exact ⟨(by first | rfl | rw [shr0n]), ((Keep.refl h []).trans K1 all0)⟩
set_option maxRecDepth 65536 in
set_option maxHeartbeats 40000000 in
theorem c_inflate {l : Launch} {Z : State} {a0 : Array Value} {EL : List (String × Nat)} {nw fk : Prop} {zc : Int32} {sf : Value} (g : GH Z a0 EL zc sf) (h : Heap) (a : Addr) (b : Addr) (f : Addr) (kf : ClassId) (cs : List Int32) (e0 : Fld Z h a "java/lang/AbstractStringBuilder" "coder" "B" (.int 0)) (e1 : St Z h b f kf cs) (zz : Z.heap.size ≤ h.size) :
    Ct l Z EL nw fk [] ⟨"java/lang/AbstractStringBuilder", "inflateIfNeededFor", "(Ljava/lang/String;)V"⟩ jdk_68_method_71_code 2 none ({ frames := 1, cells := 0, slots := 0, locals := 13 } : Room) #[(.ref a), (.ref b)] h [] (fun res vm' h' => res = none ∧ Keep h h' []) := by
  have ye0 := ltN e0.lt
  have ye1 := ltN e1.lt; have ye1' := ltN e1.ltb
  refine Ct.of_go (a0 := a0) g.2.1 (plainFor_of_name pn_4) (L0 := #[.val (.ref a), .val (.ref b)]) (fun m => by first | (simp [entryFrame, mkF, argsToLocals, Value.category, own_rep]; done) | rfl) ?_
  intro p e s m below meth c hown hby hml hret hnm hZ hC hO hsf
  refine Go.getS hown (wd_55 g) Via.refl g.2.2.2.2.1 (hb hby D_jdk_68_method_71_code_0) (pc' := 3) rfl ?_
  refine Go.ifN (hb hby D_jdk_68_method_71_code_3) (pc' := 6) rfl g.2.2.2.2.2.1 ?_
  refine Go.aloadN (hb hby D_jdk_68_method_71_code_6) (pc' := 7) rfl rfl rfl ?_
  refine Go.getF hown (wd_58 g) Via.refl e0 (hb hby D_jdk_68_method_71_code_7) (pc' := 10) rfl ?_
  refine Go.aloadN (hb hby D_jdk_68_method_71_code_10) (pc' := 11) rfl rfl rfl ?_
  refine Go.callV (y0 := ⟨"java/lang/String", "coder", "()B"⟩) (c_coder (l := l) (nw := nw) (fk := fk) g h b f kf cs e1 (by omega)) hown (wd_98 g) (wd_77 g) (notFace_of_selects (wd_79 g)) (wd_79 g) (wd_78 g) e1.1 (wd_80 g) (wd_7 g) (by decide) (argsL := []) (lenOf pd_9 rfl) rfl (by rw [hml]; rfl) (W := 1) rfl (hb hby D_jdk_68_method_71_code_11) (pc' := 14) rfl (by decide) (by decide) (by decide) (by decide) all0 ?_
  rintro _ vm1 h1 ⟨rfl, K1⟩ C1
  have z1 := K1.1
  -- pc 14
  refine Go.icmpY (hb hby D_jdk_68_method_71_code_14) (by decide) (pc' := 21) (by decide) rfl ?_
  refine Go.ret hret (hb hby D_jdk_68_method_71_code_21) (by decide) (by decide) ?_
  intro vmR CR
  exact ⟨rfl, ((Keep.refl h []).trans K1 all0)⟩
set_option maxRecDepth 65536 in
set_option maxHeartbeats 40000000 in
theorem c_getBytes {l : Launch} {Z : State} {a0 : Array Value} {EL : List (String × Nat)} {nw fk : Prop} {zc : Int32} {sf : Value} (g : GH Z a0 EL zc sf) (h : Heap) (b : Addr) (f : Addr) (kf : ClassId) (cs : List Int32) (M : Nat) (d : Addr) (kd : ClassId) (bs : List Int32) (cap : Nat) (N : Nat) (hM : cs.length = M) (fc : Byt cs) (hN : bs.length = N) (hcap : N ≤ cap) (hc5 : cap ≤ 150) (fb : Byt bs) (hfit : N + M ≤ cap) (gd : Z.heap.size ≤ d) (e0 : St Z h b f kf cs) (e1 : Ar Z h d kd .byte ((pad bs cap).map Value.int)) (zz : Z.heap.size ≤ h.size) :
    Ct l Z EL nw fk [] ⟨"java/lang/String", "getBytes", "([BIB)V"⟩ jdk_42_method_147_code 4 none ({ frames := 1, cells := 0, slots := 0, locals := 18 } : Room) #[(.ref b), (.ref d), (.int N.toInt32), (.int 0)] h [d] (fun res vm' h' => res = none ∧ Keep h h' [d] ∧ Ar Z h' d kd .byte ((pad (bs ++ cs) cap).map Value.int) ∧ Safe Z EL vm' h' d) := by
  have ye0 := ltN e0.lt; have ye0' := ltN e0.ltb
  have ye1 := ltN e1.lt
  refine Ct.of_go (a0 := a0) g.2.1 (plainFor_of_name pn_1) (L0 := #[.val (.ref b), .val (.ref d), .val (.int N.toInt32), .val (.int 0)]) (fun m => by first | (simp [entryFrame, mkF, argsToLocals, Value.category, own_rep]; done) | rfl) ?_
  intro p e s m below meth c hown hby hml hret hnm hZ hC hO hsf
  refine Go.aloadN (hb hby D_jdk_42_method_147_code_0) (pc' := 1) rfl rfl rfl ?_
  refine Go.callV (y0 := ⟨"java/lang/String", "coder", "()B"⟩) (c_coder (l := l) (nw := nw) (fk := fk) g h b f kf cs e0 (by omega)) hown (wd_76 g) (wd_77 g) (notFace_of_selects (wd_79 g)) (wd_79 g) (wd_78 g) e0.1 (wd_80 g) (wd_7 g) (by decide) (argsL := []) (lenOf pd_9 rfl) rfl (by rw [hml]; rfl) (W := 0) rfl (hb hby D_jdk_42_method_147_code_1) (pc' := 4) rfl (by decide) (by decide) (by decide) (by decide) all0 ?_
  rintro _ vm1 h1 ⟨rfl, K1⟩ C1
  have z1 := K1.1
  -- pc 4
  refine Go.iloadN (hb hby D_jdk_42_method_147_code_4) (pc' := 5) rfl rfl ?_
  refine Go.icmpN (hb hby D_jdk_42_method_147_code_5) (pc' := 8) rfl (fun q => q rfl) ?_
  refine Go.aloadN (hb hby D_jdk_42_method_147_code_8) (pc' := 9) rfl rfl rfl ?_
  have f2 : Fld Z h1 b "java/lang/String" "value" "[B" (.ref f) := (e0.2.2.1.keep K1 nin0)
  refine Go.getF hown (wd_33 g) Via.refl f2 (hb hby D_jdk_42_method_147_code_9) (pc' := 12) rfl ?_
  refine Go.iconst (hb hby D_jdk_42_method_147_code_12) (pc' := 13) rfl (z := (0 : Int32)) rfl ?_
  refine Go.aloadN (hb hby D_jdk_42_method_147_code_13) (pc' := 14) rfl rfl rfl ?_
  refine Go.iloadN (hb hby D_jdk_42_method_147_code_14) (pc' := 15) rfl rfl ?_
  refine Go.iloadN (hb hby D_jdk_42_method_147_code_15) (pc' := 16) rfl rfl ?_
  refine Go.ishl (hb hby D_jdk_42_method_147_code_16) (pc' := 17) rfl ?_
  rw [shl0n]
  refine Go.aloadN (hb hby D_jdk_42_method_147_code_17) (pc' := 18) rfl rfl rfl ?_
  refine Go.getF hown (wd_33 g) Via.refl f2 (hb hby D_jdk_42_method_147_code_18) (pc' := 21) rfl ?_
  have f3 : Ar Z h1 f kf .byte (cs.map Value.int) := (e0.2.2.2.1.keep K1 nin0)
  refine Go.alen f3 (z := M.toInt32) (by rw [List.length_map, hM]) (hb hby D_jdk_42_method_147_code_21) (pc' := 22) rfl ?_
  have f4 : Ar Z h1 d kd .byte ((pad bs cap).map Value.int) := (e1.keep K1 nin0)
  have f5 : Safe Z EL vm1 h1 d := (Safe.to C1 (by omega) (hsf _ (by simp)))
  refine Go.acopy hown (wd_104 g) (wd_107 g) (wd_105 g) (wd_106 g) f3 f4 fc (fb.pad _) (by rw [List.length_map]; omega) (by rw [pad_len (by omega)]; omega) (by decide) (nneg32 (by omega)) (nneg32 (by omega)) (by rw [clamp_nat (by omega), List.length_map, hM]; exact Nat.le_of_eq (Nat.zero_add _)) (by rw [clamp_nat (by omega), clamp_nat (by omega), pad_len (by omega)]; exact hfit) f5 (by omega) (by rw [hml]; rfl) (W := 0) rfl (hb hby D_jdk_42_method_147_code_22) (pc' := 25) rfl (by decide) (by decide) ?_
  intro h6 A7 K8 S9 C10
  have zK8 := K8.1
  have A7 : Ar Z h6 d kd .byte ((pad (bs ++ cs) cap).map Value.int) := by have q9 := A7; rw [clamp_nat (show N < 2 ^ 31 by omega), clamp_nat (show M < 2 ^ 31 by omega), show Int32.toNatClampNeg 0 = 0 from rfl, ← hN, ← hM, pad_put (by omega)] at q9; exact q9
  refine Go.goto (hb hby D_jdk_42_method_147_code_25) (by decide) (pc' := 43) (by decide) ?_
  refine Go.ret hret (hb hby D_jdk_42_method_147_code_43) (by decide) (by decide) ?_
  intro vmR CR
  exact ⟨rfl, (((Keep.refl h [d]).trans K1 all0).trans K8 (allS (by first | (left; simp; done) | (right; omega)) all0)), A7, (Safe.to CR (by omega) S9)⟩
set_option maxRecDepth 65536 in
set_option maxHeartbeats 40000000 in
theorem c_putStr {l : Launch} {Z : State} {a0 : Array Value} {EL : List (String × Nat)} {nw fk : Prop} {zc : Int32} {sf : Value} (g : GH Z a0 EL zc sf) (h : Heap) (a : Addr) (d : Addr) (kd : ClassId) (bs : List Int32) (cap : Nat) (N : Nat) (b : Addr) (f : Addr) (kf : ClassId) (cs : List Int32) (M : Nat) (hN : bs.length = N) (hcap : N ≤ cap) (hc5 : cap ≤ 150) (fb : Byt bs) (hM : cs.length = M) (fc : Byt cs) (hfit : N + M ≤ cap) (gd : Z.heap.size ≤ d) (e0 : Exa Z h a "java/lang/StringBuilder") (e1 : Fld Z h a "java/lang/AbstractStringBuilder" "coder" "B" (.int 0)) (e2 : Fld Z h a "java/lang/AbstractStringBuilder" "value" "[B" (.ref d)) (e3 : Ar Z h d kd .byte ((pad bs cap).map Value.int)) (e4 : St Z h b f kf cs) (zz : Z.heap.size ≤ h.size) :
    Ct l Z EL nw fk [] ⟨"java/lang/AbstractStringBuilder", "putStringAt", "(ILjava/lang/String;)V"⟩ jdk_68_method_73_code 3 none ({ frames := 2, cells := 0, slots := 0, locals := 33 } : Room) #[(.ref a), (.int N.toInt32), (.ref b)] h [d] (fun res vm' h' => res = none ∧ Keep h h' [d] ∧ Ar Z h' d kd .byte ((pad (bs ++ cs) cap).map Value.int) ∧ Safe Z EL vm' h' d) := by
  have ye0 := ltN e0.lt
  have ye1 := ltN e1.lt
  have ye2 := ltN e2.lt
  have ye3 := ltN e3.lt
  have ye4 := ltN e4.lt; have ye4' := ltN e4.ltb
  refine Ct.of_go (a0 := a0) g.2.1 (plainFor_of_name pn_4) (L0 := #[.val (.ref a), .val (.int N.toInt32), .val (.ref b)]) (fun m => by first | (simp [entryFrame, mkF, argsToLocals, Value.category, own_rep]; done) | rfl) ?_
  intro p e s m below meth c hown hby hml hret hnm hZ hC hO hsf
  refine Go.aloadN (hb hby D_jdk_68_method_73_code_0) (pc' := 1) rfl rfl rfl ?_
  refine Go.aloadN (hb hby D_jdk_68_method_73_code_1) (pc' := 2) rfl rfl rfl ?_
  refine Go.callP (c_inflate (l := l) (nw := nw) (fk := fk) g h a b f kf cs e1 e4 (by omega)) hown (wd_93 g) (wd_94 g) (sel_priv (wd_96 g) (wd_94 g) (wd_95 g) (by decide)) (wd_95 g) e0 (wd_97 g) (wd_52 g) (by decide) (argsL := [(.ref b)]) (lenOf pd_10 rfl) rfl (by rw [hml]; rfl) (W := 0) rfl (hb hby D_jdk_68_method_73_code_2) (pc' := 5) rfl (by decide) (by decide) (by decide) (by decide) all0 ?_
  rintro _ vm1 h1 ⟨rfl, K1⟩ C1
  have z1 := K1.1
  -- pc 5
  refine Go.aloadN (hb hby D_jdk_68_method_73_code_5) (pc' := 6) rfl rfl rfl ?_
  refine Go.aloadN (hb hby D_jdk_68_method_73_code_6) (pc' := 7) rfl rfl rfl ?_
  have f2 : Fld Z h1 a "java/lang/AbstractStringBuilder" "value" "[B" (.ref d) := (e2.keep K1 nin0)
  refine Go.getF hown (wd_56 g) Via.refl f2 (hb hby D_jdk_68_method_73_code_7) (pc' := 10) rfl ?_
  refine Go.iloadN (hb hby D_jdk_68_method_73_code_10) (pc' := 11) rfl rfl ?_
  refine Go.aloadN (hb hby D_jdk_68_method_73_code_11) (pc' := 12) rfl rfl rfl ?_
  have f3 : Fld Z h1 a "java/lang/AbstractStringBuilder" "coder" "B" (.int 0) := (e1.keep K1 nin0)
  refine Go.getF hown (wd_58 g) Via.refl f3 (hb hby D_jdk_68_method_73_code_12) (pc' := 15) rfl ?_
  have f4 : St Z h1 b f kf cs := (e4.keep K1 nin0 nin0)
  have f5 : Ar Z h1 d kd .byte ((pad bs cap).map Value.int) := (e3.keep K1 nin0)
  have f6 : Safe Z EL vm1 h1 d := (Safe.to C1 (by omega) (hsf _ (by simp)))
  have f7 : Exa Z h1 b "java/lang/String" := (e4.1.keep K1)
  refine Go.callV (y0 := ⟨"java/lang/String", "getBytes", "([BIB)V"⟩) (c_getBytes (l := l) (nw := nw) (fk := fk) g h1 b f kf cs M d kd bs cap N hM fc hN hcap hc5 fb hfit gd f4 f5 (by omega)) hown (wd_99 g) (wd_100 g) (notFace_of_selects (wd_102 g)) (wd_102 g) (wd_101 g) f7 (wd_103 g) (wd_7 g) (by decide) (argsL := [(.ref d), (.int N.toInt32), (.int 0)]) (lenOf pd_11 rfl) rfl (by rw [hml]; rfl) (W := 0) rfl (hb hby D_jdk_68_method_73_code_15) (pc' := 18) rfl (by decide) (by decide) (by decide) (by decide) (allS ⟨by omega, f6⟩ all0) ?_
  rintro _ vm8 h8 ⟨rfl, K8, o8_0, o8_1⟩ C8
  have z8 := K8.1
  have yo8_0 := ltN o8_0.lt
  -- pc 18
  refine Go.ret hret (hb hby D_jdk_68_method_73_code_18) (by decide) (by decide) ?_
  intro vmR CR
  exact ⟨rfl, (((Keep.refl h [d]).trans K1 all0).trans K8 (allS (by first | (left; simp; done) | (right; omega)) all0)), o8_0, (Safe.to CR (by omega) o8_1)⟩
set_option maxRecDepth 65536 in
set_option maxHeartbeats 40000000 in
theorem c_appFit {l : Launch} {Z : State} {a0 : Array Value} {EL : List (String × Nat)} {nw fk : Prop} {zc : Int32} {sf : Value} (g : GH Z a0 EL zc sf) (h : Heap) (a : Addr) (d : Addr) (kd : ClassId) (bs : List Int32) (cap : Nat) (N : Nat) (b : Addr) (f : Addr) (kf : ClassId) (cs : List Int32) (M : Nat) (hN : bs.length = N) (hcap : N ≤ cap) (hc5 : cap ≤ 150) (fb : Byt bs) (hM : cs.length = M) (fc : Byt cs) (hfit : N + M ≤ cap) (gd : Z.heap.size ≤ d) (ga : Z.heap.size ≤ a) (e0 : Exa Z h a "java/lang/StringBuilder") (e1 : Fld Z h a "java/lang/AbstractStringBuilder" "count" "I" (.int N.toInt32)) (e2 : Fld Z h a "java/lang/AbstractStringBuilder" "coder" "B" (.int 0)) (e3 : Fld Z h a "java/lang/AbstractStringBuilder" "value" "[B" (.ref d)) (e4 : Ar Z h d kd .byte ((pad bs cap).map Value.int)) (e5 : St Z h b f kf cs) (zz : Z.heap.size ≤ h.size) :
    Ct l Z EL nw fk [] ⟨"java/lang/AbstractStringBuilder", "append", "(Ljava/lang/String;)Ljava/lang/AbstractStringBuilder;"⟩ jdk_68_method_22_code 3 (some (.object "java/lang/AbstractStringBuilder")) ({ frames := 3, cells := 0, slots := 0, locals := 47 } : Room) #[(.ref a), (.ref b)] h [d] (fun res vm' h' => res = some (.ref a) ∧ Keep h h' [a, d] ∧ Fld Z h' a "java/lang/AbstractStringBuilder" "count" "I" (.int (N + M).toInt32) ∧ Fld Z h' a "java/lang/AbstractStringBuilder" "coder" "B" (.int 0) ∧ Fld Z h' a "java/lang/AbstractStringBuilder" "value" "[B" (.ref d) ∧ Ar Z h' d kd .byte ((pad (bs ++ cs) cap).map Value.int) ∧ Safe Z EL vm' h' d) := by
  have ye0 := ltN e0.lt
  have ye1 := ltN e1.lt
  have ye2 := ltN e2.lt
  have ye3 := ltN e3.lt
  have ye4 := ltN e4.lt
  have ye5 := ltN e5.lt; have ye5' := ltN e5.ltb
  refine Ct.of_go (a0 := a0) g.2.1 (plainFor_of_name pn_4) (L0 := #[.val (.ref a), .val (.ref b), .unset]) (fun m => by first | (simp [entryFrame, mkF, argsToLocals, Value.category, own_rep]; done) | rfl) ?_
  intro p e s m below meth c hown hby hml hret hnm hZ hC hO hsf
  refine Go.aloadN (hb hby D_jdk_68_method_22_code_0) (pc' := 1) rfl rfl rfl ?_
  refine Go.ifnonnullY (hb hby D_jdk_68_method_22_code_1) (by decide) (pc' := 9) (by decide) ?_
  refine Go.aloadN (hb hby D_jdk_68_method_22_code_9) (pc' := 10) rfl rfl rfl ?_
  refine Go.callV (y0 := ⟨"java/lang/String", "length", "()I"⟩) (c_length (l := l) (nw := nw) (fk := fk) g h b f kf cs M hM e5 (by omega)) hown (wd_71 g) (wd_72 g) (notFace_of_selects (wd_74 g)) (wd_74 g) (wd_73 g) e5.1 (wd_75 g) (wd_7 g) (by decide) (argsL := []) (lenOf pd_12 rfl) rfl (by rw [hml]; rfl) (W := 0) rfl (hb hby D_jdk_68_method_22_code_10) (pc' := 13) rfl (by decide) (by decide) (by decide) (by decide) all0 ?_
  rintro _ vm1 h1 ⟨rfl, K1⟩ C1
  have z1 := K1.1
  -- pc 13
  refine Go.istoreN (hb hby D_jdk_68_method_22_code_13) (pc' := 14) rfl (L' := #[.val (.ref a), .val (.ref b), .val (.int M.toInt32)]) rfl ?_
  refine Go.aloadN (hb hby D_jdk_68_method_22_code_14) (pc' := 15) rfl rfl rfl ?_
  refine Go.aloadN (hb hby D_jdk_68_method_22_code_15) (pc' := 16) rfl rfl rfl ?_
  have f2 : Fld Z h1 a "java/lang/AbstractStringBuilder" "count" "I" (.int N.toInt32) := (e1.keep K1 nin0)
  refine Go.getF hown (wd_81 g) Via.refl f2 (hb hby D_jdk_68_method_22_code_16) (pc' := 19) rfl ?_
  refine Go.iloadN (hb hby D_jdk_68_method_22_code_19) (pc' := 20) rfl rfl ?_
  refine Go.iadd (hb hby D_jdk_68_method_22_code_20) (pc' := 21) rfl ?_
  rw [add32]
  have f3 : Exa Z h1 a "java/lang/StringBuilder" := (e0.keep K1)
  have f4 : Fld Z h1 a "java/lang/AbstractStringBuilder" "coder" "B" (.int 0) := (e2.keep K1 nin0)
  have f5 : Fld Z h1 a "java/lang/AbstractStringBuilder" "value" "[B" (.ref d) := (e3.keep K1 nin0)
  have f6 : Ar Z h1 d kd .byte ((pad bs cap).map Value.int) := (e4.keep K1 nin0)
  refine Go.callP (c_ensFit (l := l) (nw := nw) (fk := fk) g h1 a d kd bs cap N (N + M) hN hcap hc5 fb hfit f3 f4 f5 f6 (by omega)) hown (wd_83 g) (wd_84 g) (sel_priv (wd_86 g) (wd_84 g) (wd_85 g) (by decide)) (wd_85 g) f3 (wd_87 g) (wd_52 g) (by decide) (argsL := [(.int (N + M).toInt32)]) (lenOf pd_13 rfl) rfl (by rw [hml]; rfl) (W := 0) rfl (hb hby D_jdk_68_method_22_code_21) (pc' := 24) rfl (by decide) (by decide) (by decide) (by decide) all0 ?_
  rintro _ vm7 h7 ⟨rfl, K7⟩ C7
  have z7 := K7.1
  -- pc 24
  refine Go.aloadN (hb hby D_jdk_68_method_22_code_24) (pc' := 25) rfl rfl rfl ?_
  refine Go.aloadN (hb hby D_jdk_68_method_22_code_25) (pc' := 26) rfl rfl rfl ?_
  have f8 : Fld Z h7 a "java/lang/AbstractStringBuilder" "count" "I" (.int N.toInt32) := (f2.keep K7 nin0)
  refine Go.getF hown (wd_81 g) Via.refl f8 (hb hby D_jdk_68_method_22_code_26) (pc' := 29) rfl ?_
  refine Go.aloadN (hb hby D_jdk_68_method_22_code_29) (pc' := 30) rfl rfl rfl ?_
  have f9 : Exa Z h7 a "java/lang/StringBuilder" := (f3.keep K7)
  have f10 : Fld Z h7 a "java/lang/AbstractStringBuilder" "coder" "B" (.int 0) := (f4.keep K7 nin0)
  have f11 : Fld Z h7 a "java/lang/AbstractStringBuilder" "value" "[B" (.ref d) := (f5.keep K7 nin0)
  have f12 : Ar Z h7 d kd .byte ((pad bs cap).map Value.int) := (f6.keep K7 nin0)
  have f13 : St Z h7 b f kf cs := ((e5.keep K1 nin0 nin0).keep K7 nin0 nin0)
  have f14 : Safe Z EL vm7 h7 d := (Safe.to C7 (by omega) (Safe.to C1 (by omega) (hsf _ (by simp))))
  refine Go.callP (c_putStr (l := l) (nw := nw) (fk := fk) g h7 a d kd bs cap N b f kf cs M hN hcap hc5 fb hM fc hfit gd f9 f10 f11 f12 f13 (by omega)) hown (wd_88 g) (wd_89 g) (sel_priv (wd_91 g) (wd_89 g) (wd_90 g) (by decide)) (wd_90 g) f9 (wd_92 g) (wd_52 g) (by decide) (argsL := [(.int N.toInt32), (.ref b)]) (lenOf pd_14 rfl) rfl (by rw [hml]; rfl) (W := 0) rfl (hb hby D_jdk_68_method_22_code_30) (pc' := 33) rfl (by decide) (by decide) (by decide) (by decide) (allS ⟨by omega, f14⟩ all0) ?_
  rintro _ vm15 h15 ⟨rfl, K15, o15_0, o15_1⟩ C15
  have z15 := K15.1
  have yo15_0 := ltN o15_0.lt
  -- pc 33
  refine Go.aloadN (hb hby D_jdk_68_method_22_code_33) (pc' := 34) rfl rfl rfl ?_
  refine Go.dup (hb hby D_jdk_68_method_22_code_34) (pc' := 35) rfl rfl ?_
  have f16 : Fld Z h15 a "java/lang/AbstractStringBuilder" "count" "I" (.int N.toInt32) := (f8.keep K15 (ninS (Ar.ne_exa e4 e0 (wd_43 g)) nin0))
  refine Go.getF hown (wd_81 g) Via.refl f16 (hb hby D_jdk_68_method_22_code_35) (pc' := 38) rfl ?_
  refine Go.iloadN (hb hby D_jdk_68_method_22_code_38) (pc' := 39) rfl rfl ?_
  refine Go.iadd (hb hby D_jdk_68_method_22_code_39) (pc' := 40) rfl ?_
  rw [add32]
  have f17 : Exa Z h15 a "java/lang/StringBuilder" := (f9.keep K15)
  refine Go.putF hown (wd_81 g) Via.refl f16 f17 (Or.inl (wd_82 g)) (wd_43 g) (ty := .int) (by decide) rfl rfl (Or.inl ⟨by decide, by decide⟩) (by omega) (hb hby D_jdk_68_method_22_code_40) (pc' := 43) rfl ?_
  intro h18 W19 z21 K20 C22
  have f23 : Fld Z h15 a "java/lang/AbstractStringBuilder" "coder" "B" (.int 0) := (f10.keep K15 (ninS (Ar.ne_exa e4 e0 (wd_43 g)) nin0))
  have f24 : Fld Z h15 a "java/lang/AbstractStringBuilder" "value" "[B" (.ref d) := (f11.keep K15 (ninS (Ar.ne_exa e4 e0 (wd_43 g)) nin0))
  have f25 : Fld Z h18 a "java/lang/AbstractStringBuilder" "count" "I" (.int (N + M).toInt32) := (Fld.same W19 f16)
  have f26 : Fld Z h18 a "java/lang/AbstractStringBuilder" "coder" "B" (.int 0) := (Fld.other W19 f23 (Or.inr (slot_ne (Or.inl (wd_59 g)) (Or.inl (wd_82 g)) (by decide) (t := .byte) (t' := .int) (by decide) (by decide))))
  have f27 : Fld Z h18 a "java/lang/AbstractStringBuilder" "value" "[B" (.ref d) := (Fld.other W19 f24 (Or.inr (slot_ne (Or.inl (wd_57 g)) (Or.inl (wd_82 g)) (by decide) (t := (.array .byte)) (t' := .int) (by decide) (by decide))))
  refine Go.aloadN (hb hby D_jdk_68_method_22_code_43) (pc' := 44) rfl rfl rfl ?_
  have f28 : Ar Z h18 d kd .byte ((pad (bs ++ cs) cap).map Value.int) := (o15_0.keep K20 (ninS (Ne.symm (Ar.ne_exa e4 e0 (wd_43 g))) nin0))
  have f29 : Safe Z EL vm15 h18 d := (Safe.to C22 (by omega) o15_1)
  refine Go.retA hret rfl rfl (hb hby D_jdk_68_method_22_code_44) (by decide) (by decide) ?_
  intro vmR CR
  exact ⟨(by first | rfl | (simp only [own_nar]; done) | (congr 2; done)), (((((Keep.refl h [a, d]).trans K1 all0).trans K7 all0).trans K15 (allS (by first | (left; simp; done) | (right; omega)) all0)).trans K20 (allS (by first | (left; simp; done) | (right; omega)) all0)), f25, f26, f27, f28, (Safe.to CR (by omega) f29)⟩
set_option maxRecDepth 65536 in
set_option maxHeartbeats 40000000 in
theorem c_appGrow {l : Launch} {Z : State} {a0 : Array Value} {EL : List (String × Nat)} {nw fk : Prop} {zc : Int32} {sf : Value} (g : GH Z a0 EL zc sf) (h : Heap) (a : Addr) (d : Addr) (kd : ClassId) (bs : List Int32) (cap : Nat) (N : Nat) (b : Addr) (f : Addr) (kf : ClassId) (cs : List Int32) (M : Nat) (hN : bs.length = N) (hcap : N ≤ cap) (hc5 : cap ≤ 150) (fb : Byt bs) (hM : cs.length = M) (fc : Byt cs) (hq : cap < N + M) (hq2 : cap2 cap (N + M) ≤ 150) (ga : Z.heap.size ≤ a) (e0 : Exa Z h a "java/lang/StringBuilder") (e1 : Fld Z h a "java/lang/AbstractStringBuilder" "count" "I" (.int N.toInt32)) (e2 : Fld Z h a "java/lang/AbstractStringBuilder" "coder" "B" (.int 0)) (e3 : Fld Z h a "java/lang/AbstractStringBuilder" "value" "[B" (.ref d)) (e4 : Ar Z h d kd .byte ((pad bs cap).map Value.int)) (e5 : St Z h b f kf cs) (zz : Z.heap.size ≤ h.size) :
    Ct l Z EL nw fk [] ⟨"java/lang/AbstractStringBuilder", "append", "(Ljava/lang/String;)Ljava/lang/AbstractStringBuilder;"⟩ jdk_68_method_22_code 3 (some (.object "java/lang/AbstractStringBuilder")) ({ frames := 4, cells := 1, slots := 160, locals := 62 } : Room) #[(.ref a), (.ref b)] h [] (fun res vm' h' => ∃ d2 : Addr, ∃ k2 : ClassId, res = some (.ref a) ∧ Keep h h' [a] ∧ h.size ≤ d2 ∧ Fld Z h' a "java/lang/AbstractStringBuilder" "count" "I" (.int (N + M).toInt32) ∧ Fld Z h' a "java/lang/AbstractStringBuilder" "coder" "B" (.int 0) ∧ Fld Z h' a "java/lang/AbstractStringBuilder" "value" "[B" (.ref d2) ∧ Ar Z h' d2 k2 .byte ((pad (bs ++ cs) (cap2 cap (N + M))).map Value.int) ∧ Safe Z EL vm' h' d2) := by
  have ye0 := ltN e0.lt
  have ye1 := ltN e1.lt
  have ye2 := ltN e2.lt
  have ye3 := ltN e3.lt
  have ye4 := ltN e4.lt
  have ye5 := ltN e5.lt; have ye5' := ltN e5.ltb
  refine Ct.of_go (a0 := a0) g.2.1 (plainFor_of_name pn_4) (L0 := #[.val (.ref a), .val (.ref b), .unset]) (fun m => by first | (simp [entryFrame, mkF, argsToLocals, Value.category, own_rep]; done) | rfl) ?_
  intro p e s m below meth c hown hby hml hret hnm hZ hC hO hsf
  refine Go.aloadN (hb hby D_jdk_68_method_22_code_0) (pc' := 1) rfl rfl rfl ?_
  refine Go.ifnonnullY (hb hby D_jdk_68_method_22_code_1) (by decide) (pc' := 9) (by decide) ?_
  refine Go.aloadN (hb hby D_jdk_68_method_22_code_9) (pc' := 10) rfl rfl rfl ?_
  refine Go.callV (y0 := ⟨"java/lang/String", "length", "()I"⟩) (c_length (l := l) (nw := nw) (fk := fk) g h b f kf cs M hM e5 (by omega)) hown (wd_71 g) (wd_72 g) (notFace_of_selects (wd_74 g)) (wd_74 g) (wd_73 g) e5.1 (wd_75 g) (wd_7 g) (by decide) (argsL := []) (lenOf pd_12 rfl) rfl (by rw [hml]; rfl) (W := 0) rfl (hb hby D_jdk_68_method_22_code_10) (pc' := 13) rfl (by decide) (by decide) (by decide) (by decide) all0 ?_
  rintro _ vm1 h1 ⟨rfl, K1⟩ C1
  have z1 := K1.1
  -- pc 13
  refine Go.istoreN (hb hby D_jdk_68_method_22_code_13) (pc' := 14) rfl (L' := #[.val (.ref a), .val (.ref b), .val (.int M.toInt32)]) rfl ?_
  refine Go.aloadN (hb hby D_jdk_68_method_22_code_14) (pc' := 15) rfl rfl rfl ?_
  refine Go.aloadN (hb hby D_jdk_68_method_22_code_15) (pc' := 16) rfl rfl rfl ?_
  have f2 : Fld Z h1 a "java/lang/AbstractStringBuilder" "count" "I" (.int N.toInt32) := (e1.keep K1 nin0)
  refine Go.getF hown (wd_81 g) Via.refl f2 (hb hby D_jdk_68_method_22_code_16) (pc' := 19) rfl ?_
  refine Go.iloadN (hb hby D_jdk_68_method_22_code_19) (pc' := 20) rfl rfl ?_
  refine Go.iadd (hb hby D_jdk_68_method_22_code_20) (pc' := 21) rfl ?_
  rw [add32]
  have f3 : Exa Z h1 a "java/lang/StringBuilder" := (e0.keep K1)
  have f4 : Fld Z h1 a "java/lang/AbstractStringBuilder" "coder" "B" (.int 0) := (e2.keep K1 nin0)
  have f5 : Fld Z h1 a "java/lang/AbstractStringBuilder" "value" "[B" (.ref d) := (e3.keep K1 nin0)
  have f6 : Ar Z h1 d kd .byte ((pad bs cap).map Value.int) := (e4.keep K1 nin0)
  refine Go.callP (c_ensGrow (l := l) (nw := nw) (fk := fk) g h1 a d kd bs cap N (N + M) hN hcap hc5 fb hq hq2 ga f3 f2 f4 f5 f6 (by omega)) hown (wd_83 g) (wd_84 g) (sel_priv (wd_86 g) (wd_84 g) (wd_85 g) (by decide)) (wd_85 g) f3 (wd_87 g) (wd_52 g) (by decide) (argsL := [(.int (N + M).toInt32)]) (lenOf pd_13 rfl) rfl (by rw [hml]; rfl) (W := 0) rfl (hb hby D_jdk_68_method_22_code_21) (pc' := 24) rfl (by decide) (by decide) (by decide) (by decide) all0 ?_
  rintro _ vm7 h7 ⟨d2_7, k2_7, rfl, K7, p7_0, o7_0, o7_1, o7_2, o7_3, o7_4⟩ C7
  have z7 := K7.1
  have yo7_3 := ltN o7_3.lt
  -- pc 24
  refine Go.aloadN (hb hby D_jdk_68_method_22_code_24) (pc' := 25) rfl rfl rfl ?_
  refine Go.aloadN (hb hby D_jdk_68_method_22_code_25) (pc' := 26) rfl rfl rfl ?_
  refine Go.getF hown (wd_81 g) Via.refl o7_0 (hb hby D_jdk_68_method_22_code_26) (pc' := 29) rfl ?_
  refine Go.aloadN (hb hby D_jdk_68_method_22_code_29) (pc' := 30) rfl rfl rfl ?_
  have f8 : Exa Z h7 a "java/lang/StringBuilder" := (f3.keep K7)
  have f9 : St Z h7 b f kf cs := ((e5.keep K1 nin0 nin0).keep K7 (ninS (Exa.ne (e5.keep K1 nin0 nin0).1 (e0.keep K1) (by decide)) nin0) (ninS (Ne.symm (Ar.ne_exa (e5.keep K1 nin0 nin0).2.2.2.1 (e0.keep K1) (wd_43 g))) nin0))
  refine Go.callP (c_putStr (l := l) (nw := nw) (fk := fk) g h7 a d2_7 k2_7 bs (cap2 cap (N + M)) N b f kf cs M hN (by unfold cap2; omega) hq2 fb hM fc (by unfold cap2; omega) (by omega) f8 o7_1 o7_2 o7_3 f9 (by omega)) hown (wd_88 g) (wd_89 g) (sel_priv (wd_91 g) (wd_89 g) (wd_90 g) (by decide)) (wd_90 g) f8 (wd_92 g) (wd_52 g) (by decide) (argsL := [(.int N.toInt32), (.ref b)]) (lenOf pd_14 rfl) rfl (by rw [hml]; rfl) (W := 0) rfl (hb hby D_jdk_68_method_22_code_30) (pc' := 33) rfl (by decide) (by decide) (by decide) (by decide) (allS ⟨by omega, o7_4⟩ all0) ?_
  rintro _ vm10 h10 ⟨rfl, K10, o10_0, o10_1⟩ C10
  have z10 := K10.1
  have yo10_0 := ltN o10_0.lt
  -- pc 33
  refine Go.aloadN (hb hby D_jdk_68_method_22_code_33) (pc' := 34) rfl rfl rfl ?_
  refine Go.dup (hb hby D_jdk_68_method_22_code_34) (pc' := 35) rfl rfl ?_
  have f11 : Fld Z h10 a "java/lang/AbstractStringBuilder" "count" "I" (.int N.toInt32) := (o7_0.keep K10 (ninS (neN (by omega)) nin0))
  refine Go.getF hown (wd_81 g) Via.refl f11 (hb hby D_jdk_68_method_22_code_35) (pc' := 38) rfl ?_
  refine Go.iloadN (hb hby D_jdk_68_method_22_code_38) (pc' := 39) rfl rfl ?_
  refine Go.iadd (hb hby D_jdk_68_method_22_code_39) (pc' := 40) rfl ?_
  rw [add32]
  have f12 : Exa Z h10 a "java/lang/StringBuilder" := (f8.keep K10)
  refine Go.putF hown (wd_81 g) Via.refl f11 f12 (Or.inl (wd_82 g)) (wd_43 g) (ty := .int) (by decide) rfl rfl (Or.inl ⟨by decide, by decide⟩) (by omega) (hb hby D_jdk_68_method_22_code_40) (pc' := 43) rfl ?_
  intro h13 W14 z16 K15 C17
  have f18 : Fld Z h10 a "java/lang/AbstractStringBuilder" "coder" "B" (.int 0) := (o7_1.keep K10 (ninS (neN (by omega)) nin0))
  have f19 : Fld Z h10 a "java/lang/AbstractStringBuilder" "value" "[B" (.ref d2_7) := (o7_2.keep K10 (ninS (neN (by omega)) nin0))
  have f20 : Fld Z h13 a "java/lang/AbstractStringBuilder" "count" "I" (.int (N + M).toInt32) := (Fld.same W14 f11)
  have f21 : Fld Z h13 a "java/lang/AbstractStringBuilder" "coder" "B" (.int 0) := (Fld.other W14 f18 (Or.inr (slot_ne (Or.inl (wd_59 g)) (Or.inl (wd_82 g)) (by decide) (t := .byte) (t' := .int) (by decide) (by decide))))
  have f22 : Fld Z h13 a "java/lang/AbstractStringBuilder" "value" "[B" (.ref d2_7) := (Fld.other W14 f19 (Or.inr (slot_ne (Or.inl (wd_57 g)) (Or.inl (wd_82 g)) (by decide) (t := (.array .byte)) (t' := .int) (by decide) (by decide))))
  refine Go.aloadN (hb hby D_jdk_68_method_22_code_43) (pc' := 44) rfl rfl rfl ?_
  have f23 : Ar Z h13 d2_7 k2_7 .byte ((pad (bs ++ cs) (cap2 cap (N + M))).map Value.int) := (o10_0.keep K15 (ninS (Ne.symm (Ar.ne_exa o10_0 (((e0.keep K1).keep K7).keep K10) (wd_43 g))) nin0))
  have f24 : Safe Z EL vm10 h13 d2_7 := (Safe.to C17 (by omega) o10_1)
  refine Go.retA hret rfl rfl (hb hby D_jdk_68_method_22_code_44) (by decide) (by decide) ?_
  intro vmR CR
  exact ⟨d2_7, k2_7, (by first | rfl | (simp only [own_nar]; done) | (congr 2; done)), (((((Keep.refl h [a]).trans K1 all0).trans K7 (allS (by first | (left; simp; done) | (right; omega)) all0)).trans K10 (allS (by first | (left; simp; done) | (right; omega)) all0)).trans K15 (allS (by first | (left; simp; done) | (right; omega)) all0)), (by omega), f20, f21, f22, f23, (Safe.to CR (by omega) f24)⟩
set_option maxRecDepth 65536 in
set_option maxHeartbeats 40000000 in
theorem c_SBappFit {l : Launch} {Z : State} {a0 : Array Value} {EL : List (String × Nat)} {nw fk : Prop} {zc : Int32} {sf : Value} (g : GH Z a0 EL zc sf) (h : Heap) (a : Addr) (d : Addr) (kd : ClassId) (bs : List Int32) (cap : Nat) (N : Nat) (b : Addr) (f : Addr) (kf : ClassId) (cs : List Int32) (M : Nat) (hN : bs.length = N) (hcap : N ≤ cap) (hc5 : cap ≤ 150) (fb : Byt bs) (hM : cs.length = M) (fc : Byt cs) (hfit : N + M ≤ cap) (gd : Z.heap.size ≤ d) (ga : Z.heap.size ≤ a) (e0 : Exa Z h a "java/lang/StringBuilder") (e1 : Fld Z h a "java/lang/AbstractStringBuilder" "count" "I" (.int N.toInt32)) (e2 : Fld Z h a "java/lang/AbstractStringBuilder" "coder" "B" (.int 0)) (e3 : Fld Z h a "java/lang/AbstractStringBuilder" "value" "[B" (.ref d)) (e4 : Ar Z h d kd .byte ((pad bs cap).map Value.int)) (e5 : St Z h b f kf cs) (zz : Z.heap.size ≤ h.size) :
    Ct l Z EL nw fk [] ⟨"java/lang/StringBuilder", "append", "(Ljava/lang/String;)Ljava/lang/StringBuilder;"⟩ jdk_67_method_7_code 2 (some (.object "java/lang/StringBuilder")) ({ frames := 4, cells := 0, slots := 0, locals := 61 } : Room) #[(.ref a), (.ref b)] h [d] (fun res vm' h' => res = some (.ref a) ∧ Keep h h' [a, d] ∧ Fld Z h' a "java/lang/AbstractStringBuilder" "count" "I" (.int (N + M).toInt32) ∧ Fld Z h' a "java/lang/AbstractStringBuilder" "coder" "B" (.int 0) ∧ Fld Z h' a "java/lang/AbstractStringBuilder" "value" "[B" (.ref d) ∧ Ar Z h' d kd .byte ((pad (bs ++ cs) cap).map Value.int) ∧ Safe Z EL vm' h' d) := by
  have ye0 := ltN e0.lt
  have ye1 := ltN e1.lt
  have ye2 := ltN e2.lt
  have ye3 := ltN e3.lt
  have ye4 := ltN e4.lt
  have ye5 := ltN e5.lt; have ye5' := ltN e5.ltb
  refine Ct.of_go (a0 := a0) g.2.1 (plainFor_of_name pn_6) (L0 := #[.val (.ref a), .val (.ref b)]) (fun m => by first | (simp [entryFrame, mkF, argsToLocals, Value.category, own_rep]; done) | rfl) ?_
  intro p e s m below meth c hown hby hml hret hnm hZ hC hO hsf
  refine Go.aloadN (hb hby D_jdk_67_method_7_code_0) (pc' := 1) rfl rfl rfl ?_
  refine Go.aloadN (hb hby D_jdk_67_method_7_code_1) (pc' := 2) rfl rfl rfl ?_
  refine Go.callU (c_appFit (l := l) (nw := nw) (fk := fk) g h a d kd bs cap N b f kf cs M hN hcap hc5 fb hM fc hfit gd ga e0 e1 e2 e3 e4 e5 (by omega)) hown (wd_66 g) (same_of_declares (wd_69 g) (nf_same (notFace_of_selects (wd_124 g)) (wd_122 g) rfl) (by decide)) (wd_67 g) (wd_68 g) (by decide) (Ins.self e0) (wd_70 g) (wd_52 g) (by decide) (argsL := [(.ref b)]) (lenOf pd_15 rfl) rfl (by rw [hml]; rfl) (W := 0) rfl (hb hby D_jdk_67_method_7_code_2) (pc' := 5) rfl (by decide) (by decide) (by decide) (by decide) (allS ⟨by omega, (hsf _ (by simp))⟩ all0) ?_
  rintro _ vm1 h1 ⟨rfl, K1, o1_0, o1_1, o1_2, o1_3, o1_4⟩ C1
  have z1 := K1.1
  have yo1_3 := ltN o1_3.lt
  -- pc 5
  refine Go.pop (hb hby D_jdk_67_method_7_code_5) (pc' := 6) rfl rfl ?_
  refine Go.aloadN (hb hby D_jdk_67_method_7_code_6) (pc' := 7) rfl rfl rfl ?_
  refine Go.retA hret rfl rfl (hb hby D_jdk_67_method_7_code_7) (by decide) (by decide) ?_
  intro vmR CR
  exact ⟨(by first | rfl | (simp only [own_nar]; done) | (congr 2; done)), ((Keep.refl h [a, d]).trans K1 (allS (by first | (left; simp; done) | (right; omega)) (allS (by first | (left; simp; done) | (right; omega)) all0))), o1_0, o1_1, o1_2, o1_3, (Safe.to CR (by omega) o1_4)⟩
set_option maxRecDepth 65536 in
set_option maxHeartbeats 40000000 in
theorem c_SBappGrow {l : Launch} {Z : State} {a0 : Array Value} {EL : List (String × Nat)} {nw fk : Prop} {zc : Int32} {sf : Value} (g : GH Z a0 EL zc sf) (h : Heap) (a : Addr) (d : Addr) (kd : ClassId) (bs : List Int32) (cap : Nat) (N : Nat) (b : Addr) (f : Addr) (kf : ClassId) (cs : List Int32) (M : Nat) (hN : bs.length = N) (hcap : N ≤ cap) (hc5 : cap ≤ 150) (fb : Byt bs) (hM : cs.length = M) (fc : Byt cs) (hq : cap < N + M) (hq2 : cap2 cap (N + M) ≤ 150) (ga : Z.heap.size ≤ a) (e0 : Exa Z h a "java/lang/StringBuilder") (e1 : Fld Z h a "java/lang/AbstractStringBuilder" "count" "I" (.int N.toInt32)) (e2 : Fld Z h a "java/lang/AbstractStringBuilder" "coder" "B" (.int 0)) (e3 : Fld Z h a "java/lang/AbstractStringBuilder" "value" "[B" (.ref d)) (e4 : Ar Z h d kd .byte ((pad bs cap).map Value.int)) (e5 : St Z h b f kf cs) (zz : Z.heap.size ≤ h.size) :
    Ct l Z EL nw fk [] ⟨"java/lang/StringBuilder", "append", "(Ljava/lang/String;)Ljava/lang/StringBuilder;"⟩ jdk_67_method_7_code 2 (some (.object "java/lang/StringBuilder")) ({ frames := 5, cells := 1, slots := 160, locals := 76 } : Room) #[(.ref a), (.ref b)] h [] (fun res vm' h' => ∃ d2 : Addr, ∃ k2 : ClassId, res = some (.ref a) ∧ Keep h h' [a] ∧ h.size ≤ d2 ∧ Fld Z h' a "java/lang/AbstractStringBuilder" "count" "I" (.int (N + M).toInt32) ∧ Fld Z h' a "java/lang/AbstractStringBuilder" "coder" "B" (.int 0) ∧ Fld Z h' a "java/lang/AbstractStringBuilder" "value" "[B" (.ref d2) ∧ Ar Z h' d2 k2 .byte ((pad (bs ++ cs) (cap2 cap (N + M))).map Value.int) ∧ Safe Z EL vm' h' d2) := by
  have ye0 := ltN e0.lt
  have ye1 := ltN e1.lt
  have ye2 := ltN e2.lt
  have ye3 := ltN e3.lt
  have ye4 := ltN e4.lt
  have ye5 := ltN e5.lt; have ye5' := ltN e5.ltb
  refine Ct.of_go (a0 := a0) g.2.1 (plainFor_of_name pn_6) (L0 := #[.val (.ref a), .val (.ref b)]) (fun m => by first | (simp [entryFrame, mkF, argsToLocals, Value.category, own_rep]; done) | rfl) ?_
  intro p e s m below meth c hown hby hml hret hnm hZ hC hO hsf
  refine Go.aloadN (hb hby D_jdk_67_method_7_code_0) (pc' := 1) rfl rfl rfl ?_
  refine Go.aloadN (hb hby D_jdk_67_method_7_code_1) (pc' := 2) rfl rfl rfl ?_
  refine Go.callU (c_appGrow (l := l) (nw := nw) (fk := fk) g h a d kd bs cap N b f kf cs M hN hcap hc5 fb hM fc hq hq2 ga e0 e1 e2 e3 e4 e5 (by omega)) hown (wd_66 g) (same_of_declares (wd_69 g) (nf_same (notFace_of_selects (wd_124 g)) (wd_122 g) rfl) (by decide)) (wd_67 g) (wd_68 g) (by decide) (Ins.self e0) (wd_70 g) (wd_52 g) (by decide) (argsL := [(.ref b)]) (lenOf pd_15 rfl) rfl (by rw [hml]; rfl) (W := 0) rfl (hb hby D_jdk_67_method_7_code_2) (pc' := 5) rfl (by decide) (by decide) (by decide) (by decide) all0 ?_
  rintro _ vm1 h1 ⟨d2_1, k2_1, rfl, K1, p1_0, o1_0, o1_1, o1_2, o1_3, o1_4⟩ C1
  have z1 := K1.1
  have yo1_3 := ltN o1_3.lt
  -- pc 5
  refine Go.pop (hb hby D_jdk_67_method_7_code_5) (pc' := 6) rfl rfl ?_
  refine Go.aloadN (hb hby D_jdk_67_method_7_code_6) (pc' := 7) rfl rfl rfl ?_
  refine Go.retA hret rfl rfl (hb hby D_jdk_67_method_7_code_7) (by decide) (by decide) ?_
  intro vmR CR
  exact ⟨d2_1, k2_1, (by first | rfl | (simp only [own_nar]; done) | (congr 2; done)), ((Keep.refl h [a]).trans K1 (allS (by first | (left; simp; done) | (right; omega)) all0)), (by omega), o1_0, o1_1, o1_2, o1_3, (Safe.to CR (by omega) o1_4)⟩
set_option maxRecDepth 65536 in
set_option maxHeartbeats 40000000 in
theorem c_ABinit {l : Launch} {Z : State} {a0 : Array Value} {EL : List (String × Nat)} {nw fk : Prop} {zc : Int32} {sf : Value} (g : GH Z a0 EL zc sf) (h : Heap) (a : Addr) (ga : Z.heap.size ≤ a) (e0 : Exa Z h a "java/lang/StringBuilder") (e1 : Fld Z h a "java/lang/AbstractStringBuilder" "count" "I" (.int 0)) (e2 : Fld Z h a "java/lang/AbstractStringBuilder" "coder" "B" (.int 0)) (e3 : Fld Z h a "java/lang/AbstractStringBuilder" "value" "[B" .null) (zz : Z.heap.size ≤ h.size) :
    Ct l Z EL nw fk [] ⟨"java/lang/AbstractStringBuilder", "<init>", "(I)V"⟩ jdk_68_method_2_code 2 none ({ frames := 1, cells := 1, slots := 16, locals := 12 } : Room) #[(.ref a), (.int (16 : Int32))] h [] (fun res vm' h' => ∃ d : Addr, ∃ kd : ClassId, res = none ∧ Keep h h' [a] ∧ h.size ≤ d ∧ Fld Z h' a "java/lang/AbstractStringBuilder" "count" "I" (.int (0 : Nat).toInt32) ∧ Fld Z h' a "java/lang/AbstractStringBuilder" "coder" "B" (.int 0) ∧ Fld Z h' a "java/lang/AbstractStringBuilder" "value" "[B" (.ref d) ∧ Ar Z h' d kd .byte ((pad [] 16).map Value.int) ∧ Safe Z EL vm' h' d) := by
  have ye0 := ltN e0.lt
  have ye1 := ltN e1.lt
  have ye2 := ltN e2.lt
  have ye3 := ltN e3.lt
  refine Ct.of_go (a0 := a0) g.2.1 (plainFor_of_name pn_4) (L0 := #[.val (.ref a), .val (.int (16 : Int32))]) (fun m => by first | (simp [entryFrame, mkF, argsToLocals, Value.category, own_rep]; done) | rfl) ?_
  intro p e s m below meth c hown hby hml hret hnm hZ hC hO hsf
  refine Go.aloadN (hb hby D_jdk_68_method_2_code_0) (pc' := 1) rfl rfl rfl ?_
  refine Go.initO hown (wd_54 g) (wd_17 g) (wd_18 g) (by rw [hml]; rfl) (hb hby D_jdk_68_method_2_code_1) (by decide) (W := 0) rfl (by decide) (pc' := 4) rfl ?_
  refine Go.getS hown (wd_55 g) Via.refl g.2.2.2.2.1 (hb hby D_jdk_68_method_2_code_4) (pc' := 7) rfl ?_
  refine Go.ifN (hb hby D_jdk_68_method_2_code_7) (pc' := 10) rfl g.2.2.2.2.2.1 ?_
  refine Go.aloadN (hb hby D_jdk_68_method_2_code_10) (pc' := 11) rfl rfl rfl ?_
  refine Go.iloadN (hb hby D_jdk_68_method_2_code_11) (pc' := 12) rfl rfl ?_
  refine Go.newP (ty := .byte) rfl (wd_24 g) (hb hby D_jdk_68_method_2_code_12) (pc' := 14) rfl (by decide) (cap := 16) (by decide) (by decide) (by decide) (by decide) ?_
  intro h1 a2 k3 g4 l5 E6 A7 S8 C9
  have KE6 := Keep.ofExt E6; have zE6 := E6.1
  have A7 : Ar Z h1 a2 k3 .byte [(.int 0), (.int 0), (.int 0), (.int 0), (.int 0), (.int 0), (.int 0), (.int 0), (.int 0), (.int 0), (.int 0), (.int 0), (.int 0), (.int 0), (.int 0), (.int 0)] := A7
  have f10 : Fld Z h1 a "java/lang/AbstractStringBuilder" "value" "[B" .null := (e3.keep KE6 nin0)
  have f11 : Exa Z h1 a "java/lang/StringBuilder" := (e0.keep KE6)
  refine Go.putF hown (wd_56 g) Via.refl f10 f11 (Or.inl (wd_57 g)) (wd_43 g) (ty := (.array .byte)) (by decide) rfl rfl (Or.inl ⟨by decide, by decide⟩) (by omega) (hb hby D_jdk_68_method_2_code_14) (pc' := 17) rfl ?_
  intro h12 W13 z15 K14 C16
  have f17 : Fld Z h1 a "java/lang/AbstractStringBuilder" "count" "I" (.int 0) := (e1.keep KE6 nin0)
  have f18 : Fld Z h1 a "java/lang/AbstractStringBuilder" "coder" "B" (.int 0) := (e2.keep KE6 nin0)
  have f19 : Fld Z h12 a "java/lang/AbstractStringBuilder" "count" "I" (.int 0) := (Fld.other W13 f17 (Or.inr (slot_ne (Or.inl (wd_82 g)) (Or.inl (wd_57 g)) (by decide) (t := .int) (t' := (.array .byte)) (by decide) (by decide))))
  have f20 : Fld Z h12 a "java/lang/AbstractStringBuilder" "coder" "B" (.int 0) := (Fld.other W13 f18 (Or.inr (slot_ne (Or.inl (wd_59 g)) (Or.inl (wd_57 g)) (by decide) (t := .byte) (t' := (.array .byte)) (by decide) (by decide))))
  have f21 : Fld Z h12 a "java/lang/AbstractStringBuilder" "value" "[B" (.ref a2) := (Fld.same W13 f10)
  refine Go.aloadN (hb hby D_jdk_68_method_2_code_17) (pc' := 18) rfl rfl rfl ?_
  refine Go.iconst (hb hby D_jdk_68_method_2_code_18) (pc' := 19) rfl (z := (0 : Int32)) rfl ?_
  have f22 : Exa Z h12 a "java/lang/StringBuilder" := (f11.keep K14)
  refine Go.putF hown (wd_58 g) Via.refl f20 f22 (Or.inl (wd_59 g)) (wd_43 g) (ty := .byte) (by decide) (v' := (.int (0 : Int32))) rfl (by first | rfl | exact fits_nar_byte _ ) (Or.inl ⟨by decide, by decide⟩) (by omega) (hb hby D_jdk_68_method_2_code_19) (pc' := 22) rfl ?_
  intro h23 W24 z26 K25 C27
  have f28 : Fld Z h23 a "java/lang/AbstractStringBuilder" "count" "I" (.int 0) := (Fld.other W24 f19 (Or.inr (slot_ne (Or.inl (wd_82 g)) (Or.inl (wd_59 g)) (by decide) (t := .int) (t' := .byte) (by decide) (by decide))))
  have f29 : Fld Z h23 a "java/lang/AbstractStringBuilder" "coder" "B" (.int (0 : Int32)) := (Fld.same W24 f20)
  have f30 : Fld Z h23 a "java/lang/AbstractStringBuilder" "value" "[B" (.ref a2) := (Fld.other W24 f21 (Or.inr (slot_ne (Or.inl (wd_57 g)) (Or.inl (wd_59 g)) (by decide) (t := (.array .byte)) (t' := .byte) (by decide) (by decide))))
  refine Go.goto (hb hby D_jdk_68_method_2_code_22) (by decide) (pc' := 38) (by decide) ?_
  have f31 : Ar Z h23 a2 k3 .byte [(.int 0), (.int 0), (.int 0), (.int 0), (.int 0), (.int 0), (.int 0), (.int 0), (.int 0), (.int 0), (.int 0), (.int 0), (.int 0), (.int 0), (.int 0), (.int 0)] := ((A7.keep K14 (ninS (neN (by omega)) nin0)).keep K25 (ninS (neN (by omega)) nin0))
  have f32 : Safe Z EL s.vm h23 a2 := (Safe.to C27 (by omega) (Safe.to C16 (by omega) S8))
  refine Go.ret hret (hb hby D_jdk_68_method_2_code_38) (by decide) (by decide) ?_
  intro vmR CR
  exact ⟨a2, k3, rfl, ((((Keep.refl h [a]).trans KE6 all0).trans K14 (allS (by first | (left; simp; done) | (right; omega)) all0)).trans K25 (allS (by first | (left; simp; done) | (right; omega)) all0)), (by omega), f28, f29, f30, f31, (Safe.to CR (by omega) f32)⟩
set_option maxRecDepth 65536 in
set_option maxHeartbeats 40000000 in
theorem c_SBinit {l : Launch} {Z : State} {a0 : Array Value} {EL : List (String × Nat)} {nw fk : Prop} {zc : Int32} {sf : Value} (g : GH Z a0 EL zc sf) (h : Heap) (a : Addr) (ga : Z.heap.size ≤ a) (e0 : Exa Z h a "java/lang/StringBuilder") (e1 : Fld Z h a "java/lang/AbstractStringBuilder" "count" "I" (.int 0)) (e2 : Fld Z h a "java/lang/AbstractStringBuilder" "coder" "B" (.int 0)) (e3 : Fld Z h a "java/lang/AbstractStringBuilder" "value" "[B" .null) (zz : Z.heap.size ≤ h.size) :
    Ct l Z EL nw fk [] ⟨"java/lang/StringBuilder", "<init>", "()V"⟩ jdk_67_method_1_code 1 none ({ frames := 2, cells := 1, slots := 16, locals := 25 } : Room) #[(.ref a)] h [] (fun res vm' h' => ∃ d : Addr, ∃ kd : ClassId, res = none ∧ Keep h h' [a] ∧ h.size ≤ d ∧ Fld Z h' a "java/lang/AbstractStringBuilder" "count" "I" (.int (0 : Nat).toInt32) ∧ Fld Z h' a "java/lang/AbstractStringBuilder" "coder" "B" (.int 0) ∧ Fld Z h' a "java/lang/AbstractStringBuilder" "value" "[B" (.ref d) ∧ Ar Z h' d kd .byte ((pad [] 16).map Value.int) ∧ Safe Z EL vm' h' d) := by
  have ye0 := ltN e0.lt
  have ye1 := ltN e1.lt
  have ye2 := ltN e2.lt
  have ye3 := ltN e3.lt
  refine Ct.of_go (a0 := a0) g.2.1 (plainFor_of_name pn_6) (L0 := #[.val (.ref a)]) (fun m => by first | (simp [entryFrame, mkF, argsToLocals, Value.category, own_rep]; done) | rfl) ?_
  intro p e s m below meth c hown hby hml hret hnm hZ hC hO hsf
  refine Go.aloadN (hb hby D_jdk_67_method_1_code_0) (pc' := 1) rfl rfl rfl ?_
  refine Go.bipush (hb hby D_jdk_67_method_1_code_1) (pc' := 3) rfl (z := (16 : Int32)) rfl ?_
  refine Go.callC (c_ABinit (l := l) (nw := nw) (fk := fk) g h a (by first | omega | assumption | decide) e0 e1 e2 e3 (by omega)) hown rfl rfl (wd_48 g) (wd_49 g) (wd_53 g) (wd_52 g) (by decide) (argsL := [(.int (16 : Int32))]) (lenOf pd_13 rfl) rfl (by rw [hml]; rfl) (W := 0) rfl (hb hby D_jdk_67_method_1_code_3) (pc' := 6) rfl (by decide) (by decide) (by decide) (by decide) all0 ?_
  rintro _ vm1 h1 ⟨d_1, kd_1, rfl, K1, p1_0, o1_0, o1_1, o1_2, o1_3, o1_4⟩ C1
  have z1 := K1.1
  have yo1_3 := ltN o1_3.lt
  -- pc 6
  refine Go.ret hret (hb hby D_jdk_67_method_1_code_6) (by decide) (by decide) ?_
  intro vmR CR
  exact ⟨d_1, kd_1, rfl, ((Keep.refl h [a]).trans K1 (allS (by first | (left; simp; done) | (right; omega)) all0)), (by omega), o1_0, o1_1, o1_2, o1_3, (Safe.to CR (by omega) o1_4)⟩
set_option maxRecDepth 65536 in
set_option maxHeartbeats 40000000 in
theorem c_getValue {l : Launch} {Z : State} {a0 : Array Value} {EL : List (String × Nat)} {nw fk : Prop} {zc : Int32} {sf : Value} (g : GH Z a0 EL zc sf) (h : Heap) (a : Addr) (d : Addr) (e0 : Fld Z h a "java/lang/AbstractStringBuilder" "value" "[B" (.ref d)) (zz : Z.heap.size ≤ h.size) :
    Ct l Z EL nw fk [] ⟨"java/lang/AbstractStringBuilder", "getValue", "()[B"⟩ jdk_68_method_64_code 1 (some (.array .byte)) ({ frames := 0, cells := 0, slots := 0, locals := 0 } : Room) #[(.ref a)] h [] (fun res vm' h' => res = some (.ref d) ∧ Keep h h' []) := by
  have ye0 := ltN e0.lt
  refine Ct.of_go (a0 := a0) g.2.1 (plainFor_of_name pn_4) (L0 := #[.val (.ref a)]) (fun m => by first | (simp [entryFrame, mkF, argsToLocals, Value.category, own_rep]; done) | rfl) ?_
  intro p e s m below meth c hown hby hml hret hnm hZ hC hO hsf
  refine Go.aloadN (hb hby D_jdk_68_method_64_code_0) (pc' := 1) rfl rfl rfl ?_
  refine Go.getF hown (wd_56 g) Via.refl e0 (hb hby D_jdk_68_method_64_code_1) (pc' := 4) rfl ?_
  refine Go.retA hret rfl rfl (hb hby D_jdk_68_method_64_code_4) (by decide) (by decide) ?_
  intro vmR CR
  exact ⟨(by first | rfl | (simp only [own_nar]; done) | (congr 2; done)), (Keep.refl h [])⟩
set_option maxRecDepth 65536 in
set_option maxHeartbeats 40000000 in
theorem c_ABlen {l : Launch} {Z : State} {a0 : Array Value} {EL : List (String × Nat)} {nw fk : Prop} {zc : Int32} {sf : Value} (g : GH Z a0 EL zc sf) (h : Heap) (a : Addr) (N : Nat) (e0 : Fld Z h a "java/lang/AbstractStringBuilder" "count" "I" (.int N.toInt32)) (zz : Z.heap.size ≤ h.size) :
    Ct l Z EL nw fk [] ⟨"java/lang/AbstractStringBuilder", "length", "()I"⟩ jdk_68_method_6_code 1 (some .int) ({ frames := 0, cells := 0, slots := 0, locals := 0 } : Room) #[(.ref a)] h [] (fun res vm' h' => res = some (.int N.toInt32) ∧ Keep h h' []) := by
  have ye0 := ltN e0.lt
  refine Ct.of_go (a0 := a0) g.2.1 (plainFor_of_name pn_4) (L0 := #[.val (.ref a)]) (fun m => by first | (simp [entryFrame, mkF, argsToLocals, Value.category, own_rep]; done) | rfl) ?_
  intro p e s m below meth c hown hby hml hret hnm hZ hC hO hsf
  refine Go.aloadN (hb hby D_jdk_68_method_6_code_0) (pc' := 1) rfl rfl rfl ?_
  refine Go.getF hown (wd_81 g) Via.refl e0 (hb hby D_jdk_68_method_6_code_1) (pc' := 4) rfl ?_
  refine Go.retI hret (hb hby D_jdk_68_method_6_code_4) (by decide) (by decide) ?_
  intro vmR CR
  exact ⟨(by first | rfl | (simp only [own_nar]; done) | (congr 2; done)), (Keep.refl h [])⟩
set_option maxRecDepth 65536 in
set_option maxHeartbeats 40000000 in
theorem c_SBlen {l : Launch} {Z : State} {a0 : Array Value} {EL : List (String × Nat)} {nw fk : Prop} {zc : Int32} {sf : Value} (g : GH Z a0 EL zc sf) (h : Heap) (a : Addr) (N : Nat) (e0 : Exa Z h a "java/lang/StringBuilder") (e1 : Fld Z h a "java/lang/AbstractStringBuilder" "count" "I" (.int N.toInt32)) (zz : Z.heap.size ≤ h.size) :
    Ct l Z EL nw fk [] ⟨"java/lang/StringBuilder", "length", "()I"⟩ jdk_67_method_93_code 1 (some .int) ({ frames := 1, cells := 0, slots := 0, locals := 12 } : Room) #[(.ref a)] h [] (fun res vm' h' => res = some (.int N.toInt32) ∧ Keep h h' []) := by
  have ye0 := ltN e0.lt
  have ye1 := ltN e1.lt
  refine Ct.of_go (a0 := a0) g.2.1 (plainFor_of_name pn_6) (L0 := #[.val (.ref a)]) (fun m => by first | (simp [entryFrame, mkF, argsToLocals, Value.category, own_rep]; done) | rfl) ?_
  intro p e s m below meth c hown hby hml hret hnm hZ hC hO hsf
  refine Go.aloadN (hb hby D_jdk_67_method_93_code_0) (pc' := 1) rfl rfl rfl ?_
  refine Go.callU (c_ABlen (l := l) (nw := nw) (fk := fk) g h a N e1 (by omega)) hown (wd_132 g) (same_of_declares (wd_127 g) (nf_same (notFace_of_selects (wd_124 g)) (wd_122 g) rfl) (by decide)) (wd_128 g) (wd_68 g) (by decide) (Ins.self e0) (wd_133 g) (wd_52 g) (by decide) (argsL := []) (lenOf pd_12 rfl) rfl (by rw [hml]; rfl) (W := 0) rfl (hb hby D_jdk_67_method_93_code_1) (pc' := 4) rfl (by decide) (by decide) (by decide) (by decide) all0 ?_
  rintro _ vm1 h1 ⟨rfl, K1⟩ C1
  have z1 := K1.1
  -- pc 4
  refine Go.retI hret (hb hby D_jdk_67_method_93_code_4) (by decide) (by decide) ?_
  intro vmR CR
  exact ⟨(by first | rfl | (simp only [own_nar]; done) | (congr 2; done)), ((Keep.refl h []).trans K1 all0)⟩
set_option maxRecDepth 65536 in
set_option maxHeartbeats 40000000 in
theorem c_ABlat {l : Launch} {Z : State} {a0 : Array Value} {EL : List (String × Nat)} {nw fk : Prop} {zc : Int32} {sf : Value} (g : GH Z a0 EL zc sf) (h : Heap) (a : Addr) (e0 : Fld Z h a "java/lang/AbstractStringBuilder" "coder" "B" (.int 0)) (zz : Z.heap.size ≤ h.size) :
    Ct l Z EL nw fk [] ⟨"java/lang/AbstractStringBuilder", "isLatin1", "()Z"⟩ jdk_68_method_68_code 1 (some .boolean) ({ frames := 0, cells := 0, slots := 0, locals := 0 } : Room) #[(.ref a)] h [] (fun res vm' h' => res = some (.int (1 : Int32)) ∧ Keep h h' []) := by
  have ye0 := ltN e0.lt
  refine Ct.of_go (a0 := a0) g.2.1 (plainFor_of_name pn_4) (L0 := #[.val (.ref a)]) (fun m => by first | (simp [entryFrame, mkF, argsToLocals, Value.category, own_rep]; done) | rfl) ?_
  intro p e s m below meth c hown hby hml hret hnm hZ hC hO hsf
  refine Go.getS hown (wd_55 g) Via.refl g.2.2.2.2.1 (hb hby D_jdk_68_method_68_code_0) (pc' := 3) rfl ?_
  refine Go.ifN (hb hby D_jdk_68_method_68_code_3) (pc' := 6) rfl g.2.2.2.2.2.1 ?_
  refine Go.aloadN (hb hby D_jdk_68_method_68_code_6) (pc' := 7) rfl rfl rfl ?_
  refine Go.getF hown (wd_58 g) Via.refl e0 (hb hby D_jdk_68_method_68_code_7) (pc' := 10) rfl ?_
  refine Go.ifN (hb hby D_jdk_68_method_68_code_10) (pc' := 13) rfl (show ¬ ¬ (0 : Int32) = 0 from by decide) ?_
  refine Go.iconst (hb hby D_jdk_68_method_68_code_13) (pc' := 14) rfl (z := (1 : Int32)) rfl ?_
  refine Go.goto (hb hby D_jdk_68_method_68_code_14) (by decide) (pc' := 18) (by decide) ?_
  refine Go.retN (t := .boolean) hret (by simp) (hb hby D_jdk_68_method_68_code_18) (by decide) (by decide) ?_
  intro vmR CR
  exact ⟨(by first | rfl | (simp only [own_nar]; done) | (congr 2; done)), (Keep.refl h [])⟩
set_option maxRecDepth 65536 in
set_option maxHeartbeats 40000000 in
theorem c_chkLen {l : Launch} {Z : State} {a0 : Array Value} {EL : List (String × Nat)} {nw fk : Prop} {zc : Int32} {sf : Value} (g : GH Z a0 EL zc sf) (h : Heap) (q : Nat) (hq : q < 2 ^ 31) (zz : Z.heap.size ≤ h.size) :
    Ct l Z EL nw fk [] ⟨"java/util/Arrays", "checkLength", "(II)V"⟩ jdk_65_method_131_code 2 none ({ frames := 0, cells := 0, slots := 0, locals := 0 } : Room) #[(.int (0 : Int32)), (.int q.toInt32)] h [] (fun res vm' h' => res = none ∧ Keep h h' []) := by
  refine Ct.of_go (a0 := a0) g.2.1 (plainFor_of_name pn_5) (L0 := #[.val (.int (0 : Int32)), .val (.int q.toInt32)]) (fun m => by first | (simp [entryFrame, mkF, argsToLocals, Value.category, own_rep]; done) | rfl) ?_
  intro p e s m below meth c hown hby hml hret hnm hZ hC hO hsf
  refine Go.iloadN (hb hby D_jdk_65_method_131_code_0) (pc' := 1) rfl rfl ?_
  refine Go.iloadN (hb hby D_jdk_65_method_131_code_1) (pc' := 2) rfl rfl ?_
  refine Go.icmpY (hb hby D_jdk_65_method_131_code_2) (by decide) (pc' := 37) (by decide) (nneg32 hq) ?_
  refine Go.ret hret (hb hby D_jdk_65_method_131_code_37) (by decide) (by decide) ?_
  intro vmR CR
  exact ⟨rfl, (Keep.refl h [])⟩
set_option maxRecDepth 65536 in
set_option maxHeartbeats 40000000 in
theorem c_copyRB {l : Launch} {Z : State} {a0 : Array Value} {EL : List (String × Nat)} {nw fk : Prop} {zc : Int32} {sf : Value} (g : GH Z a0 EL zc sf) (h : Heap) (d : Addr) (kd : ClassId) (bs : List Int32) (cap : Nat) (N : Nat) (hN : bs.length = N) (hlt : N < cap) (hc5 : cap ≤ 150) (fb : Byt bs) (e0 : Ar Z h d kd .byte ((pad bs cap).map Value.int)) (zz : Z.heap.size ≤ h.size) :
    Ct l Z EL nw fk [] ⟨"java/util/Arrays", "copyOfRangeByte", "([BII)[B"⟩ jdk_65_method_133_code 5 (some (.array .byte)) ({ frames := 1, cells := 1, slots := 150, locals := 18 } : Room) #[(.ref d), (.int (0 : Int32)), (.int N.toInt32)] h [] (fun res vm' h' => ∃ d2 : Addr, ∃ k2 : ClassId, res = some (.ref d2) ∧ Keep h h' [] ∧ h.size ≤ d2 ∧ Ar Z h' d2 k2 .byte (bs.map Value.int) ∧ Safe Z EL vm' h' d2) := by
  have ye0 := ltN e0.lt
  refine Ct.of_go (a0 := a0) g.2.1 (plainFor_of_name pn_5) (L0 := #[.val (.ref d), .val (.int (0 : Int32)), .val (.int N.toInt32), .unset, .unset]) (fun m => by first | (simp [entryFrame, mkF, argsToLocals, Value.category, own_rep]; done) | rfl) ?_
  intro p e s m below meth c hown hby hml hret hnm hZ hC hO hsf
  refine Go.iloadN (hb hby D_jdk_65_method_133_code_0) (pc' := 1) rfl rfl ?_
  refine Go.iloadN (hb hby D_jdk_65_method_133_code_1) (pc' := 2) rfl rfl ?_
  refine Go.callS (c_chkLen (l := l) (nw := nw) (fk := fk) g h N (by omega) (by omega)) hown (wd_146 g) (wd_147 g) (wd_148 g) (wd_141 g) (by decide) (argsL := [(.int (0 : Int32)), (.int N.toInt32)]) (lenOf pd_16 rfl) rfl (by rw [hml]; rfl) (W := 0) rfl (hb hby D_jdk_65_method_133_code_2) (pc' := 5) rfl (by decide) (by decide) (by decide) (by decide) all0 ?_
  rintro _ vm1 h1 ⟨rfl, K1⟩ C1
  have z1 := K1.1
  -- pc 5
  refine Go.iloadN (hb hby D_jdk_65_method_133_code_5) (pc' := 6) rfl rfl ?_
  refine Go.iloadN (hb hby D_jdk_65_method_133_code_6) (pc' := 7) rfl rfl ?_
  refine Go.isub (hb hby D_jdk_65_method_133_code_7) (pc' := 8) rfl ?_
  rw [show (N.toInt32 - (0 : Int32)) = N.toInt32 from Int32.sub_zero _]
  refine Go.istoreN (hb hby D_jdk_65_method_133_code_8) (pc' := 9) rfl (L' := #[.val (.ref d), .val (.int (0 : Int32)), .val (.int N.toInt32), .val (.int N.toInt32), .unset]) rfl ?_
  refine Go.iloadN (hb hby D_jdk_65_method_133_code_9) (pc' := 10) rfl rfl ?_
  refine Go.newP (ty := .byte) rfl (wd_24 g) (hb hby D_jdk_65_method_133_code_10) (pc' := 12) rfl (nneg32 (by omega)) (cap := 150) (by rw [clamp_nat (by omega)]; omega) (by decide) (by decide) (by decide) ?_
  intro h2 a3 k4 g5 l6 E7 A8 S9 C10
  have KE7 := Keep.ofExt E7; have zE7 := E7.1
  have A8 : Ar Z h2 a3 k4 .byte (List.replicate N.toInt32.toNatClampNeg (.int 0)) := A8
  refine Go.astore (hb hby D_jdk_65_method_133_code_12) (pc' := 14) rfl rfl (L' := #[.val (.ref d), .val (.int (0 : Int32)), .val (.int N.toInt32), .val (.int N.toInt32), .val (.ref a3)]) rfl ?_
  refine Go.aloadN (hb hby D_jdk_65_method_133_code_14) (pc' := 15) rfl rfl rfl ?_
  refine Go.iloadN (hb hby D_jdk_65_method_133_code_15) (pc' := 16) rfl rfl ?_
  refine Go.aload (hb hby D_jdk_65_method_133_code_16) (pc' := 18) rfl rfl rfl ?_
  refine Go.iconst (hb hby D_jdk_65_method_133_code_18) (pc' := 19) rfl (z := (0 : Int32)) rfl ?_
  refine Go.aloadN (hb hby D_jdk_65_method_133_code_19) (pc' := 20) rfl rfl rfl ?_
  have f11 : Ar Z h2 d kd .byte ((pad bs cap).map Value.int) := ((e0.keep K1 nin0).keep KE7 nin0)
  refine Go.alen f11 (z := cap.toInt32) (by rw [pad_len (by omega)]) (hb hby D_jdk_65_method_133_code_20) (pc' := 21) rfl ?_
  refine Go.iloadN (hb hby D_jdk_65_method_133_code_21) (pc' := 22) rfl rfl ?_
  refine Go.isub (hb hby D_jdk_65_method_133_code_22) (pc' := 23) rfl ?_
  rw [show (cap.toInt32 - (0 : Int32)) = cap.toInt32 from Int32.sub_zero _]
  refine Go.iloadN (hb hby D_jdk_65_method_133_code_23) (pc' := 24) rfl rfl ?_
  refine Go.callS (c_min2 (l := l) (nw := nw) (fk := fk) g h2 cap.toInt32 N.toInt32 ((lt32 (by omega) (by omega)).mpr hlt) (by omega)) hown (wd_149 g) (wd_150 g) (wd_152 g) (wd_151 g) (by decide) (argsL := [(.int cap.toInt32), (.int N.toInt32)]) (lenOf pd_5 rfl) rfl (by rw [hml]; rfl) (W := 4) rfl (hb hby D_jdk_65_method_133_code_24) (pc' := 27) rfl (by decide) (by decide) (by decide) (by decide) all0 ?_
  rintro _ vm12 h12 ⟨rfl, K12⟩ C12
  have z12 := K12.1
  -- pc 27
  have f13 : Ar Z h12 d kd .byte ((pad bs cap).map Value.int) := (f11.keep K12 nin0)
  have f14 : Ar Z h12 a3 k4 .byte (List.replicate N.toInt32.toNatClampNeg (.int 0)) := (A8.keep K12 nin0)
  have f15 : Safe Z EL vm12 h12 a3 := (Safe.to C12 (by omega) S9)
  refine Go.acopy hown (wd_153 g) (wd_107 g) (wd_105 g) (wd_106 g) f13 f14 (fb.pad _) (Byt.rep _) (by rw [pad_len (by omega)]; omega) (by rw [List.length_replicate, clamp_nat (by omega)]; omega) (by decide) (by decide) (nneg32 (by omega)) (by rw [clamp_nat (by omega), pad_len (by omega)]; show 0 + N ≤ cap; omega) (by rw [clamp_nat (by omega), List.length_replicate]; exact Nat.le_of_eq (Nat.zero_add _)) f15 (by omega) (by rw [hml]; rfl) (W := 0) rfl (hb hby D_jdk_65_method_133_code_27) (pc' := 30) rfl (by decide) (by decide) ?_
  intro h16 A17 K18 S19 C20
  have zK18 := K18.1
  have A17 : Ar Z h16 a3 k4 .byte (bs.map Value.int) := by have q9 := A17; rw [clamp_nat (show N < 2 ^ 31 by omega), show Int32.toNatClampNeg 0 = 0 from rfl, ← hN, cp_range (by omega)] at q9; exact q9
  refine Go.aload (hb hby D_jdk_65_method_133_code_30) (pc' := 32) rfl rfl rfl ?_
  refine Go.retA hret rfl rfl (hb hby D_jdk_65_method_133_code_32) (by decide) (by decide) ?_
  intro vmR CR
  exact ⟨a3, k4, (by first | rfl | (simp only [own_nar]; done) | (congr 2; done)), (((((Keep.refl h []).trans K1 all0).trans KE7 all0).trans K12 all0).trans K18 (allS (by first | (left; simp; done) | (right; omega)) all0)), (by omega), A17, (Safe.to CR (by omega) S19)⟩
set_option maxRecDepth 65536 in
set_option maxHeartbeats 40000000 in
theorem c_copyR {l : Launch} {Z : State} {a0 : Array Value} {EL : List (String × Nat)} {nw fk : Prop} {zc : Int32} {sf : Value} (g : GH Z a0 EL zc sf) (h : Heap) (d : Addr) (kd : ClassId) (bs : List Int32) (cap : Nat) (N : Nat) (hN : bs.length = N) (hlt : N < cap) (hc5 : cap ≤ 150) (fb : Byt bs) (e0 : Ar Z h d kd .byte ((pad bs cap).map Value.int)) (zz : Z.heap.size ≤ h.size) :
    Ct l Z EL nw fk [] ⟨"java/util/Arrays", "copyOfRange", "([BII)[B"⟩ jdk_65_method_132_code 3 (some (.array .byte)) ({ frames := 2, cells := 1, slots := 150, locals := 34 } : Room) #[(.ref d), (.int (0 : Int32)), (.int N.toInt32)] h [] (fun res vm' h' => ∃ d2 : Addr, ∃ k2 : ClassId, res = some (.ref d2) ∧ Keep h h' [] ∧ h.size ≤ d2 ∧ Ar Z h' d2 k2 .byte (bs.map Value.int) ∧ Safe Z EL vm' h' d2) := by
  have ye0 := ltN e0.lt
  refine Ct.of_go (a0 := a0) g.2.1 (plainFor_of_name pn_5) (L0 := #[.val (.ref d), .val (.int (0 : Int32)), .val (.int N.toInt32)]) (fun m => by first | (simp [entryFrame, mkF, argsToLocals, Value.category, own_rep]; done) | rfl) ?_
  intro p e s m below meth c hown hby hml hret hnm hZ hC hO hsf
  refine Go.iloadN (hb hby D_jdk_65_method_132_code_0) (pc' := 1) rfl rfl ?_
  refine Go.ifN (hb hby D_jdk_65_method_132_code_1) (pc' := 4) rfl (show ¬ (¬ (0 : Int32) = (0 : Int32)) from by decide) ?_
  refine Go.iloadN (hb hby D_jdk_65_method_132_code_4) (pc' := 5) rfl rfl ?_
  refine Go.aloadN (hb hby D_jdk_65_method_132_code_5) (pc' := 6) rfl rfl rfl ?_
  refine Go.alen e0 (z := cap.toInt32) (by rw [pad_len (by omega)]) (hb hby D_jdk_65_method_132_code_6) (pc' := 7) rfl ?_
  refine Go.icmpN (hb hby D_jdk_65_method_132_code_7) (pc' := 10) rfl (fun z => by have := (eq32 (by omega) (by omega)).mp z; omega) ?_
  refine Go.aloadN (hb hby D_jdk_65_method_132_code_10) (pc' := 11) rfl rfl rfl ?_
  refine Go.iloadN (hb hby D_jdk_65_method_132_code_11) (pc' := 12) rfl rfl ?_
  refine Go.iloadN (hb hby D_jdk_65_method_132_code_12) (pc' := 13) rfl rfl ?_
  refine Go.callS (c_copyRB (l := l) (nw := nw) (fk := fk) g h d kd bs cap N hN hlt hc5 fb e0 (by omega)) hown (wd_143 g) (wd_144 g) (wd_145 g) (wd_141 g) (by decide) (argsL := [(.ref d), (.int (0 : Int32)), (.int N.toInt32)]) (lenOf pd_17 rfl) rfl (by rw [hml]; rfl) (W := 0) rfl (hb hby D_jdk_65_method_132_code_13) (pc' := 16) rfl (by decide) (by decide) (by decide) (by decide) all0 ?_
  rintro _ vm1 h1 ⟨d2_1, k2_1, rfl, K1, p1_0, o1_0, o1_1⟩ C1
  have z1 := K1.1
  have yo1_0 := ltN o1_0.lt
  -- pc 16
  refine Go.retA hret rfl rfl (hb hby D_jdk_65_method_132_code_16) (by decide) (by decide) ?_
  intro vmR CR
  exact ⟨d2_1, k2_1, (by first | rfl | (simp only [own_nar]; done) | (congr 2; done)), ((Keep.refl h []).trans K1 all0), (by omega), o1_0, (Safe.to CR (by omega) o1_1)⟩
set_option maxRecDepth 65536 in
set_option maxHeartbeats 40000000 in
theorem c_strOfAB {l : Launch} {Z : State} {a0 : Array Value} {EL : List (String × Nat)} {nw fk : Prop} {zc : Int32} {sf : Value} (g : GH Z a0 EL zc sf) (h : Heap) (r : Addr) (a : Addr) (d : Addr) (kd : ClassId) (bs : List Int32) (cap : Nat) (N : Nat) (hN : bs.length = N) (hlt : N < cap) (hc5 : cap ≤ 150) (fb : Byt bs) (gr : Z.heap.size ≤ r) (e0 : Exa Z h r "java/lang/String") (e1 : Fld Z h r "java/lang/String" "coder" "B" (.int 0)) (e2 : Fld Z h r "java/lang/String" "value" "[B" .null) (e3 : Exa Z h a "java/lang/StringBuilder") (e4 : Fld Z h a "java/lang/AbstractStringBuilder" "count" "I" (.int N.toInt32)) (e5 : Fld Z h a "java/lang/AbstractStringBuilder" "coder" "B" (.int 0)) (e6 : Fld Z h a "java/lang/AbstractStringBuilder" "value" "[B" (.ref d)) (e7 : Ar Z h d kd .byte ((pad bs cap).map Value.int)) (zz : Z.heap.size ≤ h.size) :
    Ct l Z EL nw fk [] ⟨"java/lang/String", "<init>", "(Ljava/lang/AbstractStringBuilder;Ljava/lang/Void;)V"⟩ jdk_42_method_150_code 5 none ({ frames := 3, cells := 1, slots := 150, locals := 49 } : Room) #[(.ref r), (.ref a), .null] h [r] (fun res vm' h' => ∃ d2 : Addr, ∃ k2 : ClassId, res = none ∧ Keep h h' [r] ∧ h.size ≤ d2 ∧ St Z h' r d2 k2 bs) := by
  have ye0 := ltN e0.lt
  have ye1 := ltN e1.lt
  have ye2 := ltN e2.lt
  have ye3 := ltN e3.lt
  have ye4 := ltN e4.lt
  have ye5 := ltN e5.lt
  have ye6 := ltN e6.lt
  have ye7 := ltN e7.lt
  refine Ct.of_go (a0 := a0) g.2.1 (plainFor_of_name pn_1) (L0 := #[.val (.ref r), .val (.ref a), .val .null, .unset, .unset]) (fun m => by first | (simp [entryFrame, mkF, argsToLocals, Value.category, own_rep]; done) | rfl) ?_
  intro p e s m below meth c hown hby hml hret hnm hZ hC hO hsf
  refine Go.aloadN (hb hby D_jdk_42_method_150_code_0) (pc' := 1) rfl rfl rfl ?_
  refine Go.initO hown (wd_16 g) (wd_17 g) (wd_18 g) (by rw [hml]; rfl) (hb hby D_jdk_42_method_150_code_1) (by decide) (W := 0) rfl (by decide) (pc' := 4) rfl ?_
  refine Go.aloadN (hb hby D_jdk_42_method_150_code_4) (pc' := 5) rfl rfl rfl ?_
  refine Go.callV (y0 := ⟨"java/lang/AbstractStringBuilder", "getValue", "()[B"⟩) (c_getValue (l := l) (nw := nw) (fk := fk) g h a d e6 (by omega)) hown (wd_121 g) (wd_122 g) (notFace_of_selects (wd_124 g)) (wd_124 g) (wd_123 g) e3 (wd_125 g) (wd_52 g) (by decide) (argsL := []) (lenOf pd_18 rfl) rfl (by rw [hml]; rfl) (W := 0) rfl (hb hby D_jdk_42_method_150_code_5) (pc' := 8) rfl (by decide) (by decide) (by decide) (by decide) all0 ?_
  rintro _ vm1 h1 ⟨rfl, K1⟩ C1
  have z1 := K1.1
  -- pc 8
  refine Go.astoreN (hb hby D_jdk_42_method_150_code_8) (pc' := 9) rfl rfl (L' := #[.val (.ref r), .val (.ref a), .val .null, .val (.ref d), .unset]) rfl ?_
  refine Go.aloadN (hb hby D_jdk_42_method_150_code_9) (pc' := 10) rfl rfl rfl ?_
  have f2 : Exa Z h1 a "java/lang/StringBuilder" := (e3.keep K1)
  have f3 : Fld Z h1 a "java/lang/AbstractStringBuilder" "count" "I" (.int N.toInt32) := (e4.keep K1 nin0)
  refine Go.callV (y0 := ⟨"java/lang/AbstractStringBuilder", "length", "()I"⟩) (c_SBlen (l := l) (nw := nw) (fk := fk) g h1 a N f2 f3 (by omega)) hown (wd_126 g) (wd_127 g) (nf_same (notFace_of_selects (wd_124 g)) (wd_122 g) rfl) (wd_129 g) (wd_130 g) f2 (wd_131 g) (wd_44 g) (by decide) (argsL := []) (lenOf pd_12 rfl) rfl (by rw [hml]; rfl) (W := 0) rfl (hb hby D_jdk_42_method_150_code_10) (pc' := 13) rfl (by decide) (by decide) (by decide) (by decide) all0 ?_
  rintro _ vm4 h4 ⟨rfl, K4⟩ C4
  have z4 := K4.1
  -- pc 13
  refine Go.istore (hb hby D_jdk_42_method_150_code_13) (pc' := 15) rfl (L' := #[.val (.ref r), .val (.ref a), .val .null, .val (.ref d), .val (.int N.toInt32)]) rfl ?_
  refine Go.aloadN (hb hby D_jdk_42_method_150_code_15) (pc' := 16) rfl rfl rfl ?_
  have f5 : Fld Z h4 a "java/lang/AbstractStringBuilder" "coder" "B" (.int 0) := ((e5.keep K1 nin0).keep K4 nin0)
  have f6 : Exa Z h4 a "java/lang/StringBuilder" := (f2.keep K4)
  refine Go.callV (y0 := ⟨"java/lang/AbstractStringBuilder", "isLatin1", "()Z"⟩) (c_ABlat (l := l) (nw := nw) (fk := fk) g h4 a f5 (by omega)) hown (wd_134 g) (wd_135 g) (notFace_of_selects (wd_137 g)) (wd_137 g) (wd_136 g) f6 (wd_138 g) (wd_52 g) (by decide) (argsL := []) (lenOf pd_19 rfl) rfl (by rw [hml]; rfl) (W := 0) rfl (hb hby D_jdk_42_method_150_code_16) (pc' := 19) rfl (by decide) (by decide) (by decide) (by decide) all0 ?_
  rintro _ vm7 h7 ⟨rfl, K7⟩ C7
  have z7 := K7.1
  -- pc 19
  refine Go.ifN (hb hby D_jdk_42_method_150_code_19) (pc' := 22) rfl (show ¬ ((1 : Int32) = (0 : Int32)) from by decide) ?_
  refine Go.aloadN (hb hby D_jdk_42_method_150_code_22) (pc' := 23) rfl rfl rfl ?_
  refine Go.iconst (hb hby D_jdk_42_method_150_code_23) (pc' := 24) rfl (z := (0 : Int32)) rfl ?_
  have f8 : Fld Z h7 r "java/lang/String" "coder" "B" (.int 0) := (((e1.keep K1 nin0).keep K4 nin0).keep K7 nin0)
  have f9 : Exa Z h7 r "java/lang/String" := (((e0.keep K1).keep K4).keep K7)
  have f10 : Safe Z EL vm7 h7 r := (Safe.to C7 (by omega) (Safe.to C4 (by omega) (Safe.to C1 (by omega) (hsf _ (by simp)))))
  refine Go.putF hown (wd_31 g) Via.refl f8 f9 (Or.inr ⟨(wd_32 g), rfl, hnm⟩) (wd_6 g) (ty := .byte) (by decide) (v' := (.int (0 : Int32))) rfl (by first | rfl | exact fits_nar_byte _ ) (Or.inr f10) (by omega) (hb hby D_jdk_42_method_150_code_24) (pc' := 27) rfl ?_
  intro h11 W12 z14 K13 C15
  have f16 : Fld Z h7 r "java/lang/String" "value" "[B" .null := (((e2.keep K1 nin0).keep K4 nin0).keep K7 nin0)
  have f17 : Fld Z h11 r "java/lang/String" "coder" "B" (.int (0 : Int32)) := (Fld.same W12 f8)
  have f18 : Fld Z h11 r "java/lang/String" "value" "[B" .null := (Fld.other W12 f16 (Or.inr (slot_ne (Or.inr (wd_34 g)) (Or.inr (wd_32 g)) (by decide) (t := (.array .byte)) (t' := .byte) (by decide) (by decide))))
  refine Go.aloadN (hb hby D_jdk_42_method_150_code_27) (pc' := 28) rfl rfl rfl ?_
  refine Go.aloadN (hb hby D_jdk_42_method_150_code_28) (pc' := 29) rfl rfl rfl ?_
  refine Go.iconst (hb hby D_jdk_42_method_150_code_29) (pc' := 30) rfl (z := (0 : Int32)) rfl ?_
  refine Go.iload (hb hby D_jdk_42_method_150_code_30) (pc' := 32) rfl rfl ?_
  have f19 : Ar Z h11 d kd .byte ((pad bs cap).map Value.int) := ((((e7.keep K1 nin0).keep K4 nin0).keep K7 nin0).keep K13 (ninS (Ne.symm (Ar.ne_exa (((e7.keep K1 nin0).keep K4 nin0).keep K7 nin0) (((e0.keep K1).keep K4).keep K7) (wd_6 g))) nin0))
  refine Go.callS (c_copyR (l := l) (nw := nw) (fk := fk) g h11 d kd bs cap N hN hlt hc5 fb f19 (by omega)) hown (wd_139 g) (wd_140 g) (wd_142 g) (wd_141 g) (by decide) (argsL := [(.ref d), (.int (0 : Int32)), (.int N.toInt32)]) (lenOf pd_17 rfl) rfl (by rw [hml]; rfl) (W := 1) rfl (hb hby D_jdk_42_method_150_code_32) (pc' := 35) rfl (by decide) (by decide) (by decide) (by decide) all0 ?_
  rintro _ vm20 h20 ⟨d2_20, k2_20, rfl, K20, p20_0, o20_0, o20_1⟩ C20
  have z20 := K20.1
  have yo20_0 := ltN o20_0.lt
  -- pc 35
  have f21 : Fld Z h20 r "java/lang/String" "value" "[B" .null := (f18.keep K20 nin0)
  have f22 : Exa Z h20 r "java/lang/String" := ((f9.keep K13).keep K20)
  have f23 : Safe Z EL vm20 h20 r := (Safe.to C20 (by omega) (Safe.to C15 (by omega) f10))
  refine Go.putF hown (wd_33 g) Via.refl f21 f22 (Or.inr ⟨(wd_34 g), rfl, hnm⟩) (wd_6 g) (ty := (.array .byte)) (by decide) rfl rfl (Or.inr f23) (by omega) (hb hby D_jdk_42_method_150_code_35) (pc' := 38) rfl ?_
  intro h24 W25 z27 K26 C28
  have f29 : Fld Z h20 r "java/lang/String" "coder" "B" (.int (0 : Int32)) := (f17.keep K20 nin0)
  have f30 : Fld Z h24 r "java/lang/String" "coder" "B" (.int (0 : Int32)) := (Fld.other W25 f29 (Or.inr (slot_ne (Or.inr (wd_32 g)) (Or.inr (wd_34 g)) (by decide) (t := .byte) (t' := (.array .byte)) (by decide) (by decide))))
  have f31 : Fld Z h24 r "java/lang/String" "value" "[B" (.ref d2_20) := (Fld.same W25 f21)
  refine Go.goto (hb hby D_jdk_42_method_150_code_38) (by decide) (pc' := 97) (by decide) ?_
  have f32 : Exa Z h24 r "java/lang/String" := (f22.keep K26)
  have f33 : Ar Z h24 d2_20 k2_20 .byte (bs.map Value.int) := (o20_0.keep K26 (ninS (Ne.symm (Ar.ne_exa o20_0 (((((e0.keep K1).keep K4).keep K7).keep K13).keep K20) (wd_6 g))) nin0))
  have f34 : St Z h24 r d2_20 k2_20 bs := ⟨f32, f30, f31, f33, by omega⟩
  refine Go.ret hret (hb hby D_jdk_42_method_150_code_97) (by decide) (by decide) ?_
  intro vmR CR
  exact ⟨d2_20, k2_20, rfl, (((((((Keep.refl h [r]).trans K1 all0).trans K4 all0).trans K7 all0).trans K13 (allS (by first | (left; simp; done) | (right; omega)) all0)).trans K20 all0).trans K26 (allS (by first | (left; simp; done) | (right; omega)) all0)), (by omega), f34⟩
set_option maxRecDepth 65536 in
set_option maxHeartbeats 40000000 in
theorem c_strOfSB {l : Launch} {Z : State} {a0 : Array Value} {EL : List (String × Nat)} {nw fk : Prop} {zc : Int32} {sf : Value} (g : GH Z a0 EL zc sf) (h : Heap) (r : Addr) (a : Addr) (d : Addr) (kd : ClassId) (bs : List Int32) (cap : Nat) (N : Nat) (hN : bs.length = N) (hlt : N < cap) (hc5 : cap ≤ 150) (fb : Byt bs) (gr : Z.heap.size ≤ r) (e0 : Exa Z h r "java/lang/String") (e1 : Fld Z h r "java/lang/String" "coder" "B" (.int 0)) (e2 : Fld Z h r "java/lang/String" "value" "[B" .null) (e3 : Exa Z h a "java/lang/StringBuilder") (e4 : Fld Z h a "java/lang/AbstractStringBuilder" "count" "I" (.int N.toInt32)) (e5 : Fld Z h a "java/lang/AbstractStringBuilder" "coder" "B" (.int 0)) (e6 : Fld Z h a "java/lang/AbstractStringBuilder" "value" "[B" (.ref d)) (e7 : Ar Z h d kd .byte ((pad bs cap).map Value.int)) (zz : Z.heap.size ≤ h.size) :
    Ct l Z EL nw fk [] ⟨"java/lang/String", "<init>", "(Ljava/lang/StringBuilder;)V"⟩ jdk_42_method_53_code 2 none ({ frames := 4, cells := 1, slots := 150, locals := 65 } : Room) #[(.ref r), (.ref a)] h [r] (fun res vm' h' => ∃ d2 : Addr, ∃ k2 : ClassId, res = none ∧ Keep h h' [r] ∧ h.size ≤ d2 ∧ St Z h' r d2 k2 bs) := by
  have ye0 := ltN e0.lt
  have ye1 := ltN e1.lt
  have ye2 := ltN e2.lt
  have ye3 := ltN e3.lt
  have ye4 := ltN e4.lt
  have ye5 := ltN e5.lt
  have ye6 := ltN e6.lt
  have ye7 := ltN e7.lt
  refine Ct.of_go (a0 := a0) g.2.1 (plainFor_of_name pn_1) (L0 := #[.val (.ref r), .val (.ref a)]) (fun m => by first | (simp [entryFrame, mkF, argsToLocals, Value.category, own_rep]; done) | rfl) ?_
  intro p e s m below meth c hown hby hml hret hnm hZ hC hO hsf
  refine Go.aloadN (hb hby D_jdk_42_method_53_code_0) (pc' := 1) rfl rfl rfl ?_
  refine Go.aloadN (hb hby D_jdk_42_method_53_code_1) (pc' := 2) rfl rfl rfl ?_
  refine Go.aconstNull (hb hby D_jdk_42_method_53_code_2) (pc' := 3) rfl ?_
  refine Go.callC (c_strOfAB (l := l) (nw := nw) (fk := fk) g h r a d kd bs cap N hN hlt hc5 fb (by first | omega | assumption | decide) e0 e1 e2 e3 e4 e5 e6 e7 (by omega)) hown rfl rfl (wd_118 g) (wd_119 g) (wd_120 g) (wd_7 g) (by decide) (argsL := [(.ref a), .null]) (lenOf pd_20 rfl) rfl (by rw [hml]; rfl) (W := 0) rfl (hb hby D_jdk_42_method_53_code_3) (pc' := 6) rfl (by decide) (by decide) (by decide) (by decide) (allS ⟨by omega, (hsf _ (by simp))⟩ all0) ?_
  rintro _ vm1 h1 ⟨d2_1, k2_1, rfl, K1, p1_0, o1_0⟩ C1
  have z1 := K1.1
  have yo1_0 := ltN o1_0.lt; have yo1_0' := ltN o1_0.ltb
  -- pc 6
  refine Go.ret hret (hb hby D_jdk_42_method_53_code_6) (by decide) (by decide) ?_
  intro vmR CR
  exact ⟨d2_1, k2_1, rfl, ((Keep.refl h [r]).trans K1 (allS (by first | (left; simp; done) | (right; omega)) all0)), (by omega), o1_0⟩
set_option maxRecDepth 65536 in
set_option maxHeartbeats 40000000 in
theorem c_toString {l : Launch} {Z : State} {a0 : Array Value} {EL : List (String × Nat)} {nw fk : Prop} {zc : Int32} {sf : Value} (g : GH Z a0 EL zc sf) (h : Heap) (a : Addr) (d : Addr) (kd : ClassId) (bs : List Int32) (cap : Nat) (N : Nat) (hN : bs.length = N) (hlt : N < cap) (hc5 : cap ≤ 150) (fb : Byt bs) (e0 : Exa Z h a "java/lang/StringBuilder") (e1 : Fld Z h a "java/lang/AbstractStringBuilder" "count" "I" (.int N.toInt32)) (e2 : Fld Z h a "java/lang/AbstractStringBuilder" "coder" "B" (.int 0)) (e3 : Fld Z h a "java/lang/AbstractStringBuilder" "value" "[B" (.ref d)) (e4 : Ar Z h d kd .byte ((pad bs cap).map Value.int)) (zz : Z.heap.size ≤ h.size) :
    Ct l Z EL nw fk [] ⟨"java/lang/StringBuilder", "toString", "()Ljava/lang/String;"⟩ jdk_67_method_42_code 1 (some (.object "java/lang/String")) ({ frames := 5, cells := 2, slots := 154, locals := 79 } : Room) #[(.ref a)] h [] (fun res vm' h' => ∃ r : Addr, ∃ d2 : Addr, ∃ k2 : ClassId, res = some (.ref r) ∧ Keep h h' [] ∧ h.size ≤ r ∧ h.size ≤ d2 ∧ St Z h' r d2 k2 bs) := by
  have ye0 := ltN e0.lt
  have ye1 := ltN e1.lt
  have ye2 := ltN e2.lt
  have ye3 := ltN e3.lt
  have ye4 := ltN e4.lt
  refine Ct.of_go (a0 := a0) g.2.1 (plainFor_of_name pn_6) (L0 := #[.val (.ref a)]) (fun m => by first | (simp [entryFrame, mkF, argsToLocals, Value.category, own_rep]; done) | rfl) ?_
  intro p e s m below meth c hown hby hml hret hnm hZ hC hO hsf
  refine Go.newO hown (wd_114 g) (wd_6 g) (wd_7 g) (hb hby D_jdk_67_method_42_code_0) (pc' := 3) rfl (by decide) (by decide) ?_
  intro h1 a2 g3 l4 E5 X6 D7 S8 C9 N10
  have KE5 := Keep.ofExt E5; have zE5 := E5.1
  have f11 : Fld Z h1 a2 "java/lang/String" "coder" "B" (.int 0) := D7 (Or.inr (wd_32 g)) (ty := .byte) (by decide)
  have f12 : Fld Z h1 a2 "java/lang/String" "value" "[B" .null := D7 (Or.inr (wd_34 g)) (ty := (.array .byte)) (by decide)
  refine Go.dup (hb hby D_jdk_67_method_42_code_3) (pc' := 4) rfl rfl ?_
  refine Go.aloadN (hb hby D_jdk_67_method_42_code_4) (pc' := 5) rfl rfl rfl ?_
  have f13 : Exa Z h1 a "java/lang/StringBuilder" := (e0.keep KE5)
  have f14 : Fld Z h1 a "java/lang/AbstractStringBuilder" "count" "I" (.int N.toInt32) := (e1.keep KE5 nin0)
  have f15 : Fld Z h1 a "java/lang/AbstractStringBuilder" "coder" "B" (.int 0) := (e2.keep KE5 nin0)
  have f16 : Fld Z h1 a "java/lang/AbstractStringBuilder" "value" "[B" (.ref d) := (e3.keep KE5 nin0)
  have f17 : Ar Z h1 d kd .byte ((pad bs cap).map Value.int) := (e4.keep KE5 nin0)
  refine Go.callC (c_strOfSB (l := l) (nw := nw) (fk := fk) g h1 a2 a d kd bs cap N hN hlt hc5 fb (by first | omega | assumption | decide) X6 f11 f12 f13 f14 f15 f16 f17 (by omega)) hown rfl rfl (wd_115 g) (wd_116 g) (wd_117 g) (wd_7 g) (by decide) (argsL := [(.ref a)]) (lenOf pd_21 rfl) rfl (by rw [hml]; rfl) (W := 1) rfl (hb hby D_jdk_67_method_42_code_5) (pc' := 8) rfl (by decide) (by decide) (by decide) (by decide) (allS ⟨by omega, S8⟩ all0) ?_
  rintro _ vm18 h18 ⟨d2_18, k2_18, rfl, K18, p18_0, o18_0⟩ C18
  have z18 := K18.1
  have yo18_0 := ltN o18_0.lt; have yo18_0' := ltN o18_0.ltb
  -- pc 8
  refine Go.retA hret rfl rfl (hb hby D_jdk_67_method_42_code_8) (by decide) (by decide) ?_
  intro vmR CR
  exact ⟨a2, d2_18, k2_18, (by first | rfl | (simp only [own_nar]; done) | (congr 2; done)), (((Keep.refl h []).trans KE5 all0).trans K18 (allS (by first | (left; simp; done) | (right; omega)) all0)), (by omega), (by omega), o18_0⟩
set_option maxRecDepth 65536 in
set_option maxHeartbeats 40000000 in
theorem c_exact1 {l : Launch} {Z : State} {a0 : Array Value} {EL : List (String × Nat)} {nw fk : Prop} {zc : Int32} {sf : Value} (g : GH Z a0 EL zc sf) (hnw : ¬ nw) (h : Heap) (s0 : Addr) (d0 : Addr) (k0 : ClassId) (cs : List Int32) (hn : cs.length = (1 : Nat)) (fc : Byt cs) (e0 : St Z h s0 d0 k0 cs) (zz : Z.heap.size ≤ h.size) :
    Ct l Z EL nw fk [] ⟨"com/example/coffer/coffer/Ledger", "exactSum", "(Ljava/lang/String;)Ljava/lang/String;"⟩ prog_19_method_11_code 2 (some (.object "java/lang/String")) ({ frames := 6, cells := 25, slots := 1244, locals := 91 } : Room) #[(.ref s0)] h [] (fun res vm' h' => ∃ r : Addr, ∃ d2 : Addr, ∃ k2 : ClassId, res = some (.ref r) ∧ Keep h h' [] ∧ h.size ≤ r ∧ h.size ≤ d2 ∧ St Z h' r d2 k2 (sumS cs)) := by
  have ye0 := ltN e0.lt; have ye0' := ltN e0.ltb
  refine Ct.of_go (a0 := a0) g.2.1 (plainFor_of_name pn_7) (L0 := #[.val (.ref s0), .unset]) (fun m => by first | (simp [entryFrame, mkF, argsToLocals, Value.category, own_rep]; done) | rfl) ?_
  intro p e s m below meth c hown hby hml hret hnm hZ hC hO hsf
  refine Go.newO hown (wd_42 g) (wd_43 g) (wd_44 g) (hb hby D_prog_19_method_11_code_0) (pc' := 3) rfl (by decide) (by decide) ?_
  intro h1 a2 g3 l4 E5 X6 D7 S8 C9 N10
  have KE5 := Keep.ofExt E5; have zE5 := E5.1
  have f11 : Fld Z h1 a2 "java/lang/AbstractStringBuilder" "value" "[B" .null := D7 (Or.inl (wd_57 g)) (ty := (.array .byte)) (by decide)
  have f12 : Fld Z h1 a2 "java/lang/AbstractStringBuilder" "coder" "B" (.int 0) := D7 (Or.inl (wd_59 g)) (ty := .byte) (by decide)
  have f13 : Fld Z h1 a2 "java/lang/AbstractStringBuilder" "count" "I" (.int 0) := D7 (Or.inl (wd_82 g)) (ty := .int) (by decide)
  refine Go.dup (hb hby D_prog_19_method_11_code_3) (pc' := 4) rfl rfl ?_
  refine Go.callC (c_SBinit (l := l) (nw := nw) (fk := fk) g h1 a2 (by first | omega | assumption | decide) X6 f13 f12 f11 (by omega)) hown rfl rfl (wd_45 g) (wd_46 g) (wd_47 g) (wd_44 g) (by decide) (argsL := []) (lenOf pd_22 rfl) rfl (by rw [hml]; rfl) (W := 1) rfl (hb hby D_prog_19_method_11_code_4) (pc' := 7) rfl (by decide) (by decide) (by decide) (by decide) all0 ?_
  rintro _ vm14 h14 ⟨d_14, kd_14, rfl, K14, p14_0, o14_0, o14_1, o14_2, o14_3, o14_4⟩ C14
  have z14 := K14.1
  have yo14_3 := ltN o14_3.lt
  -- pc 7
  refine Go.ldcStr (n0 := 4) (vs := ([(40 : Int32)] : List Int32).map Value.int) hnw hown (wd_60 g) g.2.2.1 (g.2.2.2.1 _ (by decide)) (by decide) (hb hby D_prog_19_method_11_code_7) (pc' := 9) rfl (by decide) (by decide) (by decide) (by decide) ?_
  intro vm15 h16 a17 b18 k19 E20 C21 X22 F23 F24 A25 l26 l27 N28
  skip
  have KE20 := Keep.ofExt E20; have zE20 := E20.1
  have f29 : St Z h16 a17 b18 k19 [(40 : Int32)] := ⟨X22, F23, F24, A25, by decide⟩
  have f30 : St Z h16 a17 b18 k19 K251 := f29
  have f31 : Exa Z h16 a2 "java/lang/StringBuilder" := ((X6.keep K14).keep KE20)
  have f32 : Fld Z h16 a2 "java/lang/AbstractStringBuilder" "count" "I" (.int (0 : Nat).toInt32) := (o14_0.keep KE20 nin0)
  have f33 : Fld Z h16 a2 "java/lang/AbstractStringBuilder" "coder" "B" (.int 0) := (o14_1.keep KE20 nin0)
  have f34 : Fld Z h16 a2 "java/lang/AbstractStringBuilder" "value" "[B" (.ref d_14) := (o14_2.keep KE20 nin0)
  have f35 : Ar Z h16 d_14 kd_14 .byte ((pad [] 16).map Value.int) := (o14_3.keep KE20 nin0)
  have f36 : Safe Z EL vm15 h16 d_14 := (Safe.to C21 (by omega) o14_4)
  refine Go.callV (y0 := ⟨"java/lang/StringBuilder", "append", "(Ljava/lang/String;)Ljava/lang/StringBuilder;"⟩) (c_SBappFit (l := l) (nw := nw) (fk := fk) g h16 a2 d_14 kd_14 [] (16 : Nat) (0 : Nat) a17 b18 k19 K251 (1 : Nat) (show ([] : List Int32).length = (0 : Nat) from rfl) (by decide) (by decide) Byt.nil lK251 fK251 (by decide) (by omega) (by omega) f31 f32 f33 f34 f35 f30 (by omega)) hown (wd_61 g) (wd_62 g) (notFace_of_selects (wd_64 g)) (wd_64 g) (wd_63 g) f31 (wd_65 g) (wd_44 g) (by decide) (argsL := [(.ref a17)]) (lenOf pd_23 rfl) rfl (by rw [hml]; rfl) (W := 0) rfl (hb hby D_prog_19_method_11_code_9) (pc' := 12) rfl (by decide) (by decide) (by decide) (by decide) (allS ⟨by omega, f36⟩ all0) ?_
  rintro _ vm37 h37 ⟨rfl, K37, o37_0, o37_1, o37_2, o37_3, o37_4⟩ C37
  have z37 := K37.1
  have yo37_3 := ltN o37_3.lt
  -- pc 12
  obtain ⟨B38, hB38⟩ : ∃ B, B = [] ++ K251 := ⟨_, rfl⟩
  have lB38 : B38.length = (1 : Nat) := by have q8 := (show ([] : List Int32).length = (0 : Nat) from rfl); have q9 := lK251; rw [hB38, List.length_append, q8, q9]
  have fB38 : Byt B38 := by rw [hB38]; exact Byt.app Byt.nil fK251
  have f39 : Ar Z h37 d_14 kd_14 .byte ((pad B38 (16 : Nat)).map Value.int) := by have q9 := o37_3; rw [← hB38] at q9; exact q9
  have f40 : Fld Z h37 a2 "java/lang/AbstractStringBuilder" "count" "I" (.int (1 : Nat).toInt32) := o37_0
  refine Go.aloadN (hb hby D_prog_19_method_11_code_12) (pc' := 13) rfl rfl rfl ?_
  have f41 : Exa Z h37 a2 "java/lang/StringBuilder" := (f31.keep K37)
  have f42 : St Z h37 s0 d0 k0 cs := ((((e0.keep KE5 nin0 nin0).keep K14 (ninS (Exa.ne (e0.keep KE5 nin0 nin0).1 X6 (by decide)) nin0) (ninS (Ne.symm (Ar.ne_exa (e0.keep KE5 nin0 nin0).2.2.2.1 X6 (wd_43 g))) nin0)).keep KE20 nin0 nin0).keep K37 (ninS (Exa.ne (((e0.keep KE5 nin0 nin0).keep K14 (ninS (Exa.ne (e0.keep KE5 nin0 nin0).1 X6 (by decide)) nin0) (ninS (Ne.symm (Ar.ne_exa (e0.keep KE5 nin0 nin0).2.2.2.1 X6 (wd_43 g))) nin0)).keep KE20 nin0 nin0).1 ((X6.keep K14).keep KE20) (by decide)) (ninS (neN (by omega)) nin0)) (ninS (Ne.symm (Ar.ne_exa (((e0.keep KE5 nin0 nin0).keep K14 (ninS (Exa.ne (e0.keep KE5 nin0 nin0).1 X6 (by decide)) nin0) (ninS (Ne.symm (Ar.ne_exa (e0.keep KE5 nin0 nin0).2.2.2.1 X6 (wd_43 g))) nin0)).keep KE20 nin0 nin0).2.2.2.1 ((X6.keep K14).keep KE20) (wd_43 g))) (ninS (neN (by omega)) nin0)))
  refine Go.callV (y0 := ⟨"java/lang/StringBuilder", "append", "(Ljava/lang/String;)Ljava/lang/StringBuilder;"⟩) (c_SBappFit (l := l) (nw := nw) (fk := fk) g h37 a2 d_14 kd_14 B38 (16 : Nat) (1 : Nat) s0 d0 k0 cs (1 : Nat) lB38 (by decide) (by decide) fB38 hn fc (by decide) (by omega) (by omega) f41 f40 o37_1 o37_2 f39 f42 (by omega)) hown (wd_61 g) (wd_62 g) (notFace_of_selects (wd_64 g)) (wd_64 g) (wd_63 g) f41 (wd_65 g) (wd_44 g) (by decide) (argsL := [(.ref s0)]) (lenOf pd_23 rfl) rfl (by rw [hml]; rfl) (W := 0) rfl (hb hby D_prog_19_method_11_code_13) (pc' := 16) rfl (by decide) (by decide) (by decide) (by decide) (allS ⟨by omega, o37_4⟩ all0) ?_
  rintro _ vm43 h43 ⟨rfl, K43, o43_0, o43_1, o43_2, o43_3, o43_4⟩ C43
  have z43 := K43.1
  have yo43_3 := ltN o43_3.lt
  -- pc 16
  obtain ⟨B44, hB44⟩ : ∃ B, B = B38 ++ cs := ⟨_, rfl⟩
  have lB44 : B44.length = (2 : Nat) := by have q8 := lB38; have q9 := hn; rw [hB44, List.length_append, q8, q9]
  have fB44 : Byt B44 := by rw [hB44]; exact Byt.app fB38 fc
  have f45 : Ar Z h43 d_14 kd_14 .byte ((pad B44 (16 : Nat)).map Value.int) := by have q9 := o43_3; rw [← hB44] at q9; exact q9
  have f46 : Fld Z h43 a2 "java/lang/AbstractStringBuilder" "count" "I" (.int (2 : Nat).toInt32) := o43_0
  refine Go.ldcStr (n0 := 4) (vs := ([(41 : Int32)] : List Int32).map Value.int) hnw hown (wd_108 g) g.2.2.1 (g.2.2.2.1 _ (by decide)) (by decide) (hb hby D_prog_19_method_11_code_16) (pc' := 18) rfl (by decide) (by decide) (by decide) (by decide) ?_
  intro vm47 h48 a49 b50 k51 E52 C53 X54 F55 F56 A57 l58 l59 N60
  skip
  have KE52 := Keep.ofExt E52; have zE52 := E52.1
  have f61 : St Z h48 a49 b50 k51 [(41 : Int32)] := ⟨X54, F55, F56, A57, by decide⟩
  have f62 : St Z h48 a49 b50 k51 K253 := f61
  have f63 : Exa Z h48 a2 "java/lang/StringBuilder" := ((f41.keep K43).keep KE52)
  have f64 : Fld Z h48 a2 "java/lang/AbstractStringBuilder" "count" "I" (.int (2 : Nat).toInt32) := (f46.keep KE52 nin0)
  have f65 : Fld Z h48 a2 "java/lang/AbstractStringBuilder" "coder" "B" (.int 0) := (o43_1.keep KE52 nin0)
  have f66 : Fld Z h48 a2 "java/lang/AbstractStringBuilder" "value" "[B" (.ref d_14) := (o43_2.keep KE52 nin0)
  have f67 : Ar Z h48 d_14 kd_14 .byte ((pad B44 (16 : Nat)).map Value.int) := (f45.keep KE52 nin0)
  have f68 : Safe Z EL vm47 h48 d_14 := (Safe.to C53 (by omega) o43_4)
  refine Go.callV (y0 := ⟨"java/lang/StringBuilder", "append", "(Ljava/lang/String;)Ljava/lang/StringBuilder;"⟩) (c_SBappFit (l := l) (nw := nw) (fk := fk) g h48 a2 d_14 kd_14 B44 (16 : Nat) (2 : Nat) a49 b50 k51 K253 (1 : Nat) lB44 (by decide) (by decide) fB44 lK253 fK253 (by decide) (by omega) (by omega) f63 f64 f65 f66 f67 f62 (by omega)) hown (wd_61 g) (wd_62 g) (notFace_of_selects (wd_64 g)) (wd_64 g) (wd_63 g) f63 (wd_65 g) (wd_44 g) (by decide) (argsL := [(.ref a49)]) (lenOf pd_23 rfl) rfl (by rw [hml]; rfl) (W := 0) rfl (hb hby D_prog_19_method_11_code_18) (pc' := 21) rfl (by decide) (by decide) (by decide) (by decide) (allS ⟨by omega, f68⟩ all0) ?_
  rintro _ vm69 h69 ⟨rfl, K69, o69_0, o69_1, o69_2, o69_3, o69_4⟩ C69
  have z69 := K69.1
  have yo69_3 := ltN o69_3.lt
  -- pc 21
  obtain ⟨B70, hB70⟩ : ∃ B, B = B44 ++ K253 := ⟨_, rfl⟩
  have lB70 : B70.length = (3 : Nat) := by have q8 := lB44; have q9 := lK253; rw [hB70, List.length_append, q8, q9]
  have fB70 : Byt B70 := by rw [hB70]; exact Byt.app fB44 fK253
  have f71 : Ar Z h69 d_14 kd_14 .byte ((pad B70 (16 : Nat)).map Value.int) := by have q9 := o69_3; rw [← hB70] at q9; exact q9
  have f72 : Fld Z h69 a2 "java/lang/AbstractStringBuilder" "count" "I" (.int (3 : Nat).toInt32) := o69_0
  have f73 : Exa Z h69 a2 "java/lang/StringBuilder" := (f63.keep K69)
  refine Go.callV (y0 := ⟨"java/lang/StringBuilder", "toString", "()Ljava/lang/String;"⟩) (c_toString (l := l) (nw := nw) (fk := fk) g h69 a2 d_14 kd_14 B70 (16 : Nat) (3 : Nat) lB70 (by decide) (by decide) fB70 f73 f72 o69_1 o69_2 f71 (by omega)) hown (wd_109 g) (wd_110 g) (notFace_of_selects (wd_112 g)) (wd_112 g) (wd_111 g) f73 (wd_113 g) (wd_44 g) (by decide) (argsL := []) (lenOf pd_24 rfl) rfl (by rw [hml]; rfl) (W := 0) rfl (hb hby D_prog_19_method_11_code_21) (pc' := 24) rfl (by decide) (by decide) (by decide) (by decide) all0 ?_
  rintro _ vm74 h74 ⟨r_74, d2_74, k2_74, rfl, K74, p74_0, p74_1, o74_0⟩ C74
  have z74 := K74.1
  have yo74_0 := ltN o74_0.lt; have yo74_0' := ltN o74_0.ltb
  -- pc 24
  refine Go.astoreN (hb hby D_prog_19_method_11_code_24) (pc' := 25) rfl rfl (L' := #[.val (.ref s0), .val (.ref r_74)]) rfl ?_
  refine Go.newO hown (wd_42 g) (wd_43 g) (wd_44 g) (hb hby D_prog_19_method_11_code_25) (pc' := 28) rfl (by decide) (by decide) ?_
  intro h75 a76 g77 l78 E79 X80 D81 S82 C83 N84
  have KE79 := Keep.ofExt E79; have zE79 := E79.1
  have f85 : Fld Z h75 a76 "java/lang/AbstractStringBuilder" "value" "[B" .null := D81 (Or.inl (wd_57 g)) (ty := (.array .byte)) (by decide)
  have f86 : Fld Z h75 a76 "java/lang/AbstractStringBuilder" "coder" "B" (.int 0) := D81 (Or.inl (wd_59 g)) (ty := .byte) (by decide)
  have f87 : Fld Z h75 a76 "java/lang/AbstractStringBuilder" "count" "I" (.int 0) := D81 (Or.inl (wd_82 g)) (ty := .int) (by decide)
  refine Go.dup (hb hby D_prog_19_method_11_code_28) (pc' := 29) rfl rfl ?_
  refine Go.callC (c_SBinit (l := l) (nw := nw) (fk := fk) g h75 a76 (by first | omega | assumption | decide) X80 f87 f86 f85 (by omega)) hown rfl rfl (wd_45 g) (wd_46 g) (wd_47 g) (wd_44 g) (by decide) (argsL := []) (lenOf pd_22 rfl) rfl (by rw [hml]; rfl) (W := 1) rfl (hb hby D_prog_19_method_11_code_29) (pc' := 32) rfl (by decide) (by decide) (by decide) (by decide) all0 ?_
  rintro _ vm88 h88 ⟨d_88, kd_88, rfl, K88, p88_0, o88_0, o88_1, o88_2, o88_3, o88_4⟩ C88
  have z88 := K88.1
  have yo88_3 := ltN o88_3.lt
  -- pc 32
  refine Go.ldcStr (n0 := 16) (vs := ([(83 : Int32), (85 : Int32), (77 : Int32), (40 : Int32)] : List Int32).map Value.int) hnw hown (wd_154 g) g.2.2.1 (g.2.2.2.1 _ (by decide)) (by decide) (hb hby D_prog_19_method_11_code_32) (pc' := 34) rfl (by decide) (by decide) (by decide) (by decide) ?_
  intro vm89 h90 a91 b92 k93 E94 C95 X96 F97 F98 A99 l100 l101 N102
  skip
  have KE94 := Keep.ofExt E94; have zE94 := E94.1
  have f103 : St Z h90 a91 b92 k93 [(83 : Int32), (85 : Int32), (77 : Int32), (40 : Int32)] := ⟨X96, F97, F98, A99, by decide⟩
  have f104 : St Z h90 a91 b92 k93 K255 := f103
  have f105 : Exa Z h90 a76 "java/lang/StringBuilder" := ((X80.keep K88).keep KE94)
  have f106 : Fld Z h90 a76 "java/lang/AbstractStringBuilder" "count" "I" (.int (0 : Nat).toInt32) := (o88_0.keep KE94 nin0)
  have f107 : Fld Z h90 a76 "java/lang/AbstractStringBuilder" "coder" "B" (.int 0) := (o88_1.keep KE94 nin0)
  have f108 : Fld Z h90 a76 "java/lang/AbstractStringBuilder" "value" "[B" (.ref d_88) := (o88_2.keep KE94 nin0)
  have f109 : Ar Z h90 d_88 kd_88 .byte ((pad [] 16).map Value.int) := (o88_3.keep KE94 nin0)
  have f110 : Safe Z EL vm89 h90 d_88 := (Safe.to C95 (by omega) o88_4)
  refine Go.callV (y0 := ⟨"java/lang/StringBuilder", "append", "(Ljava/lang/String;)Ljava/lang/StringBuilder;"⟩) (c_SBappFit (l := l) (nw := nw) (fk := fk) g h90 a76 d_88 kd_88 [] (16 : Nat) (0 : Nat) a91 b92 k93 K255 (4 : Nat) (show ([] : List Int32).length = (0 : Nat) from rfl) (by decide) (by decide) Byt.nil lK255 fK255 (by decide) (by omega) (by omega) f105 f106 f107 f108 f109 f104 (by omega)) hown (wd_61 g) (wd_62 g) (notFace_of_selects (wd_64 g)) (wd_64 g) (wd_63 g) f105 (wd_65 g) (wd_44 g) (by decide) (argsL := [(.ref a91)]) (lenOf pd_23 rfl) rfl (by rw [hml]; rfl) (W := 0) rfl (hb hby D_prog_19_method_11_code_34) (pc' := 37) rfl (by decide) (by decide) (by decide) (by decide) (allS ⟨by omega, f110⟩ all0) ?_
  rintro _ vm111 h111 ⟨rfl, K111, o111_0, o111_1, o111_2, o111_3, o111_4⟩ C111
  have z111 := K111.1
  have yo111_3 := ltN o111_3.lt
  -- pc 37
  obtain ⟨B112, hB112⟩ : ∃ B, B = [] ++ K255 := ⟨_, rfl⟩
  have lB112 : B112.length = (4 : Nat) := by have q8 := (show ([] : List Int32).length = (0 : Nat) from rfl); have q9 := lK255; rw [hB112, List.length_append, q8, q9]
  have fB112 : Byt B112 := by rw [hB112]; exact Byt.app Byt.nil fK255
  have f113 : Ar Z h111 d_88 kd_88 .byte ((pad B112 (16 : Nat)).map Value.int) := by have q9 := o111_3; rw [← hB112] at q9; exact q9
  have f114 : Fld Z h111 a76 "java/lang/AbstractStringBuilder" "count" "I" (.int (4 : Nat).toInt32) := o111_0
  refine Go.aloadN (hb hby D_prog_19_method_11_code_37) (pc' := 38) rfl rfl rfl ?_
  have f115 : Exa Z h111 a76 "java/lang/StringBuilder" := (f105.keep K111)
  have f116 : St Z h111 r_74 d2_74 k2_74 B70 := ((((o74_0.keep KE79 nin0 nin0).keep K88 (ninS (Exa.ne (o74_0.keep KE79 nin0 nin0).1 X80 (by decide)) nin0) (ninS (Ne.symm (Ar.ne_exa (o74_0.keep KE79 nin0 nin0).2.2.2.1 X80 (wd_43 g))) nin0)).keep KE94 nin0 nin0).keep K111 (ninS (Exa.ne (((o74_0.keep KE79 nin0 nin0).keep K88 (ninS (Exa.ne (o74_0.keep KE79 nin0 nin0).1 X80 (by decide)) nin0) (ninS (Ne.symm (Ar.ne_exa (o74_0.keep KE79 nin0 nin0).2.2.2.1 X80 (wd_43 g))) nin0)).keep KE94 nin0 nin0).1 ((X80.keep K88).keep KE94) (by decide)) (ninS (neN (by omega)) nin0)) (ninS (Ne.symm (Ar.ne_exa (((o74_0.keep KE79 nin0 nin0).keep K88 (ninS (Exa.ne (o74_0.keep KE79 nin0 nin0).1 X80 (by decide)) nin0) (ninS (Ne.symm (Ar.ne_exa (o74_0.keep KE79 nin0 nin0).2.2.2.1 X80 (wd_43 g))) nin0)).keep KE94 nin0 nin0).2.2.2.1 ((X80.keep K88).keep KE94) (wd_43 g))) (ninS (neN (by omega)) nin0)))
  refine Go.callV (y0 := ⟨"java/lang/StringBuilder", "append", "(Ljava/lang/String;)Ljava/lang/StringBuilder;"⟩) (c_SBappFit (l := l) (nw := nw) (fk := fk) g h111 a76 d_88 kd_88 B112 (16 : Nat) (4 : Nat) r_74 d2_74 k2_74 B70 (3 : Nat) lB112 (by decide) (by decide) fB112 lB70 fB70 (by decide) (by omega) (by omega) f115 f114 o111_1 o111_2 f113 f116 (by omega)) hown (wd_61 g) (wd_62 g) (notFace_of_selects (wd_64 g)) (wd_64 g) (wd_63 g) f115 (wd_65 g) (wd_44 g) (by decide) (argsL := [(.ref r_74)]) (lenOf pd_23 rfl) rfl (by rw [hml]; rfl) (W := 0) rfl (hb hby D_prog_19_method_11_code_38) (pc' := 41) rfl (by decide) (by decide) (by decide) (by decide) (allS ⟨by omega, o111_4⟩ all0) ?_
  rintro _ vm117 h117 ⟨rfl, K117, o117_0, o117_1, o117_2, o117_3, o117_4⟩ C117
  have z117 := K117.1
  have yo117_3 := ltN o117_3.lt
  -- pc 41
  obtain ⟨B118, hB118⟩ : ∃ B, B = B112 ++ B70 := ⟨_, rfl⟩
  have lB118 : B118.length = (7 : Nat) := by have q8 := lB112; have q9 := lB70; rw [hB118, List.length_append, q8, q9]
  have fB118 : Byt B118 := by rw [hB118]; exact Byt.app fB112 fB70
  have f119 : Ar Z h117 d_88 kd_88 .byte ((pad B118 (16 : Nat)).map Value.int) := by have q9 := o117_3; rw [← hB118] at q9; exact q9
  have f120 : Fld Z h117 a76 "java/lang/AbstractStringBuilder" "count" "I" (.int (7 : Nat).toInt32) := o117_0
  refine Go.ldcwStr (n0 := 104) (vs := ([(32 : Int32), (47 : Int32), (32 : Int32), (49 : Int32), (48 : Int32), (48 : Int32), (48 : Int32), (48 : Int32), (48 : Int32), (48 : Int32), (48 : Int32), (48 : Int32), (48 : Int32), (48 : Int32), (48 : Int32), (48 : Int32), (48 : Int32), (48 : Int32), (48 : Int32), (41 : Int32), (44 : Int32), (32 : Int32), (83 : Int32), (85 : Int32), (77 : Int32), (40 : Int32)] : List Int32).map Value.int) hnw hown (wd_155 g) g.2.2.1 (g.2.2.2.1 _ (by decide)) (by decide) (hb hby D_prog_19_method_11_code_41) (pc' := 44) rfl (by decide) (by decide) (by decide) (by decide) ?_
  intro vm121 h122 a123 b124 k125 E126 C127 X128 F129 F130 A131 l132 l133
  skip
  have KE126 := Keep.ofExt E126; have zE126 := E126.1
  have f135 : St Z h122 a123 b124 k125 [(32 : Int32), (47 : Int32), (32 : Int32), (49 : Int32), (48 : Int32), (48 : Int32), (48 : Int32), (48 : Int32), (48 : Int32), (48 : Int32), (48 : Int32), (48 : Int32), (48 : Int32), (48 : Int32), (48 : Int32), (48 : Int32), (48 : Int32), (48 : Int32), (48 : Int32), (41 : Int32), (44 : Int32), (32 : Int32), (83 : Int32), (85 : Int32), (77 : Int32), (40 : Int32)] := ⟨X128, F129, F130, A131, by decide⟩
  have f136 : St Z h122 a123 b124 k125 K257 := f135
  have f137 : Exa Z h122 a76 "java/lang/StringBuilder" := ((f115.keep K117).keep KE126)
  have f138 : Fld Z h122 a76 "java/lang/AbstractStringBuilder" "count" "I" (.int (7 : Nat).toInt32) := (f120.keep KE126 nin0)
  have f139 : Fld Z h122 a76 "java/lang/AbstractStringBuilder" "coder" "B" (.int 0) := (o117_1.keep KE126 nin0)
  have f140 : Fld Z h122 a76 "java/lang/AbstractStringBuilder" "value" "[B" (.ref d_88) := (o117_2.keep KE126 nin0)
  have f141 : Ar Z h122 d_88 kd_88 .byte ((pad B118 (16 : Nat)).map Value.int) := (f119.keep KE126 nin0)
  refine Go.callV (y0 := ⟨"java/lang/StringBuilder", "append", "(Ljava/lang/String;)Ljava/lang/StringBuilder;"⟩) (c_SBappGrow (l := l) (nw := nw) (fk := fk) g h122 a76 d_88 kd_88 B118 (16 : Nat) (7 : Nat) a123 b124 k125 K257 (26 : Nat) lB118 (by decide) (by decide) fB118 lK257 fK257 (by decide) (by decide) (by omega) f137 f138 f139 f140 f141 f136 (by omega)) hown (wd_61 g) (wd_62 g) (notFace_of_selects (wd_64 g)) (wd_64 g) (wd_63 g) f137 (wd_65 g) (wd_44 g) (by decide) (argsL := [(.ref a123)]) (lenOf pd_23 rfl) rfl (by rw [hml]; rfl) (W := 0) rfl (hb hby D_prog_19_method_11_code_44) (pc' := 47) rfl (by decide) (by decide) (by decide) (by decide) all0 ?_
  rintro _ vm142 h142 ⟨d2_142, k2_142, rfl, K142, p142_0, o142_0, o142_1, o142_2, o142_3, o142_4⟩ C142
  have z142 := K142.1
  have yo142_3 := ltN o142_3.lt
  -- pc 47
  obtain ⟨B143, hB143⟩ : ∃ B, B = B118 ++ K257 := ⟨_, rfl⟩
  have lB143 : B143.length = (33 : Nat) := by have q8 := lB118; have q9 := lK257; rw [hB143, List.length_append, q8, q9]
  have fB143 : Byt B143 := by rw [hB143]; exact Byt.app fB118 fK257
  have f144 : Ar Z h142 d2_142 k2_142 .byte ((pad B143 (34 : Nat)).map Value.int) := by have q9 := o142_3; rw [← hB143, show cap2 (16 : Nat) ((7 : Nat) + (26 : Nat)) = (34 : Nat) from by decide] at q9; exact q9
  have f145 : Fld Z h142 a76 "java/lang/AbstractStringBuilder" "count" "I" (.int (33 : Nat).toInt32) := o142_0
  refine Go.aloadN (hb hby D_prog_19_method_11_code_47) (pc' := 48) rfl rfl rfl ?_
  have f146 : Exa Z h142 a76 "java/lang/StringBuilder" := (f137.keep K142)
  have f147 : St Z h142 r_74 d2_74 k2_74 B70 := (((f116.keep K117 (ninS (Exa.ne f116.1 (((X80.keep K88).keep KE94).keep K111) (by decide)) (ninS (neN (by omega)) nin0)) (ninS (Ne.symm (Ar.ne_exa f116.2.2.2.1 (((X80.keep K88).keep KE94).keep K111) (wd_43 g))) (ninS (neN (by omega)) nin0))).keep KE126 nin0 nin0).keep K142 (ninS (Exa.ne ((f116.keep K117 (ninS (Exa.ne f116.1 (((X80.keep K88).keep KE94).keep K111) (by decide)) (ninS (neN (by omega)) nin0)) (ninS (Ne.symm (Ar.ne_exa f116.2.2.2.1 (((X80.keep K88).keep KE94).keep K111) (wd_43 g))) (ninS (neN (by omega)) nin0))).keep KE126 nin0 nin0).1 (((((X80.keep K88).keep KE94).keep K111).keep K117).keep KE126) (by decide)) nin0) (ninS (Ne.symm (Ar.ne_exa ((f116.keep K117 (ninS (Exa.ne f116.1 (((X80.keep K88).keep KE94).keep K111) (by decide)) (ninS (neN (by omega)) nin0)) (ninS (Ne.symm (Ar.ne_exa f116.2.2.2.1 (((X80.keep K88).keep KE94).keep K111) (wd_43 g))) (ninS (neN (by omega)) nin0))).keep KE126 nin0 nin0).2.2.2.1 (((((X80.keep K88).keep KE94).keep K111).keep K117).keep KE126) (wd_43 g))) nin0))
  refine Go.callV (y0 := ⟨"java/lang/StringBuilder", "append", "(Ljava/lang/String;)Ljava/lang/StringBuilder;"⟩) (c_SBappGrow (l := l) (nw := nw) (fk := fk) g h142 a76 d2_142 k2_142 B143 (34 : Nat) (33 : Nat) r_74 d2_74 k2_74 B70 (3 : Nat) lB143 (by decide) (by decide) fB143 lB70 fB70 (by decide) (by decide) (by omega) f146 f145 o142_1 o142_2 f144 f147 (by omega)) hown (wd_61 g) (wd_62 g) (notFace_of_selects (wd_64 g)) (wd_64 g) (wd_63 g) f146 (wd_65 g) (wd_44 g) (by decide) (argsL := [(.ref r_74)]) (lenOf pd_23 rfl) rfl (by rw [hml]; rfl) (W := 0) rfl (hb hby D_prog_19_method_11_code_48) (pc' := 51) rfl (by decide) (by decide) (by decide) (by decide) all0 ?_
  rintro _ vm148 h148 ⟨d2_148, k2_148, rfl, K148, p148_0, o148_0, o148_1, o148_2, o148_3, o148_4⟩ C148
  have z148 := K148.1
  have yo148_3 := ltN o148_3.lt
  -- pc 51
  obtain ⟨B149, hB149⟩ : ∃ B, B = B143 ++ B70 := ⟨_, rfl⟩
  have lB149 : B149.length = (36 : Nat) := by have q8 := lB143; have q9 := lB70; rw [hB149, List.length_append, q8, q9]
  have fB149 : Byt B149 := by rw [hB149]; exact Byt.app fB143 fB70
  have f150 : Ar Z h148 d2_148 k2_148 .byte ((pad B149 (70 : Nat)).map Value.int) := by have q9 := o148_3; rw [← hB149, show cap2 (34 : Nat) ((33 : Nat) + (3 : Nat)) = (70 : Nat) from by decide] at q9; exact q9
  have f151 : Fld Z h148 a76 "java/lang/AbstractStringBuilder" "count" "I" (.int (36 : Nat).toInt32) := o148_0
  refine Go.ldcwStr (n0 := 120) (vs := ([(32 : Int32), (47 : Int32), (32 : Int32), (49 : Int32), (48 : Int32), (48 : Int32), (48 : Int32), (48 : Int32), (48 : Int32), (48 : Int32), (48 : Int32), (48 : Int32), (48 : Int32), (48 : Int32), (32 : Int32), (37 : Int32), (32 : Int32), (49 : Int32), (48 : Int32), (48 : Int32), (48 : Int32), (48 : Int32), (48 : Int32), (41 : Int32), (44 : Int32), (32 : Int32), (83 : Int32), (85 : Int32), (77 : Int32), (40 : Int32)] : List Int32).map Value.int) hnw hown (wd_173 g) g.2.2.1 (g.2.2.2.1 _ (by decide)) (by decide) (hb hby D_prog_19_method_11_code_51) (pc' := 54) rfl (by decide) (by decide) (by decide) (by decide) ?_
  intro vm152 h153 a154 b155 k156 E157 C158 X159 F160 F161 A162 l163 l164
  skip
  have KE157 := Keep.ofExt E157; have zE157 := E157.1
  have f166 : St Z h153 a154 b155 k156 [(32 : Int32), (47 : Int32), (32 : Int32), (49 : Int32), (48 : Int32), (48 : Int32), (48 : Int32), (48 : Int32), (48 : Int32), (48 : Int32), (48 : Int32), (48 : Int32), (48 : Int32), (48 : Int32), (32 : Int32), (37 : Int32), (32 : Int32), (49 : Int32), (48 : Int32), (48 : Int32), (48 : Int32), (48 : Int32), (48 : Int32), (41 : Int32), (44 : Int32), (32 : Int32), (83 : Int32), (85 : Int32), (77 : Int32), (40 : Int32)] := ⟨X159, F160, F161, A162, by decide⟩
  have f167 : St Z h153 a154 b155 k156 K259 := f166
  have f168 : Exa Z h153 a76 "java/lang/StringBuilder" := ((f146.keep K148).keep KE157)
  have f169 : Fld Z h153 a76 "java/lang/AbstractStringBuilder" "count" "I" (.int (36 : Nat).toInt32) := (f151.keep KE157 nin0)
  have f170 : Fld Z h153 a76 "java/lang/AbstractStringBuilder" "coder" "B" (.int 0) := (o148_1.keep KE157 nin0)
  have f171 : Fld Z h153 a76 "java/lang/AbstractStringBuilder" "value" "[B" (.ref d2_148) := (o148_2.keep KE157 nin0)
  have f172 : Ar Z h153 d2_148 k2_148 .byte ((pad B149 (70 : Nat)).map Value.int) := (f150.keep KE157 nin0)
  have f173 : Safe Z EL vm152 h153 d2_148 := (Safe.to C158 (by omega) o148_4)
  refine Go.callV (y0 := ⟨"java/lang/StringBuilder", "append", "(Ljava/lang/String;)Ljava/lang/StringBuilder;"⟩) (c_SBappFit (l := l) (nw := nw) (fk := fk) g h153 a76 d2_148 k2_148 B149 (70 : Nat) (36 : Nat) a154 b155 k156 K259 (30 : Nat) lB149 (by decide) (by decide) fB149 lK259 fK259 (by decide) (by omega) (by omega) f168 f169 f170 f171 f172 f167 (by omega)) hown (wd_61 g) (wd_62 g) (notFace_of_selects (wd_64 g)) (wd_64 g) (wd_63 g) f168 (wd_65 g) (wd_44 g) (by decide) (argsL := [(.ref a154)]) (lenOf pd_23 rfl) rfl (by rw [hml]; rfl) (W := 0) rfl (hb hby D_prog_19_method_11_code_54) (pc' := 57) rfl (by decide) (by decide) (by decide) (by decide) (allS ⟨by omega, f173⟩ all0) ?_
  rintro _ vm174 h174 ⟨rfl, K174, o174_0, o174_1, o174_2, o174_3, o174_4⟩ C174
  have z174 := K174.1
  have yo174_3 := ltN o174_3.lt
  -- pc 57
  obtain ⟨B175, hB175⟩ : ∃ B, B = B149 ++ K259 := ⟨_, rfl⟩
  have lB175 : B175.length = (66 : Nat) := by have q8 := lB149; have q9 := lK259; rw [hB175, List.length_append, q8, q9]
  have fB175 : Byt B175 := by rw [hB175]; exact Byt.app fB149 fK259
  have f176 : Ar Z h174 d2_148 k2_148 .byte ((pad B175 (70 : Nat)).map Value.int) := by have q9 := o174_3; rw [← hB175] at q9; exact q9
  have f177 : Fld Z h174 a76 "java/lang/AbstractStringBuilder" "count" "I" (.int (66 : Nat).toInt32) := o174_0
  refine Go.aloadN (hb hby D_prog_19_method_11_code_57) (pc' := 58) rfl rfl rfl ?_
  have f178 : Exa Z h174 a76 "java/lang/StringBuilder" := (f168.keep K174)
  have f179 : St Z h174 r_74 d2_74 k2_74 B70 := (((f147.keep K148 (ninS (Exa.ne f147.1 ((((((X80.keep K88).keep KE94).keep K111).keep K117).keep KE126).keep K142) (by decide)) nin0) (ninS (Ne.symm (Ar.ne_exa f147.2.2.2.1 ((((((X80.keep K88).keep KE94).keep K111).keep K117).keep KE126).keep K142) (wd_43 g))) nin0)).keep KE157 nin0 nin0).keep K174 (ninS (Exa.ne ((f147.keep K148 (ninS (Exa.ne f147.1 ((((((X80.keep K88).keep KE94).keep K111).keep K117).keep KE126).keep K142) (by decide)) nin0) (ninS (Ne.symm (Ar.ne_exa f147.2.2.2.1 ((((((X80.keep K88).keep KE94).keep K111).keep K117).keep KE126).keep K142) (wd_43 g))) nin0)).keep KE157 nin0 nin0).1 ((((((((X80.keep K88).keep KE94).keep K111).keep K117).keep KE126).keep K142).keep K148).keep KE157) (by decide)) (ninS (neN (by omega)) nin0)) (ninS (Ne.symm (Ar.ne_exa ((f147.keep K148 (ninS (Exa.ne f147.1 ((((((X80.keep K88).keep KE94).keep K111).keep K117).keep KE126).keep K142) (by decide)) nin0) (ninS (Ne.symm (Ar.ne_exa f147.2.2.2.1 ((((((X80.keep K88).keep KE94).keep K111).keep K117).keep KE126).keep K142) (wd_43 g))) nin0)).keep KE157 nin0 nin0).2.2.2.1 ((((((((X80.keep K88).keep KE94).keep K111).keep K117).keep KE126).keep K142).keep K148).keep KE157) (wd_43 g))) (ninS (neN (by omega)) nin0)))
  refine Go.callV (y0 := ⟨"java/lang/StringBuilder", "append", "(Ljava/lang/String;)Ljava/lang/StringBuilder;"⟩) (c_SBappFit (l := l) (nw := nw) (fk := fk) g h174 a76 d2_148 k2_148 B175 (70 : Nat) (66 : Nat) r_74 d2_74 k2_74 B70 (3 : Nat) lB175 (by decide) (by decide) fB175 lB70 fB70 (by decide) (by omega) (by omega) f178 f177 o174_1 o174_2 f176 f179 (by omega)) hown (wd_61 g) (wd_62 g) (notFace_of_selects (wd_64 g)) (wd_64 g) (wd_63 g) f178 (wd_65 g) (wd_44 g) (by decide) (argsL := [(.ref r_74)]) (lenOf pd_23 rfl) rfl (by rw [hml]; rfl) (W := 0) rfl (hb hby D_prog_19_method_11_code_58) (pc' := 61) rfl (by decide) (by decide) (by decide) (by decide) (allS ⟨by omega, o174_4⟩ all0) ?_
  rintro _ vm180 h180 ⟨rfl, K180, o180_0, o180_1, o180_2, o180_3, o180_4⟩ C180
  have z180 := K180.1
  have yo180_3 := ltN o180_3.lt
  -- pc 61
  obtain ⟨B181, hB181⟩ : ∃ B, B = B175 ++ B70 := ⟨_, rfl⟩
  have lB181 : B181.length = (69 : Nat) := by have q8 := lB175; have q9 := lB70; rw [hB181, List.length_append, q8, q9]
  have fB181 : Byt B181 := by rw [hB181]; exact Byt.app fB175 fB70
  have f182 : Ar Z h180 d2_148 k2_148 .byte ((pad B181 (70 : Nat)).map Value.int) := by have q9 := o180_3; rw [← hB181] at q9; exact q9
  have f183 : Fld Z h180 a76 "java/lang/AbstractStringBuilder" "count" "I" (.int (69 : Nat).toInt32) := o180_0
  refine Go.ldcwStr (n0 := 100) (vs := ([(32 : Int32), (47 : Int32), (32 : Int32), (49 : Int32), (48 : Int32), (48 : Int32), (48 : Int32), (48 : Int32), (48 : Int32), (32 : Int32), (37 : Int32), (32 : Int32), (49 : Int32), (48 : Int32), (48 : Int32), (48 : Int32), (48 : Int32), (48 : Int32), (41 : Int32), (44 : Int32), (32 : Int32), (83 : Int32), (85 : Int32), (77 : Int32), (40 : Int32)] : List Int32).map Value.int) hnw hown (wd_174 g) g.2.2.1 (g.2.2.2.1 _ (by decide)) (by decide) (hb hby D_prog_19_method_11_code_61) (pc' := 64) rfl (by decide) (by decide) (by decide) (by decide) ?_
  intro vm184 h185 a186 b187 k188 E189 C190 X191 F192 F193 A194 l195 l196
  skip
  have KE189 := Keep.ofExt E189; have zE189 := E189.1
  have f198 : St Z h185 a186 b187 k188 [(32 : Int32), (47 : Int32), (32 : Int32), (49 : Int32), (48 : Int32), (48 : Int32), (48 : Int32), (48 : Int32), (48 : Int32), (32 : Int32), (37 : Int32), (32 : Int32), (49 : Int32), (48 : Int32), (48 : Int32), (48 : Int32), (48 : Int32), (48 : Int32), (41 : Int32), (44 : Int32), (32 : Int32), (83 : Int32), (85 : Int32), (77 : Int32), (40 : Int32)] := ⟨X191, F192, F193, A194, by decide⟩
  have f199 : St Z h185 a186 b187 k188 K261 := f198
  have f200 : Exa Z h185 a76 "java/lang/StringBuilder" := ((f178.keep K180).keep KE189)
  have f201 : Fld Z h185 a76 "java/lang/AbstractStringBuilder" "count" "I" (.int (69 : Nat).toInt32) := (f183.keep KE189 nin0)
  have f202 : Fld Z h185 a76 "java/lang/AbstractStringBuilder" "coder" "B" (.int 0) := (o180_1.keep KE189 nin0)
  have f203 : Fld Z h185 a76 "java/lang/AbstractStringBuilder" "value" "[B" (.ref d2_148) := (o180_2.keep KE189 nin0)
  have f204 : Ar Z h185 d2_148 k2_148 .byte ((pad B181 (70 : Nat)).map Value.int) := (f182.keep KE189 nin0)
  refine Go.callV (y0 := ⟨"java/lang/StringBuilder", "append", "(Ljava/lang/String;)Ljava/lang/StringBuilder;"⟩) (c_SBappGrow (l := l) (nw := nw) (fk := fk) g h185 a76 d2_148 k2_148 B181 (70 : Nat) (69 : Nat) a186 b187 k188 K261 (25 : Nat) lB181 (by decide) (by decide) fB181 lK261 fK261 (by decide) (by decide) (by omega) f200 f201 f202 f203 f204 f199 (by omega)) hown (wd_61 g) (wd_62 g) (notFace_of_selects (wd_64 g)) (wd_64 g) (wd_63 g) f200 (wd_65 g) (wd_44 g) (by decide) (argsL := [(.ref a186)]) (lenOf pd_23 rfl) rfl (by rw [hml]; rfl) (W := 0) rfl (hb hby D_prog_19_method_11_code_64) (pc' := 67) rfl (by decide) (by decide) (by decide) (by decide) all0 ?_
  rintro _ vm205 h205 ⟨d2_205, k2_205, rfl, K205, p205_0, o205_0, o205_1, o205_2, o205_3, o205_4⟩ C205
  have z205 := K205.1
  have yo205_3 := ltN o205_3.lt
  -- pc 67
  obtain ⟨B206, hB206⟩ : ∃ B, B = B181 ++ K261 := ⟨_, rfl⟩
  have lB206 : B206.length = (94 : Nat) := by have q8 := lB181; have q9 := lK261; rw [hB206, List.length_append, q8, q9]
  have fB206 : Byt B206 := by rw [hB206]; exact Byt.app fB181 fK261
  have f207 : Ar Z h205 d2_205 k2_205 .byte ((pad B206 (142 : Nat)).map Value.int) := by have q9 := o205_3; rw [← hB206, show cap2 (70 : Nat) ((69 : Nat) + (25 : Nat)) = (142 : Nat) from by decide] at q9; exact q9
  have f208 : Fld Z h205 a76 "java/lang/AbstractStringBuilder" "count" "I" (.int (94 : Nat).toInt32) := o205_0
  refine Go.aloadN (hb hby D_prog_19_method_11_code_67) (pc' := 68) rfl rfl rfl ?_
  have f209 : Exa Z h205 a76 "java/lang/StringBuilder" := (f200.keep K205)
  have f210 : St Z h205 r_74 d2_74 k2_74 B70 := (((f179.keep K180 (ninS (Exa.ne f179.1 (((((((((X80.keep K88).keep KE94).keep K111).keep K117).keep KE126).keep K142).keep K148).keep KE157).keep K174) (by decide)) (ninS (neN (by omega)) nin0)) (ninS (Ne.symm (Ar.ne_exa f179.2.2.2.1 (((((((((X80.keep K88).keep KE94).keep K111).keep K117).keep KE126).keep K142).keep K148).keep KE157).keep K174) (wd_43 g))) (ninS (neN (by omega)) nin0))).keep KE189 nin0 nin0).keep K205 (ninS (Exa.ne ((f179.keep K180 (ninS (Exa.ne f179.1 (((((((((X80.keep K88).keep KE94).keep K111).keep K117).keep KE126).keep K142).keep K148).keep KE157).keep K174) (by decide)) (ninS (neN (by omega)) nin0)) (ninS (Ne.symm (Ar.ne_exa f179.2.2.2.1 (((((((((X80.keep K88).keep KE94).keep K111).keep K117).keep KE126).keep K142).keep K148).keep KE157).keep K174) (wd_43 g))) (ninS (neN (by omega)) nin0))).keep KE189 nin0 nin0).1 (((((((((((X80.keep K88).keep KE94).keep K111).keep K117).keep KE126).keep K142).keep K148).keep KE157).keep K174).keep K180).keep KE189) (by decide)) nin0) (ninS (Ne.symm (Ar.ne_exa ((f179.keep K180 (ninS (Exa.ne f179.1 (((((((((X80.keep K88).keep KE94).keep K111).keep K117).keep KE126).keep K142).keep K148).keep KE157).keep K174) (by decide)) (ninS (neN (by omega)) nin0)) (ninS (Ne.symm (Ar.ne_exa f179.2.2.2.1 (((((((((X80.keep K88).keep KE94).keep K111).keep K117).keep KE126).keep K142).keep K148).keep KE157).keep K174) (wd_43 g))) (ninS (neN (by omega)) nin0))).keep KE189 nin0 nin0).2.2.2.1 (((((((((((X80.keep K88).keep KE94).keep K111).keep K117).keep KE126).keep K142).keep K148).keep KE157).keep K174).keep K180).keep KE189) (wd_43 g))) nin0))
  refine Go.callV (y0 := ⟨"java/lang/StringBuilder", "append", "(Ljava/lang/String;)Ljava/lang/StringBuilder;"⟩) (c_SBappFit (l := l) (nw := nw) (fk := fk) g h205 a76 d2_205 k2_205 B206 (142 : Nat) (94 : Nat) r_74 d2_74 k2_74 B70 (3 : Nat) lB206 (by decide) (by decide) fB206 lB70 fB70 (by decide) (by omega) (by omega) f209 f208 o205_1 o205_2 f207 f210 (by omega)) hown (wd_61 g) (wd_62 g) (notFace_of_selects (wd_64 g)) (wd_64 g) (wd_63 g) f209 (wd_65 g) (wd_44 g) (by decide) (argsL := [(.ref r_74)]) (lenOf pd_23 rfl) rfl (by rw [hml]; rfl) (W := 0) rfl (hb hby D_prog_19_method_11_code_68) (pc' := 71) rfl (by decide) (by decide) (by decide) (by decide) (allS ⟨by omega, o205_4⟩ all0) ?_
  rintro _ vm211 h211 ⟨rfl, K211, o211_0, o211_1, o211_2, o211_3, o211_4⟩ C211
  have z211 := K211.1
  have yo211_3 := ltN o211_3.lt
  -- pc 71
  obtain ⟨B212, hB212⟩ : ∃ B, B = B206 ++ B70 := ⟨_, rfl⟩
  have lB212 : B212.length = (97 : Nat) := by have q8 := lB206; have q9 := lB70; rw [hB212, List.length_append, q8, q9]
  have fB212 : Byt B212 := by rw [hB212]; exact Byt.app fB206 fB70
  have f213 : Ar Z h211 d2_205 k2_205 .byte ((pad B212 (142 : Nat)).map Value.int) := by have q9 := o211_3; rw [← hB212] at q9; exact q9
  have f214 : Fld Z h211 a76 "java/lang/AbstractStringBuilder" "count" "I" (.int (97 : Nat).toInt32) := o211_0
  refine Go.ldcwStr (n0 := 40) (vs := ([(32 : Int32), (37 : Int32), (32 : Int32), (49 : Int32), (48 : Int32), (48 : Int32), (48 : Int32), (48 : Int32), (48 : Int32), (41 : Int32)] : List Int32).map Value.int) hnw hown (wd_175 g) g.2.2.1 (g.2.2.2.1 _ (by decide)) (by decide) (hb hby D_prog_19_method_11_code_71) (pc' := 74) rfl (by decide) (by decide) (by decide) (by decide) ?_
  intro vm215 h216 a217 b218 k219 E220 C221 X222 F223 F224 A225 l226 l227
  skip
  have KE220 := Keep.ofExt E220; have zE220 := E220.1
  have f229 : St Z h216 a217 b218 k219 [(32 : Int32), (37 : Int32), (32 : Int32), (49 : Int32), (48 : Int32), (48 : Int32), (48 : Int32), (48 : Int32), (48 : Int32), (41 : Int32)] := ⟨X222, F223, F224, A225, by decide⟩
  have f230 : St Z h216 a217 b218 k219 K263 := f229
  have f231 : Exa Z h216 a76 "java/lang/StringBuilder" := ((f209.keep K211).keep KE220)
  have f232 : Fld Z h216 a76 "java/lang/AbstractStringBuilder" "count" "I" (.int (97 : Nat).toInt32) := (f214.keep KE220 nin0)
  have f233 : Fld Z h216 a76 "java/lang/AbstractStringBuilder" "coder" "B" (.int 0) := (o211_1.keep KE220 nin0)
  have f234 : Fld Z h216 a76 "java/lang/AbstractStringBuilder" "value" "[B" (.ref d2_205) := (o211_2.keep KE220 nin0)
  have f235 : Ar Z h216 d2_205 k2_205 .byte ((pad B212 (142 : Nat)).map Value.int) := (f213.keep KE220 nin0)
  have f236 : Safe Z EL vm215 h216 d2_205 := (Safe.to C221 (by omega) o211_4)
  refine Go.callV (y0 := ⟨"java/lang/StringBuilder", "append", "(Ljava/lang/String;)Ljava/lang/StringBuilder;"⟩) (c_SBappFit (l := l) (nw := nw) (fk := fk) g h216 a76 d2_205 k2_205 B212 (142 : Nat) (97 : Nat) a217 b218 k219 K263 (10 : Nat) lB212 (by decide) (by decide) fB212 lK263 fK263 (by decide) (by omega) (by omega) f231 f232 f233 f234 f235 f230 (by omega)) hown (wd_61 g) (wd_62 g) (notFace_of_selects (wd_64 g)) (wd_64 g) (wd_63 g) f231 (wd_65 g) (wd_44 g) (by decide) (argsL := [(.ref a217)]) (lenOf pd_23 rfl) rfl (by rw [hml]; rfl) (W := 0) rfl (hb hby D_prog_19_method_11_code_74) (pc' := 77) rfl (by decide) (by decide) (by decide) (by decide) (allS ⟨by omega, f236⟩ all0) ?_
  rintro _ vm237 h237 ⟨rfl, K237, o237_0, o237_1, o237_2, o237_3, o237_4⟩ C237
  have z237 := K237.1
  have yo237_3 := ltN o237_3.lt
  -- pc 77
  obtain ⟨B238, hB238⟩ : ∃ B, B = B212 ++ K263 := ⟨_, rfl⟩
  have lB238 : B238.length = (107 : Nat) := by have q8 := lB212; have q9 := lK263; rw [hB238, List.length_append, q8, q9]
  have fB238 : Byt B238 := by rw [hB238]; exact Byt.app fB212 fK263
  have f239 : Ar Z h237 d2_205 k2_205 .byte ((pad B238 (142 : Nat)).map Value.int) := by have q9 := o237_3; rw [← hB238] at q9; exact q9
  have f240 : Fld Z h237 a76 "java/lang/AbstractStringBuilder" "count" "I" (.int (107 : Nat).toInt32) := o237_0
  have f241 : Exa Z h237 a76 "java/lang/StringBuilder" := (f231.keep K237)
  refine Go.callV (y0 := ⟨"java/lang/StringBuilder", "toString", "()Ljava/lang/String;"⟩) (c_toString (l := l) (nw := nw) (fk := fk) g h237 a76 d2_205 k2_205 B238 (142 : Nat) (107 : Nat) lB238 (by decide) (by decide) fB238 f241 f240 o237_1 o237_2 f239 (by omega)) hown (wd_109 g) (wd_110 g) (notFace_of_selects (wd_112 g)) (wd_112 g) (wd_111 g) f241 (wd_113 g) (wd_44 g) (by decide) (argsL := []) (lenOf pd_24 rfl) rfl (by rw [hml]; rfl) (W := 0) rfl (hb hby D_prog_19_method_11_code_77) (pc' := 80) rfl (by decide) (by decide) (by decide) (by decide) all0 ?_
  rintro _ vm242 h242 ⟨r_242, d2_242, k2_242, rfl, K242, p242_0, p242_1, o242_0⟩ C242
  have z242 := K242.1
  have yo242_0 := ltN o242_0.lt; have yo242_0' := ltN o242_0.ltb
  -- pc 80
  have f243 : St Z h242 r_242 d2_242 k2_242 (sumS cs) := by have q9 := o242_0; rw [hB238, hB212, hB206, hB181, hB175, hB149, hB143, hB118, hB112, hB70, hB44, hB38] at q9; exact q9
  refine Go.retA hret rfl rfl (hb hby D_prog_19_method_11_code_80) (by decide) (by decide) ?_
  intro vmR CR
  exact ⟨r_242, d2_242, k2_242, (by first | rfl | (simp only [own_nar]; done) | (congr 2; done)), ((((((((((((((((((((((((((Keep.refl h []).trans KE5 all0).trans K14 (allS (by first | (left; simp; done) | (right; omega)) all0)).trans KE20 all0).trans K37 (allS (by first | (left; simp; done) | (right; omega)) (allS (by first | (left; simp; done) | (right; omega)) all0))).trans K43 (allS (by first | (left; simp; done) | (right; omega)) (allS (by first | (left; simp; done) | (right; omega)) all0))).trans KE52 all0).trans K69 (allS (by first | (left; simp; done) | (right; omega)) (allS (by first | (left; simp; done) | (right; omega)) all0))).trans K74 all0).trans KE79 all0).trans K88 (allS (by first | (left; simp; done) | (right; omega)) all0)).trans KE94 all0).trans K111 (allS (by first | (left; simp; done) | (right; omega)) (allS (by first | (left; simp; done) | (right; omega)) all0))).trans K117 (allS (by first | (left; simp; done) | (right; omega)) (allS (by first | (left; simp; done) | (right; omega)) all0))).trans KE126 all0).trans K142 (allS (by first | (left; simp; done) | (right; omega)) all0)).trans K148 (allS (by first | (left; simp; done) | (right; omega)) all0)).trans KE157 all0).trans K174 (allS (by first | (left; simp; done) | (right; omega)) (allS (by first | (left; simp; done) | (right; omega)) all0))).trans K180 (allS (by first | (left; simp; done) | (right; omega)) (allS (by first | (left; simp; done) | (right; omega)) all0))).trans KE189 all0).trans K205 (allS (by first | (left; simp; done) | (right; omega)) all0)).trans K211 (allS (by first | (left; simp; done) | (right; omega)) (allS (by first | (left; simp; done) | (right; omega)) all0))).trans KE220 all0).trans K237 (allS (by first | (left; simp; done) | (right; omega)) (allS (by first | (left; simp; done) | (right; omega)) all0))).trans K242 all0), (by omega), (by omega), f243⟩
set_option maxRecDepth 65536 in
set_option maxHeartbeats 40000000 in
theorem c_exact2 {l : Launch} {Z : State} {a0 : Array Value} {EL : List (String × Nat)} {nw fk : Prop} {zc : Int32} {sf : Value} (g : GH Z a0 EL zc sf) (hnw : ¬ nw) (h : Heap) (s0 : Addr) (d0 : Addr) (k0 : ClassId) (cs : List Int32) (hn : cs.length = (2 : Nat)) (fc : Byt cs) (e0 : St Z h s0 d0 k0 cs) (zz : Z.heap.size ≤ h.size) :
    Ct l Z EL nw fk [] ⟨"com/example/coffer/coffer/Ledger", "exactSum", "(Ljava/lang/String;)Ljava/lang/String;"⟩ prog_19_method_11_code 2 (some (.object "java/lang/String")) ({ frames := 6, cells := 25, slots := 1244, locals := 91 } : Room) #[(.ref s0)] h [] (fun res vm' h' => ∃ r : Addr, ∃ d2 : Addr, ∃ k2 : ClassId, res = some (.ref r) ∧ Keep h h' [] ∧ h.size ≤ r ∧ h.size ≤ d2 ∧ St Z h' r d2 k2 (sumS cs)) := by
  have ye0 := ltN e0.lt; have ye0' := ltN e0.ltb
  refine Ct.of_go (a0 := a0) g.2.1 (plainFor_of_name pn_7) (L0 := #[.val (.ref s0), .unset]) (fun m => by first | (simp [entryFrame, mkF, argsToLocals, Value.category, own_rep]; done) | rfl) ?_
  intro p e s m below meth c hown hby hml hret hnm hZ hC hO hsf
  refine Go.newO hown (wd_42 g) (wd_43 g) (wd_44 g) (hb hby D_prog_19_method_11_code_0) (pc' := 3) rfl (by decide) (by decide) ?_
  intro h1 a2 g3 l4 E5 X6 D7 S8 C9 N10
  have KE5 := Keep.ofExt E5; have zE5 := E5.1
  have f11 : Fld Z h1 a2 "java/lang/AbstractStringBuilder" "value" "[B" .null := D7 (Or.inl (wd_57 g)) (ty := (.array .byte)) (by decide)
  have f12 : Fld Z h1 a2 "java/lang/AbstractStringBuilder" "coder" "B" (.int 0) := D7 (Or.inl (wd_59 g)) (ty := .byte) (by decide)
  have f13 : Fld Z h1 a2 "java/lang/AbstractStringBuilder" "count" "I" (.int 0) := D7 (Or.inl (wd_82 g)) (ty := .int) (by decide)
  refine Go.dup (hb hby D_prog_19_method_11_code_3) (pc' := 4) rfl rfl ?_
  refine Go.callC (c_SBinit (l := l) (nw := nw) (fk := fk) g h1 a2 (by first | omega | assumption | decide) X6 f13 f12 f11 (by omega)) hown rfl rfl (wd_45 g) (wd_46 g) (wd_47 g) (wd_44 g) (by decide) (argsL := []) (lenOf pd_22 rfl) rfl (by rw [hml]; rfl) (W := 1) rfl (hb hby D_prog_19_method_11_code_4) (pc' := 7) rfl (by decide) (by decide) (by decide) (by decide) all0 ?_
  rintro _ vm14 h14 ⟨d_14, kd_14, rfl, K14, p14_0, o14_0, o14_1, o14_2, o14_3, o14_4⟩ C14
  have z14 := K14.1
  have yo14_3 := ltN o14_3.lt
  -- pc 7
  refine Go.ldcStr (n0 := 4) (vs := ([(40 : Int32)] : List Int32).map Value.int) hnw hown (wd_60 g) g.2.2.1 (g.2.2.2.1 _ (by decide)) (by decide) (hb hby D_prog_19_method_11_code_7) (pc' := 9) rfl (by decide) (by decide) (by decide) (by decide) ?_
  intro vm15 h16 a17 b18 k19 E20 C21 X22 F23 F24 A25 l26 l27 N28
  skip
  have KE20 := Keep.ofExt E20; have zE20 := E20.1
  have f29 : St Z h16 a17 b18 k19 [(40 : Int32)] := ⟨X22, F23, F24, A25, by decide⟩
  have f30 : St Z h16 a17 b18 k19 K251 := f29
  have f31 : Exa Z h16 a2 "java/lang/StringBuilder" := ((X6.keep K14).keep KE20)
  have f32 : Fld Z h16 a2 "java/lang/AbstractStringBuilder" "count" "I" (.int (0 : Nat).toInt32) := (o14_0.keep KE20 nin0)
  have f33 : Fld Z h16 a2 "java/lang/AbstractStringBuilder" "coder" "B" (.int 0) := (o14_1.keep KE20 nin0)
  have f34 : Fld Z h16 a2 "java/lang/AbstractStringBuilder" "value" "[B" (.ref d_14) := (o14_2.keep KE20 nin0)
  have f35 : Ar Z h16 d_14 kd_14 .byte ((pad [] 16).map Value.int) := (o14_3.keep KE20 nin0)
  have f36 : Safe Z EL vm15 h16 d_14 := (Safe.to C21 (by omega) o14_4)
  refine Go.callV (y0 := ⟨"java/lang/StringBuilder", "append", "(Ljava/lang/String;)Ljava/lang/StringBuilder;"⟩) (c_SBappFit (l := l) (nw := nw) (fk := fk) g h16 a2 d_14 kd_14 [] (16 : Nat) (0 : Nat) a17 b18 k19 K251 (1 : Nat) (show ([] : List Int32).length = (0 : Nat) from rfl) (by decide) (by decide) Byt.nil lK251 fK251 (by decide) (by omega) (by omega) f31 f32 f33 f34 f35 f30 (by omega)) hown (wd_61 g) (wd_62 g) (notFace_of_selects (wd_64 g)) (wd_64 g) (wd_63 g) f31 (wd_65 g) (wd_44 g) (by decide) (argsL := [(.ref a17)]) (lenOf pd_23 rfl) rfl (by rw [hml]; rfl) (W := 0) rfl (hb hby D_prog_19_method_11_code_9) (pc' := 12) rfl (by decide) (by decide) (by decide) (by decide) (allS ⟨by omega, f36⟩ all0) ?_
  rintro _ vm37 h37 ⟨rfl, K37, o37_0, o37_1, o37_2, o37_3, o37_4⟩ C37
  have z37 := K37.1
  have yo37_3 := ltN o37_3.lt
  -- pc 12
  obtain ⟨B38, hB38⟩ : ∃ B, B = [] ++ K251 := ⟨_, rfl⟩
  have lB38 : B38.length = (1 : Nat) := by have q8 := (show ([] : List Int32).length = (0 : Nat) from rfl); have q9 := lK251; rw [hB38, List.length_append, q8, q9]
  have fB38 : Byt B38 := by rw [hB38]; exact Byt.app Byt.nil fK251
  have f39 : Ar Z h37 d_14 kd_14 .byte ((pad B38 (16 : Nat)).map Value.int) := by have q9 := o37_3; rw [← hB38] at q9; exact q9
  have f40 : Fld Z h37 a2 "java/lang/AbstractStringBuilder" "count" "I" (.int (1 : Nat).toInt32) := o37_0
  refine Go.aloadN (hb hby D_prog_19_method_11_code_12) (pc' := 13) rfl rfl rfl ?_
  have f41 : Exa Z h37 a2 "java/lang/StringBuilder" := (f31.keep K37)
  have f42 : St Z h37 s0 d0 k0 cs := ((((e0.keep KE5 nin0 nin0).keep K14 (ninS (Exa.ne (e0.keep KE5 nin0 nin0).1 X6 (by decide)) nin0) (ninS (Ne.symm (Ar.ne_exa (e0.keep KE5 nin0 nin0).2.2.2.1 X6 (wd_43 g))) nin0)).keep KE20 nin0 nin0).keep K37 (ninS (Exa.ne (((e0.keep KE5 nin0 nin0).keep K14 (ninS (Exa.ne (e0.keep KE5 nin0 nin0).1 X6 (by decide)) nin0) (ninS (Ne.symm (Ar.ne_exa (e0.keep KE5 nin0 nin0).2.2.2.1 X6 (wd_43 g))) nin0)).keep KE20 nin0 nin0).1 ((X6.keep K14).keep KE20) (by decide)) (ninS (neN (by omega)) nin0)) (ninS (Ne.symm (Ar.ne_exa (((e0.keep KE5 nin0 nin0).keep K14 (ninS (Exa.ne (e0.keep KE5 nin0 nin0).1 X6 (by decide)) nin0) (ninS (Ne.symm (Ar.ne_exa (e0.keep KE5 nin0 nin0).2.2.2.1 X6 (wd_43 g))) nin0)).keep KE20 nin0 nin0).2.2.2.1 ((X6.keep K14).keep KE20) (wd_43 g))) (ninS (neN (by omega)) nin0)))
  refine Go.callV (y0 := ⟨"java/lang/StringBuilder", "append", "(Ljava/lang/String;)Ljava/lang/StringBuilder;"⟩) (c_SBappFit (l := l) (nw := nw) (fk := fk) g h37 a2 d_14 kd_14 B38 (16 : Nat) (1 : Nat) s0 d0 k0 cs (2 : Nat) lB38 (by decide) (by decide) fB38 hn fc (by decide) (by omega) (by omega) f41 f40 o37_1 o37_2 f39 f42 (by omega)) hown (wd_61 g) (wd_62 g) (notFace_of_selects (wd_64 g)) (wd_64 g) (wd_63 g) f41 (wd_65 g) (wd_44 g) (by decide) (argsL := [(.ref s0)]) (lenOf pd_23 rfl) rfl (by rw [hml]; rfl) (W := 0) rfl (hb hby D_prog_19_method_11_code_13) (pc' := 16) rfl (by decide) (by decide) (by decide) (by decide) (allS ⟨by omega, o37_4⟩ all0) ?_
  rintro _ vm43 h43 ⟨rfl, K43, o43_0, o43_1, o43_2, o43_3, o43_4⟩ C43
  have z43 := K43.1
  have yo43_3 := ltN o43_3.lt
  -- pc 16
  obtain ⟨B44, hB44⟩ : ∃ B, B = B38 ++ cs := ⟨_, rfl⟩
  have lB44 : B44.length = (3 : Nat) := by have q8 := lB38; have q9 := hn; rw [hB44, List.length_append, q8, q9]
  have fB44 : Byt B44 := by rw [hB44]; exact Byt.app fB38 fc
  have f45 : Ar Z h43 d_14 kd_14 .byte ((pad B44 (16 : Nat)).map Value.int) := by have q9 := o43_3; rw [← hB44] at q9; exact q9
  have f46 : Fld Z h43 a2 "java/lang/AbstractStringBuilder" "count" "I" (.int (3 : Nat).toInt32) := o43_0
  refine Go.ldcStr (n0 := 4) (vs := ([(41 : Int32)] : List Int32).map Value.int) hnw hown (wd_108 g) g.2.2.1 (g.2.2.2.1 _ (by decide)) (by decide) (hb hby D_prog_19_method_11_code_16) (pc' := 18) rfl (by decide) (by decide) (by decide) (by decide) ?_
  intro vm47 h48 a49 b50 k51 E52 C53 X54 F55 F56 A57 l58 l59 N60
  skip
  have KE52 := Keep.ofExt E52; have zE52 := E52.1
  have f61 : St Z h48 a49 b50 k51 [(41 : Int32)] := ⟨X54, F55, F56, A57, by decide⟩
  have f62 : St Z h48 a49 b50 k51 K253 := f61
  have f63 : Exa Z h48 a2 "java/lang/StringBuilder" := ((f41.keep K43).keep KE52)
  have f64 : Fld Z h48 a2 "java/lang/AbstractStringBuilder" "count" "I" (.int (3 : Nat).toInt32) := (f46.keep KE52 nin0)
  have f65 : Fld Z h48 a2 "java/lang/AbstractStringBuilder" "coder" "B" (.int 0) := (o43_1.keep KE52 nin0)
  have f66 : Fld Z h48 a2 "java/lang/AbstractStringBuilder" "value" "[B" (.ref d_14) := (o43_2.keep KE52 nin0)
  have f67 : Ar Z h48 d_14 kd_14 .byte ((pad B44 (16 : Nat)).map Value.int) := (f45.keep KE52 nin0)
  have f68 : Safe Z EL vm47 h48 d_14 := (Safe.to C53 (by omega) o43_4)
  refine Go.callV (y0 := ⟨"java/lang/StringBuilder", "append", "(Ljava/lang/String;)Ljava/lang/StringBuilder;"⟩) (c_SBappFit (l := l) (nw := nw) (fk := fk) g h48 a2 d_14 kd_14 B44 (16 : Nat) (3 : Nat) a49 b50 k51 K253 (1 : Nat) lB44 (by decide) (by decide) fB44 lK253 fK253 (by decide) (by omega) (by omega) f63 f64 f65 f66 f67 f62 (by omega)) hown (wd_61 g) (wd_62 g) (notFace_of_selects (wd_64 g)) (wd_64 g) (wd_63 g) f63 (wd_65 g) (wd_44 g) (by decide) (argsL := [(.ref a49)]) (lenOf pd_23 rfl) rfl (by rw [hml]; rfl) (W := 0) rfl (hb hby D_prog_19_method_11_code_18) (pc' := 21) rfl (by decide) (by decide) (by decide) (by decide) (allS ⟨by omega, f68⟩ all0) ?_
  rintro _ vm69 h69 ⟨rfl, K69, o69_0, o69_1, o69_2, o69_3, o69_4⟩ C69
  have z69 := K69.1
  have yo69_3 := ltN o69_3.lt
  -- pc 21
  obtain ⟨B70, hB70⟩ : ∃ B, B = B44 ++ K253 := ⟨_, rfl⟩
  have lB70 : B70.length = (4 : Nat) := by have q8 := lB44; have q9 := lK253; rw [hB70, List.length_append, q8, q9]
  have fB70 : Byt B70 := by rw [hB70]; exact Byt.app fB44 fK253
  have f71 : Ar Z h69 d_14 kd_14 .byte ((pad B70 (16 : Nat)).map Value.int) := by have q9 := o69_3; rw [← hB70] at q9; exact q9
  have f72 : Fld Z h69 a2 "java/lang/AbstractStringBuilder" "count" "I" (.int (4 : Nat).toInt32) := o69_0
  have f73 : Exa Z h69 a2 "java/lang/StringBuilder" := (f63.keep K69)
  refine Go.callV (y0 := ⟨"java/lang/StringBuilder", "toString", "()Ljava/lang/String;"⟩) (c_toString (l := l) (nw := nw) (fk := fk) g h69 a2 d_14 kd_14 B70 (16 : Nat) (4 : Nat) lB70 (by decide) (by decide) fB70 f73 f72 o69_1 o69_2 f71 (by omega)) hown (wd_109 g) (wd_110 g) (notFace_of_selects (wd_112 g)) (wd_112 g) (wd_111 g) f73 (wd_113 g) (wd_44 g) (by decide) (argsL := []) (lenOf pd_24 rfl) rfl (by rw [hml]; rfl) (W := 0) rfl (hb hby D_prog_19_method_11_code_21) (pc' := 24) rfl (by decide) (by decide) (by decide) (by decide) all0 ?_
  rintro _ vm74 h74 ⟨r_74, d2_74, k2_74, rfl, K74, p74_0, p74_1, o74_0⟩ C74
  have z74 := K74.1
  have yo74_0 := ltN o74_0.lt; have yo74_0' := ltN o74_0.ltb
  -- pc 24
  refine Go.astoreN (hb hby D_prog_19_method_11_code_24) (pc' := 25) rfl rfl (L' := #[.val (.ref s0), .val (.ref r_74)]) rfl ?_
  refine Go.newO hown (wd_42 g) (wd_43 g) (wd_44 g) (hb hby D_prog_19_method_11_code_25) (pc' := 28) rfl (by decide) (by decide) ?_
  intro h75 a76 g77 l78 E79 X80 D81 S82 C83 N84
  have KE79 := Keep.ofExt E79; have zE79 := E79.1
  have f85 : Fld Z h75 a76 "java/lang/AbstractStringBuilder" "value" "[B" .null := D81 (Or.inl (wd_57 g)) (ty := (.array .byte)) (by decide)
  have f86 : Fld Z h75 a76 "java/lang/AbstractStringBuilder" "coder" "B" (.int 0) := D81 (Or.inl (wd_59 g)) (ty := .byte) (by decide)
  have f87 : Fld Z h75 a76 "java/lang/AbstractStringBuilder" "count" "I" (.int 0) := D81 (Or.inl (wd_82 g)) (ty := .int) (by decide)
  refine Go.dup (hb hby D_prog_19_method_11_code_28) (pc' := 29) rfl rfl ?_
  refine Go.callC (c_SBinit (l := l) (nw := nw) (fk := fk) g h75 a76 (by first | omega | assumption | decide) X80 f87 f86 f85 (by omega)) hown rfl rfl (wd_45 g) (wd_46 g) (wd_47 g) (wd_44 g) (by decide) (argsL := []) (lenOf pd_22 rfl) rfl (by rw [hml]; rfl) (W := 1) rfl (hb hby D_prog_19_method_11_code_29) (pc' := 32) rfl (by decide) (by decide) (by decide) (by decide) all0 ?_
  rintro _ vm88 h88 ⟨d_88, kd_88, rfl, K88, p88_0, o88_0, o88_1, o88_2, o88_3, o88_4⟩ C88
  have z88 := K88.1
  have yo88_3 := ltN o88_3.lt
  -- pc 32
  refine Go.ldcStr (n0 := 16) (vs := ([(83 : Int32), (85 : Int32), (77 : Int32), (40 : Int32)] : List Int32).map Value.int) hnw hown (wd_154 g) g.2.2.1 (g.2.2.2.1 _ (by decide)) (by decide) (hb hby D_prog_19_method_11_code_32) (pc' := 34) rfl (by decide) (by decide) (by decide) (by decide) ?_
  intro vm89 h90 a91 b92 k93 E94 C95 X96 F97 F98 A99 l100 l101 N102
  skip
  have KE94 := Keep.ofExt E94; have zE94 := E94.1
  have f103 : St Z h90 a91 b92 k93 [(83 : Int32), (85 : Int32), (77 : Int32), (40 : Int32)] := ⟨X96, F97, F98, A99, by decide⟩
  have f104 : St Z h90 a91 b92 k93 K255 := f103
  have f105 : Exa Z h90 a76 "java/lang/StringBuilder" := ((X80.keep K88).keep KE94)
  have f106 : Fld Z h90 a76 "java/lang/AbstractStringBuilder" "count" "I" (.int (0 : Nat).toInt32) := (o88_0.keep KE94 nin0)
  have f107 : Fld Z h90 a76 "java/lang/AbstractStringBuilder" "coder" "B" (.int 0) := (o88_1.keep KE94 nin0)
  have f108 : Fld Z h90 a76 "java/lang/AbstractStringBuilder" "value" "[B" (.ref d_88) := (o88_2.keep KE94 nin0)
  have f109 : Ar Z h90 d_88 kd_88 .byte ((pad [] 16).map Value.int) := (o88_3.keep KE94 nin0)
  have f110 : Safe Z EL vm89 h90 d_88 := (Safe.to C95 (by omega) o88_4)
  refine Go.callV (y0 := ⟨"java/lang/StringBuilder", "append", "(Ljava/lang/String;)Ljava/lang/StringBuilder;"⟩) (c_SBappFit (l := l) (nw := nw) (fk := fk) g h90 a76 d_88 kd_88 [] (16 : Nat) (0 : Nat) a91 b92 k93 K255 (4 : Nat) (show ([] : List Int32).length = (0 : Nat) from rfl) (by decide) (by decide) Byt.nil lK255 fK255 (by decide) (by omega) (by omega) f105 f106 f107 f108 f109 f104 (by omega)) hown (wd_61 g) (wd_62 g) (notFace_of_selects (wd_64 g)) (wd_64 g) (wd_63 g) f105 (wd_65 g) (wd_44 g) (by decide) (argsL := [(.ref a91)]) (lenOf pd_23 rfl) rfl (by rw [hml]; rfl) (W := 0) rfl (hb hby D_prog_19_method_11_code_34) (pc' := 37) rfl (by decide) (by decide) (by decide) (by decide) (allS ⟨by omega, f110⟩ all0) ?_
  rintro _ vm111 h111 ⟨rfl, K111, o111_0, o111_1, o111_2, o111_3, o111_4⟩ C111
  have z111 := K111.1
  have yo111_3 := ltN o111_3.lt
  -- pc 37
  obtain ⟨B112, hB112⟩ : ∃ B, B = [] ++ K255 := ⟨_, rfl⟩
  have lB112 : B112.length = (4 : Nat) := by have q8 := (show ([] : List Int32).length = (0 : Nat) from rfl); have q9 := lK255; rw [hB112, List.length_append, q8, q9]
  have fB112 : Byt B112 := by rw [hB112]; exact Byt.app Byt.nil fK255
  have f113 : Ar Z h111 d_88 kd_88 .byte ((pad B112 (16 : Nat)).map Value.int) := by have q9 := o111_3; rw [← hB112] at q9; exact q9
  have f114 : Fld Z h111 a76 "java/lang/AbstractStringBuilder" "count" "I" (.int (4 : Nat).toInt32) := o111_0
  refine Go.aloadN (hb hby D_prog_19_method_11_code_37) (pc' := 38) rfl rfl rfl ?_
  have f115 : Exa Z h111 a76 "java/lang/StringBuilder" := (f105.keep K111)
  have f116 : St Z h111 r_74 d2_74 k2_74 B70 := ((((o74_0.keep KE79 nin0 nin0).keep K88 (ninS (Exa.ne (o74_0.keep KE79 nin0 nin0).1 X80 (by decide)) nin0) (ninS (Ne.symm (Ar.ne_exa (o74_0.keep KE79 nin0 nin0).2.2.2.1 X80 (wd_43 g))) nin0)).keep KE94 nin0 nin0).keep K111 (ninS (Exa.ne (((o74_0.keep KE79 nin0 nin0).keep K88 (ninS (Exa.ne (o74_0.keep KE79 nin0 nin0).1 X80 (by decide)) nin0) (ninS (Ne.symm (Ar.ne_exa (o74_0.keep KE79 nin0 nin0).2.2.2.1 X80 (wd_43 g))) nin0)).keep KE94 nin0 nin0).1 ((X80.keep K88).keep KE94) (by decide)) (ninS (neN (by omega)) nin0)) (ninS (Ne.symm (Ar.ne_exa (((o74_0.keep KE79 nin0 nin0).keep K88 (ninS (Exa.ne (o74_0.keep KE79 nin0 nin0).1 X80 (by decide)) nin0) (ninS (Ne.symm (Ar.ne_exa (o74_0.keep KE79 nin0 nin0).2.2.2.1 X80 (wd_43 g))) nin0)).keep KE94 nin0 nin0).2.2.2.1 ((X80.keep K88).keep KE94) (wd_43 g))) (ninS (neN (by omega)) nin0)))
  refine Go.callV (y0 := ⟨"java/lang/StringBuilder", "append", "(Ljava/lang/String;)Ljava/lang/StringBuilder;"⟩) (c_SBappFit (l := l) (nw := nw) (fk := fk) g h111 a76 d_88 kd_88 B112 (16 : Nat) (4 : Nat) r_74 d2_74 k2_74 B70 (4 : Nat) lB112 (by decide) (by decide) fB112 lB70 fB70 (by decide) (by omega) (by omega) f115 f114 o111_1 o111_2 f113 f116 (by omega)) hown (wd_61 g) (wd_62 g) (notFace_of_selects (wd_64 g)) (wd_64 g) (wd_63 g) f115 (wd_65 g) (wd_44 g) (by decide) (argsL := [(.ref r_74)]) (lenOf pd_23 rfl) rfl (by rw [hml]; rfl) (W := 0) rfl (hb hby D_prog_19_method_11_code_38) (pc' := 41) rfl (by decide) (by decide) (by decide) (by decide) (allS ⟨by omega, o111_4⟩ all0) ?_
  rintro _ vm117 h117 ⟨rfl, K117, o117_0, o117_1, o117_2, o117_3, o117_4⟩ C117
  have z117 := K117.1
  have yo117_3 := ltN o117_3.lt
  -- pc 41
  obtain ⟨B118, hB118⟩ : ∃ B, B = B112 ++ B70 := ⟨_, rfl⟩
  have lB118 : B118.length = (8 : Nat) := by have q8 := lB112; have q9 := lB70; rw [hB118, List.length_append, q8, q9]
  have fB118 : Byt B118 := by rw [hB118]; exact Byt.app fB112 fB70
  have f119 : Ar Z h117 d_88 kd_88 .byte ((pad B118 (16 : Nat)).map Value.int) := by have q9 := o117_3; rw [← hB118] at q9; exact q9
  have f120 : Fld Z h117 a76 "java/lang/AbstractStringBuilder" "count" "I" (.int (8 : Nat).toInt32) := o117_0
  refine Go.ldcwStr (n0 := 104) (vs := ([(32 : Int32), (47 : Int32), (32 : Int32), (49 : Int32), (48 : Int32), (48 : Int32), (48 : Int32), (48 : Int32), (48 : Int32), (48 : Int32), (48 : Int32), (48 : Int32), (48 : Int32), (48 : Int32), (48 : Int32), (48 : Int32), (48 : Int32), (48 : Int32), (48 : Int32), (41 : Int32), (44 : Int32), (32 : Int32), (83 : Int32), (85 : Int32), (77 : Int32), (40 : Int32)] : List Int32).map Value.int) hnw hown (wd_155 g) g.2.2.1 (g.2.2.2.1 _ (by decide)) (by decide) (hb hby D_prog_19_method_11_code_41) (pc' := 44) rfl (by decide) (by decide) (by decide) (by decide) ?_
  intro vm121 h122 a123 b124 k125 E126 C127 X128 F129 F130 A131 l132 l133
  skip
  have KE126 := Keep.ofExt E126; have zE126 := E126.1
  have f135 : St Z h122 a123 b124 k125 [(32 : Int32), (47 : Int32), (32 : Int32), (49 : Int32), (48 : Int32), (48 : Int32), (48 : Int32), (48 : Int32), (48 : Int32), (48 : Int32), (48 : Int32), (48 : Int32), (48 : Int32), (48 : Int32), (48 : Int32), (48 : Int32), (48 : Int32), (48 : Int32), (48 : Int32), (41 : Int32), (44 : Int32), (32 : Int32), (83 : Int32), (85 : Int32), (77 : Int32), (40 : Int32)] := ⟨X128, F129, F130, A131, by decide⟩
  have f136 : St Z h122 a123 b124 k125 K257 := f135
  have f137 : Exa Z h122 a76 "java/lang/StringBuilder" := ((f115.keep K117).keep KE126)
  have f138 : Fld Z h122 a76 "java/lang/AbstractStringBuilder" "count" "I" (.int (8 : Nat).toInt32) := (f120.keep KE126 nin0)
  have f139 : Fld Z h122 a76 "java/lang/AbstractStringBuilder" "coder" "B" (.int 0) := (o117_1.keep KE126 nin0)
  have f140 : Fld Z h122 a76 "java/lang/AbstractStringBuilder" "value" "[B" (.ref d_88) := (o117_2.keep KE126 nin0)
  have f141 : Ar Z h122 d_88 kd_88 .byte ((pad B118 (16 : Nat)).map Value.int) := (f119.keep KE126 nin0)
  refine Go.callV (y0 := ⟨"java/lang/StringBuilder", "append", "(Ljava/lang/String;)Ljava/lang/StringBuilder;"⟩) (c_SBappGrow (l := l) (nw := nw) (fk := fk) g h122 a76 d_88 kd_88 B118 (16 : Nat) (8 : Nat) a123 b124 k125 K257 (26 : Nat) lB118 (by decide) (by decide) fB118 lK257 fK257 (by decide) (by decide) (by omega) f137 f138 f139 f140 f141 f136 (by omega)) hown (wd_61 g) (wd_62 g) (notFace_of_selects (wd_64 g)) (wd_64 g) (wd_63 g) f137 (wd_65 g) (wd_44 g) (by decide) (argsL := [(.ref a123)]) (lenOf pd_23 rfl) rfl (by rw [hml]; rfl) (W := 0) rfl (hb hby D_prog_19_method_11_code_44) (pc' := 47) rfl (by decide) (by decide) (by decide) (by decide) all0 ?_
  rintro _ vm142 h142 ⟨d2_142, k2_142, rfl, K142, p142_0, o142_0, o142_1, o142_2, o142_3, o142_4⟩ C142
  have z142 := K142.1
  have yo142_3 := ltN o142_3.lt
  -- pc 47
  obtain ⟨B143, hB143⟩ : ∃ B, B = B118 ++ K257 := ⟨_, rfl⟩
  have lB143 : B143.length = (34 : Nat) := by have q8 := lB118; have q9 := lK257; rw [hB143, List.length_append, q8, q9]
  have fB143 : Byt B143 := by rw [hB143]; exact Byt.app fB118 fK257
  have f144 : Ar Z h142 d2_142 k2_142 .byte ((pad B143 (34 : Nat)).map Value.int) := by have q9 := o142_3; rw [← hB143, show cap2 (16 : Nat) ((8 : Nat) + (26 : Nat)) = (34 : Nat) from by decide] at q9; exact q9
  have f145 : Fld Z h142 a76 "java/lang/AbstractStringBuilder" "count" "I" (.int (34 : Nat).toInt32) := o142_0
  refine Go.aloadN (hb hby D_prog_19_method_11_code_47) (pc' := 48) rfl rfl rfl ?_
  have f146 : Exa Z h142 a76 "java/lang/StringBuilder" := (f137.keep K142)
  have f147 : St Z h142 r_74 d2_74 k2_74 B70 := (((f116.keep K117 (ninS (Exa.ne f116.1 (((X80.keep K88).keep KE94).keep K111) (by decide)) (ninS (neN (by omega)) nin0)) (ninS (Ne.symm (Ar.ne_exa f116.2.2.2.1 (((X80.keep K88).keep KE94).keep K111) (wd_43 g))) (ninS (neN (by omega)) nin0))).keep KE126 nin0 nin0).keep K142 (ninS (Exa.ne ((f116.keep K117 (ninS (Exa.ne f116.1 (((X80.keep K88).keep KE94).keep K111) (by decide)) (ninS (neN (by omega)) nin0)) (ninS (Ne.symm (Ar.ne_exa f116.2.2.2.1 (((X80.keep K88).keep KE94).keep K111) (wd_43 g))) (ninS (neN (by omega)) nin0))).keep KE126 nin0 nin0).1 (((((X80.keep K88).keep KE94).keep K111).keep K117).keep KE126) (by decide)) nin0) (ninS (Ne.symm (Ar.ne_exa ((f116.keep K117 (ninS (Exa.ne f116.1 (((X80.keep K88).keep KE94).keep K111) (by decide)) (ninS (neN (by omega)) nin0)) (ninS (Ne.symm (Ar.ne_exa f116.2.2.2.1 (((X80.keep K88).keep KE94).keep K111) (wd_43 g))) (ninS (neN (by omega)) nin0))).keep KE126 nin0 nin0).2.2.2.1 (((((X80.keep K88).keep KE94).keep K111).keep K117).keep KE126) (wd_43 g))) nin0))
  refine Go.callV (y0 := ⟨"java/lang/StringBuilder", "append", "(Ljava/lang/String;)Ljava/lang/StringBuilder;"⟩) (c_SBappGrow (l := l) (nw := nw) (fk := fk) g h142 a76 d2_142 k2_142 B143 (34 : Nat) (34 : Nat) r_74 d2_74 k2_74 B70 (4 : Nat) lB143 (by decide) (by decide) fB143 lB70 fB70 (by decide) (by decide) (by omega) f146 f145 o142_1 o142_2 f144 f147 (by omega)) hown (wd_61 g) (wd_62 g) (notFace_of_selects (wd_64 g)) (wd_64 g) (wd_63 g) f146 (wd_65 g) (wd_44 g) (by decide) (argsL := [(.ref r_74)]) (lenOf pd_23 rfl) rfl (by rw [hml]; rfl) (W := 0) rfl (hb hby D_prog_19_method_11_code_48) (pc' := 51) rfl (by decide) (by decide) (by decide) (by decide) all0 ?_
  rintro _ vm148 h148 ⟨d2_148, k2_148, rfl, K148, p148_0, o148_0, o148_1, o148_2, o148_3, o148_4⟩ C148
  have z148 := K148.1
  have yo148_3 := ltN o148_3.lt
  -- pc 51
  obtain ⟨B149, hB149⟩ : ∃ B, B = B143 ++ B70 := ⟨_, rfl⟩
  have lB149 : B149.length = (38 : Nat) := by have q8 := lB143; have q9 := lB70; rw [hB149, List.length_append, q8, q9]
  have fB149 : Byt B149 := by rw [hB149]; exact Byt.app fB143 fB70
  have f150 : Ar Z h148 d2_148 k2_148 .byte ((pad B149 (70 : Nat)).map Value.int) := by have q9 := o148_3; rw [← hB149, show cap2 (34 : Nat) ((34 : Nat) + (4 : Nat)) = (70 : Nat) from by decide] at q9; exact q9
  have f151 : Fld Z h148 a76 "java/lang/AbstractStringBuilder" "count" "I" (.int (38 : Nat).toInt32) := o148_0
  refine Go.ldcwStr (n0 := 120) (vs := ([(32 : Int32), (47 : Int32), (32 : Int32), (49 : Int32), (48 : Int32), (48 : Int32), (48 : Int32), (48 : Int32), (48 : Int32), (48 : Int32), (48 : Int32), (48 : Int32), (48 : Int32), (48 : Int32), (32 : Int32), (37 : Int32), (32 : Int32), (49 : Int32), (48 : Int32), (48 : Int32), (48 : Int32), (48 : Int32), (48 : Int32), (41 : Int32), (44 : Int32), (32 : Int32), (83 : Int32), (85 : Int32), (77 : Int32), (40 : Int32)] : List Int32).map Value.int) hnw hown (wd_173 g) g.2.2.1 (g.2.2.2.1 _ (by decide)) (by decide) (hb hby D_prog_19_method_11_code_51) (pc' := 54) rfl (by decide) (by decide) (by decide) (by decide) ?_
  intro vm152 h153 a154 b155 k156 E157 C158 X159 F160 F161 A162 l163 l164
  skip
  have KE157 := Keep.ofExt E157; have zE157 := E157.1
  have f166 : St Z h153 a154 b155 k156 [(32 : Int32), (47 : Int32), (32 : Int32), (49 : Int32), (48 : Int32), (48 : Int32), (48 : Int32), (48 : Int32), (48 : Int32), (48 : Int32), (48 : Int32), (48 : Int32), (48 : Int32), (48 : Int32), (32 : Int32), (37 : Int32), (32 : Int32), (49 : Int32), (48 : Int32), (48 : Int32), (48 : Int32), (48 : Int32), (48 : Int32), (41 : Int32), (44 : Int32), (32 : Int32), (83 : Int32), (85 : Int32), (77 : Int32), (40 : Int32)] := ⟨X159, F160, F161, A162, by decide⟩
  have f167 : St Z h153 a154 b155 k156 K259 := f166
  have f168 : Exa Z h153 a76 "java/lang/StringBuilder" := ((f146.keep K148).keep KE157)
  have f169 : Fld Z h153 a76 "java/lang/AbstractStringBuilder" "count" "I" (.int (38 : Nat).toInt32) := (f151.keep KE157 nin0)
  have f170 : Fld Z h153 a76 "java/lang/AbstractStringBuilder" "coder" "B" (.int 0) := (o148_1.keep KE157 nin0)
  have f171 : Fld Z h153 a76 "java/lang/AbstractStringBuilder" "value" "[B" (.ref d2_148) := (o148_2.keep KE157 nin0)
  have f172 : Ar Z h153 d2_148 k2_148 .byte ((pad B149 (70 : Nat)).map Value.int) := (f150.keep KE157 nin0)
  have f173 : Safe Z EL vm152 h153 d2_148 := (Safe.to C158 (by omega) o148_4)
  refine Go.callV (y0 := ⟨"java/lang/StringBuilder", "append", "(Ljava/lang/String;)Ljava/lang/StringBuilder;"⟩) (c_SBappFit (l := l) (nw := nw) (fk := fk) g h153 a76 d2_148 k2_148 B149 (70 : Nat) (38 : Nat) a154 b155 k156 K259 (30 : Nat) lB149 (by decide) (by decide) fB149 lK259 fK259 (by decide) (by omega) (by omega) f168 f169 f170 f171 f172 f167 (by omega)) hown (wd_61 g) (wd_62 g) (notFace_of_selects (wd_64 g)) (wd_64 g) (wd_63 g) f168 (wd_65 g) (wd_44 g) (by decide) (argsL := [(.ref a154)]) (lenOf pd_23 rfl) rfl (by rw [hml]; rfl) (W := 0) rfl (hb hby D_prog_19_method_11_code_54) (pc' := 57) rfl (by decide) (by decide) (by decide) (by decide) (allS ⟨by omega, f173⟩ all0) ?_
  rintro _ vm174 h174 ⟨rfl, K174, o174_0, o174_1, o174_2, o174_3, o174_4⟩ C174
  have z174 := K174.1
  have yo174_3 := ltN o174_3.lt
  -- pc 57
  obtain ⟨B175, hB175⟩ : ∃ B, B = B149 ++ K259 := ⟨_, rfl⟩
  have lB175 : B175.length = (68 : Nat) := by have q8 := lB149; have q9 := lK259; rw [hB175, List.length_append, q8, q9]
  have fB175 : Byt B175 := by rw [hB175]; exact Byt.app fB149 fK259
  have f176 : Ar Z h174 d2_148 k2_148 .byte ((pad B175 (70 : Nat)).map Value.int) := by have q9 := o174_3; rw [← hB175] at q9; exact q9
  have f177 : Fld Z h174 a76 "java/lang/AbstractStringBuilder" "count" "I" (.int (68 : Nat).toInt32) := o174_0
  refine Go.aloadN (hb hby D_prog_19_method_11_code_57) (pc' := 58) rfl rfl rfl ?_
  have f178 : Exa Z h174 a76 "java/lang/StringBuilder" := (f168.keep K174)
  have f179 : St Z h174 r_74 d2_74 k2_74 B70 := (((f147.keep K148 (ninS (Exa.ne f147.1 ((((((X80.keep K88).keep KE94).keep K111).keep K117).keep KE126).keep K142) (by decide)) nin0) (ninS (Ne.symm (Ar.ne_exa f147.2.2.2.1 ((((((X80.keep K88).keep KE94).keep K111).keep K117).keep KE126).keep K142) (wd_43 g))) nin0)).keep KE157 nin0 nin0).keep K174 (ninS (Exa.ne ((f147.keep K148 (ninS (Exa.ne f147.1 ((((((X80.keep K88).keep KE94).keep K111).keep K117).keep KE126).keep K142) (by decide)) nin0) (ninS (Ne.symm (Ar.ne_exa f147.2.2.2.1 ((((((X80.keep K88).keep KE94).keep K111).keep K117).keep KE126).keep K142) (wd_43 g))) nin0)).keep KE157 nin0 nin0).1 ((((((((X80.keep K88).keep KE94).keep K111).keep K117).keep KE126).keep K142).keep K148).keep KE157) (by decide)) (ninS (neN (by omega)) nin0)) (ninS (Ne.symm (Ar.ne_exa ((f147.keep K148 (ninS (Exa.ne f147.1 ((((((X80.keep K88).keep KE94).keep K111).keep K117).keep KE126).keep K142) (by decide)) nin0) (ninS (Ne.symm (Ar.ne_exa f147.2.2.2.1 ((((((X80.keep K88).keep KE94).keep K111).keep K117).keep KE126).keep K142) (wd_43 g))) nin0)).keep KE157 nin0 nin0).2.2.2.1 ((((((((X80.keep K88).keep KE94).keep K111).keep K117).keep KE126).keep K142).keep K148).keep KE157) (wd_43 g))) (ninS (neN (by omega)) nin0)))
  refine Go.callV (y0 := ⟨"java/lang/StringBuilder", "append", "(Ljava/lang/String;)Ljava/lang/StringBuilder;"⟩) (c_SBappGrow (l := l) (nw := nw) (fk := fk) g h174 a76 d2_148 k2_148 B175 (70 : Nat) (68 : Nat) r_74 d2_74 k2_74 B70 (4 : Nat) lB175 (by decide) (by decide) fB175 lB70 fB70 (by decide) (by decide) (by omega) f178 f177 o174_1 o174_2 f176 f179 (by omega)) hown (wd_61 g) (wd_62 g) (notFace_of_selects (wd_64 g)) (wd_64 g) (wd_63 g) f178 (wd_65 g) (wd_44 g) (by decide) (argsL := [(.ref r_74)]) (lenOf pd_23 rfl) rfl (by rw [hml]; rfl) (W := 0) rfl (hb hby D_prog_19_method_11_code_58) (pc' := 61) rfl (by decide) (by decide) (by decide) (by decide) all0 ?_
  rintro _ vm180 h180 ⟨d2_180, k2_180, rfl, K180, p180_0, o180_0, o180_1, o180_2, o180_3, o180_4⟩ C180
  have z180 := K180.1
  have yo180_3 := ltN o180_3.lt
  -- pc 61
  obtain ⟨B181, hB181⟩ : ∃ B, B = B175 ++ B70 := ⟨_, rfl⟩
  have lB181 : B181.length = (72 : Nat) := by have q8 := lB175; have q9 := lB70; rw [hB181, List.length_append, q8, q9]
  have fB181 : Byt B181 := by rw [hB181]; exact Byt.app fB175 fB70
  have f182 : Ar Z h180 d2_180 k2_180 .byte ((pad B181 (142 : Nat)).map Value.int) := by have q9 := o180_3; rw [← hB181, show cap2 (70 : Nat) ((68 : Nat) + (4 : Nat)) = (142 : Nat) from by decide] at q9; exact q9
  have f183 : Fld Z h180 a76 "java/lang/AbstractStringBuilder" "count" "I" (.int (72 : Nat).toInt32) := o180_0
  refine Go.ldcwStr (n0 := 100) (vs := ([(32 : Int32), (47 : Int32), (32 : Int32), (49 : Int32), (48 : Int32), (48 : Int32), (48 : Int32), (48 : Int32), (48 : Int32), (32 : Int32), (37 : Int32), (32 : Int32), (49 : Int32), (48 : Int32), (48 : Int32), (48 : Int32), (48 : Int32), (48 : Int32), (41 : Int32), (44 : Int32), (32 : Int32), (83 : Int32), (85 : Int32), (77 : Int32), (40 : Int32)] : List Int32).map Value.int) hnw hown (wd_174 g) g.2.2.1 (g.2.2.2.1 _ (by decide)) (by decide) (hb hby D_prog_19_method_11_code_61) (pc' := 64) rfl (by decide) (by decide) (by decide) (by decide) ?_
  intro vm184 h185 a186 b187 k188 E189 C190 X191 F192 F193 A194 l195 l196
  skip
  have KE189 := Keep.ofExt E189; have zE189 := E189.1
  have f198 : St Z h185 a186 b187 k188 [(32 : Int32), (47 : Int32), (32 : Int32), (49 : Int32), (48 : Int32), (48 : Int32), (48 : Int32), (48 : Int32), (48 : Int32), (32 : Int32), (37 : Int32), (32 : Int32), (49 : Int32), (48 : Int32), (48 : Int32), (48 : Int32), (48 : Int32), (48 : Int32), (41 : Int32), (44 : Int32), (32 : Int32), (83 : Int32), (85 : Int32), (77 : Int32), (40 : Int32)] := ⟨X191, F192, F193, A194, by decide⟩
  have f199 : St Z h185 a186 b187 k188 K261 := f198
  have f200 : Exa Z h185 a76 "java/lang/StringBuilder" := ((f178.keep K180).keep KE189)
  have f201 : Fld Z h185 a76 "java/lang/AbstractStringBuilder" "count" "I" (.int (72 : Nat).toInt32) := (f183.keep KE189 nin0)
  have f202 : Fld Z h185 a76 "java/lang/AbstractStringBuilder" "coder" "B" (.int 0) := (o180_1.keep KE189 nin0)
  have f203 : Fld Z h185 a76 "java/lang/AbstractStringBuilder" "value" "[B" (.ref d2_180) := (o180_2.keep KE189 nin0)
  have f204 : Ar Z h185 d2_180 k2_180 .byte ((pad B181 (142 : Nat)).map Value.int) := (f182.keep KE189 nin0)
  have f205 : Safe Z EL vm184 h185 d2_180 := (Safe.to C190 (by omega) o180_4)
  refine Go.callV (y0 := ⟨"java/lang/StringBuilder", "append", "(Ljava/lang/String;)Ljava/lang/StringBuilder;"⟩) (c_SBappFit (l := l) (nw := nw) (fk := fk) g h185 a76 d2_180 k2_180 B181 (142 : Nat) (72 : Nat) a186 b187 k188 K261 (25 : Nat) lB181 (by decide) (by decide) fB181 lK261 fK261 (by decide) (by omega) (by omega) f200 f201 f202 f203 f204 f199 (by omega)) hown (wd_61 g) (wd_62 g) (notFace_of_selects (wd_64 g)) (wd_64 g) (wd_63 g) f200 (wd_65 g) (wd_44 g) (by decide) (argsL := [(.ref a186)]) (lenOf pd_23 rfl) rfl (by rw [hml]; rfl) (W := 0) rfl (hb hby D_prog_19_method_11_code_64) (pc' := 67) rfl (by decide) (by decide) (by decide) (by decide) (allS ⟨by omega, f205⟩ all0) ?_
  rintro _ vm206 h206 ⟨rfl, K206, o206_0, o206_1, o206_2, o206_3, o206_4⟩ C206
  have z206 := K206.1
  have yo206_3 := ltN o206_3.lt
  -- pc 67
  obtain ⟨B207, hB207⟩ : ∃ B, B = B181 ++ K261 := ⟨_, rfl⟩
  have lB207 : B207.length = (97 : Nat) := by have q8 := lB181; have q9 := lK261; rw [hB207, List.length_append, q8, q9]
  have fB207 : Byt B207 := by rw [hB207]; exact Byt.app fB181 fK261
  have f208 : Ar Z h206 d2_180 k2_180 .byte ((pad B207 (142 : Nat)).map Value.int) := by have q9 := o206_3; rw [← hB207] at q9; exact q9
  have f209 : Fld Z h206 a76 "java/lang/AbstractStringBuilder" "count" "I" (.int (97 : Nat).toInt32) := o206_0
  refine Go.aloadN (hb hby D_prog_19_method_11_code_67) (pc' := 68) rfl rfl rfl ?_
  have f210 : Exa Z h206 a76 "java/lang/StringBuilder" := (f200.keep K206)
  have f211 : St Z h206 r_74 d2_74 k2_74 B70 := (((f179.keep K180 (ninS (Exa.ne f179.1 (((((((((X80.keep K88).keep KE94).keep K111).keep K117).keep KE126).keep K142).keep K148).keep KE157).keep K174) (by decide)) nin0) (ninS (Ne.symm (Ar.ne_exa f179.2.2.2.1 (((((((((X80.keep K88).keep KE94).keep K111).keep K117).keep KE126).keep K142).keep K148).keep KE157).keep K174) (wd_43 g))) nin0)).keep KE189 nin0 nin0).keep K206 (ninS (Exa.ne ((f179.keep K180 (ninS (Exa.ne f179.1 (((((((((X80.keep K88).keep KE94).keep K111).keep K117).keep KE126).keep K142).keep K148).keep KE157).keep K174) (by decide)) nin0) (ninS (Ne.symm (Ar.ne_exa f179.2.2.2.1 (((((((((X80.keep K88).keep KE94).keep K111).keep K117).keep KE126).keep K142).keep K148).keep KE157).keep K174) (wd_43 g))) nin0)).keep KE189 nin0 nin0).1 (((((((((((X80.keep K88).keep KE94).keep K111).keep K117).keep KE126).keep K142).keep K148).keep KE157).keep K174).keep K180).keep KE189) (by decide)) (ninS (neN (by omega)) nin0)) (ninS (Ne.symm (Ar.ne_exa ((f179.keep K180 (ninS (Exa.ne f179.1 (((((((((X80.keep K88).keep KE94).keep K111).keep K117).keep KE126).keep K142).keep K148).keep KE157).keep K174) (by decide)) nin0) (ninS (Ne.symm (Ar.ne_exa f179.2.2.2.1 (((((((((X80.keep K88).keep KE94).keep K111).keep K117).keep KE126).keep K142).keep K148).keep KE157).keep K174) (wd_43 g))) nin0)).keep KE189 nin0 nin0).2.2.2.1 (((((((((((X80.keep K88).keep KE94).keep K111).keep K117).keep KE126).keep K142).keep K148).keep KE157).keep K174).keep K180).keep KE189) (wd_43 g))) (ninS (neN (by omega)) nin0)))
  refine Go.callV (y0 := ⟨"java/lang/StringBuilder", "append", "(Ljava/lang/String;)Ljava/lang/StringBuilder;"⟩) (c_SBappFit (l := l) (nw := nw) (fk := fk) g h206 a76 d2_180 k2_180 B207 (142 : Nat) (97 : Nat) r_74 d2_74 k2_74 B70 (4 : Nat) lB207 (by decide) (by decide) fB207 lB70 fB70 (by decide) (by omega) (by omega) f210 f209 o206_1 o206_2 f208 f211 (by omega)) hown (wd_61 g) (wd_62 g) (notFace_of_selects (wd_64 g)) (wd_64 g) (wd_63 g) f210 (wd_65 g) (wd_44 g) (by decide) (argsL := [(.ref r_74)]) (lenOf pd_23 rfl) rfl (by rw [hml]; rfl) (W := 0) rfl (hb hby D_prog_19_method_11_code_68) (pc' := 71) rfl (by decide) (by decide) (by decide) (by decide) (allS ⟨by omega, o206_4⟩ all0) ?_
  rintro _ vm212 h212 ⟨rfl, K212, o212_0, o212_1, o212_2, o212_3, o212_4⟩ C212
  have z212 := K212.1
  have yo212_3 := ltN o212_3.lt
  -- pc 71
  obtain ⟨B213, hB213⟩ : ∃ B, B = B207 ++ B70 := ⟨_, rfl⟩
  have lB213 : B213.length = (101 : Nat) := by have q8 := lB207; have q9 := lB70; rw [hB213, List.length_append, q8, q9]
  have fB213 : Byt B213 := by rw [hB213]; exact Byt.app fB207 fB70
  have f214 : Ar Z h212 d2_180 k2_180 .byte ((pad B213 (142 : Nat)).map Value.int) := by have q9 := o212_3; rw [← hB213] at q9; exact q9
  have f215 : Fld Z h212 a76 "java/lang/AbstractStringBuilder" "count" "I" (.int (101 : Nat).toInt32) := o212_0
  refine Go.ldcwStr (n0 := 40) (vs := ([(32 : Int32), (37 : Int32), (32 : Int32), (49 : Int32), (48 : Int32), (48 : Int32), (48 : Int32), (48 : Int32), (48 : Int32), (41 : Int32)] : List Int32).map Value.int) hnw hown (wd_175 g) g.2.2.1 (g.2.2.2.1 _ (by decide)) (by decide) (hb hby D_prog_19_method_11_code_71) (pc' := 74) rfl (by decide) (by decide) (by decide) (by decide) ?_
  intro vm216 h217 a218 b219 k220 E221 C222 X223 F224 F225 A226 l227 l228
  skip
  have KE221 := Keep.ofExt E221; have zE221 := E221.1
  have f230 : St Z h217 a218 b219 k220 [(32 : Int32), (37 : Int32), (32 : Int32), (49 : Int32), (48 : Int32), (48 : Int32), (48 : Int32), (48 : Int32), (48 : Int32), (41 : Int32)] := ⟨X223, F224, F225, A226, by decide⟩
  have f231 : St Z h217 a218 b219 k220 K263 := f230
  have f232 : Exa Z h217 a76 "java/lang/StringBuilder" := ((f210.keep K212).keep KE221)
  have f233 : Fld Z h217 a76 "java/lang/AbstractStringBuilder" "count" "I" (.int (101 : Nat).toInt32) := (f215.keep KE221 nin0)
  have f234 : Fld Z h217 a76 "java/lang/AbstractStringBuilder" "coder" "B" (.int 0) := (o212_1.keep KE221 nin0)
  have f235 : Fld Z h217 a76 "java/lang/AbstractStringBuilder" "value" "[B" (.ref d2_180) := (o212_2.keep KE221 nin0)
  have f236 : Ar Z h217 d2_180 k2_180 .byte ((pad B213 (142 : Nat)).map Value.int) := (f214.keep KE221 nin0)
  have f237 : Safe Z EL vm216 h217 d2_180 := (Safe.to C222 (by omega) o212_4)
  refine Go.callV (y0 := ⟨"java/lang/StringBuilder", "append", "(Ljava/lang/String;)Ljava/lang/StringBuilder;"⟩) (c_SBappFit (l := l) (nw := nw) (fk := fk) g h217 a76 d2_180 k2_180 B213 (142 : Nat) (101 : Nat) a218 b219 k220 K263 (10 : Nat) lB213 (by decide) (by decide) fB213 lK263 fK263 (by decide) (by omega) (by omega) f232 f233 f234 f235 f236 f231 (by omega)) hown (wd_61 g) (wd_62 g) (notFace_of_selects (wd_64 g)) (wd_64 g) (wd_63 g) f232 (wd_65 g) (wd_44 g) (by decide) (argsL := [(.ref a218)]) (lenOf pd_23 rfl) rfl (by rw [hml]; rfl) (W := 0) rfl (hb hby D_prog_19_method_11_code_74) (pc' := 77) rfl (by decide) (by decide) (by decide) (by decide) (allS ⟨by omega, f237⟩ all0) ?_
  rintro _ vm238 h238 ⟨rfl, K238, o238_0, o238_1, o238_2, o238_3, o238_4⟩ C238
  have z238 := K238.1
  have yo238_3 := ltN o238_3.lt
  -- pc 77
  obtain ⟨B239, hB239⟩ : ∃ B, B = B213 ++ K263 := ⟨_, rfl⟩
  have lB239 : B239.length = (111 : Nat) := by have q8 := lB213; have q9 := lK263; rw [hB239, List.length_append, q8, q9]
  have fB239 : Byt B239 := by rw [hB239]; exact Byt.app fB213 fK263
  have f240 : Ar Z h238 d2_180 k2_180 .byte ((pad B239 (142 : Nat)).map Value.int) := by have q9 := o238_3; rw [← hB239] at q9; exact q9
  have f241 : Fld Z h238 a76 "java/lang/AbstractStringBuilder" "count" "I" (.int (111 : Nat).toInt32) := o238_0
  have f242 : Exa Z h238 a76 "java/lang/StringBuilder" := (f232.keep K238)
  refine Go.callV (y0 := ⟨"java/lang/StringBuilder", "toString", "()Ljava/lang/String;"⟩) (c_toString (l := l) (nw := nw) (fk := fk) g h238 a76 d2_180 k2_180 B239 (142 : Nat) (111 : Nat) lB239 (by decide) (by decide) fB239 f242 f241 o238_1 o238_2 f240 (by omega)) hown (wd_109 g) (wd_110 g) (notFace_of_selects (wd_112 g)) (wd_112 g) (wd_111 g) f242 (wd_113 g) (wd_44 g) (by decide) (argsL := []) (lenOf pd_24 rfl) rfl (by rw [hml]; rfl) (W := 0) rfl (hb hby D_prog_19_method_11_code_77) (pc' := 80) rfl (by decide) (by decide) (by decide) (by decide) all0 ?_
  rintro _ vm243 h243 ⟨r_243, d2_243, k2_243, rfl, K243, p243_0, p243_1, o243_0⟩ C243
  have z243 := K243.1
  have yo243_0 := ltN o243_0.lt; have yo243_0' := ltN o243_0.ltb
  -- pc 80
  have f244 : St Z h243 r_243 d2_243 k2_243 (sumS cs) := by have q9 := o243_0; rw [hB239, hB213, hB207, hB181, hB175, hB149, hB143, hB118, hB112, hB70, hB44, hB38] at q9; exact q9
  refine Go.retA hret rfl rfl (hb hby D_prog_19_method_11_code_80) (by decide) (by decide) ?_
  intro vmR CR
  exact ⟨r_243, d2_243, k2_243, (by first | rfl | (simp only [own_nar]; done) | (congr 2; done)), ((((((((((((((((((((((((((Keep.refl h []).trans KE5 all0).trans K14 (allS (by first | (left; simp; done) | (right; omega)) all0)).trans KE20 all0).trans K37 (allS (by first | (left; simp; done) | (right; omega)) (allS (by first | (left; simp; done) | (right; omega)) all0))).trans K43 (allS (by first | (left; simp; done) | (right; omega)) (allS (by first | (left; simp; done) | (right; omega)) all0))).trans KE52 all0).trans K69 (allS (by first | (left; simp; done) | (right; omega)) (allS (by first | (left; simp; done) | (right; omega)) all0))).trans K74 all0).trans KE79 all0).trans K88 (allS (by first | (left; simp; done) | (right; omega)) all0)).trans KE94 all0).trans K111 (allS (by first | (left; simp; done) | (right; omega)) (allS (by first | (left; simp; done) | (right; omega)) all0))).trans K117 (allS (by first | (left; simp; done) | (right; omega)) (allS (by first | (left; simp; done) | (right; omega)) all0))).trans KE126 all0).trans K142 (allS (by first | (left; simp; done) | (right; omega)) all0)).trans K148 (allS (by first | (left; simp; done) | (right; omega)) all0)).trans KE157 all0).trans K174 (allS (by first | (left; simp; done) | (right; omega)) (allS (by first | (left; simp; done) | (right; omega)) all0))).trans K180 (allS (by first | (left; simp; done) | (right; omega)) all0)).trans KE189 all0).trans K206 (allS (by first | (left; simp; done) | (right; omega)) (allS (by first | (left; simp; done) | (right; omega)) all0))).trans K212 (allS (by first | (left; simp; done) | (right; omega)) (allS (by first | (left; simp; done) | (right; omega)) all0))).trans KE221 all0).trans K238 (allS (by first | (left; simp; done) | (right; omega)) (allS (by first | (left; simp; done) | (right; omega)) all0))).trans K243 all0), (by omega), (by omega), f244⟩
set_option maxRecDepth 65536 in
set_option maxHeartbeats 40000000 in
theorem c_exact3 {l : Launch} {Z : State} {a0 : Array Value} {EL : List (String × Nat)} {nw fk : Prop} {zc : Int32} {sf : Value} (g : GH Z a0 EL zc sf) (hnw : ¬ nw) (h : Heap) (s0 : Addr) (d0 : Addr) (k0 : ClassId) (cs : List Int32) (hn : cs.length = (3 : Nat)) (fc : Byt cs) (e0 : St Z h s0 d0 k0 cs) (zz : Z.heap.size ≤ h.size) :
    Ct l Z EL nw fk [] ⟨"com/example/coffer/coffer/Ledger", "exactSum", "(Ljava/lang/String;)Ljava/lang/String;"⟩ prog_19_method_11_code 2 (some (.object "java/lang/String")) ({ frames := 6, cells := 25, slots := 1244, locals := 91 } : Room) #[(.ref s0)] h [] (fun res vm' h' => ∃ r : Addr, ∃ d2 : Addr, ∃ k2 : ClassId, res = some (.ref r) ∧ Keep h h' [] ∧ h.size ≤ r ∧ h.size ≤ d2 ∧ St Z h' r d2 k2 (sumS cs)) := by
  have ye0 := ltN e0.lt; have ye0' := ltN e0.ltb
  refine Ct.of_go (a0 := a0) g.2.1 (plainFor_of_name pn_7) (L0 := #[.val (.ref s0), .unset]) (fun m => by first | (simp [entryFrame, mkF, argsToLocals, Value.category, own_rep]; done) | rfl) ?_
  intro p e s m below meth c hown hby hml hret hnm hZ hC hO hsf
  refine Go.newO hown (wd_42 g) (wd_43 g) (wd_44 g) (hb hby D_prog_19_method_11_code_0) (pc' := 3) rfl (by decide) (by decide) ?_
  intro h1 a2 g3 l4 E5 X6 D7 S8 C9 N10
  have KE5 := Keep.ofExt E5; have zE5 := E5.1
  have f11 : Fld Z h1 a2 "java/lang/AbstractStringBuilder" "value" "[B" .null := D7 (Or.inl (wd_57 g)) (ty := (.array .byte)) (by decide)
  have f12 : Fld Z h1 a2 "java/lang/AbstractStringBuilder" "coder" "B" (.int 0) := D7 (Or.inl (wd_59 g)) (ty := .byte) (by decide)
  have f13 : Fld Z h1 a2 "java/lang/AbstractStringBuilder" "count" "I" (.int 0) := D7 (Or.inl (wd_82 g)) (ty := .int) (by decide)
  refine Go.dup (hb hby D_prog_19_method_11_code_3) (pc' := 4) rfl rfl ?_
  refine Go.callC (c_SBinit (l := l) (nw := nw) (fk := fk) g h1 a2 (by first | omega | assumption | decide) X6 f13 f12 f11 (by omega)) hown rfl rfl (wd_45 g) (wd_46 g) (wd_47 g) (wd_44 g) (by decide) (argsL := []) (lenOf pd_22 rfl) rfl (by rw [hml]; rfl) (W := 1) rfl (hb hby D_prog_19_method_11_code_4) (pc' := 7) rfl (by decide) (by decide) (by decide) (by decide) all0 ?_
  rintro _ vm14 h14 ⟨d_14, kd_14, rfl, K14, p14_0, o14_0, o14_1, o14_2, o14_3, o14_4⟩ C14
  have z14 := K14.1
  have yo14_3 := ltN o14_3.lt
  -- pc 7
  refine Go.ldcStr (n0 := 4) (vs := ([(40 : Int32)] : List Int32).map Value.int) hnw hown (wd_60 g) g.2.2.1 (g.2.2.2.1 _ (by decide)) (by decide) (hb hby D_prog_19_method_11_code_7) (pc' := 9) rfl (by decide) (by decide) (by decide) (by decide) ?_
  intro vm15 h16 a17 b18 k19 E20 C21 X22 F23 F24 A25 l26 l27 N28
  skip
  have KE20 := Keep.ofExt E20; have zE20 := E20.1
  have f29 : St Z h16 a17 b18 k19 [(40 : Int32)] := ⟨X22, F23, F24, A25, by decide⟩
  have f30 : St Z h16 a17 b18 k19 K251 := f29
  have f31 : Exa Z h16 a2 "java/lang/StringBuilder" := ((X6.keep K14).keep KE20)
  have f32 : Fld Z h16 a2 "java/lang/AbstractStringBuilder" "count" "I" (.int (0 : Nat).toInt32) := (o14_0.keep KE20 nin0)
  have f33 : Fld Z h16 a2 "java/lang/AbstractStringBuilder" "coder" "B" (.int 0) := (o14_1.keep KE20 nin0)
  have f34 : Fld Z h16 a2 "java/lang/AbstractStringBuilder" "value" "[B" (.ref d_14) := (o14_2.keep KE20 nin0)
  have f35 : Ar Z h16 d_14 kd_14 .byte ((pad [] 16).map Value.int) := (o14_3.keep KE20 nin0)
  have f36 : Safe Z EL vm15 h16 d_14 := (Safe.to C21 (by omega) o14_4)
  refine Go.callV (y0 := ⟨"java/lang/StringBuilder", "append", "(Ljava/lang/String;)Ljava/lang/StringBuilder;"⟩) (c_SBappFit (l := l) (nw := nw) (fk := fk) g h16 a2 d_14 kd_14 [] (16 : Nat) (0 : Nat) a17 b18 k19 K251 (1 : Nat) (show ([] : List Int32).length = (0 : Nat) from rfl) (by decide) (by decide) Byt.nil lK251 fK251 (by decide) (by omega) (by omega) f31 f32 f33 f34 f35 f30 (by omega)) hown (wd_61 g) (wd_62 g) (notFace_of_selects (wd_64 g)) (wd_64 g) (wd_63 g) f31 (wd_65 g) (wd_44 g) (by decide) (argsL := [(.ref a17)]) (lenOf pd_23 rfl) rfl (by rw [hml]; rfl) (W := 0) rfl (hb hby D_prog_19_method_11_code_9) (pc' := 12) rfl (by decide) (by decide) (by decide) (by decide) (allS ⟨by omega, f36⟩ all0) ?_
  rintro _ vm37 h37 ⟨rfl, K37, o37_0, o37_1, o37_2, o37_3, o37_4⟩ C37
  have z37 := K37.1
  have yo37_3 := ltN o37_3.lt
  -- pc 12
  obtain ⟨B38, hB38⟩ : ∃ B, B = [] ++ K251 := ⟨_, rfl⟩
  have lB38 : B38.length = (1 : Nat) := by have q8 := (show ([] : List Int32).length = (0 : Nat) from rfl); have q9 := lK251; rw [hB38, List.length_append, q8, q9]
  have fB38 : Byt B38 := by rw [hB38]; exact Byt.app Byt.nil fK251
  have f39 : Ar Z h37 d_14 kd_14 .byte ((pad B38 (16 : Nat)).map Value.int) := by have q9 := o37_3; rw [← hB38] at q9; exact q9
  have f40 : Fld Z h37 a2 "java/lang/AbstractStringBuilder" "count" "I" (.int (1 : Nat).toInt32) := o37_0
  refine Go.aloadN (hb hby D_prog_19_method_11_code_12) (pc' := 13) rfl rfl rfl ?_
  have f41 : Exa Z h37 a2 "java/lang/StringBuilder" := (f31.keep K37)
  have f42 : St Z h37 s0 d0 k0 cs := ((((e0.keep KE5 nin0 nin0).keep K14 (ninS (Exa.ne (e0.keep KE5 nin0 nin0).1 X6 (by decide)) nin0) (ninS (Ne.symm (Ar.ne_exa (e0.keep KE5 nin0 nin0).2.2.2.1 X6 (wd_43 g))) nin0)).keep KE20 nin0 nin0).keep K37 (ninS (Exa.ne (((e0.keep KE5 nin0 nin0).keep K14 (ninS (Exa.ne (e0.keep KE5 nin0 nin0).1 X6 (by decide)) nin0) (ninS (Ne.symm (Ar.ne_exa (e0.keep KE5 nin0 nin0).2.2.2.1 X6 (wd_43 g))) nin0)).keep KE20 nin0 nin0).1 ((X6.keep K14).keep KE20) (by decide)) (ninS (neN (by omega)) nin0)) (ninS (Ne.symm (Ar.ne_exa (((e0.keep KE5 nin0 nin0).keep K14 (ninS (Exa.ne (e0.keep KE5 nin0 nin0).1 X6 (by decide)) nin0) (ninS (Ne.symm (Ar.ne_exa (e0.keep KE5 nin0 nin0).2.2.2.1 X6 (wd_43 g))) nin0)).keep KE20 nin0 nin0).2.2.2.1 ((X6.keep K14).keep KE20) (wd_43 g))) (ninS (neN (by omega)) nin0)))
  refine Go.callV (y0 := ⟨"java/lang/StringBuilder", "append", "(Ljava/lang/String;)Ljava/lang/StringBuilder;"⟩) (c_SBappFit (l := l) (nw := nw) (fk := fk) g h37 a2 d_14 kd_14 B38 (16 : Nat) (1 : Nat) s0 d0 k0 cs (3 : Nat) lB38 (by decide) (by decide) fB38 hn fc (by decide) (by omega) (by omega) f41 f40 o37_1 o37_2 f39 f42 (by omega)) hown (wd_61 g) (wd_62 g) (notFace_of_selects (wd_64 g)) (wd_64 g) (wd_63 g) f41 (wd_65 g) (wd_44 g) (by decide) (argsL := [(.ref s0)]) (lenOf pd_23 rfl) rfl (by rw [hml]; rfl) (W := 0) rfl (hb hby D_prog_19_method_11_code_13) (pc' := 16) rfl (by decide) (by decide) (by decide) (by decide) (allS ⟨by omega, o37_4⟩ all0) ?_
  rintro _ vm43 h43 ⟨rfl, K43, o43_0, o43_1, o43_2, o43_3, o43_4⟩ C43
  have z43 := K43.1
  have yo43_3 := ltN o43_3.lt
  -- pc 16
  obtain ⟨B44, hB44⟩ : ∃ B, B = B38 ++ cs := ⟨_, rfl⟩
  have lB44 : B44.length = (4 : Nat) := by have q8 := lB38; have q9 := hn; rw [hB44, List.length_append, q8, q9]
  have fB44 : Byt B44 := by rw [hB44]; exact Byt.app fB38 fc
  have f45 : Ar Z h43 d_14 kd_14 .byte ((pad B44 (16 : Nat)).map Value.int) := by have q9 := o43_3; rw [← hB44] at q9; exact q9
  have f46 : Fld Z h43 a2 "java/lang/AbstractStringBuilder" "count" "I" (.int (4 : Nat).toInt32) := o43_0
  refine Go.ldcStr (n0 := 4) (vs := ([(41 : Int32)] : List Int32).map Value.int) hnw hown (wd_108 g) g.2.2.1 (g.2.2.2.1 _ (by decide)) (by decide) (hb hby D_prog_19_method_11_code_16) (pc' := 18) rfl (by decide) (by decide) (by decide) (by decide) ?_
  intro vm47 h48 a49 b50 k51 E52 C53 X54 F55 F56 A57 l58 l59 N60
  skip
  have KE52 := Keep.ofExt E52; have zE52 := E52.1
  have f61 : St Z h48 a49 b50 k51 [(41 : Int32)] := ⟨X54, F55, F56, A57, by decide⟩
  have f62 : St Z h48 a49 b50 k51 K253 := f61
  have f63 : Exa Z h48 a2 "java/lang/StringBuilder" := ((f41.keep K43).keep KE52)
  have f64 : Fld Z h48 a2 "java/lang/AbstractStringBuilder" "count" "I" (.int (4 : Nat).toInt32) := (f46.keep KE52 nin0)
  have f65 : Fld Z h48 a2 "java/lang/AbstractStringBuilder" "coder" "B" (.int 0) := (o43_1.keep KE52 nin0)
  have f66 : Fld Z h48 a2 "java/lang/AbstractStringBuilder" "value" "[B" (.ref d_14) := (o43_2.keep KE52 nin0)
  have f67 : Ar Z h48 d_14 kd_14 .byte ((pad B44 (16 : Nat)).map Value.int) := (f45.keep KE52 nin0)
  have f68 : Safe Z EL vm47 h48 d_14 := (Safe.to C53 (by omega) o43_4)
  refine Go.callV (y0 := ⟨"java/lang/StringBuilder", "append", "(Ljava/lang/String;)Ljava/lang/StringBuilder;"⟩) (c_SBappFit (l := l) (nw := nw) (fk := fk) g h48 a2 d_14 kd_14 B44 (16 : Nat) (4 : Nat) a49 b50 k51 K253 (1 : Nat) lB44 (by decide) (by decide) fB44 lK253 fK253 (by decide) (by omega) (by omega) f63 f64 f65 f66 f67 f62 (by omega)) hown (wd_61 g) (wd_62 g) (notFace_of_selects (wd_64 g)) (wd_64 g) (wd_63 g) f63 (wd_65 g) (wd_44 g) (by decide) (argsL := [(.ref a49)]) (lenOf pd_23 rfl) rfl (by rw [hml]; rfl) (W := 0) rfl (hb hby D_prog_19_method_11_code_18) (pc' := 21) rfl (by decide) (by decide) (by decide) (by decide) (allS ⟨by omega, f68⟩ all0) ?_
  rintro _ vm69 h69 ⟨rfl, K69, o69_0, o69_1, o69_2, o69_3, o69_4⟩ C69
  have z69 := K69.1
  have yo69_3 := ltN o69_3.lt
  -- pc 21
  obtain ⟨B70, hB70⟩ : ∃ B, B = B44 ++ K253 := ⟨_, rfl⟩
  have lB70 : B70.length = (5 : Nat) := by have q8 := lB44; have q9 := lK253; rw [hB70, List.length_append, q8, q9]
  have fB70 : Byt B70 := by rw [hB70]; exact Byt.app fB44 fK253
  have f71 : Ar Z h69 d_14 kd_14 .byte ((pad B70 (16 : Nat)).map Value.int) := by have q9 := o69_3; rw [← hB70] at q9; exact q9
  have f72 : Fld Z h69 a2 "java/lang/AbstractStringBuilder" "count" "I" (.int (5 : Nat).toInt32) := o69_0
  have f73 : Exa Z h69 a2 "java/lang/StringBuilder" := (f63.keep K69)
  refine Go.callV (y0 := ⟨"java/lang/StringBuilder", "toString", "()Ljava/lang/String;"⟩) (c_toString (l := l) (nw := nw) (fk := fk) g h69 a2 d_14 kd_14 B70 (16 : Nat) (5 : Nat) lB70 (by decide) (by decide) fB70 f73 f72 o69_1 o69_2 f71 (by omega)) hown (wd_109 g) (wd_110 g) (notFace_of_selects (wd_112 g)) (wd_112 g) (wd_111 g) f73 (wd_113 g) (wd_44 g) (by decide) (argsL := []) (lenOf pd_24 rfl) rfl (by rw [hml]; rfl) (W := 0) rfl (hb hby D_prog_19_method_11_code_21) (pc' := 24) rfl (by decide) (by decide) (by decide) (by decide) all0 ?_
  rintro _ vm74 h74 ⟨r_74, d2_74, k2_74, rfl, K74, p74_0, p74_1, o74_0⟩ C74
  have z74 := K74.1
  have yo74_0 := ltN o74_0.lt; have yo74_0' := ltN o74_0.ltb
  -- pc 24
  refine Go.astoreN (hb hby D_prog_19_method_11_code_24) (pc' := 25) rfl rfl (L' := #[.val (.ref s0), .val (.ref r_74)]) rfl ?_
  refine Go.newO hown (wd_42 g) (wd_43 g) (wd_44 g) (hb hby D_prog_19_method_11_code_25) (pc' := 28) rfl (by decide) (by decide) ?_
  intro h75 a76 g77 l78 E79 X80 D81 S82 C83 N84
  have KE79 := Keep.ofExt E79; have zE79 := E79.1
  have f85 : Fld Z h75 a76 "java/lang/AbstractStringBuilder" "value" "[B" .null := D81 (Or.inl (wd_57 g)) (ty := (.array .byte)) (by decide)
  have f86 : Fld Z h75 a76 "java/lang/AbstractStringBuilder" "coder" "B" (.int 0) := D81 (Or.inl (wd_59 g)) (ty := .byte) (by decide)
  have f87 : Fld Z h75 a76 "java/lang/AbstractStringBuilder" "count" "I" (.int 0) := D81 (Or.inl (wd_82 g)) (ty := .int) (by decide)
  refine Go.dup (hb hby D_prog_19_method_11_code_28) (pc' := 29) rfl rfl ?_
  refine Go.callC (c_SBinit (l := l) (nw := nw) (fk := fk) g h75 a76 (by first | omega | assumption | decide) X80 f87 f86 f85 (by omega)) hown rfl rfl (wd_45 g) (wd_46 g) (wd_47 g) (wd_44 g) (by decide) (argsL := []) (lenOf pd_22 rfl) rfl (by rw [hml]; rfl) (W := 1) rfl (hb hby D_prog_19_method_11_code_29) (pc' := 32) rfl (by decide) (by decide) (by decide) (by decide) all0 ?_
  rintro _ vm88 h88 ⟨d_88, kd_88, rfl, K88, p88_0, o88_0, o88_1, o88_2, o88_3, o88_4⟩ C88
  have z88 := K88.1
  have yo88_3 := ltN o88_3.lt
  -- pc 32
  refine Go.ldcStr (n0 := 16) (vs := ([(83 : Int32), (85 : Int32), (77 : Int32), (40 : Int32)] : List Int32).map Value.int) hnw hown (wd_154 g) g.2.2.1 (g.2.2.2.1 _ (by decide)) (by decide) (hb hby D_prog_19_method_11_code_32) (pc' := 34) rfl (by decide) (by decide) (by decide) (by decide) ?_
  intro vm89 h90 a91 b92 k93 E94 C95 X96 F97 F98 A99 l100 l101 N102
  skip
  have KE94 := Keep.ofExt E94; have zE94 := E94.1
  have f103 : St Z h90 a91 b92 k93 [(83 : Int32), (85 : Int32), (77 : Int32), (40 : Int32)] := ⟨X96, F97, F98, A99, by decide⟩
  have f104 : St Z h90 a91 b92 k93 K255 := f103
  have f105 : Exa Z h90 a76 "java/lang/StringBuilder" := ((X80.keep K88).keep KE94)
  have f106 : Fld Z h90 a76 "java/lang/AbstractStringBuilder" "count" "I" (.int (0 : Nat).toInt32) := (o88_0.keep KE94 nin0)
  have f107 : Fld Z h90 a76 "java/lang/AbstractStringBuilder" "coder" "B" (.int 0) := (o88_1.keep KE94 nin0)
  have f108 : Fld Z h90 a76 "java/lang/AbstractStringBuilder" "value" "[B" (.ref d_88) := (o88_2.keep KE94 nin0)
  have f109 : Ar Z h90 d_88 kd_88 .byte ((pad [] 16).map Value.int) := (o88_3.keep KE94 nin0)
  have f110 : Safe Z EL vm89 h90 d_88 := (Safe.to C95 (by omega) o88_4)
  refine Go.callV (y0 := ⟨"java/lang/StringBuilder", "append", "(Ljava/lang/String;)Ljava/lang/StringBuilder;"⟩) (c_SBappFit (l := l) (nw := nw) (fk := fk) g h90 a76 d_88 kd_88 [] (16 : Nat) (0 : Nat) a91 b92 k93 K255 (4 : Nat) (show ([] : List Int32).length = (0 : Nat) from rfl) (by decide) (by decide) Byt.nil lK255 fK255 (by decide) (by omega) (by omega) f105 f106 f107 f108 f109 f104 (by omega)) hown (wd_61 g) (wd_62 g) (notFace_of_selects (wd_64 g)) (wd_64 g) (wd_63 g) f105 (wd_65 g) (wd_44 g) (by decide) (argsL := [(.ref a91)]) (lenOf pd_23 rfl) rfl (by rw [hml]; rfl) (W := 0) rfl (hb hby D_prog_19_method_11_code_34) (pc' := 37) rfl (by decide) (by decide) (by decide) (by decide) (allS ⟨by omega, f110⟩ all0) ?_
  rintro _ vm111 h111 ⟨rfl, K111, o111_0, o111_1, o111_2, o111_3, o111_4⟩ C111
  have z111 := K111.1
  have yo111_3 := ltN o111_3.lt
  -- pc 37
  obtain ⟨B112, hB112⟩ : ∃ B, B = [] ++ K255 := ⟨_, rfl⟩
  have lB112 : B112.length = (4 : Nat) := by have q8 := (show ([] : List Int32).length = (0 : Nat) from rfl); have q9 := lK255; rw [hB112, List.length_append, q8, q9]
  have fB112 : Byt B112 := by rw [hB112]; exact Byt.app Byt.nil fK255
  have f113 : Ar Z h111 d_88 kd_88 .byte ((pad B112 (16 : Nat)).map Value.int) := by have q9 := o111_3; rw [← hB112] at q9; exact q9
  have f114 : Fld Z h111 a76 "java/lang/AbstractStringBuilder" "count" "I" (.int (4 : Nat).toInt32) := o111_0
  refine Go.aloadN (hb hby D_prog_19_method_11_code_37) (pc' := 38) rfl rfl rfl ?_
  have f115 : Exa Z h111 a76 "java/lang/StringBuilder" := (f105.keep K111)
  have f116 : St Z h111 r_74 d2_74 k2_74 B70 := ((((o74_0.keep KE79 nin0 nin0).keep K88 (ninS (Exa.ne (o74_0.keep KE79 nin0 nin0).1 X80 (by decide)) nin0) (ninS (Ne.symm (Ar.ne_exa (o74_0.keep KE79 nin0 nin0).2.2.2.1 X80 (wd_43 g))) nin0)).keep KE94 nin0 nin0).keep K111 (ninS (Exa.ne (((o74_0.keep KE79 nin0 nin0).keep K88 (ninS (Exa.ne (o74_0.keep KE79 nin0 nin0).1 X80 (by decide)) nin0) (ninS (Ne.symm (Ar.ne_exa (o74_0.keep KE79 nin0 nin0).2.2.2.1 X80 (wd_43 g))) nin0)).keep KE94 nin0 nin0).1 ((X80.keep K88).keep KE94) (by decide)) (ninS (neN (by omega)) nin0)) (ninS (Ne.symm (Ar.ne_exa (((o74_0.keep KE79 nin0 nin0).keep K88 (ninS (Exa.ne (o74_0.keep KE79 nin0 nin0).1 X80 (by decide)) nin0) (ninS (Ne.symm (Ar.ne_exa (o74_0.keep KE79 nin0 nin0).2.2.2.1 X80 (wd_43 g))) nin0)).keep KE94 nin0 nin0).2.2.2.1 ((X80.keep K88).keep KE94) (wd_43 g))) (ninS (neN (by omega)) nin0)))
  refine Go.callV (y0 := ⟨"java/lang/StringBuilder", "append", "(Ljava/lang/String;)Ljava/lang/StringBuilder;"⟩) (c_SBappFit (l := l) (nw := nw) (fk := fk) g h111 a76 d_88 kd_88 B112 (16 : Nat) (4 : Nat) r_74 d2_74 k2_74 B70 (5 : Nat) lB112 (by decide) (by decide) fB112 lB70 fB70 (by decide) (by omega) (by omega) f115 f114 o111_1 o111_2 f113 f116 (by omega)) hown (wd_61 g) (wd_62 g) (notFace_of_selects (wd_64 g)) (wd_64 g) (wd_63 g) f115 (wd_65 g) (wd_44 g) (by decide) (argsL := [(.ref r_74)]) (lenOf pd_23 rfl) rfl (by rw [hml]; rfl) (W := 0) rfl (hb hby D_prog_19_method_11_code_38) (pc' := 41) rfl (by decide) (by decide) (by decide) (by decide) (allS ⟨by omega, o111_4⟩ all0) ?_
  rintro _ vm117 h117 ⟨rfl, K117, o117_0, o117_1, o117_2, o117_3, o117_4⟩ C117
  have z117 := K117.1
  have yo117_3 := ltN o117_3.lt
  -- pc 41
  obtain ⟨B118, hB118⟩ : ∃ B, B = B112 ++ B70 := ⟨_, rfl⟩
  have lB118 : B118.length = (9 : Nat) := by have q8 := lB112; have q9 := lB70; rw [hB118, List.length_append, q8, q9]
  have fB118 : Byt B118 := by rw [hB118]; exact Byt.app fB112 fB70
  have f119 : Ar Z h117 d_88 kd_88 .byte ((pad B118 (16 : Nat)).map Value.int) := by have q9 := o117_3; rw [← hB118] at q9; exact q9
  have f120 : Fld Z h117 a76 "java/lang/AbstractStringBuilder" "count" "I" (.int (9 : Nat).toInt32) := o117_0
  refine Go.ldcwStr (n0 := 104) (vs := ([(32 : Int32), (47 : Int32), (32 : Int32), (49 : Int32), (48 : Int32), (48 : Int32), (48 : Int32), (48 : Int32), (48 : Int32), (48 : Int32), (48 : Int32), (48 : Int32), (48 : Int32), (48 : Int32), (48 : Int32), (48 : Int32), (48 : Int32), (48 : Int32), (48 : Int32), (41 : Int32), (44 : Int32), (32 : Int32), (83 : Int32), (85 : Int32), (77 : Int32), (40 : Int32)] : List Int32).map Value.int) hnw hown (wd_155 g) g.2.2.1 (g.2.2.2.1 _ (by decide)) (by decide) (hb hby D_prog_19_method_11_code_41) (pc' := 44) rfl (by decide) (by decide) (by decide) (by decide) ?_
  intro vm121 h122 a123 b124 k125 E126 C127 X128 F129 F130 A131 l132 l133
  skip
  have KE126 := Keep.ofExt E126; have zE126 := E126.1
  have f135 : St Z h122 a123 b124 k125 [(32 : Int32), (47 : Int32), (32 : Int32), (49 : Int32), (48 : Int32), (48 : Int32), (48 : Int32), (48 : Int32), (48 : Int32), (48 : Int32), (48 : Int32), (48 : Int32), (48 : Int32), (48 : Int32), (48 : Int32), (48 : Int32), (48 : Int32), (48 : Int32), (48 : Int32), (41 : Int32), (44 : Int32), (32 : Int32), (83 : Int32), (85 : Int32), (77 : Int32), (40 : Int32)] := ⟨X128, F129, F130, A131, by decide⟩
  have f136 : St Z h122 a123 b124 k125 K257 := f135
  have f137 : Exa Z h122 a76 "java/lang/StringBuilder" := ((f115.keep K117).keep KE126)
  have f138 : Fld Z h122 a76 "java/lang/AbstractStringBuilder" "count" "I" (.int (9 : Nat).toInt32) := (f120.keep KE126 nin0)
  have f139 : Fld Z h122 a76 "java/lang/AbstractStringBuilder" "coder" "B" (.int 0) := (o117_1.keep KE126 nin0)
  have f140 : Fld Z h122 a76 "java/lang/AbstractStringBuilder" "value" "[B" (.ref d_88) := (o117_2.keep KE126 nin0)
  have f141 : Ar Z h122 d_88 kd_88 .byte ((pad B118 (16 : Nat)).map Value.int) := (f119.keep KE126 nin0)
  refine Go.callV (y0 := ⟨"java/lang/StringBuilder", "append", "(Ljava/lang/String;)Ljava/lang/StringBuilder;"⟩) (c_SBappGrow (l := l) (nw := nw) (fk := fk) g h122 a76 d_88 kd_88 B118 (16 : Nat) (9 : Nat) a123 b124 k125 K257 (26 : Nat) lB118 (by decide) (by decide) fB118 lK257 fK257 (by decide) (by decide) (by omega) f137 f138 f139 f140 f141 f136 (by omega)) hown (wd_61 g) (wd_62 g) (notFace_of_selects (wd_64 g)) (wd_64 g) (wd_63 g) f137 (wd_65 g) (wd_44 g) (by decide) (argsL := [(.ref a123)]) (lenOf pd_23 rfl) rfl (by rw [hml]; rfl) (W := 0) rfl (hb hby D_prog_19_method_11_code_44) (pc' := 47) rfl (by decide) (by decide) (by decide) (by decide) all0 ?_
  rintro _ vm142 h142 ⟨d2_142, k2_142, rfl, K142, p142_0, o142_0, o142_1, o142_2, o142_3, o142_4⟩ C142
  have z142 := K142.1
  have yo142_3 := ltN o142_3.lt
  -- pc 47
  obtain ⟨B143, hB143⟩ : ∃ B, B = B118 ++ K257 := ⟨_, rfl⟩
  have lB143 : B143.length = (35 : Nat) := by have q8 := lB118; have q9 := lK257; rw [hB143, List.length_append, q8, q9]
  have fB143 : Byt B143 := by rw [hB143]; exact Byt.app fB118 fK257
  have f144 : Ar Z h142 d2_142 k2_142 .byte ((pad B143 (35 : Nat)).map Value.int) := by have q9 := o142_3; rw [← hB143, show cap2 (16 : Nat) ((9 : Nat) + (26 : Nat)) = (35 : Nat) from by decide] at q9; exact q9
  have f145 : Fld Z h142 a76 "java/lang/AbstractStringBuilder" "count" "I" (.int (35 : Nat).toInt32) := o142_0
  refine Go.aloadN (hb hby D_prog_19_method_11_code_47) (pc' := 48) rfl rfl rfl ?_
  have f146 : Exa Z h142 a76 "java/lang/StringBuilder" := (f137.keep K142)
  have f147 : St Z h142 r_74 d2_74 k2_74 B70 := (((f116.keep K117 (ninS (Exa.ne f116.1 (((X80.keep K88).keep KE94).keep K111) (by decide)) (ninS (neN (by omega)) nin0)) (ninS (Ne.symm (Ar.ne_exa f116.2.2.2.1 (((X80.keep K88).keep KE94).keep K111) (wd_43 g))) (ninS (neN (by omega)) nin0))).keep KE126 nin0 nin0).keep K142 (ninS (Exa.ne ((f116.keep K117 (ninS (Exa.ne f116.1 (((X80.keep K88).keep KE94).keep K111) (by decide)) (ninS (neN (by omega)) nin0)) (ninS (Ne.symm (Ar.ne_exa f116.2.2.2.1 (((X80.keep K88).keep KE94).keep K111) (wd_43 g))) (ninS (neN (by omega)) nin0))).keep KE126 nin0 nin0).1 (((((X80.keep K88).keep KE94).keep K111).keep K117).keep KE126) (by decide)) nin0) (ninS (Ne.symm (Ar.ne_exa ((f116.keep K117 (ninS (Exa.ne f116.1 (((X80.keep K88).keep KE94).keep K111) (by decide)) (ninS (neN (by omega)) nin0)) (ninS (Ne.symm (Ar.ne_exa f116.2.2.2.1 (((X80.keep K88).keep KE94).keep K111) (wd_43 g))) (ninS (neN (by omega)) nin0))).keep KE126 nin0 nin0).2.2.2.1 (((((X80.keep K88).keep KE94).keep K111).keep K117).keep KE126) (wd_43 g))) nin0))
  refine Go.callV (y0 := ⟨"java/lang/StringBuilder", "append", "(Ljava/lang/String;)Ljava/lang/StringBuilder;"⟩) (c_SBappGrow (l := l) (nw := nw) (fk := fk) g h142 a76 d2_142 k2_142 B143 (35 : Nat) (35 : Nat) r_74 d2_74 k2_74 B70 (5 : Nat) lB143 (by decide) (by decide) fB143 lB70 fB70 (by decide) (by decide) (by omega) f146 f145 o142_1 o142_2 f144 f147 (by omega)) hown (wd_61 g) (wd_62 g) (notFace_of_selects (wd_64 g)) (wd_64 g) (wd_63 g) f146 (wd_65 g) (wd_44 g) (by decide) (argsL := [(.ref r_74)]) (lenOf pd_23 rfl) rfl (by rw [hml]; rfl) (W := 0) rfl (hb hby D_prog_19_method_11_code_48) (pc' := 51) rfl (by decide) (by decide) (by decide) (by decide) all0 ?_
  rintro _ vm148 h148 ⟨d2_148, k2_148, rfl, K148, p148_0, o148_0, o148_1, o148_2, o148_3, o148_4⟩ C148
  have z148 := K148.1
  have yo148_3 := ltN o148_3.lt
  -- pc 51
  obtain ⟨B149, hB149⟩ : ∃ B, B = B143 ++ B70 := ⟨_, rfl⟩
  have lB149 : B149.length = (40 : Nat) := by have q8 := lB143; have q9 := lB70; rw [hB149, List.length_append, q8, q9]
  have fB149 : Byt B149 := by rw [hB149]; exact Byt.app fB143 fB70
  have f150 : Ar Z h148 d2_148 k2_148 .byte ((pad B149 (72 : Nat)).map Value.int) := by have q9 := o148_3; rw [← hB149, show cap2 (35 : Nat) ((35 : Nat) + (5 : Nat)) = (72 : Nat) from by decide] at q9; exact q9
  have f151 : Fld Z h148 a76 "java/lang/AbstractStringBuilder" "count" "I" (.int (40 : Nat).toInt32) := o148_0
  refine Go.ldcwStr (n0 := 120) (vs := ([(32 : Int32), (47 : Int32), (32 : Int32), (49 : Int32), (48 : Int32), (48 : Int32), (48 : Int32), (48 : Int32), (48 : Int32), (48 : Int32), (48 : Int32), (48 : Int32), (48 : Int32), (48 : Int32), (32 : Int32), (37 : Int32), (32 : Int32), (49 : Int32), (48 : Int32), (48 : Int32), (48 : Int32), (48 : Int32), (48 : Int32), (41 : Int32), (44 : Int32), (32 : Int32), (83 : Int32), (85 : Int32), (77 : Int32), (40 : Int32)] : List Int32).map Value.int) hnw hown (wd_173 g) g.2.2.1 (g.2.2.2.1 _ (by decide)) (by decide) (hb hby D_prog_19_method_11_code_51) (pc' := 54) rfl (by decide) (by decide) (by decide) (by decide) ?_
  intro vm152 h153 a154 b155 k156 E157 C158 X159 F160 F161 A162 l163 l164
  skip
  have KE157 := Keep.ofExt E157; have zE157 := E157.1
  have f166 : St Z h153 a154 b155 k156 [(32 : Int32), (47 : Int32), (32 : Int32), (49 : Int32), (48 : Int32), (48 : Int32), (48 : Int32), (48 : Int32), (48 : Int32), (48 : Int32), (48 : Int32), (48 : Int32), (48 : Int32), (48 : Int32), (32 : Int32), (37 : Int32), (32 : Int32), (49 : Int32), (48 : Int32), (48 : Int32), (48 : Int32), (48 : Int32), (48 : Int32), (41 : Int32), (44 : Int32), (32 : Int32), (83 : Int32), (85 : Int32), (77 : Int32), (40 : Int32)] := ⟨X159, F160, F161, A162, by decide⟩
  have f167 : St Z h153 a154 b155 k156 K259 := f166
  have f168 : Exa Z h153 a76 "java/lang/StringBuilder" := ((f146.keep K148).keep KE157)
  have f169 : Fld Z h153 a76 "java/lang/AbstractStringBuilder" "count" "I" (.int (40 : Nat).toInt32) := (f151.keep KE157 nin0)
  have f170 : Fld Z h153 a76 "java/lang/AbstractStringBuilder" "coder" "B" (.int 0) := (o148_1.keep KE157 nin0)
  have f171 : Fld Z h153 a76 "java/lang/AbstractStringBuilder" "value" "[B" (.ref d2_148) := (o148_2.keep KE157 nin0)
  have f172 : Ar Z h153 d2_148 k2_148 .byte ((pad B149 (72 : Nat)).map Value.int) := (f150.keep KE157 nin0)
  have f173 : Safe Z EL vm152 h153 d2_148 := (Safe.to C158 (by omega) o148_4)
  refine Go.callV (y0 := ⟨"java/lang/StringBuilder", "append", "(Ljava/lang/String;)Ljava/lang/StringBuilder;"⟩) (c_SBappFit (l := l) (nw := nw) (fk := fk) g h153 a76 d2_148 k2_148 B149 (72 : Nat) (40 : Nat) a154 b155 k156 K259 (30 : Nat) lB149 (by decide) (by decide) fB149 lK259 fK259 (by decide) (by omega) (by omega) f168 f169 f170 f171 f172 f167 (by omega)) hown (wd_61 g) (wd_62 g) (notFace_of_selects (wd_64 g)) (wd_64 g) (wd_63 g) f168 (wd_65 g) (wd_44 g) (by decide) (argsL := [(.ref a154)]) (lenOf pd_23 rfl) rfl (by rw [hml]; rfl) (W := 0) rfl (hb hby D_prog_19_method_11_code_54) (pc' := 57) rfl (by decide) (by decide) (by decide) (by decide) (allS ⟨by omega, f173⟩ all0) ?_
  rintro _ vm174 h174 ⟨rfl, K174, o174_0, o174_1, o174_2, o174_3, o174_4⟩ C174
  have z174 := K174.1
  have yo174_3 := ltN o174_3.lt
  -- pc 57
  obtain ⟨B175, hB175⟩ : ∃ B, B = B149 ++ K259 := ⟨_, rfl⟩
  have lB175 : B175.length = (70 : Nat) := by have q8 := lB149; have q9 := lK259; rw [hB175, List.length_append, q8, q9]
  have fB175 : Byt B175 := by rw [hB175]; exact Byt.app fB149 fK259
  have f176 : Ar Z h174 d2_148 k2_148 .byte ((pad B175 (72 : Nat)).map Value.int) := by have q9 := o174_3; rw [← hB175] at q9; exact q9
  have f177 : Fld Z h174 a76 "java/lang/AbstractStringBuilder" "count" "I" (.int (70 : Nat).toInt32) := o174_0
  refine Go.aloadN (hb hby D_prog_19_method_11_code_57) (pc' := 58) rfl rfl rfl ?_
  have f178 : Exa Z h174 a76 "java/lang/StringBuilder" := (f168.keep K174)
  have f179 : St Z h174 r_74 d2_74 k2_74 B70 := (((f147.keep K148 (ninS (Exa.ne f147.1 ((((((X80.keep K88).keep KE94).keep K111).keep K117).keep KE126).keep K142) (by decide)) nin0) (ninS (Ne.symm (Ar.ne_exa f147.2.2.2.1 ((((((X80.keep K88).keep KE94).keep K111).keep K117).keep KE126).keep K142) (wd_43 g))) nin0)).keep KE157 nin0 nin0).keep K174 (ninS (Exa.ne ((f147.keep K148 (ninS (Exa.ne f147.1 ((((((X80.keep K88).keep KE94).keep K111).keep K117).keep KE126).keep K142) (by decide)) nin0) (ninS (Ne.symm (Ar.ne_exa f147.2.2.2.1 ((((((X80.keep K88).keep KE94).keep K111).keep K117).keep KE126).keep K142) (wd_43 g))) nin0)).keep KE157 nin0 nin0).1 ((((((((X80.keep K88).keep KE94).keep K111).keep K117).keep KE126).keep K142).keep K148).keep KE157) (by decide)) (ninS (neN (by omega)) nin0)) (ninS (Ne.symm (Ar.ne_exa ((f147.keep K148 (ninS (Exa.ne f147.1 ((((((X80.keep K88).keep KE94).keep K111).keep K117).keep KE126).keep K142) (by decide)) nin0) (ninS (Ne.symm (Ar.ne_exa f147.2.2.2.1 ((((((X80.keep K88).keep KE94).keep K111).keep K117).keep KE126).keep K142) (wd_43 g))) nin0)).keep KE157 nin0 nin0).2.2.2.1 ((((((((X80.keep K88).keep KE94).keep K111).keep K117).keep KE126).keep K142).keep K148).keep KE157) (wd_43 g))) (ninS (neN (by omega)) nin0)))
  refine Go.callV (y0 := ⟨"java/lang/StringBuilder", "append", "(Ljava/lang/String;)Ljava/lang/StringBuilder;"⟩) (c_SBappGrow (l := l) (nw := nw) (fk := fk) g h174 a76 d2_148 k2_148 B175 (72 : Nat) (70 : Nat) r_74 d2_74 k2_74 B70 (5 : Nat) lB175 (by decide) (by decide) fB175 lB70 fB70 (by decide) (by decide) (by omega) f178 f177 o174_1 o174_2 f176 f179 (by omega)) hown (wd_61 g) (wd_62 g) (notFace_of_selects (wd_64 g)) (wd_64 g) (wd_63 g) f178 (wd_65 g) (wd_44 g) (by decide) (argsL := [(.ref r_74)]) (lenOf pd_23 rfl) rfl (by rw [hml]; rfl) (W := 0) rfl (hb hby D_prog_19_method_11_code_58) (pc' := 61) rfl (by decide) (by decide) (by decide) (by decide) all0 ?_
  rintro _ vm180 h180 ⟨d2_180, k2_180, rfl, K180, p180_0, o180_0, o180_1, o180_2, o180_3, o180_4⟩ C180
  have z180 := K180.1
  have yo180_3 := ltN o180_3.lt
  -- pc 61
  obtain ⟨B181, hB181⟩ : ∃ B, B = B175 ++ B70 := ⟨_, rfl⟩
  have lB181 : B181.length = (75 : Nat) := by have q8 := lB175; have q9 := lB70; rw [hB181, List.length_append, q8, q9]
  have fB181 : Byt B181 := by rw [hB181]; exact Byt.app fB175 fB70
  have f182 : Ar Z h180 d2_180 k2_180 .byte ((pad B181 (146 : Nat)).map Value.int) := by have q9 := o180_3; rw [← hB181, show cap2 (72 : Nat) ((70 : Nat) + (5 : Nat)) = (146 : Nat) from by decide] at q9; exact q9
  have f183 : Fld Z h180 a76 "java/lang/AbstractStringBuilder" "count" "I" (.int (75 : Nat).toInt32) := o180_0
  refine Go.ldcwStr (n0 := 100) (vs := ([(32 : Int32), (47 : Int32), (32 : Int32), (49 : Int32), (48 : Int32), (48 : Int32), (48 : Int32), (48 : Int32), (48 : Int32), (32 : Int32), (37 : Int32), (32 : Int32), (49 : Int32), (48 : Int32), (48 : Int32), (48 : Int32), (48 : Int32), (48 : Int32), (41 : Int32), (44 : Int32), (32 : Int32), (83 : Int32), (85 : Int32), (77 : Int32), (40 : Int32)] : List Int32).map Value.int) hnw hown (wd_174 g) g.2.2.1 (g.2.2.2.1 _ (by decide)) (by decide) (hb hby D_prog_19_method_11_code_61) (pc' := 64) rfl (by decide) (by decide) (by decide) (by decide) ?_
  intro vm184 h185 a186 b187 k188 E189 C190 X191 F192 F193 A194 l195 l196
  skip
  have KE189 := Keep.ofExt E189; have zE189 := E189.1
  have f198 : St Z h185 a186 b187 k188 [(32 : Int32), (47 : Int32), (32 : Int32), (49 : Int32), (48 : Int32), (48 : Int32), (48 : Int32), (48 : Int32), (48 : Int32), (32 : Int32), (37 : Int32), (32 : Int32), (49 : Int32), (48 : Int32), (48 : Int32), (48 : Int32), (48 : Int32), (48 : Int32), (41 : Int32), (44 : Int32), (32 : Int32), (83 : Int32), (85 : Int32), (77 : Int32), (40 : Int32)] := ⟨X191, F192, F193, A194, by decide⟩
  have f199 : St Z h185 a186 b187 k188 K261 := f198
  have f200 : Exa Z h185 a76 "java/lang/StringBuilder" := ((f178.keep K180).keep KE189)
  have f201 : Fld Z h185 a76 "java/lang/AbstractStringBuilder" "count" "I" (.int (75 : Nat).toInt32) := (f183.keep KE189 nin0)
  have f202 : Fld Z h185 a76 "java/lang/AbstractStringBuilder" "coder" "B" (.int 0) := (o180_1.keep KE189 nin0)
  have f203 : Fld Z h185 a76 "java/lang/AbstractStringBuilder" "value" "[B" (.ref d2_180) := (o180_2.keep KE189 nin0)
  have f204 : Ar Z h185 d2_180 k2_180 .byte ((pad B181 (146 : Nat)).map Value.int) := (f182.keep KE189 nin0)
  have f205 : Safe Z EL vm184 h185 d2_180 := (Safe.to C190 (by omega) o180_4)
  refine Go.callV (y0 := ⟨"java/lang/StringBuilder", "append", "(Ljava/lang/String;)Ljava/lang/StringBuilder;"⟩) (c_SBappFit (l := l) (nw := nw) (fk := fk) g h185 a76 d2_180 k2_180 B181 (146 : Nat) (75 : Nat) a186 b187 k188 K261 (25 : Nat) lB181 (by decide) (by decide) fB181 lK261 fK261 (by decide) (by omega) (by omega) f200 f201 f202 f203 f204 f199 (by omega)) hown (wd_61 g) (wd_62 g) (notFace_of_selects (wd_64 g)) (wd_64 g) (wd_63 g) f200 (wd_65 g) (wd_44 g) (by decide) (argsL := [(.ref a186)]) (lenOf pd_23 rfl) rfl (by rw [hml]; rfl) (W := 0) rfl (hb hby D_prog_19_method_11_code_64) (pc' := 67) rfl (by decide) (by decide) (by decide) (by decide) (allS ⟨by omega, f205⟩ all0) ?_
  rintro _ vm206 h206 ⟨rfl, K206, o206_0, o206_1, o206_2, o206_3, o206_4⟩ C206
  have z206 := K206.1
  have yo206_3 := ltN o206_3.lt
  -- pc 67
  obtain ⟨B207, hB207⟩ : ∃ B, B = B181 ++ K261 := ⟨_, rfl⟩
  have lB207 : B207.length = (100 : Nat) := by have q8 := lB181; have q9 := lK261; rw [hB207, List.length_append, q8, q9]
  have fB207 : Byt B207 := by rw [hB207]; exact Byt.app fB181 fK261
  have f208 : Ar Z h206 d2_180 k2_180 .byte ((pad B207 (146 : Nat)).map Value.int) := by have q9 := o206_3; rw [← hB207] at q9; exact q9
  have f209 : Fld Z h206 a76 "java/lang/AbstractStringBuilder" "count" "I" (.int (100 : Nat).toInt32) := o206_0
  refine Go.aloadN (hb hby D_prog_19_method_11_code_67) (pc' := 68) rfl rfl rfl ?_
  have f210 : Exa Z h206 a76 "java/lang/StringBuilder" := (f200.keep K206)
  have f211 : St Z h206 r_74 d2_74 k2_74 B70 := (((f179.keep K180 (ninS (Exa.ne f179.1 (((((((((X80.keep K88).keep KE94).keep K111).keep K117).keep KE126).keep K142).keep K148).keep KE157).keep K174) (by decide)) nin0) (ninS (Ne.symm (Ar.ne_exa f179.2.2.2.1 (((((((((X80.keep K88).keep KE94).keep K111).keep K117).keep KE126).keep K142).keep K148).keep KE157).keep K174) (wd_43 g))) nin0)).keep KE189 nin0 nin0).keep K206 (ninS (Exa.ne ((f179.keep K180 (ninS (Exa.ne f179.1 (((((((((X80.keep K88).keep KE94).keep K111).keep K117).keep KE126).keep K142).keep K148).keep KE157).keep K174) (by decide)) nin0) (ninS (Ne.symm (Ar.ne_exa f179.2.2.2.1 (((((((((X80.keep K88).keep KE94).keep K111).keep K117).keep KE126).keep K142).keep K148).keep KE157).keep K174) (wd_43 g))) nin0)).keep KE189 nin0 nin0).1 (((((((((((X80.keep K88).keep KE94).keep K111).keep K117).keep KE126).keep K142).keep K148).keep KE157).keep K174).keep K180).keep KE189) (by decide)) (ninS (neN (by omega)) nin0)) (ninS (Ne.symm (Ar.ne_exa ((f179.keep K180 (ninS (Exa.ne f179.1 (((((((((X80.keep K88).keep KE94).keep K111).keep K117).keep KE126).keep K142).keep K148).keep KE157).keep K174) (by decide)) nin0) (ninS (Ne.symm (Ar.ne_exa f179.2.2.2.1 (((((((((X80.keep K88).keep KE94).keep K111).keep K117).keep KE126).keep K142).keep K148).keep KE157).keep K174) (wd_43 g))) nin0)).keep KE189 nin0 nin0).2.2.2.1 (((((((((((X80.keep K88).keep KE94).keep K111).keep K117).keep KE126).keep K142).keep K148).keep KE157).keep K174).keep K180).keep KE189) (wd_43 g))) (ninS (neN (by omega)) nin0)))
  refine Go.callV (y0 := ⟨"java/lang/StringBuilder", "append", "(Ljava/lang/String;)Ljava/lang/StringBuilder;"⟩) (c_SBappFit (l := l) (nw := nw) (fk := fk) g h206 a76 d2_180 k2_180 B207 (146 : Nat) (100 : Nat) r_74 d2_74 k2_74 B70 (5 : Nat) lB207 (by decide) (by decide) fB207 lB70 fB70 (by decide) (by omega) (by omega) f210 f209 o206_1 o206_2 f208 f211 (by omega)) hown (wd_61 g) (wd_62 g) (notFace_of_selects (wd_64 g)) (wd_64 g) (wd_63 g) f210 (wd_65 g) (wd_44 g) (by decide) (argsL := [(.ref r_74)]) (lenOf pd_23 rfl) rfl (by rw [hml]; rfl) (W := 0) rfl (hb hby D_prog_19_method_11_code_68) (pc' := 71) rfl (by decide) (by decide) (by decide) (by decide) (allS ⟨by omega, o206_4⟩ all0) ?_
  rintro _ vm212 h212 ⟨rfl, K212, o212_0, o212_1, o212_2, o212_3, o212_4⟩ C212
  have z212 := K212.1
  have yo212_3 := ltN o212_3.lt
  -- pc 71
  obtain ⟨B213, hB213⟩ : ∃ B, B = B207 ++ B70 := ⟨_, rfl⟩
  have lB213 : B213.length = (105 : Nat) := by have q8 := lB207; have q9 := lB70; rw [hB213, List.length_append, q8, q9]
  have fB213 : Byt B213 := by rw [hB213]; exact Byt.app fB207 fB70
  have f214 : Ar Z h212 d2_180 k2_180 .byte ((pad B213 (146 : Nat)).map Value.int) := by have q9 := o212_3; rw [← hB213] at q9; exact q9
  have f215 : Fld Z h212 a76 "java/lang/AbstractStringBuilder" "count" "I" (.int (105 : Nat).toInt32) := o212_0
  refine Go.ldcwStr (n0 := 40) (vs := ([(32 : Int32), (37 : Int32), (32 : Int32), (49 : Int32), (48 : Int32), (48 : Int32), (48 : Int32), (48 : Int32), (48 : Int32), (41 : Int32)] : List Int32).map Value.int) hnw hown (wd_175 g) g.2.2.1 (g.2.2.2.1 _ (by decide)) (by decide) (hb hby D_prog_19_method_11_code_71) (pc' := 74) rfl (by decide) (by decide) (by decide) (by decide) ?_
  intro vm216 h217 a218 b219 k220 E221 C222 X223 F224 F225 A226 l227 l228
  skip
  have KE221 := Keep.ofExt E221; have zE221 := E221.1
  have f230 : St Z h217 a218 b219 k220 [(32 : Int32), (37 : Int32), (32 : Int32), (49 : Int32), (48 : Int32), (48 : Int32), (48 : Int32), (48 : Int32), (48 : Int32), (41 : Int32)] := ⟨X223, F224, F225, A226, by decide⟩
  have f231 : St Z h217 a218 b219 k220 K263 := f230
  have f232 : Exa Z h217 a76 "java/lang/StringBuilder" := ((f210.keep K212).keep KE221)
  have f233 : Fld Z h217 a76 "java/lang/AbstractStringBuilder" "count" "I" (.int (105 : Nat).toInt32) := (f215.keep KE221 nin0)
  have f234 : Fld Z h217 a76 "java/lang/AbstractStringBuilder" "coder" "B" (.int 0) := (o212_1.keep KE221 nin0)
  have f235 : Fld Z h217 a76 "java/lang/AbstractStringBuilder" "value" "[B" (.ref d2_180) := (o212_2.keep KE221 nin0)
  have f236 : Ar Z h217 d2_180 k2_180 .byte ((pad B213 (146 : Nat)).map Value.int) := (f214.keep KE221 nin0)
  have f237 : Safe Z EL vm216 h217 d2_180 := (Safe.to C222 (by omega) o212_4)
  refine Go.callV (y0 := ⟨"java/lang/StringBuilder", "append", "(Ljava/lang/String;)Ljava/lang/StringBuilder;"⟩) (c_SBappFit (l := l) (nw := nw) (fk := fk) g h217 a76 d2_180 k2_180 B213 (146 : Nat) (105 : Nat) a218 b219 k220 K263 (10 : Nat) lB213 (by decide) (by decide) fB213 lK263 fK263 (by decide) (by omega) (by omega) f232 f233 f234 f235 f236 f231 (by omega)) hown (wd_61 g) (wd_62 g) (notFace_of_selects (wd_64 g)) (wd_64 g) (wd_63 g) f232 (wd_65 g) (wd_44 g) (by decide) (argsL := [(.ref a218)]) (lenOf pd_23 rfl) rfl (by rw [hml]; rfl) (W := 0) rfl (hb hby D_prog_19_method_11_code_74) (pc' := 77) rfl (by decide) (by decide) (by decide) (by decide) (allS ⟨by omega, f237⟩ all0) ?_
  rintro _ vm238 h238 ⟨rfl, K238, o238_0, o238_1, o238_2, o238_3, o238_4⟩ C238
  have z238 := K238.1
  have yo238_3 := ltN o238_3.lt
  -- pc 77
  obtain ⟨B239, hB239⟩ : ∃ B, B = B213 ++ K263 := ⟨_, rfl⟩
  have lB239 : B239.length = (115 : Nat) := by have q8 := lB213; have q9 := lK263; rw [hB239, List.length_append, q8, q9]
  have fB239 : Byt B239 := by rw [hB239]; exact Byt.app fB213 fK263
  have f240 : Ar Z h238 d2_180 k2_180 .byte ((pad B239 (146 : Nat)).map Value.int) := by have q9 := o238_3; rw [← hB239] at q9; exact q9
  have f241 : Fld Z h238 a76 "java/lang/AbstractStringBuilder" "count" "I" (.int (115 : Nat).toInt32) := o238_0
  have f242 : Exa Z h238 a76 "java/lang/StringBuilder" := (f232.keep K238)
  refine Go.callV (y0 := ⟨"java/lang/StringBuilder", "toString", "()Ljava/lang/String;"⟩) (c_toString (l := l) (nw := nw) (fk := fk) g h238 a76 d2_180 k2_180 B239 (146 : Nat) (115 : Nat) lB239 (by decide) (by decide) fB239 f242 f241 o238_1 o238_2 f240 (by omega)) hown (wd_109 g) (wd_110 g) (notFace_of_selects (wd_112 g)) (wd_112 g) (wd_111 g) f242 (wd_113 g) (wd_44 g) (by decide) (argsL := []) (lenOf pd_24 rfl) rfl (by rw [hml]; rfl) (W := 0) rfl (hb hby D_prog_19_method_11_code_77) (pc' := 80) rfl (by decide) (by decide) (by decide) (by decide) all0 ?_
  rintro _ vm243 h243 ⟨r_243, d2_243, k2_243, rfl, K243, p243_0, p243_1, o243_0⟩ C243
  have z243 := K243.1
  have yo243_0 := ltN o243_0.lt; have yo243_0' := ltN o243_0.ltb
  -- pc 80
  have f244 : St Z h243 r_243 d2_243 k2_243 (sumS cs) := by have q9 := o243_0; rw [hB239, hB213, hB207, hB181, hB175, hB149, hB143, hB118, hB112, hB70, hB44, hB38] at q9; exact q9
  refine Go.retA hret rfl rfl (hb hby D_prog_19_method_11_code_80) (by decide) (by decide) ?_
  intro vmR CR
  exact ⟨r_243, d2_243, k2_243, (by first | rfl | (simp only [own_nar]; done) | (congr 2; done)), ((((((((((((((((((((((((((Keep.refl h []).trans KE5 all0).trans K14 (allS (by first | (left; simp; done) | (right; omega)) all0)).trans KE20 all0).trans K37 (allS (by first | (left; simp; done) | (right; omega)) (allS (by first | (left; simp; done) | (right; omega)) all0))).trans K43 (allS (by first | (left; simp; done) | (right; omega)) (allS (by first | (left; simp; done) | (right; omega)) all0))).trans KE52 all0).trans K69 (allS (by first | (left; simp; done) | (right; omega)) (allS (by first | (left; simp; done) | (right; omega)) all0))).trans K74 all0).trans KE79 all0).trans K88 (allS (by first | (left; simp; done) | (right; omega)) all0)).trans KE94 all0).trans K111 (allS (by first | (left; simp; done) | (right; omega)) (allS (by first | (left; simp; done) | (right; omega)) all0))).trans K117 (allS (by first | (left; simp; done) | (right; omega)) (allS (by first | (left; simp; done) | (right; omega)) all0))).trans KE126 all0).trans K142 (allS (by first | (left; simp; done) | (right; omega)) all0)).trans K148 (allS (by first | (left; simp; done) | (right; omega)) all0)).trans KE157 all0).trans K174 (allS (by first | (left; simp; done) | (right; omega)) (allS (by first | (left; simp; done) | (right; omega)) all0))).trans K180 (allS (by first | (left; simp; done) | (right; omega)) all0)).trans KE189 all0).trans K206 (allS (by first | (left; simp; done) | (right; omega)) (allS (by first | (left; simp; done) | (right; omega)) all0))).trans K212 (allS (by first | (left; simp; done) | (right; omega)) (allS (by first | (left; simp; done) | (right; omega)) all0))).trans KE221 all0).trans K238 (allS (by first | (left; simp; done) | (right; omega)) (allS (by first | (left; simp; done) | (right; omega)) all0))).trans K243 all0), (by omega), (by omega), f244⟩
set_option maxRecDepth 65536 in
set_option maxHeartbeats 40000000 in
theorem c_prechk {l : Launch} {Z : State} {a0 : Array Value} {EL : List (String × Nat)} {nw fk : Prop} {zc : Int32} {sf : Value} (g : GH Z a0 EL zc sf) (h : Heap) (i : Int32) (n : Int32) (v : Value) (hv : v.isRef = true) (h0 : ¬ i < 0) (h1 : i < n) (zz : Z.heap.size ≤ h.size) :
    Ct l Z EL nw fk [] ⟨"jdk/internal/util/Preconditions", "checkIndex", "(IILjava/util/function/BiFunction;)I"⟩ jdk_41_method_11_code 3 (some .int) ({ frames := 0, cells := 0, slots := 0, locals := 0 } : Room) #[(.int i), (.int n), v] h [] (fun res vm' h' => res = some (.int i) ∧ Keep h h' []) := by
  refine Ct.of_go (a0 := a0) g.2.1 (plainFor_of_name pn_8) (L0 := #[.val (.int i), .val (.int n), .val v]) (fun m => by rcases ref_cases hv with rfl | ⟨_, rfl⟩ <;> first | (simp [entryFrame, mkF, argsToLocals, Value.category, own_rep]; done) | rfl) ?_
  intro p e s m below meth c hown hby hml hret hnm hZ hC hO hsf
  refine Go.iloadN (hb hby D_jdk_41_method_11_code_0) (pc' := 1) rfl rfl ?_
  refine Go.ifN (hb hby D_jdk_41_method_11_code_1) (pc' := 4) rfl h0 ?_
  refine Go.iloadN (hb hby D_jdk_41_method_11_code_4) (pc' := 5) rfl rfl ?_
  refine Go.iloadN (hb hby D_jdk_41_method_11_code_5) (pc' := 6) rfl rfl ?_
  refine Go.icmpY (hb hby D_jdk_41_method_11_code_6) (by decide) (pc' := 16) (by decide) h1 ?_
  refine Go.iloadN (hb hby D_jdk_41_method_11_code_16) (pc' := 17) rfl rfl ?_
  refine Go.retI hret (hb hby D_jdk_41_method_11_code_17) (by decide) (by decide) ?_
  intro vmR CR
  exact ⟨(by first | rfl | (simp only [own_nar]; done) | (congr 2; done)), (Keep.refl h [])⟩
set_option maxRecDepth 65536 in
set_option maxHeartbeats 40000000 in
theorem c_strchk {l : Launch} {Z : State} {a0 : Array Value} {EL : List (String × Nat)} {nw fk : Prop} {zc : Int32} {sf : Value} (g : GH Z a0 EL zc sf) (h : Heap) (i : Int32) (n : Int32) (h0 : ¬ i < 0) (h1 : i < n) (zz : Z.heap.size ≤ h.size) :
    Ct l Z EL nw fk [] ⟨"java/lang/String", "checkIndex", "(II)V"⟩ jdk_42_method_155_code 2 none ({ frames := 1, cells := 0, slots := 0, locals := 14 } : Room) #[(.int i), (.int n)] h [] (fun res vm' h' => res = none ∧ Keep h h' []) := by
  refine Ct.of_go (a0 := a0) g.2.1 (plainFor_of_name pn_1) (L0 := #[.val (.int i), .val (.int n)]) (fun m => by first | (simp [entryFrame, mkF, argsToLocals, Value.category, own_rep]; done) | rfl) ?_
  intro p e s m below meth c hown hby hml hret hnm hZ hC hO hsf
  refine Go.iloadN (hb hby D_jdk_42_method_155_code_0) (pc' := 1) rfl rfl ?_
  refine Go.iloadN (hb hby D_jdk_42_method_155_code_1) (pc' := 2) rfl rfl ?_
  refine Go.getS hown (wd_207 g) Via.refl g.2.2.2.2.2.2.1 (hb hby D_jdk_42_method_155_code_2) (pc' := 5) rfl ?_
  refine Go.callS (c_prechk (l := l) (nw := nw) (fk := fk) g h i n sf g.2.2.2.2.2.2.2 h0 h1 (by omega)) hown (wd_209 g) (wd_210 g) (wd_211 g) (wd_208 g) (by decide) (argsL := [(.int i), (.int n), sf]) (lenOf pd_25 rfl) rfl (by rw [hml]; rfl) (W := 0) rfl (hb hby D_jdk_42_method_155_code_5) (pc' := 8) rfl (by decide) (by decide) (by decide) (by decide) all0 ?_
  rintro _ vm1 h1 ⟨rfl, K1⟩ C1
  have z1 := K1.1
  -- pc 8
  refine Go.pop (hb hby D_jdk_42_method_155_code_8) (pc' := 9) rfl rfl ?_
  refine Go.ret hret (hb hby D_jdk_42_method_155_code_9) (by decide) (by decide) ?_
  intro vmR CR
  exact ⟨rfl, ((Keep.refl h []).trans K1 all0)⟩
set_option maxRecDepth 65536 in
set_option maxHeartbeats 40000000 in
theorem c_isLatin {l : Launch} {Z : State} {a0 : Array Value} {EL : List (String × Nat)} {nw fk : Prop} {zc : Int32} {sf : Value} (g : GH Z a0 EL zc sf) (h : Heap) (a : Addr) (d : Addr) (kd : ClassId) (bs : List Int32) (e0 : St Z h a d kd bs) (zz : Z.heap.size ≤ h.size) :
    Ct l Z EL nw fk [] ⟨"java/lang/String", "isLatin1", "()Z"⟩ jdk_42_method_154_code 1 (some .boolean) ({ frames := 0, cells := 0, slots := 0, locals := 0 } : Room) #[(.ref a)] h [] (fun res vm' h' => res = some (.int (1 : Int32)) ∧ Keep h h' []) := by
  have ye0 := ltN e0.lt; have ye0' := ltN e0.ltb
  refine Ct.of_go (a0 := a0) g.2.1 (plainFor_of_name pn_1) (L0 := #[.val (.ref a)]) (fun m => by first | (simp [entryFrame, mkF, argsToLocals, Value.category, own_rep]; done) | rfl) ?_
  intro p e s m below meth c hown hby hml hret hnm hZ hC hO hsf
  refine Go.getS hown (wd_19 g) Via.refl g.2.2.2.2.1 (hb hby D_jdk_42_method_154_code_0) (pc' := 3) rfl ?_
  refine Go.ifN (hb hby D_jdk_42_method_154_code_3) (pc' := 6) rfl g.2.2.2.2.2.1 ?_
  refine Go.aloadN (hb hby D_jdk_42_method_154_code_6) (pc' := 7) rfl rfl rfl ?_
  refine Go.getF hown (wd_31 g) Via.refl e0.2.1 (hb hby D_jdk_42_method_154_code_7) (pc' := 10) rfl ?_
  refine Go.ifN (hb hby D_jdk_42_method_154_code_10) (pc' := 13) rfl (show ¬ ¬ (0 : Int32) = 0 from by decide) ?_
  refine Go.iconst (hb hby D_jdk_42_method_154_code_13) (pc' := 14) rfl (z := (1 : Int32)) rfl ?_
  refine Go.goto (hb hby D_jdk_42_method_154_code_14) (by decide) (pc' := 18) (by decide) ?_
  refine Go.retN (t := .boolean) hret (by simp) (hb hby D_jdk_42_method_154_code_18) (by decide) (by decide) ?_
  intro vmR CR
  exact ⟨(by first | rfl | (simp only [own_nar]; done) | (congr 2; done)), (Keep.refl h [])⟩
set_option maxRecDepth 65536 in
set_option maxHeartbeats 40000000 in
theorem c_latAt {l : Launch} {Z : State} {a0 : Array Value} {EL : List (String × Nat)} {nw fk : Prop} {zc : Int32} {sf : Value} (g : GH Z a0 EL zc sf) (h : Heap) (d : Addr) (kd : ClassId) (bs : List Int32) (i : Nat) (hi : i < bs.length) (hl : bs.length < 536870912) (e0 : Ar Z h d kd .byte (bs.map Value.int)) (zz : Z.heap.size ≤ h.size) :
    Ct l Z EL nw fk [] ⟨"java/lang/StringLatin1", "charAt", "([BI)C"⟩ jdk_43_method_2_code 2 (some .char) ({ frames := 2, cells := 0, slots := 0, locals := 27 } : Room) #[(.ref d), (.int i.toInt32)] h [] (fun res vm' h' => res = some (.int ((bs.getD i 0) &&& (255 : Int32))) ∧ Keep h h' []) := by
  have ye0 := ltN e0.lt
  refine Ct.of_go (a0 := a0) g.2.1 (plainFor_of_name pn_2) (L0 := #[.val (.ref d), .val (.int i.toInt32)]) (fun m => by first | (simp [entryFrame, mkF, argsToLocals, Value.category, own_rep]; done) | rfl) ?_
  intro p e s m below meth c hown hby hml hret hnm hZ hC hO hsf
  refine Go.iloadN (hb hby D_jdk_43_method_2_code_0) (pc' := 1) rfl rfl ?_
  refine Go.aloadN (hb hby D_jdk_43_method_2_code_1) (pc' := 2) rfl rfl rfl ?_
  refine Go.alen e0 (z := (bs.length.toInt32)) (by rw [List.length_map]) (hb hby D_jdk_43_method_2_code_2) (pc' := 3) rfl ?_
  refine Go.callS (c_strchk (l := l) (nw := nw) (fk := fk) g h i.toInt32 (bs.length.toInt32) (nneg32 (by omega)) ((lt32 (by omega) (by omega)).mpr hi) (by omega)) hown (wd_204 g) (wd_205 g) (wd_206 g) (wd_7 g) (by decide) (argsL := [(.int i.toInt32), (.int (bs.length.toInt32))]) (lenOf pd_16 rfl) rfl (by rw [hml]; rfl) (W := 0) rfl (hb hby D_jdk_43_method_2_code_3) (pc' := 6) rfl (by decide) (by decide) (by decide) (by decide) all0 ?_
  rintro _ vm1 h1 ⟨rfl, K1⟩ C1
  have z1 := K1.1
  -- pc 6
  refine Go.aloadN (hb hby D_jdk_43_method_2_code_6) (pc' := 7) rfl rfl rfl ?_
  refine Go.iloadN (hb hby D_jdk_43_method_2_code_7) (pc' := 8) rfl rfl ?_
  have f2 : Ar Z h1 d kd .byte (bs.map Value.int) := (e0.keep K1 nin0)
  refine Go.baload f2 (v := (.int (bs.getD i 0))) (nneg32 (by omega)) (by rw [clamp_nat (by omega)]; simp [List.getD, hi]) (hb hby D_jdk_43_method_2_code_8) (pc' := 9) rfl ?_
  refine Go.sipush (hb hby D_jdk_43_method_2_code_9) (pc' := 12) rfl (z := (255 : Int32)) rfl ?_
  refine Go.iand (hb hby D_jdk_43_method_2_code_12) (pc' := 13) rfl ?_
  refine Go.i2c (hb hby D_jdk_43_method_2_code_13) (pc' := 14) rfl ?_
  rw [nch (m255 (bs.getD i 0))]
  refine Go.retN (t := .char) hret (by simp) (hb hby D_jdk_43_method_2_code_14) (by decide) (by decide) ?_
  intro vmR CR
  exact ⟨(by rw [nc255]), ((Keep.refl h []).trans K1 all0)⟩
set_option maxRecDepth 65536 in
set_option maxHeartbeats 40000000 in
theorem c_charAt {l : Launch} {Z : State} {a0 : Array Value} {EL : List (String × Nat)} {nw fk : Prop} {zc : Int32} {sf : Value} (g : GH Z a0 EL zc sf) (h : Heap) (a : Addr) (d : Addr) (kd : ClassId) (bs : List Int32) (i : Nat) (hi : i < bs.length) (e0 : St Z h a d kd bs) (zz : Z.heap.size ≤ h.size) :
    Ct l Z EL nw fk [] ⟨"java/lang/String", "charAt", "(I)C"⟩ jdk_42_method_56_code 2 (some .char) ({ frames := 3, cells := 0, slots := 0, locals := 40 } : Room) #[(.ref a), (.int i.toInt32)] h [] (fun res vm' h' => res = some (.int ((bs.getD i 0) &&& (255 : Int32))) ∧ Keep h h' []) := by
  have ye0 := ltN e0.lt; have ye0' := ltN e0.ltb
  refine Ct.of_go (a0 := a0) g.2.1 (plainFor_of_name pn_1) (L0 := #[.val (.ref a), .val (.int i.toInt32)]) (fun m => by first | (simp [entryFrame, mkF, argsToLocals, Value.category, own_rep]; done) | rfl) ?_
  intro p e s m below meth c hown hby hml hret hnm hZ hC hO hsf
  refine Go.aloadN (hb hby D_jdk_42_method_56_code_0) (pc' := 1) rfl rfl rfl ?_
  refine Go.callV (y0 := ⟨"java/lang/String", "isLatin1", "()Z"⟩) (c_isLatin (l := l) (nw := nw) (fk := fk) g h a d kd bs e0 (by omega)) hown (wd_196 g) (wd_197 g) (notFace_of_selects (wd_199 g)) (wd_199 g) (wd_198 g) e0.1 (wd_200 g) (wd_7 g) (by decide) (argsL := []) (lenOf pd_19 rfl) rfl (by rw [hml]; rfl) (W := 0) rfl (hb hby D_jdk_42_method_56_code_1) (pc' := 4) rfl (by decide) (by decide) (by decide) (by decide) all0 ?_
  rintro _ vm1 h1 ⟨rfl, K1⟩ C1
  have z1 := K1.1
  -- pc 4
  refine Go.ifN (hb hby D_jdk_42_method_56_code_4) (pc' := 7) rfl (show ¬ ((1 : Int32) = (0 : Int32)) from by decide) ?_
  refine Go.aloadN (hb hby D_jdk_42_method_56_code_7) (pc' := 8) rfl rfl rfl ?_
  have f2 : Fld Z h1 a "java/lang/String" "value" "[B" (.ref d) := (e0.2.2.1.keep K1 nin0)
  refine Go.getF hown (wd_33 g) Via.refl f2 (hb hby D_jdk_42_method_56_code_8) (pc' := 11) rfl ?_
  refine Go.iloadN (hb hby D_jdk_42_method_56_code_11) (pc' := 12) rfl rfl ?_
  have f3 : Ar Z h1 d kd .byte (bs.map Value.int) := (e0.2.2.2.1.keep K1 nin0)
  refine Go.callS (c_latAt (l := l) (nw := nw) (fk := fk) g h1 d kd bs i hi e0.2.2.2.2 f3 (by omega)) hown (wd_201 g) (wd_202 g) (wd_203 g) (wd_185 g) (by decide) (argsL := [(.ref d), (.int i.toInt32)]) (lenOf pd_26 rfl) rfl (by rw [hml]; rfl) (W := 0) rfl (hb hby D_jdk_42_method_56_code_12) (pc' := 15) rfl (by decide) (by decide) (by decide) (by decide) all0 ?_
  rintro _ vm4 h4 ⟨rfl, K4⟩ C4
  have z4 := K4.1
  -- pc 15
  refine Go.retN (t := .char) hret (by simp) (hb hby D_jdk_42_method_56_code_15) (by decide) (by decide) ?_
  intro vmR CR
  exact ⟨(by rw [nc255]), (((Keep.refl h []).trans K1 all0).trans K4 all0)⟩
set_option maxRecDepth 65536 in
set_option maxHeartbeats 40000000 in
theorem c_copyAt1 {l : Launch} {Z : State} {a0 : Array Value} {EL : List (String × Nat)} {nw fk : Prop} {zc : Int32} {sf : Value} (g : GH Z a0 EL zc sf) (h : Heap) (r : Addr) (dr : Addr) (kr : ClassId) (rs : List Int32) (pt : Nat) (s0 : Addr) (d0 : Addr) (k0 : ClassId) (cs : List Int32) (hr : pt + 1 + 1 < rs.length) (hn : cs.length = 1) (ho : rs.getD pt 0 = 40) (hc : rs.getD (pt + 1 + 1) 0 = 41) (hx0 : rs.getD (pt + 1) 0 = cs.getD (0 : Nat) 0) (e0 : St Z h r dr kr rs) (e1 : St Z h s0 d0 k0 cs) (zz : Z.heap.size ≤ h.size) :
    Ct l Z EL nw fk [] ⟨"com/example/coffer/coffer/LedgerExactSumPinLaw", "copyAt", "(Ljava/lang/String;ILjava/lang/String;I)Z"⟩ method_4_code 5 (some .boolean) ({ frames := 4, cells := 0, slots := 0, locals := 54 } : Room) #[(.ref r), (.int pt.toInt32), (.ref s0), (.int (1 : Int32))] h [] (fun res vm' h' => res = some (.int (1 : Int32)) ∧ Keep h h' []) := by
  have ye0 := ltN e0.lt; have ye0' := ltN e0.ltb
  have ye1 := ltN e1.lt; have ye1' := ltN e1.ltb
  refine Ct.of_go (a0 := a0) g.2.1 (plainFor_of_name pn_9) (L0 := #[.val (.ref r), .val (.int pt.toInt32), .val (.ref s0), .val (.int (1 : Int32)), .unset]) (fun m => by first | (simp [entryFrame, mkF, argsToLocals, Value.category, own_rep]; done) | rfl) ?_
  intro p e s m below meth c hown hby hml hret hnm hZ hC hO hsf
  refine Go.aloadN (hb hby D_method_4_code_0) (pc' := 1) rfl rfl rfl ?_
  refine Go.iloadN (hb hby D_method_4_code_1) (pc' := 2) rfl rfl ?_
  refine Go.callV (y0 := ⟨"java/lang/String", "charAt", "(I)C"⟩) (c_charAt (l := l) (nw := nw) (fk := fk) g h r dr kr rs pt (by omega) e0 (by omega)) hown (wd_191 g) (wd_192 g) (notFace_of_selects (wd_194 g)) (wd_194 g) (wd_193 g) e0.1 (wd_195 g) (wd_7 g) (by decide) (argsL := [(.int pt.toInt32)]) (lenOf pd_27 rfl) rfl (by rw [hml]; rfl) (W := 0) rfl (hb hby D_method_4_code_2) (pc' := 5) rfl (by decide) (by decide) (by decide) (by decide) all0 ?_
  rintro _ vm1 h1 ⟨rfl, K1⟩ C1
  have z1 := K1.1
  -- pc 5
  refine Go.bipush (hb hby D_method_4_code_5) (pc' := 7) rfl (z := (40 : Int32)) rfl ?_
  refine Go.icmpY (hb hby D_method_4_code_7) (by decide) (pc' := 12) (by decide) (show ((rs.getD pt 0) &&& (255 : Int32)) = 40 by rw [ho]; rfl) ?_
  refine Go.aloadN (hb hby D_method_4_code_12) (pc' := 13) rfl rfl rfl ?_
  refine Go.iloadN (hb hby D_method_4_code_13) (pc' := 14) rfl rfl ?_
  refine Go.iloadN (hb hby D_method_4_code_14) (pc' := 15) rfl rfl ?_
  refine Go.iadd (hb hby D_method_4_code_15) (pc' := 16) rfl ?_
  rw [show (pt.toInt32 + (1 : Int32)) = (pt + 1).toInt32 from add32 pt 1]
  refine Go.iconst (hb hby D_method_4_code_16) (pc' := 17) rfl (z := (1 : Int32)) rfl ?_
  refine Go.iadd (hb hby D_method_4_code_17) (pc' := 18) rfl ?_
  rw [show ((pt + 1).toInt32 + 1) = (pt + 1 + 1).toInt32 from add32 (pt + 1) 1]
  have f2 : St Z h1 r dr kr rs := (e0.keep K1 nin0 nin0)
  have f3 : Exa Z h1 r "java/lang/String" := (e0.1.keep K1)
  refine Go.callV (y0 := ⟨"java/lang/String", "charAt", "(I)C"⟩) (c_charAt (l := l) (nw := nw) (fk := fk) g h1 r dr kr rs (pt + 1 + 1) (by omega) f2 (by omega)) hown (wd_191 g) (wd_192 g) (notFace_of_selects (wd_194 g)) (wd_194 g) (wd_193 g) f3 (wd_195 g) (wd_7 g) (by decide) (argsL := [(.int (pt + 1 + 1).toInt32)]) (lenOf pd_27 rfl) rfl (by rw [hml]; rfl) (W := 0) rfl (hb hby D_method_4_code_18) (pc' := 21) rfl (by decide) (by decide) (by decide) (by decide) all0 ?_
  rintro _ vm4 h4 ⟨rfl, K4⟩ C4
  have z4 := K4.1
  -- pc 21
  refine Go.bipush (hb hby D_method_4_code_21) (pc' := 23) rfl (z := (41 : Int32)) rfl ?_
  refine Go.icmpY (hb hby D_method_4_code_23) (by decide) (pc' := 28) (by decide) (show ((rs.getD (pt + 1 + 1) 0) &&& (255 : Int32)) = 41 by rw [hc]; rfl) ?_
  refine Go.aloadN (hb hby D_method_4_code_28) (pc' := 29) rfl rfl rfl ?_
  refine Go.iloadN (hb hby D_method_4_code_29) (pc' := 30) rfl rfl ?_
  refine Go.iconst (hb hby D_method_4_code_30) (pc' := 31) rfl (z := (1 : Int32)) rfl ?_
  refine Go.iadd (hb hby D_method_4_code_31) (pc' := 32) rfl ?_
  rw [show (pt.toInt32 + (1 : Int32)) = (pt + 1).toInt32 from add32 pt 1]
  have f5 : St Z h4 r dr kr rs := (f2.keep K4 nin0 nin0)
  have f6 : Exa Z h4 r "java/lang/String" := (f3.keep K4)
  refine Go.callV (y0 := ⟨"java/lang/String", "charAt", "(I)C"⟩) (c_charAt (l := l) (nw := nw) (fk := fk) g h4 r dr kr rs (pt + 1) (by omega) f5 (by omega)) hown (wd_191 g) (wd_192 g) (notFace_of_selects (wd_194 g)) (wd_194 g) (wd_193 g) f6 (wd_195 g) (wd_7 g) (by decide) (argsL := [(.int (pt + 1).toInt32)]) (lenOf pd_27 rfl) rfl (by rw [hml]; rfl) (W := 0) rfl (hb hby D_method_4_code_32) (pc' := 35) rfl (by decide) (by decide) (by decide) (by decide) all0 ?_
  rintro _ vm7 h7 ⟨rfl, K7⟩ C7
  have z7 := K7.1
  -- pc 35
  refine Go.aloadN (hb hby D_method_4_code_35) (pc' := 36) rfl rfl rfl ?_
  refine Go.iconst (hb hby D_method_4_code_36) (pc' := 37) rfl (z := (0 : Int32)) rfl ?_
  have f8 : St Z h7 s0 d0 k0 cs := (((e1.keep K1 nin0 nin0).keep K4 nin0 nin0).keep K7 nin0 nin0)
  have f9 : Exa Z h7 s0 "java/lang/String" := (((e1.1.keep K1).keep K4).keep K7)
  refine Go.callV (y0 := ⟨"java/lang/String", "charAt", "(I)C"⟩) (c_charAt (l := l) (nw := nw) (fk := fk) g h7 s0 d0 k0 cs (0 : Nat) (by omega) f8 (by omega)) hown (wd_191 g) (wd_192 g) (notFace_of_selects (wd_194 g)) (wd_194 g) (wd_193 g) f9 (wd_195 g) (wd_7 g) (by decide) (argsL := [(.int (0 : Nat).toInt32)]) (lenOf pd_27 rfl) rfl (by rw [hml]; rfl) (W := 1) rfl (hb hby D_method_4_code_37) (pc' := 40) rfl (by decide) (by decide) (by decide) (by decide) all0 ?_
  rintro _ vm10 h10 ⟨rfl, K10⟩ C10
  have z10 := K10.1
  -- pc 40
  refine Go.icmpN (hb hby D_method_4_code_40) (pc' := 43) rfl (fun q => q (by rw [hx0])) ?_
  refine Go.iconst (hb hby D_method_4_code_43) (pc' := 44) rfl (z := (1 : Int32)) rfl ?_
  refine Go.goto (hb hby D_method_4_code_44) (by decide) (pc' := 48) (by decide) ?_
  refine Go.istore (hb hby D_method_4_code_48) (pc' := 50) rfl (L' := #[.val (.ref r), .val (.int pt.toInt32), .val (.ref s0), .val (.int (1 : Int32)), .val (.int (1 : Int32))]) rfl ?_
  refine Go.iloadN (hb hby D_method_4_code_50) (pc' := 51) rfl rfl ?_
  refine Go.iconst (hb hby D_method_4_code_51) (pc' := 52) rfl (z := (2 : Int32)) rfl ?_
  refine Go.icmpY (hb hby D_method_4_code_52) (by decide) (pc' := 82) (by decide) (show (1 : Int32) < (2 : Int32) from by decide) ?_
  refine Go.iloadN (hb hby D_method_4_code_82) (pc' := 83) rfl rfl ?_
  refine Go.iconst (hb hby D_method_4_code_83) (pc' := 84) rfl (z := (3 : Int32)) rfl ?_
  refine Go.icmpY (hb hby D_method_4_code_84) (by decide) (pc' := 114) (by decide) (show (1 : Int32) < (3 : Int32) from by decide) ?_
  refine Go.iload (hb hby D_method_4_code_114) (pc' := 116) rfl rfl ?_
  refine Go.retN (t := .boolean) hret (by simp) (hb hby D_method_4_code_116) (by decide) (by decide) ?_
  intro vmR CR
  exact ⟨(by first | rfl | (simp only [own_nar]; done) | (congr 2; done)), (((((Keep.refl h []).trans K1 all0).trans K4 all0).trans K7 all0).trans K10 all0)⟩
set_option maxRecDepth 65536 in
set_option maxHeartbeats 40000000 in
theorem c_copyAt2 {l : Launch} {Z : State} {a0 : Array Value} {EL : List (String × Nat)} {nw fk : Prop} {zc : Int32} {sf : Value} (g : GH Z a0 EL zc sf) (h : Heap) (r : Addr) (dr : Addr) (kr : ClassId) (rs : List Int32) (pt : Nat) (s0 : Addr) (d0 : Addr) (k0 : ClassId) (cs : List Int32) (hr : pt + 2 + 1 < rs.length) (hn : cs.length = 2) (ho : rs.getD pt 0 = 40) (hc : rs.getD (pt + 2 + 1) 0 = 41) (hx0 : rs.getD (pt + 1) 0 = cs.getD (0 : Nat) 0) (hx1 : rs.getD (pt + 2) 0 = cs.getD (1 : Nat) 0) (e0 : St Z h r dr kr rs) (e1 : St Z h s0 d0 k0 cs) (zz : Z.heap.size ≤ h.size) :
    Ct l Z EL nw fk [] ⟨"com/example/coffer/coffer/LedgerExactSumPinLaw", "copyAt", "(Ljava/lang/String;ILjava/lang/String;I)Z"⟩ method_4_code 5 (some .boolean) ({ frames := 4, cells := 0, slots := 0, locals := 54 } : Room) #[(.ref r), (.int pt.toInt32), (.ref s0), (.int (2 : Int32))] h [] (fun res vm' h' => res = some (.int (1 : Int32)) ∧ Keep h h' []) := by
  have ye0 := ltN e0.lt; have ye0' := ltN e0.ltb
  have ye1 := ltN e1.lt; have ye1' := ltN e1.ltb
  refine Ct.of_go (a0 := a0) g.2.1 (plainFor_of_name pn_9) (L0 := #[.val (.ref r), .val (.int pt.toInt32), .val (.ref s0), .val (.int (2 : Int32)), .unset]) (fun m => by first | (simp [entryFrame, mkF, argsToLocals, Value.category, own_rep]; done) | rfl) ?_
  intro p e s m below meth c hown hby hml hret hnm hZ hC hO hsf
  refine Go.aloadN (hb hby D_method_4_code_0) (pc' := 1) rfl rfl rfl ?_
  refine Go.iloadN (hb hby D_method_4_code_1) (pc' := 2) rfl rfl ?_
  refine Go.callV (y0 := ⟨"java/lang/String", "charAt", "(I)C"⟩) (c_charAt (l := l) (nw := nw) (fk := fk) g h r dr kr rs pt (by omega) e0 (by omega)) hown (wd_191 g) (wd_192 g) (notFace_of_selects (wd_194 g)) (wd_194 g) (wd_193 g) e0.1 (wd_195 g) (wd_7 g) (by decide) (argsL := [(.int pt.toInt32)]) (lenOf pd_27 rfl) rfl (by rw [hml]; rfl) (W := 0) rfl (hb hby D_method_4_code_2) (pc' := 5) rfl (by decide) (by decide) (by decide) (by decide) all0 ?_
  rintro _ vm1 h1 ⟨rfl, K1⟩ C1
  have z1 := K1.1
  -- pc 5
  refine Go.bipush (hb hby D_method_4_code_5) (pc' := 7) rfl (z := (40 : Int32)) rfl ?_
  refine Go.icmpY (hb hby D_method_4_code_7) (by decide) (pc' := 12) (by decide) (show ((rs.getD pt 0) &&& (255 : Int32)) = 40 by rw [ho]; rfl) ?_
  refine Go.aloadN (hb hby D_method_4_code_12) (pc' := 13) rfl rfl rfl ?_
  refine Go.iloadN (hb hby D_method_4_code_13) (pc' := 14) rfl rfl ?_
  refine Go.iloadN (hb hby D_method_4_code_14) (pc' := 15) rfl rfl ?_
  refine Go.iadd (hb hby D_method_4_code_15) (pc' := 16) rfl ?_
  rw [show (pt.toInt32 + (2 : Int32)) = (pt + 2).toInt32 from add32 pt 2]
  refine Go.iconst (hb hby D_method_4_code_16) (pc' := 17) rfl (z := (1 : Int32)) rfl ?_
  refine Go.iadd (hb hby D_method_4_code_17) (pc' := 18) rfl ?_
  rw [show ((pt + 2).toInt32 + 1) = (pt + 2 + 1).toInt32 from add32 (pt + 2) 1]
  have f2 : St Z h1 r dr kr rs := (e0.keep K1 nin0 nin0)
  have f3 : Exa Z h1 r "java/lang/String" := (e0.1.keep K1)
  refine Go.callV (y0 := ⟨"java/lang/String", "charAt", "(I)C"⟩) (c_charAt (l := l) (nw := nw) (fk := fk) g h1 r dr kr rs (pt + 2 + 1) (by omega) f2 (by omega)) hown (wd_191 g) (wd_192 g) (notFace_of_selects (wd_194 g)) (wd_194 g) (wd_193 g) f3 (wd_195 g) (wd_7 g) (by decide) (argsL := [(.int (pt + 2 + 1).toInt32)]) (lenOf pd_27 rfl) rfl (by rw [hml]; rfl) (W := 0) rfl (hb hby D_method_4_code_18) (pc' := 21) rfl (by decide) (by decide) (by decide) (by decide) all0 ?_
  rintro _ vm4 h4 ⟨rfl, K4⟩ C4
  have z4 := K4.1
  -- pc 21
  refine Go.bipush (hb hby D_method_4_code_21) (pc' := 23) rfl (z := (41 : Int32)) rfl ?_
  refine Go.icmpY (hb hby D_method_4_code_23) (by decide) (pc' := 28) (by decide) (show ((rs.getD (pt + 2 + 1) 0) &&& (255 : Int32)) = 41 by rw [hc]; rfl) ?_
  refine Go.aloadN (hb hby D_method_4_code_28) (pc' := 29) rfl rfl rfl ?_
  refine Go.iloadN (hb hby D_method_4_code_29) (pc' := 30) rfl rfl ?_
  refine Go.iconst (hb hby D_method_4_code_30) (pc' := 31) rfl (z := (1 : Int32)) rfl ?_
  refine Go.iadd (hb hby D_method_4_code_31) (pc' := 32) rfl ?_
  rw [show (pt.toInt32 + (1 : Int32)) = (pt + 1).toInt32 from add32 pt 1]
  have f5 : St Z h4 r dr kr rs := (f2.keep K4 nin0 nin0)
  have f6 : Exa Z h4 r "java/lang/String" := (f3.keep K4)
  refine Go.callV (y0 := ⟨"java/lang/String", "charAt", "(I)C"⟩) (c_charAt (l := l) (nw := nw) (fk := fk) g h4 r dr kr rs (pt + 1) (by omega) f5 (by omega)) hown (wd_191 g) (wd_192 g) (notFace_of_selects (wd_194 g)) (wd_194 g) (wd_193 g) f6 (wd_195 g) (wd_7 g) (by decide) (argsL := [(.int (pt + 1).toInt32)]) (lenOf pd_27 rfl) rfl (by rw [hml]; rfl) (W := 0) rfl (hb hby D_method_4_code_32) (pc' := 35) rfl (by decide) (by decide) (by decide) (by decide) all0 ?_
  rintro _ vm7 h7 ⟨rfl, K7⟩ C7
  have z7 := K7.1
  -- pc 35
  refine Go.aloadN (hb hby D_method_4_code_35) (pc' := 36) rfl rfl rfl ?_
  refine Go.iconst (hb hby D_method_4_code_36) (pc' := 37) rfl (z := (0 : Int32)) rfl ?_
  have f8 : St Z h7 s0 d0 k0 cs := (((e1.keep K1 nin0 nin0).keep K4 nin0 nin0).keep K7 nin0 nin0)
  have f9 : Exa Z h7 s0 "java/lang/String" := (((e1.1.keep K1).keep K4).keep K7)
  refine Go.callV (y0 := ⟨"java/lang/String", "charAt", "(I)C"⟩) (c_charAt (l := l) (nw := nw) (fk := fk) g h7 s0 d0 k0 cs (0 : Nat) (by omega) f8 (by omega)) hown (wd_191 g) (wd_192 g) (notFace_of_selects (wd_194 g)) (wd_194 g) (wd_193 g) f9 (wd_195 g) (wd_7 g) (by decide) (argsL := [(.int (0 : Nat).toInt32)]) (lenOf pd_27 rfl) rfl (by rw [hml]; rfl) (W := 1) rfl (hb hby D_method_4_code_37) (pc' := 40) rfl (by decide) (by decide) (by decide) (by decide) all0 ?_
  rintro _ vm10 h10 ⟨rfl, K10⟩ C10
  have z10 := K10.1
  -- pc 40
  refine Go.icmpN (hb hby D_method_4_code_40) (pc' := 43) rfl (fun q => q (by rw [hx0])) ?_
  refine Go.iconst (hb hby D_method_4_code_43) (pc' := 44) rfl (z := (1 : Int32)) rfl ?_
  refine Go.goto (hb hby D_method_4_code_44) (by decide) (pc' := 48) (by decide) ?_
  refine Go.istore (hb hby D_method_4_code_48) (pc' := 50) rfl (L' := #[.val (.ref r), .val (.int pt.toInt32), .val (.ref s0), .val (.int (2 : Int32)), .val (.int (1 : Int32))]) rfl ?_
  refine Go.iloadN (hb hby D_method_4_code_50) (pc' := 51) rfl rfl ?_
  refine Go.iconst (hb hby D_method_4_code_51) (pc' := 52) rfl (z := (2 : Int32)) rfl ?_
  refine Go.icmpN (hb hby D_method_4_code_52) (pc' := 55) rfl (show ¬ ((2 : Int32) < (2 : Int32)) from by decide) ?_
  refine Go.iload (hb hby D_method_4_code_55) (pc' := 57) rfl rfl ?_
  refine Go.ifN (hb hby D_method_4_code_57) (pc' := 60) rfl (show ¬ ((1 : Int32) = (0 : Int32)) from by decide) ?_
  refine Go.aloadN (hb hby D_method_4_code_60) (pc' := 61) rfl rfl rfl ?_
  refine Go.iloadN (hb hby D_method_4_code_61) (pc' := 62) rfl rfl ?_
  refine Go.iconst (hb hby D_method_4_code_62) (pc' := 63) rfl (z := (2 : Int32)) rfl ?_
  refine Go.iadd (hb hby D_method_4_code_63) (pc' := 64) rfl ?_
  rw [show (pt.toInt32 + (2 : Int32)) = (pt + 2).toInt32 from add32 pt 2]
  have f11 : St Z h10 r dr kr rs := ((f5.keep K7 nin0 nin0).keep K10 nin0 nin0)
  have f12 : Exa Z h10 r "java/lang/String" := ((f6.keep K7).keep K10)
  refine Go.callV (y0 := ⟨"java/lang/String", "charAt", "(I)C"⟩) (c_charAt (l := l) (nw := nw) (fk := fk) g h10 r dr kr rs (pt + 2) (by omega) f11 (by omega)) hown (wd_191 g) (wd_192 g) (notFace_of_selects (wd_194 g)) (wd_194 g) (wd_193 g) f12 (wd_195 g) (wd_7 g) (by decide) (argsL := [(.int (pt + 2).toInt32)]) (lenOf pd_27 rfl) rfl (by rw [hml]; rfl) (W := 0) rfl (hb hby D_method_4_code_64) (pc' := 67) rfl (by decide) (by decide) (by decide) (by decide) all0 ?_
  rintro _ vm13 h13 ⟨rfl, K13⟩ C13
  have z13 := K13.1
  -- pc 67
  refine Go.aloadN (hb hby D_method_4_code_67) (pc' := 68) rfl rfl rfl ?_
  refine Go.iconst (hb hby D_method_4_code_68) (pc' := 69) rfl (z := (1 : Int32)) rfl ?_
  have f14 : St Z h13 s0 d0 k0 cs := ((f8.keep K10 nin0 nin0).keep K13 nin0 nin0)
  have f15 : Exa Z h13 s0 "java/lang/String" := ((f9.keep K10).keep K13)
  refine Go.callV (y0 := ⟨"java/lang/String", "charAt", "(I)C"⟩) (c_charAt (l := l) (nw := nw) (fk := fk) g h13 s0 d0 k0 cs (1 : Nat) (by omega) f14 (by omega)) hown (wd_191 g) (wd_192 g) (notFace_of_selects (wd_194 g)) (wd_194 g) (wd_193 g) f15 (wd_195 g) (wd_7 g) (by decide) (argsL := [(.int (1 : Nat).toInt32)]) (lenOf pd_27 rfl) rfl (by rw [hml]; rfl) (W := 1) rfl (hb hby D_method_4_code_69) (pc' := 72) rfl (by decide) (by decide) (by decide) (by decide) all0 ?_
  rintro _ vm16 h16 ⟨rfl, K16⟩ C16
  have z16 := K16.1
  -- pc 72
  refine Go.icmpN (hb hby D_method_4_code_72) (pc' := 75) rfl (fun q => q (by rw [hx1])) ?_
  refine Go.iconst (hb hby D_method_4_code_75) (pc' := 76) rfl (z := (1 : Int32)) rfl ?_
  refine Go.goto (hb hby D_method_4_code_76) (by decide) (pc' := 80) (by decide) ?_
  refine Go.istore (hb hby D_method_4_code_80) (pc' := 82) rfl (L' := #[.val (.ref r), .val (.int pt.toInt32), .val (.ref s0), .val (.int (2 : Int32)), .val (.int (1 : Int32))]) rfl ?_
  refine Go.iloadN (hb hby D_method_4_code_82) (pc' := 83) rfl rfl ?_
  refine Go.iconst (hb hby D_method_4_code_83) (pc' := 84) rfl (z := (3 : Int32)) rfl ?_
  refine Go.icmpY (hb hby D_method_4_code_84) (by decide) (pc' := 114) (by decide) (show (2 : Int32) < (3 : Int32) from by decide) ?_
  refine Go.iload (hb hby D_method_4_code_114) (pc' := 116) rfl rfl ?_
  refine Go.retN (t := .boolean) hret (by simp) (hb hby D_method_4_code_116) (by decide) (by decide) ?_
  intro vmR CR
  exact ⟨(by first | rfl | (simp only [own_nar]; done) | (congr 2; done)), (((((((Keep.refl h []).trans K1 all0).trans K4 all0).trans K7 all0).trans K10 all0).trans K13 all0).trans K16 all0)⟩
set_option maxRecDepth 65536 in
set_option maxHeartbeats 40000000 in
theorem c_copyAt3 {l : Launch} {Z : State} {a0 : Array Value} {EL : List (String × Nat)} {nw fk : Prop} {zc : Int32} {sf : Value} (g : GH Z a0 EL zc sf) (h : Heap) (r : Addr) (dr : Addr) (kr : ClassId) (rs : List Int32) (pt : Nat) (s0 : Addr) (d0 : Addr) (k0 : ClassId) (cs : List Int32) (hr : pt + 3 + 1 < rs.length) (hn : cs.length = 3) (ho : rs.getD pt 0 = 40) (hc : rs.getD (pt + 3 + 1) 0 = 41) (hx0 : rs.getD (pt + 1) 0 = cs.getD (0 : Nat) 0) (hx1 : rs.getD (pt + 2) 0 = cs.getD (1 : Nat) 0) (hx2 : rs.getD (pt + 3) 0 = cs.getD (2 : Nat) 0) (e0 : St Z h r dr kr rs) (e1 : St Z h s0 d0 k0 cs) (zz : Z.heap.size ≤ h.size) :
    Ct l Z EL nw fk [] ⟨"com/example/coffer/coffer/LedgerExactSumPinLaw", "copyAt", "(Ljava/lang/String;ILjava/lang/String;I)Z"⟩ method_4_code 5 (some .boolean) ({ frames := 4, cells := 0, slots := 0, locals := 54 } : Room) #[(.ref r), (.int pt.toInt32), (.ref s0), (.int (3 : Int32))] h [] (fun res vm' h' => res = some (.int (1 : Int32)) ∧ Keep h h' []) := by
  have ye0 := ltN e0.lt; have ye0' := ltN e0.ltb
  have ye1 := ltN e1.lt; have ye1' := ltN e1.ltb
  refine Ct.of_go (a0 := a0) g.2.1 (plainFor_of_name pn_9) (L0 := #[.val (.ref r), .val (.int pt.toInt32), .val (.ref s0), .val (.int (3 : Int32)), .unset]) (fun m => by first | (simp [entryFrame, mkF, argsToLocals, Value.category, own_rep]; done) | rfl) ?_
  intro p e s m below meth c hown hby hml hret hnm hZ hC hO hsf
  refine Go.aloadN (hb hby D_method_4_code_0) (pc' := 1) rfl rfl rfl ?_
  refine Go.iloadN (hb hby D_method_4_code_1) (pc' := 2) rfl rfl ?_
  refine Go.callV (y0 := ⟨"java/lang/String", "charAt", "(I)C"⟩) (c_charAt (l := l) (nw := nw) (fk := fk) g h r dr kr rs pt (by omega) e0 (by omega)) hown (wd_191 g) (wd_192 g) (notFace_of_selects (wd_194 g)) (wd_194 g) (wd_193 g) e0.1 (wd_195 g) (wd_7 g) (by decide) (argsL := [(.int pt.toInt32)]) (lenOf pd_27 rfl) rfl (by rw [hml]; rfl) (W := 0) rfl (hb hby D_method_4_code_2) (pc' := 5) rfl (by decide) (by decide) (by decide) (by decide) all0 ?_
  rintro _ vm1 h1 ⟨rfl, K1⟩ C1
  have z1 := K1.1
  -- pc 5
  refine Go.bipush (hb hby D_method_4_code_5) (pc' := 7) rfl (z := (40 : Int32)) rfl ?_
  refine Go.icmpY (hb hby D_method_4_code_7) (by decide) (pc' := 12) (by decide) (show ((rs.getD pt 0) &&& (255 : Int32)) = 40 by rw [ho]; rfl) ?_
  refine Go.aloadN (hb hby D_method_4_code_12) (pc' := 13) rfl rfl rfl ?_
  refine Go.iloadN (hb hby D_method_4_code_13) (pc' := 14) rfl rfl ?_
  refine Go.iloadN (hb hby D_method_4_code_14) (pc' := 15) rfl rfl ?_
  refine Go.iadd (hb hby D_method_4_code_15) (pc' := 16) rfl ?_
  rw [show (pt.toInt32 + (3 : Int32)) = (pt + 3).toInt32 from add32 pt 3]
  refine Go.iconst (hb hby D_method_4_code_16) (pc' := 17) rfl (z := (1 : Int32)) rfl ?_
  refine Go.iadd (hb hby D_method_4_code_17) (pc' := 18) rfl ?_
  rw [show ((pt + 3).toInt32 + 1) = (pt + 3 + 1).toInt32 from add32 (pt + 3) 1]
  have f2 : St Z h1 r dr kr rs := (e0.keep K1 nin0 nin0)
  have f3 : Exa Z h1 r "java/lang/String" := (e0.1.keep K1)
  refine Go.callV (y0 := ⟨"java/lang/String", "charAt", "(I)C"⟩) (c_charAt (l := l) (nw := nw) (fk := fk) g h1 r dr kr rs (pt + 3 + 1) (by omega) f2 (by omega)) hown (wd_191 g) (wd_192 g) (notFace_of_selects (wd_194 g)) (wd_194 g) (wd_193 g) f3 (wd_195 g) (wd_7 g) (by decide) (argsL := [(.int (pt + 3 + 1).toInt32)]) (lenOf pd_27 rfl) rfl (by rw [hml]; rfl) (W := 0) rfl (hb hby D_method_4_code_18) (pc' := 21) rfl (by decide) (by decide) (by decide) (by decide) all0 ?_
  rintro _ vm4 h4 ⟨rfl, K4⟩ C4
  have z4 := K4.1
  -- pc 21
  refine Go.bipush (hb hby D_method_4_code_21) (pc' := 23) rfl (z := (41 : Int32)) rfl ?_
  refine Go.icmpY (hb hby D_method_4_code_23) (by decide) (pc' := 28) (by decide) (show ((rs.getD (pt + 3 + 1) 0) &&& (255 : Int32)) = 41 by rw [hc]; rfl) ?_
  refine Go.aloadN (hb hby D_method_4_code_28) (pc' := 29) rfl rfl rfl ?_
  refine Go.iloadN (hb hby D_method_4_code_29) (pc' := 30) rfl rfl ?_
  refine Go.iconst (hb hby D_method_4_code_30) (pc' := 31) rfl (z := (1 : Int32)) rfl ?_
  refine Go.iadd (hb hby D_method_4_code_31) (pc' := 32) rfl ?_
  rw [show (pt.toInt32 + (1 : Int32)) = (pt + 1).toInt32 from add32 pt 1]
  have f5 : St Z h4 r dr kr rs := (f2.keep K4 nin0 nin0)
  have f6 : Exa Z h4 r "java/lang/String" := (f3.keep K4)
  refine Go.callV (y0 := ⟨"java/lang/String", "charAt", "(I)C"⟩) (c_charAt (l := l) (nw := nw) (fk := fk) g h4 r dr kr rs (pt + 1) (by omega) f5 (by omega)) hown (wd_191 g) (wd_192 g) (notFace_of_selects (wd_194 g)) (wd_194 g) (wd_193 g) f6 (wd_195 g) (wd_7 g) (by decide) (argsL := [(.int (pt + 1).toInt32)]) (lenOf pd_27 rfl) rfl (by rw [hml]; rfl) (W := 0) rfl (hb hby D_method_4_code_32) (pc' := 35) rfl (by decide) (by decide) (by decide) (by decide) all0 ?_
  rintro _ vm7 h7 ⟨rfl, K7⟩ C7
  have z7 := K7.1
  -- pc 35
  refine Go.aloadN (hb hby D_method_4_code_35) (pc' := 36) rfl rfl rfl ?_
  refine Go.iconst (hb hby D_method_4_code_36) (pc' := 37) rfl (z := (0 : Int32)) rfl ?_
  have f8 : St Z h7 s0 d0 k0 cs := (((e1.keep K1 nin0 nin0).keep K4 nin0 nin0).keep K7 nin0 nin0)
  have f9 : Exa Z h7 s0 "java/lang/String" := (((e1.1.keep K1).keep K4).keep K7)
  refine Go.callV (y0 := ⟨"java/lang/String", "charAt", "(I)C"⟩) (c_charAt (l := l) (nw := nw) (fk := fk) g h7 s0 d0 k0 cs (0 : Nat) (by omega) f8 (by omega)) hown (wd_191 g) (wd_192 g) (notFace_of_selects (wd_194 g)) (wd_194 g) (wd_193 g) f9 (wd_195 g) (wd_7 g) (by decide) (argsL := [(.int (0 : Nat).toInt32)]) (lenOf pd_27 rfl) rfl (by rw [hml]; rfl) (W := 1) rfl (hb hby D_method_4_code_37) (pc' := 40) rfl (by decide) (by decide) (by decide) (by decide) all0 ?_
  rintro _ vm10 h10 ⟨rfl, K10⟩ C10
  have z10 := K10.1
  -- pc 40
  refine Go.icmpN (hb hby D_method_4_code_40) (pc' := 43) rfl (fun q => q (by rw [hx0])) ?_
  refine Go.iconst (hb hby D_method_4_code_43) (pc' := 44) rfl (z := (1 : Int32)) rfl ?_
  refine Go.goto (hb hby D_method_4_code_44) (by decide) (pc' := 48) (by decide) ?_
  refine Go.istore (hb hby D_method_4_code_48) (pc' := 50) rfl (L' := #[.val (.ref r), .val (.int pt.toInt32), .val (.ref s0), .val (.int (3 : Int32)), .val (.int (1 : Int32))]) rfl ?_
  refine Go.iloadN (hb hby D_method_4_code_50) (pc' := 51) rfl rfl ?_
  refine Go.iconst (hb hby D_method_4_code_51) (pc' := 52) rfl (z := (2 : Int32)) rfl ?_
  refine Go.icmpN (hb hby D_method_4_code_52) (pc' := 55) rfl (show ¬ ((3 : Int32) < (2 : Int32)) from by decide) ?_
  refine Go.iload (hb hby D_method_4_code_55) (pc' := 57) rfl rfl ?_
  refine Go.ifN (hb hby D_method_4_code_57) (pc' := 60) rfl (show ¬ ((1 : Int32) = (0 : Int32)) from by decide) ?_
  refine Go.aloadN (hb hby D_method_4_code_60) (pc' := 61) rfl rfl rfl ?_
  refine Go.iloadN (hb hby D_method_4_code_61) (pc' := 62) rfl rfl ?_
  refine Go.iconst (hb hby D_method_4_code_62) (pc' := 63) rfl (z := (2 : Int32)) rfl ?_
  refine Go.iadd (hb hby D_method_4_code_63) (pc' := 64) rfl ?_
  rw [show (pt.toInt32 + (2 : Int32)) = (pt + 2).toInt32 from add32 pt 2]
  have f11 : St Z h10 r dr kr rs := ((f5.keep K7 nin0 nin0).keep K10 nin0 nin0)
  have f12 : Exa Z h10 r "java/lang/String" := ((f6.keep K7).keep K10)
  refine Go.callV (y0 := ⟨"java/lang/String", "charAt", "(I)C"⟩) (c_charAt (l := l) (nw := nw) (fk := fk) g h10 r dr kr rs (pt + 2) (by omega) f11 (by omega)) hown (wd_191 g) (wd_192 g) (notFace_of_selects (wd_194 g)) (wd_194 g) (wd_193 g) f12 (wd_195 g) (wd_7 g) (by decide) (argsL := [(.int (pt + 2).toInt32)]) (lenOf pd_27 rfl) rfl (by rw [hml]; rfl) (W := 0) rfl (hb hby D_method_4_code_64) (pc' := 67) rfl (by decide) (by decide) (by decide) (by decide) all0 ?_
  rintro _ vm13 h13 ⟨rfl, K13⟩ C13
  have z13 := K13.1
  -- pc 67
  refine Go.aloadN (hb hby D_method_4_code_67) (pc' := 68) rfl rfl rfl ?_
  refine Go.iconst (hb hby D_method_4_code_68) (pc' := 69) rfl (z := (1 : Int32)) rfl ?_
  have f14 : St Z h13 s0 d0 k0 cs := ((f8.keep K10 nin0 nin0).keep K13 nin0 nin0)
  have f15 : Exa Z h13 s0 "java/lang/String" := ((f9.keep K10).keep K13)
  refine Go.callV (y0 := ⟨"java/lang/String", "charAt", "(I)C"⟩) (c_charAt (l := l) (nw := nw) (fk := fk) g h13 s0 d0 k0 cs (1 : Nat) (by omega) f14 (by omega)) hown (wd_191 g) (wd_192 g) (notFace_of_selects (wd_194 g)) (wd_194 g) (wd_193 g) f15 (wd_195 g) (wd_7 g) (by decide) (argsL := [(.int (1 : Nat).toInt32)]) (lenOf pd_27 rfl) rfl (by rw [hml]; rfl) (W := 1) rfl (hb hby D_method_4_code_69) (pc' := 72) rfl (by decide) (by decide) (by decide) (by decide) all0 ?_
  rintro _ vm16 h16 ⟨rfl, K16⟩ C16
  have z16 := K16.1
  -- pc 72
  refine Go.icmpN (hb hby D_method_4_code_72) (pc' := 75) rfl (fun q => q (by rw [hx1])) ?_
  refine Go.iconst (hb hby D_method_4_code_75) (pc' := 76) rfl (z := (1 : Int32)) rfl ?_
  refine Go.goto (hb hby D_method_4_code_76) (by decide) (pc' := 80) (by decide) ?_
  refine Go.istore (hb hby D_method_4_code_80) (pc' := 82) rfl (L' := #[.val (.ref r), .val (.int pt.toInt32), .val (.ref s0), .val (.int (3 : Int32)), .val (.int (1 : Int32))]) rfl ?_
  refine Go.iloadN (hb hby D_method_4_code_82) (pc' := 83) rfl rfl ?_
  refine Go.iconst (hb hby D_method_4_code_83) (pc' := 84) rfl (z := (3 : Int32)) rfl ?_
  refine Go.icmpN (hb hby D_method_4_code_84) (pc' := 87) rfl (show ¬ ((3 : Int32) < (3 : Int32)) from by decide) ?_
  refine Go.iload (hb hby D_method_4_code_87) (pc' := 89) rfl rfl ?_
  refine Go.ifN (hb hby D_method_4_code_89) (pc' := 92) rfl (show ¬ ((1 : Int32) = (0 : Int32)) from by decide) ?_
  refine Go.aloadN (hb hby D_method_4_code_92) (pc' := 93) rfl rfl rfl ?_
  refine Go.iloadN (hb hby D_method_4_code_93) (pc' := 94) rfl rfl ?_
  refine Go.iconst (hb hby D_method_4_code_94) (pc' := 95) rfl (z := (3 : Int32)) rfl ?_
  refine Go.iadd (hb hby D_method_4_code_95) (pc' := 96) rfl ?_
  rw [show (pt.toInt32 + (3 : Int32)) = (pt + 3).toInt32 from add32 pt 3]
  have f17 : St Z h16 r dr kr rs := ((f11.keep K13 nin0 nin0).keep K16 nin0 nin0)
  have f18 : Exa Z h16 r "java/lang/String" := ((f12.keep K13).keep K16)
  refine Go.callV (y0 := ⟨"java/lang/String", "charAt", "(I)C"⟩) (c_charAt (l := l) (nw := nw) (fk := fk) g h16 r dr kr rs (pt + 3) (by omega) f17 (by omega)) hown (wd_191 g) (wd_192 g) (notFace_of_selects (wd_194 g)) (wd_194 g) (wd_193 g) f18 (wd_195 g) (wd_7 g) (by decide) (argsL := [(.int (pt + 3).toInt32)]) (lenOf pd_27 rfl) rfl (by rw [hml]; rfl) (W := 0) rfl (hb hby D_method_4_code_96) (pc' := 99) rfl (by decide) (by decide) (by decide) (by decide) all0 ?_
  rintro _ vm19 h19 ⟨rfl, K19⟩ C19
  have z19 := K19.1
  -- pc 99
  refine Go.aloadN (hb hby D_method_4_code_99) (pc' := 100) rfl rfl rfl ?_
  refine Go.iconst (hb hby D_method_4_code_100) (pc' := 101) rfl (z := (2 : Int32)) rfl ?_
  have f20 : St Z h19 s0 d0 k0 cs := ((f14.keep K16 nin0 nin0).keep K19 nin0 nin0)
  have f21 : Exa Z h19 s0 "java/lang/String" := ((f15.keep K16).keep K19)
  refine Go.callV (y0 := ⟨"java/lang/String", "charAt", "(I)C"⟩) (c_charAt (l := l) (nw := nw) (fk := fk) g h19 s0 d0 k0 cs (2 : Nat) (by omega) f20 (by omega)) hown (wd_191 g) (wd_192 g) (notFace_of_selects (wd_194 g)) (wd_194 g) (wd_193 g) f21 (wd_195 g) (wd_7 g) (by decide) (argsL := [(.int (2 : Nat).toInt32)]) (lenOf pd_27 rfl) rfl (by rw [hml]; rfl) (W := 1) rfl (hb hby D_method_4_code_101) (pc' := 104) rfl (by decide) (by decide) (by decide) (by decide) all0 ?_
  rintro _ vm22 h22 ⟨rfl, K22⟩ C22
  have z22 := K22.1
  -- pc 104
  refine Go.icmpN (hb hby D_method_4_code_104) (pc' := 107) rfl (fun q => q (by rw [hx2])) ?_
  refine Go.iconst (hb hby D_method_4_code_107) (pc' := 108) rfl (z := (1 : Int32)) rfl ?_
  refine Go.goto (hb hby D_method_4_code_108) (by decide) (pc' := 112) (by decide) ?_
  refine Go.istore (hb hby D_method_4_code_112) (pc' := 114) rfl (L' := #[.val (.ref r), .val (.int pt.toInt32), .val (.ref s0), .val (.int (3 : Int32)), .val (.int (1 : Int32))]) rfl ?_
  refine Go.iload (hb hby D_method_4_code_114) (pc' := 116) rfl rfl ?_
  refine Go.retN (t := .boolean) hret (by simp) (hb hby D_method_4_code_116) (by decide) (by decide) ?_
  intro vmR CR
  exact ⟨(by first | rfl | (simp only [own_nar]; done) | (congr 2; done)), (((((((((Keep.refl h []).trans K1 all0).trans K4 all0).trans K7 all0).trans K10 all0).trans K13 all0).trans K16 all0).trans K19 all0).trans K22 all0)⟩
set_option maxRecDepth 65536 in
set_option maxHeartbeats 40000000 in
theorem c_draw1 {l : Launch} {Z : State} {a0 : Array Value} {EL : List (String × Nat)} {nw fk : Prop} {zc : Int32} {sf : Value} (g : GH Z a0 EL zc sf) (h : Heap) (u : Int32) (v : Int32) (w : Int32) (hu : 0 ≤ u.toInt ∧ u.toInt ≤ 255) (hv : 0 ≤ v.toInt ∧ v.toInt ≤ 255) (hw : 0 ≤ w.toInt ∧ w.toInt ≤ 255) (zz : Z.heap.size ≤ h.size) :
    Ct l Z EL nw fk [] ⟨"com/example/coffer/coffer/LedgerExactSumPinLaw", "draw", "(ICCC)Ljava/lang/String;"⟩ method_3_code 4 (some (.object "java/lang/String")) ({ frames := 4, cells := 3, slots := 9, locals := 66 } : Room) #[(.int (1 : Int32)), (.int u), (.int v), (.int w)] h [] (fun res vm' h' => ∃ r : Addr, ∃ d : Addr, ∃ kd : ClassId, res = some (.ref r) ∧ Keep h h' [] ∧ h.size ≤ r ∧ h.size ≤ d ∧ St Z h' r d kd ([u].map by8)) := by
  refine Ct.of_go (a0 := a0) g.2.1 (plainFor_of_name pn_9) (L0 := #[.val (.int (1 : Int32)), .val (.int u), .val (.int v), .val (.int w)]) (fun m => by first | (simp [entryFrame, mkF, argsToLocals, Value.category, own_rep]; done) | rfl) ?_
  intro p e s m below meth c hown hby hml hret hnm hZ hC hO hsf
  refine Go.iloadN (hb hby D_method_3_code_0) (pc' := 1) rfl rfl ?_
  refine Go.iconst (hb hby D_method_3_code_1) (pc' := 2) rfl (z := (1 : Int32)) rfl ?_
  refine Go.icmpN (hb hby D_method_3_code_2) (pc' := 5) rfl (show ¬ (¬ (1 : Int32) = (1 : Int32)) from by decide) ?_
  refine Go.newO hown (wd_5 g) (wd_6 g) (wd_7 g) (hb hby D_method_3_code_5) (pc' := 8) rfl (by decide) (by decide) ?_
  intro h1 a2 g3 l4 E5 X6 D7 S8 C9 N10
  have KE5 := Keep.ofExt E5; have zE5 := E5.1
  have f11 : Fld Z h1 a2 "java/lang/String" "coder" "B" (.int 0) := D7 (Or.inr (wd_32 g)) (ty := .byte) (by decide)
  have f12 : Fld Z h1 a2 "java/lang/String" "value" "[B" .null := D7 (Or.inr (wd_34 g)) (ty := (.array .byte)) (by decide)
  refine Go.dup (hb hby D_method_3_code_8) (pc' := 9) rfl rfl ?_
  refine Go.iconst (hb hby D_method_3_code_9) (pc' := 10) rfl (z := (1 : Int32)) rfl ?_
  refine Go.newP (ty := .char) rfl (wd_8 g) (hb hby D_method_3_code_10) (pc' := 12) rfl (by decide) (cap := 1) (by decide) (by decide) (by decide) (by decide) ?_
  intro h13 a14 k15 g16 l17 E18 A19 S20 C21
  have KE18 := Keep.ofExt E18; have zE18 := E18.1
  have A19 : Ar Z h13 a14 k15 .char [(.int 0)] := A19
  refine Go.dup (hb hby D_method_3_code_12) (pc' := 13) rfl rfl ?_
  refine Go.iconst (hb hby D_method_3_code_13) (pc' := 14) rfl (z := (0 : Int32)) rfl ?_
  refine Go.iloadN (hb hby D_method_3_code_14) (pc' := 15) rfl rfl ?_
  refine Go.castore A19 (by decide) (Nat.lt_of_lt_of_eq (by decide : Int32.toNatClampNeg (0 : Int32) < 1) rfl) (by omega) (hb hby D_method_3_code_15) (pc' := 16) rfl ?_
  intro h22 A23 z24 K25 S26 C27
  rw [nch hu] at A23
  have A23 : Ar Z h22 a14 k15 .char [(.int u)] := A23
  have f28 : Exa Z h22 a2 "java/lang/String" := ((X6.keep KE18).keep K25)
  have f29 : Fld Z h22 a2 "java/lang/String" "coder" "B" (.int 0) := ((f11.keep KE18 nin0).keep K25 (ninS (neN (by omega)) nin0))
  have f30 : Fld Z h22 a2 "java/lang/String" "value" "[B" .null := ((f12.keep KE18 nin0).keep K25 (ninS (neN (by omega)) nin0))
  have f31 : Safe Z EL s.vm h22 a2 := (Safe.to C27 (by omega) (Safe.to C21 (by omega) S8))
  refine Go.callC (c_strinit (l := l) (nw := nw) (fk := fk) g h22 a2 a14 k15 [u] (alS hu al0) (by simp) (by simp) (by first | omega | assumption | decide) f28 f29 f30 A23 (by omega)) hown rfl rfl (wd_9 g) (wd_10 g) (wd_11 g) (wd_7 g) (by decide) (argsL := [(.ref a14)]) (lenOf pd_28 rfl) rfl (by rw [hml]; rfl) (W := 1) rfl (hb hby D_method_3_code_16) (pc' := 19) rfl (by decide) (by decide) (by decide) (by decide) (allS ⟨by omega, f31⟩ all0) ?_
  rintro _ vm32 h32 ⟨d_32, kd_32, rfl, K32, p32_0, o32_0⟩ C32
  have z32 := K32.1
  have yo32_0 := ltN o32_0.lt; have yo32_0' := ltN o32_0.ltb
  -- pc 19
  refine Go.retA hret rfl rfl (hb hby D_method_3_code_19) (by decide) (by decide) ?_
  intro vmR CR
  exact ⟨a2, d_32, kd_32, (by first | rfl | (simp only [own_nar]; done) | (congr 2; done)), (((((Keep.refl h []).trans KE5 all0).trans KE18 all0).trans K25 (allS (by first | (left; simp; done) | (right; omega)) all0)).trans K32 (allS (by first | (left; simp; done) | (right; omega)) all0)), (by omega), (by omega), o32_0⟩
set_option maxRecDepth 65536 in
set_option maxHeartbeats 40000000 in
theorem c_draw2 {l : Launch} {Z : State} {a0 : Array Value} {EL : List (String × Nat)} {nw fk : Prop} {zc : Int32} {sf : Value} (g : GH Z a0 EL zc sf) (h : Heap) (u : Int32) (v : Int32) (w : Int32) (hu : 0 ≤ u.toInt ∧ u.toInt ≤ 255) (hv : 0 ≤ v.toInt ∧ v.toInt ≤ 255) (hw : 0 ≤ w.toInt ∧ w.toInt ≤ 255) (zz : Z.heap.size ≤ h.size) :
    Ct l Z EL nw fk [] ⟨"com/example/coffer/coffer/LedgerExactSumPinLaw", "draw", "(ICCC)Ljava/lang/String;"⟩ method_3_code 4 (some (.object "java/lang/String")) ({ frames := 4, cells := 3, slots := 10, locals := 66 } : Room) #[(.int (2 : Int32)), (.int u), (.int v), (.int w)] h [] (fun res vm' h' => ∃ r : Addr, ∃ d : Addr, ∃ kd : ClassId, res = some (.ref r) ∧ Keep h h' [] ∧ h.size ≤ r ∧ h.size ≤ d ∧ St Z h' r d kd ([u, v].map by8)) := by
  refine Ct.of_go (a0 := a0) g.2.1 (plainFor_of_name pn_9) (L0 := #[.val (.int (2 : Int32)), .val (.int u), .val (.int v), .val (.int w)]) (fun m => by first | (simp [entryFrame, mkF, argsToLocals, Value.category, own_rep]; done) | rfl) ?_
  intro p e s m below meth c hown hby hml hret hnm hZ hC hO hsf
  refine Go.iloadN (hb hby D_method_3_code_0) (pc' := 1) rfl rfl ?_
  refine Go.iconst (hb hby D_method_3_code_1) (pc' := 2) rfl (z := (1 : Int32)) rfl ?_
  refine Go.icmpY (hb hby D_method_3_code_2) (by decide) (pc' := 20) (by decide) (show ¬ (2 : Int32) = (1 : Int32) from by decide) ?_
  refine Go.iloadN (hb hby D_method_3_code_20) (pc' := 21) rfl rfl ?_
  refine Go.iconst (hb hby D_method_3_code_21) (pc' := 22) rfl (z := (2 : Int32)) rfl ?_
  refine Go.icmpN (hb hby D_method_3_code_22) (pc' := 25) rfl (show ¬ (¬ (2 : Int32) = (2 : Int32)) from by decide) ?_
  refine Go.newO hown (wd_5 g) (wd_6 g) (wd_7 g) (hb hby D_method_3_code_25) (pc' := 28) rfl (by decide) (by decide) ?_
  intro h1 a2 g3 l4 E5 X6 D7 S8 C9 N10
  have KE5 := Keep.ofExt E5; have zE5 := E5.1
  have f11 : Fld Z h1 a2 "java/lang/String" "coder" "B" (.int 0) := D7 (Or.inr (wd_32 g)) (ty := .byte) (by decide)
  have f12 : Fld Z h1 a2 "java/lang/String" "value" "[B" .null := D7 (Or.inr (wd_34 g)) (ty := (.array .byte)) (by decide)
  refine Go.dup (hb hby D_method_3_code_28) (pc' := 29) rfl rfl ?_
  refine Go.iconst (hb hby D_method_3_code_29) (pc' := 30) rfl (z := (2 : Int32)) rfl ?_
  refine Go.newP (ty := .char) rfl (wd_8 g) (hb hby D_method_3_code_30) (pc' := 32) rfl (by decide) (cap := 2) (by decide) (by decide) (by decide) (by decide) ?_
  intro h13 a14 k15 g16 l17 E18 A19 S20 C21
  have KE18 := Keep.ofExt E18; have zE18 := E18.1
  have A19 : Ar Z h13 a14 k15 .char [(.int 0), (.int 0)] := A19
  refine Go.dup (hb hby D_method_3_code_32) (pc' := 33) rfl rfl ?_
  refine Go.iconst (hb hby D_method_3_code_33) (pc' := 34) rfl (z := (0 : Int32)) rfl ?_
  refine Go.iloadN (hb hby D_method_3_code_34) (pc' := 35) rfl rfl ?_
  refine Go.castore A19 (by decide) (Nat.lt_of_lt_of_eq (by decide : Int32.toNatClampNeg (0 : Int32) < 2) rfl) (by omega) (hb hby D_method_3_code_35) (pc' := 36) rfl ?_
  intro h22 A23 z24 K25 S26 C27
  rw [nch hu] at A23
  have A23 : Ar Z h22 a14 k15 .char [(.int u), (.int 0)] := A23
  refine Go.dup (hb hby D_method_3_code_36) (pc' := 37) rfl rfl ?_
  refine Go.iconst (hb hby D_method_3_code_37) (pc' := 38) rfl (z := (1 : Int32)) rfl ?_
  refine Go.iloadN (hb hby D_method_3_code_38) (pc' := 39) rfl rfl ?_
  refine Go.castore A23 (by decide) (Nat.lt_of_lt_of_eq (by decide : Int32.toNatClampNeg (1 : Int32) < 2) rfl) (by omega) (hb hby D_method_3_code_39) (pc' := 40) rfl ?_
  intro h28 A29 z30 K31 S32 C33
  rw [nch hv] at A29
  have A29 : Ar Z h28 a14 k15 .char [(.int u), (.int v)] := A29
  have f34 : Exa Z h28 a2 "java/lang/String" := (((X6.keep KE18).keep K25).keep K31)
  have f35 : Fld Z h28 a2 "java/lang/String" "coder" "B" (.int 0) := (((f11.keep KE18 nin0).keep K25 (ninS (neN (by omega)) nin0)).keep K31 (ninS (neN (by omega)) nin0))
  have f36 : Fld Z h28 a2 "java/lang/String" "value" "[B" .null := (((f12.keep KE18 nin0).keep K25 (ninS (neN (by omega)) nin0)).keep K31 (ninS (neN (by omega)) nin0))
  have f37 : Safe Z EL s.vm h28 a2 := (Safe.to C33 (by omega) (Safe.to C27 (by omega) (Safe.to C21 (by omega) S8)))
  refine Go.callC (c_strinit (l := l) (nw := nw) (fk := fk) g h28 a2 a14 k15 [u, v] (alS hu (alS hv al0)) (by simp) (by simp) (by first | omega | assumption | decide) f34 f35 f36 A29 (by omega)) hown rfl rfl (wd_9 g) (wd_10 g) (wd_11 g) (wd_7 g) (by decide) (argsL := [(.ref a14)]) (lenOf pd_28 rfl) rfl (by rw [hml]; rfl) (W := 1) rfl (hb hby D_method_3_code_40) (pc' := 43) rfl (by decide) (by decide) (by decide) (by decide) (allS ⟨by omega, f37⟩ all0) ?_
  rintro _ vm38 h38 ⟨d_38, kd_38, rfl, K38, p38_0, o38_0⟩ C38
  have z38 := K38.1
  have yo38_0 := ltN o38_0.lt; have yo38_0' := ltN o38_0.ltb
  -- pc 43
  refine Go.retA hret rfl rfl (hb hby D_method_3_code_43) (by decide) (by decide) ?_
  intro vmR CR
  exact ⟨a2, d_38, kd_38, (by first | rfl | (simp only [own_nar]; done) | (congr 2; done)), ((((((Keep.refl h []).trans KE5 all0).trans KE18 all0).trans K25 (allS (by first | (left; simp; done) | (right; omega)) all0)).trans K31 (allS (by first | (left; simp; done) | (right; omega)) all0)).trans K38 (allS (by first | (left; simp; done) | (right; omega)) all0)), (by omega), (by omega), o38_0⟩
set_option maxRecDepth 65536 in
set_option maxHeartbeats 40000000 in
theorem c_draw3 {l : Launch} {Z : State} {a0 : Array Value} {EL : List (String × Nat)} {nw fk : Prop} {zc : Int32} {sf : Value} (g : GH Z a0 EL zc sf) (h : Heap) (u : Int32) (v : Int32) (w : Int32) (hu : 0 ≤ u.toInt ∧ u.toInt ≤ 255) (hv : 0 ≤ v.toInt ∧ v.toInt ≤ 255) (hw : 0 ≤ w.toInt ∧ w.toInt ≤ 255) (zz : Z.heap.size ≤ h.size) :
    Ct l Z EL nw fk [] ⟨"com/example/coffer/coffer/LedgerExactSumPinLaw", "draw", "(ICCC)Ljava/lang/String;"⟩ method_3_code 4 (some (.object "java/lang/String")) ({ frames := 4, cells := 3, slots := 11, locals := 66 } : Room) #[(.int (3 : Int32)), (.int u), (.int v), (.int w)] h [] (fun res vm' h' => ∃ r : Addr, ∃ d : Addr, ∃ kd : ClassId, res = some (.ref r) ∧ Keep h h' [] ∧ h.size ≤ r ∧ h.size ≤ d ∧ St Z h' r d kd ([u, v, w].map by8)) := by
  refine Ct.of_go (a0 := a0) g.2.1 (plainFor_of_name pn_9) (L0 := #[.val (.int (3 : Int32)), .val (.int u), .val (.int v), .val (.int w)]) (fun m => by first | (simp [entryFrame, mkF, argsToLocals, Value.category, own_rep]; done) | rfl) ?_
  intro p e s m below meth c hown hby hml hret hnm hZ hC hO hsf
  refine Go.iloadN (hb hby D_method_3_code_0) (pc' := 1) rfl rfl ?_
  refine Go.iconst (hb hby D_method_3_code_1) (pc' := 2) rfl (z := (1 : Int32)) rfl ?_
  refine Go.icmpY (hb hby D_method_3_code_2) (by decide) (pc' := 20) (by decide) (show ¬ (3 : Int32) = (1 : Int32) from by decide) ?_
  refine Go.iloadN (hb hby D_method_3_code_20) (pc' := 21) rfl rfl ?_
  refine Go.iconst (hb hby D_method_3_code_21) (pc' := 22) rfl (z := (2 : Int32)) rfl ?_
  refine Go.icmpY (hb hby D_method_3_code_22) (by decide) (pc' := 44) (by decide) (show ¬ (3 : Int32) = (2 : Int32) from by decide) ?_
  refine Go.newO hown (wd_5 g) (wd_6 g) (wd_7 g) (hb hby D_method_3_code_44) (pc' := 47) rfl (by decide) (by decide) ?_
  intro h1 a2 g3 l4 E5 X6 D7 S8 C9 N10
  have KE5 := Keep.ofExt E5; have zE5 := E5.1
  have f11 : Fld Z h1 a2 "java/lang/String" "coder" "B" (.int 0) := D7 (Or.inr (wd_32 g)) (ty := .byte) (by decide)
  have f12 : Fld Z h1 a2 "java/lang/String" "value" "[B" .null := D7 (Or.inr (wd_34 g)) (ty := (.array .byte)) (by decide)
  refine Go.dup (hb hby D_method_3_code_47) (pc' := 48) rfl rfl ?_
  refine Go.iconst (hb hby D_method_3_code_48) (pc' := 49) rfl (z := (3 : Int32)) rfl ?_
  refine Go.newP (ty := .char) rfl (wd_8 g) (hb hby D_method_3_code_49) (pc' := 51) rfl (by decide) (cap := 3) (by decide) (by decide) (by decide) (by decide) ?_
  intro h13 a14 k15 g16 l17 E18 A19 S20 C21
  have KE18 := Keep.ofExt E18; have zE18 := E18.1
  have A19 : Ar Z h13 a14 k15 .char [(.int 0), (.int 0), (.int 0)] := A19
  refine Go.dup (hb hby D_method_3_code_51) (pc' := 52) rfl rfl ?_
  refine Go.iconst (hb hby D_method_3_code_52) (pc' := 53) rfl (z := (0 : Int32)) rfl ?_
  refine Go.iloadN (hb hby D_method_3_code_53) (pc' := 54) rfl rfl ?_
  refine Go.castore A19 (by decide) (Nat.lt_of_lt_of_eq (by decide : Int32.toNatClampNeg (0 : Int32) < 3) rfl) (by omega) (hb hby D_method_3_code_54) (pc' := 55) rfl ?_
  intro h22 A23 z24 K25 S26 C27
  rw [nch hu] at A23
  have A23 : Ar Z h22 a14 k15 .char [(.int u), (.int 0), (.int 0)] := A23
  refine Go.dup (hb hby D_method_3_code_55) (pc' := 56) rfl rfl ?_
  refine Go.iconst (hb hby D_method_3_code_56) (pc' := 57) rfl (z := (1 : Int32)) rfl ?_
  refine Go.iloadN (hb hby D_method_3_code_57) (pc' := 58) rfl rfl ?_
  refine Go.castore A23 (by decide) (Nat.lt_of_lt_of_eq (by decide : Int32.toNatClampNeg (1 : Int32) < 3) rfl) (by omega) (hb hby D_method_3_code_58) (pc' := 59) rfl ?_
  intro h28 A29 z30 K31 S32 C33
  rw [nch hv] at A29
  have A29 : Ar Z h28 a14 k15 .char [(.int u), (.int v), (.int 0)] := A29
  refine Go.dup (hb hby D_method_3_code_59) (pc' := 60) rfl rfl ?_
  refine Go.iconst (hb hby D_method_3_code_60) (pc' := 61) rfl (z := (2 : Int32)) rfl ?_
  refine Go.iloadN (hb hby D_method_3_code_61) (pc' := 62) rfl rfl ?_
  refine Go.castore A29 (by decide) (Nat.lt_of_lt_of_eq (by decide : Int32.toNatClampNeg (2 : Int32) < 3) rfl) (by omega) (hb hby D_method_3_code_62) (pc' := 63) rfl ?_
  intro h34 A35 z36 K37 S38 C39
  rw [nch hw] at A35
  have A35 : Ar Z h34 a14 k15 .char [(.int u), (.int v), (.int w)] := A35
  have f40 : Exa Z h34 a2 "java/lang/String" := ((((X6.keep KE18).keep K25).keep K31).keep K37)
  have f41 : Fld Z h34 a2 "java/lang/String" "coder" "B" (.int 0) := ((((f11.keep KE18 nin0).keep K25 (ninS (neN (by omega)) nin0)).keep K31 (ninS (neN (by omega)) nin0)).keep K37 (ninS (neN (by omega)) nin0))
  have f42 : Fld Z h34 a2 "java/lang/String" "value" "[B" .null := ((((f12.keep KE18 nin0).keep K25 (ninS (neN (by omega)) nin0)).keep K31 (ninS (neN (by omega)) nin0)).keep K37 (ninS (neN (by omega)) nin0))
  have f43 : Safe Z EL s.vm h34 a2 := (Safe.to C39 (by omega) (Safe.to C33 (by omega) (Safe.to C27 (by omega) (Safe.to C21 (by omega) S8))))
  refine Go.callC (c_strinit (l := l) (nw := nw) (fk := fk) g h34 a2 a14 k15 [u, v, w] (alS hu (alS hv (alS hw al0))) (by simp) (by simp) (by first | omega | assumption | decide) f40 f41 f42 A35 (by omega)) hown rfl rfl (wd_9 g) (wd_10 g) (wd_11 g) (wd_7 g) (by decide) (argsL := [(.ref a14)]) (lenOf pd_28 rfl) rfl (by rw [hml]; rfl) (W := 1) rfl (hb hby D_method_3_code_63) (pc' := 66) rfl (by decide) (by decide) (by decide) (by decide) (allS ⟨by omega, f43⟩ all0) ?_
  rintro _ vm44 h44 ⟨d_44, kd_44, rfl, K44, p44_0, o44_0⟩ C44
  have z44 := K44.1
  have yo44_0 := ltN o44_0.lt; have yo44_0' := ltN o44_0.ltb
  -- pc 66
  refine Go.retA hret rfl rfl (hb hby D_method_3_code_66) (by decide) (by decide) ?_
  intro vmR CR
  exact ⟨a2, d_44, kd_44, (by first | rfl | (simp only [own_nar]; done) | (congr 2; done)), (((((((Keep.refl h []).trans KE5 all0).trans KE18 all0).trans K25 (allS (by first | (left; simp; done) | (right; omega)) all0)).trans K31 (allS (by first | (left; simp; done) | (right; omega)) all0)).trans K37 (allS (by first | (left; simp; done) | (right; omega)) all0)).trans K44 (allS (by first | (left; simp; done) | (right; omega)) all0)), (by omega), (by omega), o44_0⟩
set_option maxRecDepth 65536 in
set_option maxHeartbeats 40000000 in
theorem c_law {l : Launch} {Z : State} {a0 : Array Value} {EL : List (String × Nat)} {nw fk : Prop} {zc : Int32} {sf : Value} (g : GH Z a0 EL zc sf) (hnw : ¬ nw) (ws : List Jvm.Cond) (h : Heap) (i0 : Int32) (i1 : Int32) (i2 : Int32) (i3 : Int32) (zz : Z.heap.size ≤ h.size) :
    Ct l Z EL nw fk ws x code maxLocals ret room_1 #[(.int i0), (.int i1), (.int i2), (.int i3)] h [] (fun res vm' h' => res = some (.int (1 : Int32)) ∧ Keep h h' []) := by
  refine Ct.of_go (a0 := a0) g.2.1 (plainFor_of_name pn_9) (L0 := #[.val (.int i0), .val (.int i1), .val (.int i2), .val (.int i3), .unset, .unset, .unset, .unset]) (fun m => by first | (simp [entryFrame, mkF, argsToLocals, Value.category, own_rep, maxLocals]; done) | rfl) ?_
  intro p e s m below meth c hown hby hml hret hnm hZ hC hO hsf
  refine Go.iconst (hb hby at_0) (pc' := 1) rfl (z := (1 : Int32)) rfl ?_
  refine Go.iloadN (hb hby at_1) (pc' := 2) rfl rfl ?_
  refine Go.ldcInt hown (wd_0 g) (hb hby at_2) (pc' := 4) rfl ?_
  refine Go.iand (hb hby at_4) (pc' := 5) rfl ?_
  refine Go.iconst (hb hby at_5) (pc' := 6) rfl (z := (3 : Int32)) rfl ?_
  refine Go.irem (hb hby at_6) (pc' := 7) rfl (by decide) ?_
  refine Go.iadd (hb hby at_7) (pc' := 8) rfl ?_
  rcases n123 i3 with hn | hn | hn
  · rw [hn]
    refine Go.istore (hb hby at_8) (pc' := 10) rfl (L' := #[.val (.int i0), .val (.int i1), .val (.int i2), .val (.int i3), .val (.int (1 : Int32)), .unset, .unset, .unset]) rfl ?_
    refine Go.iload (hb hby at_10) (pc' := 12) rfl rfl ?_
    refine Go.iloadN (hb hby at_12) (pc' := 13) rfl rfl ?_
    refine Go.sipush (hb hby at_13) (pc' := 16) rfl (z := (255 : Int32)) rfl ?_
    refine Go.iand (hb hby at_16) (pc' := 17) rfl ?_
    refine Go.i2c (hb hby at_17) (pc' := 18) rfl ?_
    rw [nch (m255 i0)]
    refine Go.iloadN (hb hby at_18) (pc' := 19) rfl rfl ?_
    refine Go.sipush (hb hby at_19) (pc' := 22) rfl (z := (255 : Int32)) rfl ?_
    refine Go.iand (hb hby at_22) (pc' := 23) rfl ?_
    refine Go.i2c (hb hby at_23) (pc' := 24) rfl ?_
    rw [nch (m255 i1)]
    refine Go.iloadN (hb hby at_24) (pc' := 25) rfl rfl ?_
    refine Go.sipush (hb hby at_25) (pc' := 28) rfl (z := (255 : Int32)) rfl ?_
    refine Go.iand (hb hby at_28) (pc' := 29) rfl ?_
    refine Go.i2c (hb hby at_29) (pc' := 30) rfl ?_
    rw [nch (m255 i2)]
    refine Go.callS (c_draw1 (l := l) (nw := nw) (fk := fk) g h (i0 &&& (255 : Int32)) (i1 &&& (255 : Int32)) (i2 &&& (255 : Int32)) (m255 i0) (m255 i1) (m255 i2) (by omega)) hown (wd_1 g) (wd_2 g) (wd_4 g) (wd_3 g) (by decide) (argsL := [(.int (1 : Int32)), (.int (i0 &&& (255 : Int32))), (.int (i1 &&& (255 : Int32))), (.int (i2 &&& (255 : Int32)))]) (lenOf pd_29 rfl) rfl (by rw [hml]; rfl) (W := 0) rfl (hb hby at_30) (pc' := 33) rfl (by decide) (by decide) (by decide) (by decide) all0 ?_
    rintro _ vm1 h1 ⟨r_1, d_1, kd_1, rfl, K1, p1_0, p1_1, o1_0⟩ C1
    have z1 := K1.1
    have yo1_0 := ltN o1_0.lt; have yo1_0' := ltN o1_0.ltb
    -- pc 33
    refine Go.astore (hb hby at_33) (pc' := 35) rfl rfl (L' := #[.val (.int i0), .val (.int i1), .val (.int i2), .val (.int i3), .val (.int (1 : Int32)), .val (.ref r_1), .unset, .unset]) rfl ?_
    refine Go.ldcStr (n0 := 4) (vs := ([(118 : Int32)] : List Int32).map Value.int) hnw hown (wd_35 g) g.2.2.1 (g.2.2.2.1 _ (by decide)) (by decide) (hb hby at_35) (pc' := 37) rfl (by decide) (by decide) (by decide) (by decide) ?_
    intro vm2 h3 a4 b5 k6 E7 C8 X9 F10 F11 A12 l13 l14 N15
    skip
    have KE7 := Keep.ofExt E7; have zE7 := E7.1
    have f16 : St Z h3 a4 b5 k6 [(118 : Int32)] := ⟨X9, F10, F11, A12, by decide⟩
    have f17 : St Z h3 a4 b5 k6 K14 := f16
    refine Go.callS (c_exact1 (l := l) (nw := nw) (fk := fk) g hnw h3 a4 b5 k6 K14 rfl fK14 f17 (by omega)) hown (wd_38 g) (wd_39 g) (wd_41 g) (wd_40 g) (by decide) (argsL := [(.ref a4)]) (lenOf pd_30 rfl) rfl (by rw [hml]; rfl) (W := 0) rfl (hb hby at_37) (pc' := 40) rfl (by decide) (by decide) (by decide) (by decide) all0 ?_
    rintro _ vm18 h18 ⟨r_18, d2_18, k2_18, rfl, K18, p18_0, p18_1, o18_0⟩ C18
    have z18 := K18.1
    have yo18_0 := ltN o18_0.lt; have yo18_0' := ltN o18_0.ltb
    -- pc 40
    refine Go.astore (hb hby at_40) (pc' := 42) rfl rfl (L' := #[.val (.int i0), .val (.int i1), .val (.int i2), .val (.int i3), .val (.int (1 : Int32)), .val (.ref r_1), .val (.ref r_18), .unset]) rfl ?_
    refine Go.aload (hb hby at_42) (pc' := 44) rfl rfl rfl ?_
    have f19 : St Z h18 r_1 d_1 kd_1 ([(i0 &&& (255 : Int32))].map by8) := ((o1_0.keep KE7 nin0 nin0).keep K18 nin0 nin0)
    refine Go.callS (c_exact1 (l := l) (nw := nw) (fk := fk) g hnw h18 r_1 d_1 kd_1 ([(i0 &&& (255 : Int32))].map by8) rfl (Byt.map8 _) f19 (by omega)) hown (wd_38 g) (wd_39 g) (wd_41 g) (wd_40 g) (by decide) (argsL := [(.ref r_1)]) (lenOf pd_30 rfl) rfl (by rw [hml]; rfl) (W := 0) rfl (hb hby at_44) (pc' := 47) rfl (by decide) (by decide) (by decide) (by decide) all0 ?_
    rintro _ vm20 h20 ⟨r_20, d2_20, k2_20, rfl, K20, p20_0, p20_1, o20_0⟩ C20
    have z20 := K20.1
    have yo20_0 := ltN o20_0.lt; have yo20_0' := ltN o20_0.ltb
    -- pc 47
    refine Go.astore (hb hby at_47) (pc' := 49) rfl rfl (L' := #[.val (.int i0), .val (.int i1), .val (.int i2), .val (.int i3), .val (.int (1 : Int32)), .val (.ref r_1), .val (.ref r_18), .val (.ref r_20)]) rfl ?_
    refine Go.aload (hb hby at_49) (pc' := 51) rfl rfl rfl ?_
    refine Go.ldcStr (n0 := 428) (vs := ([(83 : Int32), (85 : Int32), (77 : Int32), (40 : Int32), (40 : Int32), (118 : Int32), (41 : Int32), (32 : Int32), (47 : Int32), (32 : Int32), (49 : Int32), (48 : Int32), (48 : Int32), (48 : Int32), (48 : Int32), (48 : Int32), (48 : Int32), (48 : Int32), (48 : Int32), (48 : Int32), (48 : Int32), (48 : Int32), (48 : Int32), (48 : Int32), (48 : Int32), (48 : Int32), (41 : Int32), (44 : Int32), (32 : Int32), (83 : Int32), (85 : Int32), (77 : Int32), (40 : Int32), (40 : Int32), (118 : Int32), (41 : Int32), (32 : Int32), (47 : Int32), (32 : Int32), (49 : Int32), (48 : Int32), (48 : Int32), (48 : Int32), (48 : Int32), (48 : Int32), (48 : Int32), (48 : Int32), (48 : Int32), (48 : Int32), (48 : Int32), (32 : Int32), (37 : Int32), (32 : Int32), (49 : Int32), (48 : Int32), (48 : Int32), (48 : Int32), (48 : Int32), (48 : Int32), (41 : Int32), (44 : Int32), (32 : Int32), (83 : Int32), (85 : Int32), (77 : Int32), (40 : Int32), (40 : Int32), (118 : Int32), (41 : Int32), (32 : Int32), (47 : Int32), (32 : Int32), (49 : Int32), (48 : Int32), (48 : Int32), (48 : Int32), (48 : Int32), (48 : Int32), (32 : Int32), (37 : Int32), (32 : Int32), (49 : Int32), (48 : Int32), (48 : Int32), (48 : Int32), (48 : Int32), (48 : Int32), (41 : Int32), (44 : Int32), (32 : Int32), (83 : Int32), (85 : Int32), (77 : Int32), (40 : Int32), (40 : Int32), (118 : Int32), (41 : Int32), (32 : Int32), (37 : Int32), (32 : Int32), (49 : Int32), (48 : Int32), (48 : Int32), (48 : Int32), (48 : Int32), (48 : Int32), (41 : Int32)] : List Int32).map Value.int) hnw hown (wd_176 g) g.2.2.1 (g.2.2.2.1 _ (by decide)) (by decide) (hb hby at_51) (pc' := 53) rfl (by decide) (by decide) (by decide) (by decide) ?_
    intro vm21 h22 a23 b24 k25 E26 C27 X28 F29 F30 A31 l32 l33 N34
    skip
    have KE26 := Keep.ofExt E26; have zE26 := E26.1
    have f35 : St Z h22 a23 b24 k25 [(83 : Int32), (85 : Int32), (77 : Int32), (40 : Int32), (40 : Int32), (118 : Int32), (41 : Int32), (32 : Int32), (47 : Int32), (32 : Int32), (49 : Int32), (48 : Int32), (48 : Int32), (48 : Int32), (48 : Int32), (48 : Int32), (48 : Int32), (48 : Int32), (48 : Int32), (48 : Int32), (48 : Int32), (48 : Int32), (48 : Int32), (48 : Int32), (48 : Int32), (48 : Int32), (41 : Int32), (44 : Int32), (32 : Int32), (83 : Int32), (85 : Int32), (77 : Int32), (40 : Int32), (40 : Int32), (118 : Int32), (41 : Int32), (32 : Int32), (47 : Int32), (32 : Int32), (49 : Int32), (48 : Int32), (48 : Int32), (48 : Int32), (48 : Int32), (48 : Int32), (48 : Int32), (48 : Int32), (48 : Int32), (48 : Int32), (48 : Int32), (32 : Int32), (37 : Int32), (32 : Int32), (49 : Int32), (48 : Int32), (48 : Int32), (48 : Int32), (48 : Int32), (48 : Int32), (41 : Int32), (44 : Int32), (32 : Int32), (83 : Int32), (85 : Int32), (77 : Int32), (40 : Int32), (40 : Int32), (118 : Int32), (41 : Int32), (32 : Int32), (47 : Int32), (32 : Int32), (49 : Int32), (48 : Int32), (48 : Int32), (48 : Int32), (48 : Int32), (48 : Int32), (32 : Int32), (37 : Int32), (32 : Int32), (49 : Int32), (48 : Int32), (48 : Int32), (48 : Int32), (48 : Int32), (48 : Int32), (41 : Int32), (44 : Int32), (32 : Int32), (83 : Int32), (85 : Int32), (77 : Int32), (40 : Int32), (40 : Int32), (118 : Int32), (41 : Int32), (32 : Int32), (37 : Int32), (32 : Int32), (49 : Int32), (48 : Int32), (48 : Int32), (48 : Int32), (48 : Int32), (48 : Int32), (41 : Int32)] := ⟨X28, F29, F30, A31, by decide⟩
    have f36 : St Z h22 a23 b24 k25 K22 := f35
    have f37 : St Z h22 r_18 d2_18 k2_18 (sumS K14) := ((o18_0.keep K20 nin0 nin0).keep KE26 nin0 nin0)
    have f38 : Exa Z h22 r_18 "java/lang/String" := ((o18_0.1.keep K20).keep KE26)
    refine Go.callV (y0 := ⟨"java/lang/String", "equals", "(Ljava/lang/Object;)Z"⟩) (c_eq (l := l) (nw := nw) (fk := fk) g h22 r_18 d2_18 k2_18 (sumS K14) a23 b24 k25 K22 f37 f36 (by omega)) hown (wd_177 g) (wd_178 g) (notFace_of_selects (wd_180 g)) (wd_180 g) (wd_179 g) f38 (wd_181 g) (wd_7 g) (by decide) (argsL := [(.ref a23)]) (lenOf pd_31 rfl) rfl (by rw [hml]; rfl) (W := 0) rfl (hb hby at_53) (pc' := 56) rfl (by decide) (by decide) (by decide) (by decide) all0 ?_
    rintro _ vm39 h39 ⟨rfl, K39⟩ C39
    have z39 := K39.1
    -- pc 56
    refine Go.ifY (hb hby at_56) (by decide) (pc' := 61) (by decide) (bo_ne0.mpr (by decide +kernel)) ?_
    refine Go.aload (hb hby at_61) (pc' := 63) rfl rfl rfl ?_
    have f40 : St Z h39 r_20 d2_20 k2_20 (sumS ([(i0 &&& (255 : Int32))].map by8)) := ((o20_0.keep KE26 nin0 nin0).keep K39 nin0 nin0)
    have f41 : Exa Z h39 r_20 "java/lang/String" := ((o20_0.1.keep KE26).keep K39)
    refine Go.callV (y0 := ⟨"java/lang/String", "length", "()I"⟩) (c_length (l := l) (nw := nw) (fk := fk) g h39 r_20 d2_20 k2_20 (sumS ([(i0 &&& (255 : Int32))].map by8)) (107 : Nat) rfl f40 (by omega)) hown (wd_187 g) (wd_72 g) (notFace_of_selects (wd_74 g)) (wd_74 g) (wd_73 g) f41 (wd_75 g) (wd_7 g) (by decide) (argsL := []) (lenOf pd_12 rfl) rfl (by rw [hml]; rfl) (W := 0) rfl (hb hby at_63) (pc' := 66) rfl (by decide) (by decide) (by decide) (by decide) all0 ?_
    rintro _ vm42 h42 ⟨rfl, K42⟩ C42
    have z42 := K42.1
    -- pc 66
    refine Go.iconst (hb hby at_66) (pc' := 67) rfl (z := (4 : Int32)) rfl ?_
    refine Go.iload (hb hby at_67) (pc' := 69) rfl rfl ?_
    refine Go.imul (hb hby at_69) (pc' := 70) rfl ?_
    refine Go.bipush (hb hby at_70) (pc' := 72) rfl (z := (103 : Int32)) rfl ?_
    refine Go.iadd (hb hby at_72) (pc' := 73) rfl ?_
    refine Go.icmpY (hb hby at_73) (by decide) (pc' := 78) (by decide) (show ((107 : Nat).toInt32) = (107 : Int32) from rfl) ?_
    refine Go.aload (hb hby at_78) (pc' := 80) rfl rfl rfl ?_
    refine Go.iconst (hb hby at_80) (pc' := 81) rfl (z := (4 : Int32)) rfl ?_
    refine Go.aload (hb hby at_81) (pc' := 83) rfl rfl rfl ?_
    refine Go.iload (hb hby at_83) (pc' := 85) rfl rfl ?_
    have f43 : St Z h42 r_20 d2_20 k2_20 (sumS ([(i0 &&& (255 : Int32))].map by8)) := (f40.keep K42 nin0 nin0)
    have f44 : St Z h42 r_1 d_1 kd_1 ([(i0 &&& (255 : Int32))].map by8) := ((((f19.keep K20 nin0 nin0).keep KE26 nin0 nin0).keep K39 nin0 nin0).keep K42 nin0 nin0)
    refine Go.callS (c_copyAt1 (l := l) (nw := nw) (fk := fk) g h42 r_20 d2_20 k2_20 (sumS ([(i0 &&& (255 : Int32))].map by8)) (4 : Nat) r_1 d_1 kd_1 ([(i0 &&& (255 : Int32))].map by8) (Nat.lt_of_lt_of_eq (by decide : (4 : Nat) + 1 + 1 < (107 : Nat)) (show (107 : Nat) = _ from rfl)) rfl rfl rfl rfl f43 f44 (by omega)) hown (wd_188 g) (wd_189 g) (wd_190 g) (wd_3 g) (by decide) (argsL := [(.ref r_20), (.int (4 : Nat).toInt32), (.ref r_1), (.int (1 : Int32))]) (lenOf pd_32 rfl) rfl (by rw [hml]; rfl) (W := 0) rfl (hb hby at_85) (pc' := 88) rfl (by decide) (by decide) (by decide) (by decide) all0 ?_
    rintro _ vm45 h45 ⟨rfl, K45⟩ C45
    have z45 := K45.1
    -- pc 88
    refine Go.ifN (hb hby at_88) (pc' := 91) rfl (show ¬ ((1 : Int32) = (0 : Int32)) from by decide) ?_
    refine Go.aload (hb hby at_91) (pc' := 93) rfl rfl rfl ?_
    refine Go.iload (hb hby at_93) (pc' := 95) rfl rfl ?_
    refine Go.bipush (hb hby at_95) (pc' := 97) rfl (z := (32 : Int32)) rfl ?_
    refine Go.iadd (hb hby at_97) (pc' := 98) rfl ?_
    refine Go.aload (hb hby at_98) (pc' := 100) rfl rfl rfl ?_
    refine Go.iload (hb hby at_100) (pc' := 102) rfl rfl ?_
    have f46 : St Z h45 r_20 d2_20 k2_20 (sumS ([(i0 &&& (255 : Int32))].map by8)) := (f43.keep K45 nin0 nin0)
    have f47 : St Z h45 r_1 d_1 kd_1 ([(i0 &&& (255 : Int32))].map by8) := (f44.keep K45 nin0 nin0)
    refine Go.callS (c_copyAt1 (l := l) (nw := nw) (fk := fk) g h45 r_20 d2_20 k2_20 (sumS ([(i0 &&& (255 : Int32))].map by8)) (33 : Nat) r_1 d_1 kd_1 ([(i0 &&& (255 : Int32))].map by8) (Nat.lt_of_lt_of_eq (by decide : (33 : Nat) + 1 + 1 < (107 : Nat)) (show (107 : Nat) = _ from rfl)) rfl rfl rfl rfl f46 f47 (by omega)) hown (wd_188 g) (wd_189 g) (wd_190 g) (wd_3 g) (by decide) (argsL := [(.ref r_20), (.int (33 : Nat).toInt32), (.ref r_1), (.int (1 : Int32))]) (lenOf pd_32 rfl) rfl (by rw [hml]; rfl) (W := 0) rfl (hb hby at_102) (pc' := 105) rfl (by decide) (by decide) (by decide) (by decide) all0 ?_
    rintro _ vm48 h48 ⟨rfl, K48⟩ C48
    have z48 := K48.1
    -- pc 105
    refine Go.ifN (hb hby at_105) (pc' := 108) rfl (show ¬ ((1 : Int32) = (0 : Int32)) from by decide) ?_
    refine Go.aload (hb hby at_108) (pc' := 110) rfl rfl rfl ?_
    refine Go.iconst (hb hby at_110) (pc' := 111) rfl (z := (2 : Int32)) rfl ?_
    refine Go.iload (hb hby at_111) (pc' := 113) rfl rfl ?_
    refine Go.imul (hb hby at_113) (pc' := 114) rfl ?_
    refine Go.bipush (hb hby at_114) (pc' := 116) rfl (z := (64 : Int32)) rfl ?_
    refine Go.iadd (hb hby at_116) (pc' := 117) rfl ?_
    refine Go.aload (hb hby at_117) (pc' := 119) rfl rfl rfl ?_
    refine Go.iload (hb hby at_119) (pc' := 121) rfl rfl ?_
    have f49 : St Z h48 r_20 d2_20 k2_20 (sumS ([(i0 &&& (255 : Int32))].map by8)) := (f46.keep K48 nin0 nin0)
    have f50 : St Z h48 r_1 d_1 kd_1 ([(i0 &&& (255 : Int32))].map by8) := (f47.keep K48 nin0 nin0)
    refine Go.callS (c_copyAt1 (l := l) (nw := nw) (fk := fk) g h48 r_20 d2_20 k2_20 (sumS ([(i0 &&& (255 : Int32))].map by8)) (66 : Nat) r_1 d_1 kd_1 ([(i0 &&& (255 : Int32))].map by8) (Nat.lt_of_lt_of_eq (by decide : (66 : Nat) + 1 + 1 < (107 : Nat)) (show (107 : Nat) = _ from rfl)) rfl rfl rfl rfl f49 f50 (by omega)) hown (wd_188 g) (wd_189 g) (wd_190 g) (wd_3 g) (by decide) (argsL := [(.ref r_20), (.int (66 : Nat).toInt32), (.ref r_1), (.int (1 : Int32))]) (lenOf pd_32 rfl) rfl (by rw [hml]; rfl) (W := 0) rfl (hb hby at_121) (pc' := 124) rfl (by decide) (by decide) (by decide) (by decide) all0 ?_
    rintro _ vm51 h51 ⟨rfl, K51⟩ C51
    have z51 := K51.1
    -- pc 124
    refine Go.ifN (hb hby at_124) (pc' := 127) rfl (show ¬ ((1 : Int32) = (0 : Int32)) from by decide) ?_
    refine Go.aload (hb hby at_127) (pc' := 129) rfl rfl rfl ?_
    refine Go.iconst (hb hby at_129) (pc' := 130) rfl (z := (3 : Int32)) rfl ?_
    refine Go.iload (hb hby at_130) (pc' := 132) rfl rfl ?_
    refine Go.imul (hb hby at_132) (pc' := 133) rfl ?_
    refine Go.bipush (hb hby at_133) (pc' := 135) rfl (z := (91 : Int32)) rfl ?_
    refine Go.iadd (hb hby at_135) (pc' := 136) rfl ?_
    refine Go.aload (hb hby at_136) (pc' := 138) rfl rfl rfl ?_
    refine Go.iload (hb hby at_138) (pc' := 140) rfl rfl ?_
    have f52 : St Z h51 r_20 d2_20 k2_20 (sumS ([(i0 &&& (255 : Int32))].map by8)) := (f49.keep K51 nin0 nin0)
    have f53 : St Z h51 r_1 d_1 kd_1 ([(i0 &&& (255 : Int32))].map by8) := (f50.keep K51 nin0 nin0)
    refine Go.callS (c_copyAt1 (l := l) (nw := nw) (fk := fk) g h51 r_20 d2_20 k2_20 (sumS ([(i0 &&& (255 : Int32))].map by8)) (94 : Nat) r_1 d_1 kd_1 ([(i0 &&& (255 : Int32))].map by8) (Nat.lt_of_lt_of_eq (by decide : (94 : Nat) + 1 + 1 < (107 : Nat)) (show (107 : Nat) = _ from rfl)) rfl rfl rfl rfl f52 f53 (by omega)) hown (wd_188 g) (wd_189 g) (wd_190 g) (wd_3 g) (by decide) (argsL := [(.ref r_20), (.int (94 : Nat).toInt32), (.ref r_1), (.int (1 : Int32))]) (lenOf pd_32 rfl) rfl (by rw [hml]; rfl) (W := 0) rfl (hb hby at_140) (pc' := 143) rfl (by decide) (by decide) (by decide) (by decide) all0 ?_
    rintro _ vm54 h54 ⟨rfl, K54⟩ C54
    have z54 := K54.1
    -- pc 143
    refine Go.ifN (hb hby at_143) (pc' := 146) rfl (show ¬ ((1 : Int32) = (0 : Int32)) from by decide) ?_
    refine Go.iconst (hb hby at_146) (pc' := 147) rfl (z := (1 : Int32)) rfl ?_
    refine Go.goto (hb hby at_147) (by decide) (pc' := 151) (by decide) ?_
    refine Go.retN (t := .boolean) hret (by simp) (hb hby at_151) (by decide) (by decide) ?_
    intro vmR CR
    exact ⟨(by first | rfl | (simp only [own_nar]; done) | (congr 2; done)), ((((((((((((Keep.refl h []).trans K1 all0).trans KE7 all0).trans K18 all0).trans K20 all0).trans KE26 all0).trans K39 all0).trans K42 all0).trans K45 all0).trans K48 all0).trans K51 all0).trans K54 all0)⟩
  · rw [hn]
    refine Go.istore (hb hby at_8) (pc' := 10) rfl (L' := #[.val (.int i0), .val (.int i1), .val (.int i2), .val (.int i3), .val (.int (2 : Int32)), .unset, .unset, .unset]) rfl ?_
    refine Go.iload (hb hby at_10) (pc' := 12) rfl rfl ?_
    refine Go.iloadN (hb hby at_12) (pc' := 13) rfl rfl ?_
    refine Go.sipush (hb hby at_13) (pc' := 16) rfl (z := (255 : Int32)) rfl ?_
    refine Go.iand (hb hby at_16) (pc' := 17) rfl ?_
    refine Go.i2c (hb hby at_17) (pc' := 18) rfl ?_
    rw [nch (m255 i0)]
    refine Go.iloadN (hb hby at_18) (pc' := 19) rfl rfl ?_
    refine Go.sipush (hb hby at_19) (pc' := 22) rfl (z := (255 : Int32)) rfl ?_
    refine Go.iand (hb hby at_22) (pc' := 23) rfl ?_
    refine Go.i2c (hb hby at_23) (pc' := 24) rfl ?_
    rw [nch (m255 i1)]
    refine Go.iloadN (hb hby at_24) (pc' := 25) rfl rfl ?_
    refine Go.sipush (hb hby at_25) (pc' := 28) rfl (z := (255 : Int32)) rfl ?_
    refine Go.iand (hb hby at_28) (pc' := 29) rfl ?_
    refine Go.i2c (hb hby at_29) (pc' := 30) rfl ?_
    rw [nch (m255 i2)]
    refine Go.callS (c_draw2 (l := l) (nw := nw) (fk := fk) g h (i0 &&& (255 : Int32)) (i1 &&& (255 : Int32)) (i2 &&& (255 : Int32)) (m255 i0) (m255 i1) (m255 i2) (by omega)) hown (wd_1 g) (wd_2 g) (wd_4 g) (wd_3 g) (by decide) (argsL := [(.int (2 : Int32)), (.int (i0 &&& (255 : Int32))), (.int (i1 &&& (255 : Int32))), (.int (i2 &&& (255 : Int32)))]) (lenOf pd_29 rfl) rfl (by rw [hml]; rfl) (W := 0) rfl (hb hby at_30) (pc' := 33) rfl (by decide) (by decide) (by decide) (by decide) all0 ?_
    rintro _ vm55 h55 ⟨r_55, d_55, kd_55, rfl, K55, p55_0, p55_1, o55_0⟩ C55
    have z55 := K55.1
    have yo55_0 := ltN o55_0.lt; have yo55_0' := ltN o55_0.ltb
    -- pc 33
    refine Go.astore (hb hby at_33) (pc' := 35) rfl rfl (L' := #[.val (.int i0), .val (.int i1), .val (.int i2), .val (.int i3), .val (.int (2 : Int32)), .val (.ref r_55), .unset, .unset]) rfl ?_
    refine Go.ldcStr (n0 := 4) (vs := ([(118 : Int32)] : List Int32).map Value.int) hnw hown (wd_35 g) g.2.2.1 (g.2.2.2.1 _ (by decide)) (by decide) (hb hby at_35) (pc' := 37) rfl (by decide) (by decide) (by decide) (by decide) ?_
    intro vm56 h57 a58 b59 k60 E61 C62 X63 F64 F65 A66 l67 l68 N69
    skip
    have KE61 := Keep.ofExt E61; have zE61 := E61.1
    have f70 : St Z h57 a58 b59 k60 [(118 : Int32)] := ⟨X63, F64, F65, A66, by decide⟩
    have f71 : St Z h57 a58 b59 k60 K14 := f70
    refine Go.callS (c_exact1 (l := l) (nw := nw) (fk := fk) g hnw h57 a58 b59 k60 K14 rfl fK14 f71 (by omega)) hown (wd_38 g) (wd_39 g) (wd_41 g) (wd_40 g) (by decide) (argsL := [(.ref a58)]) (lenOf pd_30 rfl) rfl (by rw [hml]; rfl) (W := 0) rfl (hb hby at_37) (pc' := 40) rfl (by decide) (by decide) (by decide) (by decide) all0 ?_
    rintro _ vm72 h72 ⟨r_72, d2_72, k2_72, rfl, K72, p72_0, p72_1, o72_0⟩ C72
    have z72 := K72.1
    have yo72_0 := ltN o72_0.lt; have yo72_0' := ltN o72_0.ltb
    -- pc 40
    refine Go.astore (hb hby at_40) (pc' := 42) rfl rfl (L' := #[.val (.int i0), .val (.int i1), .val (.int i2), .val (.int i3), .val (.int (2 : Int32)), .val (.ref r_55), .val (.ref r_72), .unset]) rfl ?_
    refine Go.aload (hb hby at_42) (pc' := 44) rfl rfl rfl ?_
    have f73 : St Z h72 r_55 d_55 kd_55 ([(i0 &&& (255 : Int32)), (i1 &&& (255 : Int32))].map by8) := ((o55_0.keep KE61 nin0 nin0).keep K72 nin0 nin0)
    refine Go.callS (c_exact2 (l := l) (nw := nw) (fk := fk) g hnw h72 r_55 d_55 kd_55 ([(i0 &&& (255 : Int32)), (i1 &&& (255 : Int32))].map by8) rfl (Byt.map8 _) f73 (by omega)) hown (wd_38 g) (wd_39 g) (wd_41 g) (wd_40 g) (by decide) (argsL := [(.ref r_55)]) (lenOf pd_30 rfl) rfl (by rw [hml]; rfl) (W := 0) rfl (hb hby at_44) (pc' := 47) rfl (by decide) (by decide) (by decide) (by decide) all0 ?_
    rintro _ vm74 h74 ⟨r_74, d2_74, k2_74, rfl, K74, p74_0, p74_1, o74_0⟩ C74
    have z74 := K74.1
    have yo74_0 := ltN o74_0.lt; have yo74_0' := ltN o74_0.ltb
    -- pc 47
    refine Go.astore (hb hby at_47) (pc' := 49) rfl rfl (L' := #[.val (.int i0), .val (.int i1), .val (.int i2), .val (.int i3), .val (.int (2 : Int32)), .val (.ref r_55), .val (.ref r_72), .val (.ref r_74)]) rfl ?_
    refine Go.aload (hb hby at_49) (pc' := 51) rfl rfl rfl ?_
    refine Go.ldcStr (n0 := 428) (vs := ([(83 : Int32), (85 : Int32), (77 : Int32), (40 : Int32), (40 : Int32), (118 : Int32), (41 : Int32), (32 : Int32), (47 : Int32), (32 : Int32), (49 : Int32), (48 : Int32), (48 : Int32), (48 : Int32), (48 : Int32), (48 : Int32), (48 : Int32), (48 : Int32), (48 : Int32), (48 : Int32), (48 : Int32), (48 : Int32), (48 : Int32), (48 : Int32), (48 : Int32), (48 : Int32), (41 : Int32), (44 : Int32), (32 : Int32), (83 : Int32), (85 : Int32), (77 : Int32), (40 : Int32), (40 : Int32), (118 : Int32), (41 : Int32), (32 : Int32), (47 : Int32), (32 : Int32), (49 : Int32), (48 : Int32), (48 : Int32), (48 : Int32), (48 : Int32), (48 : Int32), (48 : Int32), (48 : Int32), (48 : Int32), (48 : Int32), (48 : Int32), (32 : Int32), (37 : Int32), (32 : Int32), (49 : Int32), (48 : Int32), (48 : Int32), (48 : Int32), (48 : Int32), (48 : Int32), (41 : Int32), (44 : Int32), (32 : Int32), (83 : Int32), (85 : Int32), (77 : Int32), (40 : Int32), (40 : Int32), (118 : Int32), (41 : Int32), (32 : Int32), (47 : Int32), (32 : Int32), (49 : Int32), (48 : Int32), (48 : Int32), (48 : Int32), (48 : Int32), (48 : Int32), (32 : Int32), (37 : Int32), (32 : Int32), (49 : Int32), (48 : Int32), (48 : Int32), (48 : Int32), (48 : Int32), (48 : Int32), (41 : Int32), (44 : Int32), (32 : Int32), (83 : Int32), (85 : Int32), (77 : Int32), (40 : Int32), (40 : Int32), (118 : Int32), (41 : Int32), (32 : Int32), (37 : Int32), (32 : Int32), (49 : Int32), (48 : Int32), (48 : Int32), (48 : Int32), (48 : Int32), (48 : Int32), (41 : Int32)] : List Int32).map Value.int) hnw hown (wd_176 g) g.2.2.1 (g.2.2.2.1 _ (by decide)) (by decide) (hb hby at_51) (pc' := 53) rfl (by decide) (by decide) (by decide) (by decide) ?_
    intro vm75 h76 a77 b78 k79 E80 C81 X82 F83 F84 A85 l86 l87 N88
    skip
    have KE80 := Keep.ofExt E80; have zE80 := E80.1
    have f89 : St Z h76 a77 b78 k79 [(83 : Int32), (85 : Int32), (77 : Int32), (40 : Int32), (40 : Int32), (118 : Int32), (41 : Int32), (32 : Int32), (47 : Int32), (32 : Int32), (49 : Int32), (48 : Int32), (48 : Int32), (48 : Int32), (48 : Int32), (48 : Int32), (48 : Int32), (48 : Int32), (48 : Int32), (48 : Int32), (48 : Int32), (48 : Int32), (48 : Int32), (48 : Int32), (48 : Int32), (48 : Int32), (41 : Int32), (44 : Int32), (32 : Int32), (83 : Int32), (85 : Int32), (77 : Int32), (40 : Int32), (40 : Int32), (118 : Int32), (41 : Int32), (32 : Int32), (47 : Int32), (32 : Int32), (49 : Int32), (48 : Int32), (48 : Int32), (48 : Int32), (48 : Int32), (48 : Int32), (48 : Int32), (48 : Int32), (48 : Int32), (48 : Int32), (48 : Int32), (32 : Int32), (37 : Int32), (32 : Int32), (49 : Int32), (48 : Int32), (48 : Int32), (48 : Int32), (48 : Int32), (48 : Int32), (41 : Int32), (44 : Int32), (32 : Int32), (83 : Int32), (85 : Int32), (77 : Int32), (40 : Int32), (40 : Int32), (118 : Int32), (41 : Int32), (32 : Int32), (47 : Int32), (32 : Int32), (49 : Int32), (48 : Int32), (48 : Int32), (48 : Int32), (48 : Int32), (48 : Int32), (32 : Int32), (37 : Int32), (32 : Int32), (49 : Int32), (48 : Int32), (48 : Int32), (48 : Int32), (48 : Int32), (48 : Int32), (41 : Int32), (44 : Int32), (32 : Int32), (83 : Int32), (85 : Int32), (77 : Int32), (40 : Int32), (40 : Int32), (118 : Int32), (41 : Int32), (32 : Int32), (37 : Int32), (32 : Int32), (49 : Int32), (48 : Int32), (48 : Int32), (48 : Int32), (48 : Int32), (48 : Int32), (41 : Int32)] := ⟨X82, F83, F84, A85, by decide⟩
    have f90 : St Z h76 a77 b78 k79 K22 := f89
    have f91 : St Z h76 r_72 d2_72 k2_72 (sumS K14) := ((o72_0.keep K74 nin0 nin0).keep KE80 nin0 nin0)
    have f92 : Exa Z h76 r_72 "java/lang/String" := ((o72_0.1.keep K74).keep KE80)
    refine Go.callV (y0 := ⟨"java/lang/String", "equals", "(Ljava/lang/Object;)Z"⟩) (c_eq (l := l) (nw := nw) (fk := fk) g h76 r_72 d2_72 k2_72 (sumS K14) a77 b78 k79 K22 f91 f90 (by omega)) hown (wd_177 g) (wd_178 g) (notFace_of_selects (wd_180 g)) (wd_180 g) (wd_179 g) f92 (wd_181 g) (wd_7 g) (by decide) (argsL := [(.ref a77)]) (lenOf pd_31 rfl) rfl (by rw [hml]; rfl) (W := 0) rfl (hb hby at_53) (pc' := 56) rfl (by decide) (by decide) (by decide) (by decide) all0 ?_
    rintro _ vm93 h93 ⟨rfl, K93⟩ C93
    have z93 := K93.1
    -- pc 56
    refine Go.ifY (hb hby at_56) (by decide) (pc' := 61) (by decide) (bo_ne0.mpr (by decide +kernel)) ?_
    refine Go.aload (hb hby at_61) (pc' := 63) rfl rfl rfl ?_
    have f94 : St Z h93 r_74 d2_74 k2_74 (sumS ([(i0 &&& (255 : Int32)), (i1 &&& (255 : Int32))].map by8)) := ((o74_0.keep KE80 nin0 nin0).keep K93 nin0 nin0)
    have f95 : Exa Z h93 r_74 "java/lang/String" := ((o74_0.1.keep KE80).keep K93)
    refine Go.callV (y0 := ⟨"java/lang/String", "length", "()I"⟩) (c_length (l := l) (nw := nw) (fk := fk) g h93 r_74 d2_74 k2_74 (sumS ([(i0 &&& (255 : Int32)), (i1 &&& (255 : Int32))].map by8)) (111 : Nat) rfl f94 (by omega)) hown (wd_187 g) (wd_72 g) (notFace_of_selects (wd_74 g)) (wd_74 g) (wd_73 g) f95 (wd_75 g) (wd_7 g) (by decide) (argsL := []) (lenOf pd_12 rfl) rfl (by rw [hml]; rfl) (W := 0) rfl (hb hby at_63) (pc' := 66) rfl (by decide) (by decide) (by decide) (by decide) all0 ?_
    rintro _ vm96 h96 ⟨rfl, K96⟩ C96
    have z96 := K96.1
    -- pc 66
    refine Go.iconst (hb hby at_66) (pc' := 67) rfl (z := (4 : Int32)) rfl ?_
    refine Go.iload (hb hby at_67) (pc' := 69) rfl rfl ?_
    refine Go.imul (hb hby at_69) (pc' := 70) rfl ?_
    refine Go.bipush (hb hby at_70) (pc' := 72) rfl (z := (103 : Int32)) rfl ?_
    refine Go.iadd (hb hby at_72) (pc' := 73) rfl ?_
    refine Go.icmpY (hb hby at_73) (by decide) (pc' := 78) (by decide) (show ((111 : Nat).toInt32) = (111 : Int32) from rfl) ?_
    refine Go.aload (hb hby at_78) (pc' := 80) rfl rfl rfl ?_
    refine Go.iconst (hb hby at_80) (pc' := 81) rfl (z := (4 : Int32)) rfl ?_
    refine Go.aload (hb hby at_81) (pc' := 83) rfl rfl rfl ?_
    refine Go.iload (hb hby at_83) (pc' := 85) rfl rfl ?_
    have f97 : St Z h96 r_74 d2_74 k2_74 (sumS ([(i0 &&& (255 : Int32)), (i1 &&& (255 : Int32))].map by8)) := (f94.keep K96 nin0 nin0)
    have f98 : St Z h96 r_55 d_55 kd_55 ([(i0 &&& (255 : Int32)), (i1 &&& (255 : Int32))].map by8) := ((((f73.keep K74 nin0 nin0).keep KE80 nin0 nin0).keep K93 nin0 nin0).keep K96 nin0 nin0)
    refine Go.callS (c_copyAt2 (l := l) (nw := nw) (fk := fk) g h96 r_74 d2_74 k2_74 (sumS ([(i0 &&& (255 : Int32)), (i1 &&& (255 : Int32))].map by8)) (4 : Nat) r_55 d_55 kd_55 ([(i0 &&& (255 : Int32)), (i1 &&& (255 : Int32))].map by8) (Nat.lt_of_lt_of_eq (by decide : (4 : Nat) + 2 + 1 < (111 : Nat)) (show (111 : Nat) = _ from rfl)) rfl rfl rfl rfl rfl f97 f98 (by omega)) hown (wd_188 g) (wd_189 g) (wd_190 g) (wd_3 g) (by decide) (argsL := [(.ref r_74), (.int (4 : Nat).toInt32), (.ref r_55), (.int (2 : Int32))]) (lenOf pd_32 rfl) rfl (by rw [hml]; rfl) (W := 0) rfl (hb hby at_85) (pc' := 88) rfl (by decide) (by decide) (by decide) (by decide) all0 ?_
    rintro _ vm99 h99 ⟨rfl, K99⟩ C99
    have z99 := K99.1
    -- pc 88
    refine Go.ifN (hb hby at_88) (pc' := 91) rfl (show ¬ ((1 : Int32) = (0 : Int32)) from by decide) ?_
    refine Go.aload (hb hby at_91) (pc' := 93) rfl rfl rfl ?_
    refine Go.iload (hb hby at_93) (pc' := 95) rfl rfl ?_
    refine Go.bipush (hb hby at_95) (pc' := 97) rfl (z := (32 : Int32)) rfl ?_
    refine Go.iadd (hb hby at_97) (pc' := 98) rfl ?_
    refine Go.aload (hb hby at_98) (pc' := 100) rfl rfl rfl ?_
    refine Go.iload (hb hby at_100) (pc' := 102) rfl rfl ?_
    have f100 : St Z h99 r_74 d2_74 k2_74 (sumS ([(i0 &&& (255 : Int32)), (i1 &&& (255 : Int32))].map by8)) := (f97.keep K99 nin0 nin0)
    have f101 : St Z h99 r_55 d_55 kd_55 ([(i0 &&& (255 : Int32)), (i1 &&& (255 : Int32))].map by8) := (f98.keep K99 nin0 nin0)
    refine Go.callS (c_copyAt2 (l := l) (nw := nw) (fk := fk) g h99 r_74 d2_74 k2_74 (sumS ([(i0 &&& (255 : Int32)), (i1 &&& (255 : Int32))].map by8)) (34 : Nat) r_55 d_55 kd_55 ([(i0 &&& (255 : Int32)), (i1 &&& (255 : Int32))].map by8) (Nat.lt_of_lt_of_eq (by decide : (34 : Nat) + 2 + 1 < (111 : Nat)) (show (111 : Nat) = _ from rfl)) rfl rfl rfl rfl rfl f100 f101 (by omega)) hown (wd_188 g) (wd_189 g) (wd_190 g) (wd_3 g) (by decide) (argsL := [(.ref r_74), (.int (34 : Nat).toInt32), (.ref r_55), (.int (2 : Int32))]) (lenOf pd_32 rfl) rfl (by rw [hml]; rfl) (W := 0) rfl (hb hby at_102) (pc' := 105) rfl (by decide) (by decide) (by decide) (by decide) all0 ?_
    rintro _ vm102 h102 ⟨rfl, K102⟩ C102
    have z102 := K102.1
    -- pc 105
    refine Go.ifN (hb hby at_105) (pc' := 108) rfl (show ¬ ((1 : Int32) = (0 : Int32)) from by decide) ?_
    refine Go.aload (hb hby at_108) (pc' := 110) rfl rfl rfl ?_
    refine Go.iconst (hb hby at_110) (pc' := 111) rfl (z := (2 : Int32)) rfl ?_
    refine Go.iload (hb hby at_111) (pc' := 113) rfl rfl ?_
    refine Go.imul (hb hby at_113) (pc' := 114) rfl ?_
    refine Go.bipush (hb hby at_114) (pc' := 116) rfl (z := (64 : Int32)) rfl ?_
    refine Go.iadd (hb hby at_116) (pc' := 117) rfl ?_
    refine Go.aload (hb hby at_117) (pc' := 119) rfl rfl rfl ?_
    refine Go.iload (hb hby at_119) (pc' := 121) rfl rfl ?_
    have f103 : St Z h102 r_74 d2_74 k2_74 (sumS ([(i0 &&& (255 : Int32)), (i1 &&& (255 : Int32))].map by8)) := (f100.keep K102 nin0 nin0)
    have f104 : St Z h102 r_55 d_55 kd_55 ([(i0 &&& (255 : Int32)), (i1 &&& (255 : Int32))].map by8) := (f101.keep K102 nin0 nin0)
    refine Go.callS (c_copyAt2 (l := l) (nw := nw) (fk := fk) g h102 r_74 d2_74 k2_74 (sumS ([(i0 &&& (255 : Int32)), (i1 &&& (255 : Int32))].map by8)) (68 : Nat) r_55 d_55 kd_55 ([(i0 &&& (255 : Int32)), (i1 &&& (255 : Int32))].map by8) (Nat.lt_of_lt_of_eq (by decide : (68 : Nat) + 2 + 1 < (111 : Nat)) (show (111 : Nat) = _ from rfl)) rfl rfl rfl rfl rfl f103 f104 (by omega)) hown (wd_188 g) (wd_189 g) (wd_190 g) (wd_3 g) (by decide) (argsL := [(.ref r_74), (.int (68 : Nat).toInt32), (.ref r_55), (.int (2 : Int32))]) (lenOf pd_32 rfl) rfl (by rw [hml]; rfl) (W := 0) rfl (hb hby at_121) (pc' := 124) rfl (by decide) (by decide) (by decide) (by decide) all0 ?_
    rintro _ vm105 h105 ⟨rfl, K105⟩ C105
    have z105 := K105.1
    -- pc 124
    refine Go.ifN (hb hby at_124) (pc' := 127) rfl (show ¬ ((1 : Int32) = (0 : Int32)) from by decide) ?_
    refine Go.aload (hb hby at_127) (pc' := 129) rfl rfl rfl ?_
    refine Go.iconst (hb hby at_129) (pc' := 130) rfl (z := (3 : Int32)) rfl ?_
    refine Go.iload (hb hby at_130) (pc' := 132) rfl rfl ?_
    refine Go.imul (hb hby at_132) (pc' := 133) rfl ?_
    refine Go.bipush (hb hby at_133) (pc' := 135) rfl (z := (91 : Int32)) rfl ?_
    refine Go.iadd (hb hby at_135) (pc' := 136) rfl ?_
    refine Go.aload (hb hby at_136) (pc' := 138) rfl rfl rfl ?_
    refine Go.iload (hb hby at_138) (pc' := 140) rfl rfl ?_
    have f106 : St Z h105 r_74 d2_74 k2_74 (sumS ([(i0 &&& (255 : Int32)), (i1 &&& (255 : Int32))].map by8)) := (f103.keep K105 nin0 nin0)
    have f107 : St Z h105 r_55 d_55 kd_55 ([(i0 &&& (255 : Int32)), (i1 &&& (255 : Int32))].map by8) := (f104.keep K105 nin0 nin0)
    refine Go.callS (c_copyAt2 (l := l) (nw := nw) (fk := fk) g h105 r_74 d2_74 k2_74 (sumS ([(i0 &&& (255 : Int32)), (i1 &&& (255 : Int32))].map by8)) (97 : Nat) r_55 d_55 kd_55 ([(i0 &&& (255 : Int32)), (i1 &&& (255 : Int32))].map by8) (Nat.lt_of_lt_of_eq (by decide : (97 : Nat) + 2 + 1 < (111 : Nat)) (show (111 : Nat) = _ from rfl)) rfl rfl rfl rfl rfl f106 f107 (by omega)) hown (wd_188 g) (wd_189 g) (wd_190 g) (wd_3 g) (by decide) (argsL := [(.ref r_74), (.int (97 : Nat).toInt32), (.ref r_55), (.int (2 : Int32))]) (lenOf pd_32 rfl) rfl (by rw [hml]; rfl) (W := 0) rfl (hb hby at_140) (pc' := 143) rfl (by decide) (by decide) (by decide) (by decide) all0 ?_
    rintro _ vm108 h108 ⟨rfl, K108⟩ C108
    have z108 := K108.1
    -- pc 143
    refine Go.ifN (hb hby at_143) (pc' := 146) rfl (show ¬ ((1 : Int32) = (0 : Int32)) from by decide) ?_
    refine Go.iconst (hb hby at_146) (pc' := 147) rfl (z := (1 : Int32)) rfl ?_
    refine Go.goto (hb hby at_147) (by decide) (pc' := 151) (by decide) ?_
    refine Go.retN (t := .boolean) hret (by simp) (hb hby at_151) (by decide) (by decide) ?_
    intro vmR CR
    exact ⟨(by first | rfl | (simp only [own_nar]; done) | (congr 2; done)), ((((((((((((Keep.refl h []).trans K55 all0).trans KE61 all0).trans K72 all0).trans K74 all0).trans KE80 all0).trans K93 all0).trans K96 all0).trans K99 all0).trans K102 all0).trans K105 all0).trans K108 all0)⟩
  · rw [hn]
    refine Go.istore (hb hby at_8) (pc' := 10) rfl (L' := #[.val (.int i0), .val (.int i1), .val (.int i2), .val (.int i3), .val (.int (3 : Int32)), .unset, .unset, .unset]) rfl ?_
    refine Go.iload (hb hby at_10) (pc' := 12) rfl rfl ?_
    refine Go.iloadN (hb hby at_12) (pc' := 13) rfl rfl ?_
    refine Go.sipush (hb hby at_13) (pc' := 16) rfl (z := (255 : Int32)) rfl ?_
    refine Go.iand (hb hby at_16) (pc' := 17) rfl ?_
    refine Go.i2c (hb hby at_17) (pc' := 18) rfl ?_
    rw [nch (m255 i0)]
    refine Go.iloadN (hb hby at_18) (pc' := 19) rfl rfl ?_
    refine Go.sipush (hb hby at_19) (pc' := 22) rfl (z := (255 : Int32)) rfl ?_
    refine Go.iand (hb hby at_22) (pc' := 23) rfl ?_
    refine Go.i2c (hb hby at_23) (pc' := 24) rfl ?_
    rw [nch (m255 i1)]
    refine Go.iloadN (hb hby at_24) (pc' := 25) rfl rfl ?_
    refine Go.sipush (hb hby at_25) (pc' := 28) rfl (z := (255 : Int32)) rfl ?_
    refine Go.iand (hb hby at_28) (pc' := 29) rfl ?_
    refine Go.i2c (hb hby at_29) (pc' := 30) rfl ?_
    rw [nch (m255 i2)]
    refine Go.callS (c_draw3 (l := l) (nw := nw) (fk := fk) g h (i0 &&& (255 : Int32)) (i1 &&& (255 : Int32)) (i2 &&& (255 : Int32)) (m255 i0) (m255 i1) (m255 i2) (by omega)) hown (wd_1 g) (wd_2 g) (wd_4 g) (wd_3 g) (by decide) (argsL := [(.int (3 : Int32)), (.int (i0 &&& (255 : Int32))), (.int (i1 &&& (255 : Int32))), (.int (i2 &&& (255 : Int32)))]) (lenOf pd_29 rfl) rfl (by rw [hml]; rfl) (W := 0) rfl (hb hby at_30) (pc' := 33) rfl (by decide) (by decide) (by decide) (by decide) all0 ?_
    rintro _ vm109 h109 ⟨r_109, d_109, kd_109, rfl, K109, p109_0, p109_1, o109_0⟩ C109
    have z109 := K109.1
    have yo109_0 := ltN o109_0.lt; have yo109_0' := ltN o109_0.ltb
    -- pc 33
    refine Go.astore (hb hby at_33) (pc' := 35) rfl rfl (L' := #[.val (.int i0), .val (.int i1), .val (.int i2), .val (.int i3), .val (.int (3 : Int32)), .val (.ref r_109), .unset, .unset]) rfl ?_
    refine Go.ldcStr (n0 := 4) (vs := ([(118 : Int32)] : List Int32).map Value.int) hnw hown (wd_35 g) g.2.2.1 (g.2.2.2.1 _ (by decide)) (by decide) (hb hby at_35) (pc' := 37) rfl (by decide) (by decide) (by decide) (by decide) ?_
    intro vm110 h111 a112 b113 k114 E115 C116 X117 F118 F119 A120 l121 l122 N123
    skip
    have KE115 := Keep.ofExt E115; have zE115 := E115.1
    have f124 : St Z h111 a112 b113 k114 [(118 : Int32)] := ⟨X117, F118, F119, A120, by decide⟩
    have f125 : St Z h111 a112 b113 k114 K14 := f124
    refine Go.callS (c_exact1 (l := l) (nw := nw) (fk := fk) g hnw h111 a112 b113 k114 K14 rfl fK14 f125 (by omega)) hown (wd_38 g) (wd_39 g) (wd_41 g) (wd_40 g) (by decide) (argsL := [(.ref a112)]) (lenOf pd_30 rfl) rfl (by rw [hml]; rfl) (W := 0) rfl (hb hby at_37) (pc' := 40) rfl (by decide) (by decide) (by decide) (by decide) all0 ?_
    rintro _ vm126 h126 ⟨r_126, d2_126, k2_126, rfl, K126, p126_0, p126_1, o126_0⟩ C126
    have z126 := K126.1
    have yo126_0 := ltN o126_0.lt; have yo126_0' := ltN o126_0.ltb
    -- pc 40
    refine Go.astore (hb hby at_40) (pc' := 42) rfl rfl (L' := #[.val (.int i0), .val (.int i1), .val (.int i2), .val (.int i3), .val (.int (3 : Int32)), .val (.ref r_109), .val (.ref r_126), .unset]) rfl ?_
    refine Go.aload (hb hby at_42) (pc' := 44) rfl rfl rfl ?_
    have f127 : St Z h126 r_109 d_109 kd_109 ([(i0 &&& (255 : Int32)), (i1 &&& (255 : Int32)), (i2 &&& (255 : Int32))].map by8) := ((o109_0.keep KE115 nin0 nin0).keep K126 nin0 nin0)
    refine Go.callS (c_exact3 (l := l) (nw := nw) (fk := fk) g hnw h126 r_109 d_109 kd_109 ([(i0 &&& (255 : Int32)), (i1 &&& (255 : Int32)), (i2 &&& (255 : Int32))].map by8) rfl (Byt.map8 _) f127 (by omega)) hown (wd_38 g) (wd_39 g) (wd_41 g) (wd_40 g) (by decide) (argsL := [(.ref r_109)]) (lenOf pd_30 rfl) rfl (by rw [hml]; rfl) (W := 0) rfl (hb hby at_44) (pc' := 47) rfl (by decide) (by decide) (by decide) (by decide) all0 ?_
    rintro _ vm128 h128 ⟨r_128, d2_128, k2_128, rfl, K128, p128_0, p128_1, o128_0⟩ C128
    have z128 := K128.1
    have yo128_0 := ltN o128_0.lt; have yo128_0' := ltN o128_0.ltb
    -- pc 47
    refine Go.astore (hb hby at_47) (pc' := 49) rfl rfl (L' := #[.val (.int i0), .val (.int i1), .val (.int i2), .val (.int i3), .val (.int (3 : Int32)), .val (.ref r_109), .val (.ref r_126), .val (.ref r_128)]) rfl ?_
    refine Go.aload (hb hby at_49) (pc' := 51) rfl rfl rfl ?_
    refine Go.ldcStr (n0 := 428) (vs := ([(83 : Int32), (85 : Int32), (77 : Int32), (40 : Int32), (40 : Int32), (118 : Int32), (41 : Int32), (32 : Int32), (47 : Int32), (32 : Int32), (49 : Int32), (48 : Int32), (48 : Int32), (48 : Int32), (48 : Int32), (48 : Int32), (48 : Int32), (48 : Int32), (48 : Int32), (48 : Int32), (48 : Int32), (48 : Int32), (48 : Int32), (48 : Int32), (48 : Int32), (48 : Int32), (41 : Int32), (44 : Int32), (32 : Int32), (83 : Int32), (85 : Int32), (77 : Int32), (40 : Int32), (40 : Int32), (118 : Int32), (41 : Int32), (32 : Int32), (47 : Int32), (32 : Int32), (49 : Int32), (48 : Int32), (48 : Int32), (48 : Int32), (48 : Int32), (48 : Int32), (48 : Int32), (48 : Int32), (48 : Int32), (48 : Int32), (48 : Int32), (32 : Int32), (37 : Int32), (32 : Int32), (49 : Int32), (48 : Int32), (48 : Int32), (48 : Int32), (48 : Int32), (48 : Int32), (41 : Int32), (44 : Int32), (32 : Int32), (83 : Int32), (85 : Int32), (77 : Int32), (40 : Int32), (40 : Int32), (118 : Int32), (41 : Int32), (32 : Int32), (47 : Int32), (32 : Int32), (49 : Int32), (48 : Int32), (48 : Int32), (48 : Int32), (48 : Int32), (48 : Int32), (32 : Int32), (37 : Int32), (32 : Int32), (49 : Int32), (48 : Int32), (48 : Int32), (48 : Int32), (48 : Int32), (48 : Int32), (41 : Int32), (44 : Int32), (32 : Int32), (83 : Int32), (85 : Int32), (77 : Int32), (40 : Int32), (40 : Int32), (118 : Int32), (41 : Int32), (32 : Int32), (37 : Int32), (32 : Int32), (49 : Int32), (48 : Int32), (48 : Int32), (48 : Int32), (48 : Int32), (48 : Int32), (41 : Int32)] : List Int32).map Value.int) hnw hown (wd_176 g) g.2.2.1 (g.2.2.2.1 _ (by decide)) (by decide) (hb hby at_51) (pc' := 53) rfl (by decide) (by decide) (by decide) (by decide) ?_
    intro vm129 h130 a131 b132 k133 E134 C135 X136 F137 F138 A139 l140 l141 N142
    skip
    have KE134 := Keep.ofExt E134; have zE134 := E134.1
    have f143 : St Z h130 a131 b132 k133 [(83 : Int32), (85 : Int32), (77 : Int32), (40 : Int32), (40 : Int32), (118 : Int32), (41 : Int32), (32 : Int32), (47 : Int32), (32 : Int32), (49 : Int32), (48 : Int32), (48 : Int32), (48 : Int32), (48 : Int32), (48 : Int32), (48 : Int32), (48 : Int32), (48 : Int32), (48 : Int32), (48 : Int32), (48 : Int32), (48 : Int32), (48 : Int32), (48 : Int32), (48 : Int32), (41 : Int32), (44 : Int32), (32 : Int32), (83 : Int32), (85 : Int32), (77 : Int32), (40 : Int32), (40 : Int32), (118 : Int32), (41 : Int32), (32 : Int32), (47 : Int32), (32 : Int32), (49 : Int32), (48 : Int32), (48 : Int32), (48 : Int32), (48 : Int32), (48 : Int32), (48 : Int32), (48 : Int32), (48 : Int32), (48 : Int32), (48 : Int32), (32 : Int32), (37 : Int32), (32 : Int32), (49 : Int32), (48 : Int32), (48 : Int32), (48 : Int32), (48 : Int32), (48 : Int32), (41 : Int32), (44 : Int32), (32 : Int32), (83 : Int32), (85 : Int32), (77 : Int32), (40 : Int32), (40 : Int32), (118 : Int32), (41 : Int32), (32 : Int32), (47 : Int32), (32 : Int32), (49 : Int32), (48 : Int32), (48 : Int32), (48 : Int32), (48 : Int32), (48 : Int32), (32 : Int32), (37 : Int32), (32 : Int32), (49 : Int32), (48 : Int32), (48 : Int32), (48 : Int32), (48 : Int32), (48 : Int32), (41 : Int32), (44 : Int32), (32 : Int32), (83 : Int32), (85 : Int32), (77 : Int32), (40 : Int32), (40 : Int32), (118 : Int32), (41 : Int32), (32 : Int32), (37 : Int32), (32 : Int32), (49 : Int32), (48 : Int32), (48 : Int32), (48 : Int32), (48 : Int32), (48 : Int32), (41 : Int32)] := ⟨X136, F137, F138, A139, by decide⟩
    have f144 : St Z h130 a131 b132 k133 K22 := f143
    have f145 : St Z h130 r_126 d2_126 k2_126 (sumS K14) := ((o126_0.keep K128 nin0 nin0).keep KE134 nin0 nin0)
    have f146 : Exa Z h130 r_126 "java/lang/String" := ((o126_0.1.keep K128).keep KE134)
    refine Go.callV (y0 := ⟨"java/lang/String", "equals", "(Ljava/lang/Object;)Z"⟩) (c_eq (l := l) (nw := nw) (fk := fk) g h130 r_126 d2_126 k2_126 (sumS K14) a131 b132 k133 K22 f145 f144 (by omega)) hown (wd_177 g) (wd_178 g) (notFace_of_selects (wd_180 g)) (wd_180 g) (wd_179 g) f146 (wd_181 g) (wd_7 g) (by decide) (argsL := [(.ref a131)]) (lenOf pd_31 rfl) rfl (by rw [hml]; rfl) (W := 0) rfl (hb hby at_53) (pc' := 56) rfl (by decide) (by decide) (by decide) (by decide) all0 ?_
    rintro _ vm147 h147 ⟨rfl, K147⟩ C147
    have z147 := K147.1
    -- pc 56
    refine Go.ifY (hb hby at_56) (by decide) (pc' := 61) (by decide) (bo_ne0.mpr (by decide +kernel)) ?_
    refine Go.aload (hb hby at_61) (pc' := 63) rfl rfl rfl ?_
    have f148 : St Z h147 r_128 d2_128 k2_128 (sumS ([(i0 &&& (255 : Int32)), (i1 &&& (255 : Int32)), (i2 &&& (255 : Int32))].map by8)) := ((o128_0.keep KE134 nin0 nin0).keep K147 nin0 nin0)
    have f149 : Exa Z h147 r_128 "java/lang/String" := ((o128_0.1.keep KE134).keep K147)
    refine Go.callV (y0 := ⟨"java/lang/String", "length", "()I"⟩) (c_length (l := l) (nw := nw) (fk := fk) g h147 r_128 d2_128 k2_128 (sumS ([(i0 &&& (255 : Int32)), (i1 &&& (255 : Int32)), (i2 &&& (255 : Int32))].map by8)) (115 : Nat) rfl f148 (by omega)) hown (wd_187 g) (wd_72 g) (notFace_of_selects (wd_74 g)) (wd_74 g) (wd_73 g) f149 (wd_75 g) (wd_7 g) (by decide) (argsL := []) (lenOf pd_12 rfl) rfl (by rw [hml]; rfl) (W := 0) rfl (hb hby at_63) (pc' := 66) rfl (by decide) (by decide) (by decide) (by decide) all0 ?_
    rintro _ vm150 h150 ⟨rfl, K150⟩ C150
    have z150 := K150.1
    -- pc 66
    refine Go.iconst (hb hby at_66) (pc' := 67) rfl (z := (4 : Int32)) rfl ?_
    refine Go.iload (hb hby at_67) (pc' := 69) rfl rfl ?_
    refine Go.imul (hb hby at_69) (pc' := 70) rfl ?_
    refine Go.bipush (hb hby at_70) (pc' := 72) rfl (z := (103 : Int32)) rfl ?_
    refine Go.iadd (hb hby at_72) (pc' := 73) rfl ?_
    refine Go.icmpY (hb hby at_73) (by decide) (pc' := 78) (by decide) (show ((115 : Nat).toInt32) = (115 : Int32) from rfl) ?_
    refine Go.aload (hb hby at_78) (pc' := 80) rfl rfl rfl ?_
    refine Go.iconst (hb hby at_80) (pc' := 81) rfl (z := (4 : Int32)) rfl ?_
    refine Go.aload (hb hby at_81) (pc' := 83) rfl rfl rfl ?_
    refine Go.iload (hb hby at_83) (pc' := 85) rfl rfl ?_
    have f151 : St Z h150 r_128 d2_128 k2_128 (sumS ([(i0 &&& (255 : Int32)), (i1 &&& (255 : Int32)), (i2 &&& (255 : Int32))].map by8)) := (f148.keep K150 nin0 nin0)
    have f152 : St Z h150 r_109 d_109 kd_109 ([(i0 &&& (255 : Int32)), (i1 &&& (255 : Int32)), (i2 &&& (255 : Int32))].map by8) := ((((f127.keep K128 nin0 nin0).keep KE134 nin0 nin0).keep K147 nin0 nin0).keep K150 nin0 nin0)
    refine Go.callS (c_copyAt3 (l := l) (nw := nw) (fk := fk) g h150 r_128 d2_128 k2_128 (sumS ([(i0 &&& (255 : Int32)), (i1 &&& (255 : Int32)), (i2 &&& (255 : Int32))].map by8)) (4 : Nat) r_109 d_109 kd_109 ([(i0 &&& (255 : Int32)), (i1 &&& (255 : Int32)), (i2 &&& (255 : Int32))].map by8) (Nat.lt_of_lt_of_eq (by decide : (4 : Nat) + 3 + 1 < (115 : Nat)) (show (115 : Nat) = _ from rfl)) rfl rfl rfl rfl rfl rfl f151 f152 (by omega)) hown (wd_188 g) (wd_189 g) (wd_190 g) (wd_3 g) (by decide) (argsL := [(.ref r_128), (.int (4 : Nat).toInt32), (.ref r_109), (.int (3 : Int32))]) (lenOf pd_32 rfl) rfl (by rw [hml]; rfl) (W := 0) rfl (hb hby at_85) (pc' := 88) rfl (by decide) (by decide) (by decide) (by decide) all0 ?_
    rintro _ vm153 h153 ⟨rfl, K153⟩ C153
    have z153 := K153.1
    -- pc 88
    refine Go.ifN (hb hby at_88) (pc' := 91) rfl (show ¬ ((1 : Int32) = (0 : Int32)) from by decide) ?_
    refine Go.aload (hb hby at_91) (pc' := 93) rfl rfl rfl ?_
    refine Go.iload (hb hby at_93) (pc' := 95) rfl rfl ?_
    refine Go.bipush (hb hby at_95) (pc' := 97) rfl (z := (32 : Int32)) rfl ?_
    refine Go.iadd (hb hby at_97) (pc' := 98) rfl ?_
    refine Go.aload (hb hby at_98) (pc' := 100) rfl rfl rfl ?_
    refine Go.iload (hb hby at_100) (pc' := 102) rfl rfl ?_
    have f154 : St Z h153 r_128 d2_128 k2_128 (sumS ([(i0 &&& (255 : Int32)), (i1 &&& (255 : Int32)), (i2 &&& (255 : Int32))].map by8)) := (f151.keep K153 nin0 nin0)
    have f155 : St Z h153 r_109 d_109 kd_109 ([(i0 &&& (255 : Int32)), (i1 &&& (255 : Int32)), (i2 &&& (255 : Int32))].map by8) := (f152.keep K153 nin0 nin0)
    refine Go.callS (c_copyAt3 (l := l) (nw := nw) (fk := fk) g h153 r_128 d2_128 k2_128 (sumS ([(i0 &&& (255 : Int32)), (i1 &&& (255 : Int32)), (i2 &&& (255 : Int32))].map by8)) (35 : Nat) r_109 d_109 kd_109 ([(i0 &&& (255 : Int32)), (i1 &&& (255 : Int32)), (i2 &&& (255 : Int32))].map by8) (Nat.lt_of_lt_of_eq (by decide : (35 : Nat) + 3 + 1 < (115 : Nat)) (show (115 : Nat) = _ from rfl)) rfl rfl rfl rfl rfl rfl f154 f155 (by omega)) hown (wd_188 g) (wd_189 g) (wd_190 g) (wd_3 g) (by decide) (argsL := [(.ref r_128), (.int (35 : Nat).toInt32), (.ref r_109), (.int (3 : Int32))]) (lenOf pd_32 rfl) rfl (by rw [hml]; rfl) (W := 0) rfl (hb hby at_102) (pc' := 105) rfl (by decide) (by decide) (by decide) (by decide) all0 ?_
    rintro _ vm156 h156 ⟨rfl, K156⟩ C156
    have z156 := K156.1
    -- pc 105
    refine Go.ifN (hb hby at_105) (pc' := 108) rfl (show ¬ ((1 : Int32) = (0 : Int32)) from by decide) ?_
    refine Go.aload (hb hby at_108) (pc' := 110) rfl rfl rfl ?_
    refine Go.iconst (hb hby at_110) (pc' := 111) rfl (z := (2 : Int32)) rfl ?_
    refine Go.iload (hb hby at_111) (pc' := 113) rfl rfl ?_
    refine Go.imul (hb hby at_113) (pc' := 114) rfl ?_
    refine Go.bipush (hb hby at_114) (pc' := 116) rfl (z := (64 : Int32)) rfl ?_
    refine Go.iadd (hb hby at_116) (pc' := 117) rfl ?_
    refine Go.aload (hb hby at_117) (pc' := 119) rfl rfl rfl ?_
    refine Go.iload (hb hby at_119) (pc' := 121) rfl rfl ?_
    have f157 : St Z h156 r_128 d2_128 k2_128 (sumS ([(i0 &&& (255 : Int32)), (i1 &&& (255 : Int32)), (i2 &&& (255 : Int32))].map by8)) := (f154.keep K156 nin0 nin0)
    have f158 : St Z h156 r_109 d_109 kd_109 ([(i0 &&& (255 : Int32)), (i1 &&& (255 : Int32)), (i2 &&& (255 : Int32))].map by8) := (f155.keep K156 nin0 nin0)
    refine Go.callS (c_copyAt3 (l := l) (nw := nw) (fk := fk) g h156 r_128 d2_128 k2_128 (sumS ([(i0 &&& (255 : Int32)), (i1 &&& (255 : Int32)), (i2 &&& (255 : Int32))].map by8)) (70 : Nat) r_109 d_109 kd_109 ([(i0 &&& (255 : Int32)), (i1 &&& (255 : Int32)), (i2 &&& (255 : Int32))].map by8) (Nat.lt_of_lt_of_eq (by decide : (70 : Nat) + 3 + 1 < (115 : Nat)) (show (115 : Nat) = _ from rfl)) rfl rfl rfl rfl rfl rfl f157 f158 (by omega)) hown (wd_188 g) (wd_189 g) (wd_190 g) (wd_3 g) (by decide) (argsL := [(.ref r_128), (.int (70 : Nat).toInt32), (.ref r_109), (.int (3 : Int32))]) (lenOf pd_32 rfl) rfl (by rw [hml]; rfl) (W := 0) rfl (hb hby at_121) (pc' := 124) rfl (by decide) (by decide) (by decide) (by decide) all0 ?_
    rintro _ vm159 h159 ⟨rfl, K159⟩ C159
    have z159 := K159.1
    -- pc 124
    refine Go.ifN (hb hby at_124) (pc' := 127) rfl (show ¬ ((1 : Int32) = (0 : Int32)) from by decide) ?_
    refine Go.aload (hb hby at_127) (pc' := 129) rfl rfl rfl ?_
    refine Go.iconst (hb hby at_129) (pc' := 130) rfl (z := (3 : Int32)) rfl ?_
    refine Go.iload (hb hby at_130) (pc' := 132) rfl rfl ?_
    refine Go.imul (hb hby at_132) (pc' := 133) rfl ?_
    refine Go.bipush (hb hby at_133) (pc' := 135) rfl (z := (91 : Int32)) rfl ?_
    refine Go.iadd (hb hby at_135) (pc' := 136) rfl ?_
    refine Go.aload (hb hby at_136) (pc' := 138) rfl rfl rfl ?_
    refine Go.iload (hb hby at_138) (pc' := 140) rfl rfl ?_
    have f160 : St Z h159 r_128 d2_128 k2_128 (sumS ([(i0 &&& (255 : Int32)), (i1 &&& (255 : Int32)), (i2 &&& (255 : Int32))].map by8)) := (f157.keep K159 nin0 nin0)
    have f161 : St Z h159 r_109 d_109 kd_109 ([(i0 &&& (255 : Int32)), (i1 &&& (255 : Int32)), (i2 &&& (255 : Int32))].map by8) := (f158.keep K159 nin0 nin0)
    refine Go.callS (c_copyAt3 (l := l) (nw := nw) (fk := fk) g h159 r_128 d2_128 k2_128 (sumS ([(i0 &&& (255 : Int32)), (i1 &&& (255 : Int32)), (i2 &&& (255 : Int32))].map by8)) (100 : Nat) r_109 d_109 kd_109 ([(i0 &&& (255 : Int32)), (i1 &&& (255 : Int32)), (i2 &&& (255 : Int32))].map by8) (Nat.lt_of_lt_of_eq (by decide : (100 : Nat) + 3 + 1 < (115 : Nat)) (show (115 : Nat) = _ from rfl)) rfl rfl rfl rfl rfl rfl f160 f161 (by omega)) hown (wd_188 g) (wd_189 g) (wd_190 g) (wd_3 g) (by decide) (argsL := [(.ref r_128), (.int (100 : Nat).toInt32), (.ref r_109), (.int (3 : Int32))]) (lenOf pd_32 rfl) rfl (by rw [hml]; rfl) (W := 0) rfl (hb hby at_140) (pc' := 143) rfl (by decide) (by decide) (by decide) (by decide) all0 ?_
    rintro _ vm162 h162 ⟨rfl, K162⟩ C162
    have z162 := K162.1
    -- pc 143
    refine Go.ifN (hb hby at_143) (pc' := 146) rfl (show ¬ ((1 : Int32) = (0 : Int32)) from by decide) ?_
    refine Go.iconst (hb hby at_146) (pc' := 147) rfl (z := (1 : Int32)) rfl ?_
    refine Go.goto (hb hby at_147) (by decide) (pc' := 151) (by decide) ?_
    refine Go.retN (t := .boolean) hret (by simp) (hb hby at_151) (by decide) (by decide) ?_
    intro vmR CR
    exact ⟨(by first | rfl | (simp only [own_nar]; done) | (congr 2; done)), ((((((((((((Keep.refl h []).trans K109 all0).trans KE115 all0).trans K126 all0).trans K128 all0).trans KE134 all0).trans K147 all0).trans K150 all0).trans K153 all0).trans K156 all0).trans K159 all0).trans K162 all0)⟩
set_option maxRecDepth 65536 in
set_option maxHeartbeats 40000000 in
theorem comes_1 {Post : Tables → Env → Array Value → State → Outcome → State → Prop} (hpost : ∀ tb e args s v u, (limb_1_1.after args s (.returned v) u = true ∧ limb_1_2.after args s (.returned v) u = true ∧ True) → Jvm.D.FramedW s (.returned v) u (Jvm.fieldLocs frame_1_writes args s ++ Jvm.arrayLocs frame_1_arrays args s ++ Jvm.staticLocs frame_1_statics s) 80 11008 → Post tb e args s (.returned v) u) :
    ArmFor flags0 classFile x code maxLocals ret World_1 tables_1 room_1 Calls_1 rest_1 Pre_1 Post := by
  intro l hfl _ _ p e ha hc hk s m args below hf hA hF happ hP
  obtain ⟨hcalls, hrest, hpre⟩ := hP
  obtain ⟨-, -, -, hnamed, -, -, -, hat⟩ := (Spec.applies_iff hf).mp happ
  obtain ⟨hg, hn⟩ := and_e (Cond.before_iff.mp (show (Jvm.Cond.and given_1 narrow_1).before args s = true from hpre))
  obtain ⟨h1, g0⟩ := and_e hg
  obtain ⟨k0, g1⟩ := and_e g0
  obtain ⟨k1, g2⟩ := and_e g1
  obtain ⟨k2, g3⟩ := and_e g2
  have k3 := g3
  obtain ⟨w0, w1, w2, w3, rfl⟩ : ∃ w0 w1 w2 w3 : Value, args = #[w0, w1, w2, w3] := by
    have hs : args.size = 4 := by simpa [Cond.value, given_1] using h1
    obtain ⟨L⟩ := args
    match L, hs with
    | [w0, w1, w2, w3], _ => exact ⟨w0, w1, w2, w3, rfl⟩
  have hw := fun d (hd : d ∈ tables_1) => atoms_spec (ws := Jvm.Cond.code x code maxLocals ret :: tables_1) hat d (List.mem_cons_of_mem _ hd)
  obtain ⟨hsets, hown0⟩ := atoms_of _ (rest_1_c_eq ▸ (show rest_1_c.before _ s = true from hrest))
  have hfit : Fit s := fun {y c} hc i hi => by
    obtain ⟨ha, rfl⟩ := Array.getElem?_eq_some_iff.mp hc
    have q := List.all_eq_true.mp ((Array.all_eq_true_iff_forall_mem.mp hF) _ (Array.getElem_mem ha)) i (List.mem_range.mpr hi)
    simpa [Array.getElem?_eq_getElem hi] using q
  obtain ⟨i0, r0⟩ := is_v k0
  obtain rfl : w0 = (.int i0) := Option.some.inj r0
  obtain ⟨i1, r1⟩ := is_v k1
  obtain rfl : w1 = (.int i1) := Option.some.inj r1
  obtain ⟨i2, r2⟩ := is_v k2
  obtain rfl : w2 = (.int i2) := Option.some.inj r2
  obtain ⟨i3, r3⟩ := is_v k3
  obtain rfl : w3 = (.int i3) := Option.some.inj r3
  have n5 := not_v (Cond.before_iff.mp (hsets _ (List.mem_of_getElem? (i := 2) rfl)))
  obtain ⟨zc, e10⟩ := is_v (Cond.before_iff.mp (hsets _ (List.mem_of_getElem? (i := 1) rfl)))
  have S12 : Sta s s.heap "java/lang/String" "COMPACT_STRINGS" "Z" (.int zc) := Sta.start e10 (Or.inl (hsets _ (List.mem_of_getElem? (i := 0) rfl)))
  have c17 : ¬ (zc = (0 : Int32)) := gotF (Cond.eq_ints e10 (Term.int_eval (0))) n5
  obtain ⟨sf, e8, hsf⟩ := isR_v (Cond.before_iff.mp (hsets _ (List.mem_of_getElem? (i := 8) rfl)))
  have S8 : Sta s s.heap "jdk/internal/util/Preconditions" "SIOOBE_FORMATTER" "Ljava/util/function/BiFunction;" sf := Sta.start e8 (Or.inl (hsets _ (List.mem_of_getElem? (i := 7) rfl)))
  have hEL : EW s #[(.int i0), (.int i1), (.int i2), (.int i3)] consts_1 := show EW s #[(.int i0), (.int i1), (.int i2), (.int i3)] [("com/example/coffer/coffer/Ledger", 251), ("com/example/coffer/coffer/Ledger", 253), ("com/example/coffer/coffer/Ledger", 255), ("com/example/coffer/coffer/Ledger", 257), ("com/example/coffer/coffer/Ledger", 259), ("com/example/coffer/coffer/Ledger", 261), ("com/example/coffer/coffer/Ledger", 263), ("com/example/coffer/coffer/LedgerExactSumPinLaw", 14), ("com/example/coffer/coffer/LedgerExactSumPinLaw", 22)] from (EW.cons (hw _ (List.mem_of_getElem? (i := 60) rfl)) (by decide) (EW.cons (hw _ (List.mem_of_getElem? (i := 108) rfl)) (by decide) (EW.cons (hw _ (List.mem_of_getElem? (i := 154) rfl)) (by decide) (EW.cons (hw _ (List.mem_of_getElem? (i := 155) rfl)) (by decide) (EW.cons (hw _ (List.mem_of_getElem? (i := 173) rfl)) (by decide) (EW.cons (hw _ (List.mem_of_getElem? (i := 174) rfl)) (by decide) (EW.cons (hw _ (List.mem_of_getElem? (i := 175) rfl)) (by decide) (EW.cons (hw _ (List.mem_of_getElem? (i := 35) rfl)) (by decide) (EW.cons (hw _ (List.mem_of_getElem? (i := 176) rfl)) (by decide) EW.nil)))))))))
  have hCH : CHv s consts_1 s.vm s.heap := CHv.start hEL hcalls.1 (hsets _ (List.mem_of_getElem? (i := 2) rfl)) (hw _ (List.mem_of_getElem? (i := 24) rfl)) (hw _ (List.mem_of_getElem? (i := 6) rfl))
  have hAt : ∀ a ∈ Bundle.stringAtoms, a.before #[(.int i0), (.int i1), (.int i2), (.int i3)] s = true := by
    intro a ha
    simp only [Bundle.stringAtoms, List.mem_cons, List.not_mem_nil, or_false] at ha
    rcases ha with rfl | rfl | rfl | rfl | rfl | rfl | rfl
    · exact (hw _ (List.mem_of_getElem? (i := 7) rfl))
    · exact (hw _ (List.mem_of_getElem? (i := 6) rfl))
    · exact (hw _ (List.mem_of_getElem? (i := 24) rfl))
    · exact (hw _ (List.mem_of_getElem? (i := 34) rfl))
    · exact (hw _ (List.mem_of_getElem? (i := 32) rfl))
    · exact (hw _ (List.mem_of_getElem? (i := 36) rfl))
    · exact (hw _ (List.mem_of_getElem? (i := 37) rfl))
  obtain ⟨n, o, h1, h2, h3, v, L, rfl, N, ⟨rfl, -⟩, -, -, hH, hq⟩ := c_law (l := l) (nw := False) (fk := False) (EL := consts_1) (zc := zc) (sf := sf) ⟨hw, hEL, hAt, fun _ q => q, S12, c17, S8, hsf⟩ id tables_1 s.heap i0 i1 i2 i3 (Nat.le_refl _) p e ha hc hk s m _ below hf ((Spec.applies_iff_loose hf).mp happ).1 ⟨rfl, State.Warmed39.refl s, rfl, hCH, ⟨Nat.le_refl _, fun _ _ q => q⟩, all0⟩ (fun z => z.elim)
  refine ⟨n, _, h1, h2, h3, hpost _ _ _ _ _ _ ⟨Cond.after_iff.mpr rfl, Cond.after_iff.mpr (eq_i res_at (Term.int_eval (1)) rfl), trivial⟩ ?_⟩
  exact ⟨⟨_, rfl⟩, hq.2.1, hq.2.2.1, (hq.2.2.2.sift fun y hy => Or.inr (N y hy)).mono (by decide) (by decide)⟩
theorem main_1_1 : Claimed_1_1 := comes_1 fun _ _ _ _ _ _ h hF => ⟨h.1, hF⟩
theorem main_1_2 : Claimed_1_2 := comes_1 fun _ _ _ _ _ _ h hF => ⟨h.2.1, hF⟩
end Jvm.Pilot.@@N@@
namespace Jvm.Pilot.@@N@@
open Jvm Jvm.ClassFile Sem Op Lib Jvm.Free Jvm.Stand Jvm.Pilot.@@N@@.Jvm.D
/-! MADE BY PROGRAM (witnessworld.py) out of the Statement's table words and the real class files: 26 classes; the members and pool entries that the words name. The judged class is class 1, her method 1. -/
namespace start1
open Jvm.ClassFile
def u (s : String) : CpInfo := .utf8 (stringToUtf16 s)
/-- a pool by its gaps: so many unusable entries, then the entry; so many at the end -/
def gap : Nat → List CpInfo → List CpInfo
  | 0, r => r
  | n + 1, r => .unusable :: gap n r
def poolList (es : List (Nat × CpInfo)) (last : Nat) : List CpInfo := es.foldr (fun e r => gap e.1 (e.2 :: r)) (gap last [])
def pool (es : List (Nat × CpInfo)) (last : Nat) : Array CpInfo := ⟨poolList es last⟩
def fileOf (pool : Array CpInfo) (this : Nat) (attrs : Array Attribute := #[]) (ms : Array MethodInfo := #[]) (fl : Nat := 33) (sup : Nat := 0) (ifs : Array Nat := #[]) (fds : Array FieldInfo := #[]) : ClassFile where
  minorVersion := 0
  majorVersion := 65
  constantPool := pool
  accessFlags := fl
  thisClass := this
  superClass := sup
  interfaces := ifs
  fields := fds
  methods := ms
  attributes := attrs
def plain (name : String) (sup : Option ClassId) : Class where
  name := name
  kind := .ordinary
  loader := none
  accessFlags := 33
  super := sup
  interfaces := #[]
  cf := none
  fields := #[]
  methods := #[]
  instanceTypes := #[]
  staticTypes := #[]
  resolved := #[]
  callSites := []
  init := .initialized
  statics := none
  mirror := none

def pool0 : Array CpInfo := pool [(5, u "<init>"), (0, u "()V"), (1, .class_ 10), (1, u "java/lang/Object")] 113

def k0c0 : Code := { maxStack := 0, maxLocals := 1, code := object_method_1_code, exceptionTable := #[], attributes := #[] }
def k0m0 : Method := { name := "<init>", desc := "()V", sig := { parameters := [], returnType := none }, accessFlags := 1, code := some k0c0 }
/-- java/lang/Object -/
def k0 : Class := { plain "java/lang/Object" none with
  accessFlags := 33
  interfaces := #[]
  cf := some (fileOf pool0 8 #[] #[{ accessFlags := 1, nameIndex := 5, descriptorIndex := 6, attributes := #[] }] 33 0 #[] #[])
  fields := #[]
  methods := #[k0m0]
  instanceTypes := #[]
  staticTypes := #[]
  resolved := Array.replicate 124 none
  statics := none }

def pool1 : Array CpInfo := pool [(2, .class_ 4), (1, u "java/lang/Object"), (0, u "<init>"), (0, u "()V"), (0, .integer 2147483647), (0, .methodref 9 10), (0, .class_ 11), (0, .nameAndType 12 13), (0, u "com/example/coffer/coffer/LedgerExactSumPinLaw"), (0, u "draw"), (0, u "(ICCC)Ljava/lang/String;"), (0, .string 15), (0, u "v"), (0, .methodref 17 18), (0, .class_ 19), (0, .nameAndType 20 21), (0, u "com/example/coffer/coffer/Ledger"), (0, u "exactSum"), (0, u "(Ljava/lang/String;)Ljava/lang/String;"), (0, .string 23), (0, u "SUM((v) / 1000000000000000), SUM((v) / 10000000000 % 100000), SUM((v) / 100000 % 100000), SUM((v) % 100000)"), (0, .methodref 25 26), (0, .class_ 27), (0, .nameAndType 28 29), (0, u "java/lang/String"), (0, u "equals"), (0, u "(Ljava/lang/Object;)Z"), (0, .methodref 25 31), (0, .nameAndType 32 33), (0, u "length"), (0, u "()I"), (0, .methodref 9 35), (0, .nameAndType 36 37), (0, u "copyAt"), (0, u "(Ljava/lang/String;ILjava/lang/String;I)Z"), (0, .methodref 25 39), (0, .nameAndType 5 40), (0, u "([C)V"), (0, .methodref 25 42), (0, .nameAndType 43 44), (0, u "charAt"), (0, u "(I)C"), (2, u "law"), (0, u "(IIII)Z")] 3

def k1m0 : Method := { name := "<init>", desc := "()V", sig := { parameters := [], returnType := none }, accessFlags := 2, code := none }
def k1c1 : Code := { maxStack := 5, maxLocals := 8, code := code, exceptionTable := #[], attributes := #[] }
def k1m1 : Method := { name := "law", desc := "(IIII)Z", sig := { parameters := [.int, .int, .int, .int], returnType := some .boolean }, accessFlags := 9, code := some k1c1 }
def k1c2 : Code := { maxStack := 6, maxLocals := 4, code := method_3_code, exceptionTable := #[], attributes := #[] }
def k1m2 : Method := { name := "draw", desc := "(ICCC)Ljava/lang/String;", sig := { parameters := [.int, .char, .char, .char], returnType := some (.object "java/lang/String") }, accessFlags := 10, code := some k1c2 }
def k1c3 : Code := { maxStack := 3, maxLocals := 5, code := method_4_code, exceptionTable := #[], attributes := #[] }
def k1m3 : Method := { name := "copyAt", desc := "(Ljava/lang/String;ILjava/lang/String;I)Z", sig := { parameters := [(.object "java/lang/String"), .int, (.object "java/lang/String"), .int], returnType := some .boolean }, accessFlags := 10, code := some k1c3 }
/-- com/example/coffer/coffer/LedgerExactSumPinLaw -/
def k1 : Class := { plain "com/example/coffer/coffer/LedgerExactSumPinLaw" (some 0) with
  accessFlags := 49
  interfaces := #[]
  cf := some (fileOf pool1 9 #[] #[{ accessFlags := 2, nameIndex := 5, descriptorIndex := 6, attributes := #[] }, { accessFlags := 9, nameIndex := 47, descriptorIndex := 48, attributes := #[] }, { accessFlags := 10, nameIndex := 12, descriptorIndex := 13, attributes := #[] }, { accessFlags := 10, nameIndex := 36, descriptorIndex := 37, attributes := #[] }] 49 2 #[] #[])
  fields := #[]
  methods := #[k1m0, k1m1, k1m2, k1m3]
  instanceTypes := #[]
  staticTypes := #[]
  resolved := Array.replicate 52 none
  statics := none }

def pool2 : Array CpInfo := pool [(1, .class_ 2), (0, u "java/io/Serializable"), (0, .class_ 4), (0, u "java/lang/Object")] 2

/-- java/io/Serializable -/
def k2 : Class := { plain "java/io/Serializable" (some 0) with
  accessFlags := 1537
  interfaces := #[]
  cf := some (fileOf pool2 1 #[] #[] 1537 3 #[] #[])
  fields := #[]
  methods := #[]
  instanceTypes := #[]
  staticTypes := #[]
  resolved := Array.replicate 7 none
  statics := none }

def pool3 : Array CpInfo := pool [(1, .class_ 2), (0, u "java/lang/Comparable"), (0, .class_ 4), (0, u "java/lang/Object")] 7

/-- java/lang/Comparable -/
def k3 : Class := { plain "java/lang/Comparable" (some 0) with
  accessFlags := 1537
  interfaces := #[]
  cf := some (fileOf pool3 1 #[] #[] 1537 3 #[] #[])
  fields := #[]
  methods := #[]
  instanceTypes := #[]
  staticTypes := #[]
  resolved := Array.replicate 12 none
  statics := none }

def pool4 : Array CpInfo := pool [(2, .class_ 4), (1, u "java/lang/CharSequence"), (42, .class_ 48), (0, u "java/lang/CharSequence$1CodePointIterator"), (10, .class_ 60), (0, u "java/lang/CharSequence$1CharIterator"), (5, .class_ 67), (0, u "java/lang/Object")] 63

/-- java/lang/CharSequence -/
def k4 : Class := { plain "java/lang/CharSequence" (some 0) with
  accessFlags := 1537
  interfaces := #[]
  cf := some (fileOf pool4 2 #[.nestMembers #[47, 59]] #[] 1537 66 #[] #[])
  fields := #[]
  methods := #[]
  instanceTypes := #[]
  staticTypes := #[]
  resolved := Array.replicate 131 none
  statics := none }

def pool5 : Array CpInfo := pool [(1, .class_ 2), (0, u "java/lang/constant/Constable"), (0, .class_ 4), (0, u "java/lang/Object")] 6

/-- java/lang/constant/Constable -/
def k5 : Class := { plain "java/lang/constant/Constable" (some 0) with
  accessFlags := 1537
  interfaces := #[]
  cf := some (fileOf pool5 1 #[] #[] 1537 3 #[] #[])
  fields := #[]
  methods := #[]
  instanceTypes := #[]
  staticTypes := #[]
  resolved := Array.replicate 11 none
  statics := none }

def pool6 : Array CpInfo := pool [(1, .class_ 2), (0, u "java/lang/constant/ConstantDesc"), (0, .class_ 4), (0, u "java/lang/Object")] 32

/-- java/lang/constant/ConstantDesc -/
def k6 : Class := { plain "java/lang/constant/ConstantDesc" (some 0) with
  accessFlags := 1537
  interfaces := #[]
  cf := some (fileOf pool6 1 #[] #[] 1537 3 #[] #[])
  fields := #[]
  methods := #[]
  instanceTypes := #[]
  staticTypes := #[]
  resolved := Array.replicate 37 none
  statics := none }

def pool7 : Array CpInfo := pool [(1, .methodref 2 3), (0, .class_ 4), (0, .nameAndType 5 6), (0, u "java/lang/Object"), (0, u "<init>"), (0, u "()V"), (2, .fieldref 10 11), (0, .class_ 12), (0, .nameAndType 13 14), (0, u "java/lang/String"), (0, u "value"), (0, u "[B"), (0, .fieldref 10 16), (0, .nameAndType 17 18), (0, u "coder"), (0, u "B"), (2, u "hash"), (0, u "I"), (2, u "hashIsZero"), (0, u "Z"), (0, .methodref 10 28), (0, .nameAndType 5 29), (0, u "([CIILjava/lang/Void;)V"), (8, .fieldref 10 39), (0, .nameAndType 40 26), (0, u "COMPACT_STRINGS"), (1, .class_ 44), (1, u "java/lang/StringUTF16"), (0, u "compress"), (1, .methodref 42 48), (0, .nameAndType 49 50), (0, u "coderFromArrayLen"), (0, u "([BI)B"), (3, .methodref 55 56), (0, .class_ 57), (0, .nameAndType 58 59), (0, u "java/util/Arrays"), (0, u "copyOfRange"), (0, u "([BII)[B"), (47, .class_ 109), (1, u "java/lang/StringLatin1"), (32, u "()Z"), (34, .methodref 42 178), (0, .nameAndType 45 179), (0, u "([CII)[B"), (13, .class_ 195), (1, u "java/lang/System"), (16, .methodref 193 213), (0, .nameAndType 214 215), (0, u "arraycopy"), (0, u "(Ljava/lang/Object;ILjava/lang/Object;II)V"), (118, u "()I"), (0, .methodref 10 336), (0, .nameAndType 17 337), (0, u "()B"), (2, u "()[B"), (22, u "([BI)C"), (27, u "(II)V"), (35, u "(I)C"), (61, .methodref 10 490), (0, .nameAndType 5 491), (0, u "(Ljava/lang/AbstractStringBuilder;Ljava/lang/Void;)V"), (0, .methodref 10 493), (0, .nameAndType 494 142), (0, u "isLatin1"), (0, .methodref 107 496), (0, .nameAndType 497 363), (0, u "charAt"), (3, u "checkIndex"), (4, .nameAndType 507 334), (0, u "length"), (24, u "getBytes"), (8, .methodref 107 542), (0, .nameAndType 543 544), (0, u "equals"), (0, u "([B[B)Z"), (4, .methodref 550 506), (0, .class_ 551), (0, u "java/lang/AbstractStringBuilder"), (0, .methodref 550 553), (0, .nameAndType 554 340), (0, u "getValue"), (18, u "(Ljava/lang/Object;)Z"), (1, .class_ 576), (0, u "java/lang/CharSequence"), (22, u "CASE_INSENSITIVE_ORDER"), (0, u "Ljava/util/Comparator;"), (220, u "([BIB)V"), (188, u "([C)V"), (36, .methodref 550 493), (5, .fieldref 1054 1055), (0, .class_ 1056), (0, .nameAndType 1057 1058), (0, u "jdk/internal/util/Preconditions"), (0, u "SIOOBE_FORMATTER"), (0, u "Ljava/util/function/BiFunction;"), (0, .methodref 1054 1060), (0, .nameAndType 501 1061), (0, u "(IILjava/util/function/BiFunction;)I"), (39, u "serialPersistentFields"), (0, u "[Ljava/io/ObjectStreamField;"), (0, .class_ 1104), (0, u "java/lang/String$CaseInsensitiveComparator"), (1, .class_ 1107), (0, u "java/io/Serializable"), (0, .class_ 1109), (0, u "java/lang/Comparable"), (0, .class_ 1111), (0, u "java/lang/constant/Constable"), (0, .class_ 1113), (0, u "java/lang/constant/ConstantDesc"), (2, u "serialVersionUID"), (0, u "J"), (3, u "REPL"), (0, u "C"), (2, u "LATIN1"), (1, u "UTF16"), (105, u "(Ljava/lang/StringBuilder;)V")] 217

def k7m0 : Method := { name := "<init>", desc := "()V", sig := { parameters := [], returnType := none }, accessFlags := 1, code := none }
def k7c1 : Code := { maxStack := 5, maxLocals := 2, code := jdk_42_method_3_code, exceptionTable := #[], attributes := #[] }
def k7m1 : Method := { name := "<init>", desc := "([C)V", sig := { parameters := [(.array .char)], returnType := none }, accessFlags := 1, code := some k7c1 }
def k7c2 : Code := { maxStack := 3, maxLocals := 2, code := jdk_42_method_53_code, exceptionTable := #[], attributes := #[] }
def k7m2 : Method := { name := "<init>", desc := "(Ljava/lang/StringBuilder;)V", sig := { parameters := [(.object "java/lang/StringBuilder")], returnType := none }, accessFlags := 1, code := some k7c2 }
def k7c3 : Code := { maxStack := 2, maxLocals := 1, code := jdk_42_method_54_code, exceptionTable := #[], attributes := #[] }
def k7m3 : Method := { name := "length", desc := "()I", sig := { parameters := [], returnType := some .int }, accessFlags := 1, code := some k7c3 }
def k7c4 : Code := { maxStack := 2, maxLocals := 2, code := jdk_42_method_56_code, exceptionTable := #[], attributes := #[] }
def k7m4 : Method := { name := "charAt", desc := "(I)C", sig := { parameters := [.int], returnType := some .char }, accessFlags := 1, code := some k7c4 }
def k7c5 : Code := { maxStack := 2, maxLocals := 3, code := jdk_42_method_66_code, exceptionTable := #[], attributes := #[] }
def k7m5 : Method := { name := "equals", desc := "(Ljava/lang/Object;)Z", sig := { parameters := [(.object "java/lang/Object")], returnType := some .boolean }, accessFlags := 1, code := some k7c5 }
def k7c6 : Code := { maxStack := 5, maxLocals := 4, code := jdk_42_method_147_code, exceptionTable := #[], attributes := #[] }
def k7m6 : Method := { name := "getBytes", desc := "([BIB)V", sig := { parameters := [(.array .byte), .int, .byte], returnType := none }, accessFlags := 0, code := some k7c6 }
def k7c7 : Code := { maxStack := 4, maxLocals := 6, code := jdk_42_method_149_code, exceptionTable := #[], attributes := #[] }
def k7m7 : Method := { name := "<init>", desc := "([CIILjava/lang/Void;)V", sig := { parameters := [(.array .char), .int, .int, (.object "java/lang/Void")], returnType := none }, accessFlags := 2, code := some k7c7 }
def k7c8 : Code := { maxStack := 5, maxLocals := 5, code := jdk_42_method_150_code, exceptionTable := #[], attributes := #[] }
def k7m8 : Method := { name := "<init>", desc := "(Ljava/lang/AbstractStringBuilder;Ljava/lang/Void;)V", sig := { parameters := [(.object "java/lang/AbstractStringBuilder"), (.object "java/lang/Void")], returnType := none }, accessFlags := 0, code := some k7c8 }
def k7c9 : Code := { maxStack := 1, maxLocals := 1, code := jdk_42_method_152_code, exceptionTable := #[], attributes := #[] }
def k7m9 : Method := { name := "coder", desc := "()B", sig := { parameters := [], returnType := some .byte }, accessFlags := 0, code := some k7c9 }
def k7c10 : Code := { maxStack := 1, maxLocals := 1, code := jdk_42_method_154_code, exceptionTable := #[], attributes := #[] }
def k7m10 : Method := { name := "isLatin1", desc := "()Z", sig := { parameters := [], returnType := some .boolean }, accessFlags := 0, code := some k7c10 }
def k7c11 : Code := { maxStack := 3, maxLocals := 2, code := jdk_42_method_155_code, exceptionTable := #[], attributes := #[] }
def k7m11 : Method := { name := "checkIndex", desc := "(II)V", sig := { parameters := [.int, .int], returnType := none }, accessFlags := 8, code := some k7c11 }
/-- java/lang/String -/
def k7 : Class := { plain "java/lang/String" (some 0) with
  accessFlags := 49
  interfaces := #[2, 3, 4, 5, 6]
  cf := some (fileOf pool7 10 #[.nestMembers #[1103]] #[{ accessFlags := 1, nameIndex := 5, descriptorIndex := 6, attributes := #[] }, { accessFlags := 1, nameIndex := 5, descriptorIndex := 1010, attributes := #[] }, { accessFlags := 1, nameIndex := 5, descriptorIndex := 1233, attributes := #[] }, { accessFlags := 1, nameIndex := 507, descriptorIndex := 334, attributes := #[] }, { accessFlags := 1, nameIndex := 497, descriptorIndex := 427, attributes := #[] }, { accessFlags := 1, nameIndex := 543, descriptorIndex := 573, attributes := #[] }, { accessFlags := 0, nameIndex := 532, descriptorIndex := 821, attributes := #[] }, { accessFlags := 2, nameIndex := 5, descriptorIndex := 29, attributes := #[] }, { accessFlags := 0, nameIndex := 5, descriptorIndex := 491, attributes := #[] }, { accessFlags := 0, nameIndex := 17, descriptorIndex := 337, attributes := #[] }, { accessFlags := 0, nameIndex := 494, descriptorIndex := 142, attributes := #[] }, { accessFlags := 8, nameIndex := 501, descriptorIndex := 391, attributes := #[] }] 49 2 #[1106, 1108, 575, 1110, 1112] #[{ accessFlags := 18, nameIndex := 13, descriptorIndex := 14, attributes := #[] }, { accessFlags := 18, nameIndex := 17, descriptorIndex := 18, attributes := #[] }, { accessFlags := 2, nameIndex := 21, descriptorIndex := 22, attributes := #[] }, { accessFlags := 2, nameIndex := 25, descriptorIndex := 26, attributes := #[] }, { accessFlags := 26, nameIndex := 1116, descriptorIndex := 1117, attributes := #[] }, { accessFlags := 24, nameIndex := 40, descriptorIndex := 26, attributes := #[] }, { accessFlags := 26, nameIndex := 1101, descriptorIndex := 1102, attributes := #[] }, { accessFlags := 26, nameIndex := 1121, descriptorIndex := 1122, attributes := #[] }, { accessFlags := 25, nameIndex := 599, descriptorIndex := 600, attributes := #[] }, { accessFlags := 24, nameIndex := 1125, descriptorIndex := 18, attributes := #[] }, { accessFlags := 24, nameIndex := 1127, descriptorIndex := 18, attributes := #[] }])
  fields := #[{ name := "value", type := (.array .byte), accessFlags := 18, slot := 0, constantValue := 0 }, { name := "coder", type := .byte, accessFlags := 18, slot := 1, constantValue := 0 }, { name := "hash", type := .int, accessFlags := 2, slot := 2, constantValue := 0 }, { name := "hashIsZero", type := .boolean, accessFlags := 2, slot := 3, constantValue := 0 }, { name := "serialVersionUID", type := .long, accessFlags := 26, slot := 0, constantValue := 0 }, { name := "COMPACT_STRINGS", type := .boolean, accessFlags := 24, slot := 1, constantValue := 0 }, { name := "serialPersistentFields", type := (.array (.object "java/io/ObjectStreamField")), accessFlags := 26, slot := 2, constantValue := 0 }, { name := "REPL", type := .char, accessFlags := 26, slot := 3, constantValue := 0 }, { name := "CASE_INSENSITIVE_ORDER", type := (.object "java/util/Comparator"), accessFlags := 25, slot := 4, constantValue := 0 }, { name := "LATIN1", type := .byte, accessFlags := 24, slot := 5, constantValue := 0 }, { name := "UTF16", type := .byte, accessFlags := 24, slot := 6, constantValue := 0 }]
  methods := #[k7m0, k7m1, k7m2, k7m3, k7m4, k7m5, k7m6, k7m7, k7m8, k7m9, k7m10, k7m11]
  instanceTypes := #[(.array .byte), .byte, .int, .boolean]
  staticTypes := #[.long, .boolean, (.array (.object "java/io/ObjectStreamField")), .char, (.object "java/util/Comparator"), .byte, .byte]
  resolved := Array.replicate 1451 none
  statics := some 0 }

def pool8 : Array CpInfo := pool [(6, .class_ 8), (1, u "java/lang/Object"), (0, u "<init>"), (0, u "()V"), (1, .class_ 14), (1, u "java/lang/StringUTF16"), (31, u "$assertionsDisabled"), (0, u "Z"), (13, u "HI_BYTE_SHIFT"), (0, u "I"), (2, u "LO_BYTE_SHIFT"), (49, .methodref 12 116), (0, .nameAndType 117 118), (0, u "compress"), (0, u "([CI[BII)I"), (3, u "([CII)[B"), (138, u "coderFromArrayLen"), (0, u "([BI)B"), (106, .class_ 371), (1, u "java/lang/StringUTF16$LinesSpliterator"), (58, u "MAX_LENGTH"), (196, .class_ 628), (0, u "java/lang/StringUTF16$CodePointsSpliterator"), (0, .class_ 630), (0, u "java/lang/StringUTF16$CharsSpliterator")] 4

def k8m0 : Method := { name := "<init>", desc := "()V", sig := { parameters := [], returnType := none }, accessFlags := 0, code := none }
def k8c1 : Code := { maxStack := 2, maxLocals := 2, code := jdk_52_method_15_code, exceptionTable := #[], attributes := #[] }
def k8m1 : Method := { name := "coderFromArrayLen", desc := "([BI)B", sig := { parameters := [(.array .byte), .int], returnType := some .byte }, accessFlags := 8, code := some k8c1 }
def k8c2 : Code := { maxStack := 5, maxLocals := 6, code := jdk_52_method_16_code, exceptionTable := #[], attributes := #[] }
def k8m2 : Method := { name := "compress", desc := "([CII)[B", sig := { parameters := [(.array .char), .int, .int], returnType := some (.array .byte) }, accessFlags := 9, code := some k8c2 }
def k8c3 : Code := { maxStack := 3, maxLocals := 7, code := jdk_52_method_21_code, exceptionTable := #[], attributes := #[] }
def k8m3 : Method := { name := "compress", desc := "([CI[BII)I", sig := { parameters := [(.array .char), .int, (.array .byte), .int, .int], returnType := some .int }, accessFlags := 9, code := some k8c3 }
/-- java/lang/StringUTF16 -/
def k8 : Class := { plain "java/lang/StringUTF16" (some 0) with
  accessFlags := 48
  interfaces := #[]
  cf := some (fileOf pool8 12 #[.nestMembers #[627, 629, 369]] #[{ accessFlags := 0, nameIndex := 9, descriptorIndex := 10, attributes := #[] }, { accessFlags := 8, nameIndex := 261, descriptorIndex := 262, attributes := #[] }, { accessFlags := 9, nameIndex := 117, descriptorIndex := 122, attributes := #[] }, { accessFlags := 9, nameIndex := 117, descriptorIndex := 118, attributes := #[] }] 48 6 #[] #[{ accessFlags := 26, nameIndex := 61, descriptorIndex := 62, attributes := #[] }, { accessFlags := 26, nameIndex := 65, descriptorIndex := 62, attributes := #[] }, { accessFlags := 24, nameIndex := 430, descriptorIndex := 62, attributes := #[] }, { accessFlags := 4120, nameIndex := 46, descriptorIndex := 47, attributes := #[] }])
  fields := #[{ name := "HI_BYTE_SHIFT", type := .int, accessFlags := 26, slot := 0, constantValue := 0 }, { name := "LO_BYTE_SHIFT", type := .int, accessFlags := 26, slot := 1, constantValue := 0 }, { name := "MAX_LENGTH", type := .int, accessFlags := 24, slot := 2, constantValue := 0 }, { name := "$assertionsDisabled", type := .boolean, accessFlags := 4120, slot := 3, constantValue := 0 }]
  methods := #[k8m0, k8m1, k8m2, k8m3]
  instanceTypes := #[]
  staticTypes := #[.int, .int, .int, .boolean]
  resolved := Array.replicate 635 none
  statics := none }

def pool9 : Array CpInfo := pool [(2, .class_ 4), (0, .nameAndType 5 6), (0, u "java/lang/Object"), (0, u "<init>"), (0, u "()V"), (6, .class_ 14), (0, u "com/example/coffer/coffer/Ledger"), (16, .class_ 32), (0, u "com/example/coffer/coffer/Ledger$Poster"), (24, .class_ 58), (0, u "java/lang/StringBuilder"), (0, .methodref 57 3), (2, .methodref 57 63), (0, .nameAndType 64 65), (0, u "append"), (0, u "(Ljava/lang/String;)Ljava/lang/StringBuilder;"), (2, u "EXACT_SUM"), (0, u "Ljava/lang/String;"), (2, .methodref 57 73), (0, .nameAndType 74 75), (0, u "toString"), (0, u "()Ljava/lang/String;"), (35, u "exactSum"), (18, .class_ 131), (0, u "com/example/coffer/coffer/Ledger$Balance"), (9, .class_ 142), (0, u "com/example/coffer/coffer/Ledger$Total"), (15, .class_ 159), (0, u "com/example/coffer/coffer/Ledger$TrialBalance"), (34, .class_ 195), (0, u "com/example/coffer/coffer/Ledger$Transaction"), (10, .class_ 207), (0, u "com/example/coffer/coffer/Ledger$Posting"), (14, .class_ 223), (0, u "com/example/coffer/coffer/Ledger$Movement"), (27, .string 252), (0, u "("), (0, .string 254), (0, u ")"), (0, .string 256), (0, u "SUM("), (0, .string 258), (0, u " / 1000000000000000), SUM("), (0, .string 260), (0, u " / 10000000000 % 100000), SUM("), (0, .string 262), (0, u " / 100000 % 100000), SUM("), (0, .string 264), (0, u " % 100000)"), (5, u "Ljava/math/BigInteger;"), (2, u "EXACT_SUM_PART"), (12, u "(Ljava/lang/String;)Ljava/lang/String;"), (2, u "CASH_VND"), (1, u "CASH_FOREIGN"), (0, u "DEMAND_SAVINGS_VND"), (0, u "DEMAND_SAVINGS_FOREIGN"), (0, u "TERM_SAVINGS_VND"), (0, u "TERM_SAVINGS_FOREIGN"), (0, u "INTEREST_PAYABLE_VND"), (0, u "INTEREST_PAYABLE_FOREIGN"), (0, u "PREPAID_INTEREST"), (2, u "INTEREST_EXPENSE"), (2, u "OPENING_CASH"), (2, u "CLOSING_CASH"), (2, u "CASH_DEPOSIT"), (2, u "CASH_WITHDRAWAL"), (2, u "INTEREST_ACCRUAL"), (2, u "INTEREST_CAPITALISED"), (2, u "PERIODIC_INTEREST"), (2, u "EXACT_SUM_COLUMNS"), (0, u "I")] 62

def k9m0 : Method := { name := "<init>", desc := "()V", sig := { parameters := [], returnType := none }, accessFlags := 2, code := none }
def k9c1 : Code := { maxStack := 2, maxLocals := 2, code := prog_19_method_11_code, exceptionTable := #[], attributes := #[] }
def k9m1 : Method := { name := "exactSum", desc := "(Ljava/lang/String;)Ljava/lang/String;", sig := { parameters := [(.object "java/lang/String")], returnType := some (.object "java/lang/String") }, accessFlags := 8, code := some k9c1 }
/-- com/example/coffer/coffer/Ledger -/
def k9 : Class := { plain "com/example/coffer/coffer/Ledger" (some 0) with
  accessFlags := 48
  interfaces := #[]
  cf := some (fileOf pool9 13 #[.nestMembers #[31, 158, 194, 222, 141, 130, 206]] #[{ accessFlags := 2, nameIndex := 5, descriptorIndex := 6, attributes := #[] }, { accessFlags := 8, nameIndex := 111, descriptorIndex := 286, attributes := #[] }] 48 2 #[] #[{ accessFlags := 24, nameIndex := 289, descriptorIndex := 69, attributes := #[] }, { accessFlags := 24, nameIndex := 291, descriptorIndex := 69, attributes := #[] }, { accessFlags := 24, nameIndex := 292, descriptorIndex := 69, attributes := #[] }, { accessFlags := 24, nameIndex := 293, descriptorIndex := 69, attributes := #[] }, { accessFlags := 24, nameIndex := 294, descriptorIndex := 69, attributes := #[] }, { accessFlags := 24, nameIndex := 295, descriptorIndex := 69, attributes := #[] }, { accessFlags := 24, nameIndex := 296, descriptorIndex := 69, attributes := #[] }, { accessFlags := 24, nameIndex := 297, descriptorIndex := 69, attributes := #[] }, { accessFlags := 24, nameIndex := 298, descriptorIndex := 69, attributes := #[] }, { accessFlags := 24, nameIndex := 301, descriptorIndex := 69, attributes := #[] }, { accessFlags := 24, nameIndex := 304, descriptorIndex := 69, attributes := #[] }, { accessFlags := 24, nameIndex := 307, descriptorIndex := 69, attributes := #[] }, { accessFlags := 24, nameIndex := 310, descriptorIndex := 69, attributes := #[] }, { accessFlags := 24, nameIndex := 313, descriptorIndex := 69, attributes := #[] }, { accessFlags := 24, nameIndex := 316, descriptorIndex := 69, attributes := #[] }, { accessFlags := 24, nameIndex := 319, descriptorIndex := 69, attributes := #[] }, { accessFlags := 24, nameIndex := 322, descriptorIndex := 69, attributes := #[] }, { accessFlags := 26, nameIndex := 68, descriptorIndex := 69, attributes := #[] }, { accessFlags := 24, nameIndex := 325, descriptorIndex := 326, attributes := #[] }, { accessFlags := 26, nameIndex := 273, descriptorIndex := 270, attributes := #[] }])
  fields := #[{ name := "CASH_VND", type := (.object "java/lang/String"), accessFlags := 24, slot := 0, constantValue := 0 }, { name := "CASH_FOREIGN", type := (.object "java/lang/String"), accessFlags := 24, slot := 1, constantValue := 0 }, { name := "DEMAND_SAVINGS_VND", type := (.object "java/lang/String"), accessFlags := 24, slot := 2, constantValue := 0 }, { name := "DEMAND_SAVINGS_FOREIGN", type := (.object "java/lang/String"), accessFlags := 24, slot := 3, constantValue := 0 }, { name := "TERM_SAVINGS_VND", type := (.object "java/lang/String"), accessFlags := 24, slot := 4, constantValue := 0 }, { name := "TERM_SAVINGS_FOREIGN", type := (.object "java/lang/String"), accessFlags := 24, slot := 5, constantValue := 0 }, { name := "INTEREST_PAYABLE_VND", type := (.object "java/lang/String"), accessFlags := 24, slot := 6, constantValue := 0 }, { name := "INTEREST_PAYABLE_FOREIGN", type := (.object "java/lang/String"), accessFlags := 24, slot := 7, constantValue := 0 }, { name := "PREPAID_INTEREST", type := (.object "java/lang/String"), accessFlags := 24, slot := 8, constantValue := 0 }, { name := "INTEREST_EXPENSE", type := (.object "java/lang/String"), accessFlags := 24, slot := 9, constantValue := 0 }, { name := "OPENING_CASH", type := (.object "java/lang/String"), accessFlags := 24, slot := 10, constantValue := 0 }, { name := "CLOSING_CASH", type := (.object "java/lang/String"), accessFlags := 24, slot := 11, constantValue := 0 }, { name := "CASH_DEPOSIT", type := (.object "java/lang/String"), accessFlags := 24, slot := 12, constantValue := 0 }, { name := "CASH_WITHDRAWAL", type := (.object "java/lang/String"), accessFlags := 24, slot := 13, constantValue := 0 }, { name := "INTEREST_ACCRUAL", type := (.object "java/lang/String"), accessFlags := 24, slot := 14, constantValue := 0 }, { name := "INTEREST_CAPITALISED", type := (.object "java/lang/String"), accessFlags := 24, slot := 15, constantValue := 0 }, { name := "PERIODIC_INTEREST", type := (.object "java/lang/String"), accessFlags := 24, slot := 16, constantValue := 0 }, { name := "EXACT_SUM", type := (.object "java/lang/String"), accessFlags := 26, slot := 17, constantValue := 0 }, { name := "EXACT_SUM_COLUMNS", type := .int, accessFlags := 24, slot := 18, constantValue := 0 }, { name := "EXACT_SUM_PART", type := (.object "java/math/BigInteger"), accessFlags := 26, slot := 19, constantValue := 0 }]
  methods := #[k9m0, k9m1]
  instanceTypes := #[]
  staticTypes := #[(.object "java/lang/String"), (.object "java/lang/String"), (.object "java/lang/String"), (.object "java/lang/String"), (.object "java/lang/String"), (.object "java/lang/String"), (.object "java/lang/String"), (.object "java/lang/String"), (.object "java/lang/String"), (.object "java/lang/String"), (.object "java/lang/String"), (.object "java/lang/String"), (.object "java/lang/String"), (.object "java/lang/String"), (.object "java/lang/String"), (.object "java/lang/String"), (.object "java/lang/String"), (.object "java/lang/String"), .int, (.object "java/math/BigInteger")]
  resolved := Array.replicate 389 none
  statics := none }

def pool10 : Array CpInfo := pool [(1, .class_ 2), (0, u "java/lang/Appendable"), (0, .class_ 4), (0, u "java/lang/Object")] 9

/-- java/lang/Appendable -/
def k10 : Class := { plain "java/lang/Appendable" (some 0) with
  accessFlags := 1537
  interfaces := #[]
  cf := some (fileOf pool10 1 #[] #[] 1537 3 #[] #[])
  fields := #[]
  methods := #[]
  instanceTypes := #[]
  staticTypes := #[]
  resolved := Array.replicate 14 none
  statics := none }

def pool11 : Array CpInfo := pool [(1, .class_ 2), (0, u "java/lang/String"), (0, .methodref 4 5), (0, .class_ 6), (0, .nameAndType 7 8), (0, u "java/lang/Object"), (0, u "<init>"), (0, u "()V"), (1, .class_ 12), (1, u "java/lang/AbstractStringBuilder"), (0, u "EMPTYVALUE"), (0, u "[B"), (0, .fieldref 10 16), (0, .nameAndType 17 14), (0, u "value"), (0, .fieldref 1 19), (0, .nameAndType 20 21), (0, u "COMPACT_STRINGS"), (0, u "Z"), (0, .fieldref 10 23), (0, .nameAndType 24 25), (0, u "coder"), (0, u "B"), (6, .methodref 1 33), (0, .nameAndType 34 35), (0, u "length"), (0, u "()I"), (3, .integer 2147483647), (0, .methodref 1 41), (0, .nameAndType 24 42), (0, u "()B"), (2, u "append"), (0, u "(Ljava/lang/String;)Ljava/lang/AbstractStringBuilder;"), (1, .class_ 49), (0, u "java/lang/CharSequence"), (19, u "(Ljava/lang/String;)V"), (5, u "maybeLatin1"), (3, .fieldref 10 80), (0, .nameAndType 81 82), (0, u "count"), (0, u "I"), (2, u "isLatin1"), (0, u "()Z"), (13, .methodref 10 101), (0, .nameAndType 102 103), (0, u "ensureCapacityInternal"), (0, u "(I)V"), (0, .methodref 10 105), (0, .nameAndType 106 107), (0, u "newCapacity"), (0, u "(I)I"), (0, .methodref 109 110), (0, .class_ 111), (0, .nameAndType 112 113), (0, u "java/util/Arrays"), (0, u "copyOf"), (0, u "([BI)[B"), (0, .methodref 115 116), (0, .class_ 117), (0, .nameAndType 118 119), (0, u "jdk/internal/util/ArraysSupport"), (0, u "newLength"), (0, u "(III)I"), (88, .methodref 10 209), (0, .nameAndType 210 211), (0, u "putStringAt"), (0, u "(ILjava/lang/String;)V"), (5, u "inflateIfNeededFor"), (2, .nameAndType 221 222), (0, u "getBytes"), (0, u "([BIB)V"), (174, .methodref 10 398), (0, .nameAndType 217 69), (0, .methodref 1 220), (3, u "()[B"), (40, .class_ 445), (0, u "java/lang/Appendable"), (106, u "getValue")] 56

def k11m0 : Method := { name := "<init>", desc := "()V", sig := { parameters := [], returnType := none }, accessFlags := 0, code := none }
def k11c1 : Code := { maxStack := 2, maxLocals := 2, code := jdk_68_method_2_code, exceptionTable := #[], attributes := #[] }
def k11m1 : Method := { name := "<init>", desc := "(I)V", sig := { parameters := [.int], returnType := none }, accessFlags := 0, code := some k11c1 }
def k11c2 : Code := { maxStack := 1, maxLocals := 1, code := jdk_68_method_6_code, exceptionTable := #[], attributes := #[] }
def k11m2 : Method := { name := "length", desc := "()I", sig := { parameters := [], returnType := some .int }, accessFlags := 1, code := some k11c2 }
def k11c3 : Code := { maxStack := 4, maxLocals := 3, code := jdk_68_method_9_code, exceptionTable := #[], attributes := #[] }
def k11m3 : Method := { name := "ensureCapacityInternal", desc := "(I)V", sig := { parameters := [.int], returnType := none }, accessFlags := 2, code := some k11c3 }
def k11c4 : Code := { maxStack := 5, maxLocals := 6, code := jdk_68_method_10_code, exceptionTable := #[], attributes := #[] }
def k11m4 : Method := { name := "newCapacity", desc := "(I)I", sig := { parameters := [.int], returnType := some .int }, accessFlags := 2, code := some k11c4 }
def k11c5 : Code := { maxStack := 3, maxLocals := 3, code := jdk_68_method_22_code, exceptionTable := #[], attributes := #[] }
def k11m5 : Method := { name := "append", desc := "(Ljava/lang/String;)Ljava/lang/AbstractStringBuilder;", sig := { parameters := [(.object "java/lang/String")], returnType := some (.object "java/lang/AbstractStringBuilder") }, accessFlags := 1, code := some k11c5 }
def k11c6 : Code := { maxStack := 1, maxLocals := 1, code := jdk_68_method_64_code, exceptionTable := #[], attributes := #[] }
def k11m6 : Method := { name := "getValue", desc := "()[B", sig := { parameters := [], returnType := some (.array .byte) }, accessFlags := 16, code := some k11c6 }
def k11c7 : Code := { maxStack := 1, maxLocals := 1, code := jdk_68_method_68_code, exceptionTable := #[], attributes := #[] }
def k11m7 : Method := { name := "isLatin1", desc := "()Z", sig := { parameters := [], returnType := some .boolean }, accessFlags := 16, code := some k11c7 }
def k11c8 : Code := { maxStack := 2, maxLocals := 2, code := jdk_68_method_71_code, exceptionTable := #[], attributes := #[] }
def k11m8 : Method := { name := "inflateIfNeededFor", desc := "(Ljava/lang/String;)V", sig := { parameters := [(.object "java/lang/String")], returnType := none }, accessFlags := 2, code := some k11c8 }
def k11c9 : Code := { maxStack := 4, maxLocals := 3, code := jdk_68_method_73_code, exceptionTable := #[], attributes := #[] }
def k11m9 : Method := { name := "putStringAt", desc := "(ILjava/lang/String;)V", sig := { parameters := [.int, (.object "java/lang/String")], returnType := none }, accessFlags := 2, code := some k11c9 }
/-- java/lang/AbstractStringBuilder -/
def k11 : Class := { plain "java/lang/AbstractStringBuilder" (some 0) with
  accessFlags := 1056
  interfaces := #[10, 4]
  cf := some (fileOf pool11 10 #[] #[{ accessFlags := 0, nameIndex := 7, descriptorIndex := 8, attributes := #[] }, { accessFlags := 0, nameIndex := 7, descriptorIndex := 103, attributes := #[] }, { accessFlags := 1, nameIndex := 34, descriptorIndex := 35, attributes := #[] }, { accessFlags := 2, nameIndex := 102, descriptorIndex := 103, attributes := #[] }, { accessFlags := 2, nameIndex := 106, descriptorIndex := 107, attributes := #[] }, { accessFlags := 1, nameIndex := 45, descriptorIndex := 46, attributes := #[] }, { accessFlags := 16, nameIndex := 552, descriptorIndex := 403, attributes := #[] }, { accessFlags := 16, nameIndex := 85, descriptorIndex := 86, attributes := #[] }, { accessFlags := 2, nameIndex := 217, descriptorIndex := 69, attributes := #[] }, { accessFlags := 2, nameIndex := 210, descriptorIndex := 211, attributes := #[] }] 1056 4 #[444, 48] #[{ accessFlags := 0, nameIndex := 17, descriptorIndex := 14, attributes := #[] }, { accessFlags := 0, nameIndex := 24, descriptorIndex := 25, attributes := #[] }, { accessFlags := 0, nameIndex := 75, descriptorIndex := 21, attributes := #[] }, { accessFlags := 0, nameIndex := 81, descriptorIndex := 82, attributes := #[] }, { accessFlags := 26, nameIndex := 13, descriptorIndex := 14, attributes := #[] }])
  fields := #[{ name := "value", type := (.array .byte), accessFlags := 0, slot := 0, constantValue := 0 }, { name := "coder", type := .byte, accessFlags := 0, slot := 1, constantValue := 0 }, { name := "maybeLatin1", type := .boolean, accessFlags := 0, slot := 2, constantValue := 0 }, { name := "count", type := .int, accessFlags := 0, slot := 3, constantValue := 0 }, { name := "EMPTYVALUE", type := (.array .byte), accessFlags := 26, slot := 0, constantValue := 0 }]
  methods := #[k11m0, k11m1, k11m2, k11m3, k11m4, k11m5, k11m6, k11m7, k11m8, k11m9]
  instanceTypes := #[(.array .byte), .byte, .boolean, .int]
  staticTypes := #[(.array .byte)]
  resolved := Array.replicate 609 none
  statics := none }

def pool12 : Array CpInfo := pool [(1, .methodref 2 3), (0, .class_ 4), (0, .nameAndType 5 6), (0, u "java/lang/AbstractStringBuilder"), (0, u "<init>"), (0, u "(I)V"), (11, .class_ 20), (1, u "java/lang/String"), (3, .class_ 26), (1, u "java/lang/StringBuilder"), (0, u "append"), (0, u "(Ljava/lang/String;)Ljava/lang/StringBuilder;"), (0, .methodref 2 30), (0, .nameAndType 27 31), (0, u "(Ljava/lang/String;)Ljava/lang/AbstractStringBuilder;"), (105, .methodref 18 138), (0, .nameAndType 5 139), (0, u "(Ljava/lang/StringBuilder;)V"), (5, u "()V"), (10, u "()I"), (186, .methodref 2 344), (0, .nameAndType 345 156), (0, u "length"), (3, .class_ 350), (0, u "java/lang/Appendable"), (0, .class_ 352), (0, u "java/io/Serializable"), (0, .class_ 354), (0, u "java/lang/Comparable"), (0, .class_ 356), (0, u "java/lang/CharSequence"), (0, u "serialVersionUID"), (0, u "J"), (40, u "toString"), (0, u "()Ljava/lang/String;")] 21

def k12c0 : Code := { maxStack := 2, maxLocals := 1, code := jdk_67_method_1_code, exceptionTable := #[], attributes := #[] }
def k12m0 : Method := { name := "<init>", desc := "()V", sig := { parameters := [], returnType := none }, accessFlags := 1, code := some k12c0 }
def k12c1 : Code := { maxStack := 2, maxLocals := 2, code := jdk_67_method_7_code, exceptionTable := #[], attributes := #[] }
def k12m1 : Method := { name := "append", desc := "(Ljava/lang/String;)Ljava/lang/StringBuilder;", sig := { parameters := [(.object "java/lang/String")], returnType := some (.object "java/lang/StringBuilder") }, accessFlags := 1, code := some k12c1 }
def k12c2 : Code := { maxStack := 3, maxLocals := 1, code := jdk_67_method_42_code, exceptionTable := #[], attributes := #[] }
def k12m2 : Method := { name := "toString", desc := "()Ljava/lang/String;", sig := { parameters := [], returnType := some (.object "java/lang/String") }, accessFlags := 1, code := some k12c2 }
def k12c3 : Code := { maxStack := 1, maxLocals := 1, code := jdk_67_method_93_code, exceptionTable := #[], attributes := #[] }
def k12m3 : Method := { name := "length", desc := "()I", sig := { parameters := [], returnType := some .int }, accessFlags := 4161, code := some k12c3 }
/-- java/lang/StringBuilder -/
def k12 : Class := { plain "java/lang/StringBuilder" (some 11) with
  accessFlags := 49
  interfaces := #[10, 2, 3, 4]
  cf := some (fileOf pool12 24 #[] #[{ accessFlags := 1, nameIndex := 5, descriptorIndex := 145, attributes := #[] }, { accessFlags := 1, nameIndex := 27, descriptorIndex := 28, attributes := #[] }, { accessFlags := 1, nameIndex := 399, descriptorIndex := 400, attributes := #[] }, { accessFlags := 4161, nameIndex := 345, descriptorIndex := 156, attributes := #[] }] 49 2 #[349, 351, 353, 355] #[{ accessFlags := 24, nameIndex := 357, descriptorIndex := 358, attributes := #[] }])
  fields := #[{ name := "serialVersionUID", type := .long, accessFlags := 24, slot := 0, constantValue := 0 }]
  methods := #[k12m0, k12m1, k12m2, k12m3]
  instanceTypes := #[(.array .byte), .byte, .boolean, .int]
  staticTypes := #[.long]
  resolved := Array.replicate 422 none
  statics := none }

def pool13 : Array CpInfo := pool [(2, .class_ 4), (1, u "java/lang/Object"), (0, u "<init>"), (0, u "()V"), (1, .class_ 10), (1, u "java/lang/System"), (0, u "allowSecurityManager"), (0, u "I"), (16, u "cons"), (0, u "Ljava/io/Console;"), (77, .class_ 110), (1, u "java/lang/System$CallersHolder"), (43, u "initialErrStream"), (0, u "Ljava/io/PrintStream;"), (19, u "security"), (0, u "Ljava/lang/SecurityManager;"), (31, .class_ 209), (0, u "java/lang/System$1"), (7, u "props"), (0, u "Ljava/util/Properties;"), (2, u "lineSeparator"), (0, u "Ljava/lang/String;"), (96, .class_ 321), (1, u "java/lang/System$LoggerFinder"), (5, .class_ 328), (0, u "java/lang/System$Logger"), (67, u "err"), (2, u "out"), (91, u "notSupportedJnuEncoding"), (15, u "in"), (17, u "initialIn"), (0, u "Ljava/io/InputStream;"), (35, u "bootLayer"), (0, u "Ljava/lang/ModuleLayer;"), (99, .class_ 664), (0, u "java/lang/System$2"), (9, u "NEVER"), (2, u "MAYBE"), (49, u "arraycopy"), (0, u "(Ljava/lang/Object;ILjava/lang/Object;II)V"), (72, .class_ 802), (0, u "java/lang/System$Logger$Level")] 31

def k13m0 : Method := { name := "<init>", desc := "()V", sig := { parameters := [], returnType := none }, accessFlags := 2, code := none }
def k13m1 : Method := { name := "arraycopy", desc := "(Ljava/lang/Object;ILjava/lang/Object;II)V", sig := { parameters := [(.object "java/lang/Object"), .int, (.object "java/lang/Object"), .int, .int], returnType := none }, accessFlags := 265, code := none }
/-- java/lang/System -/
def k13 : Class := { plain "java/lang/System" (some 0) with
  accessFlags := 49
  interfaces := #[]
  cf := some (fileOf pool13 8 #[.nestMembers #[319, 327, 801, 108, 663, 208]] #[{ accessFlags := 2, nameIndex := 5, descriptorIndex := 6, attributes := #[] }, { accessFlags := 265, nameIndex := 727, descriptorIndex := 728, attributes := #[] }] 49 2 #[] #[{ accessFlags := 25, nameIndex := 507, descriptorIndex := 526, attributes := #[] }, { accessFlags := 25, nameIndex := 399, descriptorIndex := 155, attributes := #[] }, { accessFlags := 25, nameIndex := 396, descriptorIndex := 155, attributes := #[] }, { accessFlags := 10, nameIndex := 525, descriptorIndex := 526, attributes := #[] }, { accessFlags := 26, nameIndex := 674, descriptorIndex := 12, attributes := #[] }, { accessFlags := 26, nameIndex := 677, descriptorIndex := 12, attributes := #[] }, { accessFlags := 10, nameIndex := 11, descriptorIndex := 12, attributes := #[] }, { accessFlags := 74, nameIndex := 175, descriptorIndex := 176, attributes := #[] }, { accessFlags := 10, nameIndex := 491, descriptorIndex := 222, attributes := #[] }, { accessFlags := 74, nameIndex := 29, descriptorIndex := 30, attributes := #[] }, { accessFlags := 74, nameIndex := 154, descriptorIndex := 155, attributes := #[] }, { accessFlags := 10, nameIndex := 217, descriptorIndex := 218, attributes := #[] }, { accessFlags := 10, nameIndex := 221, descriptorIndex := 222, attributes := #[] }, { accessFlags := 8, nameIndex := 562, descriptorIndex := 563, attributes := #[] }])
  fields := #[{ name := "in", type := (.object "java/io/InputStream"), accessFlags := 25, slot := 0, constantValue := 0 }, { name := "out", type := (.object "java/io/PrintStream"), accessFlags := 25, slot := 1, constantValue := 0 }, { name := "err", type := (.object "java/io/PrintStream"), accessFlags := 25, slot := 2, constantValue := 0 }, { name := "initialIn", type := (.object "java/io/InputStream"), accessFlags := 10, slot := 3, constantValue := 0 }, { name := "NEVER", type := .int, accessFlags := 26, slot := 4, constantValue := 0 }, { name := "MAYBE", type := .int, accessFlags := 26, slot := 5, constantValue := 0 }, { name := "allowSecurityManager", type := .int, accessFlags := 10, slot := 6, constantValue := 0 }, { name := "security", type := (.object "java/lang/SecurityManager"), accessFlags := 74, slot := 7, constantValue := 0 }, { name := "notSupportedJnuEncoding", type := (.object "java/lang/String"), accessFlags := 10, slot := 8, constantValue := 0 }, { name := "cons", type := (.object "java/io/Console"), accessFlags := 74, slot := 9, constantValue := 0 }, { name := "initialErrStream", type := (.object "java/io/PrintStream"), accessFlags := 74, slot := 10, constantValue := 0 }, { name := "props", type := (.object "java/util/Properties"), accessFlags := 10, slot := 11, constantValue := 0 }, { name := "lineSeparator", type := (.object "java/lang/String"), accessFlags := 10, slot := 12, constantValue := 0 }, { name := "bootLayer", type := (.object "java/lang/ModuleLayer"), accessFlags := 8, slot := 13, constantValue := 0 }]
  methods := #[k13m0, k13m1]
  instanceTypes := #[]
  staticTypes := #[(.object "java/io/InputStream"), (.object "java/io/PrintStream"), (.object "java/io/PrintStream"), (.object "java/io/InputStream"), .int, .int, .int, (.object "java/lang/SecurityManager"), (.object "java/lang/String"), (.object "java/io/Console"), (.object "java/io/PrintStream"), (.object "java/util/Properties"), (.object "java/lang/String"), (.object "java/lang/ModuleLayer")]
  resolved := Array.replicate 834 none
  statics := none }

def pool14 : Array CpInfo := pool [(2, .class_ 4), (1, u "java/lang/Object"), (0, u "<init>"), (0, u "()V"), (7, .class_ 16), (1, u "java/util/Arrays"), (57, .class_ 76), (1, u "java/util/Arrays$NaturalOrder"), (36, .class_ 115), (1, u "java/util/Arrays$LegacyMergeSort"), (1, u "Z"), (21, u "copyOfRange"), (10, .methodref 151 152), (0, .class_ 153), (0, .nameAndType 154 155), (0, u "java/lang/System"), (0, u "arraycopy"), (0, u "(Ljava/lang/Object;ILjava/lang/Object;II)V"), (146, u "copyOf"), (1, .methodref 305 306), (0, .class_ 307), (0, .nameAndType 308 309), (0, u "java/lang/Math"), (0, u "min"), (0, u "(II)I"), (29, .methodref 14 340), (0, .nameAndType 341 342), (0, u "copyOfRangeByte"), (0, u "([BII)[B"), (0, .methodref 14 344), (0, .nameAndType 345 346), (0, u "checkLength"), (0, u "(II)V"), (28, .class_ 376), (0, u "java/util/Arrays$ArrayList"), (68, u "$assertionsDisabled"), (269, u "MIN_ARRAY_SORT_GRAN"), (0, u "I"), (2, u "INSERTIONSORT_THRESHOLD"), (149, u "([BI)[B"), (105, .class_ 976), (0, u "java/util/Arrays$ArrayItr")] 52

def k14m0 : Method := { name := "<init>", desc := "()V", sig := { parameters := [], returnType := none }, accessFlags := 2, code := none }
def k14c1 : Code := { maxStack := 6, maxLocals := 3, code := jdk_65_method_121_code, exceptionTable := #[], attributes := #[] }
def k14m1 : Method := { name := "copyOf", desc := "([BI)[B", sig := { parameters := [(.array .byte), .int], returnType := some (.array .byte) }, accessFlags := 9, code := some k14c1 }
def k14c2 : Code := { maxStack := 4, maxLocals := 2, code := jdk_65_method_131_code, exceptionTable := #[], attributes := #[] }
def k14m2 : Method := { name := "checkLength", desc := "(II)V", sig := { parameters := [.int, .int], returnType := none }, accessFlags := 10, code := some k14c2 }
def k14c3 : Code := { maxStack := 3, maxLocals := 3, code := jdk_65_method_132_code, exceptionTable := #[], attributes := #[] }
def k14m3 : Method := { name := "copyOfRange", desc := "([BII)[B", sig := { parameters := [(.array .byte), .int, .int], returnType := some (.array .byte) }, accessFlags := 9, code := some k14c3 }
def k14c4 : Code := { maxStack := 6, maxLocals := 5, code := jdk_65_method_133_code, exceptionTable := #[], attributes := #[] }
def k14m4 : Method := { name := "copyOfRangeByte", desc := "([BII)[B", sig := { parameters := [(.array .byte), .int, .int], returnType := some (.array .byte) }, accessFlags := 10, code := some k14c4 }
/-- java/util/Arrays -/
def k14 : Class := { plain "java/util/Arrays" (some 0) with
  accessFlags := 49
  interfaces := #[]
  cf := some (fileOf pool14 14 #[.nestMembers #[975, 375, 113, 74]] #[{ accessFlags := 2, nameIndex := 5, descriptorIndex := 6, attributes := #[] }, { accessFlags := 9, nameIndex := 302, descriptorIndex := 869, attributes := #[] }, { accessFlags := 10, nameIndex := 345, descriptorIndex := 346, attributes := #[] }, { accessFlags := 9, nameIndex := 139, descriptorIndex := 342, attributes := #[] }, { accessFlags := 10, nameIndex := 341, descriptorIndex := 342, attributes := #[] }] 49 2 #[] #[{ accessFlags := 26, nameIndex := 715, descriptorIndex := 716, attributes := #[] }, { accessFlags := 26, nameIndex := 719, descriptorIndex := 716, attributes := #[] }, { accessFlags := 4120, nameIndex := 445, descriptorIndex := 117, attributes := #[] }])
  fields := #[{ name := "MIN_ARRAY_SORT_GRAN", type := .int, accessFlags := 26, slot := 0, constantValue := 0 }, { name := "INSERTIONSORT_THRESHOLD", type := .int, accessFlags := 26, slot := 1, constantValue := 0 }, { name := "$assertionsDisabled", type := .boolean, accessFlags := 4120, slot := 2, constantValue := 0 }]
  methods := #[k14m0, k14m1, k14m2, k14m3, k14m4]
  instanceTypes := #[]
  staticTypes := #[.int, .int, .boolean]
  resolved := Array.replicate 1029 none
  statics := none }

def pool15 : Array CpInfo := pool [(1, .class_ 2), (0, u "java/lang/Math"), (1, .class_ 6), (1, u "java/lang/Object"), (0, u "<init>"), (0, u "()V"), (89, .class_ 100), (1, u "java/lang/Math$RandomNumberGeneratorHolder"), (71, u "negativeZeroFloatBits"), (0, u "J"), (2, u "negativeZeroDoubleBits"), (21, u "max"), (2, u "min"), (43, u "$assertionsDisabled"), (0, u "Z"), (88, u "(II)I"), (2, u "twoToTheDoubleScaleDown"), (0, u "D"), (4, u "twoToTheDoubleScaleUp"), (9, u "E"), (3, u "PI"), (2, u "TAU"), (2, u "DEGREES_TO_RADIANS"), (0, u "RADIANS_TO_DEGREES")] 94

def k15m0 : Method := { name := "<init>", desc := "()V", sig := { parameters := [], returnType := none }, accessFlags := 2, code := none }
def k15c1 : Code := { maxStack := 2, maxLocals := 2, code := jdk_29_method_65_code, exceptionTable := #[], attributes := #[] }
def k15m1 : Method := { name := "max", desc := "(II)I", sig := { parameters := [.int, .int], returnType := some .int }, accessFlags := 9, code := some k15c1 }
def k15c2 : Code := { maxStack := 2, maxLocals := 2, code := jdk_29_method_69_code, exceptionTable := #[], attributes := #[] }
def k15m2 : Method := { name := "min", desc := "(II)I", sig := { parameters := [.int, .int], returnType := some .int }, accessFlags := 9, code := some k15c2 }
/-- java/lang/Math -/
def k15 : Class := { plain "java/lang/Math" (some 0) with
  accessFlags := 49
  interfaces := #[]
  cf := some (fileOf pool15 1 #[.nestMembers #[98]] #[{ accessFlags := 2, nameIndex := 7, descriptorIndex := 8, attributes := #[] }, { accessFlags := 9, nameIndex := 198, descriptorIndex := 335, attributes := #[] }, { accessFlags := 9, nameIndex := 201, descriptorIndex := 335, attributes := #[] }] 49 4 #[] #[{ accessFlags := 25, nameIndex := 354, descriptorIndex := 339, attributes := #[] }, { accessFlags := 25, nameIndex := 358, descriptorIndex := 339, attributes := #[] }, { accessFlags := 25, nameIndex := 361, descriptorIndex := 339, attributes := #[] }, { accessFlags := 26, nameIndex := 364, descriptorIndex := 339, attributes := #[] }, { accessFlags := 26, nameIndex := 365, descriptorIndex := 339, attributes := #[] }, { accessFlags := 26, nameIndex := 172, descriptorIndex := 173, attributes := #[] }, { accessFlags := 26, nameIndex := 176, descriptorIndex := 173, attributes := #[] }, { accessFlags := 8, nameIndex := 344, descriptorIndex := 339, attributes := #[] }, { accessFlags := 8, nameIndex := 338, descriptorIndex := 339, attributes := #[] }, { accessFlags := 4120, nameIndex := 245, descriptorIndex := 246, attributes := #[] }])
  fields := #[{ name := "E", type := .double, accessFlags := 25, slot := 0, constantValue := 0 }, { name := "PI", type := .double, accessFlags := 25, slot := 1, constantValue := 0 }, { name := "TAU", type := .double, accessFlags := 25, slot := 2, constantValue := 0 }, { name := "DEGREES_TO_RADIANS", type := .double, accessFlags := 26, slot := 3, constantValue := 0 }, { name := "RADIANS_TO_DEGREES", type := .double, accessFlags := 26, slot := 4, constantValue := 0 }, { name := "negativeZeroFloatBits", type := .long, accessFlags := 26, slot := 5, constantValue := 0 }, { name := "negativeZeroDoubleBits", type := .long, accessFlags := 26, slot := 6, constantValue := 0 }, { name := "twoToTheDoubleScaleUp", type := .double, accessFlags := 8, slot := 7, constantValue := 0 }, { name := "twoToTheDoubleScaleDown", type := .double, accessFlags := 8, slot := 8, constantValue := 0 }, { name := "$assertionsDisabled", type := .boolean, accessFlags := 4120, slot := 9, constantValue := 0 }]
  methods := #[k15m0, k15m1, k15m2]
  instanceTypes := #[]
  staticTypes := #[.double, .double, .double, .double, .double, .long, .long, .double, .double, .boolean]
  resolved := Array.replicate 460 none
  statics := none }

def pool16 : Array CpInfo := pool [(9, u "<init>"), (6, .class_ 18), (1, u "java/lang/Object"), (0, u "()V"), (1, .class_ 23), (1, u "jdk/internal/util/ArraysSupport"), (0, u "LOG2_ARRAY_LONG_INDEX_SCALE"), (0, u "I"), (2, u "U"), (0, u "Ljdk/internal/misc/Unsafe;"), (8, u "BIG_ENDIAN"), (0, u "Z"), (8, u "LOG2_BYTE_BIT_SIZE"), (4, u "LOG2_ARRAY_INT_INDEX_SCALE"), (54, u "JLA"), (0, u "Ljdk/internal/access/JavaLangAccess;"), (11, u "LOG2_ARRAY_BOOLEAN_INDEX_SCALE"), (9, u "LOG2_ARRAY_BYTE_INDEX_SCALE"), (5, u "LOG2_ARRAY_CHAR_INDEX_SCALE"), (5, u "LOG2_ARRAY_SHORT_INDEX_SCALE"), (18, u "LOG2_ARRAY_FLOAT_INDEX_SCALE"), (24, u "LOG2_ARRAY_DOUBLE_INDEX_SCALE"), (6, .methodref 195 196), (0, .class_ 197), (0, .nameAndType 198 199), (0, u "java/lang/Math"), (0, u "max"), (0, u "(II)I"), (0, .integer 2147483639), (76, u "T_BOOLEAN"), (2, u "T_CHAR"), (1, u "T_FLOAT"), (1, u "T_DOUBLE"), (1, u "T_BYTE"), (1, u "T_SHORT"), (1, u "T_INT"), (1, u "T_LONG"), (1, u "SOFT_MAX_ARRAY_LENGTH"), (56, u "newLength"), (0, u "(III)I")] 25

def k16m0 : Method := { name := "<init>", desc := "()V", sig := { parameters := [], returnType := none }, accessFlags := 2, code := none }
def k16c1 : Code := { maxStack := 3, maxLocals := 4, code := jdk_48_method_27_code, exceptionTable := #[], attributes := #[] }
def k16m1 : Method := { name := "newLength", desc := "(III)I", sig := { parameters := [.int, .int, .int], returnType := some .int }, accessFlags := 9, code := some k16c1 }
/-- jdk/internal/util/ArraysSupport -/
def k16 : Class := { plain "jdk/internal/util/ArraysSupport" (some 0) with
  accessFlags := 33
  interfaces := #[]
  cf := some (fileOf pool16 21 #[] #[{ accessFlags := 2, nameIndex := 9, descriptorIndex := 19, attributes := #[] }, { accessFlags := 9, nameIndex := 351, descriptorIndex := 352, attributes := #[] }] 33 16 #[] #[{ accessFlags := 24, nameIndex := 28, descriptorIndex := 29, attributes := #[] }, { accessFlags := 26, nameIndex := 38, descriptorIndex := 39, attributes := #[] }, { accessFlags := 25, nameIndex := 121, descriptorIndex := 25, attributes := #[] }, { accessFlags := 25, nameIndex := 131, descriptorIndex := 25, attributes := #[] }, { accessFlags := 25, nameIndex := 137, descriptorIndex := 25, attributes := #[] }, { accessFlags := 25, nameIndex := 143, descriptorIndex := 25, attributes := #[] }, { accessFlags := 25, nameIndex := 53, descriptorIndex := 25, attributes := #[] }, { accessFlags := 25, nameIndex := 24, descriptorIndex := 25, attributes := #[] }, { accessFlags := 25, nameIndex := 162, descriptorIndex := 25, attributes := #[] }, { accessFlags := 25, nameIndex := 187, descriptorIndex := 25, attributes := #[] }, { accessFlags := 26, nameIndex := 48, descriptorIndex := 25, attributes := #[] }, { accessFlags := 25, nameIndex := 277, descriptorIndex := 25, attributes := #[] }, { accessFlags := 25, nameIndex := 280, descriptorIndex := 25, attributes := #[] }, { accessFlags := 25, nameIndex := 282, descriptorIndex := 25, attributes := #[] }, { accessFlags := 25, nameIndex := 284, descriptorIndex := 25, attributes := #[] }, { accessFlags := 25, nameIndex := 286, descriptorIndex := 25, attributes := #[] }, { accessFlags := 25, nameIndex := 288, descriptorIndex := 25, attributes := #[] }, { accessFlags := 25, nameIndex := 290, descriptorIndex := 25, attributes := #[] }, { accessFlags := 25, nameIndex := 292, descriptorIndex := 25, attributes := #[] }, { accessFlags := 26, nameIndex := 108, descriptorIndex := 109, attributes := #[] }, { accessFlags := 25, nameIndex := 294, descriptorIndex := 25, attributes := #[] }])
  fields := #[{ name := "U", type := (.object "jdk/internal/misc/Unsafe"), accessFlags := 24, slot := 0, constantValue := 0 }, { name := "BIG_ENDIAN", type := .boolean, accessFlags := 26, slot := 1, constantValue := 0 }, { name := "LOG2_ARRAY_BOOLEAN_INDEX_SCALE", type := .int, accessFlags := 25, slot := 2, constantValue := 0 }, { name := "LOG2_ARRAY_BYTE_INDEX_SCALE", type := .int, accessFlags := 25, slot := 3, constantValue := 0 }, { name := "LOG2_ARRAY_CHAR_INDEX_SCALE", type := .int, accessFlags := 25, slot := 4, constantValue := 0 }, { name := "LOG2_ARRAY_SHORT_INDEX_SCALE", type := .int, accessFlags := 25, slot := 5, constantValue := 0 }, { name := "LOG2_ARRAY_INT_INDEX_SCALE", type := .int, accessFlags := 25, slot := 6, constantValue := 0 }, { name := "LOG2_ARRAY_LONG_INDEX_SCALE", type := .int, accessFlags := 25, slot := 7, constantValue := 0 }, { name := "LOG2_ARRAY_FLOAT_INDEX_SCALE", type := .int, accessFlags := 25, slot := 8, constantValue := 0 }, { name := "LOG2_ARRAY_DOUBLE_INDEX_SCALE", type := .int, accessFlags := 25, slot := 9, constantValue := 0 }, { name := "LOG2_BYTE_BIT_SIZE", type := .int, accessFlags := 26, slot := 10, constantValue := 0 }, { name := "T_BOOLEAN", type := .int, accessFlags := 25, slot := 11, constantValue := 0 }, { name := "T_CHAR", type := .int, accessFlags := 25, slot := 12, constantValue := 0 }, { name := "T_FLOAT", type := .int, accessFlags := 25, slot := 13, constantValue := 0 }, { name := "T_DOUBLE", type := .int, accessFlags := 25, slot := 14, constantValue := 0 }, { name := "T_BYTE", type := .int, accessFlags := 25, slot := 15, constantValue := 0 }, { name := "T_SHORT", type := .int, accessFlags := 25, slot := 16, constantValue := 0 }, { name := "T_INT", type := .int, accessFlags := 25, slot := 17, constantValue := 0 }, { name := "T_LONG", type := .int, accessFlags := 25, slot := 18, constantValue := 0 }, { name := "JLA", type := (.object "jdk/internal/access/JavaLangAccess"), accessFlags := 26, slot := 19, constantValue := 0 }, { name := "SOFT_MAX_ARRAY_LENGTH", type := .int, accessFlags := 25, slot := 20, constantValue := 0 }]
  methods := #[k16m0, k16m1]
  instanceTypes := #[]
  staticTypes := #[(.object "jdk/internal/misc/Unsafe"), .boolean, .int, .int, .int, .int, .int, .int, .int, .int, .int, .int, .int, .int, .int, .int, .int, .int, .int, (.object "jdk/internal/access/JavaLangAccess"), .int]
  resolved := Array.replicate 378 none
  statics := none }

def pool17 : Array CpInfo := pool [(1, .class_ 2), (0, u "java/lang/String"), (1, .class_ 6), (1, u "java/lang/Object"), (0, u "<init>"), (0, u "()V"), (0, .methodref 1 10), (0, .nameAndType 11 12), (0, u "checkIndex"), (0, u "(II)V"), (1, .class_ 16), (1, u "java/lang/StringLatin1"), (36, u "([BI)C"), (67, u "$assertionsDisabled"), (0, u "Z"), (98, .class_ 223), (1, u "java/lang/StringLatin1$LinesSpliterator"), (28, u "charAt"), (28, u "equals"), (0, u "([B[B)Z"), (107, .class_ 391), (0, u "java/lang/StringLatin1$CharsSpliterator")] 3

def k17m0 : Method := { name := "<init>", desc := "()V", sig := { parameters := [], returnType := none }, accessFlags := 0, code := none }
def k17c1 : Code := { maxStack := 2, maxLocals := 2, code := jdk_43_method_2_code, exceptionTable := #[], attributes := #[] }
def k17m1 : Method := { name := "charAt", desc := "([BI)C", sig := { parameters := [(.array .byte), .int], returnType := some .char }, accessFlags := 9, code := some k17c1 }
def k17c2 : Code := { maxStack := 3, maxLocals := 3, code := jdk_43_method_13_code, exceptionTable := #[], attributes := #[] }
def k17m2 : Method := { name := "equals", desc := "([B[B)Z", sig := { parameters := [(.array .byte), (.array .byte)], returnType := some .boolean }, accessFlags := 9, code := some k17c2 }
/-- java/lang/StringLatin1 -/
def k17 : Class := { plain "java/lang/StringLatin1" (some 0) with
  accessFlags := 48
  interfaces := #[]
  cf := some (fileOf pool17 14 #[.nestMembers #[390, 221]] #[{ accessFlags := 0, nameIndex := 7, descriptorIndex := 8, attributes := #[] }, { accessFlags := 9, nameIndex := 252, descriptorIndex := 53, attributes := #[] }, { accessFlags := 9, nameIndex := 281, descriptorIndex := 282, attributes := #[] }] 48 4 #[] #[{ accessFlags := 4120, nameIndex := 121, descriptorIndex := 122, attributes := #[] }])
  fields := #[{ name := "$assertionsDisabled", type := .boolean, accessFlags := 4120, slot := 0, constantValue := 0 }]
  methods := #[k17m0, k17m1, k17m2]
  instanceTypes := #[]
  staticTypes := #[.boolean]
  resolved := Array.replicate 395 none
  statics := none }

def pool18 : Array CpInfo := pool [(2, .class_ 4), (1, u "java/lang/Object"), (0, u "<init>"), (0, u "()V"), (17, .class_ 26), (1, u "jdk/internal/util/Preconditions"), (6, u "checkIndex"), (21, .class_ 56), (0, u "jdk/internal/util/Preconditions$4"), (57, .class_ 115), (0, u "jdk/internal/util/Preconditions$1"), (7, u "SIOOBE_FORMATTER"), (0, u "Ljava/util/function/BiFunction;"), (0, .class_ 126), (0, u "jdk/internal/util/Preconditions$2"), (3, u "AIOOBE_FORMATTER"), (0, .class_ 132), (0, u "jdk/internal/util/Preconditions$3"), (3, u "IOOBE_FORMATTER"), (41, u "(IILjava/util/function/BiFunction;)I")] 15

def k18m0 : Method := { name := "<init>", desc := "()V", sig := { parameters := [], returnType := none }, accessFlags := 1, code := none }
def k18c1 : Code := { maxStack := 3, maxLocals := 3, code := jdk_41_method_11_code, exceptionTable := #[], attributes := #[] }
def k18m1 : Method := { name := "checkIndex", desc := "(IILjava/util/function/BiFunction;)I", sig := { parameters := [.int, .int, (.object "java/util/function/BiFunction")], returnType := some .int }, accessFlags := 9, code := some k18c1 }
/-- jdk/internal/util/Preconditions -/
def k18 : Class := { plain "jdk/internal/util/Preconditions" (some 0) with
  accessFlags := 33
  interfaces := #[]
  cf := some (fileOf pool18 24 #[.nestMembers #[55, 131, 125, 114]] #[{ accessFlags := 1, nameIndex := 5, descriptorIndex := 6, attributes := #[] }, { accessFlags := 9, nameIndex := 33, descriptorIndex := 178, attributes := #[] }] 33 2 #[] #[{ accessFlags := 25, nameIndex := 123, descriptorIndex := 124, attributes := #[] }, { accessFlags := 25, nameIndex := 130, descriptorIndex := 124, attributes := #[] }, { accessFlags := 25, nameIndex := 136, descriptorIndex := 124, attributes := #[] }])
  fields := #[{ name := "SIOOBE_FORMATTER", type := (.object "java/util/function/BiFunction"), accessFlags := 25, slot := 0, constantValue := 0 }, { name := "AIOOBE_FORMATTER", type := (.object "java/util/function/BiFunction"), accessFlags := 25, slot := 1, constantValue := 0 }, { name := "IOOBE_FORMATTER", type := (.object "java/util/function/BiFunction"), accessFlags := 25, slot := 2, constantValue := 0 }]
  methods := #[k18m0, k18m1]
  instanceTypes := #[]
  staticTypes := #[(.object "java/util/function/BiFunction"), (.object "java/util/function/BiFunction"), (.object "java/util/function/BiFunction")]
  resolved := Array.replicate 194 none
  statics := some 1 }

def pool19 : Array CpInfo := pool [(1, u "java/lang/Cloneable"), (0, .class_ 1), (0, u "java/lang/Object"), (0, .class_ 3)] 3

/-- java/lang/Cloneable -/
def k19 : Class := { plain "java/lang/Cloneable" (some 0) with
  accessFlags := 1537
  interfaces := #[]
  cf := some (fileOf pool19 2 #[] #[] 1537 4 #[] #[])
  fields := #[]
  methods := #[]
  instanceTypes := #[]
  staticTypes := #[]
  resolved := Array.replicate 8 none
  statics := none }

/-- the primitive byte -/
def k20 : Class := { plain "byte" none with kind := .primitive 'B', accessFlags := 0x411 }
/-- [B -/
def k21 : Class := { plain "[B" (some 0) with kind := .array 20 .byte, interfaces := #[19, 2], accessFlags := 1041 }

/-- the primitive char -/
def k22 : Class := { plain "char" none with kind := .primitive 'C', accessFlags := 0x411 }
/-- [C -/
def k23 : Class := { plain "[C" (some 0) with kind := .array 22 .char, interfaces := #[19, 2], accessFlags := 1041 }

/-- the primitive int -/
def k24 : Class := { plain "int" none with kind := .primitive 'I', accessFlags := 0x411 }
/-- [I -/
def k25 : Class := { plain "[I" (some 0) with kind := .array 24 .int, interfaces := #[19, 2], accessFlags := 1041 }

def heap : Heap := #[{ cls := 7, slots := #[.long 0, .int 1, .null, .int 0, .null, .int 0, .int 0], vm := .statics 7 },
  { cls := 18, slots := #[.null, .null, .null], vm := .statics 18 }]
def classes : Array Class := #[k0, k1, k2, k3, k4, k5, k6, k7, k8, k9, k10, k11, k12, k13, k14, k15, k16, k17, k18, k19, k20, k21, k22, k23, k24, k25]
def interned : List (Array UInt16 × Addr) := []
def slotsUsed : Nat := 10
def theMethod : MethodId := ⟨1, 1⟩
def args0 : Array Value := #[.int 5, .int 1, .int 2, .int 3]
def aboutOver (below : List Frame) : State where
  vm := { classes := classes, interned := interned.toArray }
  heap := heap
  slotsUsed := slotsUsed
  threads := #[{ frames := .invoking theMethod args0 :: below }]
def below0 : List Frame := [.native { method := ⟨0, 0⟩, args := #[] }]
def about1 : State := aboutOver below0
def p0 : Program := .bare "" "" ""
def e0 : Env := launch0.env 0 0 0
theorem w_frames : about1.frames = Frame.invoking theMethod args0 :: below0 := rfl
set_option maxRecDepth 65536 in
theorem w_args : argsFit about1.vm theMethod args0 = true := by decide +kernel
set_option maxRecDepth 65536 in
theorem w_heap : heapFits about1 = true := by decide +kernel
set_option maxRecDepth 65536 in
theorem w_runnable : about1.curStatus? = some .runnable := by decide +kernel
set_option maxRecDepth 65536 in
theorem w_alone : about1.alone = true := by decide +kernel
set_option maxRecDepth 65536 in
theorem w_named : about1.methodNamed? x = some theMethod := by decide +kernel
set_option maxRecDepth 65536 in
theorem w_hears : about1.hears theMethod below0 = true := by decide +kernel
set_option maxRecDepth 65536 in
theorem w_ripe : about1.ripe theMethod args0 below0 = true := by decide +kernel
theorem w_running : about1.status = .running := rfl
set_option maxRecDepth 65536 in
theorem w_room : about1.hasRoom e0.platform room_1 = true :=
  launch0.hasRoom_least _ room_1 (by decide +kernel) (by decide +kernel) (by decide +kernel) (by decide +kernel) (by decide +kernel) (by decide +kernel)
theorem allAtoms_all (ts : List Jvm.Cond) (a : Array Jvm.Value) (st : Jvm.State) : (allAtoms ts).before a st = ts.all (fun c => c.before a st) := by
  induction ts with
  | nil => rfl
  | cons c t ih =>
    show (Jvm.Cond.and c (allAtoms t)).before a st = _
    rw [Jvm.Cond.before_and, ih, List.all_cons]
def words1 : List Jvm.Cond := Jvm.Cond.code x code maxLocals ret :: tables_1
/-- a 'code' word, met by the world's own term for the bytes: nothing is compared byte by byte -/
theorem code_word {y : MethodName} {bytes : ByteArray} {mx : Nat} {rt : Option FieldType} {a : Array Value} {s : State} {m : MethodId} {meth : Method} {c : Code} (h1 : s.methodNamed? y = some m) (h2 : s.vm.method? m = some meth) (h3 : meth.code = some c) (h4 : c.code = bytes)
    (h5 : (c.maxLocals == mx && c.exceptionTable.isEmpty && decide (c.maxStack ≤ mostOperands) && decide (meth.sig.returnType = rt) && !meth.locks && decide (parseMethodDescriptor y.desc = some meth.sig)) = true) : (Jvm.Cond.code y bytes mx rt).before a s = true := by
  simp only [Bool.and_eq_true, beq_iff_eq, Bool.not_eq_true', decide_eq_true_eq] at h5
  obtain ⟨⟨⟨⟨⟨g1, g2⟩, g3⟩, g4⟩, g5⟩, g6⟩ := h5
  simp [Cond.before, Cond.holds, Cond.value, h1, h2, h3, h4, g1, g2, g3, g4, g5, g6]
def isCode : Jvm.Cond → Bool
  | .code _ _ _ _ => true
  | _ => false
theorem all_split {L : List Jvm.Cond} {P : Jvm.Cond → Bool} (h1 : L.all (fun c => isCode c || P c) = true) (h2 : ∀ c ∈ L.filter isCode, P c = true) : L.all P = true := by
  refine List.all_eq_true.mpr fun c hc => ?_
  have h := List.all_eq_true.mp h1 c hc
  rcases Bool.eq_false_or_eq_true (isCode c) with hi | hi
  · exact h2 c (List.mem_filter.mpr ⟨hc, hi⟩)
  · simpa [hi] using h
set_option maxRecDepth 65536 in
theorem w_c0 : (Jvm.Cond.code x code maxLocals ret).before args0 about1 = true := code_word (m := ⟨1, 1⟩) (meth := k1m1) (c := k1c1) (by decide +kernel) rfl rfl rfl (by decide +kernel)
set_option maxRecDepth 65536 in
theorem w_c1 : (Jvm.Cond.code ({ cls := "com/example/coffer/coffer/LedgerExactSumPinLaw", name := "draw", desc := "(ICCC)Ljava/lang/String;" } : Jvm.MethodName) method_3_code (4 : Nat) (Option.some (Jvm.ClassFile.FieldType.object "java/lang/String"))).before args0 about1 = true := code_word (m := ⟨1, 2⟩) (meth := k1m2) (c := k1c2) (by decide +kernel) rfl rfl rfl (by decide +kernel)
set_option maxRecDepth 65536 in
theorem w_c2 : (Jvm.Cond.code ({ cls := "java/lang/String", name := "<init>", desc := "([C)V" } : Jvm.MethodName) jdk_42_method_3_code (2 : Nat) (Option.none : Option Jvm.ClassFile.FieldType)).before args0 about1 = true := code_word (m := ⟨7, 1⟩) (meth := k7m1) (c := k7c1) (by decide +kernel) rfl rfl rfl (by decide +kernel)
set_option maxRecDepth 65536 in
theorem w_c3 : (Jvm.Cond.code ({ cls := "java/lang/String", name := "<init>", desc := "([CIILjava/lang/Void;)V" } : Jvm.MethodName) jdk_42_method_149_code (6 : Nat) (Option.none : Option Jvm.ClassFile.FieldType)).before args0 about1 = true := code_word (m := ⟨7, 7⟩) (meth := k7m7) (c := k7c7) (by decide +kernel) rfl rfl rfl (by decide +kernel)
set_option maxRecDepth 65536 in
theorem w_c4 : (Jvm.Cond.code ({ cls := "java/lang/Object", name := "<init>", desc := "()V" } : Jvm.MethodName) object_method_1_code (1 : Nat) (Option.none : Option Jvm.ClassFile.FieldType)).before args0 about1 = true := code_word (m := ⟨0, 0⟩) (meth := k0m0) (c := k0c0) (by decide +kernel) rfl rfl rfl (by decide +kernel)
set_option maxRecDepth 65536 in
theorem w_c5 : (Jvm.Cond.code ({ cls := "java/lang/StringUTF16", name := "compress", desc := "([CII)[B" } : Jvm.MethodName) jdk_52_method_16_code (6 : Nat) (Option.some (Jvm.ClassFile.FieldType.array Jvm.ClassFile.FieldType.byte))).before args0 about1 = true := code_word (m := ⟨8, 2⟩) (meth := k8m2) (c := k8c2) (by decide +kernel) rfl rfl rfl (by decide +kernel)
set_option maxRecDepth 65536 in
theorem w_c6 : (Jvm.Cond.code ({ cls := "java/lang/StringUTF16", name := "compress", desc := "([CI[BII)I" } : Jvm.MethodName) jdk_52_method_21_code (7 : Nat) (Option.some Jvm.ClassFile.FieldType.int)).before args0 about1 = true := code_word (m := ⟨8, 3⟩) (meth := k8m3) (c := k8c3) (by decide +kernel) rfl rfl rfl (by decide +kernel)
set_option maxRecDepth 65536 in
theorem w_c7 : (Jvm.Cond.code ({ cls := "java/lang/StringUTF16", name := "coderFromArrayLen", desc := "([BI)B" } : Jvm.MethodName) jdk_52_method_15_code (2 : Nat) (Option.some Jvm.ClassFile.FieldType.byte)).before args0 about1 = true := code_word (m := ⟨8, 1⟩) (meth := k8m1) (c := k8c1) (by decide +kernel) rfl rfl rfl (by decide +kernel)
set_option maxRecDepth 65536 in
theorem w_c8 : (Jvm.Cond.code ({ cls := "com/example/coffer/coffer/Ledger", name := "exactSum", desc := "(Ljava/lang/String;)Ljava/lang/String;" } : Jvm.MethodName) prog_19_method_11_code (2 : Nat) (Option.some (Jvm.ClassFile.FieldType.object "java/lang/String"))).before args0 about1 = true := code_word (m := ⟨9, 1⟩) (meth := k9m1) (c := k9c1) (by decide +kernel) rfl rfl rfl (by decide +kernel)
set_option maxRecDepth 65536 in
theorem w_c9 : (Jvm.Cond.code ({ cls := "java/lang/StringBuilder", name := "<init>", desc := "()V" } : Jvm.MethodName) jdk_67_method_1_code (1 : Nat) (Option.none : Option Jvm.ClassFile.FieldType)).before args0 about1 = true := code_word (m := ⟨12, 0⟩) (meth := k12m0) (c := k12c0) (by decide +kernel) rfl rfl rfl (by decide +kernel)
set_option maxRecDepth 65536 in
theorem w_c10 : (Jvm.Cond.code ({ cls := "java/lang/AbstractStringBuilder", name := "<init>", desc := "(I)V" } : Jvm.MethodName) jdk_68_method_2_code (2 : Nat) (Option.none : Option Jvm.ClassFile.FieldType)).before args0 about1 = true := code_word (m := ⟨11, 1⟩) (meth := k11m1) (c := k11c1) (by decide +kernel) rfl rfl rfl (by decide +kernel)
set_option maxRecDepth 65536 in
theorem w_c11 : (Jvm.Cond.code ({ cls := "java/lang/StringBuilder", name := "append", desc := "(Ljava/lang/String;)Ljava/lang/StringBuilder;" } : Jvm.MethodName) jdk_67_method_7_code (2 : Nat) (Option.some (Jvm.ClassFile.FieldType.object "java/lang/StringBuilder"))).before args0 about1 = true := code_word (m := ⟨12, 1⟩) (meth := k12m1) (c := k12c1) (by decide +kernel) rfl rfl rfl (by decide +kernel)
set_option maxRecDepth 65536 in
theorem w_c12 : (Jvm.Cond.code ({ cls := "java/lang/AbstractStringBuilder", name := "append", desc := "(Ljava/lang/String;)Ljava/lang/AbstractStringBuilder;" } : Jvm.MethodName) jdk_68_method_22_code (3 : Nat) (Option.some (Jvm.ClassFile.FieldType.object "java/lang/AbstractStringBuilder"))).before args0 about1 = true := code_word (m := ⟨11, 5⟩) (meth := k11m5) (c := k11c5) (by decide +kernel) rfl rfl rfl (by decide +kernel)
set_option maxRecDepth 65536 in
theorem w_c13 : (Jvm.Cond.code ({ cls := "java/lang/String", name := "length", desc := "()I" } : Jvm.MethodName) jdk_42_method_54_code (1 : Nat) (Option.some Jvm.ClassFile.FieldType.int)).before args0 about1 = true := code_word (m := ⟨7, 3⟩) (meth := k7m3) (c := k7c3) (by decide +kernel) rfl rfl rfl (by decide +kernel)
set_option maxRecDepth 65536 in
theorem w_c14 : (Jvm.Cond.code ({ cls := "java/lang/String", name := "coder", desc := "()B" } : Jvm.MethodName) jdk_42_method_152_code (1 : Nat) (Option.some Jvm.ClassFile.FieldType.byte)).before args0 about1 = true := code_word (m := ⟨7, 9⟩) (meth := k7m9) (c := k7c9) (by decide +kernel) rfl rfl rfl (by decide +kernel)
set_option maxRecDepth 65536 in
theorem w_c15 : (Jvm.Cond.code ({ cls := "java/lang/AbstractStringBuilder", name := "ensureCapacityInternal", desc := "(I)V" } : Jvm.MethodName) jdk_68_method_9_code (3 : Nat) (Option.none : Option Jvm.ClassFile.FieldType)).before args0 about1 = true := code_word (m := ⟨11, 3⟩) (meth := k11m3) (c := k11c3) (by decide +kernel) rfl rfl rfl (by decide +kernel)
set_option maxRecDepth 65536 in
theorem w_c16 : (Jvm.Cond.code ({ cls := "java/lang/AbstractStringBuilder", name := "putStringAt", desc := "(ILjava/lang/String;)V" } : Jvm.MethodName) jdk_68_method_73_code (3 : Nat) (Option.none : Option Jvm.ClassFile.FieldType)).before args0 about1 = true := code_word (m := ⟨11, 9⟩) (meth := k11m9) (c := k11c9) (by decide +kernel) rfl rfl rfl (by decide +kernel)
set_option maxRecDepth 65536 in
theorem w_c17 : (Jvm.Cond.code ({ cls := "java/lang/AbstractStringBuilder", name := "inflateIfNeededFor", desc := "(Ljava/lang/String;)V" } : Jvm.MethodName) jdk_68_method_71_code (2 : Nat) (Option.none : Option Jvm.ClassFile.FieldType)).before args0 about1 = true := code_word (m := ⟨11, 8⟩) (meth := k11m8) (c := k11c8) (by decide +kernel) rfl rfl rfl (by decide +kernel)
set_option maxRecDepth 65536 in
theorem w_c18 : (Jvm.Cond.code ({ cls := "java/lang/String", name := "getBytes", desc := "([BIB)V" } : Jvm.MethodName) jdk_42_method_147_code (4 : Nat) (Option.none : Option Jvm.ClassFile.FieldType)).before args0 about1 = true := code_word (m := ⟨7, 6⟩) (meth := k7m6) (c := k7c6) (by decide +kernel) rfl rfl rfl (by decide +kernel)
set_option maxRecDepth 65536 in
theorem w_c19 : (Jvm.Cond.code ({ cls := "java/lang/StringBuilder", name := "toString", desc := "()Ljava/lang/String;" } : Jvm.MethodName) jdk_67_method_42_code (1 : Nat) (Option.some (Jvm.ClassFile.FieldType.object "java/lang/String"))).before args0 about1 = true := code_word (m := ⟨12, 2⟩) (meth := k12m2) (c := k12c2) (by decide +kernel) rfl rfl rfl (by decide +kernel)
set_option maxRecDepth 65536 in
theorem w_c20 : (Jvm.Cond.code ({ cls := "java/lang/String", name := "<init>", desc := "(Ljava/lang/StringBuilder;)V" } : Jvm.MethodName) jdk_42_method_53_code (2 : Nat) (Option.none : Option Jvm.ClassFile.FieldType)).before args0 about1 = true := code_word (m := ⟨7, 2⟩) (meth := k7m2) (c := k7c2) (by decide +kernel) rfl rfl rfl (by decide +kernel)
set_option maxRecDepth 65536 in
theorem w_c21 : (Jvm.Cond.code ({ cls := "java/lang/String", name := "<init>", desc := "(Ljava/lang/AbstractStringBuilder;Ljava/lang/Void;)V" } : Jvm.MethodName) jdk_42_method_150_code (5 : Nat) (Option.none : Option Jvm.ClassFile.FieldType)).before args0 about1 = true := code_word (m := ⟨7, 8⟩) (meth := k7m8) (c := k7c8) (by decide +kernel) rfl rfl rfl (by decide +kernel)
set_option maxRecDepth 65536 in
theorem w_c22 : (Jvm.Cond.code ({ cls := "java/lang/AbstractStringBuilder", name := "getValue", desc := "()[B" } : Jvm.MethodName) jdk_68_method_64_code (1 : Nat) (Option.some (Jvm.ClassFile.FieldType.array Jvm.ClassFile.FieldType.byte))).before args0 about1 = true := code_word (m := ⟨11, 6⟩) (meth := k11m6) (c := k11c6) (by decide +kernel) rfl rfl rfl (by decide +kernel)
set_option maxRecDepth 65536 in
theorem w_c23 : (Jvm.Cond.code ({ cls := "java/lang/StringBuilder", name := "length", desc := "()I" } : Jvm.MethodName) jdk_67_method_93_code (1 : Nat) (Option.some Jvm.ClassFile.FieldType.int)).before args0 about1 = true := code_word (m := ⟨12, 3⟩) (meth := k12m3) (c := k12c3) (by decide +kernel) rfl rfl rfl (by decide +kernel)
set_option maxRecDepth 65536 in
theorem w_c24 : (Jvm.Cond.code ({ cls := "java/lang/AbstractStringBuilder", name := "length", desc := "()I" } : Jvm.MethodName) jdk_68_method_6_code (1 : Nat) (Option.some Jvm.ClassFile.FieldType.int)).before args0 about1 = true := code_word (m := ⟨11, 2⟩) (meth := k11m2) (c := k11c2) (by decide +kernel) rfl rfl rfl (by decide +kernel)
set_option maxRecDepth 65536 in
theorem w_c25 : (Jvm.Cond.code ({ cls := "java/lang/AbstractStringBuilder", name := "isLatin1", desc := "()Z" } : Jvm.MethodName) jdk_68_method_68_code (1 : Nat) (Option.some Jvm.ClassFile.FieldType.boolean)).before args0 about1 = true := code_word (m := ⟨11, 7⟩) (meth := k11m7) (c := k11c7) (by decide +kernel) rfl rfl rfl (by decide +kernel)
set_option maxRecDepth 65536 in
theorem w_c26 : (Jvm.Cond.code ({ cls := "java/util/Arrays", name := "copyOfRange", desc := "([BII)[B" } : Jvm.MethodName) jdk_65_method_132_code (3 : Nat) (Option.some (Jvm.ClassFile.FieldType.array Jvm.ClassFile.FieldType.byte))).before args0 about1 = true := code_word (m := ⟨14, 3⟩) (meth := k14m3) (c := k14c3) (by decide +kernel) rfl rfl rfl (by decide +kernel)
set_option maxRecDepth 65536 in
theorem w_c27 : (Jvm.Cond.code ({ cls := "java/util/Arrays", name := "copyOfRangeByte", desc := "([BII)[B" } : Jvm.MethodName) jdk_65_method_133_code (5 : Nat) (Option.some (Jvm.ClassFile.FieldType.array Jvm.ClassFile.FieldType.byte))).before args0 about1 = true := code_word (m := ⟨14, 4⟩) (meth := k14m4) (c := k14c4) (by decide +kernel) rfl rfl rfl (by decide +kernel)
set_option maxRecDepth 65536 in
theorem w_c28 : (Jvm.Cond.code ({ cls := "java/util/Arrays", name := "checkLength", desc := "(II)V" } : Jvm.MethodName) jdk_65_method_131_code (2 : Nat) (Option.none : Option Jvm.ClassFile.FieldType)).before args0 about1 = true := code_word (m := ⟨14, 2⟩) (meth := k14m2) (c := k14c2) (by decide +kernel) rfl rfl rfl (by decide +kernel)
set_option maxRecDepth 65536 in
theorem w_c29 : (Jvm.Cond.code ({ cls := "java/lang/Math", name := "min", desc := "(II)I" } : Jvm.MethodName) jdk_29_method_69_code (2 : Nat) (Option.some Jvm.ClassFile.FieldType.int)).before args0 about1 = true := code_word (m := ⟨15, 2⟩) (meth := k15m2) (c := k15c2) (by decide +kernel) rfl rfl rfl (by decide +kernel)
set_option maxRecDepth 65536 in
theorem w_c30 : (Jvm.Cond.code ({ cls := "java/lang/AbstractStringBuilder", name := "newCapacity", desc := "(I)I" } : Jvm.MethodName) jdk_68_method_10_code (6 : Nat) (Option.some Jvm.ClassFile.FieldType.int)).before args0 about1 = true := code_word (m := ⟨11, 4⟩) (meth := k11m4) (c := k11c4) (by decide +kernel) rfl rfl rfl (by decide +kernel)
set_option maxRecDepth 65536 in
theorem w_c31 : (Jvm.Cond.code ({ cls := "jdk/internal/util/ArraysSupport", name := "newLength", desc := "(III)I" } : Jvm.MethodName) jdk_48_method_27_code (4 : Nat) (Option.some Jvm.ClassFile.FieldType.int)).before args0 about1 = true := code_word (m := ⟨16, 1⟩) (meth := k16m1) (c := k16c1) (by decide +kernel) rfl rfl rfl (by decide +kernel)
set_option maxRecDepth 65536 in
theorem w_c32 : (Jvm.Cond.code ({ cls := "java/lang/Math", name := "max", desc := "(II)I" } : Jvm.MethodName) jdk_29_method_65_code (2 : Nat) (Option.some Jvm.ClassFile.FieldType.int)).before args0 about1 = true := code_word (m := ⟨15, 1⟩) (meth := k15m1) (c := k15c1) (by decide +kernel) rfl rfl rfl (by decide +kernel)
set_option maxRecDepth 65536 in
theorem w_c33 : (Jvm.Cond.code ({ cls := "java/util/Arrays", name := "copyOf", desc := "([BI)[B" } : Jvm.MethodName) jdk_65_method_121_code (3 : Nat) (Option.some (Jvm.ClassFile.FieldType.array Jvm.ClassFile.FieldType.byte))).before args0 about1 = true := code_word (m := ⟨14, 1⟩) (meth := k14m1) (c := k14c1) (by decide +kernel) rfl rfl rfl (by decide +kernel)
set_option maxRecDepth 65536 in
theorem w_c34 : (Jvm.Cond.code ({ cls := "java/lang/String", name := "equals", desc := "(Ljava/lang/Object;)Z" } : Jvm.MethodName) jdk_42_method_66_code (3 : Nat) (Option.some Jvm.ClassFile.FieldType.boolean)).before args0 about1 = true := code_word (m := ⟨7, 5⟩) (meth := k7m5) (c := k7c5) (by decide +kernel) rfl rfl rfl (by decide +kernel)
set_option maxRecDepth 65536 in
theorem w_c35 : (Jvm.Cond.code ({ cls := "java/lang/StringLatin1", name := "equals", desc := "([B[B)Z" } : Jvm.MethodName) jdk_43_method_13_code (3 : Nat) (Option.some Jvm.ClassFile.FieldType.boolean)).before args0 about1 = true := code_word (m := ⟨17, 2⟩) (meth := k17m2) (c := k17c2) (by decide +kernel) rfl rfl rfl (by decide +kernel)
set_option maxRecDepth 65536 in
theorem w_c36 : (Jvm.Cond.code ({ cls := "com/example/coffer/coffer/LedgerExactSumPinLaw", name := "copyAt", desc := "(Ljava/lang/String;ILjava/lang/String;I)Z" } : Jvm.MethodName) method_4_code (5 : Nat) (Option.some Jvm.ClassFile.FieldType.boolean)).before args0 about1 = true := code_word (m := ⟨1, 3⟩) (meth := k1m3) (c := k1c3) (by decide +kernel) rfl rfl rfl (by decide +kernel)
set_option maxRecDepth 65536 in
theorem w_c37 : (Jvm.Cond.code ({ cls := "java/lang/String", name := "charAt", desc := "(I)C" } : Jvm.MethodName) jdk_42_method_56_code (2 : Nat) (Option.some Jvm.ClassFile.FieldType.char)).before args0 about1 = true := code_word (m := ⟨7, 4⟩) (meth := k7m4) (c := k7c4) (by decide +kernel) rfl rfl rfl (by decide +kernel)
set_option maxRecDepth 65536 in
theorem w_c38 : (Jvm.Cond.code ({ cls := "java/lang/String", name := "isLatin1", desc := "()Z" } : Jvm.MethodName) jdk_42_method_154_code (1 : Nat) (Option.some Jvm.ClassFile.FieldType.boolean)).before args0 about1 = true := code_word (m := ⟨7, 10⟩) (meth := k7m10) (c := k7c10) (by decide +kernel) rfl rfl rfl (by decide +kernel)
set_option maxRecDepth 65536 in
theorem w_c39 : (Jvm.Cond.code ({ cls := "java/lang/StringLatin1", name := "charAt", desc := "([BI)C" } : Jvm.MethodName) jdk_43_method_2_code (2 : Nat) (Option.some Jvm.ClassFile.FieldType.char)).before args0 about1 = true := code_word (m := ⟨17, 1⟩) (meth := k17m1) (c := k17c1) (by decide +kernel) rfl rfl rfl (by decide +kernel)
set_option maxRecDepth 65536 in
theorem w_c40 : (Jvm.Cond.code ({ cls := "java/lang/String", name := "checkIndex", desc := "(II)V" } : Jvm.MethodName) jdk_42_method_155_code (2 : Nat) (Option.none : Option Jvm.ClassFile.FieldType)).before args0 about1 = true := code_word (m := ⟨7, 11⟩) (meth := k7m11) (c := k7c11) (by decide +kernel) rfl rfl rfl (by decide +kernel)
set_option maxRecDepth 65536 in
theorem w_c41 : (Jvm.Cond.code ({ cls := "jdk/internal/util/Preconditions", name := "checkIndex", desc := "(IILjava/util/function/BiFunction;)I" } : Jvm.MethodName) jdk_41_method_11_code (3 : Nat) (Option.some Jvm.ClassFile.FieldType.int)).before args0 about1 = true := code_word (m := ⟨18, 1⟩) (meth := k18m1) (c := k18c1) (by decide +kernel) rfl rfl rfl (by decide +kernel)
def codes1 : List Jvm.Cond := [Jvm.Cond.code x code maxLocals ret, Jvm.Cond.code ({ cls := "com/example/coffer/coffer/LedgerExactSumPinLaw", name := "draw", desc := "(ICCC)Ljava/lang/String;" } : Jvm.MethodName) method_3_code (4 : Nat) (Option.some (Jvm.ClassFile.FieldType.object "java/lang/String")), Jvm.Cond.code ({ cls := "java/lang/String", name := "<init>", desc := "([C)V" } : Jvm.MethodName) jdk_42_method_3_code (2 : Nat) (Option.none : Option Jvm.ClassFile.FieldType), Jvm.Cond.code ({ cls := "java/lang/String", name := "<init>", desc := "([CIILjava/lang/Void;)V" } : Jvm.MethodName) jdk_42_method_149_code (6 : Nat) (Option.none : Option Jvm.ClassFile.FieldType), Jvm.Cond.code ({ cls := "java/lang/Object", name := "<init>", desc := "()V" } : Jvm.MethodName) object_method_1_code (1 : Nat) (Option.none : Option Jvm.ClassFile.FieldType), Jvm.Cond.code ({ cls := "java/lang/StringUTF16", name := "compress", desc := "([CII)[B" } : Jvm.MethodName) jdk_52_method_16_code (6 : Nat) (Option.some (Jvm.ClassFile.FieldType.array Jvm.ClassFile.FieldType.byte)), Jvm.Cond.code ({ cls := "java/lang/StringUTF16", name := "compress", desc := "([CI[BII)I" } : Jvm.MethodName) jdk_52_method_21_code (7 : Nat) (Option.some Jvm.ClassFile.FieldType.int), Jvm.Cond.code ({ cls := "java/lang/StringUTF16", name := "coderFromArrayLen", desc := "([BI)B" } : Jvm.MethodName) jdk_52_method_15_code (2 : Nat) (Option.some Jvm.ClassFile.FieldType.byte), Jvm.Cond.code ({ cls := "com/example/coffer/coffer/Ledger", name := "exactSum", desc := "(Ljava/lang/String;)Ljava/lang/String;" } : Jvm.MethodName) prog_19_method_11_code (2 : Nat) (Option.some (Jvm.ClassFile.FieldType.object "java/lang/String")), Jvm.Cond.code ({ cls := "java/lang/StringBuilder", name := "<init>", desc := "()V" } : Jvm.MethodName) jdk_67_method_1_code (1 : Nat) (Option.none : Option Jvm.ClassFile.FieldType), Jvm.Cond.code ({ cls := "java/lang/AbstractStringBuilder", name := "<init>", desc := "(I)V" } : Jvm.MethodName) jdk_68_method_2_code (2 : Nat) (Option.none : Option Jvm.ClassFile.FieldType), Jvm.Cond.code ({ cls := "java/lang/StringBuilder", name := "append", desc := "(Ljava/lang/String;)Ljava/lang/StringBuilder;" } : Jvm.MethodName) jdk_67_method_7_code (2 : Nat) (Option.some (Jvm.ClassFile.FieldType.object "java/lang/StringBuilder")), Jvm.Cond.code ({ cls := "java/lang/AbstractStringBuilder", name := "append", desc := "(Ljava/lang/String;)Ljava/lang/AbstractStringBuilder;" } : Jvm.MethodName) jdk_68_method_22_code (3 : Nat) (Option.some (Jvm.ClassFile.FieldType.object "java/lang/AbstractStringBuilder")), Jvm.Cond.code ({ cls := "java/lang/String", name := "length", desc := "()I" } : Jvm.MethodName) jdk_42_method_54_code (1 : Nat) (Option.some Jvm.ClassFile.FieldType.int), Jvm.Cond.code ({ cls := "java/lang/String", name := "coder", desc := "()B" } : Jvm.MethodName) jdk_42_method_152_code (1 : Nat) (Option.some Jvm.ClassFile.FieldType.byte), Jvm.Cond.code ({ cls := "java/lang/AbstractStringBuilder", name := "ensureCapacityInternal", desc := "(I)V" } : Jvm.MethodName) jdk_68_method_9_code (3 : Nat) (Option.none : Option Jvm.ClassFile.FieldType), Jvm.Cond.code ({ cls := "java/lang/AbstractStringBuilder", name := "putStringAt", desc := "(ILjava/lang/String;)V" } : Jvm.MethodName) jdk_68_method_73_code (3 : Nat) (Option.none : Option Jvm.ClassFile.FieldType), Jvm.Cond.code ({ cls := "java/lang/AbstractStringBuilder", name := "inflateIfNeededFor", desc := "(Ljava/lang/String;)V" } : Jvm.MethodName) jdk_68_method_71_code (2 : Nat) (Option.none : Option Jvm.ClassFile.FieldType), Jvm.Cond.code ({ cls := "java/lang/String", name := "getBytes", desc := "([BIB)V" } : Jvm.MethodName) jdk_42_method_147_code (4 : Nat) (Option.none : Option Jvm.ClassFile.FieldType), Jvm.Cond.code ({ cls := "java/lang/StringBuilder", name := "toString", desc := "()Ljava/lang/String;" } : Jvm.MethodName) jdk_67_method_42_code (1 : Nat) (Option.some (Jvm.ClassFile.FieldType.object "java/lang/String")), Jvm.Cond.code ({ cls := "java/lang/String", name := "<init>", desc := "(Ljava/lang/StringBuilder;)V" } : Jvm.MethodName) jdk_42_method_53_code (2 : Nat) (Option.none : Option Jvm.ClassFile.FieldType), Jvm.Cond.code ({ cls := "java/lang/String", name := "<init>", desc := "(Ljava/lang/AbstractStringBuilder;Ljava/lang/Void;)V" } : Jvm.MethodName) jdk_42_method_150_code (5 : Nat) (Option.none : Option Jvm.ClassFile.FieldType), Jvm.Cond.code ({ cls := "java/lang/AbstractStringBuilder", name := "getValue", desc := "()[B" } : Jvm.MethodName) jdk_68_method_64_code (1 : Nat) (Option.some (Jvm.ClassFile.FieldType.array Jvm.ClassFile.FieldType.byte)), Jvm.Cond.code ({ cls := "java/lang/StringBuilder", name := "length", desc := "()I" } : Jvm.MethodName) jdk_67_method_93_code (1 : Nat) (Option.some Jvm.ClassFile.FieldType.int), Jvm.Cond.code ({ cls := "java/lang/AbstractStringBuilder", name := "length", desc := "()I" } : Jvm.MethodName) jdk_68_method_6_code (1 : Nat) (Option.some Jvm.ClassFile.FieldType.int), Jvm.Cond.code ({ cls := "java/lang/AbstractStringBuilder", name := "isLatin1", desc := "()Z" } : Jvm.MethodName) jdk_68_method_68_code (1 : Nat) (Option.some Jvm.ClassFile.FieldType.boolean), Jvm.Cond.code ({ cls := "java/util/Arrays", name := "copyOfRange", desc := "([BII)[B" } : Jvm.MethodName) jdk_65_method_132_code (3 : Nat) (Option.some (Jvm.ClassFile.FieldType.array Jvm.ClassFile.FieldType.byte)), Jvm.Cond.code ({ cls := "java/util/Arrays", name := "copyOfRangeByte", desc := "([BII)[B" } : Jvm.MethodName) jdk_65_method_133_code (5 : Nat) (Option.some (Jvm.ClassFile.FieldType.array Jvm.ClassFile.FieldType.byte)), Jvm.Cond.code ({ cls := "java/util/Arrays", name := "checkLength", desc := "(II)V" } : Jvm.MethodName) jdk_65_method_131_code (2 : Nat) (Option.none : Option Jvm.ClassFile.FieldType), Jvm.Cond.code ({ cls := "java/lang/Math", name := "min", desc := "(II)I" } : Jvm.MethodName) jdk_29_method_69_code (2 : Nat) (Option.some Jvm.ClassFile.FieldType.int), Jvm.Cond.code ({ cls := "java/lang/AbstractStringBuilder", name := "newCapacity", desc := "(I)I" } : Jvm.MethodName) jdk_68_method_10_code (6 : Nat) (Option.some Jvm.ClassFile.FieldType.int), Jvm.Cond.code ({ cls := "jdk/internal/util/ArraysSupport", name := "newLength", desc := "(III)I" } : Jvm.MethodName) jdk_48_method_27_code (4 : Nat) (Option.some Jvm.ClassFile.FieldType.int), Jvm.Cond.code ({ cls := "java/lang/Math", name := "max", desc := "(II)I" } : Jvm.MethodName) jdk_29_method_65_code (2 : Nat) (Option.some Jvm.ClassFile.FieldType.int), Jvm.Cond.code ({ cls := "java/util/Arrays", name := "copyOf", desc := "([BI)[B" } : Jvm.MethodName) jdk_65_method_121_code (3 : Nat) (Option.some (Jvm.ClassFile.FieldType.array Jvm.ClassFile.FieldType.byte)), Jvm.Cond.code ({ cls := "java/lang/String", name := "equals", desc := "(Ljava/lang/Object;)Z" } : Jvm.MethodName) jdk_42_method_66_code (3 : Nat) (Option.some Jvm.ClassFile.FieldType.boolean), Jvm.Cond.code ({ cls := "java/lang/StringLatin1", name := "equals", desc := "([B[B)Z" } : Jvm.MethodName) jdk_43_method_13_code (3 : Nat) (Option.some Jvm.ClassFile.FieldType.boolean), Jvm.Cond.code ({ cls := "com/example/coffer/coffer/LedgerExactSumPinLaw", name := "copyAt", desc := "(Ljava/lang/String;ILjava/lang/String;I)Z" } : Jvm.MethodName) method_4_code (5 : Nat) (Option.some Jvm.ClassFile.FieldType.boolean), Jvm.Cond.code ({ cls := "java/lang/String", name := "charAt", desc := "(I)C" } : Jvm.MethodName) jdk_42_method_56_code (2 : Nat) (Option.some Jvm.ClassFile.FieldType.char), Jvm.Cond.code ({ cls := "java/lang/String", name := "isLatin1", desc := "()Z" } : Jvm.MethodName) jdk_42_method_154_code (1 : Nat) (Option.some Jvm.ClassFile.FieldType.boolean), Jvm.Cond.code ({ cls := "java/lang/StringLatin1", name := "charAt", desc := "([BI)C" } : Jvm.MethodName) jdk_43_method_2_code (2 : Nat) (Option.some Jvm.ClassFile.FieldType.char), Jvm.Cond.code ({ cls := "java/lang/String", name := "checkIndex", desc := "(II)V" } : Jvm.MethodName) jdk_42_method_155_code (2 : Nat) (Option.none : Option Jvm.ClassFile.FieldType), Jvm.Cond.code ({ cls := "jdk/internal/util/Preconditions", name := "checkIndex", desc := "(IILjava/util/function/BiFunction;)I" } : Jvm.MethodName) jdk_41_method_11_code (3 : Nat) (Option.some Jvm.ClassFile.FieldType.int)]
set_option maxRecDepth 65536 in
theorem codes_eq : words1.filter isCode = codes1 := rfl
theorem w_codes : ∀ c ∈ words1.filter isCode, c.before args0 about1 = true := by
  rw [codes_eq]
  intro c hc
  simp only [codes1, List.mem_cons, List.not_mem_nil, or_false] at hc
  rcases hc with rfl | rfl | rfl | rfl | rfl | rfl | rfl | rfl | rfl | rfl | rfl | rfl | rfl | rfl | rfl | rfl | rfl | rfl | rfl | rfl | rfl | rfl | rfl | rfl | rfl | rfl | rfl | rfl | rfl | rfl | rfl | rfl | rfl | rfl | rfl | rfl | rfl | rfl | rfl | rfl | rfl | rfl
  · exact w_c0
  · exact w_c1
  · exact w_c2
  · exact w_c3
  · exact w_c4
  · exact w_c5
  · exact w_c6
  · exact w_c7
  · exact w_c8
  · exact w_c9
  · exact w_c10
  · exact w_c11
  · exact w_c12
  · exact w_c13
  · exact w_c14
  · exact w_c15
  · exact w_c16
  · exact w_c17
  · exact w_c18
  · exact w_c19
  · exact w_c20
  · exact w_c21
  · exact w_c22
  · exact w_c23
  · exact w_c24
  · exact w_c25
  · exact w_c26
  · exact w_c27
  · exact w_c28
  · exact w_c29
  · exact w_c30
  · exact w_c31
  · exact w_c32
  · exact w_c33
  · exact w_c34
  · exact w_c35
  · exact w_c36
  · exact w_c37
  · exact w_c38
  · exact w_c39
  · exact w_c40
  · exact w_c41
set_option maxRecDepth 65536 in
theorem w_t1 : (words1.take 24).all (fun c => isCode c || c.before args0 about1) = true := by decide +kernel
set_option maxRecDepth 65536 in
theorem w_t2 : ((words1.drop 24).take 24).all (fun c => isCode c || c.before args0 about1) = true := by decide +kernel
set_option maxRecDepth 65536 in
theorem w_t3 : (((words1.drop 24).drop 24).take 24).all (fun c => isCode c || c.before args0 about1) = true := by decide +kernel
set_option maxRecDepth 65536 in
theorem w_t4 : ((((words1.drop 24).drop 24).drop 24).take 24).all (fun c => isCode c || c.before args0 about1) = true := by decide +kernel
set_option maxRecDepth 65536 in
theorem w_t5 : (((((words1.drop 24).drop 24).drop 24).drop 24).take 24).all (fun c => isCode c || c.before args0 about1) = true := by decide +kernel
set_option maxRecDepth 65536 in
theorem w_t6 : ((((((words1.drop 24).drop 24).drop 24).drop 24).drop 24).take 24).all (fun c => isCode c || c.before args0 about1) = true := by decide +kernel
set_option maxRecDepth 65536 in
theorem w_t7 : (((((((words1.drop 24).drop 24).drop 24).drop 24).drop 24).drop 24).take 24).all (fun c => isCode c || c.before args0 about1) = true := by decide +kernel
set_option maxRecDepth 65536 in
theorem w_t8 : ((((((((words1.drop 24).drop 24).drop 24).drop 24).drop 24).drop 24).drop 24).take 24).all (fun c => isCode c || c.before args0 about1) = true := by decide +kernel
set_option maxRecDepth 65536 in
theorem w_t9 : ((((((((words1.drop 24).drop 24).drop 24).drop 24).drop 24).drop 24).drop 24).drop 24).all (fun c => isCode c || c.before args0 about1) = true := by decide +kernel
theorem w_tables : (allAtoms (Jvm.Cond.code x code maxLocals ret :: tables_1)).before args0 about1 = true := by
  rw [allAtoms_all]
  show words1.all (fun c => c.before args0 about1) = true
  refine all_split ?_ w_codes
  rw [← List.take_append_drop 24 words1, List.all_append, w_t1, ← List.take_append_drop 24 (words1.drop 24), List.all_append, w_t2, ← List.take_append_drop 24 ((words1.drop 24).drop 24), List.all_append, w_t3, ← List.take_append_drop 24 (((words1.drop 24).drop 24).drop 24), List.all_append, w_t4, ← List.take_append_drop 24 ((((words1.drop 24).drop 24).drop 24).drop 24), List.all_append, w_t5, ← List.take_append_drop 24 (((((words1.drop 24).drop 24).drop 24).drop 24).drop 24), List.all_append, w_t6, ← List.take_append_drop 24 ((((((words1.drop 24).drop 24).drop 24).drop 24).drop 24).drop 24), List.all_append, w_t7, ← List.take_append_drop 24 (((((((words1.drop 24).drop 24).drop 24).drop 24).drop 24).drop 24).drop 24), List.all_append, w_t8, w_t9]
  rfl
set_option maxRecDepth 65536 in
theorem w_rest : rest_1_c.before args0 about1 = true := by decide +kernel
set_option maxRecDepth 65536 in
theorem w_case : (Jvm.Cond.and given_1 narrow_1).before args0 about1 = true := by decide +kernel
set_option maxRecDepth 65536 in
theorem w_consts : constsHeld consts_1 about1 := Jvm.Lit.constsHeldB_iff.mp (by decide +kernel)
theorem w_applies : (headSpec (Jvm.Cond.code x code maxLocals ret :: tables_1) room_1).applies x e0.platform about1 = true :=
  (Spec.applies_iff w_frames).mpr ⟨w_running, w_runnable, w_alone, w_named, w_hears, w_ripe, w_room, w_tables⟩
theorem atStart : AtStart classFile x code maxLocals ret World_1 tables_1 room_1 Calls_1 rest_1 Pre_1 launch0 p0 e0 about1 theMethod args0 below0 :=
  ⟨lists_1, trivial, launch0.admits_env _ _ _, launch0.least_env, fairChoices_fair.cas, fairChoices_fair.clock, w_frames, w_args, w_heap, w_applies, ⟨w_consts, trivial⟩, w_rest, w_case⟩
end start1
theorem witness_1 : WitnessClaimed_1 := ⟨start1.p0, start1.e0, start1.about1, start1.theMethod, start1.args0, start1.below0, start1.atStart⟩
end Jvm.Pilot.@@N@@
