import JvmDerived
import JvmDerived.Pilot.@@N@@Statement
import JvmDerived.Pilot.@@N@@Code
set_option linter.unusedVariables false
set_option linter.unusedSimpArgs false
namespace Jvm.Own
open Sem ClassFile Op Lib Jvm.Free Jvm.Stand Jvm.LawKit Jvm.RoadKit Bundle Jvm.Free.Exc
/-- the walk of a method's body from one point on: it ends in a return that answers Q -/
def Go (p : Program) (l : Launch) (e : Env) (R : Room) (s : State) (m : MethodId) (args : Array Value) (below : List Frame) (meth : Method) (c : Code) (Z : State) (a0 : Array Value) (EL : List (String × Nat)) (nw fk : Prop) (Q : Option Value → Vm → Heap → Prop)
    (vm : Vm) (h : Heap) (k n pc : Nat) (L : Array Slot) (st : List Value) : Prop :=
  ∀ (T : State) (locs : List Loc) (k0 : Nat), p.tables.exec = Jvm.exec → meth.locks = false → EW Z a0 EL →
    Stand p l e R (s.setVm vm) m args below meth c T locs k n → T.heap = h → s.Since vm k0 → k0 ≤ h.size → Fr Z.heap.size locs → Z.Warmed39 vm → (nw → s.WarmedH vm) → CHr Z EL s.vm s.heap vm h → Ext Z.heap h → (fk → vm.MethodsKnown ∧ vm.FramesKnown below) → Ext Z.heap s.heap →
    ∃ (t : State) (v : Option Value) (L' : List Loc), Steps p.tables e below (T.setTop (mkF m pc L st)) t ∧ t.status = .running ∧ Ended t below (.returned v) ∧ Fr Z.heap.size L' ∧ Q v t.vm t.heap ∧ CHr Z EL s.vm s.heap t.vm t.heap ∧ Ext Z.heap t.heap ∧ ReturnedEndW s (.returned v) t L' R.cells R.slots ∧ (nw → s.WarmedH t.vm)
/-- a method's contract at one call: these arguments, this heap; sf: what it may write of Strings and byte arrays -/
def Ct (l : Launch) (Z : State) (EL : List (String × Nat)) (nw fk : Prop) (ws : List Jvm.Cond) (y : MethodName) (bytes : ByteArray) (maxL : Nat) (ret : Option FieldType) (rm : Room) (as : Array Value) (h : Heap) (sf : List Addr) (Q : Option Value → Vm → Heap → Prop) : Prop :=
  MetFree l y (head1 (Jvm.Cond.code y bytes maxL ret :: ws) rm) (fun a U => a = as ∧ Z.Warmed39 U.vm ∧ U.heap = h ∧ CHv Z EL U.vm h ∧ Ext Z.heap h ∧ ∀ x ∈ sf, Safe Z EL U.vm h x) (fun _ _ bl s _ => fk → s.vm.MethodsKnown ∧ s.vm.FramesKnown bl)
    (fun _ U o U' => ∃ v L, o = .returned v ∧ Fr Z.heap.size L ∧ Q v U'.vm U'.heap ∧ CHr Z EL U.vm U.heap U'.vm U'.heap ∧ Ext Z.heap U'.heap ∧ (nw → U.WarmedH U'.vm) ∧ ReturnedEndW U o U' L rm.cells rm.slots)
/-- an array, by its components -/
def Ar (Z : State) (h : Heap) (a : Addr) (k : ClassId) (ty : FieldType) (vs : List Value) : Prop := ∃ c : Cell, Arr Z h a c ty ∧ c.cls = k ∧ c.slots.toList = vs
/-- a String of Latin-1 bytes -/
def St (Z : State) (h : Heap) (a b : Addr) (k : ClassId) (bs : List Int32) : Prop := Exa Z h a "java/lang/String" ∧ Fld Z h a "java/lang/String" "coder" "B" (.int 0) ∧ Fld Z h a "java/lang/String" "value" "[B" (.ref b) ∧ Ar Z h b k .byte (bs.map Value.int) ∧ bs.length < 536870912
section Facts
variable {Z : State} {h h' h0 : Heap} {a b w : Addr} {k : ClassId} {ty : FieldType} {vs : List Value} {bs : List Int32} {ws : List Addr} {sl : Nat} {v : Value} {EL : List (String × Nat)} {vm vm' : Vm}
theorem ext_trans {h1 h2 h3 : Heap} (E : Ext h1 h2) (F : Ext h2 h3) : Ext h1 h3 := ⟨Nat.le_trans E.1 F.1, fun a c q => F.2 a c (E.2 a c q)⟩
theorem ext_keep (O : Ext Z.heap h) (K : Keep h h' ws) (q : ∀ x ∈ ws, Z.heap.size ≤ x) : Ext Z.heap h' := (Old.keep (n0 := Z.heap.size) ⟨rfl, O⟩ K q).2
theorem ext_wr (O : Ext Z.heap h) (W : Wr h h' a sl v) (q : Z.heap.size ≤ a) : Ext Z.heap h' := (Old.wr (n0 := Z.heap.size) ⟨rfl, O⟩ W q).2
theorem Ar.lt (F : Ar Z h a k ty vs) : a < h.size := by obtain ⟨c, A, -⟩ := F; exact A.lt
theorem Ar.ext (F : Ar Z h a k ty vs) (E : Ext h h') : Ar Z h' a k ty vs := by obtain ⟨c, A, r⟩ := F; exact ⟨c, A.ext E, r⟩
theorem Ar.other (F : Ar Z h a k ty vs) (W : Wr h h' b sl v) (q : a ≠ b) : Ar Z h' a k ty vs := by obtain ⟨c, A, r⟩ := F; exact ⟨c, A.other W q, r⟩
theorem Ar.keep (F : Ar Z h a k ty vs) (K : Keep h h' ws) (q : a ∉ ws) : Ar Z h' a k ty vs := by obtain ⟨c, A, r⟩ := F; exact ⟨c, ⟨K.2.1 a c A.1 q, A.2⟩, r⟩
theorem Ar.set (F : Ar Z h a k ty vs) (W : Wr h h' a sl v) : Ar Z h' a k ty (vs.set sl v) := by
  obtain ⟨c, A, r1, r2⟩ := F
  refine ⟨_, A.same W, r1, ?_⟩
  simp [Cell.setSlot, r2]
theorem Ar.of_arv {z : Int32} {d : Value} (F : Arv Z h a k ty z vs d) (hl : z.toNatClampNeg = vs.length) : Ar Z h a k ty vs := by
  obtain ⟨c, A, r1, r2, r3, H, -⟩ := F
  refine ⟨c, A, r1, List.ext_getElem? fun i => ?_⟩
  by_cases hi : i < c.slots.size
  · have q := H i hi
    rw [Array.getElem?_toList, q]
    have : i < vs.length := by omega
    simp [List.getD, this]
  · rw [Array.getElem?_toList, Array.getElem?_eq_none (by omega), List.getElem?_eq_none (by omega)]
theorem Ar.safe (hal : Z.vm.Alike vm) (F : Ar Z h a k ty vs) (ht : ty ≠ .byte) : Safe Z EL vm h a := by obtain ⟨c, A, -⟩ := F; exact Safe.arr hal A ht
theorem Ar.ne_exa {C : String} {a0 : Array Value} {kk : Nat} (F : Ar Z h a k ty vs) (E : Exa Z h b C) (wi : (Jvm.Cond.instantiable C kk).before a0 Z = true) : b ≠ a := by obtain ⟨c, A, -⟩ := F; exact ne_arr E wi A
theorem Ar.ne_ty {ty' : FieldType} {k' : ClassId} {vs' : List Value} (F : Ar Z h a k ty vs) (G : Ar Z h b k' ty' vs') (hn : ty ≠ ty') : a ≠ b := by
  rintro rfl
  obtain ⟨c, A, -⟩ := F
  obtain ⟨c', B, -⟩ := G
  cases A.1.symm.trans B.1
  obtain ⟨-, k1, h1, c1, h2⟩ := A.2.1
  obtain ⟨-, k2, g1, c2, g2⟩ := B.2.1
  cases h1.symm.trans g1
  have q := h2.symm.trans g2
  injection q with _ e
  exact hn e
theorem St.lt (F : St Z h a b k bs) : a < h.size := F.1.lt
theorem St.ltb (F : St Z h a b k bs) : b < h.size := F.2.2.2.1.lt
theorem Fld.uniq {C n d : String} {v w : Value} (F : Fld Z h a C n d v) (G : Fld Z h a C n d w) : v = w := Classical.byContradiction fun q => Fld.ne F G q rfl
theorem Ar.uniq {k' : ClassId} {ty' : FieldType} {vs' : List Value} (F : Ar Z h a k ty vs) (G : Ar Z h a k' ty' vs') : vs = vs' := by
  obtain ⟨c, A, -, rfl⟩ := F
  obtain ⟨c', B, -, rfl⟩ := G
  cases A.1.symm.trans B.1; rfl
theorem map_int_inj {xs ys : List Int32} (q : xs.map Value.int = ys.map Value.int) : xs = ys := by
  induction xs generalizing ys with
  | nil => cases ys with | nil => rfl | cons y ys => cases q
  | cons x xs ih => cases ys with
    | nil => cases q
    | cons y ys => simp only [List.map_cons, List.cons.injEq, Value.int.injEq] at q; rw [q.1, ih q.2]
theorem St.uniq {b' : Addr} {k' : ClassId} {bs' : List Int32} (F : St Z h a b k bs) (G : St Z h a b' k' bs') : bs = bs' := by
  cases Value.ref.inj (Fld.uniq F.2.2.1 G.2.2.1)
  exact map_int_inj (Ar.uniq F.2.2.2.1 G.2.2.2.1)
theorem St.ext (F : St Z h a b k bs) (E : Ext h h') : St Z h' a b k bs := ⟨F.1.ext E, F.2.1.ext E, F.2.2.1.ext E, F.2.2.2.1.ext E, F.2.2.2.2⟩
theorem St.keep (F : St Z h a b k bs) (K : Keep h h' ws) (q : a ∉ ws) (q' : b ∉ ws) : St Z h' a b k bs := ⟨F.1.keep K, F.2.1.keep K q, F.2.2.1.keep K q, F.2.2.2.1.keep K q', F.2.2.2.2⟩
theorem St.wr (F : St Z h a b k bs) (W : Wr h h' w sl v) (q : a ≠ w) (q' : b ≠ w) : St Z h' a b k bs := F.keep (Keep.of_wr W) (by simpa using q) (by simpa using q')
theorem Keep.ofExt (E : Ext h h') : Keep h h' [] := (Keep.refl h []).ext E
theorem Keep.tr (K : Keep h0 h ws) (K' : Keep h h' ws) : Keep h0 h' ws := K.trans K' fun x hx => Or.inl hx
theorem Keep.more {ws' : List Addr} (K : Keep h h' ws) (q : ∀ x ∈ ws, x ∈ ws' ∨ h.size ≤ x) : Keep h h' ws' := (Keep.refl h ws').trans K q
theorem ltN {x : Addr} {n : Nat} (q : x < n) : n > x := q
theorem neN {x y : Addr} (q : @Eq Nat x y → False) : x ≠ y := q
theorem Safe.to (C : CHr Z EL vm h vm' h') (lt : h.size > a) (S : Safe Z EL vm h a) : Safe Z EL vm' h' a := C.safe lt S
theorem tr0 (E : Ext h h') : h.size ≤ h'.size := E.1
theorem cat1 {v : Value} (q : v.isRef = true) : v.category = 1 := by cases v <;> simp [Value.isRef] at q <;> rfl
theorem narU {v : Value} {ty : FieldType} (q : v.isRef = true) : narrow ty v = v := by cases v <;> simp [Value.isRef] at q <;> cases ty <;> rfl
theorem fitsU {v : Value} {ty : FieldType} (r : ty.isReference = true) (q : v.isRef = true) : fits ty v = true := by cases ty <;> simp [FieldType.isReference] at r <;> cases v <;> simp [Value.isRef] at q <;> rfl
theorem noInst {a0 : Array Value} {C K : String} {n : Nat} (w : (Jvm.Cond.superclass C "java/lang/Object").before a0 Z = true) (w0 : (Jvm.Cond.noSuperclass "java/lang/Object").before a0 Z = true) (wi : (Jvm.Cond.instantiable K n).before a0 Z = true) (h1 : C ≠ K) (h2 : "java/lang/Object" ≠ K) : ∃ c t, Z.vm.findClass C = some c ∧ Z.vm.findClass K = some t ∧ Z.vm.assignable c t = false := by
  obtain ⟨t, kt, g0, g2, g5, g7, -, -⟩ := Cond.instantiable_spec wi
  have g7' : kt.isInterface = false := (Bool.or_eq_false_iff.mp g7).1
  have n0 : NS Z "java/lang/Object" K := by
    obtain ⟨c, k, q1, q2, q3, -, -⟩ := Cond.noSuperclass_spec w0
    have ne := ids_ne q1 g0 h2
    refine ⟨c, t, q1, g0, fun fuel => ?_⟩
    cases fuel with
    | zero => rfl
    | succ f => simp [Vm.isSubclassAux, ne, q2, q3]
  obtain ⟨c, t', h0, g0', n3⟩ := NS.step w n0 h1
  cases g0.symm.trans g0'
  obtain ⟨p, k, kp, q1, q2, q3, q4, q5, -, q7⟩ := Cond.superclass_spec h0 w
  have ne := ids_ne h0 g0 h1
  refine ⟨c, t, h0, g0, ?_⟩
  show Z.vm.assignableAux (255 + 1) c t = false
  simp [Vm.assignableAux, ne, q2, g2, q5, g5, g7', Vm.isSubclass, n3]
theorem own_rep {α : Type} (n : Nat) (v : α) : Array.replicate n v = (List.replicate n v).toArray := rfl
theorem Wr.sz (W : Wr h h' a sl v) : h'.size = h.size := W.size
theorem clampL {n : Nat} (q : n < 2 ^ 31) : n.toInt32.toNatClampNeg = n := by
  have e1 : n.toInt32.toInt = n := Int32.toInt_ofNat_small q
  rw [← Int32.toNat_toInt, e1]; rfl
theorem Ar.arv {d : Value} (F : Ar Z h a k ty vs) (f : ∀ v ∈ vs, fits ty v = true) (q : vs.length < 2 ^ 31) : Arv Z h a k ty vs.length.toInt32 vs d := by
  obtain ⟨c, A, r1, r2⟩ := F
  have hs : c.slots.size = vs.length := by rw [← r2]; simp
  have e1 : vs.length.toInt32.toInt = vs.length := Int32.toInt_ofNat_small q
  refine ⟨c, A, r1, by rw [hs, clampL q], fun z => ?_, fun i hi => ?_, fun i hi => ?_⟩
  · have := Int32.lt_iff_toInt_lt.mp z
    have e0 : (0 : Int32).toInt = 0 := rfl
    omega
  · have hi' : i < vs.length := by omega
    rw [← Array.getElem?_toList, r2]; simp [List.getD, hi']
  · have hi' : i < vs.length := by omega
    have : vs.getD i d = vs[i] := by simp [List.getD, hi']
    rw [this]; exact f _ (List.getElem_mem hi')
theorem nf_same {a0 : Array Value} {y y' : MethodName} (nf : NotFace Z y) (w : (Jvm.Cond.declares y).before a0 Z = true) (e : y'.cls = y.cls) : NotFace Z y' := fun r0 h0 => by
  obtain ⟨m, meth, h1, -⟩ := Cond.declares_spec w
  obtain ⟨kr, k1, k2⟩ := nf m h1
  have c1 := findClass_of_methodNamed h1
  have c0 := findClass_of_methodNamed h0
  rw [e, c1] at c0
  exact ⟨kr, by rw [show r0.cls = m.cls from (Option.some.inj c0).symm]; exact k1, k2⟩
theorem same_of_declares {a0 : Array Value} {y : MethodName} (w : (Jvm.Cond.declares y).before a0 Z = true) (nf : NotFace Z y) (hy : y.cls ≠ "java/lang/invoke/MethodHandle" ∧ y.cls ≠ "java/lang/invoke/VarHandle") : (Jvm.Cond.sameMethod y.cls y.cls y.name y.desc).before a0 Z = true := by
  obtain ⟨m, meth, h1, -⟩ := Cond.declares_spec w
  obtain ⟨kr, k1, k2⟩ := nf m h1
  have hf := State.methodFound?_of_named h1 hy
  have hc := findClass_of_methodNamed h1
  have h1' : Z.methodNamed? ⟨y.cls, y.name, y.desc⟩ = some m := h1
  simp [Cond.before, Cond.holds, Cond.value, hc, hf, h1', k1, k2]
theorem sel_priv {a0 : Array Value} {C : String} {y : MethodName} (w : (Jvm.Cond.selects C y y).before a0 Z = true) (wi : (Jvm.Cond.instanceMethod y).before a0 Z = true) (wp : (Jvm.Cond.privateMethod y).before a0 Z = true) (hy : y.cls ≠ "java/lang/invoke/MethodHandle" ∧ y.cls ≠ "java/lang/invoke/VarHandle") : (Jvm.Cond.selects y.cls y y).before a0 Z = true := by
  obtain ⟨c, r, m, h1, h2, h3, h4, mk, h5, h6⟩ := Cond.selects_spec w
  obtain ⟨m', meth, g1, g2, -, -⟩ := Cond.instanceMethod_spec wi
  cases h3.symm.trans g1
  have hp := Cond.privateMethod_at wp m meth g1 g2
  have hf := State.methodFound?_of_named g1 hy
  have hc := findClass_of_methodNamed g1
  simp [Cond.before, Cond.holds, Cond.value, hc, hf, g1, selectMethod_private g2 hp, h5, h6]
end Facts
section Walk
variable {p : Program} {l : Launch} {e : Env} {R : Room} {s : State} {m : MethodId} {args : Array Value} {below : List Frame} {meth : Method} {c : Code} {Z : State} {a0 : Array Value} {EL : List (String × Nat)} {nw fk : Prop} {Q : Option Value → Vm → Heap → Prop} {vm : Vm} {h : Heap} {k n pc pc' : Nat} {L : Array Slot} {st : List Value}
theorem Go.plain {pc2 : Nat} {L2 : Array Slot} {st2 : List Value} (hstep : ∀ (T : State) (locs : List Loc), p.tables.exec = Jvm.exec → Stand p l e R (s.setVm vm) m args below meth c T locs k n → ∀ target, Steps p.tables e below (T.setTop (mkF m pc2 L2 st2)) target → Steps p.tables e below (T.setTop (mkF m pc L st)) target)
    (K : Go p l e R s m args below meth c Z a0 EL nw fk Q vm h k n pc2 L2 st2) : Go p l e R s m args below meth c Z a0 EL nw fk Q vm h k n pc L st := fun T locs k0 hx hk hE X eT hS hk0 hF hZ hN hC hO hK hO0 => by
  obtain ⟨t, v, L', r1, r2⟩ := K T locs k0 hx hk hE X eT hS hk0 hF hZ hN hC hO hK hO0
  exact ⟨t, v, L', hstep T locs hx X _ r1, r2⟩
theorem Go.mono {k' n' : Nat} (K : Go p l e R s m args below meth c Z a0 EL nw fk Q vm h k' n' pc L st) (hk : k ≤ k') (hn : n ≤ n') : Go p l e R s m args below meth c Z a0 EL nw fk Q vm h k n pc L st := fun T locs k0 hx hl hE X eT hS hk0 hF hZ hN hC hO hK hO0 =>
  K T locs k0 hx hl hE ⟨X.admits, X.cas, X.clock, X.frames, X.room, X.hears, X.method, X.code, X.here, X.tail, X.warmed, X.limits, X.bytes, X.same.mono hk hn⟩ eT hS hk0 hF hZ hN hC hO hK hO0
theorem Go.aloadN {q : Fin 4} {v : Value} (hd : decode c.code pc = .ok (.aload_n q, 1)) (hp : pc + 1 = pc') (hl : L[q.val]? = some (.val v)) (hv : v.isRef = true) (K : Go p l e R s m args below meth c Z a0 EL nw fk Q vm h k n pc' L (v :: st)) : Go p l e R s m args below meth c Z a0 EL nw fk Q vm h k n pc L st := by
  subst hp
  exact Go.plain (fun T _ hx X _ r => XS.aloadN X.here hx rfl hd hl hv r) K
theorem Go.aload {q : Nat} {v : Value} (hd : decode c.code pc = .ok (.aload q, 2)) (hp : pc + 2 = pc') (hl : L[q]? = some (.val v)) (hv : v.isRef = true) (K : Go p l e R s m args below meth c Z a0 EL nw fk Q vm h k n pc' L (v :: st)) : Go p l e R s m args below meth c Z a0 EL nw fk Q vm h k n pc L st := by
  subst hp
  exact Go.plain (fun T _ hx X _ r => XS.aload X.here hx rfl hd hl hv r) K
theorem Go.iloadN {q : Fin 4} {z : Int32} (hd : decode c.code pc = .ok (.iload_n q, 1)) (hp : pc + 1 = pc') (hl : L[q.val]? = some (.val (.int z))) (K : Go p l e R s m args below meth c Z a0 EL nw fk Q vm h k n pc' L (.int z :: st)) : Go p l e R s m args below meth c Z a0 EL nw fk Q vm h k n pc L st := by
  subst hp
  exact Go.plain (fun T _ hx X _ r => XS.iloadN X.here hx rfl hd hl r) K
theorem Go.iload {q : Nat} {z : Int32} (hd : decode c.code pc = .ok (.iload q, 2)) (hp : pc + 2 = pc') (hl : L[q]? = some (.val (.int z))) (K : Go p l e R s m args below meth c Z a0 EL nw fk Q vm h k n pc' L (.int z :: st)) : Go p l e R s m args below meth c Z a0 EL nw fk Q vm h k n pc L st := by
  subst hp
  exact Go.plain (fun T _ hx X _ r => XS.iload X.here hx rfl hd hl r) K
theorem Go.lloadN {q : Fin 4} {z : Int64} (hd : decode c.code pc = .ok (.lload_n q, 1)) (hp : pc + 1 = pc') (hl : L[q.val]? = some (.val (.long z))) (K : Go p l e R s m args below meth c Z a0 EL nw fk Q vm h k n pc' L (.long z :: st)) : Go p l e R s m args below meth c Z a0 EL nw fk Q vm h k n pc L st := by
  subst hp
  exact Go.plain (fun T _ hx X _ r => XT.lloadN X.here hx rfl hd hl r) K
theorem Go.lload {q : Nat} {z : Int64} (hd : decode c.code pc = .ok (.lload q, 2)) (hp : pc + 2 = pc') (hl : L[q]? = some (.val (.long z))) (K : Go p l e R s m args below meth c Z a0 EL nw fk Q vm h k n pc' L (.long z :: st)) : Go p l e R s m args below meth c Z a0 EL nw fk Q vm h k n pc L st := by
  subst hp
  exact Go.plain (fun T _ hx X _ r => XT.lload X.here hx rfl hd hl r) K
theorem Go.iconst {i : Int} {z : Int32} (hd : decode c.code pc = .ok (.iconst i, 1)) (hp : pc + 1 = pc') (hz : Int32.ofInt i = z) (K : Go p l e R s m args below meth c Z a0 EL nw fk Q vm h k n pc' L (.int z :: st)) : Go p l e R s m args below meth c Z a0 EL nw fk Q vm h k n pc L st := by
  subst hp
  exact Go.plain (fun T _ hx X _ r => XS.iconst X.here hx rfl hd (by rw [hz]; exact r)) K
theorem Go.bipush {i : Int} {z : Int32} (hd : decode c.code pc = .ok (.bipush i, 2)) (hp : pc + 2 = pc') (hz : (Int8.ofInt i).toInt32 = z) (K : Go p l e R s m args below meth c Z a0 EL nw fk Q vm h k n pc' L (.int z :: st)) : Go p l e R s m args below meth c Z a0 EL nw fk Q vm h k n pc L st := by
  subst hp
  exact Go.plain (fun T _ hx X _ r => XS.bipush X.here hx rfl hd (by rw [hz]; exact r)) K
theorem Go.sipush {i : Int} {z : Int32} (hd : decode c.code pc = .ok (.sipush i, 3)) (hp : pc + 3 = pc') (hz : (Int16.ofInt i).toInt32 = z) (K : Go p l e R s m args below meth c Z a0 EL nw fk Q vm h k n pc' L (.int z :: st)) : Go p l e R s m args below meth c Z a0 EL nw fk Q vm h k n pc L st := by
  subst hp
  exact Go.plain (fun T _ hx X _ r => XS.sipush X.here hx rfl hd (by rw [hz]; exact r)) K
theorem Go.lconst {q : Fin 2} (hd : decode c.code pc = .ok (.lconst q, 1)) (hp : pc + 1 = pc') (K : Go p l e R s m args below meth c Z a0 EL nw fk Q vm h k n pc' L (.long (Int64.ofNat q) :: st)) : Go p l e R s m args below meth c Z a0 EL nw fk Q vm h k n pc L st := by
  subst hp
  exact Go.plain (fun T _ hx X _ r => XT.lconst X.here hx rfl hd r) K
theorem Go.aconstNull (hd : decode c.code pc = .ok (.aconst_null, 1)) (hp : pc + 1 = pc') (K : Go p l e R s m args below meth c Z a0 EL nw fk Q vm h k n pc' L (.null :: st)) : Go p l e R s m args below meth c Z a0 EL nw fk Q vm h k n pc L st := by
  subst hp
  exact Go.plain (fun T _ hx X _ r => XS.aconstNull X.here hx rfl hd r) K
theorem Go.iadd {x y : Int32} (hd : decode c.code pc = .ok (.iadd, 1)) (hp : pc + 1 = pc') (K : Go p l e R s m args below meth c Z a0 EL nw fk Q vm h k n pc' L (.int (x + y) :: st)) : Go p l e R s m args below meth c Z a0 EL nw fk Q vm h k n pc L (.int y :: .int x :: st) := by
  subst hp
  exact Go.plain (fun T _ hx X _ r => XS.iadd X.here hx rfl hd rfl r) K
theorem Go.isub {x y : Int32} (hd : decode c.code pc = .ok (.isub, 1)) (hp : pc + 1 = pc') (K : Go p l e R s m args below meth c Z a0 EL nw fk Q vm h k n pc' L (.int (x - y) :: st)) : Go p l e R s m args below meth c Z a0 EL nw fk Q vm h k n pc L (.int y :: .int x :: st) := by
  subst hp
  exact Go.plain (fun T _ hx X _ r => XS.isub X.here hx rfl hd rfl r) K
theorem Go.iand {x y : Int32} (hd : decode c.code pc = .ok (.iand, 1)) (hp : pc + 1 = pc') (K : Go p l e R s m args below meth c Z a0 EL nw fk Q vm h k n pc' L (.int (x &&& y) :: st)) : Go p l e R s m args below meth c Z a0 EL nw fk Q vm h k n pc L (.int y :: .int x :: st) := by
  subst hp
  exact Go.plain (fun T _ hx X _ r => XS.iand X.here hx rfl hd rfl r) K
theorem Go.imul {x y : Int32} (hd : decode c.code pc = .ok (.imul, 1)) (hp : pc + 1 = pc') (K : Go p l e R s m args below meth c Z a0 EL nw fk Q vm h k n pc' L (.int (x * y) :: st)) : Go p l e R s m args below meth c Z a0 EL nw fk Q vm h k n pc L (.int y :: .int x :: st) := by
  subst hp
  exact Go.plain (fun T _ hx X _ r => XS.imul X.here hx rfl hd rfl r) K
theorem Go.ineg {x : Int32} (hd : decode c.code pc = .ok (.ineg, 1)) (hp : pc + 1 = pc') (K : Go p l e R s m args below meth c Z a0 EL nw fk Q vm h k n pc' L (.int (-x) :: st)) : Go p l e R s m args below meth c Z a0 EL nw fk Q vm h k n pc L (.int x :: st) := by
  subst hp
  exact Go.plain (fun T _ hx X _ r => XS.ineg X.here hx rfl hd rfl r) K
theorem Go.idiv {x y : Int32} (hd : decode c.code pc = .ok (.idiv, 1)) (hp : pc + 1 = pc') (hy : y ≠ 0) (K : Go p l e R s m args below meth c Z a0 EL nw fk Q vm h k n pc' L (.int (x / y) :: st)) : Go p l e R s m args below meth c Z a0 EL nw fk Q vm h k n pc L (.int y :: .int x :: st) := by
  subst hp
  exact Go.plain (fun T _ hx X _ r => XS.idiv X.here hx rfl hd rfl hy r) K
theorem Go.ixor {x y : Int32} (hd : decode c.code pc = .ok (.ixor, 1)) (hp : pc + 1 = pc') (K : Go p l e R s m args below meth c Z a0 EL nw fk Q vm h k n pc' L (.int (x ^^^ y) :: st)) : Go p l e R s m args below meth c Z a0 EL nw fk Q vm h k n pc L (.int y :: .int x :: st) := by
  subst hp
  exact Go.plain (fun T _ hx X _ r => XT.ixor X.here hx rfl hd rfl r) K
theorem Go.ior {x y : Int32} (hd : decode c.code pc = .ok (.ior, 1)) (hp : pc + 1 = pc') (K : Go p l e R s m args below meth c Z a0 EL nw fk Q vm h k n pc' L (.int (x ||| y) :: st)) : Go p l e R s m args below meth c Z a0 EL nw fk Q vm h k n pc L (.int y :: .int x :: st) := by
  subst hp
  exact Go.plain (fun T _ hx X _ r => XT.ior X.here hx rfl hd rfl r) K
theorem Go.ishl {x y : Int32} (hd : decode c.code pc = .ok (.ishl, 1)) (hp : pc + 1 = pc') (K : Go p l e R s m args below meth c Z a0 EL nw fk Q vm h k n pc' L (.int (x <<< (y &&& 31)) :: st)) : Go p l e R s m args below meth c Z a0 EL nw fk Q vm h k n pc L (.int y :: .int x :: st) := by
  subst hp
  exact Go.plain (fun T _ hx X _ r => XT.ishl X.here hx rfl hd rfl r) K
theorem Go.ishr {x y : Int32} (hd : decode c.code pc = .ok (.ishr, 1)) (hp : pc + 1 = pc') (K : Go p l e R s m args below meth c Z a0 EL nw fk Q vm h k n pc' L (.int (x >>> (y &&& 31)) :: st)) : Go p l e R s m args below meth c Z a0 EL nw fk Q vm h k n pc L (.int y :: .int x :: st) := by
  subst hp
  exact Go.plain (fun T _ hx X _ r => XT.ishr X.here hx rfl hd rfl r) K
theorem Go.iushr {x y : Int32} (hd : decode c.code pc = .ok (.iushr, 1)) (hp : pc + 1 = pc') (K : Go p l e R s m args below meth c Z a0 EL nw fk Q vm h k n pc' L (.int (XT.ushr x y) :: st)) : Go p l e R s m args below meth c Z a0 EL nw fk Q vm h k n pc L (.int y :: .int x :: st) := by
  subst hp
  exact Go.plain (fun T _ hx X _ r => XT.iushr X.here hx rfl hd rfl r) K
theorem Go.ladd {x y : Int64} (hd : decode c.code pc = .ok (.ladd, 1)) (hp : pc + 1 = pc') (K : Go p l e R s m args below meth c Z a0 EL nw fk Q vm h k n pc' L (.long (x + y) :: st)) : Go p l e R s m args below meth c Z a0 EL nw fk Q vm h k n pc L (.long y :: .long x :: st) := by
  subst hp
  exact Go.plain (fun T _ hx X _ r => XT.ladd X.here hx rfl hd rfl r) K
theorem Go.lsub {x y : Int64} (hd : decode c.code pc = .ok (.lsub, 1)) (hp : pc + 1 = pc') (K : Go p l e R s m args below meth c Z a0 EL nw fk Q vm h k n pc' L (.long (x - y) :: st)) : Go p l e R s m args below meth c Z a0 EL nw fk Q vm h k n pc L (.long y :: .long x :: st) := by
  subst hp
  exact Go.plain (fun T _ hx X _ r => XT.lsub X.here hx rfl hd rfl r) K
theorem Go.lmul {x y : Int64} (hd : decode c.code pc = .ok (.lmul, 1)) (hp : pc + 1 = pc') (K : Go p l e R s m args below meth c Z a0 EL nw fk Q vm h k n pc' L (.long (x * y) :: st)) : Go p l e R s m args below meth c Z a0 EL nw fk Q vm h k n pc L (.long y :: .long x :: st) := by
  subst hp
  exact Go.plain (fun T _ hx X _ r => XT.lmul X.here hx rfl hd rfl r) K
theorem Go.land {x y : Int64} (hd : decode c.code pc = .ok (.land, 1)) (hp : pc + 1 = pc') (K : Go p l e R s m args below meth c Z a0 EL nw fk Q vm h k n pc' L (.long (x &&& y) :: st)) : Go p l e R s m args below meth c Z a0 EL nw fk Q vm h k n pc L (.long y :: .long x :: st) := by
  subst hp
  exact Go.plain (fun T _ hx X _ r => XT.land X.here hx rfl hd rfl r) K
theorem Go.lor {x y : Int64} (hd : decode c.code pc = .ok (.lor, 1)) (hp : pc + 1 = pc') (K : Go p l e R s m args below meth c Z a0 EL nw fk Q vm h k n pc' L (.long (x ||| y) :: st)) : Go p l e R s m args below meth c Z a0 EL nw fk Q vm h k n pc L (.long y :: .long x :: st) := by
  subst hp
  exact Go.plain (fun T _ hx X _ r => XT.lor X.here hx rfl hd rfl r) K
theorem Go.lxor {x y : Int64} (hd : decode c.code pc = .ok (.lxor, 1)) (hp : pc + 1 = pc') (K : Go p l e R s m args below meth c Z a0 EL nw fk Q vm h k n pc' L (.long (x ^^^ y) :: st)) : Go p l e R s m args below meth c Z a0 EL nw fk Q vm h k n pc L (.long y :: .long x :: st) := by
  subst hp
  exact Go.plain (fun T _ hx X _ r => XT.lxor X.here hx rfl hd rfl r) K
theorem Go.lshl {x : Int64} {y : Int32} (hd : decode c.code pc = .ok (.lshl, 1)) (hp : pc + 1 = pc') (K : Go p l e R s m args below meth c Z a0 EL nw fk Q vm h k n pc' L (.long (x <<< (y.toInt64 &&& 63)) :: st)) : Go p l e R s m args below meth c Z a0 EL nw fk Q vm h k n pc L (.int y :: .long x :: st) := by
  subst hp
  exact Go.plain (fun T _ hx X _ r => XT.lshl X.here hx rfl hd rfl r) K
theorem Go.lshr {x : Int64} {y : Int32} (hd : decode c.code pc = .ok (.lshr, 1)) (hp : pc + 1 = pc') (K : Go p l e R s m args below meth c Z a0 EL nw fk Q vm h k n pc' L (.long (x >>> (y.toInt64 &&& 63)) :: st)) : Go p l e R s m args below meth c Z a0 EL nw fk Q vm h k n pc L (.int y :: .long x :: st) := by
  subst hp
  exact Go.plain (fun T _ hx X _ r => XT.lshr X.here hx rfl hd rfl r) K
theorem Go.lushr {x : Int64} {y : Int32} (hd : decode c.code pc = .ok (.lushr, 1)) (hp : pc + 1 = pc') (K : Go p l e R s m args below meth c Z a0 EL nw fk Q vm h k n pc' L (.long (XT.ushrL x y) :: st)) : Go p l e R s m args below meth c Z a0 EL nw fk Q vm h k n pc L (.int y :: .long x :: st) := by
  subst hp
  exact Go.plain (fun T _ hx X _ r => XT.lushr X.here hx rfl hd rfl r) K
theorem Go.ldiv {x y : Int64} (hd : decode c.code pc = .ok (.ldiv, 1)) (hp : pc + 1 = pc') (hy : y ≠ 0) (K : Go p l e R s m args below meth c Z a0 EL nw fk Q vm h k n pc' L (.long (x / y) :: st)) : Go p l e R s m args below meth c Z a0 EL nw fk Q vm h k n pc L (.long y :: .long x :: st) := by
  subst hp
  exact Go.plain (fun T _ hx X _ r => XT.ldiv X.here hx rfl hd rfl hy r) K
theorem Go.lrem {x y : Int64} (hd : decode c.code pc = .ok (.lrem, 1)) (hp : pc + 1 = pc') (hy : y ≠ 0) (K : Go p l e R s m args below meth c Z a0 EL nw fk Q vm h k n pc' L (.long (x - (x / y) * y) :: st)) : Go p l e R s m args below meth c Z a0 EL nw fk Q vm h k n pc L (.long y :: .long x :: st) := by
  subst hp
  exact Go.plain (fun T _ hx X _ r => XT.lrem X.here hx rfl hd rfl hy r) K
theorem Go.lneg {x : Int64} (hd : decode c.code pc = .ok (.lneg, 1)) (hp : pc + 1 = pc') (K : Go p l e R s m args below meth c Z a0 EL nw fk Q vm h k n pc' L (.long (-x) :: st)) : Go p l e R s m args below meth c Z a0 EL nw fk Q vm h k n pc L (.long x :: st) := by
  subst hp
  exact Go.plain (fun T _ hx X _ r => XT.lneg X.here hx rfl hd rfl r) K
theorem Go.i2l {x : Int32} (hd : decode c.code pc = .ok (.i2l, 1)) (hp : pc + 1 = pc') (K : Go p l e R s m args below meth c Z a0 EL nw fk Q vm h k n pc' L (.long x.toInt64 :: st)) : Go p l e R s m args below meth c Z a0 EL nw fk Q vm h k n pc L (.int x :: st) := by
  subst hp
  exact Go.plain (fun T _ hx X _ r => XT.i2l X.here hx rfl hd rfl r) K
theorem Go.l2i {x : Int64} (hd : decode c.code pc = .ok (.l2i, 1)) (hp : pc + 1 = pc') (K : Go p l e R s m args below meth c Z a0 EL nw fk Q vm h k n pc' L (.int x.toInt32 :: st)) : Go p l e R s m args below meth c Z a0 EL nw fk Q vm h k n pc L (.long x :: st) := by
  subst hp
  exact Go.plain (fun T _ hx X _ r => XT.l2i X.here hx rfl hd rfl r) K
theorem Go.i2b {x : Int32} (hd : decode c.code pc = .ok (.i2b, 1)) (hp : pc + 1 = pc') (K : Go p l e R s m args below meth c Z a0 EL nw fk Q vm h k n pc' L (.int x.toInt8.toInt32 :: st)) : Go p l e R s m args below meth c Z a0 EL nw fk Q vm h k n pc L (.int x :: st) := by
  subst hp
  exact Go.plain (fun T _ hx X _ r => XT.i2b X.here hx rfl hd rfl r) K
theorem Go.i2c {x : Int32} (hd : decode c.code pc = .ok (.i2c, 1)) (hp : pc + 1 = pc') (K : Go p l e R s m args below meth c Z a0 EL nw fk Q vm h k n pc' L (.int (nar .char x) :: st)) : Go p l e R s m args below meth c Z a0 EL nw fk Q vm h k n pc L (.int x :: st) := by
  subst hp
  exact Go.plain (fun T _ hx X _ r => XT.i2c X.here hx rfl hd rfl r) K
theorem Go.i2s {x : Int32} (hd : decode c.code pc = .ok (.i2s, 1)) (hp : pc + 1 = pc') (K : Go p l e R s m args below meth c Z a0 EL nw fk Q vm h k n pc' L (.int x.toInt16.toInt32 :: st)) : Go p l e R s m args below meth c Z a0 EL nw fk Q vm h k n pc L (.int x :: st) := by
  subst hp
  exact Go.plain (fun T _ hx X _ r => XT.i2s X.here hx rfl hd rfl r) K
theorem Go.lcmp {x y : Int64} (hd : decode c.code pc = .ok (.lcmp, 1)) (hp : pc + 1 = pc') (K : Go p l e R s m args below meth c Z a0 EL nw fk Q vm h k n pc' L (.int (XT.cmpL x y) :: st)) : Go p l e R s m args below meth c Z a0 EL nw fk Q vm h k n pc L (.long y :: .long x :: st) := by
  subst hp
  exact Go.plain (fun T _ hx X _ r => XT.lcmp X.here hx rfl hd rfl r) K
theorem Go.dup {v : Value} (hd : decode c.code pc = .ok (.dup, 1)) (hp : pc + 1 = pc') (hc : v.category = 1) (K : Go p l e R s m args below meth c Z a0 EL nw fk Q vm h k n pc' L (v :: v :: st)) : Go p l e R s m args below meth c Z a0 EL nw fk Q vm h k n pc L (v :: st) := by
  subst hp
  exact Go.plain (fun T _ hx X _ r => XS.dup X.here hx rfl hd rfl hc r) K
theorem Go.pop {v : Value} (hd : decode c.code pc = .ok (.pop, 1)) (hp : pc + 1 = pc') (hc : v.category = 1) (K : Go p l e R s m args below meth c Z a0 EL nw fk Q vm h k n pc' L st) : Go p l e R s m args below meth c Z a0 EL nw fk Q vm h k n pc L (v :: st) := by
  subst hp
  exact Go.plain (fun T _ hx X _ r => XT.pop X.here hx rfl hd rfl hc r) K
theorem Go.dupX1 {v w : Value} (hd : decode c.code pc = .ok (.dup_x1, 1)) (hp : pc + 1 = pc') (hc : v.category = 1) (hc' : w.category = 1) (K : Go p l e R s m args below meth c Z a0 EL nw fk Q vm h k n pc' L (v :: w :: v :: st)) : Go p l e R s m args below meth c Z a0 EL nw fk Q vm h k n pc L (v :: w :: st) := by
  subst hp
  exact Go.plain (fun T _ hx X _ r => XT.dupX1 X.here hx rfl hd rfl hc hc' r) K
theorem Go.dup2 {v w : Value} (hd : decode c.code pc = .ok (.dup2, 1)) (hp : pc + 1 = pc') (hc : v.category = 1) (hc' : w.category = 1) (K : Go p l e R s m args below meth c Z a0 EL nw fk Q vm h k n pc' L (v :: w :: v :: w :: st)) : Go p l e R s m args below meth c Z a0 EL nw fk Q vm h k n pc L (v :: w :: st) := by
  subst hp
  exact Go.plain (fun T _ hx X _ r => XT.dup2 X.here hx rfl hd rfl hc hc' r) K
theorem Go.istoreN {q : Fin 4} {z : Int32} {L' : Array Slot} (hd : decode c.code pc = .ok (.istore_n q, 1)) (hp : pc + 1 = pc') (hl : storeLocals L q.val (.int z) = some L') (K : Go p l e R s m args below meth c Z a0 EL nw fk Q vm h k n pc' L' st) : Go p l e R s m args below meth c Z a0 EL nw fk Q vm h k n pc L (.int z :: st) := by
  subst hp
  exact Go.plain (fun T _ hx X _ r => XS.istoreN X.here hx rfl hd rfl hl r) K
theorem Go.istore {q : Nat} {z : Int32} {L' : Array Slot} (hd : decode c.code pc = .ok (.istore q, 2)) (hp : pc + 2 = pc') (hl : storeLocals L q (.int z) = some L') (K : Go p l e R s m args below meth c Z a0 EL nw fk Q vm h k n pc' L' st) : Go p l e R s m args below meth c Z a0 EL nw fk Q vm h k n pc L (.int z :: st) := by
  subst hp
  exact Go.plain (fun T _ hx X _ r => XS.istore X.here hx rfl hd rfl hl r) K
theorem Go.lstoreN {q : Fin 4} {z : Int64} {L' : Array Slot} (hd : decode c.code pc = .ok (.lstore_n q, 1)) (hp : pc + 1 = pc') (hl : storeLocals L q.val (.long z) = some L') (K : Go p l e R s m args below meth c Z a0 EL nw fk Q vm h k n pc' L' st) : Go p l e R s m args below meth c Z a0 EL nw fk Q vm h k n pc L (.long z :: st) := by
  subst hp
  exact Go.plain (fun T _ hx X _ r => XT.lstoreN X.here hx rfl hd rfl hl r) K
theorem Go.lstore {q : Nat} {z : Int64} {L' : Array Slot} (hd : decode c.code pc = .ok (.lstore q, 2)) (hp : pc + 2 = pc') (hl : storeLocals L q (.long z) = some L') (K : Go p l e R s m args below meth c Z a0 EL nw fk Q vm h k n pc' L' st) : Go p l e R s m args below meth c Z a0 EL nw fk Q vm h k n pc L (.long z :: st) := by
  subst hp
  exact Go.plain (fun T _ hx X _ r => XT.lstore X.here hx rfl hd rfl hl r) K
theorem Go.astoreN {q : Fin 4} {v : Value} {L' : Array Slot} (hd : decode c.code pc = .ok (.astore_n q, 1)) (hp : pc + 1 = pc') (hv : v.isRef = true) (hl : storeLocals L q.val v = some L') (K : Go p l e R s m args below meth c Z a0 EL nw fk Q vm h k n pc' L' st) : Go p l e R s m args below meth c Z a0 EL nw fk Q vm h k n pc L (v :: st) := by
  subst hp
  exact Go.plain (fun T _ hx X _ r => XS.astoreN X.here hx rfl hd rfl hv hl r) K
theorem Go.astore {q : Nat} {v : Value} {L' : Array Slot} (hd : decode c.code pc = .ok (.astore q, 2)) (hp : pc + 2 = pc') (hv : v.isRef = true) (hl : storeLocals L q v = some L') (K : Go p l e R s m args below meth c Z a0 EL nw fk Q vm h k n pc' L' st) : Go p l e R s m args below meth c Z a0 EL nw fk Q vm h k n pc L (v :: st) := by
  subst hp
  exact Go.plain (fun T _ hx X _ r => XS.astore X.here hx rfl hd rfl hv hl r) K
theorem Go.iinc {q : Nat} {i : Int} {x : Int32} {L' : Array Slot} (hd : decode c.code pc = .ok (.iinc q i, 3)) (hp : pc + 3 = pc') (hl : L[q]? = some (.val (.int x))) (hl' : storeLocals L q (.int (x + Int32.ofInt i)) = some L') (K : Go p l e R s m args below meth c Z a0 EL nw fk Q vm h k n pc' L' st) : Go p l e R s m args below meth c Z a0 EL nw fk Q vm h k n pc L st := by
  subst hp
  exact Go.plain (fun T _ hx X _ r => XS.iinc X.here hx rfl hd hl hl' r) K
theorem Go.irem {x y : Int32} (hd : decode c.code pc = .ok (.irem, 1)) (hp : pc + 1 = pc') (hy : y ≠ 0) (K : Go p l e R s m args below meth c Z a0 EL nw fk Q vm h k n pc' L (.int (x % y) :: st)) : Go p l e R s m args below meth c Z a0 EL nw fk Q vm h k n pc L (.int y :: .int x :: st) := by
  subst hp
  exact Go.plain (fun T _ hx X _ r => iremM X hx (g := mkF m pc L (.int y :: .int x :: st)) rfl hd rfl hy r) K
theorem Go.goto {o : Int} (hd : decode c.code pc = .ok (.goto o, 3)) (ho : 0 ≤ (pc : Int) + o) (hp : ((pc : Int) + o).toNat = pc') (K : Go p l e R s m args below meth c Z a0 EL nw fk Q vm h k n pc' L st) : Go p l e R s m args below meth c Z a0 EL nw fk Q vm h k n pc L st :=
  Go.plain (fun T _ hx X _ r => XS.goto X.here hx rfl rfl hd ho hp r) K
/-- what a comparison of ints asks -/
def cP : ClassFile.Cond → Int32 → Int32 → Prop
  | .eq, x, y => x = y
  | .ne, x, y => ¬ x = y
  | .lt, x, y => x < y
  | .ge, x, y => ¬ x < y
  | .gt, x, y => y < x
  | .le, x, y => ¬ y < x
theorem cP_t {cd : ClassFile.Cond} {x y : Int32} (q : cP cd x y) : if_icmp.holds cd x y = true := by
  cases cd
  · exact (teq q).1
  · exact (feq q).2
  · exact (tlt q).1
  · exact (flt q).2.1
  · exact (tlt q).2.2.1
  · exact (flt q).2.2.2
theorem cP_f {cd : ClassFile.Cond} {x y : Int32} (q : ¬ cP cd x y) : if_icmp.holds cd x y = false := by
  cases cd
  · exact (feq q).1
  · exact (teq (Classical.not_not.mp q)).2
  · exact (flt q).1
  · exact (tlt (Classical.not_not.mp q)).2.1
  · exact (flt q).2.2.1
  · exact (tlt (Classical.not_not.mp q)).2.2.2
theorem Go.icmp {cd : ClassFile.Cond} {x y : Int32} {o : Int} {pc2 : Nat} (hd : decode c.code pc = .ok (.if_icmp cd o, 3)) (ho : 0 ≤ (pc : Int) + o) (hp : ((pc : Int) + o).toNat = pc') (hp2 : pc + 3 = pc2) (Kt : cP cd x y → Go p l e R s m args below meth c Z a0 EL nw fk Q vm h k n pc' L st) (Kf : ¬ cP cd x y → Go p l e R s m args below meth c Z a0 EL nw fk Q vm h k n pc2 L st) : Go p l e R s m args below meth c Z a0 EL nw fk Q vm h k n pc L (.int y :: .int x :: st) := by
  subst hp2
  by_cases q : cP cd x y
  · exact Go.plain (fun T _ hx X _ r => XS.icmpYes X.here hx rfl rfl hd rfl (cP_t q) ho hp r) (Kt q)
  · exact Go.plain (fun T _ hx X _ r => XS.icmpNo X.here hx rfl hd rfl (cP_f q) r) (Kf q)
theorem Go.icmpY {cd : ClassFile.Cond} {x y : Int32} {o : Int} (hd : decode c.code pc = .ok (.if_icmp cd o, 3)) (ho : 0 ≤ (pc : Int) + o) (hp : ((pc : Int) + o).toNat = pc') (q : cP cd x y) (K : Go p l e R s m args below meth c Z a0 EL nw fk Q vm h k n pc' L st) : Go p l e R s m args below meth c Z a0 EL nw fk Q vm h k n pc L (.int y :: .int x :: st) :=
  Go.plain (fun T _ hx X _ r => XS.icmpYes X.here hx rfl rfl hd rfl (cP_t q) ho hp r) K
theorem Go.icmpN {cd : ClassFile.Cond} {x y : Int32} {o : Int} (hd : decode c.code pc = .ok (.if_icmp cd o, 3)) (hp : pc + 3 = pc') (q : ¬ cP cd x y) (K : Go p l e R s m args below meth c Z a0 EL nw fk Q vm h k n pc' L st) : Go p l e R s m args below meth c Z a0 EL nw fk Q vm h k n pc L (.int y :: .int x :: st) := by
  subst hp
  exact Go.plain (fun T _ hx X _ r => XS.icmpNo X.here hx rfl hd rfl (cP_f q) r) K
theorem Go.ifc {cd : ClassFile.Cond} {x : Int32} {o : Int} {pc2 : Nat} (hd : decode c.code pc = .ok (.ifCond cd o, 3)) (ho : 0 ≤ (pc : Int) + o) (hp : ((pc : Int) + o).toNat = pc') (hp2 : pc + 3 = pc2) (Kt : cP cd x 0 → Go p l e R s m args below meth c Z a0 EL nw fk Q vm h k n pc' L st) (Kf : ¬ cP cd x 0 → Go p l e R s m args below meth c Z a0 EL nw fk Q vm h k n pc2 L st) : Go p l e R s m args below meth c Z a0 EL nw fk Q vm h k n pc L (.int x :: st) := by
  subst hp2
  by_cases q : cP cd x 0
  · exact Go.plain (fun T _ hx X _ r => XS.ifYes X.here hx rfl rfl hd rfl ((if0 cd x).trans (cP_t q)) ho hp r) (Kt q)
  · exact Go.plain (fun T _ hx X _ r => XS.ifNo X.here hx rfl hd rfl ((if0 cd x).trans (cP_f q)) r) (Kf q)
theorem Go.ifY {cd : ClassFile.Cond} {x : Int32} {o : Int} (hd : decode c.code pc = .ok (.ifCond cd o, 3)) (ho : 0 ≤ (pc : Int) + o) (hp : ((pc : Int) + o).toNat = pc') (q : cP cd x 0) (K : Go p l e R s m args below meth c Z a0 EL nw fk Q vm h k n pc' L st) : Go p l e R s m args below meth c Z a0 EL nw fk Q vm h k n pc L (.int x :: st) :=
  Go.plain (fun T _ hx X _ r => XS.ifYes X.here hx rfl rfl hd rfl ((if0 cd x).trans (cP_t q)) ho hp r) K
theorem Go.ifN {cd : ClassFile.Cond} {x : Int32} {o : Int} (hd : decode c.code pc = .ok (.ifCond cd o, 3)) (hp : pc + 3 = pc') (q : ¬ cP cd x 0) (K : Go p l e R s m args below meth c Z a0 EL nw fk Q vm h k n pc' L st) : Go p l e R s m args below meth c Z a0 EL nw fk Q vm h k n pc L (.int x :: st) := by
  subst hp
  exact Go.plain (fun T _ hx X _ r => XS.ifNo X.here hx rfl hd rfl ((if0 cd x).trans (cP_f q)) r) K
theorem Go.ifnullY {o : Int} (hd : decode c.code pc = .ok (.ifnull o, 3)) (ho : 0 ≤ (pc : Int) + o) (hp : ((pc : Int) + o).toNat = pc') (K : Go p l e R s m args below meth c Z a0 EL nw fk Q vm h k n pc' L st) : Go p l e R s m args below meth c Z a0 EL nw fk Q vm h k n pc L (.null :: st) :=
  Go.plain (fun T _ hx X _ r => XS.ifnullYes X.here hx rfl rfl hd rfl ho hp r) K
theorem Go.ifnullN {o : Int} {b : Addr} (hd : decode c.code pc = .ok (.ifnull o, 3)) (hp : pc + 3 = pc') (K : Go p l e R s m args below meth c Z a0 EL nw fk Q vm h k n pc' L st) : Go p l e R s m args below meth c Z a0 EL nw fk Q vm h k n pc L (.ref b :: st) := by
  subst hp
  exact Go.plain (fun T _ hx X _ r => XS.ifnullNo X.here hx rfl hd rfl r) K
theorem Go.ifnonnullY {o : Int} {b : Addr} (hd : decode c.code pc = .ok (.ifnonnull o, 3)) (ho : 0 ≤ (pc : Int) + o) (hp : ((pc : Int) + o).toNat = pc') (K : Go p l e R s m args below meth c Z a0 EL nw fk Q vm h k n pc' L st) : Go p l e R s m args below meth c Z a0 EL nw fk Q vm h k n pc L (.ref b :: st) :=
  Go.plain (fun T _ hx X _ r => XT.ifnonnullYes X.here hx rfl rfl hd rfl ho hp r) K
theorem Go.ifnonnullN {o : Int} (hd : decode c.code pc = .ok (.ifnonnull o, 3)) (hp : pc + 3 = pc') (K : Go p l e R s m args below meth c Z a0 EL nw fk Q vm h k n pc' L st) : Go p l e R s m args below meth c Z a0 EL nw fk Q vm h k n pc L (.null :: st) := by
  subst hp
  exact Go.plain (fun T _ hx X _ r => XT.ifnonnullNo X.here hx rfl hd rfl r) K
theorem Go.acmpY {cd : ClassFile.ACond} {x y : Value} {o : Int} (hd : decode c.code pc = .ok (.if_acmp cd o, 3)) (ho : 0 ≤ (pc : Int) + o) (hp : ((pc : Int) + o).toNat = pc') (h1 : x.isRef = true) (h2 : y.isRef = true) (q : XT.acmp cd x y = true) (K : Go p l e R s m args below meth c Z a0 EL nw fk Q vm h k n pc' L st) : Go p l e R s m args below meth c Z a0 EL nw fk Q vm h k n pc L (y :: x :: st) :=
  Go.plain (fun T _ hx X _ r => XT.acmpYes X.here hx rfl rfl hd rfl h1 h2 q ho hp r) K
theorem Go.acmpN {cd : ClassFile.ACond} {x y : Value} {o : Int} (hd : decode c.code pc = .ok (.if_acmp cd o, 3)) (hp : pc + 3 = pc') (h1 : x.isRef = true) (h2 : y.isRef = true) (q : XT.acmp cd x y = false) (K : Go p l e R s m args below meth c Z a0 EL nw fk Q vm h k n pc' L st) : Go p l e R s m args below meth c Z a0 EL nw fk Q vm h k n pc L (y :: x :: st) := by
  subst hp
  exact Go.plain (fun T _ hx X _ r => XT.acmpNo X.here hx rfl hd rfl h1 h2 q r) K
theorem Go.getF {own R0 O nm d : String} {index : Nat} {a : Addr} {v : Value} (hown : Z.vm.findClass own = some m.cls) (w : (Jvm.Cond.fieldLink own index R0 nm d).before a0 Z = true) (via : Via Z R0 O nm d) (F : Fld Z h a O nm d v) (hd : decode c.code pc = .ok (.getfield index, 3)) (hp : pc + 3 = pc') (K : Go p l e R s m args below meth c Z a0 EL nw fk Q vm h k n pc' L (v :: st)) : Go p l e R s m args below meth c Z a0 EL nw fk Q vm h k n pc L (.ref a :: st) := fun T locs k0 hx hk hE X eT hS hk0 hF hZ hN hC hO hK hO0 => by
  subst hp
  have hown' : (s.setVm vm).vm.findClass own = some m.cls := by
    show vm.findClass own = _
    rw [hZ.alike.findClass]; exact hown
  obtain ⟨T', X', e', st'⟩ := RoadKit.getF X hx (s := s.setVm vm) hZ hown' (host := "") (Or.inl w) via eT F (g := mkF m pc L (.ref a :: st)) rfl rfl hd
  obtain ⟨t, v, L', r1, r2⟩ := K T' locs k0 hx hk hE X' e' hS hk0 hF hZ hN hC hO hK hO0
  exact ⟨t, v, L', st' _ r1, r2⟩
theorem Go.getFN {own R0 O nm d host : String} {index : Nat} {a : Addr} {v : Value} (hown : Z.vm.findClass own = some m.cls) (w : (Jvm.Cond.fieldLinkNest own index R0 nm d host).before a0 Z = true) (via : Via Z R0 O nm d) (F : Fld Z h a O nm d v) (hd : decode c.code pc = .ok (.getfield index, 3)) (hp : pc + 3 = pc') (K : Go p l e R s m args below meth c Z a0 EL nw fk Q vm h k n pc' L (v :: st)) : Go p l e R s m args below meth c Z a0 EL nw fk Q vm h k n pc L (.ref a :: st) := fun T locs k0 hx hk hE X eT hS hk0 hF hZ hN hC hO hK hO0 => by
  subst hp
  have hown' : (s.setVm vm).vm.findClass own = some m.cls := by
    show vm.findClass own = _
    rw [hZ.alike.findClass]; exact hown
  obtain ⟨T', X', e', st'⟩ := RoadKit.getF X hx (s := s.setVm vm) hZ hown' (Or.inr w) via eT F (g := mkF m pc L (.ref a :: st)) rfl rfl hd
  obtain ⟨t, v, L', r1, r2⟩ := K T' locs k0 hx hk hE X' e' hS hk0 hF hZ hN hC hO hK hO0
  exact ⟨t, v, L', st' _ r1, r2⟩
theorem Go.getS {own R0 O nm d : String} {index : Nat} {v : Value} (hown : Z.vm.findClass own = some m.cls) (w : (Jvm.Cond.fieldLink own index R0 nm d).before a0 Z = true) (via : Via Z R0 O nm d) (F : Sta Z Z.heap O nm d v) (hd : decode c.code pc = .ok (.getstatic index, 3)) (hp : pc + 3 = pc') (K : Go p l e R s m args below meth c Z a0 EL nw fk Q vm h k n pc' L (v :: st)) : Go p l e R s m args below meth c Z a0 EL nw fk Q vm h k n pc L st := fun T locs k0 hx hk hE X eT hS hk0 hF hZ hN hC hO hK hO0 => by
  subst hp
  have hown' : (s.setVm vm).vm.findClass own = some m.cls := by
    show vm.findClass own = _
    rw [hZ.alike.findClass]; exact hown
  obtain ⟨T', X', e', st'⟩ := RoadKit.getS X hx (s := s.setVm vm) hZ (host := "") hown' w via eT (F.ext hO) (g := mkF m pc L st) rfl hd
  obtain ⟨t, v, L', r1, r2⟩ := K T' locs k0 hx hk hE X' e' hS hk0 hF hZ hN hC hO hK hO0
  exact ⟨t, v, L', st' _ r1, r2⟩
theorem Go.getSN {own R0 O nm d host : String} {index : Nat} {v : Value} (hown : Z.vm.findClass own = some m.cls) (w : (Jvm.Cond.fieldLinkNest own index R0 nm d host).before a0 Z = true) (via : Via Z R0 O nm d) (F : Sta Z Z.heap O nm d v) (hd : decode c.code pc = .ok (.getstatic index, 3)) (hp : pc + 3 = pc') (K : Go p l e R s m args below meth c Z a0 EL nw fk Q vm h k n pc' L (v :: st)) : Go p l e R s m args below meth c Z a0 EL nw fk Q vm h k n pc L st := fun T locs k0 hx hk hE X eT hS hk0 hF hZ hN hC hO hK hO0 => by
  subst hp
  have hown' : (s.setVm vm).vm.findClass own = some m.cls := by
    show vm.findClass own = _
    rw [hZ.alike.findClass]; exact hown
  obtain ⟨T', X', e', st'⟩ := RoadKit.getS2 X hx (s := s.setVm vm) hZ hown' (Or.inr w) via eT (F.ext hO) (g := mkF m pc L st) rfl hd
  obtain ⟨t, v, L', r1, r2⟩ := K T' locs k0 hx hk hE X' e' hS hk0 hF hZ hN hC hO hK hO0
  exact ⟨t, v, L', st' _ r1, r2⟩
theorem Go.castY {own K0 : String} {index : Nat} {a : Addr} (hown : Z.vm.findClass own = some m.cls) (w : (Jvm.Cond.classLink own index K0).before a0 Z = true) (F : Ins Z h a K0 true) (hd : decode c.code pc = .ok (.checkcast index, 3)) (hp : pc + 3 = pc') (K : Go p l e R s m args below meth c Z a0 EL nw fk Q vm h k n pc' L (.ref a :: st)) : Go p l e R s m args below meth c Z a0 EL nw fk Q vm h k n pc L (.ref a :: st) := fun T locs k0 hx hk hE X eT hS hk0 hF hZ hN hC hO hK hO0 => by
  subst hp
  have hown' : (s.setVm vm).vm.findClass own = some m.cls := by
    show vm.findClass own = _
    rw [hZ.alike.findClass]; exact hown
  obtain ⟨T', X', e', st'⟩ := RoadKit.castY X hx (s := s.setVm vm) hZ hown' w eT F (g := mkF m pc L (.ref a :: st)) rfl rfl hd
  obtain ⟨t, v, L', r1, r2⟩ := K T' locs k0 hx hk hE X' e' hS hk0 hF hZ hN hC hO hK hO0
  exact ⟨t, v, L', st' _ r1, r2⟩
theorem Go.instY {own K0 : String} {index : Nat} {a : Addr} (hown : Z.vm.findClass own = some m.cls) (w : (Jvm.Cond.classLink own index K0).before a0 Z = true) (F : Ins Z h a K0 true) (hd : decode c.code pc = .ok (.instanceof index, 3)) (hp : pc + 3 = pc') (K : Go p l e R s m args below meth c Z a0 EL nw fk Q vm h k n pc' L (.int 1 :: st)) : Go p l e R s m args below meth c Z a0 EL nw fk Q vm h k n pc L (.ref a :: st) := fun T locs k0 hx hk hE X eT hS hk0 hF hZ hN hC hO hK hO0 => by
  subst hp
  have hown' : (s.setVm vm).vm.findClass own = some m.cls := by
    show vm.findClass own = _
    rw [hZ.alike.findClass]; exact hown
  obtain ⟨T', X', e', st'⟩ := RoadKit.instY X hx (s := s.setVm vm) hZ hown' w eT F (g := mkF m pc L (.ref a :: st)) rfl rfl hd
  obtain ⟨t, v, L', r1, r2⟩ := K T' locs k0 hx hk hE X' e' hS hk0 hF hZ hN hC hO hK hO0
  exact ⟨t, v, L', st' _ r1, r2⟩
theorem Go.instNo {own K0 C : String} {index : Nat} {a : Addr} (hown : Z.vm.findClass own = some m.cls) (w : (Jvm.Cond.classLink own index K0).before a0 Z = true) (E : Exa Z h a C) (F : ∃ c t, Z.vm.findClass C = some c ∧ Z.vm.findClass K0 = some t ∧ Z.vm.assignable c t = false) (hd : decode c.code pc = .ok (.instanceof index, 3)) (hp : pc + 3 = pc') (K : Go p l e R s m args below meth c Z a0 EL nw fk Q vm h k n pc' L (.int 0 :: st)) : Go p l e R s m args below meth c Z a0 EL nw fk Q vm h k n pc L (.ref a :: st) := fun T locs k0 hx hk hE X eT hS hk0 hF hZ hN hC hO hK hO0 => by
  subst hp
  have hown' : (s.setVm vm).vm.findClass own = some m.cls := by
    show vm.findClass own = _
    rw [hZ.alike.findClass]; exact hown
  obtain ⟨T', X', e', st'⟩ := RoadKit.instNo X hx (s := s.setVm vm) hZ hown' w eT E F (g := mkF m pc L (.ref a :: st)) rfl rfl hd
  obtain ⟨t, v, L', r1, r2⟩ := K T' locs k0 hx hk hE X' e' hS hk0 hF hZ hN hC hO hK hO0
  exact ⟨t, v, L', st' _ r1, r2⟩
theorem Go.initO {own : String} {index W : Nat} {a : Addr} (hown : Z.vm.findClass own = some m.cls) (w1 : (Jvm.Cond.methodLink own index Lib.objectInit).before a0 Z = true) (w2 : (Jvm.Cond.instanceMethod Lib.objectInit).before a0 Z = true) (w3 : (Jvm.Cond.code Lib.objectInit ⟨#[0xb1]⟩ 1 none).before a0 Z = true) (hL : L.size = c.maxLocals) (hd : decode c.code pc = .ok (.invokespecial index, 3)) (hf : 1 ≤ R.frames) (hW : (st.map fun v => v.category).sum = W) (hl : W + 12 ≤ R.locals) (hp : pc + 3 = pc') (K : Go p l e R s m args below meth c Z a0 EL nw fk Q vm h k n pc' L st) : Go p l e R s m args below meth c Z a0 EL nw fk Q vm h k n pc L (.ref a :: st) := fun T locs k0 hx hk hE X eT hS hk0 hF hZ hN hC hO hK hO0 => by
  subst hp
  have hown' : (s.setVm vm).vm.findClass own = some m.cls := by
    show vm.findClass own = _
    rw [hZ.alike.findClass]; exact hown
  obtain ⟨T', X', e', st'⟩ := RoadKit.initO X hx (s := s.setVm vm) hZ hown' w1 w2 w3 eT (g := mkF m pc L (.ref a :: st)) rfl hL rfl hd hf (W := W) (by show 2 * 0 + _ ≤ _; rw [Nat.mul_zero, Nat.zero_add]; exact Nat.le_of_eq hW) hl
  obtain ⟨t, v, L', r1, r2⟩ := K T' locs k0 hx hk hE X' e' hS hk0 hF hZ hN hC hO hK hO0
  exact ⟨t, v, L', st' _ r1, r2⟩
theorem Go.ldcInt {own : String} {index : Nat} {z : Int32} (hown : Z.vm.findClass own = some m.cls) (w : (Jvm.Cond.constant own index z).before a0 Z = true) (hd : decode c.code pc = .ok (.ldc index, 2)) (hp : pc + 2 = pc') (K : Go p l e R s m args below meth c Z a0 EL nw fk Q vm h k n pc' L (.int z :: st)) : Go p l e R s m args below meth c Z a0 EL nw fk Q vm h k n pc L st := fun T locs k0 hx hk hE X eT hS hk0 hF hZ hN hC hO hK hO0 => by
  subst hp
  have hown' : (s.setVm vm).vm.findClass own = some m.cls := by
    show vm.findClass own = _
    rw [hZ.alike.findClass]; exact hown
  obtain ⟨t, v, L', r1, r2⟩ := K T locs k0 hx hk hE X eT hS hk0 hF hZ hN hC hO hK hO0
  exact ⟨t, v, L', X.ldcInt hx hown' (mv (s := s.setVm vm) hZ w) (g := mkF m pc L st) rfl hd _ r1, r2⟩
theorem Go.ldc2Long {own : String} {index : Nat} {z : Int64} (hown : Z.vm.findClass own = some m.cls) (w : (Jvm.Cond.constantLong own index z).before a0 Z = true) (hd : decode c.code pc = .ok (.ldc2_w index, 3)) (hp : pc + 3 = pc') (K : Go p l e R s m args below meth c Z a0 EL nw fk Q vm h k n pc' L (.long z :: st)) : Go p l e R s m args below meth c Z a0 EL nw fk Q vm h k n pc L st := fun T locs k0 hx hk hE X eT hS hk0 hF hZ hN hC hO hK hO0 => by
  subst hp
  have hown' : (s.setVm vm).vm.findClass own = some m.cls := by
    show vm.findClass own = _
    rw [hZ.alike.findClass]; exact hown
  obtain ⟨t, v, L', r1, r2⟩ := K T locs k0 hx hk hE X eT hS hk0 hF hZ hN hC hO hK hO0
  exact ⟨t, v, L', X.ldc2Long hx hown' (mv (s := s.setVm vm) hZ w) (g := mkF m pc L st) rfl hd _ r1, r2⟩
theorem Go.alen {a : Addr} {kA : ClassId} {ty : FieldType} {vs : List Value} {z : Int32} (A : Ar Z h a kA ty vs) (hz : vs.length.toInt32 = z) (hd : decode c.code pc = .ok (.arraylength, 1)) (hp : pc + 1 = pc') (K : Go p l e R s m args below meth c Z a0 EL nw fk Q vm h k n pc' L (.int z :: st)) : Go p l e R s m args below meth c Z a0 EL nw fk Q vm h k n pc L (.ref a :: st) := fun T locs k0 hx hk hE X eT hS hk0 hF hZ hN hC hO hK hO0 => by
  subst hp
  obtain ⟨t, v, L', r1, r2⟩ := K T locs k0 hx hk hE X eT hS hk0 hF hZ hN hC hO hK hO0
  obtain ⟨cl, A, -, rfl⟩ := A
  refine ⟨t, v, L', X.arraylength hx (cell := cl) (by rw [eT]; exact A.1) (State.isArrayOf_alike (s := Z) (T := s.setVm vm) hZ.alike A.2.1) (g := mkF m pc L (.ref a :: st)) rfl rfl hd _ ?_, r2⟩
  have q : cl.slots.size.toInt32 = z := by rw [← hz]; simp
  rw [q]; exact r1
theorem Go.caload {a : Addr} {kA : ClassId} {vs : List Value} {j : Int32} {v : Value} (A : Ar Z h a kA .char vs) (hj : ¬ j < 0) (hv : vs[j.toNatClampNeg]? = some v) (hd : decode c.code pc = .ok (.caload, 1)) (hp : pc + 1 = pc') (K : Go p l e R s m args below meth c Z a0 EL nw fk Q vm h k n pc' L (v :: st)) : Go p l e R s m args below meth c Z a0 EL nw fk Q vm h k n pc L (.int j :: .ref a :: st) := fun T locs k0 hx hk hE X eT hS hk0 hF hZ hN hC hO hK hO0 => by
  subst hp
  obtain ⟨t, v', L', r1, r2⟩ := K T locs k0 hx hk hE X eT hS hk0 hF hZ hN hC hO hK hO0
  obtain ⟨cl, A, -, rfl⟩ := A
  rw [Array.getElem?_toList] at hv
  exact ⟨t, v', L', X.caload hx (cell := cl) (by rw [eT]; exact A.1) (State.isArrayOf_alike (s := Z) (T := s.setVm vm) hZ.alike A.2.1) A.2.2 (fun q => q.elim hj fun q => absurd (Array.getElem?_eq_some_iff.mp hv).1 (Nat.not_lt.mpr q)) hv (g := mkF m pc L (.int j :: .ref a :: st)) rfl rfl hd _ r1, r2⟩
theorem Go.baload {a : Addr} {kA : ClassId} {vs : List Value} {j : Int32} {v : Value} (A : Ar Z h a kA .byte vs) (hj : ¬ j < 0) (hv : vs[j.toNatClampNeg]? = some v) (hd : decode c.code pc = .ok (.baload, 1)) (hp : pc + 1 = pc') (K : Go p l e R s m args below meth c Z a0 EL nw fk Q vm h k n pc' L (v :: st)) : Go p l e R s m args below meth c Z a0 EL nw fk Q vm h k n pc L (.int j :: .ref a :: st) := fun T locs k0 hx hk hE X eT hS hk0 hF hZ hN hC hO hK hO0 => by
  subst hp
  obtain ⟨t, v', L', r1, r2⟩ := K T locs k0 hx hk hE X eT hS hk0 hF hZ hN hC hO hK hO0
  obtain ⟨cl, A, -, rfl⟩ := A
  rw [Array.getElem?_toList] at hv
  exact ⟨t, v', L', X.baloadBytes hx (cell := cl) (by rw [eT]; exact A.1) (State.isArrayOf_alike (s := Z) (T := s.setVm vm) hZ.alike A.2.1) A.2.2 (fun q => q.elim hj fun q => absurd (Array.getElem?_eq_some_iff.mp hv).1 (Nat.not_lt.mpr q)) hv (g := mkF m pc L (.int j :: .ref a :: st)) rfl rfl hd _ r1, r2⟩
theorem Go.iaload {a : Addr} {kA : ClassId} {vs : List Value} {j : Int32} {v : Value} (A : Ar Z h a kA .int vs) (hj : ¬ j < 0) (hv : vs[j.toNatClampNeg]? = some v) (hd : decode c.code pc = .ok (.iaload, 1)) (hp : pc + 1 = pc') (K : Go p l e R s m args below meth c Z a0 EL nw fk Q vm h k n pc' L (v :: st)) : Go p l e R s m args below meth c Z a0 EL nw fk Q vm h k n pc L (.int j :: .ref a :: st) := fun T locs k0 hx hk hE X eT hS hk0 hF hZ hN hC hO hK hO0 => by
  subst hp
  obtain ⟨t, v', L', r1, r2⟩ := K T locs k0 hx hk hE X eT hS hk0 hF hZ hN hC hO hK hO0
  obtain ⟨cl, A, -, rfl⟩ := A
  rw [Array.getElem?_toList] at hv
  exact ⟨t, v', L', X.iaload hx (cell := cl) (by rw [eT]; exact A.1) (State.isArrayOf_alike (s := Z) (T := s.setVm vm) hZ.alike A.2.1) A.2.2 (fun q => q.elim hj fun q => absurd (Array.getElem?_eq_some_iff.mp hv).1 (Nat.not_lt.mpr q)) hv (g := mkF m pc L (.int j :: .ref a :: st)) rfl rfl hd _ r1, r2⟩
theorem Go.laload {a : Addr} {kA : ClassId} {vs : List Value} {j : Int32} {v : Value} (A : Ar Z h a kA .long vs) (hj : ¬ j < 0) (hv : vs[j.toNatClampNeg]? = some v) (hd : decode c.code pc = .ok (.laload, 1)) (hp : pc + 1 = pc') (K : Go p l e R s m args below meth c Z a0 EL nw fk Q vm h k n pc' L (v :: st)) : Go p l e R s m args below meth c Z a0 EL nw fk Q vm h k n pc L (.int j :: .ref a :: st) := fun T locs k0 hx hk hE X eT hS hk0 hF hZ hN hC hO hK hO0 => by
  subst hp
  obtain ⟨t, v', L', r1, r2⟩ := K T locs k0 hx hk hE X eT hS hk0 hF hZ hN hC hO hK hO0
  obtain ⟨cl, A, -, rfl⟩ := A
  rw [Array.getElem?_toList] at hv
  exact ⟨t, v', L', X.laload hx (cell := cl) (by rw [eT]; exact A.1) (State.isArrayOf_alike (s := Z) (T := s.setVm vm) hZ.alike A.2.1) A.2.2 (fun q => q.elim hj fun q => absurd (Array.getElem?_eq_some_iff.mp hv).1 (Nat.not_lt.mpr q)) hv (g := mkF m pc L (.int j :: .ref a :: st)) rfl rfl hd _ r1, r2⟩
theorem Go.aaload {a : Addr} {kA : ClassId} {ty : FieldType} {vs : List Value} {j : Int32} {v : Value} (A : Ar Z h a kA ty vs) (hty : ty.isReference = true) (hj : ¬ j < 0) (hv : vs[j.toNatClampNeg]? = some v) (hd : decode c.code pc = .ok (.aaload, 1)) (hp : pc + 1 = pc') (K : Go p l e R s m args below meth c Z a0 EL nw fk Q vm h k n pc' L (v :: st)) : Go p l e R s m args below meth c Z a0 EL nw fk Q vm h k n pc L (.int j :: .ref a :: st) := fun T locs k0 hx hk hE X eT hS hk0 hF hZ hN hC hO hK hO0 => by
  subst hp
  obtain ⟨t, v', L', r1, r2⟩ := K T locs k0 hx hk hE X eT hS hk0 hF hZ hN hC hO hK hO0
  obtain ⟨cl, A, -, rfl⟩ := A
  rw [Array.getElem?_toList] at hv
  exact ⟨t, v', L', X.aaload hx (cell := cl) (by rw [eT]; exact A.1) (State.isArrayOf_alike (s := Z) (T := s.setVm vm) hZ.alike A.2.1) hty A.2.2 (fun q => q.elim hj fun q => absurd (Array.getElem?_eq_some_iff.mp hv).1 (Nat.not_lt.mpr q)) hv (g := mkF m pc L (.int j :: .ref a :: st)) rfl rfl hd _ r1, r2⟩
theorem Go.newO {own C : String} {index nn : Nat} (hown : Z.vm.findClass own = some m.cls) (w : (Jvm.Cond.classLink own index C).before a0 Z = true) (wi : (Jvm.Cond.instantiable C nn).before a0 Z = true) (wz : (Jvm.Cond.initialized C).before a0 Z = true) (hd : decode c.code pc = .ok (.new index, 3)) (hp : pc + 3 = pc') (hc : k + 1 ≤ R.cells) (hl : n + nn ≤ R.slots)
    (K : ∀ (h' : Heap) (a : Addr), h.size ≤ a → h'.size > a → Ext h h' → Exa Z h' a C → (∀ {O nm d : String} {ty : FieldType}, Laid Z a0 C O nm d → parseFieldDescriptor d = some ty → Fld Z h' a O nm d (defaultValue ty)) → Safe Z EL vm h' a → CHr Z EL vm h vm h' → Unt h' a → Go p l e R s m args below meth c Z a0 EL nw fk Q vm h' (k + 1) (n + nn) pc' L (.ref a :: st)) : Go p l e R s m args below meth c Z a0 EL nw fk Q vm h k n pc L st := fun T locs k0 hx hk hE X eT hS hk0 hF hZ hN hC hO hK hO0 => by
  subst hp
  have hown' : (s.setVm vm).vm.findClass own = some m.cls := by
    show vm.findClass own = _
    rw [hZ.alike.findClass]; exact hown
  obtain ⟨T', h', X', e', E', A', D', N', st'⟩ := RoadKit.newO X hx (s := s.setVm vm) hZ hown' w wi wz eT (g := mkF m pc L st) rfl hd hc hl
  obtain ⟨t, v, L', r1, r2⟩ := K h' h.size (Nat.le_refl _) A'.lt E' A' D' (Safe.ext E' hC.1 (Safe.new (Nat.le_refl _))) (CHr.ext E' hC.1) N' T' locs k0 hx hk hE X' e' hS (Nat.le_trans hk0 E'.1) hF hZ hN (hC.trans (CHr.ext E' hC.1)) (ext_trans hO E') hK hO0
  exact ⟨t, v, L', st' _ r1, r2⟩
theorem Go.newP {aty : ArrayType} {ty : FieldType} {z : Int32} {cap : Nat} (hty : newarray.typeOf aty = ty) (w : (Jvm.Cond.arrayClass ty).before a0 Z = true) (hd : decode c.code pc = .ok (.newarray aty, 2)) (hp : pc + 2 = pc') (hz : ¬ z < 0) (hcap : z.toNatClampNeg ≤ cap) (hb : cap * 8 ≤ 536870912) (hc : k + 1 ≤ R.cells) (hl : n + cap ≤ R.slots)
    (K : ∀ (h' : Heap) (a : Addr) (kA : ClassId), h.size ≤ a → h'.size > a → Ext h h' → Ar Z h' a kA ty (List.replicate z.toNatClampNeg (defaultValue ty)) → Safe Z EL vm h' a → CHr Z EL vm h vm h' → Go p l e R s m args below meth c Z a0 EL nw fk Q vm h' (k + 1) (n + cap) pc' L (.ref a :: st)) : Go p l e R s m args below meth c Z a0 EL nw fk Q vm h k n pc L (.int z :: st) := fun T locs k0 hx hk hE X eT hS hk0 hF hZ hN hC hO hK hO0 => by
  subst hp hty
  obtain ⟨T', h', cA, X', e', E', A', st'⟩ := RoadKit.newP X hx (s := s.setVm vm) hZ w eT (g := mkF m pc L (.int z :: st)) rfl hd rfl hz hcap hb hc hl
  obtain ⟨t, v, L', r1, r2⟩ := K h' h.size cA (Nat.le_refl _) A'.lt E' ⟨_, A', rfl, by simp [newA]⟩ (Safe.ext E' hC.1 (Safe.new (Nat.le_refl _))) (CHr.ext E' hC.1) T' locs k0 hx hk hE X' e' hS (Nat.le_trans hk0 E'.1) hF hZ hN (hC.trans (CHr.ext E' hC.1)) (ext_trans hO E') hK hO0
  exact ⟨t, v, L', st' _ r1, r2⟩
theorem Go.newR {own C : String} {index : Nat} {z : Int32} {cap : Nat} (hown : Z.vm.findClass own = some m.cls) (w1 : (Jvm.Cond.classLink own index C).before a0 Z = true) (w2 : (Jvm.Cond.arrayOver (.object C)).before a0 Z = true) (hd : decode c.code pc = .ok (.anewarray index, 3)) (hp : pc + 3 = pc') (hz : ¬ z < 0) (hcap : z.toNatClampNeg ≤ cap) (hb : cap * 8 ≤ 536870912) (hc : k + 1 ≤ R.cells) (hl : n + cap ≤ R.slots)
    (K : ∀ (h' : Heap) (a : Addr) (kA : ClassId), h.size ≤ a → h'.size > a → Ext h h' → Ar Z h' a kA (.object C) (List.replicate z.toNatClampNeg .null) → Ovr Z kA C → CHr Z EL vm h vm h' → Go p l e R s m args below meth c Z a0 EL nw fk Q vm h' (k + 1) (n + cap) pc' L (.ref a :: st)) : Go p l e R s m args below meth c Z a0 EL nw fk Q vm h k n pc L (.int z :: st) := fun T locs k0 hx hk hE X eT hS hk0 hF hZ hN hC hO hK hO0 => by
  subst hp
  have hown' : (s.setVm vm).vm.findClass own = some m.cls := by
    show vm.findClass own = _
    rw [hZ.alike.findClass]; exact hown
  obtain ⟨T', h', cA, X', e', E', A', O', st'⟩ := RoadKit.newR X hx (s := s.setVm vm) hZ hown' w1 w2 eT (g := mkF m pc L (.int z :: st)) rfl hd rfl hz hcap hb hc hl
  obtain ⟨t, v, L', r1, r2⟩ := K h' h.size cA (Nat.le_refl _) A'.lt E' ⟨_, A', rfl, by simp [newA, defaultValue]⟩ O' (CHr.ext E' hC.1) T' locs k0 hx hk hE X' e' hS (Nat.le_trans hk0 E'.1) hF hZ hN (hC.trans (CHr.ext E' hC.1)) (ext_trans hO E') hK hO0
  exact ⟨t, v, L', st' _ r1, r2⟩
theorem Go.putF {own R0 O nm d C : String} {index kk : Nat} {ty : FieldType} {a : Addr} {v v' old : Value} (hown : Z.vm.findClass own = some m.cls) (w : (Jvm.Cond.fieldLink own index R0 nm d).before a0 Z = true) (via : Via Z R0 O nm d) (F : Fld Z h a O nm d old) (E : Exa Z h a C)
    (Ly : (Jvm.Cond.lays C O nm d).before a0 Z = true ∨ ((Jvm.Cond.laysFinal C O nm d).before a0 Z = true ∧ own = O ∧ meth.name = "<init>")) (wi : (Jvm.Cond.instantiable C kk).before a0 Z = true) (hty : parseFieldDescriptor d = some ty) (hn : narrow ty v = v') (hf : fits ty v' = true) (hs0 : (C ≠ "java/lang/String" ∧ C ≠ "[B") ∨ Safe Z EL vm h a) (hge : Z.heap.size ≤ a) (hd : decode c.code pc = .ok (.putfield index, 3)) (hp : pc + 3 = pc')
    (K : ∀ (h' : Heap), Wr h h' a (RoadKit.slotOf Z O nm d) v' → h'.size = h.size → Keep h h' [a] → CHr Z EL vm h vm h' → Go p l e R s m args below meth c Z a0 EL nw fk Q vm h' k n pc' L st) : Go p l e R s m args below meth c Z a0 EL nw fk Q vm h k n pc L (v :: .ref a :: st) := fun T locs k0 hx hk hE X eT hS hk0 hF hZ hN hC hO hK hO0 => by
  subst hp
  have hown' : (s.setVm vm).vm.findClass own = some m.cls := by
    show vm.findClass own = _
    rw [hZ.alike.findClass]; exact hown
  have hs : Safe Z EL vm h a := hs0.elim (fun q => Safe.exa hZ.alike E q.1 q.2) id
  obtain ⟨T', h', X', e', W', st'⟩ := RoadKit.putFN X hx (s := s.setVm vm) hZ hown' w via eT F E Ly wi hty hn hf (g := mkF m pc L (v :: .ref a :: st)) rfl rfl hd
  obtain ⟨t, v, L', r1, r2⟩ := K h' W' W'.size (Keep.of_wr W') (CHr.wr W' hs hC.1) T' _ k0 hx hk hE X' e' hS (by rw [W'.size]; exact hk0) (Fr.snoc X' hF hge) hZ hN (hC.trans (CHr.wr W' hs hC.1)) (ext_wr hO W' hge) hK hO0
  exact ⟨t, v, L', st' _ r1, r2⟩
theorem Go.putFN {own R0 O nm d C host : String} {index kk : Nat} {ty : FieldType} {a : Addr} {v old : Value} (hown : Z.vm.findClass own = some m.cls) (w : (Jvm.Cond.fieldLinkNest own index R0 nm d host).before a0 Z = true) (via : Via Z R0 O nm d) (F : Fld Z h a O nm d old) (E : Exa Z h a C)
    (Ly : (Jvm.Cond.lays C O nm d).before a0 Z = true ∨ ((Jvm.Cond.laysFinal C O nm d).before a0 Z = true ∧ own = O ∧ meth.name = "<init>")) (wi : (Jvm.Cond.instantiable C kk).before a0 Z = true) (hty : parseFieldDescriptor d = some ty) (hn : narrow ty v = v) (hf : fits ty v = true) (hs0 : (C ≠ "java/lang/String" ∧ C ≠ "[B") ∨ Safe Z EL vm h a) (hge : Z.heap.size ≤ a) (hd : decode c.code pc = .ok (.putfield index, 3)) (hp : pc + 3 = pc')
    (K : ∀ (h' : Heap), Wr h h' a (RoadKit.slotOf Z O nm d) v → h'.size = h.size → Keep h h' [a] → CHr Z EL vm h vm h' → Go p l e R s m args below meth c Z a0 EL nw fk Q vm h' k n pc' L st) : Go p l e R s m args below meth c Z a0 EL nw fk Q vm h k n pc L (v :: .ref a :: st) := fun T locs k0 hx hk hE X eT hS hk0 hF hZ hN hC hO hK hO0 => by
  subst hp
  have hown' : (s.setVm vm).vm.findClass own = some m.cls := by
    show vm.findClass own = _
    rw [hZ.alike.findClass]; exact hown
  have hs : Safe Z EL vm h a := hs0.elim (fun q => Safe.exa hZ.alike E q.1 q.2) id
  obtain ⟨T', h', X', e', W', st'⟩ := RoadKit.putF X hx (s := s.setVm vm) hZ hown' (Or.inr w) via eT F E Ly wi hty hn hf (g := mkF m pc L (v :: .ref a :: st)) rfl rfl hd
  obtain ⟨t, v, L', r1, r2⟩ := K h' W' W'.size (Keep.of_wr W') (CHr.wr W' hs hC.1) T' _ k0 hx hk hE X' e' hS (by rw [W'.size]; exact hk0) (Fr.snoc X' hF hge) hZ hN (hC.trans (CHr.wr W' hs hC.1)) (ext_wr hO W' hge) hK hO0
  exact ⟨t, v, L', st' _ r1, r2⟩
theorem Go.castore {a : Addr} {kA : ClassId} {vs : List Value} {j x : Int32} (A : Ar Z h a kA .char vs) (hj : ¬ j < 0) (hlt : j.toNatClampNeg < vs.length) (hge : Z.heap.size ≤ a) (hd : decode c.code pc = .ok (.castore, 1)) (hp : pc + 1 = pc')
    (K : ∀ (h' : Heap), Ar Z h' a kA .char (vs.set j.toNatClampNeg (.int (nar .char x))) → h'.size = h.size → Keep h h' [a] → Safe Z EL vm h' a → CHr Z EL vm h vm h' → Go p l e R s m args below meth c Z a0 EL nw fk Q vm h' k n pc' L st) : Go p l e R s m args below meth c Z a0 EL nw fk Q vm h k n pc L (.int x :: .int j :: .ref a :: st) := fun T locs k0 hx hk hE X eT hS hk0 hF hZ hN hC hO hK hO0 => by
  subst hp
  have A0 := A
  have hs : Safe Z EL vm h a := A.safe hZ.alike (by intro q; cases q)
  obtain ⟨cl, A, -, e2⟩ := A
  have hin : ¬ (j < 0 ∨ cl.slots.size ≤ j.toNatClampNeg) := fun q => q.elim hj fun q => by rw [← e2] at hlt; simp at hlt; omega
  obtain ⟨T', h', X', e', W', st'⟩ := RoadKit.stC X hx (s := s.setVm vm) hZ eT A hin (g := mkF m pc L (.int x :: .int j :: .ref a :: st)) rfl rfl hd
  obtain ⟨t, v, L', r1, r2⟩ := K h' (A0.set W') W'.size (Keep.of_wr W') (Safe.wr W' hs hC.1 hs) (CHr.wr W' hs hC.1) T' _ k0 hx hk hE X' e' hS (by rw [W'.size]; exact hk0) (Fr.snoc X' hF hge) hZ hN (hC.trans (CHr.wr W' hs hC.1)) (ext_wr hO W' hge) hK hO0
  exact ⟨t, v, L', st' _ r1, r2⟩
theorem Go.bastore {a : Addr} {kA : ClassId} {vs : List Value} {j x : Int32} (A : Ar Z h a kA .byte vs) (hj : ¬ j < 0) (hlt : j.toNatClampNeg < vs.length) (hs : Safe Z EL vm h a) (hge : Z.heap.size ≤ a) (hd : decode c.code pc = .ok (.bastore, 1)) (hp : pc + 1 = pc')
    (K : ∀ (h' : Heap), Ar Z h' a kA .byte (vs.set j.toNatClampNeg (.int (nar .byte x))) → h'.size = h.size → Keep h h' [a] → Safe Z EL vm h' a → CHr Z EL vm h vm h' → Go p l e R s m args below meth c Z a0 EL nw fk Q vm h' k n pc' L st) : Go p l e R s m args below meth c Z a0 EL nw fk Q vm h k n pc L (.int x :: .int j :: .ref a :: st) := fun T locs k0 hx hk hE X eT hS hk0 hF hZ hN hC hO hK hO0 => by
  subst hp
  have A0 := A
  obtain ⟨cl, A, -, e2⟩ := A
  have hin : ¬ (j < 0 ∨ cl.slots.size ≤ j.toNatClampNeg) := fun q => q.elim hj fun q => by rw [← e2] at hlt; simp at hlt; omega
  obtain ⟨T', h', X', e', W', st'⟩ := RoadKit.stB X hx (s := s.setVm vm) hZ eT A hin (g := mkF m pc L (.int x :: .int j :: .ref a :: st)) rfl rfl hd
  obtain ⟨t, v, L', r1, r2⟩ := K h' (A0.set W') W'.size (Keep.of_wr W') (Safe.wr W' hs hC.1 hs) (CHr.wr W' hs hC.1) T' _ k0 hx hk hE X' e' hS (by rw [W'.size]; exact hk0) (Fr.snoc X' hF hge) hZ hN (hC.trans (CHr.wr W' hs hC.1)) (ext_wr hO W' hge) hK hO0
  exact ⟨t, v, L', st' _ r1, r2⟩
theorem Go.zastore {a : Addr} {kA : ClassId} {vs : List Value} {j x : Int32} (A : Ar Z h a kA .boolean vs) (hj : ¬ j < 0) (hlt : j.toNatClampNeg < vs.length) (hge : Z.heap.size ≤ a) (hd : decode c.code pc = .ok (.bastore, 1)) (hp : pc + 1 = pc')
    (K : ∀ (h' : Heap), Ar Z h' a kA .boolean (vs.set j.toNatClampNeg (.int (nar .boolean x))) → h'.size = h.size → Keep h h' [a] → Safe Z EL vm h' a → CHr Z EL vm h vm h' → Go p l e R s m args below meth c Z a0 EL nw fk Q vm h' k n pc' L st) : Go p l e R s m args below meth c Z a0 EL nw fk Q vm h k n pc L (.int x :: .int j :: .ref a :: st) := fun T locs k0 hx hk hE X eT hS hk0 hF hZ hN hC hO hK hO0 => by
  subst hp
  have A0 := A
  have hs : Safe Z EL vm h a := A.safe hZ.alike (by intro q; cases q)
  obtain ⟨cl, A, -, e2⟩ := A
  have hin : ¬ (j < 0 ∨ cl.slots.size ≤ j.toNatClampNeg) := fun q => q.elim hj fun q => by rw [← e2] at hlt; simp at hlt; omega
  obtain ⟨T', h', X', e', W', st'⟩ := RoadKit.stZ X hx (s := s.setVm vm) hZ eT A hin (g := mkF m pc L (.int x :: .int j :: .ref a :: st)) rfl rfl hd
  obtain ⟨t, v, L', r1, r2⟩ := K h' (A0.set W') W'.size (Keep.of_wr W') (Safe.wr W' hs hC.1 hs) (CHr.wr W' hs hC.1) T' _ k0 hx hk hE X' e' hS (by rw [W'.size]; exact hk0) (Fr.snoc X' hF hge) hZ hN (hC.trans (CHr.wr W' hs hC.1)) (ext_wr hO W' hge) hK hO0
  exact ⟨t, v, L', st' _ r1, r2⟩
theorem Go.iastore {a : Addr} {kA : ClassId} {vs : List Value} {j x : Int32} (A : Ar Z h a kA .int vs) (hj : ¬ j < 0) (hlt : j.toNatClampNeg < vs.length) (hge : Z.heap.size ≤ a) (hd : decode c.code pc = .ok (.iastore, 1)) (hp : pc + 1 = pc')
    (K : ∀ (h' : Heap), Ar Z h' a kA .int (vs.set j.toNatClampNeg (.int x)) → h'.size = h.size → Keep h h' [a] → Safe Z EL vm h' a → CHr Z EL vm h vm h' → Go p l e R s m args below meth c Z a0 EL nw fk Q vm h' k n pc' L st) : Go p l e R s m args below meth c Z a0 EL nw fk Q vm h k n pc L (.int x :: .int j :: .ref a :: st) := fun T locs k0 hx hk hE X eT hS hk0 hF hZ hN hC hO hK hO0 => by
  subst hp
  have A0 := A
  have hs : Safe Z EL vm h a := A.safe hZ.alike (by intro q; cases q)
  obtain ⟨cl, A, -, e2⟩ := A
  have hin : ¬ (j < 0 ∨ cl.slots.size ≤ j.toNatClampNeg) := fun q => q.elim hj fun q => by rw [← e2] at hlt; simp at hlt; omega
  obtain ⟨T', h', X', e', W', st'⟩ := RoadKit.stI X hx (s := s.setVm vm) hZ eT A hin (g := mkF m pc L (.int x :: .int j :: .ref a :: st)) rfl rfl hd
  obtain ⟨t, v, L', r1, r2⟩ := K h' (A0.set W') W'.size (Keep.of_wr W') (Safe.wr W' hs hC.1 hs) (CHr.wr W' hs hC.1) T' _ k0 hx hk hE X' e' hS (by rw [W'.size]; exact hk0) (Fr.snoc X' hF hge) hZ hN (hC.trans (CHr.wr W' hs hC.1)) (ext_wr hO W' hge) hK hO0
  exact ⟨t, v, L', st' _ r1, r2⟩
theorem Go.aastore {a : Addr} {kA : ClassId} {ty : FieldType} {vs : List Value} {j : Int32} {v : Value} (A : Ar Z h a kA ty vs) (hty : ty.isReference = true) (hj : ¬ j < 0) (hlt : j.toNatClampNeg < vs.length) (F : Sto Z h a v) (hge : Z.heap.size ≤ a) (hd : decode c.code pc = .ok (.aastore, 1)) (hp : pc + 1 = pc')
    (K : ∀ (h' : Heap), Ar Z h' a kA ty (vs.set j.toNatClampNeg v) → h'.size = h.size → Keep h h' [a] → CHr Z EL vm h vm h' → Go p l e R s m args below meth c Z a0 EL nw fk Q vm h' k n pc' L st) : Go p l e R s m args below meth c Z a0 EL nw fk Q vm h k n pc L (v :: .int j :: .ref a :: st) := fun T locs k0 hx hk hE X eT hS hk0 hF hZ hN hC hO hK hO0 => by
  subst hp
  have A0 := A
  have hs : Safe Z EL vm h a := A.safe hZ.alike (by rintro rfl; cases hty)
  obtain ⟨cl, A, -, e2⟩ := A
  have hin : ¬ (j < 0 ∨ cl.slots.size ≤ j.toNatClampNeg) := fun q => q.elim hj fun q => by rw [← e2] at hlt; simp at hlt; omega
  obtain ⟨T', h', X', e', W', st'⟩ := RoadKit.stR X hx (s := s.setVm vm) hZ eT A hin hty F (g := mkF m pc L (v :: .int j :: .ref a :: st)) rfl rfl hd
  obtain ⟨t, v, L', r1, r2⟩ := K h' (A0.set W') W'.size (Keep.of_wr W') (CHr.wr W' hs hC.1) T' _ k0 hx hk hE X' e' hS (by rw [W'.size]; exact hk0) (Fr.snoc X' hF hge) hZ hN (hC.trans (CHr.wr W' hs hC.1)) (ext_wr hO W' hge) hK hO0
  exact ⟨t, v, L', st' _ r1, r2⟩
theorem Go.know {P : Prop} (q : Z.Warmed39 vm → CHv Z EL vm h → Ext Z.heap h → P) (K : P → Go p l e R s m args below meth c Z a0 EL nw fk Q vm h k n pc L st) : Go p l e R s m args below meth c Z a0 EL nw fk Q vm h k n pc L st := fun T locs k0 hx hk hE X eT hS hk0 hF hZ hN hC hO hK hO0 => K (q hZ hC.1 hO) T locs k0 hx hk hE X eT hS hk0 hF hZ hN hC hO hK hO0
theorem Go.joinH {pcM k1 n1 : Nat} {P : Vm → Heap → Value → Prop} {F : Value → Array Slot} {S : Value → List Value} (J : ∀ vm' h' v, P vm' h' v → Go p l e R s m args below meth c Z a0 EL nw fk Q vm' h' k1 n1 pcM (F v) (S v)) (K : (∀ vm' h' v, P vm' h' v → Go p l e R s m args below meth c Z a0 EL nw fk Q vm' h' k1 n1 pcM (F v) (S v)) → Go p l e R s m args below meth c Z a0 EL nw fk Q vm h k n pc L st) : Go p l e R s m args below meth c Z a0 EL nw fk Q vm h k n pc L st := K J
theorem Go.joinI {pcM : Nat} {P : Int32 → Prop} {F : Int32 → Array Slot} {S : Int32 → List Value} (J : ∀ x, P x → Go p l e R s m args below meth c Z a0 EL nw fk Q vm h k n pcM (F x) (S x)) (K : (∀ x, P x → Go p l e R s m args below meth c Z a0 EL nw fk Q vm h k n pcM (F x) (S x)) → Go p l e R s m args below meth c Z a0 EL nw fk Q vm h k n pc L st) : Go p l e R s m args below meth c Z a0 EL nw fk Q vm h k n pc L st := K J
theorem Go.joinJ {pcM : Nat} {P : Int64 → Prop} {F : Int64 → Array Slot} {S : Int64 → List Value} (J : ∀ x, P x → Go p l e R s m args below meth c Z a0 EL nw fk Q vm h k n pcM (F x) (S x)) (K : (∀ x, P x → Go p l e R s m args below meth c Z a0 EL nw fk Q vm h k n pcM (F x) (S x)) → Go p l e R s m args below meth c Z a0 EL nw fk Q vm h k n pc L st) : Go p l e R s m args below meth c Z a0 EL nw fk Q vm h k n pc L st := K J
theorem Go.loop {pcH : Nat} {st0 : List Value} {Inv : Nat → Vm → Heap → Nat → Nat → Array Slot → Prop} (step : ∀ r vm h k n L, Inv r vm h k n L → (∀ r' vm' h' k' n' L', r' < r → Inv r' vm' h' k' n' L' → Go p l e R s m args below meth c Z a0 EL nw fk Q vm' h' k' n' pcH L' st0) → Go p l e R s m args below meth c Z a0 EL nw fk Q vm h k n pcH L st0) : ∀ r vm h k n L, Inv r vm h k n L → Go p l e R s m args below meth c Z a0 EL nw fk Q vm h k n pcH L st0 := by
  intro r
  induction r using Nat.strongRecOn with
  | ind r ih => intro vm h k n L hI; exact step r vm h k n L hI fun r' vm' h' k' n' L' hr hI' => ih r' hr vm' h' k' n' L' hI'
theorem Go.castNull {index : Nat} (hd : decode c.code pc = .ok (.checkcast index, 3)) (hp : pc + 3 = pc') (K : Go p l e R s m args below meth c Z a0 EL nw fk Q vm h k n pc' L (.null :: st)) : Go p l e R s m args below meth c Z a0 EL nw fk Q vm h k n pc L (.null :: st) := by
  subst hp
  exact Go.plain (fun T _ hx X _ r => Stand.checkcastNull X hx (g := mkF m pc L (.null :: st)) rfl (rest := st) rfl hd _ r) K
theorem Go.instNull {index : Nat} (hd : decode c.code pc = .ok (.instanceof index, 3)) (hp : pc + 3 = pc') (K : Go p l e R s m args below meth c Z a0 EL nw fk Q vm h k n pc' L (.int 0 :: st)) : Go p l e R s m args below meth c Z a0 EL nw fk Q vm h k n pc L (.null :: st) := by
  subst hp
  exact Go.plain (fun T _ hx X _ r => Stand.instanceofNull X hx (g := mkF m pc L (.null :: st)) rfl (rest := st) rfl hd _ r) K
theorem Go.ldcStr {own text : String} {index n0 : Nat} {vs : List Value} (hnw : ¬ nw) (hown : Z.vm.findClass own = some m.cls) (w : (Jvm.Cond.stringLink own index text).before a0 Z = true) (wS : ∀ a ∈ Bundle.stringAtoms, a.before a0 Z = true) (hmem : (own, index) ∈ EL)
    (ht : (∀ c ∈ text.toList, c.toNat < 256) ∧ text.toList.map (fun c => Value.int (Jvm.Lit.byteI c.toNat.toUInt16)) = vs) (hd : decode c.code pc = .ok (.ldc index, 2)) (hp : pc + 2 = pc') (hn : 4 * text.toList.length ≤ n0) (hbig : n0 ≤ 536870912) (hc : k + 2 ≤ R.cells) (hl : n + (n0 + 4) ≤ R.slots)
    (K : ∀ (vm' : Vm) (h' : Heap) (a b : Addr) (kA : ClassId), Ext h h' → CHr Z EL vm h vm' h' → Exa Z h' a "java/lang/String" → Fld Z h' a "java/lang/String" "coder" "B" (.int 0) → Fld Z h' a "java/lang/String" "value" "[B" (.ref b) → Ar Z h' b kA .byte vs → h'.size > a → h'.size > b → (∀ x, Safe Z EL vm' h' x → x ≠ a ∧ x ≠ b) → Go p l e R s m args below meth c Z a0 EL nw fk Q vm' h' (k + 2) (n + (n0 + 4)) pc' L (.ref a :: st)) : Go p l e R s m args below meth c Z a0 EL nw fk Q vm h k n pc L st := fun T locs k0 hx hk hE X eT hS hk0 hF hZ hN hC hO hK hO0 => by
  subst hp
  have hown' : (s.setVm vm).vm.findClass own = some m.cls := by
    show vm.findClass own = _
    rw [hZ.alike.findClass]; exact hown
  have hlen : vs.length = text.toList.length := by rw [← ht.2, List.length_map]
  have hz : ¬ (vs.length.toInt32 < 0) := by
    have q : vs.length < 2 ^ 31 := by omega
    have := Int32.toInt_ofNat_small q
    intro z
    have := Int32.lt_iff_toInt_lt.mp z
    have e0 : (0 : Int32).toInt = 0 := rfl
    have e1 : vs.length.toInt32.toInt = vs.length := Int32.toInt_ofNat_small q
    omega
  have hlz : vs.length.toInt32.toNatClampNeg = vs.length := by
    have q : vs.length < 2 ^ 31 := by omega
    have e1 : vs.length.toInt32.toInt = vs.length := Int32.toInt_ofNat_small q
    rw [← Int32.toNat_toInt, e1]; rfl
  obtain ⟨a, T', h', k1, b, kA, X', e', E', hS', hk', hZ', hown2, x1, x2, x3, x4, x5, x6, hC', -, hsafe, st'⟩ := ldcCH X hx hZ hown' w wS eT hS hk0 hE hmem hC.1 ht hz hlz (g := mkF m pc L st) rfl hd hn hbig hc hl
  obtain ⟨t, v, L', r1, r2⟩ := K T'.vm h' a b kA E' hC' x1 x2 x3 (Ar.of_arv x4 hlz) x5 x6 hsafe T' locs k1 hx hk hE X' e' hS' hk' hF hZ' (fun q => absurd q hnw) (hC.trans hC') (ext_trans hO E') (fun z => ⟨Vm.MethodsKnown.alikeC (hZ.alike.symm.trans (State.Warmed39.alike hZ')) (hK z).1, Vm.FramesKnown.alikeC (hZ.alike.symm.trans (State.Warmed39.alike hZ')) (hK z).2⟩) hO0
  exact ⟨t, v, L', st' _ r1, r2⟩
theorem Go.ldcRef {own text : String} {index n0 : Nat} (hnw : ¬ nw) (hown : Z.vm.findClass own = some m.cls) (w : (Jvm.Cond.stringLink own index text).before a0 Z = true) (wS : ∀ a ∈ Bundle.stringAtoms, a.before a0 Z = true)
    (hd : decode c.code pc = .ok (.ldc index, 2)) (hp : pc + 2 = pc') (hn : 4 * text.toList.length ≤ n0) (hbig : n0 ≤ 536870912) (hc : k + 2 ≤ R.cells) (hl : n + (n0 + 4) ≤ R.slots)
    (K : ∀ (vm' : Vm) (h' : Heap) (a : Addr), Ext h h' → CHr Z EL vm h vm' h' → Go p l e R s m args below meth c Z a0 EL nw fk Q vm' h' (k + 2) (n + (n0 + 4)) pc' L (.ref a :: st)) : Go p l e R s m args below meth c Z a0 EL nw fk Q vm h k n pc L st := fun T locs k0 hx hk hE X eT hS hk0 hF hZ hN hC hO hK hO0 => by
  subst hp
  have hown' : (s.setVm vm).vm.findClass own = some m.cls := by
    show vm.findClass own = _
    rw [hZ.alike.findClass]; exact hown
  obtain ⟨a, T', h', k1, X', e', E', hS', hk', hZ', hown2, hC', -, st'⟩ := ldcOH X hx hZ hown' w wS eT hS hk0 hE hC.1 (g := mkF m pc L st) rfl hd hn hbig hc hl
  obtain ⟨t, v, L', r1, r2⟩ := K T'.vm h' a E' hC' T' locs k1 hx hk hE X' e' hS' hk' hF hZ' (fun q => absurd q hnw) (hC.trans hC') (ext_trans hO E') (fun z => ⟨Vm.MethodsKnown.alikeC (hZ.alike.symm.trans (State.Warmed39.alike hZ')) (hK z).1, Vm.FramesKnown.alikeC (hZ.alike.symm.trans (State.Warmed39.alike hZ')) (hK z).2⟩) hO0
  exact ⟨t, v, L', st' _ r1, r2⟩
theorem Go.exc1 {own rc : String} {links : List Link} {ic nn W : Nat} {a : Addr} {msg : Value} (hfk : fk) (hst : l.stackTraces = true) (hown : Z.vm.findClass own = some m.cls) (hok : linksOk 1 links = true)
    (w1 : (Jvm.Cond.methodLink own ic (ctor 1 (headName links))).before a0 Z = true) (w2 : (Jvm.Cond.instanceMethod (ctor 1 (headName links))).before a0 Z = true) (wT : (chainTab 1 rc links).before a0 Z = true) (wi : (Jvm.Cond.instantiable rc nn).before a0 Z = true) (r : ∀ d ∈ twoRefs, d.before a0 Z = true)
    (E : Exa Z h a rc) (N : Unt h a) (B : Fld Z h a tN "backtrace" obD .null) (B2 : Fld Z h a tN "detailMessage" msgD .null) (hmsg : msg.isRef = true) (hrc : rc ≠ "java/lang/String" ∧ rc ≠ "[B") (hge : Z.heap.size ≤ a) (hL : L.size = c.maxLocals) (hW : (st.map fun v => v.category).sum = W)
    (hd : decode c.code pc = .ok (.invokespecial ic, 3)) (hp : pc + 3 = pc') (hf : 4 + links.length ≤ R.frames) (hlo : W + (56 + 14 * links.length) ≤ R.locals) (hc : k + 1 ≤ R.cells) (hsl : n + 2752 ≤ R.slots)
    (K : ∀ (h' : Heap), Kp Z h h' a → Keep h h' [a] → Exa Z h' a rc → Fld Z h' a tN "detailMessage" msgD msg → CHr Z EL vm h vm h' → Go p l e R s m args below meth c Z a0 EL nw fk Q vm h' (k + 1) (n + 2752) pc' L st) : Go p l e R s m args below meth c Z a0 EL nw fk Q vm h k n pc L (msg :: .ref a :: st) := fun T locs k0 hx hk hE X eT hS hk0 hF hZ hN hC hO hK hO0 => by
  subst hp
  have hown' : (s.setVm vm).vm.findClass own = some m.cls := by
    show vm.findClass own = _
    rw [hZ.alike.findClass]; exact hown
  have hs : Safe Z EL vm h a := Safe.exa hZ.alike E hrc.1 hrc.2
  obtain ⟨T', h', X', e', K', E', N', M', -, -, st'⟩ := excL1 X hx hst (s := s.setVm vm) hZ hown' hok w1 w2 wT wi r (ThS.ext hO0 ThS.start) (ThS.ext hO ThS.start) (hK hfk).1 (hK hfk).2 eT E N B B2 hmsg (g := mkF m pc L (msg :: .ref a :: st)) rfl hL rfl hd hf (by show 2 * 0 + _ + _ ≤ _; rw [Nat.mul_zero, Nat.zero_add, hW]; exact hlo) hc hsl
  have KK := keep_of_kp K'
  have C' : CHr Z EL vm h vm h' := CHr.keep KK (allS hs all0) hC.1
  obtain ⟨t, v, L', r1, r2⟩ := K h' K' KK E' M' C' T' _ k0 hx hk hE X' e' hS (Nat.le_trans hk0 KK.1) (Fr.six hF hge) hZ hN (hC.trans C') (ext_keep hO KK (allS hge all0)) hK hO0
  exact ⟨t, v, L', st' _ r1, r2⟩
theorem Go.ret (hret : meth.sig.returnType = none) (hd : decode c.code pc = .ok (.return_, 1)) (hk1 : k ≤ R.cells) (hn1 : n ≤ R.slots) (q : ∀ vm', CHr Z EL vm h vm' h → Q none vm' h) : Go p l e R s m args below meth c Z a0 EL nw fk Q vm h k n pc L [] := fun T locs k0 hx hk hE X eT hS hk0 hF hZ hN hC hO hK hO0 => by
  subst eT
  obtain ⟨fs, h1, h2, h3, h4⟩ := X.leaveW hS hk0 (v := none) (fun _ => rfl) hk
  have hA := CHv.at X hZ hE hC.1
  refine ⟨_, none, locs, X.returnOut hx hret hd h1, h2, h3, hF, q _ hA, hC.trans hA, hO, ?_, fun z => State.WarmedH.trans (t := s.setVm vm) (hN z) X.warmed⟩
  exact ⟨h4.1, h4.2.1, h4.2.2.1, h4.2.2.2.mono hk1 hn1⟩
theorem Go.retV {w : Value} {t : FieldType} {i : Instr} (hret : meth.sig.returnType = some t) (hn : narrow t w = w)
    (hi : (i = .ireturn ∧ (t = .int ∨ t = .boolean ∨ t = .byte ∨ t = .char ∨ t = .short) ∧ ∃ z, w = .int z) ∨ (i = .lreturn ∧ t = .long ∧ ∃ z, w = .long z) ∨ (i = .dreturn ∧ t = .double ∧ ∃ z, w = .double z) ∨ (i = .freturn ∧ t = .float ∧ ∃ z, w = .float z) ∨ (i = .areturn ∧ t.isReference = true ∧ w.isRef = true))
    (hd : decode c.code pc = .ok (i, 1)) (hk1 : k ≤ R.cells) (hn1 : n ≤ R.slots) (q : ∀ vm', CHr Z EL vm h vm' h → Q (some w) vm' h) : Go p l e R s m args below meth c Z a0 EL nw fk Q vm h k n pc L (w :: st) := fun T locs k0 hx hk hE X eT hS hk0 hF hZ hN hC hO hK hO0 => by
  subst eT
  obtain ⟨fs, h1, h2, h3, h4⟩ := X.leaveW hS hk0 (v := some w) (fun z => by rw [hret] at z; cases z) hk
  have hA := CHv.at X hZ hE hC.1
  refine ⟨_, some w, locs, retOut X hx hret hn hi hd h1, h2, h3, hF, q _ hA, hC.trans hA, hO, ?_, fun z => State.WarmedH.trans (t := s.setVm vm) (hN z) X.warmed⟩
  exact ⟨h4.1, h4.2.1, h4.2.2.1, h4.2.2.2.mono hk1 hn1⟩
theorem Go.retA {w : Value} {t : FieldType} (hret : meth.sig.returnType = some t) (ht : t.isReference = true) (hw : w.isRef = true) (hd : decode c.code pc = .ok (.areturn, 1)) (hk1 : k ≤ R.cells) (hn1 : n ≤ R.slots) (q : ∀ vm', CHr Z EL vm h vm' h → Q (some w) vm' h) : Go p l e R s m args below meth c Z a0 EL nw fk Q vm h k n pc L (w :: st) :=
  Go.retV hret (by cases t <;> simp [FieldType.isReference] at ht <;> cases w <;> simp [Value.isRef] at hw <;> rfl) (Or.inr (Or.inr (Or.inr (Or.inr ⟨rfl, ht, hw⟩)))) hd hk1 hn1 q
theorem Go.retI {z : Int32} (hret : meth.sig.returnType = some .int) (hd : decode c.code pc = .ok (.ireturn, 1)) (hk1 : k ≤ R.cells) (hn1 : n ≤ R.slots) (q : ∀ vm', CHr Z EL vm h vm' h → Q (some (.int z)) vm' h) : Go p l e R s m args below meth c Z a0 EL nw fk Q vm h k n pc L (.int z :: st) :=
  Go.retV hret rfl (Or.inl ⟨rfl, Or.inl rfl, _, rfl⟩) hd hk1 hn1 q
theorem Go.retJ {z : Int64} (hret : meth.sig.returnType = some .long) (hd : decode c.code pc = .ok (.lreturn, 1)) (hk1 : k ≤ R.cells) (hn1 : n ≤ R.slots) (q : ∀ vm', CHr Z EL vm h vm' h → Q (some (.long z)) vm' h) : Go p l e R s m args below meth c Z a0 EL nw fk Q vm h k n pc L (.long z :: st) :=
  Go.retV hret rfl (Or.inr (Or.inl ⟨rfl, rfl, _, rfl⟩)) hd hk1 hn1 q
theorem Go.retN {z : Int32} {t : FieldType} (hret : meth.sig.returnType = some t) (ht : t = .boolean ∨ t = .byte ∨ t = .char ∨ t = .short) (hd : decode c.code pc = .ok (.ireturn, 1)) (hk1 : k ≤ R.cells) (hn1 : n ≤ R.slots) (q : ∀ vm', CHr Z EL vm h vm' h → Q (some (.int (nar t z))) vm' h) : Go p l e R s m args below meth c Z a0 EL nw fk Q vm h k n pc L (.int z :: st) := fun T locs k0 hx hk hE X eT hS hk0 hF hZ hN hC hO hK hO0 => by
  subst eT
  obtain ⟨fs, h1, h2, h3, h4⟩ := X.leaveW hS hk0 (v := some (.int (nar t z))) (fun z => by rw [hret] at z; cases z) hk
  have hA := CHv.at X hZ hE hC.1
  refine ⟨_, some (.int (nar t z)), locs, RoadKit.retN X hx hret ht hd h1, h2, h3, hF, q _ hA, hC.trans hA, hO, ?_, fun z => State.WarmedH.trans (t := s.setVm vm) (hN z) X.warmed⟩
  exact ⟨h4.1, h4.2.1, h4.2.2.1, h4.2.2.2.mono hk1 hn1⟩
theorem Ct.of_go {ws : List Jvm.Cond} {y : MethodName} {bytes : ByteArray} {maxL : Nat} {ret : Option FieldType} {rm : Room} {as : Array Value} {sf : List Addr} {L0 : Array Slot} (hEL : EW Z a0 EL) (pn : plainFor y = true) (hL : ∀ m, entryFrame m as maxL = mkF m 0 L0 [])
    (body : ∀ (p : Program) (e : Env) (s : State) (m : MethodId) (below : List Frame) (meth : Method) (c : Code), Z.vm.findClass y.cls = some m.cls → c.code = bytes → c.maxLocals = maxL → meth.sig.returnType = ret → meth.name = y.name → Z.Warmed39 s.vm → CHv Z EL s.vm h → Ext Z.heap h → (∀ x ∈ sf, Safe Z EL s.vm h x) →
      Go p l e rm s m as below meth c Z a0 EL nw fk Q s.vm h 0 0 0 L0 []) : Ct l Z EL nw fk ws y bytes maxL ret rm as h sf Q := by
  refine MetFree.of_bodySF pn hisR ?_
  intro p e s m args below meth c s₁ Bd hml hP hK
  obtain ⟨rfl, hZ, hh, hC, hO, hsf⟩ := hP
  have hown : s.vm.findClass y.cls = some m.cls := findClass_of_methodNamed Bd.named
  have hnm := (name_of_methodNamed Bd.named Bd.method).1
  have X0 : Stand p l e rm (s.setVm s.vm) m args below meth c s₁ [] 0 0 := Stand.of_body Bd
  have e0 : s₁.heap = h := by rw [← hh, Bd.state]; rfl
  have hC0 : CHr Z EL s.vm s.heap s.vm h := by rw [hh]; exact CHr.refl hC
  obtain ⟨t, v, L', r1, r2, r3, r4, r5, r6, r7, r8, r9⟩ := body p e s m below meth c (by rw [← hZ.alike.findClass]; exact hown) Bd.bytes hml Bd.returns hnm hZ hC hO hsf s₁ [] 0 Bd.exec Bd.notSynchronized hEL X0 e0 ((State.WarmedH.refl s).since 0) (Nat.zero_le _) (Fr.nil _) hZ (fun _ => State.WarmedH.refl s) hC0 hO hK (hh ▸ hO)
  exact ⟨t, .returned v, castTop (hL m) r1, r2, r3, v, L', rfl, r4, r5, r6, r7, r9, r8⟩
theorem Ct.back {y : MethodName} {bytes : ByteArray} {maxL : Nat} {ret : Option FieldType} {rm : Room} {len W : Nat} {as : Array Value} {sf : List Addr} {Q' : Option Value → Vm → Heap → Prop} (hM : Ct l Z EL nw fk [] y bytes maxL ret rm as h sf Q')
    (hZ : Z.Warmed39 vm) (wc : (Jvm.Cond.code y bytes maxL ret).before a0 Z = true) (wz : (Jvm.Cond.initialized y.cls).before a0 Z = true) (hf : rm.frames + 1 ≤ R.frames) (hl : W + (maxL + 11) + rm.locals ≤ R.locals) (hEL : EW Z a0 EL) (H : CHv Z EL vm h) (hO : Ext Z.heap h) (hsf : ∀ x ∈ sf, h.size > x ∧ Safe Z EL vm h x) (hKK : fk → vm.MethodsKnown ∧ vm.FramesKnown below) :
    BackS l R p e below (s.setVm vm) args y len W (fun A a => a = as ∧ A.U.heap = h ∧ A.cells + rm.cells ≤ R.cells ∧ A.slots + rm.slots ≤ R.slots)
      (fun A _ v B => ∃ L, B.locs = A.locs ++ L ∧ B.cells = A.cells + rm.cells ∧ B.slots = A.slots + rm.slots ∧ Fr Z.heap.size L ∧ Q' v B.U.vm B.U.heap ∧ CHr Z EL vm h B.U.vm B.U.heap ∧ Ext Z.heap B.U.heap ∧ (nw → (s.setVm vm).WarmedH B.U.vm)) :=
  BackS.of_freeWG (bytes := bytes) (maxL := maxL) (ret := ret) (E := fun _ first o t L k n => k = rm.cells ∧ n = rm.slots ∧ ∃ v, o = .returned v ∧ Fr Z.heap.size L ∧ Q' v t.vm t.heap ∧ CHr Z EL first.vm first.heap t.vm t.heap ∧ Ext Z.heap t.heap ∧ (nw → first.WarmedH t.vm)) hM hf hl
    (fun m meth c A a Y hp => have hU : Z.Warmed39 A.U.vm := wtrans (s := s.setVm vm) hZ Y.warmed
      ⟨by show (Jvm.Cond.and _ .tt).before a A.U = true; rw [Cond.before_and, mv hU wc]; rfl, mv hU wc, mv hU wz, hp.2.2.1, hp.2.2.2⟩)
    (fun m meth c A a g mk Y hp => ⟨hp.1, wtrans (s := s.setVm vm) hZ Y.warmed, hp.2.1, (CHv.at Y hZ hEL H).1, hO, fun x hx => (CHv.at Y hZ hEL H).safe (hsf x hx).1 (hsf x hx).2⟩) (fun m meth c A a g mk Y _ hg z => known_frames Y hg (hKK z).1 (hKK z).2)
    (fun _ _ _ _ ⟨v, L, h1, h2, h3, h4, h5, h6, h7⟩ => ⟨L, _, _, h7, rfl, rfl, v, h1, h2, h3, h4, h5, h6⟩)
    (fun m meth c A a g mk v t L k n Y hp _ _ ⟨e1, e2, v', e3, e4, e5, e6, e7, e8⟩ => by
      cases e3; subst e1 e2
      refine ⟨L, rfl, rfl, rfl, e4, e5, (CHv.at Y hZ hEL H).trans ?_, e7, fun z => State.WarmedH.trans Y.warmed (e8 z)⟩
      rw [← hp.2.1]; exact e6)
theorem nf_warm {y : MethodName} (hZ : Z.Warmed39 vm) (nf : NotFace Z y) : NotFace (s.setVm vm) y := fun r0 hr => by
  have q : Z.methodNamed? y = some r0 := by
    have := State.methodNamed?_setVm (s := Z) (vm' := vm) hZ.alike y
    rw [← this]; exact hr
  obtain ⟨kr, h1, h2⟩ := nf r0 q
  obtain ⟨kr', g1, g2⟩ := hZ.alike.2.2 _ _ h1
  exact ⟨kr', g1, by rw [g2]; exact h2⟩
theorem Go.callS {own : String} {y : MethodName} {bytes : ByteArray} {maxL : Nat} {ret : Option FieldType} {rm : Room} {W index : Nat} {argsL : List Value} {as : Array Value} {sf : List Addr} {Q' : Option Value → Vm → Heap → Prop} (hM : Ct l Z EL nw fk [] y bytes maxL ret rm as h sf Q') (hown : Z.vm.findClass own = some m.cls) (w1 : (Jvm.Cond.methodLink own index y).before a0 Z = true) (w2 : (Jvm.Cond.static y).before a0 Z = true) (wc : (Jvm.Cond.code y bytes maxL ret).before a0 Z = true) (wz : (Jvm.Cond.initialized y.cls).before a0 Z = true)
    (hy : y.cls ≠ "java/lang/invoke/MethodHandle" ∧ y.cls ≠ "java/lang/invoke/VarHandle") (hlen : ∀ sig, parseMethodDescriptor y.desc = some sig → argsL.length = sig.parameters.length) (has : as = argsL.toArray) (hL : L.size = c.maxLocals) (hW : (st.map fun v => v.category).sum = W) (hd : decode c.code pc = .ok (.invokestatic index, 3)) (hp : pc + 3 = pc') (hf : rm.frames + 1 ≤ R.frames) (hl : W + (maxL + 11) + rm.locals ≤ R.locals) (hc1 : k + rm.cells ≤ R.cells) (hc2 : n + rm.slots ≤ R.slots) (hsf : ∀ x ∈ sf, h.size > x ∧ Safe Z EL vm h x)
    (K : ∀ (v : Option Value) (vm' : Vm) (h' : Heap), Q' v vm' h' → CHr Z EL vm h vm' h' → Go p l e R s m args below meth c Z a0 EL nw fk Q vm' h' (k + rm.cells) (n + rm.slots) pc' L (v.toList ++ st)) : Go p l e R s m args below meth c Z a0 EL nw fk Q vm h k n pc L (argsL.reverse ++ st) := fun T locs k0 hx hk hE X eT hS hk0 hF hZ hN hC hO hK hO0 => by
  subst hp has
  have hown' : (s.setVm vm).vm.findClass own = some m.cls := by
    show vm.findClass own = _
    rw [hZ.alike.findClass]; exact hown
  have hWW : 2 * (mkF m pc L (argsL.reverse ++ st)).monitorRoom + (st.map fun v => v.category).sum ≤ W := by show 2 * 0 + _ ≤ _; rw [Nat.mul_zero, Nat.zero_add]; exact Nat.le_of_eq hW
  have hB := fun len => Ct.back (p := p) (e := e) (below := below) (s := s) (args := args) (len := len) hM hZ wc wz hf hl hE hC.1 hO hsf hK
  obtain ⟨v, vm1, ⟨T', L1, k1, n1⟩, -, X', hS', hg', hP', st'⟩ := callSS X hx hown' (mv (s := s.setVm vm) hZ w1) (mv (s := s.setVm vm) hZ w2) (mv (s := s.setVm vm) hZ wz) (mv (s := s.setVm vm) hZ wc) hy (hB 3) (g := mkF m pc L (argsL.reverse ++ st)) rfl hL hlen rfl hWW hd (fun _ _ => ⟨rfl, eT, hc1, hc2⟩)
  dsimp only [Pt.U, Pt.locs, Pt.cells, Pt.slots] at X' hS' hg' hP' st'
  obtain ⟨L2, rfl, rfl, rfl, q1, q2, q3, q4, q5⟩ := hP'
  obtain ⟨t, v', L', r1, r2⟩ := K v T'.vm T'.heap q2 q3 T' _ _ hx hk hE X' rfl (hS.trans hS' (Nat.le_trans hk0 (by rw [← eT]; exact hg'))) (Nat.le_refl _) (Fr.app hF q1) (State.Warmed39.trans (t := s.setVm vm) hZ hS'.1) (fun z => State.WarmedH.trans (t := s.setVm vm) (hN z) (q5 z)) (hC.trans q3) q4 (fun z => ⟨Vm.MethodsKnown.alikeC (State.Warmed39.alike (s := s.setVm vm) hS'.1) (hK z).1, Vm.FramesKnown.alikeC (State.Warmed39.alike (s := s.setVm vm) hS'.1) (hK z).2⟩) hO0
  exact ⟨t, v', L', st'.trans r1, r2⟩
theorem Go.callSN {own host : String} {y : MethodName} {bytes : ByteArray} {maxL : Nat} {ret : Option FieldType} {rm : Room} {W index : Nat} {argsL : List Value} {as : Array Value} {sf : List Addr} {Q' : Option Value → Vm → Heap → Prop} (hM : Ct l Z EL nw fk [] y bytes maxL ret rm as h sf Q') (hown : Z.vm.findClass own = some m.cls) (w1 : (Jvm.Cond.methodLinkNest own index y host).before a0 Z = true) (w2 : (Jvm.Cond.static y).before a0 Z = true) (wc : (Jvm.Cond.code y bytes maxL ret).before a0 Z = true) (wz : (Jvm.Cond.initialized y.cls).before a0 Z = true)
    (hy : y.cls ≠ "java/lang/invoke/MethodHandle" ∧ y.cls ≠ "java/lang/invoke/VarHandle") (hlen : ∀ sig, parseMethodDescriptor y.desc = some sig → argsL.length = sig.parameters.length) (has : as = argsL.toArray) (hL : L.size = c.maxLocals) (hW : (st.map fun v => v.category).sum = W) (hd : decode c.code pc = .ok (.invokestatic index, 3)) (hp : pc + 3 = pc') (hf : rm.frames + 1 ≤ R.frames) (hl : W + (maxL + 11) + rm.locals ≤ R.locals) (hc1 : k + rm.cells ≤ R.cells) (hc2 : n + rm.slots ≤ R.slots) (hsf : ∀ x ∈ sf, h.size > x ∧ Safe Z EL vm h x)
    (K : ∀ (v : Option Value) (vm' : Vm) (h' : Heap), Q' v vm' h' → CHr Z EL vm h vm' h' → Go p l e R s m args below meth c Z a0 EL nw fk Q vm' h' (k + rm.cells) (n + rm.slots) pc' L (v.toList ++ st)) : Go p l e R s m args below meth c Z a0 EL nw fk Q vm h k n pc L (argsL.reverse ++ st) := fun T locs k0 hx hk hE X eT hS hk0 hF hZ hN hC hO hK hO0 => by
  subst hp has
  have hown' : (s.setVm vm).vm.findClass own = some m.cls := by
    show vm.findClass own = _
    rw [hZ.alike.findClass]; exact hown
  have hWW : 2 * (mkF m pc L (argsL.reverse ++ st)).monitorRoom + (st.map fun v => v.category).sum ≤ W := by show 2 * 0 + _ ≤ _; rw [Nat.mul_zero, Nat.zero_add]; exact Nat.le_of_eq hW
  have hB := fun len => Ct.back (p := p) (e := e) (below := below) (s := s) (args := args) (len := len) hM hZ wc wz hf hl hE hC.1 hO hsf hK
  obtain ⟨v, vm1, ⟨T', L1, k1, n1⟩, -, X', hS', hg', hP', st'⟩ := callSNS X hx hown' (Cond.methodLinkNest_wide hZ w1 :) (mv (s := s.setVm vm) hZ w2) (mv (s := s.setVm vm) hZ wz) (mv (s := s.setVm vm) hZ wc) hy (hB 3) (g := mkF m pc L (argsL.reverse ++ st)) rfl hL hlen rfl hWW hd (fun _ _ => ⟨rfl, eT, hc1, hc2⟩)
  dsimp only [Pt.U, Pt.locs, Pt.cells, Pt.slots] at X' hS' hg' hP' st'
  obtain ⟨L2, rfl, rfl, rfl, q1, q2, q3, q4, q5⟩ := hP'
  obtain ⟨t, v', L', r1, r2⟩ := K v T'.vm T'.heap q2 q3 T' _ _ hx hk hE X' rfl (hS.trans hS' (Nat.le_trans hk0 (by rw [← eT]; exact hg'))) (Nat.le_refl _) (Fr.app hF q1) (State.Warmed39.trans (t := s.setVm vm) hZ hS'.1) (fun z => State.WarmedH.trans (t := s.setVm vm) (hN z) (q5 z)) (hC.trans q3) q4 (fun z => ⟨Vm.MethodsKnown.alikeC (State.Warmed39.alike (s := s.setVm vm) hS'.1) (hK z).1, Vm.FramesKnown.alikeC (State.Warmed39.alike (s := s.setVm vm) hS'.1) (hK z).2⟩) hO0
  exact ⟨t, v', L', st'.trans r1, r2⟩
theorem Go.callC {own : String} {a : Addr} {y : MethodName} {bytes : ByteArray} {maxL : Nat} {ret : Option FieldType} {rm : Room} {W index : Nat} {argsL : List Value} {as : Array Value} {sf : List Addr} {Q' : Option Value → Vm → Heap → Prop} (hM : Ct l Z EL nw fk [] y bytes maxL ret rm as h sf Q') (hown : Z.vm.findClass own = some m.cls) (hret0 : ret = none) (hinit : y.name = "<init>") (w1 : (Jvm.Cond.methodLink own index y).before a0 Z = true) (w2 : (Jvm.Cond.instanceMethod y).before a0 Z = true) (wc : (Jvm.Cond.code y bytes maxL ret).before a0 Z = true) (wz : (Jvm.Cond.initialized y.cls).before a0 Z = true)
    (hy : y.cls ≠ "java/lang/invoke/MethodHandle" ∧ y.cls ≠ "java/lang/invoke/VarHandle") (hlen : ∀ sig, parseMethodDescriptor y.desc = some sig → argsL.length = sig.parameters.length) (has : as = (.ref a :: argsL).toArray) (hL : L.size = c.maxLocals) (hW : (st.map fun v => v.category).sum = W) (hd : decode c.code pc = .ok (.invokespecial index, 3)) (hp : pc + 3 = pc') (hf : rm.frames + 1 ≤ R.frames) (hl : W + (maxL + 11) + rm.locals ≤ R.locals) (hc1 : k + rm.cells ≤ R.cells) (hc2 : n + rm.slots ≤ R.slots) (hsf : ∀ x ∈ sf, h.size > x ∧ Safe Z EL vm h x)
    (K : ∀ (v : Option Value) (vm' : Vm) (h' : Heap), Q' v vm' h' → CHr Z EL vm h vm' h' → Go p l e R s m args below meth c Z a0 EL nw fk Q vm' h' (k + rm.cells) (n + rm.slots) pc' L (v.toList ++ st)) : Go p l e R s m args below meth c Z a0 EL nw fk Q vm h k n pc L (argsL.reverse ++ .ref a :: st) := fun T locs k0 hx hk hE X eT hS hk0 hF hZ hN hC hO hK hO0 => by
  subst hp has
  have hown' : (s.setVm vm).vm.findClass own = some m.cls := by
    show vm.findClass own = _
    rw [hZ.alike.findClass]; exact hown
  have hWW : 2 * (mkF m pc L (argsL.reverse ++ .ref a :: st)).monitorRoom + (st.map fun v => v.category).sum ≤ W := by show 2 * 0 + _ ≤ _; rw [Nat.mul_zero, Nat.zero_add]; exact Nat.le_of_eq hW
  have hB := fun len => Ct.back (p := p) (e := e) (below := below) (s := s) (args := args) (len := len) hM hZ wc wz hf hl hE hC.1 hO hsf hK
  subst hret0
  obtain ⟨v, vm1, ⟨T', L1, k1, n1⟩, -, X', hS', hg', hP', st'⟩ := X.specialBackS hx hinit hown' (mv (s := s.setVm vm) hZ w1) (mv (s := s.setVm vm) hZ w2) (mv (s := s.setVm vm) hZ wc) hy (hB 3) (g := mkF m pc L (argsL.reverse ++ .ref a :: st)) rfl hL (Steps.refl _) (a := a) (argsL := argsL) (rest := st) hlen rfl hWW hd (fun _ _ => ⟨rfl, eT, hc1, hc2⟩)
  dsimp only [Pt.U, Pt.locs, Pt.cells, Pt.slots] at X' hS' hg' hP' st'
  obtain ⟨L2, rfl, rfl, rfl, q1, q2, q3, q4, q5⟩ := hP'
  obtain ⟨t, v', L', r1, r2⟩ := K v T'.vm T'.heap q2 q3 T' _ _ hx hk hE X' rfl (hS.trans hS' (Nat.le_trans hk0 (by rw [← eT]; exact hg'))) (Nat.le_refl _) (Fr.app hF q1) (State.Warmed39.trans (t := s.setVm vm) hZ hS'.1) (fun z => State.WarmedH.trans (t := s.setVm vm) (hN z) (q5 z)) (hC.trans q3) q4 (fun z => ⟨Vm.MethodsKnown.alikeC (State.Warmed39.alike (s := s.setVm vm) hS'.1) (hK z).1, Vm.FramesKnown.alikeC (State.Warmed39.alike (s := s.setVm vm) hS'.1) (hK z).2⟩) hO0
  exact ⟨t, v', L', st'.trans r1, r2⟩
theorem Go.callCN {own host : String} {a : Addr} {y : MethodName} {bytes : ByteArray} {maxL : Nat} {ret : Option FieldType} {rm : Room} {W index : Nat} {argsL : List Value} {as : Array Value} {sf : List Addr} {Q' : Option Value → Vm → Heap → Prop} (hM : Ct l Z EL nw fk [] y bytes maxL ret rm as h sf Q') (hown : Z.vm.findClass own = some m.cls) (hret0 : ret = none) (hinit : y.name = "<init>") (w1 : (Jvm.Cond.methodLinkNest own index y host).before a0 Z = true) (w2 : (Jvm.Cond.instanceMethod y).before a0 Z = true) (wc : (Jvm.Cond.code y bytes maxL ret).before a0 Z = true) (wz : (Jvm.Cond.initialized y.cls).before a0 Z = true)
    (hy : y.cls ≠ "java/lang/invoke/MethodHandle" ∧ y.cls ≠ "java/lang/invoke/VarHandle") (hlen : ∀ sig, parseMethodDescriptor y.desc = some sig → argsL.length = sig.parameters.length) (has : as = (.ref a :: argsL).toArray) (hL : L.size = c.maxLocals) (hW : (st.map fun v => v.category).sum = W) (hd : decode c.code pc = .ok (.invokespecial index, 3)) (hp : pc + 3 = pc') (hf : rm.frames + 1 ≤ R.frames) (hl : W + (maxL + 11) + rm.locals ≤ R.locals) (hc1 : k + rm.cells ≤ R.cells) (hc2 : n + rm.slots ≤ R.slots) (hsf : ∀ x ∈ sf, h.size > x ∧ Safe Z EL vm h x)
    (K : ∀ (v : Option Value) (vm' : Vm) (h' : Heap), Q' v vm' h' → CHr Z EL vm h vm' h' → Go p l e R s m args below meth c Z a0 EL nw fk Q vm' h' (k + rm.cells) (n + rm.slots) pc' L (v.toList ++ st)) : Go p l e R s m args below meth c Z a0 EL nw fk Q vm h k n pc L (argsL.reverse ++ .ref a :: st) := fun T locs k0 hx hk hE X eT hS hk0 hF hZ hN hC hO hK hO0 => by
  subst hp has
  have hown' : (s.setVm vm).vm.findClass own = some m.cls := by
    show vm.findClass own = _
    rw [hZ.alike.findClass]; exact hown
  have hWW : 2 * (mkF m pc L (argsL.reverse ++ .ref a :: st)).monitorRoom + (st.map fun v => v.category).sum ≤ W := by show 2 * 0 + _ ≤ _; rw [Nat.mul_zero, Nat.zero_add]; exact Nat.le_of_eq hW
  have hB := fun len => Ct.back (p := p) (e := e) (below := below) (s := s) (args := args) (len := len) hM hZ wc wz hf hl hE hC.1 hO hsf hK
  subst hret0
  obtain ⟨v, vm1, ⟨T', L1, k1, n1⟩, -, X', hS', hg', hP', st'⟩ := X.specialBackNestS hx hinit hown' (Cond.methodLinkNest_wide hZ w1 :) (mv (s := s.setVm vm) hZ w2) (mv (s := s.setVm vm) hZ wc) hy (hB 3) (g := mkF m pc L (argsL.reverse ++ .ref a :: st)) rfl hL (Steps.refl _) (a := a) (argsL := argsL) (rest := st) hlen rfl hWW hd (fun _ _ => ⟨rfl, eT, hc1, hc2⟩)
  dsimp only [Pt.U, Pt.locs, Pt.cells, Pt.slots] at X' hS' hg' hP' st'
  obtain ⟨L2, rfl, rfl, rfl, q1, q2, q3, q4, q5⟩ := hP'
  obtain ⟨t, v', L', r1, r2⟩ := K v T'.vm T'.heap q2 q3 T' _ _ hx hk hE X' rfl (hS.trans hS' (Nat.le_trans hk0 (by rw [← eT]; exact hg'))) (Nat.le_refl _) (Fr.app hF q1) (State.Warmed39.trans (t := s.setVm vm) hZ hS'.1) (fun z => State.WarmedH.trans (t := s.setVm vm) (hN z) (q5 z)) (hC.trans q3) q4 (fun z => ⟨Vm.MethodsKnown.alikeC (State.Warmed39.alike (s := s.setVm vm) hS'.1) (hK z).1, Vm.FramesKnown.alikeC (State.Warmed39.alike (s := s.setVm vm) hS'.1) (hK z).2⟩) hO0
  exact ⟨t, v', L', st'.trans r1, r2⟩
theorem Go.callV {own C : String} {a : Addr} {y0 : MethodName} {y : MethodName} {bytes : ByteArray} {maxL : Nat} {ret : Option FieldType} {rm : Room} {W index : Nat} {argsL : List Value} {as : Array Value} {sf : List Addr} {Q' : Option Value → Vm → Heap → Prop} (hM : Ct l Z EL nw fk [] y bytes maxL ret rm as h sf Q') (hown : Z.vm.findClass own = some m.cls) (w1 : (Jvm.Cond.methodLink own index y0).before a0 Z = true) (w2 : (Jvm.Cond.declares y0).before a0 Z = true) (nf : NotFace Z y0) (w3 : (Jvm.Cond.selects C y0 y).before a0 Z = true) (w4 : (Jvm.Cond.instanceMethod y).before a0 Z = true) (E : Exa Z h a C) (wc : (Jvm.Cond.code y bytes maxL ret).before a0 Z = true) (wz : (Jvm.Cond.initialized y.cls).before a0 Z = true)
    (hy : y0.cls ≠ "java/lang/invoke/MethodHandle" ∧ y0.cls ≠ "java/lang/invoke/VarHandle") (hlen : ∀ sig, parseMethodDescriptor y0.desc = some sig → argsL.length = sig.parameters.length) (has : as = (.ref a :: argsL).toArray) (hL : L.size = c.maxLocals) (hW : (st.map fun v => v.category).sum = W) (hd : decode c.code pc = .ok (.invokevirtual index, 3)) (hp : pc + 3 = pc') (hf : rm.frames + 1 ≤ R.frames) (hl : W + (maxL + 11) + rm.locals ≤ R.locals) (hc1 : k + rm.cells ≤ R.cells) (hc2 : n + rm.slots ≤ R.slots) (hsf : ∀ x ∈ sf, h.size > x ∧ Safe Z EL vm h x)
    (K : ∀ (v : Option Value) (vm' : Vm) (h' : Heap), Q' v vm' h' → CHr Z EL vm h vm' h' → Go p l e R s m args below meth c Z a0 EL nw fk Q vm' h' (k + rm.cells) (n + rm.slots) pc' L (v.toList ++ st)) : Go p l e R s m args below meth c Z a0 EL nw fk Q vm h k n pc L (argsL.reverse ++ .ref a :: st) := fun T locs k0 hx hk hE X eT hS hk0 hF hZ hN hC hO hK hO0 => by
  subst hp has
  have hown' : (s.setVm vm).vm.findClass own = some m.cls := by
    show vm.findClass own = _
    rw [hZ.alike.findClass]; exact hown
  have hWW : 2 * (mkF m pc L (argsL.reverse ++ .ref a :: st)).monitorRoom + (st.map fun v => v.category).sum ≤ W := by show 2 * 0 + _ ≤ _; rw [Nat.mul_zero, Nat.zero_add]; exact Nat.le_of_eq hW
  have hB := fun len => Ct.back (p := p) (e := e) (below := below) (s := s) (args := args) (len := len) hM hZ wc wz hf hl hE hC.1 hO hsf hK
  obtain ⟨cB, kB, qa, qb, qc⟩ := isOf (s := s.setVm vm) (T := T) hZ eT E
  obtain ⟨v, vm1, ⟨T', L1, k1, n1⟩, -, X', hS', hg', hP', st'⟩ := X.virtualBackS hx hown' (mv (s := s.setVm vm) hZ w1) (mv (s := s.setVm vm) hZ w2) (nf_warm hZ nf) (mv (s := s.setVm vm) hZ w3) (mv (s := s.setVm vm) hZ w4) hy (hB 3) qa qc (g := mkF m pc L (argsL.reverse ++ .ref a :: st)) rfl hL (Steps.refl _) (argsL := argsL) (rest := st) hlen rfl hWW hd (fun _ _ => ⟨rfl, eT, hc1, hc2⟩)
  dsimp only [Pt.U, Pt.locs, Pt.cells, Pt.slots] at X' hS' hg' hP' st'
  obtain ⟨L2, rfl, rfl, rfl, q1, q2, q3, q4, q5⟩ := hP'
  obtain ⟨t, v', L', r1, r2⟩ := K v T'.vm T'.heap q2 q3 T' _ _ hx hk hE X' rfl (hS.trans hS' (Nat.le_trans hk0 (by rw [← eT]; exact hg'))) (Nat.le_refl _) (Fr.app hF q1) (State.Warmed39.trans (t := s.setVm vm) hZ hS'.1) (fun z => State.WarmedH.trans (t := s.setVm vm) (hN z) (q5 z)) (hC.trans q3) q4 (fun z => ⟨Vm.MethodsKnown.alikeC (State.Warmed39.alike (s := s.setVm vm) hS'.1) (hK z).1, Vm.FramesKnown.alikeC (State.Warmed39.alike (s := s.setVm vm) hS'.1) (hK z).2⟩) hO0
  exact ⟨t, v', L', st'.trans r1, r2⟩
theorem Go.callVU {own C owner : String} {a : Addr} {y0 : MethodName} {y : MethodName} {bytes : ByteArray} {maxL : Nat} {ret : Option FieldType} {rm : Room} {W index : Nat} {argsL : List Value} {as : Array Value} {sf : List Addr} {Q' : Option Value → Vm → Heap → Prop} (hM : Ct l Z EL nw fk [] y bytes maxL ret rm as h sf Q') (hown : Z.vm.findClass own = some m.cls) (w1 : (Jvm.Cond.methodLink own index y0).before a0 Z = true) (w2 : (Jvm.Cond.sameMethod y0.cls owner y0.name y0.desc).before a0 Z = true) (w5 : (Jvm.Cond.declares ⟨owner, y0.name, y0.desc⟩).before a0 Z = true) (w3 : (Jvm.Cond.selects C y0 y).before a0 Z = true) (w4 : (Jvm.Cond.instanceMethod y).before a0 Z = true) (E : Exa Z h a C) (wc : (Jvm.Cond.code y bytes maxL ret).before a0 Z = true) (wz : (Jvm.Cond.initialized y.cls).before a0 Z = true)
    (hy : owner ≠ "java/lang/invoke/MethodHandle" ∧ owner ≠ "java/lang/invoke/VarHandle") (hlen : ∀ sig, parseMethodDescriptor y0.desc = some sig → argsL.length = sig.parameters.length) (has : as = (.ref a :: argsL).toArray) (hL : L.size = c.maxLocals) (hW : (st.map fun v => v.category).sum = W) (hd : decode c.code pc = .ok (.invokevirtual index, 3)) (hp : pc + 3 = pc') (hf : rm.frames + 1 ≤ R.frames) (hl : W + (maxL + 11) + rm.locals ≤ R.locals) (hc1 : k + rm.cells ≤ R.cells) (hc2 : n + rm.slots ≤ R.slots) (hsf : ∀ x ∈ sf, h.size > x ∧ Safe Z EL vm h x)
    (K : ∀ (v : Option Value) (vm' : Vm) (h' : Heap), Q' v vm' h' → CHr Z EL vm h vm' h' → Go p l e R s m args below meth c Z a0 EL nw fk Q vm' h' (k + rm.cells) (n + rm.slots) pc' L (v.toList ++ st)) : Go p l e R s m args below meth c Z a0 EL nw fk Q vm h k n pc L (argsL.reverse ++ .ref a :: st) := fun T locs k0 hx hk hE X eT hS hk0 hF hZ hN hC hO hK hO0 => by
  subst hp has
  have hown' : (s.setVm vm).vm.findClass own = some m.cls := by
    show vm.findClass own = _
    rw [hZ.alike.findClass]; exact hown
  have hWW : 2 * (mkF m pc L (argsL.reverse ++ .ref a :: st)).monitorRoom + (st.map fun v => v.category).sum ≤ W := by show 2 * 0 + _ ≤ _; rw [Nat.mul_zero, Nat.zero_add]; exact Nat.le_of_eq hW
  have hB := fun len => Ct.back (p := p) (e := e) (below := below) (s := s) (args := args) (len := len) hM hZ wc wz hf hl hE hC.1 hO hsf hK
  obtain ⟨cB, kB, qa, qb, qc⟩ := isOf (s := s.setVm vm) (T := T) hZ eT E
  obtain ⟨v, vm1, ⟨T', L1, k1, n1⟩, -, X', hS', hg', hP', st'⟩ := X.virtualBackUpS hx hown' (mv (s := s.setVm vm) hZ w1) (mv (s := s.setVm vm) hZ w2) (mv (s := s.setVm vm) hZ w5) hy (mv (s := s.setVm vm) hZ w3) (mv (s := s.setVm vm) hZ w4) (hB 3) qa qc (g := mkF m pc L (argsL.reverse ++ .ref a :: st)) rfl hL (Steps.refl _) (argsL := argsL) (rest := st) hlen rfl hWW hd (fun _ _ => ⟨rfl, eT, hc1, hc2⟩)
  dsimp only [Pt.U, Pt.locs, Pt.cells, Pt.slots] at X' hS' hg' hP' st'
  obtain ⟨L2, rfl, rfl, rfl, q1, q2, q3, q4, q5⟩ := hP'
  obtain ⟨t, v', L', r1, r2⟩ := K v T'.vm T'.heap q2 q3 T' _ _ hx hk hE X' rfl (hS.trans hS' (Nat.le_trans hk0 (by rw [← eT]; exact hg'))) (Nat.le_refl _) (Fr.app hF q1) (State.Warmed39.trans (t := s.setVm vm) hZ hS'.1) (fun z => State.WarmedH.trans (t := s.setVm vm) (hN z) (q5 z)) (hC.trans q3) q4 (fun z => ⟨Vm.MethodsKnown.alikeC (State.Warmed39.alike (s := s.setVm vm) hS'.1) (hK z).1, Vm.FramesKnown.alikeC (State.Warmed39.alike (s := s.setVm vm) hS'.1) (hK z).2⟩) hO0
  exact ⟨t, v', L', st'.trans r1, r2⟩
theorem Go.callI {own C : String} {a : Addr} {count : Nat} {y0 : MethodName} {y : MethodName} {bytes : ByteArray} {maxL : Nat} {ret : Option FieldType} {rm : Room} {W index : Nat} {argsL : List Value} {as : Array Value} {sf : List Addr} {Q' : Option Value → Vm → Heap → Prop} (hM : Ct l Z EL nw fk [] y bytes maxL ret rm as h sf Q') (hown : Z.vm.findClass own = some m.cls) (w1 : (Jvm.Cond.methodLink own index y0).before a0 Z = true) (w2 : (Jvm.Cond.declares y0).before a0 Z = true) (w5 : (Jvm.Cond.interfaceMethod y0.cls y0.cls y0.name y0.desc).before a0 Z = true) (w3 : (Jvm.Cond.selects C y0 y).before a0 Z = true) (w4 : (Jvm.Cond.instanceMethod y).before a0 Z = true) (w6 : (Jvm.Cond.publicMethod y).before a0 Z = true) (w7 : (Jvm.Cond.unhidden C y0.name y0.desc).before a0 Z = true) (w8 : (Jvm.Cond.castable C y0.cls).before a0 Z = true) (h5 : ((Jvm.Cond.interfaceMethod y0.cls y0.cls y0.name y0.desc).onTables && (Jvm.Cond.interfaceMethod y0.cls y0.cls y0.name y0.desc).keepsFace) = true) (E : Exa Z h a C) (wc : (Jvm.Cond.code y bytes maxL ret).before a0 Z = true) (wz : (Jvm.Cond.initialized y.cls).before a0 Z = true)
    (hy : y0.cls ≠ "java/lang/invoke/MethodHandle" ∧ y0.cls ≠ "java/lang/invoke/VarHandle") (hlen : ∀ sig, parseMethodDescriptor y0.desc = some sig → argsL.length = sig.parameters.length) (has : as = (.ref a :: argsL).toArray) (hL : L.size = c.maxLocals) (hW : (st.map fun v => v.category).sum = W) (hd : decode c.code pc = .ok (.invokeinterface index count, 5)) (hp : pc + 5 = pc') (hf : rm.frames + 1 ≤ R.frames) (hl : W + (maxL + 11) + rm.locals ≤ R.locals) (hc1 : k + rm.cells ≤ R.cells) (hc2 : n + rm.slots ≤ R.slots) (hsf : ∀ x ∈ sf, h.size > x ∧ Safe Z EL vm h x)
    (K : ∀ (v : Option Value) (vm' : Vm) (h' : Heap), Q' v vm' h' → CHr Z EL vm h vm' h' → Go p l e R s m args below meth c Z a0 EL nw fk Q vm' h' (k + rm.cells) (n + rm.slots) pc' L (v.toList ++ st)) : Go p l e R s m args below meth c Z a0 EL nw fk Q vm h k n pc L (argsL.reverse ++ .ref a :: st) := fun T locs k0 hx hk hE X eT hS hk0 hF hZ hN hC hO hK hO0 => by
  subst hp has
  have hown' : (s.setVm vm).vm.findClass own = some m.cls := by
    show vm.findClass own = _
    rw [hZ.alike.findClass]; exact hown
  have hWW : 2 * (mkF m pc L (argsL.reverse ++ .ref a :: st)).monitorRoom + (st.map fun v => v.category).sum ≤ W := by show 2 * 0 + _ ≤ _; rw [Nat.mul_zero, Nat.zero_add]; exact Nat.le_of_eq hW
  have hB := fun len => Ct.back (p := p) (e := e) (below := below) (s := s) (args := args) (len := len) hM hZ wc wz hf hl hE hC.1 hO hsf hK
  obtain ⟨cB, kB, qa, qb, qc⟩ := isOf (s := s.setVm vm) (T := T) hZ eT E
  obtain ⟨v, vm1, ⟨T', L1, k1, n1⟩, -, X', hS', hg', hP', st'⟩ := X.interfaceBackS hx hown' (mv (s := s.setVm vm) hZ w1) (mv (s := s.setVm vm) hZ w2) (mv (s := s.setVm vm) hZ w5 h5) (mv (s := s.setVm vm) hZ w3) (mv (s := s.setVm vm) hZ w4) (mv (s := s.setVm vm) hZ w6) (mv (s := s.setVm vm) hZ w7) (mv (s := s.setVm vm) hZ w8) hy (hB 5) qa qb qc (g := mkF m pc L (argsL.reverse ++ .ref a :: st)) rfl hL (Steps.refl _) (argsL := argsL) (rest := st) hlen rfl hWW hd (fun _ _ => ⟨rfl, eT, hc1, hc2⟩)
  dsimp only [Pt.U, Pt.locs, Pt.cells, Pt.slots] at X' hS' hg' hP' st'
  obtain ⟨L2, rfl, rfl, rfl, q1, q2, q3, q4, q5⟩ := hP'
  obtain ⟨t, v', L', r1, r2⟩ := K v T'.vm T'.heap q2 q3 T' _ _ hx hk hE X' rfl (hS.trans hS' (Nat.le_trans hk0 (by rw [← eT]; exact hg'))) (Nat.le_refl _) (Fr.app hF q1) (State.Warmed39.trans (t := s.setVm vm) hZ hS'.1) (fun z => State.WarmedH.trans (t := s.setVm vm) (hN z) (q5 z)) (hC.trans q3) q4 (fun z => ⟨Vm.MethodsKnown.alikeC (State.Warmed39.alike (s := s.setVm vm) hS'.1) (hK z).1, Vm.FramesKnown.alikeC (State.Warmed39.alike (s := s.setVm vm) hS'.1) (hK z).2⟩) hO0
  exact ⟨t, v', L', st'.trans r1, r2⟩
theorem Go.callP {own C : String} {a : Addr} {y : MethodName} {bytes : ByteArray} {maxL : Nat} {ret : Option FieldType} {rm : Room} {W index : Nat} {argsL : List Value} {as : Array Value} {sf : List Addr} {Q' : Option Value → Vm → Heap → Prop} (hM : Ct l Z EL nw fk [] y bytes maxL ret rm as h sf Q') (hown : Z.vm.findClass own = some m.cls) (w1 : (Jvm.Cond.methodLink own index y).before a0 Z = true) (w2 : (Jvm.Cond.instanceMethod y).before a0 Z = true) (w3 : (Jvm.Cond.selects y.cls y y).before a0 Z = true) (w4 : (Jvm.Cond.privateMethod y).before a0 Z = true) (E : Exa Z h a C) (wc : (Jvm.Cond.code y bytes maxL ret).before a0 Z = true) (wz : (Jvm.Cond.initialized y.cls).before a0 Z = true)
    (hy : y.cls ≠ "java/lang/invoke/MethodHandle" ∧ y.cls ≠ "java/lang/invoke/VarHandle") (hlen : ∀ sig, parseMethodDescriptor y.desc = some sig → argsL.length = sig.parameters.length) (has : as = (.ref a :: argsL).toArray) (hL : L.size = c.maxLocals) (hW : (st.map fun v => v.category).sum = W) (hd : decode c.code pc = .ok (.invokevirtual index, 3)) (hp : pc + 3 = pc') (hf : rm.frames + 1 ≤ R.frames) (hl : W + (maxL + 11) + rm.locals ≤ R.locals) (hc1 : k + rm.cells ≤ R.cells) (hc2 : n + rm.slots ≤ R.slots) (hsf : ∀ x ∈ sf, h.size > x ∧ Safe Z EL vm h x)
    (K : ∀ (v : Option Value) (vm' : Vm) (h' : Heap), Q' v vm' h' → CHr Z EL vm h vm' h' → Go p l e R s m args below meth c Z a0 EL nw fk Q vm' h' (k + rm.cells) (n + rm.slots) pc' L (v.toList ++ st)) : Go p l e R s m args below meth c Z a0 EL nw fk Q vm h k n pc L (argsL.reverse ++ .ref a :: st) := fun T locs k0 hx hk hE X eT hS hk0 hF hZ hN hC hO hK hO0 => by
  subst hp has
  have hown' : (s.setVm vm).vm.findClass own = some m.cls := by
    show vm.findClass own = _
    rw [hZ.alike.findClass]; exact hown
  have hWW : 2 * (mkF m pc L (argsL.reverse ++ .ref a :: st)).monitorRoom + (st.map fun v => v.category).sum ≤ W := by show 2 * 0 + _ ≤ _; rw [Nat.mul_zero, Nat.zero_add]; exact Nat.le_of_eq hW
  have hB := fun len => Ct.back (p := p) (e := e) (below := below) (s := s) (args := args) (len := len) hM hZ wc wz hf hl hE hC.1 hO hsf hK
  obtain ⟨cq, q1', q2'⟩ := E.cell
  obtain ⟨v, vm1, ⟨T', L1, k1, n1⟩, -, X', hS', hg', hP', st'⟩ := X.privateBackS hx hown' (mv (s := s.setVm vm) hZ w1) (mv (s := s.setVm vm) hZ w2) (mv (s := s.setVm vm) hZ w3) (Cond.privateMethod_at (mvP (s := s.setVm vm) hZ w4 (args := #[]))) (mv (s := s.setVm vm) hZ wc) hy (hB 3) (g := mkF m pc L (argsL.reverse ++ .ref a :: st)) rfl hL (Steps.refl _) (a := a) (cell := cq) (by rw [eT]; exact q1') q2' (argsL := argsL) (rest := st) hlen rfl hWW hd (fun _ _ => ⟨rfl, eT, hc1, hc2⟩)
  dsimp only [Pt.U, Pt.locs, Pt.cells, Pt.slots] at X' hS' hg' hP' st'
  obtain ⟨L2, rfl, rfl, rfl, q1, q2, q3, q4, q5⟩ := hP'
  obtain ⟨t, v', L', r1, r2⟩ := K v T'.vm T'.heap q2 q3 T' _ _ hx hk hE X' rfl (hS.trans hS' (Nat.le_trans hk0 (by rw [← eT]; exact hg'))) (Nat.le_refl _) (Fr.app hF q1) (State.Warmed39.trans (t := s.setVm vm) hZ hS'.1) (fun z => State.WarmedH.trans (t := s.setVm vm) (hN z) (q5 z)) (hC.trans q3) q4 (fun z => ⟨Vm.MethodsKnown.alikeC (State.Warmed39.alike (s := s.setVm vm) hS'.1) (hK z).1, Vm.FramesKnown.alikeC (State.Warmed39.alike (s := s.setVm vm) hS'.1) (hK z).2⟩) hO0
  exact ⟨t, v', L', st'.trans r1, r2⟩
theorem Go.callU {own K : String} {a : Addr} {y : MethodName} {bytes : ByteArray} {maxL : Nat} {ret : Option FieldType} {rm : Room} {W index : Nat} {argsL : List Value} {as : Array Value} {sf : List Addr} {Q' : Option Value → Vm → Heap → Prop} (hM : Ct l Z EL nw fk [] y bytes maxL ret rm as h sf Q') (hown : Z.vm.findClass own = some m.cls) (w1 : (Jvm.Cond.methodLink own index y).before a0 Z = true) (w2 : (Jvm.Cond.sameMethod y.cls y.cls y.name y.desc).before a0 Z = true) (w3 : (Jvm.Cond.instanceMethod y).before a0 Z = true) (w4 : (Jvm.Cond.superclass own y.cls).before a0 Z = true) (hn : y.name ≠ "<init>") (F : Ins Z h a K true) (wc : (Jvm.Cond.code y bytes maxL ret).before a0 Z = true) (wz : (Jvm.Cond.initialized y.cls).before a0 Z = true)
    (hy : y.cls ≠ "java/lang/invoke/MethodHandle" ∧ y.cls ≠ "java/lang/invoke/VarHandle") (hlen : ∀ sig, parseMethodDescriptor y.desc = some sig → argsL.length = sig.parameters.length) (has : as = (.ref a :: argsL).toArray) (hL : L.size = c.maxLocals) (hW : (st.map fun v => v.category).sum = W) (hd : decode c.code pc = .ok (.invokespecial index, 3)) (hp : pc + 3 = pc') (hf : rm.frames + 1 ≤ R.frames) (hl : W + (maxL + 11) + rm.locals ≤ R.locals) (hc1 : k + rm.cells ≤ R.cells) (hc2 : n + rm.slots ≤ R.slots) (hsf : ∀ x ∈ sf, h.size > x ∧ Safe Z EL vm h x)
    (K : ∀ (v : Option Value) (vm' : Vm) (h' : Heap), Q' v vm' h' → CHr Z EL vm h vm' h' → Go p l e R s m args below meth c Z a0 EL nw fk Q vm' h' (k + rm.cells) (n + rm.slots) pc' L (v.toList ++ st)) : Go p l e R s m args below meth c Z a0 EL nw fk Q vm h k n pc L (argsL.reverse ++ .ref a :: st) := fun T locs k0 hx hk hE X eT hS hk0 hF hZ hN hC hO hK hO0 => by
  subst hp has
  have hown' : (s.setVm vm).vm.findClass own = some m.cls := by
    show vm.findClass own = _
    rw [hZ.alike.findClass]; exact hown
  have hWW : 2 * (mkF m pc L (argsL.reverse ++ .ref a :: st)).monitorRoom + (st.map fun v => v.category).sum ≤ W := by show 2 * 0 + _ ≤ _; rw [Nat.mul_zero, Nat.zero_add]; exact Nat.le_of_eq hW
  have hB := fun len => Ct.back (p := p) (e := e) (below := below) (s := s) (args := args) (len := len) hM hZ wc wz hf hl hE hC.1 hO hsf hK
  obtain ⟨v, vm1, ⟨T', L1, k1, n1⟩, -, X', hS', hg', hP', st'⟩ := superBackS X hx (s := s.setVm vm) hZ hown' w1 w2 w3 w4 hn (hB 3) eT F (g := mkF m pc L (argsL.reverse ++ .ref a :: st)) rfl hL wc (argsL := argsL) (rest := st) hlen rfl hWW hd (fun _ _ => ⟨rfl, eT, hc1, hc2⟩)
  dsimp only [Pt.U, Pt.locs, Pt.cells, Pt.slots] at X' hS' hg' hP' st'
  obtain ⟨L2, rfl, rfl, rfl, q1, q2, q3, q4, q5⟩ := hP'
  obtain ⟨t, v', L', r1, r2⟩ := K v T'.vm T'.heap q2 q3 T' _ _ hx hk hE X' rfl (hS.trans hS' (Nat.le_trans hk0 (by rw [← eT]; exact hg'))) (Nat.le_refl _) (Fr.app hF q1) (State.Warmed39.trans (t := s.setVm vm) hZ hS'.1) (fun z => State.WarmedH.trans (t := s.setVm vm) (hN z) (q5 z)) (hC.trans q3) q4 (fun z => ⟨Vm.MethodsKnown.alikeC (State.Warmed39.alike (s := s.setVm vm) hS'.1) (hK z).1, Vm.FramesKnown.alikeC (State.Warmed39.alike (s := s.setVm vm) hS'.1) (hK z).2⟩) hO0
  exact ⟨t, v', L', st'.trans r1, r2⟩
theorem Go.acopy {own : String} {index W : Nat} {a b : Addr} {kA kB : ClassId} {vs vd : List Value} {sp dp nn : Int32} (hown : Z.vm.findClass own = some m.cls) (w1 : (Jvm.Cond.methodLink own index Jvm.Stand.acN).before a0 Z = true) (w2 : (Jvm.Cond.native Jvm.Stand.acN).before a0 Z = true) (w3 : (Jvm.Cond.static Jvm.Stand.acN).before a0 Z = true) (w4 : (Jvm.Cond.initialized "java/lang/System").before a0 Z = true) (A : Ar Z h a kA .byte vs) (B : Ar Z h b kB .byte vd)
    (fA : ∀ v ∈ vs, fits .byte v = true) (fB : ∀ v ∈ vd, fits .byte v = true) (lA : vs.length < 2 ^ 31) (lB : vd.length < 2 ^ 31) (h1 : ¬ sp < 0) (h2 : ¬ dp < 0) (h3 : ¬ nn < 0) (h4 : sp.toNatClampNeg + nn.toNatClampNeg ≤ vs.length) (h5 : dp.toNatClampNeg + nn.toNatClampNeg ≤ vd.length) (hs : Safe Z EL vm h b) (hge : Z.heap.size ≤ b)
    (hL : L.size = c.maxLocals) (hW : (st.map fun v => v.category).sum = W) (hd : decode c.code pc = .ok (.invokestatic index, 3)) (hp : pc + 3 = pc') (hf : 1 ≤ R.frames) (hlo : W + (nativeFrameWords "java/lang/System" "arraycopy" 5 + 11) ≤ R.locals)
    (K : ∀ (h' : Heap), Ar Z h' b kB .byte (vd.take dp.toNatClampNeg ++ (vs.drop sp.toNatClampNeg).take nn.toNatClampNeg ++ vd.drop (dp.toNatClampNeg + nn.toNatClampNeg)) → Keep h h' [b] → Safe Z EL vm h' b → CHr Z EL vm h vm h' → Go p l e R s m args below meth c Z a0 EL nw fk Q vm h' k n pc' L st) : Go p l e R s m args below meth c Z a0 EL nw fk Q vm h k n pc L (.int nn :: .int dp :: .ref b :: .int sp :: .ref a :: st) := fun T locs k0 hx hk hE X eT hS hk0 hF hZ hN hC hO hK hO0 => by
  subst hp
  have hown' : (s.setVm vm).vm.findClass own = some m.cls := by
    show vm.findClass own = _
    rw [hZ.alike.findClass]; exact hown
  have A1 := A.arv (d := .int 0) fA lA
  have B1 := B.arv (d := .int 0) fB lB
  have cA := clampL lA
  have cB := clampL lB
  obtain ⟨T', h', L1, X', e', F', K', B', st'⟩ := cpA X hx (s := s.setVm vm) hZ hown' w1 w2 w3 w4 eT A1 B1 (Or.inl ⟨rfl, rfl⟩) h1 h2 h3 (by rw [cA]; exact h4) (by rw [cB]; exact h5) rfl h5 hF hge (g := mkF m pc L (.int nn :: .int dp :: .ref b :: .int sp :: .ref a :: st)) rfl hL rfl hd hf (W := W) (by show 2 * 0 + _ ≤ _; rw [Nat.mul_zero, Nat.zero_add]; exact Nat.le_of_eq hW) hlo
  have C' : CHr Z EL vm h vm h' := CHr.keep K' (allS hs all0) hC.1
  have us : ((List.range nn.toNatClampNeg).map fun i => vs.getD (sp.toNatClampNeg + i) (Value.int 0)) = (vs.drop sp.toNatClampNeg).take nn.toNatClampNeg := by
    apply List.ext_getElem
    · simp; omega
    · intro i q1 q2
      simp at q1 q2
      simp [List.getD, show sp.toNatClampNeg + i < vs.length by omega]
  rw [us] at B'
  have Bn := Ar.of_arv B' (by rw [cB]; simp; omega)
  obtain ⟨t, v, L', r1, r2⟩ := K h' Bn K' (C'.safe B.lt hs) C' T' L1 k0 hx hk hE X' e' hS (Nat.le_trans hk0 K'.1) F' hZ hN (hC.trans C') (ext_keep hO K' (allS hge all0)) hK hO0
  exact ⟨t, v, L', st' _ r1, r2⟩
theorem Go.ldcFloat {own : String} {index : Nat} {z : UInt32} (hown : Z.vm.findClass own = some m.cls) (w : (Jvm.Cond.constantFloat own index z).before a0 Z = true) (hd : decode c.code pc = .ok (.ldc index, 2)) (hp : pc + 2 = pc') (K : Go p l e R s m args below meth c Z a0 EL nw fk Q vm h k n pc' L (.float z :: st)) : Go p l e R s m args below meth c Z a0 EL nw fk Q vm h k n pc L st := fun T locs k0 hx hk hE X eT hS hk0 hF hZ hN hC hO hK hO0 => by
  subst hp
  have hown' : (s.setVm vm).vm.findClass own = some m.cls := by
    show vm.findClass own = _
    rw [hZ.alike.findClass]; exact hown
  obtain ⟨t, v, L', r1, r2⟩ := K T locs k0 hx hk hE X eT hS hk0 hF hZ hN hC hO hK hO0
  exact ⟨t, v, L', X.ldcFloatC hx hown' (mv (s := s.setVm vm) hZ w) (g := mkF m pc L st) rfl hd _ r1, r2⟩
theorem Go.lswHit {kk : Int32} {dflt a off : Int} {pairs : Array (Int × Int)} {len : Nat} (hd : decode c.code pc = .ok (.lookupswitch dflt pairs, len)) (hs : (pairs.toList.zip (pairs.toList.drop 1)).all (fun (a, next) => a.1 < next.1) = true) (hf : pairs.find? (·.1 == kk.toInt) = some (a, off)) (ho : 0 ≤ (pc : Int) + off) (hp : ((pc : Int) + off).toNat = pc') (K : Go p l e R s m args below meth c Z a0 EL nw fk Q vm h k n pc' L st) : Go p l e R s m args below meth c Z a0 EL nw fk Q vm h k n pc L (.int kk :: st) := by
  subst hp
  exact Go.plain (fun T _ hx X tgt r => X.lookupswitchHit hx (g := mkF m pc L (.int kk :: st)) rfl rfl hd hs hf ho tgt r) K
theorem Go.dload {q : Nat} {v : UInt64} (hd : decode c.code pc = .ok (.dload q, 2)) (hp : pc + 2 = pc') (hl : L[q]? = some (.val (.double v))) (K : Go p l e R s m args below meth c Z a0 EL nw fk Q vm h k n pc' L (.double v :: st)) : Go p l e R s m args below meth c Z a0 EL nw fk Q vm h k n pc L st := by
  subst hp
  exact Go.plain (fun T _ hx X _ r => XS.dload X.here hx rfl hd hl r) K
theorem Go.dloadN {q : Fin 4} {v : UInt64} (hd : decode c.code pc = .ok (.dload_n q, 1)) (hp : pc + 1 = pc') (hl : L[q.val]? = some (.val (.double v))) (K : Go p l e R s m args below meth c Z a0 EL nw fk Q vm h k n pc' L (.double v :: st)) : Go p l e R s m args below meth c Z a0 EL nw fk Q vm h k n pc L st := by
  subst hp
  exact Go.plain (fun T _ hx X _ r => XS.dloadN X.here hx rfl hd hl r) K
theorem Go.dstore {q : Nat} {z : UInt64} {L' : Array Slot} (hd : decode c.code pc = .ok (.dstore q, 2)) (hp : pc + 2 = pc') (hl : storeLocals L q (.double z) = some L') (K : Go p l e R s m args below meth c Z a0 EL nw fk Q vm h k n pc' L' st) : Go p l e R s m args below meth c Z a0 EL nw fk Q vm h k n pc L (.double z :: st) := by
  subst hp
  exact Go.plain (fun T _ hx X _ r => XS.dstore X.here hx rfl hd rfl hl r) K
theorem Go.dstoreN {q : Fin 4} {z : UInt64} {L' : Array Slot} (hd : decode c.code pc = .ok (.dstore_n q, 1)) (hp : pc + 1 = pc') (hl : storeLocals L q.val (.double z) = some L') (K : Go p l e R s m args below meth c Z a0 EL nw fk Q vm h k n pc' L' st) : Go p l e R s m args below meth c Z a0 EL nw fk Q vm h k n pc L (.double z :: st) := by
  subst hp
  exact Go.plain (fun T _ hx X _ r => XS.dstoreN X.here hx rfl hd rfl hl r) K
theorem Go.dconst0 (hd : decode c.code pc = .ok (.dconst 0, 1)) (hp : pc + 1 = pc') (K : Go p l e R s m args below meth c Z a0 EL nw fk Q vm h k n pc' L (.double FP.dconst0 :: st)) : Go p l e R s m args below meth c Z a0 EL nw fk Q vm h k n pc L st := by
  subst hp
  exact Go.plain (fun T _ hx X _ r => XS.dconst0 X.here hx rfl hd rfl r) K
theorem Go.dconst1 (hd : decode c.code pc = .ok (.dconst 1, 1)) (hp : pc + 1 = pc') (K : Go p l e R s m args below meth c Z a0 EL nw fk Q vm h k n pc' L (.double FP.dconst1 :: st)) : Go p l e R s m args below meth c Z a0 EL nw fk Q vm h k n pc L st := by
  subst hp
  exact Go.plain (fun T _ hx X _ r => XS.dconst1 X.here hx rfl hd rfl r) K
theorem Go.i2d {x : Int32} (hd : decode c.code pc = .ok (.i2d, 1)) (hp : pc + 1 = pc') (K : Go p l e R s m args below meth c Z a0 EL nw fk Q vm h k n pc' L (.double (FP.i2d x) :: st)) : Go p l e R s m args below meth c Z a0 EL nw fk Q vm h k n pc L (.int x :: st) := by
  subst hp
  exact Go.plain (fun T _ hx X _ r => XS.i2dS X.here hx rfl hd rfl rfl r) K
theorem Go.dcmp {o : CmpOp} {x y : UInt64} (hd : decode c.code pc = .ok (.dcmp o, 1)) (hp : pc + 1 = pc') (K : Go p l e R s m args below meth c Z a0 EL nw fk Q vm h k n pc' L (.int (cmpValue (FP.dcmp x y) o) :: st)) : Go p l e R s m args below meth c Z a0 EL nw fk Q vm h k n pc L (.double y :: .double x :: st) := by
  subst hp
  exact Go.plain (fun T _ hx X _ r => XS.dcmpS X.here hx rfl hd rfl rfl r) K
theorem Go.dadd {x y : UInt64} (hd : decode c.code pc = .ok (.dadd, 1)) (hp : pc + 1 = pc') (hn : Jvm.Free.Fl.NoNaN64 (FP.dadd x y)) (K : Go p l e R s m args below meth c Z a0 EL nw fk Q vm h k n pc' L (.double (FP.dadd x y) :: st)) : Go p l e R s m args below meth c Z a0 EL nw fk Q vm h k n pc L (.double y :: .double x :: st) := by
  subst hp
  exact Go.plain (fun T _ hx X _ r => XS.daddS X.here hx rfl hd rfl hn rfl r) K
theorem Go.dsub {x y : UInt64} (hd : decode c.code pc = .ok (.dsub, 1)) (hp : pc + 1 = pc') (hn : Jvm.Free.Fl.NoNaN64 (FP.dsub x y)) (K : Go p l e R s m args below meth c Z a0 EL nw fk Q vm h k n pc' L (.double (FP.dsub x y) :: st)) : Go p l e R s m args below meth c Z a0 EL nw fk Q vm h k n pc L (.double y :: .double x :: st) := by
  subst hp
  exact Go.plain (fun T _ hx X _ r => XS.dsubS X.here hx rfl hd rfl hn rfl r) K
theorem Go.ddiv {x y : UInt64} (hd : decode c.code pc = .ok (.ddiv, 1)) (hp : pc + 1 = pc') (hn : Jvm.Free.Fl.NoNaN64 (FP.ddiv x y)) (K : Go p l e R s m args below meth c Z a0 EL nw fk Q vm h k n pc' L (.double (FP.ddiv x y) :: st)) : Go p l e R s m args below meth c Z a0 EL nw fk Q vm h k n pc L (.double y :: .double x :: st) := by
  subst hp
  exact Go.plain (fun T _ hx X _ r => XS.ddivS X.here hx rfl hd rfl hn rfl r) K
theorem Go.ldc2D {own : String} {index : Nat} {z : UInt64} (hown : Z.vm.findClass own = some m.cls) (w : (Jvm.Cond.constantDouble own index z).before a0 Z = true) (hd : decode c.code pc = .ok (.ldc2_w index, 3)) (hp : pc + 3 = pc') (K : Go p l e R s m args below meth c Z a0 EL nw fk Q vm h k n pc' L (.double z :: st)) : Go p l e R s m args below meth c Z a0 EL nw fk Q vm h k n pc L st := fun T locs k0 hx hk hE X eT hS hk0 hF hZ hN hC hO hK hO0 => by
  subst hp
  have hown' : (s.setVm vm).vm.findClass own = some m.cls := by
    show vm.findClass own = _
    rw [hZ.alike.findClass]; exact hown
  obtain ⟨t, v, L', r1, r2⟩ := K T locs k0 hx hk hE X eT hS hk0 hF hZ hN hC hO hK hO0
  exact ⟨t, v, L', X.ldc2DoubleC hx hown' (mv (s := s.setVm vm) hZ w) (g := mkF m pc L st) rfl hd _ r1, r2⟩
theorem Go.retD {z : UInt64} (hret : meth.sig.returnType = some .double) (hd : decode c.code pc = .ok (.dreturn, 1)) (hk1 : k ≤ R.cells) (hn1 : n ≤ R.slots) (q : ∀ vm', CHr Z EL vm h vm' h → Q (some (.double z)) vm' h) : Go p l e R s m args below meth c Z a0 EL nw fk Q vm h k n pc L (.double z :: st) :=
  Go.retV hret rfl (Or.inr (Or.inr (Or.inl ⟨rfl, rfl, _, rfl⟩))) hd hk1 hn1 q
theorem Go.absD {own : String} {index W : Nat} {x : UInt64} (hown : Z.vm.findClass own = some m.cls) (w1 : (Jvm.Cond.methodLink own index Jvm.Free.Fl.Abs.absDN).before a0 Z = true) (w2 : (Jvm.Cond.static Jvm.Free.Fl.Abs.absDN).before a0 Z = true) (w3 : (Jvm.Cond.initialized "java/lang/Math").before a0 Z = true) (w4 : (Jvm.Cond.code Jvm.Free.Fl.Abs.absDN Jvm.Free.Fl.Abs.absDCode 2 (some .double)).before a0 Z = true) (hn : Jvm.Free.Fl.NoNaN64 x) (hL : L.size = c.maxLocals) (hd : decode c.code pc = .ok (.invokestatic index, 3)) (hf : 1 ≤ R.frames) (hW : (st.map fun v => v.category).sum = W) (hl : W + 13 ≤ R.locals) (hc : k ≤ R.cells) (hsl : n ≤ R.slots) (hp : pc + 3 = pc') (K : Go p l e R s m args below meth c Z a0 EL nw fk Q vm h k n pc' L (.double (x &&& 0x7fffffffffffffff) :: st)) : Go p l e R s m args below meth c Z a0 EL nw fk Q vm h k n pc L (.double x :: st) := fun T locs k0 hx hk hE X eT hS hk0 hF hZ hN hC hO hK hO0 => by
  subst hp
  have hown' : (s.setVm vm).vm.findClass own = some m.cls := by
    show vm.findClass own = _
    rw [hZ.alike.findClass]; exact hown
  obtain ⟨T', X', e', st'⟩ := RoadKit.natS X hx (s := s.setVm vm) hZ hown' w1 w2 w3 w4 (by decide) eT (W := W) (F := fun a' => a' = #[.double x] ∧ Jvm.Free.Fl.NoNaN64 x) (val := .double (x &&& 0x7fffffffffffffff)) (fun hcd => Jvm.Free.Fl.Abs.absD_pays x hcd hf hl) (g := mkF m pc L (.double x :: st)) rfl hL (argsL := [.double x]) (rest := st) (fun sig hsig => by rw [show parseMethodDescriptor Jvm.Free.Fl.Abs.absDN.desc = some ⟨[.double], some .double⟩ from by decide +kernel] at hsig; cases hsig; rfl) rfl (by show 2 * 0 + _ ≤ _; rw [Nat.mul_zero, Nat.zero_add]; exact Nat.le_of_eq hW) hd hc hsl ⟨rfl, hn⟩ rfl
  obtain ⟨t, v, L', r1, r2⟩ := K T' locs k0 hx hk hE X' e' hS hk0 hF hZ hN hC hO hK hO0
  exact ⟨t, v, L', st' _ r1, r2⟩
end Walk
end Jvm.Own
namespace Jvm.Own
open Sem ClassFile Op Lib Jvm.Free Jvm.Stand Jvm.LawKit Jvm.RoadKit Bundle
theorem nc255 (x : Int32) : nar .char (x &&& 255) = x &&& 255 := i2c_mask x
theorem and_toInt (x : Int32) (m : Nat) (hm : m < 2 ^ 31) : 0 ≤ (x &&& Int32.ofNat m).toInt ∧ (x &&& Int32.ofNat m).toInt ≤ m := by
  have e : (x &&& Int32.ofNat m).toInt = (x.toBitVec &&& BitVec.ofNat 32 m).toInt := rfl
  have h1 : (x.toBitVec &&& BitVec.ofNat 32 m).toNat ≤ m := by
    rw [BitVec.toNat_and]
    refine Nat.le_trans Nat.and_le_right ?_
    rw [BitVec.toNat_ofNat]; exact Nat.mod_le _ _
  rw [e, BitVec.toInt_eq_toNat_of_lt (by omega)]
  omega
theorem m255 (x : Int32) : 0 ≤ (x &&& 255).toInt ∧ (x &&& 255).toInt ≤ 255 := and_toInt x 255 (by decide)
theorem al0 {P : Int32 → Prop} : ∀ x ∈ ([] : List Int32), P x := fun _ h => nomatch h
theorem alS {P : Int32 → Prop} {y : Int32} {L : List Int32} (q : P y) (r : ∀ x ∈ L, P x) : ∀ x ∈ y :: L, P x := fun x hx => (List.mem_cons.mp hx).elim (fun e => e ▸ q) (r x)
/-- the byte that a char becomes -/
def by8 (c : Int32) : Int32 := c.toInt8.toInt32
theorem toInt_nat {n : Nat} (h : n < 2 ^ 31) : n.toInt32.toInt = n := Int32.toInt_ofNat_small h
theorem clamp_nat {n : Nat} (h : n < 2 ^ 31) : n.toInt32.toNatClampNeg = n := by
  rw [← Int32.toNat_toInt, toInt_nat h]; rfl
theorem lt32 {i n : Nat} (hi : i < 2 ^ 31) (hn : n < 2 ^ 31) : i.toInt32 < n.toInt32 ↔ i < n := by
  rw [Int32.lt_iff_toInt_lt, toInt_nat hi, toInt_nat hn]; omega
theorem nneg32 {n : Nat} (h : n < 2 ^ 31) : ¬ n.toInt32 < 0 := by
  rw [Int32.lt_iff_toInt_lt, toInt_nat h]
  have e0 : (0 : Int32).toInt = 0 := rfl
  omega
theorem succ32 (i : Nat) : i.toInt32 + 1 = (i + 1).toInt32 := (Int32.ofNat_add i 1).symm
theorem eq32 {i n : Nat} (hi : i < 2 ^ 31) (hn : n < 2 ^ 31) : i.toInt32 = n.toInt32 ↔ i = n := by
  constructor
  · intro q
    have := congrArg Int32.toInt q
    rw [toInt_nat hi, toInt_nat hn] at this; omega
  · rintro rfl; rfl
theorem nz32 {n : Nat} (h : n < 2 ^ 31) (h0 : 0 < n) : ¬ n.toInt32 = 0 := fun q => by
  have := (eq32 (n := 0) h (by decide)).mp q; omega
theorem nar_by8 (c : Int32) : nar .byte (c.toInt8.toInt32) = by8 c := by
  show (c.toInt8.toInt32).toInt8.toInt32 = _
  simp [by8]
theorem sub0 (x : Int32) : x - x = 0 := by simp
theorem cache_ix {z : Int32} (h1 : ¬ z < -128) (h2 : ¬ (127 : Int32) < z) : ¬ (z + 128) < 0 ∧ (z + 128).toNatClampNeg < 256 := by
  rw [Int32.lt_iff_toInt_lt] at h1 h2
  have e1 : (-128 : Int32).toInt = -128 := rfl
  have e2 : (127 : Int32).toInt = 127 := rfl
  have e3 : (128 : Int32).toInt = 128 := rfl
  have e0 : (0 : Int32).toInt = 0 := rfl
  have q : (z + 128).toInt = z.toInt + 128 := by
    rw [Int32.toInt_add, e3]
    exact Int.bmod_eq_of_le (by omega) (by omega)
  refine ⟨?_, ?_⟩
  · rw [Int32.lt_iff_toInt_lt, q]; omega
  · rw [← Int32.toNat_toInt, q]; omega
theorem cache_ixL {z : Int64} (h1 : ¬ XT.cmpL z (-128) < 0) (h2 : ¬ (0 : Int32) < XT.cmpL z 127) : ¬ (z.toInt32 + 128) < 0 ∧ (z.toInt32 + 128).toNatClampNeg < 256 := by
  have g1 : ¬ z < -128 := fun q => h1 (by
    have a : ¬ (-128 : Int64) < z := fun r => by rw [Int64.lt_iff_toInt_lt] at q r; omega
    have b : ¬ z = -128 := fun r => by rw [r] at q; exact absurd q (by decide)
    rw [XT.cmpL, if_neg a, if_neg b]; decide)
  have g2 : ¬ (127 : Int64) < z := fun q => h2 (by rw [XT.cmpL, if_pos q]; decide)
  rw [Int64.lt_iff_toInt_lt] at g1 g2
  have e1 : (-128 : Int64).toInt = -128 := rfl
  have e2 : (127 : Int64).toInt = 127 := rfl
  have e3 : z.toInt32.toInt = z.toInt := by
    rw [Int64.toInt_toInt32]; exact Int.bmod_eq_of_le (by omega) (by omega)
  refine cache_ix ?_ ?_
  · rw [Int32.lt_iff_toInt_lt, e3]
    have : (-128 : Int32).toInt = -128 := rfl
    omega
  · rw [Int32.lt_iff_toInt_lt, e3]
    have : (127 : Int32).toInt = 127 := rfl
    omega
theorem and_toInt64 (x : Int64) (m : Nat) (hm : m < 2 ^ 63) : 0 ≤ (x &&& Int64.ofNat m).toInt ∧ (x &&& Int64.ofNat m).toInt ≤ m := by
  have e : (x &&& Int64.ofNat m).toInt = (x.toBitVec &&& BitVec.ofNat 64 m).toInt := rfl
  have h1 : (x.toBitVec &&& BitVec.ofNat 64 m).toNat ≤ m := by
    rw [BitVec.toNat_and]
    refine Nat.le_trans Nat.and_le_right ?_
    rw [BitVec.toNat_ofNat]; exact Nat.mod_le _ _
  rw [e, BitVec.toInt_eq_toNat_of_lt (by omega)]
  omega
theorem l255 (x : Int64) : 0 ≤ (x &&& 255).toInt32.toInt ∧ (x &&& 255).toInt32.toInt ≤ 255 := by
  have h : 0 ≤ (x &&& 255).toInt ∧ (x &&& 255).toInt ≤ 255 := and_toInt64 x 255 (by decide)
  have e3 : (x &&& 255).toInt32.toInt = (x &&& 255).toInt := by
    rw [Int64.toInt_toInt32]; exact Int.bmod_eq_of_le (by omega) (by omega)
  rw [e3]; exact h
/-- true and false as ints -/
def bo (q : Prop) [Decidable q] : Int32 := if q then 1 else 0
theorem bo_yes {q : Prop} [Decidable q] (h : q) : bo q = 1 := if_pos h
theorem bo_no {q : Prop} [Decidable q] (h : ¬ q) : bo q = 0 := if_neg h
theorem bo_nar {q : Prop} [Decidable q] : nar .boolean (bo q) = bo q := by unfold bo; split <;> rfl
theorem bo_ne0 {q : Prop} [Decidable q] : (¬ bo q = 0) ↔ q := by unfold bo; split <;> simp_all
theorem bo_cases {q : Prop} [Decidable q] : q ∧ bo q = 1 ∨ ¬ q ∧ bo q = 0 := by by_cases h : q <;> simp [bo, h]
theorem bo_congr {p q : Prop} [Decidable p] [Decidable q] (h : p ↔ q) : bo p = bo q := by unfold bo; simp [h]
theorem toInt_eq {x : Int32} {n : Int} (h : x.toInt = n) : x = Int32.ofInt n := by rw [← h, Int32.ofInt_toInt]
theorem and3 (x : Int32) : x &&& 3 = 0 ∨ x &&& 3 = 1 ∨ x &&& 3 = 2 ∨ x &&& 3 = 3 := by
  have h := and_toInt x 3 (by decide)
  have e : (x &&& Int32.ofNat 3) = x &&& 3 := rfl
  rw [e] at h
  have : (x &&& 3).toInt = 0 ∨ (x &&& 3).toInt = 1 ∨ (x &&& 3).toInt = 2 ∨ (x &&& 3).toInt = 3 := by omega
  rcases this with q | q | q | q
  · exact Or.inl (toInt_eq q)
  · exact Or.inr (Or.inl (toInt_eq q))
  · exact Or.inr (Or.inr (Or.inl (toInt_eq q)))
  · exact Or.inr (Or.inr (Or.inr (toInt_eq q)))
theorem rem3 (x : Int32) : (x &&& 3) % 3 = 0 ∨ (x &&& 3) % 3 = 1 ∨ (x &&& 3) % 3 = 2 := by
  rcases and3 x with q | q | q | q <;> rw [q] <;> decide
theorem by8_toInt (c : Int32) : (by8 c).toInt = c.toInt.bmod 256 := by
  show (c.toInt8.toInt32).toInt = _
  rw [Int8.toInt_toInt32, Int32.toInt_toInt8]
theorem by8_inj {x y : Int32} (hx : 0 ≤ x.toInt ∧ x.toInt ≤ 255) (hy : 0 ≤ y.toInt ∧ y.toInt ≤ 255) (h : by8 x = by8 y) : x = y := by
  have q := congrArg Int32.toInt h
  rw [by8_toInt, by8_toInt] at q
  apply Int32.toInt_inj.mp
  have h1 : (x.toInt.bmod 256) % 256 = x.toInt % 256 := Int.bmod_emod
  have h2 : (y.toInt.bmod 256) % 256 = y.toInt % 256 := Int.bmod_emod
  rw [q] at h1
  omega
theorem nch {x : Int32} (h : 0 ≤ x.toInt ∧ x.toInt ≤ 255) : nar .char x = x := by
  have e : x &&& 255 = x := by
    apply Int32.toBitVec_inj.mp
    show x.toBitVec &&& 255#32 = x.toBitVec
    apply BitVec.eq_of_toNat_eq
    have hn : x.toBitVec.toNat ≤ 255 := by
      have h2 : x.toInt = x.toBitVec.toInt := rfl
      rw [h2, BitVec.toInt_eq_toNat_cond] at h
      have := x.toBitVec.isLt
      split at h <;> omega
    rw [BitVec.toNat_and]
    show x.toBitVec.toNat &&& (2 ^ 8 - 1) = _
    rw [Nat.and_two_pow_sub_one_eq_mod]; omega
  rw [← e]; exact nc255 x
theorem le255 {x : Int32} (h : 0 ≤ x.toInt ∧ x.toInt ≤ 255) : ¬ (255 : Int32) < x := by
  rw [Int32.lt_iff_toInt_lt]
  have : (255 : Int32).toInt = 255 := rfl
  omega
theorem chL (x : Int64) : 0 ≤ (nar .char (nar .char (x &&& 255).toInt32)).toInt ∧ (nar .char (nar .char (x &&& 255).toInt32)).toInt ≤ 255 := by
  rw [nch (l255 x), nch (l255 x)]; exact l255 x
theorem nar01 {x : Int32} (h : x = 0 ∨ x = 1) : nar .boolean x = x := by rcases h with rfl | rfl <;> rfl
theorem not0lt {n : Int32} : (¬ (0 : Int32) < n) ↔ n < 1 := by
  rw [Int32.lt_iff_toInt_lt, Int32.lt_iff_toInt_lt]
  have : (0 : Int32).toInt = 0 := rfl
  have : (1 : Int32).toInt = 1 := rfl
  omega
theorem not1lt {n : Int32} : (¬ (1 : Int32) < n) ↔ n < 2 := by
  rw [Int32.lt_iff_toInt_lt, Int32.lt_iff_toInt_lt]
  have : (2 : Int32).toInt = 2 := rfl
  have : (1 : Int32).toInt = 1 := rfl
  omega
theorem and3L (x : Int64) : x &&& 3 = 0 ∨ x &&& 3 = 1 ∨ x &&& 3 = 2 ∨ x &&& 3 = 3 := by
  have h : 0 ≤ (x &&& 3).toInt ∧ (x &&& 3).toInt ≤ 3 := and_toInt64 x 3 (by decide)
  have e : ∀ n : Int, (x &&& 3).toInt = n → x &&& 3 = Int64.ofInt n := fun n q => by rw [← q, Int64.ofInt_toInt]
  have : (x &&& 3).toInt = 0 ∨ (x &&& 3).toInt = 1 ∨ (x &&& 3).toInt = 2 ∨ (x &&& 3).toInt = 3 := by omega
  rcases this with q | q | q | q
  · exact Or.inl (e _ q)
  · exact Or.inr (Or.inl (e _ q))
  · exact Or.inr (Or.inr (Or.inl (e _ q)))
  · exact Or.inr (Or.inr (Or.inr (e _ q)))
theorem fill_set {α : Type} (xs : List α) (z : α) (i : Nat) (hi : i < xs.length) : (xs.take i ++ List.replicate (xs.length - i) z).set i xs[i] = xs.take (i + 1) ++ List.replicate (xs.length - (i + 1)) z := by
  have h1 : (xs.take i).length = i := by simp; omega
  have h2 : xs.length - i = (xs.length - (i + 1)) + 1 := by omega
  rw [List.set_append_right _ _ (by omega), h1, Nat.sub_self, h2, List.replicate_succ, List.set_cons_zero, List.take_succ_eq_append_getElem hi, List.append_assoc]; rfl
end Jvm.Own
namespace Jvm.Own
open Sem ClassFile Op Lib Jvm.Free Jvm.Stand Jvm.LawKit Jvm.RoadKit Bundle
theorem add32 (a b : Nat) : a.toInt32 + b.toInt32 = (a + b).toInt32 := (Int32.ofNat_add a b).symm
theorem sub32 {a b : Nat} (h : b ≤ a) : a.toInt32 - b.toInt32 = (a - b).toInt32 := by
  have q := add32 (a - b) b
  rw [Nat.sub_add_cancel h] at q
  rw [← q, Int32.add_sub_cancel]
theorem pos32 {n : Nat} (h : n < 2 ^ 31) (h0 : 0 < n) : (0 : Int32) < n.toInt32 := by
  rw [Int32.lt_iff_toInt_lt, toInt_nat h]
  have : (0 : Int32).toInt = 0 := rfl
  omega
theorem big32 {n : Nat} (h : n ≤ 2000) : ¬ (2147483639 : Int32) < n.toInt32 := by
  rw [Int32.lt_iff_toInt_lt, toInt_nat (by omega)]
  have : (2147483639 : Int32).toInt = 2147483639 := rfl
  omega
theorem nbig {n : Nat} (h : n ≤ 2000) : ¬ n.toInt32 = (2147483647 : Int32) := fun q => by
  have e := congrArg Int32.toInt q
  rw [toInt_nat (by omega)] at e
  have : (2147483647 : Int32).toInt = 2147483647 := rfl
  omega
theorem suble {a b : Nat} (h : a ≤ b) (hb : b < 2 ^ 31) : ¬ (0 : Int32) < a.toInt32 - b.toInt32 := by
  rw [Int32.lt_iff_toInt_lt, Int32.toInt_sub, toInt_nat (by omega), toInt_nat hb, Int.bmod_def]
  have : (0 : Int32).toInt = 0 := rfl
  omega
theorem shr0n (x : Int32) : x >>> (0 &&& 31) = x := by
  apply Int32.toInt_inj.mp
  have e : (x >>> (0 &&& 31)).toInt = (x.toBitVec.sshiftRight 0).toInt := rfl
  rw [e, BitVec.toInt_sshiftRight]
  show x.toInt >>> 0 = _
  rw [Int.shiftRight_zero]
theorem shl0n (x : Int32) : x <<< (0 &&& 31) = x := by
  apply Int32.toBitVec_inj.mp
  show x.toBitVec <<< (0 : Nat) = _
  simp
/-- a builder's array: what it holds, then zeros -/
def pad (bs : List Int32) (cap : Nat) : List Int32 := bs ++ List.replicate (cap - bs.length) 0
def Byt (bs : List Int32) : Prop := ∀ v ∈ bs.map Value.int, fits .byte v = true
def cap2 (cap len : Nat) : Nat := cap + max (len - cap) (cap + 2)
theorem pad_len {bs : List Int32} {cap : Nat} (h : bs.length ≤ cap) : ((pad bs cap).map Value.int).length = cap := by simp [pad]; omega
theorem Byt.nil : Byt [] := fun _ h => nomatch h
theorem Byt.app {a b : List Int32} (h1 : Byt a) (h2 : Byt b) : Byt (a ++ b) := fun v h => by
  rw [List.map_append] at h
  exact (List.mem_append.mp h).elim (h1 v) (h2 v)
theorem Byt.rep (n : Nat) : ∀ v ∈ List.replicate n (Value.int 0), fits .byte v = true := fun v h => by rw [(List.mem_replicate.mp h).2]; rfl
theorem Byt.pad {bs : List Int32} (cap : Nat) (h : Byt bs) : Byt (pad bs cap) := Byt.app h fun v q => Byt.rep _ v (by rw [List.map_replicate] at q; exact q)
theorem Byt.one (x : Int32) : Byt [by8 x] := fun v h => by
  rw [List.map_cons, List.map_nil] at h
  rw [List.mem_singleton.mp h]; exact fits_nar_byte x
theorem Byt.map8 : ∀ xs : List Int32, Byt (xs.map by8)
  | [] => Byt.nil
  | x :: xs => Byt.app (Byt.one x) (Byt.map8 xs)
theorem pad_grow {bs : List Int32} {cap c2 : Nat} (h : bs.length ≤ cap) (h2 : cap ≤ c2) : pad bs cap ++ List.replicate (c2 - cap) 0 = pad bs c2 := by
  unfold pad
  rw [List.append_assoc, List.replicate_append_replicate, show cap - bs.length + (c2 - cap) = c2 - bs.length by omega]
theorem pad_put {bs cs : List Int32} {cap : Nat} (h : bs.length + cs.length ≤ cap) : ((pad bs cap).map Value.int).take bs.length ++ ((cs.map Value.int).drop 0).take cs.length ++ ((pad bs cap).map Value.int).drop (bs.length + cs.length) = (pad (bs ++ cs) cap).map Value.int := by
  have h1 : (cs.map Value.int).take cs.length = cs.map Value.int := List.take_of_length_le (by simp)
  have h2 : ((pad bs cap).map Value.int).take bs.length = bs.map Value.int := by
    unfold pad
    rw [List.map_append, List.take_append_of_le_length (by simp), List.take_of_length_le (by simp)]
  have h3 : ((pad bs cap).map Value.int).drop (bs.length + cs.length) = List.replicate (cap - (bs ++ cs).length) (Value.int 0) := by
    unfold pad
    rw [List.map_append, List.drop_append, List.map_replicate, List.drop_replicate, List.drop_of_length_le (by simp)]
    simp; omega
  rw [List.drop_zero, h1, h2, h3]
  unfold pad
  rw [List.map_append, List.map_append, List.map_replicate]
theorem cp_new {vs : List Int32} {P cap : Nat} (h : vs.length = cap) : (List.replicate P (Value.int 0)).take 0 ++ ((vs.map Value.int).drop 0).take cap ++ (List.replicate P (Value.int 0)).drop (0 + cap) = (vs ++ List.replicate (P - cap) 0).map Value.int := by
  subst h
  rw [List.take_zero, List.drop_zero, List.take_of_length_le (by simp), List.nil_append, Nat.zero_add, List.drop_replicate, List.map_append, List.map_replicate]
theorem cp_range {bs : List Int32} {cap : Nat} (h : bs.length ≤ cap) : (List.replicate bs.length (Value.int 0)).take 0 ++ (((pad bs cap).map Value.int).drop 0).take bs.length ++ (List.replicate bs.length (Value.int 0)).drop (0 + bs.length) = bs.map Value.int := by
  have h2 : ((pad bs cap).map Value.int).take bs.length = bs.map Value.int := by
    unfold pad
    rw [List.map_append, List.take_append_of_le_length (by simp), List.take_of_length_le (by simp)]
  rw [List.take_zero, List.drop_zero, h2, List.nil_append, Nat.zero_add, List.drop_replicate, Nat.sub_self]
  simp
end Jvm.Own
namespace Jvm.Own
open Jvm.FP.Core
theorem rr_shift {f : Fmt} {s : Bool} {A B A' B' : Nat} {e e' : Int} (N : Int) (hB : 0 < B) (hB' : 0 < B') (h1 : 0 ≤ e + N) (h2 : 0 ≤ e' + N)
    (h : A * B' * 2 ^ (e + N).toNat = A' * B * 2 ^ (e' + N).toNat) : roundRatio f s A B e = roundRatio f s A' B' e' := by
  apply roundRatio_congr hB hB'
  by_cases q : e' ≤ e
  · have e1 : (e + N).toNat = (e - e').toNat + (e' + N).toNat := by omega
    have e2 : (e' - e).toNat = 0 := by omega
    rw [e1, Nat.pow_add, ← Nat.mul_assoc] at h
    rw [e2, Nat.pow_zero, Nat.mul_one]
    exact Nat.eq_of_mul_eq_mul_right (Nat.two_pow_pos _) h
  · have e1 : (e' + N).toNat = (e' - e).toNat + (e + N).toNat := by omega
    have e2 : (e - e').toNat = 0 := by omega
    rw [e1, Nat.pow_add, ← Nat.mul_assoc] at h
    rw [e2, Nat.pow_zero, Nat.mul_one]
    exact Nat.eq_of_mul_eq_mul_right (Nat.two_pow_pos _) h
/-- the double x is K / 2^E -/
def Dy (x : UInt64) (K E : Nat) : Prop := ∃ c q, val64 x = .fin false c q ∧ c * 2 ^ (q + 2000).toNat = K * 2 ^ (2000 - E)
theorem q_range {x : UInt64} {c : Nat} {q : Int} {s : Bool} (h : val64 x = .fin s c q) : -1074 ≤ q ∧ q ≤ 971 := by
  have f := val64_fits x
  rw [h] at f
  have e1 : b64.qmin = -1074 := by decide
  have e2 : b64.qmax = 971 := by decide
  have := f.2.1
  have := f.2.2.1
  omega
theorem Dy.val {x : UInt64} {K E : Nat} (hE : E ≤ 1000) (h : Dy x K E) : val64 x = roundRatio b64 false K 1 (-(E : Int)) := by
  obtain ⟨c, q, h1, h2⟩ := h
  have r := q_range h1
  have f := val64_fits x
  have g := round_of_fits good_b64 f
  rw [h1] at g ⊢
  rw [← g]
  show roundRatio b64 false c 1 q = _
  refine rr_shift 2000 (by decide) (by decide) (by omega) (by omega) ?_
  rw [Nat.mul_one, Nat.mul_one, h2, show (-(E : Int) + 2000).toNat = 2000 - E by omega]
theorem rr_ne {f : Fmt} {s : Bool} {A B : Nat} {e : Int} : roundRatio f s A B e ≠ .nan := by
  unfold roundRatio roundAt settle bound
  repeat' split
  all_goals (intro q; cases q)
theorem Dy.uniq {x y : UInt64} {K E : Nat} (hE : E ≤ 1000) (h : Dy x K E) (g : Dy y K E) : x = y := val64_inj (by rw [h.val hE]; exact rr_ne) (by rw [h.val hE, g.val hE])
theorem rep (K E : Nat) (hK : K < 2 ^ 53) (hE : E ≤ 1000) : ∃ c q, Jvm.FP.Core.fits b64 (.fin false c q) ∧ c * 2 ^ (q + 2000).toNat = K * 2 ^ (2000 - E) := by
  have e1 : b64.qmin = -1074 := by decide
  have e2 : b64.qmax = 971 := by decide
  by_cases h0 : K = 0
  · refine ⟨0, -1074, ⟨by decide, by rw [e1]; omega, by rw [e2]; omega, Or.inl e1.symm⟩, by rw [h0]; simp⟩
  · have hl : K.log2 ≤ 52 := by have := (Nat.log2_lt h0).mpr hK; omega
    have a1 : 2 ^ K.log2 ≤ K := Nat.log2_self_le h0
    have a2 : K < 2 ^ (K.log2 + 1) := Nat.lt_log2_self
    refine ⟨K * 2 ^ (52 - K.log2), -(E : Int) - (52 - K.log2 : Nat), ⟨?_, by rw [e1]; omega, by rw [e2]; omega, Or.inr ?_⟩, ?_⟩
    · show K * 2 ^ (52 - K.log2) < 2 ^ 53
      have : 2 ^ 53 = 2 ^ (K.log2 + 1) * 2 ^ (52 - K.log2) := by rw [← Nat.pow_add]; congr 1; omega
      rw [this]
      exact Nat.mul_lt_mul_of_pos_right a2 (Nat.two_pow_pos _)
    · show 2 ^ 52 ≤ K * 2 ^ (52 - K.log2)
      have : 2 ^ 52 = 2 ^ K.log2 * 2 ^ (52 - K.log2) := by rw [← Nat.pow_add]; congr 1; omega
      rw [this]
      exact Nat.mul_le_mul_right _ a1
    · rw [Nat.mul_assoc, ← Nat.pow_add]; congr 2; omega
theorem Dy.of {x : UInt64} {K E : Nat} (hK : K < 2 ^ 53) (hE : E ≤ 1000) (h : val64 x = roundRatio b64 false K 1 (-(E : Int))) : Dy x K E := by
  obtain ⟨c, q, f, g⟩ := rep K E hK hE
  have e1 : b64.qmin = -1074 := by decide
  have r := f.2.1
  refine ⟨c, q, ?_, g⟩
  rw [h]
  have := rr_shift (f := b64) (s := false) (A := K) (B := 1) (A' := c) (B' := 1) (e := -(E : Int)) (e' := q) 2000 (by decide) (by decide) (by omega) (by omega) (by rw [Nat.mul_one, Nat.mul_one, g, show (-(E : Int) + 2000).toNat = 2000 - E by omega])
  rw [this]
  exact round_of_fits good_b64 f
theorem i2d_dy {x : Int32} {n : Nat} (h : x.toInt = n) : Dy (Jvm.FP.i2d x) n 0 := by
  have b : n < 2 ^ 53 := by have := Int32.toInt_lt x; omega
  refine Dy.of b (by decide) ?_
  show val64 (i2d x) = _
  rw [val64_i2d, h]
  show roundRatio b64 (decide ((n : Int) < 0)) (n : Int).natAbs 1 0 = _
  rw [show decide ((n : Int) < 0) = false by simp, Int.natAbs_natCast]
  rfl
theorem div_dy {x y : UInt64} {k e : Nat} (hk : k < 2 ^ 53) (he : e ≤ 40) (hx : Dy x k 0) (hy : Dy y (2 ^ e) 0) : Dy (Jvm.FP.ddiv x y) k e := by
  refine Dy.of hk (by omega) ?_
  show val64 (ddiv x y) = _
  obtain ⟨c, q, h1, h2⟩ := hx
  obtain ⟨d, r, g1, g2⟩ := hy
  have r1 := q_range h1
  have r2 := q_range g1
  have hd : d ≠ 0 := by
    rintro rfl
    rw [Nat.zero_mul] at g2
    have := Nat.mul_pos (Nat.two_pow_pos e) (Nat.two_pow_pos (2000 - 0))
    omega
  rw [val64_ddiv, h1, g1]
  show (if d = 0 then _ else roundRatio b64 (false != false) c d (q - r)) = _
  rw [if_neg hd]
  show roundRatio b64 false c d (q - r) = _
  refine rr_shift 4000 (by omega) (by decide) (by omega) (by omega) ?_
  apply Nat.eq_of_mul_eq_mul_right (Nat.two_pow_pos (r + 2000).toNat)
  have w1 : c * 1 * 2 ^ (q - r + 4000).toNat * 2 ^ (r + 2000).toNat = c * 2 ^ (q + 2000).toNat * 2 ^ 4000 := by
    rw [Nat.mul_one, Nat.mul_assoc, Nat.mul_assoc, ← Nat.pow_add, ← Nat.pow_add]; congr 2; omega
  have w2 : k * d * 2 ^ (-(e : Int) + 4000).toNat * 2 ^ (r + 2000).toNat = k * (d * 2 ^ (r + 2000).toNat) * 2 ^ (4000 - e) := by
    rw [show (-(e : Int) + 4000).toNat = 4000 - e by omega]; simp only [Nat.mul_assoc, Nat.mul_comm, Nat.mul_left_comm]
  rw [w1, w2, h2, g2]
  have w3 : 2 ^ e * 2 ^ (2000 - 0) * 2 ^ (4000 - e) = 2 ^ (2000 - 0) * 2 ^ 4000 := by rw [← Nat.pow_add, ← Nat.pow_add, ← Nat.pow_add]; congr 1; omega
  rw [Nat.mul_assoc k, Nat.mul_assoc k, w3]
theorem one_dy : Dy Jvm.FP.dconst1 1 0 := by
  refine ⟨2 ^ 52, -52, val64_dconst1, ?_⟩
  rw [Nat.one_mul, ← Nat.pow_add]; congr 1
theorem sub_dy {y : UInt64} {k e : Nat} (hk : k ≤ 2 ^ e) (he : e ≤ 40) (hy : Dy y k e) : Dy (Jvm.FP.dsub Jvm.FP.dconst1 y) (2 ^ e - k) e := by
  have hb : 2 ^ e ≤ 2 ^ 40 := Nat.pow_le_pow_right (by decide) he
  refine Dy.of (by omega) (by omega) ?_
  show val64 (dsub dconst1 y) = _
  obtain ⟨c, q, h1, h2⟩ := hy
  have r1 := q_range h1
  rw [val64_dsub, val64_dconst1, h1]
  obtain ⟨m, hm⟩ : ∃ m, m = min (-52 : Int) q := ⟨_, rfl⟩
  obtain ⟨P, hP⟩ : ∃ P, P = 2 ^ 52 * 2 ^ (-52 - m).toNat := ⟨_, rfl⟩
  obtain ⟨Q, hQ⟩ : ∃ Q, Q = c * 2 ^ (q - m).toNat := ⟨_, rfl⟩
  have p1 : P * 2 ^ (m + 2000).toNat = 2 ^ e * 2 ^ (2000 - e) := by rw [hP, ← Nat.pow_add, ← Nat.pow_add, ← Nat.pow_add]; congr 1; omega
  have p2 : Q * 2 ^ (m + 2000).toNat = k * 2 ^ (2000 - e) := by rw [hQ, Nat.mul_assoc, ← Nat.pow_add, ← h2]; congr 2; omega
  have hle : Q ≤ P := by
    apply Nat.le_of_mul_le_mul_right _ (Nat.two_pow_pos (m + 2000).toNat)
    rw [p1, p2]; exact Nat.mul_le_mul_right _ hk
  have hv : sumUnits false (2 ^ 52) (-52) true c q m = ((P - Q : Nat) : Int) := by
    show ((2 ^ 52 * 2 ^ (-52 - m).toNat : Nat) : Int) + -((c * 2 ^ (q - m).toNat : Nat) : Int) = _
    rw [← hP, ← hQ]; omega
  show roundRatio b64 (sumSign false true (sumUnits false (2 ^ 52) (-52) true c q (min (-52) q))) (sumUnits false (2 ^ 52) (-52) true c q (min (-52) q)).natAbs 1 (min (-52) q) = _
  rw [← hm, hv]
  have hs : sumSign false true ((P - Q : Nat) : Int) = false := by
    unfold sumSign
    split
    · rfl
    · exact decide_eq_false (by omega)
  rw [hs, Int.natAbs_natCast]
  refine rr_shift 2000 (by decide) (by decide) (by omega) (by omega) ?_
  rw [Nat.mul_one, Nat.mul_one, Nat.sub_mul, p1, p2, show (-(e : Int) + 2000).toNat = 2000 - e by omega, Nat.sub_mul]
theorem add_dy {x y : UInt64} {k k' e : Nat} (hs : k + k' = 2 ^ e) (he : e ≤ 40) (hx : Dy x k e) (hy : Dy y k' e) : Jvm.FP.dadd x y = Jvm.FP.dconst1 := by
  refine Dy.uniq (K := 1) (E := 0) (by decide) (Dy.of (by decide) (by decide) ?_) one_dy
  show val64 (dadd x y) = _
  obtain ⟨c, q, h1, h2⟩ := hx
  obtain ⟨d, r, g1, g2⟩ := hy
  have r1 := q_range h1
  have r2 := q_range g1
  rw [val64_dadd, h1, g1]
  obtain ⟨m, hm⟩ : ∃ m, m = min q r := ⟨_, rfl⟩
  obtain ⟨P, hP⟩ : ∃ P, P = c * 2 ^ (q - m).toNat := ⟨_, rfl⟩
  obtain ⟨Q, hQ⟩ : ∃ Q, Q = d * 2 ^ (r - m).toNat := ⟨_, rfl⟩
  have p1 : P * 2 ^ (m + 2000).toNat = k * 2 ^ (2000 - e) := by rw [hP, Nat.mul_assoc, ← Nat.pow_add, ← h2]; congr 2; omega
  have p2 : Q * 2 ^ (m + 2000).toNat = k' * 2 ^ (2000 - e) := by rw [hQ, Nat.mul_assoc, ← Nat.pow_add, ← g2]; congr 2; omega
  have hv : sumUnits false c q false d r m = ((P + Q : Nat) : Int) := by
    show ((c * 2 ^ (q - m).toNat : Nat) : Int) + ((d * 2 ^ (r - m).toNat : Nat) : Int) = _
    rw [← hP, ← hQ]; omega
  show roundRatio b64 (sumSign false false (sumUnits false c q false d r (min q r))) (sumUnits false c q false d r (min q r)).natAbs 1 (min q r) = _
  rw [← hm, hv]
  have hg : sumSign false false ((P + Q : Nat) : Int) = false := by
    unfold sumSign
    split
    · rfl
    · exact decide_eq_false (by omega)
  rw [hg, Int.natAbs_natCast]
  refine rr_shift 2000 (by decide) (by decide) (by omega) (by decide) ?_
  rw [Nat.mul_one, Nat.mul_one, Nat.add_mul, p1, p2, ← Nat.add_mul, hs, Nat.one_mul, ← Nat.pow_add]
  congr 1; omega
theorem nn_dy {x : UInt64} {K E : Nat} (h : Dy x K E) : Jvm.Free.Fl.NoNaN64 x := by
  obtain ⟨c, q, h1, -⟩ := h
  refine Jvm.Free.Fl.noNaN64_no.mpr ?_
  show decide (val64 x = .nan) = false
  rw [h1]; rfl
theorem ge0_dy {x : UInt64} {K E : Nat} (h : Dy x K E) : ¬ Op.cmpValue (Jvm.FP.dcmp x Jvm.FP.dconst0) .l < 0 := by
  obtain ⟨c, q, h1, -⟩ := h
  have e : Jvm.FP.dcmp x Jvm.FP.dconst0 = order (val64 x) (val64 dconst0) := rfl
  rw [e, h1, val64_dconst0]
  show ¬ Op.cmpValue (some (compare ((inUnits c q (min q b64.qmin) : Nat) : Int) ((inUnits 0 b64.qmin (min q b64.qmin) : Nat) : Int))) .l < 0
  rw [show inUnits 0 b64.qmin (min q b64.qmin) = 0 from Nat.zero_mul _]
  generalize inUnits c q (min q b64.qmin) = n
  cases n with
  | zero => decide
  | succ n =>
    rw [show compare ((n + 1 : Nat) : Int) ((0 : Nat) : Int) = .gt from by simp only [compare, compareOfLessAndEq]; rw [if_neg (by omega), if_neg (by omega)]]
    decide
end Jvm.Own
namespace Jvm.Pilot.@@N@@
open Jvm Jvm.ClassFile Sem Op Lib Jvm.Free Jvm.Stand Jvm.LawKit Jvm.RoadKit Bundle Jvm.Own Jvm.Pilot.@@N@@.Jvm.D
def GH (Z : State) (a0 : Array Value) (EL : List (String × Nat)) : Prop := (∀ d ∈ tables_1, d.before a0 Z = true) ∧ EW Z a0 EL ∧ True
theorem rem_nat {d : Int32} {N : Nat} (x : Int32) (hd : d.toInt = N) (h0 : 0 < N) : ∃ r : Nat, r < N ∧ (x &&& 2147483647) % d = r.toInt32 := by
  have h : 0 ≤ (x &&& 2147483647).toInt ∧ (x &&& 2147483647).toInt ≤ 2147483647 := and_toInt x 2147483647 (by decide)
  have e : ((x &&& 2147483647) % d).toInt = (x &&& 2147483647).toInt % (N : Int) := by rw [Int32.toInt_mod, hd, Int.tmod_eq_emod_of_nonneg h.1]
  have b1 := Int.emod_nonneg (x &&& 2147483647).toInt (show (N : Int) ≠ 0 by omega)
  have b2 := Int.emod_lt_of_pos (x &&& 2147483647).toInt (show 0 < (N : Int) by omega)
  have b3 := Int32.toInt_lt d
  refine ⟨((x &&& 2147483647).toInt % (N : Int)).toNat, by omega, Int32.toInt_inj.mp ?_⟩
  rw [e, toInt_nat (by omega)]; omega
theorem shl_pow {e : Nat} (h : e < 31) : (1 : Int32) <<< (e.toInt32 &&& 31) = (2 ^ e).toInt32 := (by decide +kernel : ∀ e, e < 31 → (1 : Int32) <<< (e.toInt32 &&& 31) = (2 ^ e).toInt32) e h
theorem pow_le30 {e : Nat} (h : e < 31) : 2 ^ e ≤ 1073741824 := Nat.le_trans (Nat.pow_le_pow_right (by decide) (show e ≤ 30 by omega)) (by decide)
theorem wd_0 {Z : State} {a0 : Array Value} {EL : List (String × Nat)} (g : GH Z a0 EL) : (Jvm.Cond.constant "com/example/other_words/otherwords/search/WeightsLambdaPinLaw" (7 : Nat) (2147483647 : Int32)).before a0 Z = true := g.1 _ (List.mem_of_getElem? (i := 0) rfl)
theorem wd_1 {Z : State} {a0 : Array Value} {EL : List (String × Nat)} (g : GH Z a0 EL) : (Jvm.Cond.methodLink "com/example/other_words/otherwords/search/WeightsLambdaPinLaw" (8 : Nat) ({ cls := "com/example/other_words/otherwords/search/FusedModel$Weights", name := "lambda", desc := "(D)Lcom/example/other_words/otherwords/search/FusedModel$Weights;" } : Jvm.MethodName)).before a0 Z = true := g.1 _ (List.mem_of_getElem? (i := 1) rfl)
theorem wd_2 {Z : State} {a0 : Array Value} {EL : List (String × Nat)} (g : GH Z a0 EL) : (Jvm.Cond.static ({ cls := "com/example/other_words/otherwords/search/FusedModel$Weights", name := "lambda", desc := "(D)Lcom/example/other_words/otherwords/search/FusedModel$Weights;" } : Jvm.MethodName)).before a0 Z = true := g.1 _ (List.mem_of_getElem? (i := 2) rfl)
theorem wd_3 {Z : State} {a0 : Array Value} {EL : List (String × Nat)} (g : GH Z a0 EL) : (Jvm.Cond.initialized "com/example/other_words/otherwords/search/FusedModel$Weights").before a0 Z = true := g.1 _ (List.mem_of_getElem? (i := 3) rfl)
theorem wd_4 {Z : State} {a0 : Array Value} {EL : List (String × Nat)} (g : GH Z a0 EL) : (Jvm.Cond.code ({ cls := "com/example/other_words/otherwords/search/FusedModel$Weights", name := "lambda", desc := "(D)Lcom/example/other_words/otherwords/search/FusedModel$Weights;" } : Jvm.MethodName) prog_44_method_3_code (2 : Nat) (Option.some (Jvm.ClassFile.FieldType.object "com/example/other_words/otherwords/search/FusedModel$Weights"))).before a0 Z = true := g.1 _ (List.mem_of_getElem? (i := 4) rfl)
theorem wd_5 {Z : State} {a0 : Array Value} {EL : List (String × Nat)} (g : GH Z a0 EL) : (Jvm.Cond.classLink "com/example/other_words/otherwords/search/FusedModel$Weights" (23 : Nat) "com/example/other_words/otherwords/search/FusedModel$Weights").before a0 Z = true := g.1 _ (List.mem_of_getElem? (i := 5) rfl)
theorem wd_6 {Z : State} {a0 : Array Value} {EL : List (String × Nat)} (g : GH Z a0 EL) : (Jvm.Cond.instantiable "com/example/other_words/otherwords/search/FusedModel$Weights" (2 : Nat)).before a0 Z = true := g.1 _ (List.mem_of_getElem? (i := 6) rfl)
theorem wd_7 {Z : State} {a0 : Array Value} {EL : List (String × Nat)} (g : GH Z a0 EL) : (Jvm.Cond.methodLink "com/example/other_words/otherwords/search/FusedModel$Weights" (31 : Nat) ({ cls := "com/example/other_words/otherwords/search/FusedModel$Weights", name := "<init>", desc := "(DD)V" } : Jvm.MethodName)).before a0 Z = true := g.1 _ (List.mem_of_getElem? (i := 7) rfl)
theorem wd_8 {Z : State} {a0 : Array Value} {EL : List (String × Nat)} (g : GH Z a0 EL) : (Jvm.Cond.instanceMethod ({ cls := "com/example/other_words/otherwords/search/FusedModel$Weights", name := "<init>", desc := "(DD)V" } : Jvm.MethodName)).before a0 Z = true := g.1 _ (List.mem_of_getElem? (i := 8) rfl)
theorem wd_9 {Z : State} {a0 : Array Value} {EL : List (String × Nat)} (g : GH Z a0 EL) : (Jvm.Cond.code ({ cls := "com/example/other_words/otherwords/search/FusedModel$Weights", name := "<init>", desc := "(DD)V" } : Jvm.MethodName) prog_44_method_1_code (5 : Nat) (Option.none : Option Jvm.ClassFile.FieldType)).before a0 Z = true := g.1 _ (List.mem_of_getElem? (i := 9) rfl)
theorem wd_10 {Z : State} {a0 : Array Value} {EL : List (String × Nat)} (g : GH Z a0 EL) : (Jvm.Cond.methodLink "com/example/other_words/otherwords/search/FusedModel$Weights" (1 : Nat) ({ cls := "java/lang/Record", name := "<init>", desc := "()V" } : Jvm.MethodName)).before a0 Z = true := g.1 _ (List.mem_of_getElem? (i := 10) rfl)
theorem wd_11 {Z : State} {a0 : Array Value} {EL : List (String × Nat)} (g : GH Z a0 EL) : (Jvm.Cond.instanceMethod ({ cls := "java/lang/Record", name := "<init>", desc := "()V" } : Jvm.MethodName)).before a0 Z = true := g.1 _ (List.mem_of_getElem? (i := 11) rfl)
theorem wd_13 {Z : State} {a0 : Array Value} {EL : List (String × Nat)} (g : GH Z a0 EL) : (Jvm.Cond.initialized "java/lang/Record").before a0 Z = true := g.1 _ (List.mem_of_getElem? (i := 13) rfl)
theorem wd_14 {Z : State} {a0 : Array Value} {EL : List (String × Nat)} (g : GH Z a0 EL) : (Jvm.Cond.code ({ cls := "java/lang/Record", name := "<init>", desc := "()V" } : Jvm.MethodName) jdk_30_method_1_code (1 : Nat) (Option.none : Option Jvm.ClassFile.FieldType)).before a0 Z = true := g.1 _ (List.mem_of_getElem? (i := 14) rfl)
theorem wd_15 {Z : State} {a0 : Array Value} {EL : List (String × Nat)} (g : GH Z a0 EL) : (Jvm.Cond.methodLink "java/lang/Record" (1 : Nat) ({ cls := "java/lang/Object", name := "<init>", desc := "()V" } : Jvm.MethodName)).before a0 Z = true := g.1 _ (List.mem_of_getElem? (i := 15) rfl)
theorem wd_16 {Z : State} {a0 : Array Value} {EL : List (String × Nat)} (g : GH Z a0 EL) : (Jvm.Cond.instanceMethod ({ cls := "java/lang/Object", name := "<init>", desc := "()V" } : Jvm.MethodName)).before a0 Z = true := g.1 _ (List.mem_of_getElem? (i := 16) rfl)
theorem wd_17 {Z : State} {a0 : Array Value} {EL : List (String × Nat)} (g : GH Z a0 EL) : (Jvm.Cond.code ({ cls := "java/lang/Object", name := "<init>", desc := "()V" } : Jvm.MethodName) object_method_1_code (1 : Nat) (Option.none : Option Jvm.ClassFile.FieldType)).before a0 Z = true := g.1 _ (List.mem_of_getElem? (i := 17) rfl)
theorem wd_18 {Z : State} {a0 : Array Value} {EL : List (String × Nat)} (g : GH Z a0 EL) : (Jvm.Cond.methodLink "com/example/other_words/otherwords/search/FusedModel$Weights" (7 : Nat) ({ cls := "java/lang/Double", name := "isFinite", desc := "(D)Z" } : Jvm.MethodName)).before a0 Z = true := g.1 _ (List.mem_of_getElem? (i := 18) rfl)
theorem wd_19 {Z : State} {a0 : Array Value} {EL : List (String × Nat)} (g : GH Z a0 EL) : (Jvm.Cond.static ({ cls := "java/lang/Double", name := "isFinite", desc := "(D)Z" } : Jvm.MethodName)).before a0 Z = true := g.1 _ (List.mem_of_getElem? (i := 19) rfl)
theorem wd_20 {Z : State} {a0 : Array Value} {EL : List (String × Nat)} (g : GH Z a0 EL) : (Jvm.Cond.initialized "java/lang/Double").before a0 Z = true := g.1 _ (List.mem_of_getElem? (i := 20) rfl)
theorem wd_21 {Z : State} {a0 : Array Value} {EL : List (String × Nat)} (g : GH Z a0 EL) : (Jvm.Cond.code ({ cls := "java/lang/Double", name := "isFinite", desc := "(D)Z" } : Jvm.MethodName) jdk_117_method_8_code (2 : Nat) (Option.some Jvm.ClassFile.FieldType.boolean)).before a0 Z = true := g.1 _ (List.mem_of_getElem? (i := 21) rfl)
theorem wd_22 {Z : State} {a0 : Array Value} {EL : List (String × Nat)} (g : GH Z a0 EL) : (Jvm.Cond.methodLink "java/lang/Double" (38 : Nat) ({ cls := "java/lang/Math", name := "abs", desc := "(D)D" } : Jvm.MethodName)).before a0 Z = true := g.1 _ (List.mem_of_getElem? (i := 22) rfl)
theorem wd_23 {Z : State} {a0 : Array Value} {EL : List (String × Nat)} (g : GH Z a0 EL) : (Jvm.Cond.static ({ cls := "java/lang/Math", name := "abs", desc := "(D)D" } : Jvm.MethodName)).before a0 Z = true := g.1 _ (List.mem_of_getElem? (i := 23) rfl)
theorem wd_24 {Z : State} {a0 : Array Value} {EL : List (String × Nat)} (g : GH Z a0 EL) : (Jvm.Cond.initialized "java/lang/Math").before a0 Z = true := g.1 _ (List.mem_of_getElem? (i := 24) rfl)
theorem wd_25 {Z : State} {a0 : Array Value} {EL : List (String × Nat)} (g : GH Z a0 EL) : (Jvm.Cond.code ({ cls := "java/lang/Math", name := "abs", desc := "(D)D" } : Jvm.MethodName) jdk_29_method_64_code (2 : Nat) (Option.some Jvm.ClassFile.FieldType.double)).before a0 Z = true := g.1 _ (List.mem_of_getElem? (i := 25) rfl)
theorem wd_26 {Z : State} {a0 : Array Value} {EL : List (String × Nat)} (g : GH Z a0 EL) : (Jvm.Cond.constantDouble "java/lang/Double" (111 : Nat) (9218868437227405311 : UInt64)).before a0 Z = true := g.1 _ (List.mem_of_getElem? (i := 26) rfl)
theorem wd_27 {Z : State} {a0 : Array Value} {EL : List (String × Nat)} (g : GH Z a0 EL) : (Jvm.Cond.fieldLink "com/example/other_words/otherwords/search/FusedModel$Weights" (22 : Nat) "com/example/other_words/otherwords/search/FusedModel$Weights" "words" "D").before a0 Z = true := g.1 _ (List.mem_of_getElem? (i := 27) rfl)
theorem wd_28 {Z : State} {a0 : Array Value} {EL : List (String × Nat)} (g : GH Z a0 EL) : (Jvm.Cond.laysFinal "com/example/other_words/otherwords/search/FusedModel$Weights" "com/example/other_words/otherwords/search/FusedModel$Weights" "words" "D").before a0 Z = true := g.1 _ (List.mem_of_getElem? (i := 28) rfl)
theorem wd_29 {Z : State} {a0 : Array Value} {EL : List (String × Nat)} (g : GH Z a0 EL) : (Jvm.Cond.fieldLink "com/example/other_words/otherwords/search/FusedModel$Weights" (28 : Nat) "com/example/other_words/otherwords/search/FusedModel$Weights" "concepts" "D").before a0 Z = true := g.1 _ (List.mem_of_getElem? (i := 29) rfl)
theorem wd_30 {Z : State} {a0 : Array Value} {EL : List (String × Nat)} (g : GH Z a0 EL) : (Jvm.Cond.laysFinal "com/example/other_words/otherwords/search/FusedModel$Weights" "com/example/other_words/otherwords/search/FusedModel$Weights" "concepts" "D").before a0 Z = true := g.1 _ (List.mem_of_getElem? (i := 30) rfl)
theorem wd_31 {Z : State} {a0 : Array Value} {EL : List (String × Nat)} (g : GH Z a0 EL) : (Jvm.Cond.methodLink "com/example/other_words/otherwords/search/WeightsLambdaPinLaw" (14 : Nat) ({ cls := "com/example/other_words/otherwords/search/FusedModel$Weights", name := "words", desc := "()D" } : Jvm.MethodName)).before a0 Z = true := g.1 _ (List.mem_of_getElem? (i := 31) rfl)
theorem wd_32 {Z : State} {a0 : Array Value} {EL : List (String × Nat)} (g : GH Z a0 EL) : (Jvm.Cond.declares ({ cls := "com/example/other_words/otherwords/search/FusedModel$Weights", name := "words", desc := "()D" } : Jvm.MethodName)).before a0 Z = true := g.1 _ (List.mem_of_getElem? (i := 32) rfl)
theorem wd_33 {Z : State} {a0 : Array Value} {EL : List (String × Nat)} (g : GH Z a0 EL) : (Jvm.Cond.instanceMethod ({ cls := "com/example/other_words/otherwords/search/FusedModel$Weights", name := "words", desc := "()D" } : Jvm.MethodName)).before a0 Z = true := g.1 _ (List.mem_of_getElem? (i := 33) rfl)
theorem wd_34 {Z : State} {a0 : Array Value} {EL : List (String × Nat)} (g : GH Z a0 EL) : (Jvm.Cond.selects "com/example/other_words/otherwords/search/FusedModel$Weights" ({ cls := "com/example/other_words/otherwords/search/FusedModel$Weights", name := "words", desc := "()D" } : Jvm.MethodName) ({ cls := "com/example/other_words/otherwords/search/FusedModel$Weights", name := "words", desc := "()D" } : Jvm.MethodName)).before a0 Z = true := g.1 _ (List.mem_of_getElem? (i := 34) rfl)
theorem wd_35 {Z : State} {a0 : Array Value} {EL : List (String × Nat)} (g : GH Z a0 EL) : (Jvm.Cond.code ({ cls := "com/example/other_words/otherwords/search/FusedModel$Weights", name := "words", desc := "()D" } : Jvm.MethodName) prog_44_method_7_code (1 : Nat) (Option.some Jvm.ClassFile.FieldType.double)).before a0 Z = true := g.1 _ (List.mem_of_getElem? (i := 35) rfl)
theorem wd_36 {Z : State} {a0 : Array Value} {EL : List (String × Nat)} (g : GH Z a0 EL) : (Jvm.Cond.methodLink "com/example/other_words/otherwords/search/WeightsLambdaPinLaw" (18 : Nat) ({ cls := "com/example/other_words/otherwords/search/FusedModel$Weights", name := "concepts", desc := "()D" } : Jvm.MethodName)).before a0 Z = true := g.1 _ (List.mem_of_getElem? (i := 36) rfl)
theorem wd_37 {Z : State} {a0 : Array Value} {EL : List (String × Nat)} (g : GH Z a0 EL) : (Jvm.Cond.declares ({ cls := "com/example/other_words/otherwords/search/FusedModel$Weights", name := "concepts", desc := "()D" } : Jvm.MethodName)).before a0 Z = true := g.1 _ (List.mem_of_getElem? (i := 37) rfl)
theorem wd_38 {Z : State} {a0 : Array Value} {EL : List (String × Nat)} (g : GH Z a0 EL) : (Jvm.Cond.instanceMethod ({ cls := "com/example/other_words/otherwords/search/FusedModel$Weights", name := "concepts", desc := "()D" } : Jvm.MethodName)).before a0 Z = true := g.1 _ (List.mem_of_getElem? (i := 38) rfl)
theorem wd_39 {Z : State} {a0 : Array Value} {EL : List (String × Nat)} (g : GH Z a0 EL) : (Jvm.Cond.selects "com/example/other_words/otherwords/search/FusedModel$Weights" ({ cls := "com/example/other_words/otherwords/search/FusedModel$Weights", name := "concepts", desc := "()D" } : Jvm.MethodName) ({ cls := "com/example/other_words/otherwords/search/FusedModel$Weights", name := "concepts", desc := "()D" } : Jvm.MethodName)).before a0 Z = true := g.1 _ (List.mem_of_getElem? (i := 39) rfl)
theorem wd_40 {Z : State} {a0 : Array Value} {EL : List (String × Nat)} (g : GH Z a0 EL) : (Jvm.Cond.code ({ cls := "com/example/other_words/otherwords/search/FusedModel$Weights", name := "concepts", desc := "()D" } : Jvm.MethodName) prog_44_method_8_code (1 : Nat) (Option.some Jvm.ClassFile.FieldType.double)).before a0 Z = true := g.1 _ (List.mem_of_getElem? (i := 40) rfl)
theorem D_prog_44_method_1_code_0 : decode prog_44_method_1_code 0 = .ok (.aload_n 0, 1) := by decide +kernel
theorem D_prog_44_method_1_code_1 : decode prog_44_method_1_code 1 = .ok (.invokespecial 1, 3) := by decide +kernel
theorem D_prog_44_method_1_code_10 : decode prog_44_method_1_code 10 = .ok (.dload_n 3, 1) := by decide +kernel
theorem D_prog_44_method_1_code_11 : decode prog_44_method_1_code 11 = .ok (.dconst 0, 1) := by decide +kernel
theorem D_prog_44_method_1_code_12 : decode prog_44_method_1_code 12 = .ok (.dcmp .l, 1) := by decide +kernel
theorem D_prog_44_method_1_code_13 : decode prog_44_method_1_code 13 = .ok (.ifCond .lt 12, 3) := by decide +kernel
theorem D_prog_44_method_1_code_16 : decode prog_44_method_1_code 16 = .ok (.dload_n 1, 1) := by decide +kernel
theorem D_prog_44_method_1_code_17 : decode prog_44_method_1_code 17 = .ok (.dload_n 3, 1) := by decide +kernel
theorem D_prog_44_method_1_code_18 : decode prog_44_method_1_code 18 = .ok (.dadd, 1) := by decide +kernel
theorem D_prog_44_method_1_code_19 : decode prog_44_method_1_code 19 = .ok (.invokestatic 7, 3) := by decide +kernel
theorem D_prog_44_method_1_code_22 : decode prog_44_method_1_code 22 = .ok (.ifCond .ne 18, 3) := by decide +kernel
theorem D_prog_44_method_1_code_4 : decode prog_44_method_1_code 4 = .ok (.dload_n 1, 1) := by decide +kernel
theorem D_prog_44_method_1_code_40 : decode prog_44_method_1_code 40 = .ok (.aload_n 0, 1) := by decide +kernel
theorem D_prog_44_method_1_code_41 : decode prog_44_method_1_code 41 = .ok (.dload_n 1, 1) := by decide +kernel
theorem D_prog_44_method_1_code_42 : decode prog_44_method_1_code 42 = .ok (.putfield 22, 3) := by decide +kernel
theorem D_prog_44_method_1_code_45 : decode prog_44_method_1_code 45 = .ok (.aload_n 0, 1) := by decide +kernel
theorem D_prog_44_method_1_code_46 : decode prog_44_method_1_code 46 = .ok (.dload_n 3, 1) := by decide +kernel
theorem D_prog_44_method_1_code_47 : decode prog_44_method_1_code 47 = .ok (.putfield 28, 3) := by decide +kernel
theorem D_prog_44_method_1_code_5 : decode prog_44_method_1_code 5 = .ok (.dconst 0, 1) := by decide +kernel
theorem D_prog_44_method_1_code_50 : decode prog_44_method_1_code 50 = .ok (.return_, 1) := by decide +kernel
theorem D_prog_44_method_1_code_6 : decode prog_44_method_1_code 6 = .ok (.dcmp .l, 1) := by decide +kernel
theorem D_prog_44_method_1_code_7 : decode prog_44_method_1_code 7 = .ok (.ifCond .lt 18, 3) := by decide +kernel
theorem D_prog_44_method_8_code_0 : decode prog_44_method_8_code 0 = .ok (.aload_n 0, 1) := by decide +kernel
theorem D_prog_44_method_8_code_1 : decode prog_44_method_8_code 1 = .ok (.getfield 28, 3) := by decide +kernel
theorem D_prog_44_method_8_code_4 : decode prog_44_method_8_code 4 = .ok (.dreturn, 1) := by decide +kernel
theorem D_prog_44_method_3_code_0 : decode prog_44_method_3_code 0 = .ok (.new 23, 3) := by decide +kernel
theorem D_prog_44_method_3_code_11 : decode prog_44_method_3_code 11 = .ok (.areturn, 1) := by decide +kernel
theorem D_prog_44_method_3_code_3 : decode prog_44_method_3_code 3 = .ok (.dup, 1) := by decide +kernel
theorem D_prog_44_method_3_code_4 : decode prog_44_method_3_code 4 = .ok (.dload_n 0, 1) := by decide +kernel
theorem D_prog_44_method_3_code_5 : decode prog_44_method_3_code 5 = .ok (.dconst 1, 1) := by decide +kernel
theorem D_prog_44_method_3_code_6 : decode prog_44_method_3_code 6 = .ok (.dload_n 0, 1) := by decide +kernel
theorem D_prog_44_method_3_code_7 : decode prog_44_method_3_code 7 = .ok (.dsub, 1) := by decide +kernel
theorem D_prog_44_method_3_code_8 : decode prog_44_method_3_code 8 = .ok (.invokespecial 31, 3) := by decide +kernel
theorem D_prog_44_method_7_code_0 : decode prog_44_method_7_code 0 = .ok (.aload_n 0, 1) := by decide +kernel
theorem D_prog_44_method_7_code_1 : decode prog_44_method_7_code 1 = .ok (.getfield 22, 3) := by decide +kernel
theorem D_prog_44_method_7_code_4 : decode prog_44_method_7_code 4 = .ok (.dreturn, 1) := by decide +kernel
theorem D_jdk_117_method_8_code_0 : decode jdk_117_method_8_code 0 = .ok (.dload_n 0, 1) := by decide +kernel
theorem D_jdk_117_method_8_code_1 : decode jdk_117_method_8_code 1 = .ok (.invokestatic 38, 3) := by decide +kernel
theorem D_jdk_117_method_8_code_11 : decode jdk_117_method_8_code 11 = .ok (.iconst 1, 1) := by decide +kernel
theorem D_jdk_117_method_8_code_12 : decode jdk_117_method_8_code 12 = .ok (.goto 4, 3) := by decide +kernel
theorem D_jdk_117_method_8_code_16 : decode jdk_117_method_8_code 16 = .ok (.ireturn, 1) := by decide +kernel
theorem D_jdk_117_method_8_code_4 : decode jdk_117_method_8_code 4 = .ok (.ldc2_w 111, 3) := by decide +kernel
theorem D_jdk_117_method_8_code_7 : decode jdk_117_method_8_code 7 = .ok (.dcmp .g, 1) := by decide +kernel
theorem D_jdk_117_method_8_code_8 : decode jdk_117_method_8_code 8 = .ok (.ifCond .gt 7, 3) := by decide +kernel
theorem D_jdk_30_method_1_code_0 : decode jdk_30_method_1_code 0 = .ok (.aload_n 0, 1) := by decide +kernel
theorem D_jdk_30_method_1_code_1 : decode jdk_30_method_1_code 1 = .ok (.invokespecial 1, 3) := by decide +kernel
theorem D_jdk_30_method_1_code_4 : decode jdk_30_method_1_code 4 = .ok (.return_, 1) := by decide +kernel
theorem pd_0 : parseMethodDescriptor "()V" = some ⟨[], none⟩ := by decide +kernel
theorem pd_1 : parseMethodDescriptor "(D)Z" = some ⟨[.double], some .boolean⟩ := by decide +kernel
theorem pd_2 : parseMethodDescriptor "(DD)V" = some ⟨[.double, .double], none⟩ := by decide +kernel
theorem pd_3 : parseMethodDescriptor "(D)Lcom/example/other_words/otherwords/search/FusedModel$Weights;" = some ⟨[.double], some (.object "com/example/other_words/otherwords/search/FusedModel$Weights")⟩ := by decide +kernel
theorem pd_4 : parseMethodDescriptor "()D" = some ⟨[], some .double⟩ := by decide +kernel
theorem pn_0 : plainName "java/lang/Record" = true := by first | (simp [plainName, overriddenIn]; done) | decide +kernel
theorem pn_1 : plainName "java/lang/Double" = true := by first | (simp [plainName, overriddenIn]; done) | decide +kernel
theorem pn_2 : plainName "com/example/other_words/otherwords/search/FusedModel$Weights" = true := by first | (simp [plainName, overriddenIn]; done) | decide +kernel
theorem pn_3 : plainName "com/example/other_words/otherwords/search/WeightsLambdaPinLaw" = true := by first | (simp [plainName, overriddenIn]; done) | decide +kernel
set_option maxRecDepth 65536 in
set_option maxHeartbeats 40000000 in
theorem c_record {l : Launch} {Z : State} {a0 : Array Value} {EL : List (String × Nat)} {nw fk : Prop} (g : GH Z a0 EL) (h : Heap) (a : Addr) (zz : Z.heap.size ≤ h.size) :
    Ct l Z EL nw fk [] ⟨"java/lang/Record", "<init>", "()V"⟩ jdk_30_method_1_code 1 none ({ frames := 1, cells := 0, slots := 0, locals := 12 } : Room) #[(.ref a)] h [] (fun res vm' h' => res = none ∧ Keep h h' []) := by
  refine Ct.of_go (a0 := a0) g.2.1 (plainFor_of_name pn_0) (L0 := #[.val (.ref a)]) (fun m => by first | (simp [entryFrame, mkF, argsToLocals, Value.category, own_rep]; done) | rfl) ?_
  intro p e s m below meth c hown hby hml hret hnm hZ hC hO hsf
  refine Go.aloadN (hb hby D_jdk_30_method_1_code_0) (pc' := 1) rfl rfl rfl ?_
  refine Go.initO hown (wd_15 g) (wd_16 g) (wd_17 g) (by rw [hml]; rfl) (hb hby D_jdk_30_method_1_code_1) (by decide) (W := 0) rfl (by decide) (pc' := 4) rfl ?_
  refine Go.ret hret (hb hby D_jdk_30_method_1_code_4) (by decide) (by decide) ?_
  intro vmR CR
  exact ⟨rfl, (Keep.refl h [])⟩
set_option maxRecDepth 65536 in
set_option maxHeartbeats 40000000 in
theorem c_finite {l : Launch} {Z : State} {a0 : Array Value} {EL : List (String × Nat)} {nw fk : Prop} (g : GH Z a0 EL) (h : Heap) (zz : Z.heap.size ≤ h.size) :
    Ct l Z EL nw fk [] ⟨"java/lang/Double", "isFinite", "(D)Z"⟩ jdk_117_method_8_code 2 (some .boolean) ({ frames := 1, cells := 0, slots := 0, locals := 13 } : Room) #[(.double FP.dconst1)] h [] (fun res vm' h' => res = some (.int (1 : Int32)) ∧ Keep h h' []) := by
  refine Ct.of_go (a0 := a0) g.2.1 (plainFor_of_name pn_1) (L0 := #[.val (.double FP.dconst1), .second]) (fun m => by first | (simp [entryFrame, mkF, argsToLocals, Value.category, own_rep]; done) | rfl) ?_
  intro p e s m below meth c hown hby hml hret hnm hZ hC hO hsf
  refine Go.dloadN (hb hby D_jdk_117_method_8_code_0) (pc' := 1) rfl rfl ?_
  refine Go.absD hown (wd_22 g) (wd_23 g) (wd_24 g) (wd_25 g) (nn_dy one_dy) (by rw [hml]; rfl) (hb hby D_jdk_117_method_8_code_1) (by decide) (W := 0) rfl (by decide) (by decide) (by decide) (pc' := 4) rfl ?_
  refine Go.ldc2D hown (wd_26 g) (hb hby D_jdk_117_method_8_code_4) (pc' := 7) rfl ?_
  refine Go.dcmp (hb hby D_jdk_117_method_8_code_7) (pc' := 8) rfl ?_
  refine Go.ifN (hb hby D_jdk_117_method_8_code_8) (pc' := 11) rfl (show ¬ (0 : Int32) < cmpValue (FP.dcmp (FP.dconst1 &&& 0x7fffffffffffffff) (9218868437227405311 : UInt64)) .g from by decide +kernel) ?_
  refine Go.iconst (hb hby D_jdk_117_method_8_code_11) (pc' := 12) rfl (z := (1 : Int32)) rfl ?_
  refine Go.goto (hb hby D_jdk_117_method_8_code_12) (by decide) (pc' := 16) (by decide) ?_
  refine Go.retN (t := .boolean) hret (by simp) (hb hby D_jdk_117_method_8_code_16) (by decide) (by decide) ?_
  intro vmR CR
  exact ⟨(by first | rfl | (simp only [own_nar]; done) | (congr 2; done)), (Keep.refl h [])⟩
set_option maxRecDepth 65536 in
set_option maxHeartbeats 40000000 in
theorem c_weights {l : Launch} {Z : State} {a0 : Array Value} {EL : List (String × Nat)} {nw fk : Prop} (g : GH Z a0 EL) (h : Heap) (a : Addr) (x : UInt64) (y : UInt64) (hx0 : ¬ cmpValue (FP.dcmp x FP.dconst0) .l < 0) (hy0 : ¬ cmpValue (FP.dcmp y FP.dconst0) .l < 0) (hs : FP.dadd x y = FP.dconst1) (ga : Z.heap.size ≤ a) (e0 : Exa Z h a "com/example/other_words/otherwords/search/FusedModel$Weights") (e1 : Fld Z h a "com/example/other_words/otherwords/search/FusedModel$Weights" "words" "D" (.double 0)) (e2 : Fld Z h a "com/example/other_words/otherwords/search/FusedModel$Weights" "concepts" "D" (.double 0)) (zz : Z.heap.size ≤ h.size) :
    Ct l Z EL nw fk [] ⟨"com/example/other_words/otherwords/search/FusedModel$Weights", "<init>", "(DD)V"⟩ prog_44_method_1_code 5 none ({ frames := 2, cells := 0, slots := 0, locals := 26 } : Room) #[(.ref a), (.double x), (.double y)] h [] (fun res vm' h' => res = none ∧ Keep h h' [a] ∧ Fld Z h' a "com/example/other_words/otherwords/search/FusedModel$Weights" "words" "D" (.double x) ∧ Fld Z h' a "com/example/other_words/otherwords/search/FusedModel$Weights" "concepts" "D" (.double y)) := by
  have ye0 := ltN e0.lt
  have ye1 := ltN e1.lt
  have ye2 := ltN e2.lt
  refine Ct.of_go (a0 := a0) g.2.1 (plainFor_of_name pn_2) (L0 := #[.val (.ref a), .val (.double x), .second, .val (.double y), .second]) (fun m => by first | (simp [entryFrame, mkF, argsToLocals, Value.category, own_rep]; done) | rfl) ?_
  intro p e s m below meth c hown hby hml hret hnm hZ hC hO hsf
  refine Go.aloadN (hb hby D_prog_44_method_1_code_0) (pc' := 1) rfl rfl rfl ?_
  refine Go.callC (c_record (l := l) (nw := nw) (fk := fk) g h a (by omega)) hown rfl rfl (wd_10 g) (wd_11 g) (wd_14 g) (wd_13 g) (by decide) (argsL := []) (lenOf pd_0 rfl) rfl (by rw [hml]; rfl) (W := 0) rfl (hb hby D_prog_44_method_1_code_1) (pc' := 4) rfl (by decide) (by decide) (by decide) (by decide) all0 ?_
  rintro _ vm1 h1 ⟨rfl, K1⟩ C1
  have z1 := K1.1
  -- pc 4
  refine Go.dloadN (hb hby D_prog_44_method_1_code_4) (pc' := 5) rfl rfl ?_
  refine Go.dconst0 (hb hby D_prog_44_method_1_code_5) (pc' := 6) rfl ?_
  refine Go.dcmp (hb hby D_prog_44_method_1_code_6) (pc' := 7) rfl ?_
  refine Go.ifN (hb hby D_prog_44_method_1_code_7) (pc' := 10) rfl hx0 ?_
  refine Go.dloadN (hb hby D_prog_44_method_1_code_10) (pc' := 11) rfl rfl ?_
  refine Go.dconst0 (hb hby D_prog_44_method_1_code_11) (pc' := 12) rfl ?_
  refine Go.dcmp (hb hby D_prog_44_method_1_code_12) (pc' := 13) rfl ?_
  refine Go.ifN (hb hby D_prog_44_method_1_code_13) (pc' := 16) rfl hy0 ?_
  refine Go.dloadN (hb hby D_prog_44_method_1_code_16) (pc' := 17) rfl rfl ?_
  refine Go.dloadN (hb hby D_prog_44_method_1_code_17) (pc' := 18) rfl rfl ?_
  refine Go.dadd (hb hby D_prog_44_method_1_code_18) (pc' := 19) rfl (by rw [hs]; exact (nn_dy one_dy)) ?_
  rw [hs]
  refine Go.callS (c_finite (l := l) (nw := nw) (fk := fk) g h1 (by omega)) hown (wd_18 g) (wd_19 g) (wd_21 g) (wd_20 g) (by decide) (argsL := [(.double FP.dconst1)]) (lenOf pd_1 rfl) rfl (by rw [hml]; rfl) (W := 0) rfl (hb hby D_prog_44_method_1_code_19) (pc' := 22) rfl (by decide) (by decide) (by decide) (by decide) all0 ?_
  rintro _ vm2 h2 ⟨rfl, K2⟩ C2
  have z2 := K2.1
  -- pc 22
  refine Go.ifY (hb hby D_prog_44_method_1_code_22) (by decide) (pc' := 40) (by decide) (show ¬ (1 : Int32) = (0 : Int32) from by decide) ?_
  refine Go.aloadN (hb hby D_prog_44_method_1_code_40) (pc' := 41) rfl rfl rfl ?_
  refine Go.dloadN (hb hby D_prog_44_method_1_code_41) (pc' := 42) rfl rfl ?_
  have f3 : Fld Z h2 a "com/example/other_words/otherwords/search/FusedModel$Weights" "words" "D" (.double 0) := ((e1.keep K1 nin0).keep K2 nin0)
  have f4 : Exa Z h2 a "com/example/other_words/otherwords/search/FusedModel$Weights" := ((e0.keep K1).keep K2)
  refine Go.putF hown (wd_27 g) Via.refl f3 f4 (Or.inr ⟨(wd_28 g), rfl, hnm⟩) (wd_6 g) (ty := .double) (by decide) rfl rfl (Or.inl ⟨by decide, by decide⟩) (by omega) (hb hby D_prog_44_method_1_code_42) (pc' := 45) rfl ?_
  intro h5 W6 z8 K7 C9
  have f10 : Fld Z h2 a "com/example/other_words/otherwords/search/FusedModel$Weights" "concepts" "D" (.double 0) := ((e2.keep K1 nin0).keep K2 nin0)
  have f11 : Fld Z h5 a "com/example/other_words/otherwords/search/FusedModel$Weights" "words" "D" (.double x) := (Fld.same W6 f3)
  have f12 : Fld Z h5 a "com/example/other_words/otherwords/search/FusedModel$Weights" "concepts" "D" (.double 0) := (Fld.other W6 f10 (Or.inr (slot_ne (Or.inr (wd_30 g)) (Or.inr (wd_28 g)) (by decide) (t := .double) (t' := .double) (by decide) (by decide))))
  refine Go.aloadN (hb hby D_prog_44_method_1_code_45) (pc' := 46) rfl rfl rfl ?_
  refine Go.dloadN (hb hby D_prog_44_method_1_code_46) (pc' := 47) rfl rfl ?_
  have f13 : Exa Z h5 a "com/example/other_words/otherwords/search/FusedModel$Weights" := (f4.keep K7)
  refine Go.putF hown (wd_29 g) Via.refl f12 f13 (Or.inr ⟨(wd_30 g), rfl, hnm⟩) (wd_6 g) (ty := .double) (by decide) rfl rfl (Or.inl ⟨by decide, by decide⟩) (by omega) (hb hby D_prog_44_method_1_code_47) (pc' := 50) rfl ?_
  intro h14 W15 z17 K16 C18
  have f19 : Fld Z h14 a "com/example/other_words/otherwords/search/FusedModel$Weights" "words" "D" (.double x) := (Fld.other W15 f11 (Or.inr (slot_ne (Or.inr (wd_28 g)) (Or.inr (wd_30 g)) (by decide) (t := .double) (t' := .double) (by decide) (by decide))))
  have f20 : Fld Z h14 a "com/example/other_words/otherwords/search/FusedModel$Weights" "concepts" "D" (.double y) := (Fld.same W15 f12)
  refine Go.ret hret (hb hby D_prog_44_method_1_code_50) (by decide) (by decide) ?_
  intro vmR CR
  exact ⟨rfl, (((((Keep.refl h [a]).trans K1 all0).trans K2 all0).trans K7 (allS (by first | (left; simp; done) | (right; omega)) all0)).trans K16 (allS (by first | (left; simp; done) | (right; omega)) all0)), f19, f20⟩
set_option maxRecDepth 65536 in
set_option maxHeartbeats 40000000 in
theorem c_lambda {l : Launch} {Z : State} {a0 : Array Value} {EL : List (String × Nat)} {nw fk : Prop} (g : GH Z a0 EL) (h : Heap) (x : UInt64) (k : Nat) (e1 : Nat) (hx : Dy x k e1) (hk : k ≤ 2 ^ e1) (he : e1 ≤ 40) (zz : Z.heap.size ≤ h.size) :
    Ct l Z EL nw fk [] ⟨"com/example/other_words/otherwords/search/FusedModel$Weights", "lambda", "(D)Lcom/example/other_words/otherwords/search/FusedModel$Weights;"⟩ prog_44_method_3_code 2 (some (.object "com/example/other_words/otherwords/search/FusedModel$Weights")) ({ frames := 3, cells := 1, slots := 2, locals := 43 } : Room) #[(.double x)] h [] (fun res vm' h' => ∃ r : Addr, res = some (.ref r) ∧ Keep h h' [] ∧ h.size ≤ r ∧ Exa Z h' r "com/example/other_words/otherwords/search/FusedModel$Weights" ∧ Fld Z h' r "com/example/other_words/otherwords/search/FusedModel$Weights" "words" "D" (.double x) ∧ Fld Z h' r "com/example/other_words/otherwords/search/FusedModel$Weights" "concepts" "D" (.double (FP.dsub FP.dconst1 x))) := by
  refine Ct.of_go (a0 := a0) g.2.1 (plainFor_of_name pn_2) (L0 := #[.val (.double x), .second]) (fun m => by first | (simp [entryFrame, mkF, argsToLocals, Value.category, own_rep]; done) | rfl) ?_
  intro p e s m below meth c hown hby hml hret hnm hZ hC hO hsf
  refine Go.newO hown (wd_5 g) (wd_6 g) (wd_3 g) (hb hby D_prog_44_method_3_code_0) (pc' := 3) rfl (by decide) (by decide) ?_
  intro h1 a2 g3 l4 E5 X6 D7 S8 C9 N10
  have KE5 := Keep.ofExt E5; have zE5 := E5.1
  have f11 : Fld Z h1 a2 "com/example/other_words/otherwords/search/FusedModel$Weights" "words" "D" (.double 0) := D7 (Or.inr (wd_28 g)) (ty := .double) (by decide)
  have f12 : Fld Z h1 a2 "com/example/other_words/otherwords/search/FusedModel$Weights" "concepts" "D" (.double 0) := D7 (Or.inr (wd_30 g)) (ty := .double) (by decide)
  refine Go.dup (hb hby D_prog_44_method_3_code_3) (pc' := 4) rfl rfl ?_
  refine Go.dloadN (hb hby D_prog_44_method_3_code_4) (pc' := 5) rfl rfl ?_
  refine Go.dconst1 (hb hby D_prog_44_method_3_code_5) (pc' := 6) rfl ?_
  refine Go.dloadN (hb hby D_prog_44_method_3_code_6) (pc' := 7) rfl rfl ?_
  refine Go.dsub (hb hby D_prog_44_method_3_code_7) (pc' := 8) rfl (nn_dy (sub_dy hk he hx)) ?_
  refine Go.callC (c_weights (l := l) (nw := nw) (fk := fk) g h1 a2 x (FP.dsub FP.dconst1 x) (ge0_dy hx) (ge0_dy (sub_dy hk he hx)) (add_dy (by omega) he hx (sub_dy hk he hx)) (by first | omega | assumption | decide) X6 f11 f12 (by omega)) hown rfl rfl (wd_7 g) (wd_8 g) (wd_9 g) (wd_3 g) (by decide) (argsL := [(.double x), (.double (FP.dsub FP.dconst1 x))]) (lenOf pd_2 rfl) rfl (by rw [hml]; rfl) (W := 1) rfl (hb hby D_prog_44_method_3_code_8) (pc' := 11) rfl (by decide) (by decide) (by decide) (by decide) all0 ?_
  rintro _ vm13 h13 ⟨rfl, K13, o13_0, o13_1⟩ C13
  have z13 := K13.1
  -- pc 11
  have f14 : Exa Z h13 a2 "com/example/other_words/otherwords/search/FusedModel$Weights" := (X6.keep K13)
  refine Go.retA hret rfl rfl (hb hby D_prog_44_method_3_code_11) (by decide) (by decide) ?_
  intro vmR CR
  exact ⟨a2, (by first | rfl | (simp only [own_nar]; done) | (congr 2; done)), (((Keep.refl h []).trans KE5 all0).trans K13 (allS (by first | (left; simp; done) | (right; omega)) all0)), (by omega), f14, o13_0, o13_1⟩
set_option maxRecDepth 65536 in
set_option maxHeartbeats 40000000 in
theorem c_words {l : Launch} {Z : State} {a0 : Array Value} {EL : List (String × Nat)} {nw fk : Prop} (g : GH Z a0 EL) (h : Heap) (a : Addr) (x : UInt64) (e0 : Fld Z h a "com/example/other_words/otherwords/search/FusedModel$Weights" "words" "D" (.double x)) (zz : Z.heap.size ≤ h.size) :
    Ct l Z EL nw fk [] ⟨"com/example/other_words/otherwords/search/FusedModel$Weights", "words", "()D"⟩ prog_44_method_7_code 1 (some .double) ({ frames := 0, cells := 0, slots := 0, locals := 0 } : Room) #[(.ref a)] h [] (fun res vm' h' => res = some (.double x) ∧ Keep h h' []) := by
  have ye0 := ltN e0.lt
  refine Ct.of_go (a0 := a0) g.2.1 (plainFor_of_name pn_2) (L0 := #[.val (.ref a)]) (fun m => by first | (simp [entryFrame, mkF, argsToLocals, Value.category, own_rep]; done) | rfl) ?_
  intro p e s m below meth c hown hby hml hret hnm hZ hC hO hsf
  refine Go.aloadN (hb hby D_prog_44_method_7_code_0) (pc' := 1) rfl rfl rfl ?_
  refine Go.getF hown (wd_27 g) Via.refl e0 (hb hby D_prog_44_method_7_code_1) (pc' := 4) rfl ?_
  refine Go.retD hret (hb hby D_prog_44_method_7_code_4) (by decide) (by decide) ?_
  intro vmR CR
  exact ⟨(by first | rfl | (simp only [own_nar]; done) | (congr 2; done)), (Keep.refl h [])⟩
set_option maxRecDepth 65536 in
set_option maxHeartbeats 40000000 in
theorem c_concepts {l : Launch} {Z : State} {a0 : Array Value} {EL : List (String × Nat)} {nw fk : Prop} (g : GH Z a0 EL) (h : Heap) (a : Addr) (x : UInt64) (e0 : Fld Z h a "com/example/other_words/otherwords/search/FusedModel$Weights" "concepts" "D" (.double x)) (zz : Z.heap.size ≤ h.size) :
    Ct l Z EL nw fk [] ⟨"com/example/other_words/otherwords/search/FusedModel$Weights", "concepts", "()D"⟩ prog_44_method_8_code 1 (some .double) ({ frames := 0, cells := 0, slots := 0, locals := 0 } : Room) #[(.ref a)] h [] (fun res vm' h' => res = some (.double x) ∧ Keep h h' []) := by
  have ye0 := ltN e0.lt
  refine Ct.of_go (a0 := a0) g.2.1 (plainFor_of_name pn_2) (L0 := #[.val (.ref a)]) (fun m => by first | (simp [entryFrame, mkF, argsToLocals, Value.category, own_rep]; done) | rfl) ?_
  intro p e s m below meth c hown hby hml hret hnm hZ hC hO hsf
  refine Go.aloadN (hb hby D_prog_44_method_8_code_0) (pc' := 1) rfl rfl rfl ?_
  refine Go.getF hown (wd_29 g) Via.refl e0 (hb hby D_prog_44_method_8_code_1) (pc' := 4) rfl ?_
  refine Go.retD hret (hb hby D_prog_44_method_8_code_4) (by decide) (by decide) ?_
  intro vmR CR
  exact ⟨(by first | rfl | (simp only [own_nar]; done) | (congr 2; done)), (Keep.refl h [])⟩
set_option maxRecDepth 65536 in
set_option maxHeartbeats 40000000 in
theorem c_law {l : Launch} {Z : State} {a0 : Array Value} {EL : List (String × Nat)} {nw fk : Prop} (g : GH Z a0 EL) (ws : List Jvm.Cond) (h : Heap) (i0 : Int32) (i1 : Int32) (zz : Z.heap.size ≤ h.size) :
    Ct l Z EL nw fk ws x code maxLocals ret room_1 #[(.int i0), (.int i1)] h [] (fun res vm' h' => res = some (.int (1 : Int32)) ∧ Keep h h' []) := by
  refine Ct.of_go (a0 := a0) g.2.1 (plainFor_of_name pn_3) (L0 := #[.val (.int i0), .val (.int i1), .unset, .unset, .unset, .unset, .unset, .unset, .unset, .unset]) (fun m => by first | (simp [entryFrame, mkF, argsToLocals, Value.category, own_rep, maxLocals]; done) | rfl) ?_
  intro p e s m below meth c hown hby hml hret hnm hZ hC hO hsf
  refine Go.iloadN (hb hby at_0) (pc' := 1) rfl rfl ?_
  refine Go.ldcInt hown (wd_0 g) (hb hby at_1) (pc' := 3) rfl ?_
  refine Go.iand (hb hby at_3) (pc' := 4) rfl ?_
  refine Go.bipush (hb hby at_4) (pc' := 6) rfl (z := (31 : Int32)) rfl ?_
  refine Go.irem (hb hby at_6) (pc' := 7) rfl (by decide) ?_
  obtain ⟨w2, hw2, ew⟩ := rem_nat (d := 31) (N := 31) i1 rfl (by decide)
  rw [ew]
  have hp := pow_le30 hw2
  have hp0 := Nat.two_pow_pos w2
  refine Go.istoreN (hb hby at_7) (pc' := 8) rfl (L' := #[.val (.int i0), .val (.int i1), .val (.int w2.toInt32), .unset, .unset, .unset, .unset, .unset, .unset, .unset]) rfl ?_
  refine Go.iconst (hb hby at_8) (pc' := 9) rfl (z := (1 : Int32)) rfl ?_
  refine Go.iloadN (hb hby at_9) (pc' := 10) rfl rfl ?_
  refine Go.ishl (hb hby at_10) (pc' := 11) rfl ?_
  rw [shl_pow hw2]
  refine Go.istoreN (hb hby at_11) (pc' := 12) rfl (L' := #[.val (.int i0), .val (.int i1), .val (.int w2.toInt32), .val (.int (2 ^ w2).toInt32), .unset, .unset, .unset, .unset, .unset, .unset]) rfl ?_
  refine Go.iloadN (hb hby at_12) (pc' := 13) rfl rfl ?_
  refine Go.ldcInt hown (wd_0 g) (hb hby at_13) (pc' := 15) rfl ?_
  refine Go.iand (hb hby at_15) (pc' := 16) rfl ?_
  refine Go.iloadN (hb hby at_16) (pc' := 17) rfl rfl ?_
  refine Go.iconst (hb hby at_17) (pc' := 18) rfl (z := (1 : Int32)) rfl ?_
  refine Go.iadd (hb hby at_18) (pc' := 19) rfl ?_
  rw [succ32 (2 ^ w2)]
  refine Go.irem (hb hby at_19) (pc' := 20) rfl (fun z => by have := congrArg Int32.toInt z; rw [toInt_nat (by omega)] at this; have e0 : (0 : Int32).toInt = 0 := rfl; omega) ?_
  obtain ⟨k, hk, ek⟩ := rem_nat (d := (2 ^ w2 + 1).toInt32) (N := 2 ^ w2 + 1) i0 (toInt_nat (by omega)) (by omega)
  rw [ek]
  refine Go.istore (hb hby at_20) (pc' := 22) rfl (L' := #[.val (.int i0), .val (.int i1), .val (.int w2.toInt32), .val (.int (2 ^ w2).toInt32), .val (.int k.toInt32), .unset, .unset, .unset, .unset, .unset]) rfl ?_
  refine Go.iload (hb hby at_22) (pc' := 24) rfl rfl ?_
  refine Go.i2d (hb hby at_24) (pc' := 25) rfl ?_
  refine Go.iloadN (hb hby at_25) (pc' := 26) rfl rfl ?_
  refine Go.i2d (hb hby at_26) (pc' := 27) rfl ?_
  refine Go.ddiv (hb hby at_27) (pc' := 28) rfl (nn_dy (div_dy (k := k) (e := w2) (by omega) (by omega) (i2d_dy (toInt_nat (by omega))) (i2d_dy (by rw [toInt_nat (by omega)])))) ?_
  obtain ⟨x, hx⟩ : ∃ u, u = (FP.ddiv (FP.i2d k.toInt32) (FP.i2d (2 ^ w2).toInt32)) := ⟨_, rfl⟩
  rw [← hx]
  have dx : Dy x k w2 := by rw [hx]; exact (div_dy (k := k) (e := w2) (by omega) (by omega) (i2d_dy (toInt_nat (by omega))) (i2d_dy (by rw [toInt_nat (by omega)])))
  refine Go.dstore (hb hby at_28) (pc' := 30) rfl (L' := #[.val (.int i0), .val (.int i1), .val (.int w2.toInt32), .val (.int (2 ^ w2).toInt32), .val (.int k.toInt32), .val (.double x), .second, .unset, .unset, .unset]) rfl ?_
  refine Go.iloadN (hb hby at_30) (pc' := 31) rfl rfl ?_
  refine Go.iload (hb hby at_31) (pc' := 33) rfl rfl ?_
  refine Go.isub (hb hby at_33) (pc' := 34) rfl ?_
  rw [sub32 (show k ≤ 2 ^ w2 by omega)]
  refine Go.i2d (hb hby at_34) (pc' := 35) rfl ?_
  refine Go.iloadN (hb hby at_35) (pc' := 36) rfl rfl ?_
  refine Go.i2d (hb hby at_36) (pc' := 37) rfl ?_
  refine Go.ddiv (hb hby at_37) (pc' := 38) rfl (nn_dy (div_dy (k := 2 ^ w2 - k) (e := w2) (by omega) (by omega) (i2d_dy (toInt_nat (by omega))) (i2d_dy (by rw [toInt_nat (by omega)])))) ?_
  obtain ⟨y, hy⟩ : ∃ u, u = (FP.ddiv (FP.i2d (2 ^ w2 - k).toInt32) (FP.i2d (2 ^ w2).toInt32)) := ⟨_, rfl⟩
  rw [← hy]
  have dy : Dy y (2 ^ w2 - k) w2 := by rw [hy]; exact (div_dy (k := 2 ^ w2 - k) (e := w2) (by omega) (by omega) (i2d_dy (toInt_nat (by omega))) (i2d_dy (by rw [toInt_nat (by omega)])))
  refine Go.dstore (hb hby at_38) (pc' := 40) rfl (L' := #[.val (.int i0), .val (.int i1), .val (.int w2.toInt32), .val (.int (2 ^ w2).toInt32), .val (.int k.toInt32), .val (.double x), .second, .val (.double y), .second, .unset]) rfl ?_
  refine Go.dload (hb hby at_40) (pc' := 42) rfl rfl ?_
  refine Go.callS (c_lambda (l := l) (nw := nw) (fk := fk) g h x k w2 dx (by omega) (by omega) (by omega)) hown (wd_1 g) (wd_2 g) (wd_4 g) (wd_3 g) (by decide) (argsL := [(.double x)]) (lenOf pd_3 rfl) rfl (by rw [hml]; rfl) (W := 0) rfl (hb hby at_42) (pc' := 45) rfl (by decide) (by decide) (by decide) (by decide) all0 ?_
  rintro _ vm1 h1 ⟨r_1, rfl, K1, p1_0, o1_0, o1_1, o1_2⟩ C1
  have z1 := K1.1
  have yo1_0 := ltN o1_0.lt
  -- pc 45
  have hcon : FP.dsub FP.dconst1 x = y := Dy.uniq (by omega) (sub_dy (by omega) (by omega) dx) dy
  have f2 : Fld Z h1 r_1 "com/example/other_words/otherwords/search/FusedModel$Weights" "concepts" "D" (.double y) := by have q9 := o1_2; rw [hcon] at q9; exact q9
  have hsum : FP.dadd x y = FP.dconst1 := add_dy (by omega) (by omega) dx dy
  refine Go.astore (hb hby at_45) (pc' := 47) rfl rfl (L' := #[.val (.int i0), .val (.int i1), .val (.int w2.toInt32), .val (.int (2 ^ w2).toInt32), .val (.int k.toInt32), .val (.double x), .second, .val (.double y), .second, .val (.ref r_1)]) rfl ?_
  refine Go.aload (hb hby at_47) (pc' := 49) rfl rfl rfl ?_
  refine Go.callV (y0 := ⟨"com/example/other_words/otherwords/search/FusedModel$Weights", "words", "()D"⟩) (c_words (l := l) (nw := nw) (fk := fk) g h1 r_1 x o1_1 (by omega)) hown (wd_31 g) (wd_32 g) (notFace_of_selects (wd_34 g)) (wd_34 g) (wd_33 g) o1_0 (wd_35 g) (wd_3 g) (by decide) (argsL := []) (lenOf pd_4 rfl) rfl (by rw [hml]; rfl) (W := 0) rfl (hb hby at_49) (pc' := 52) rfl (by decide) (by decide) (by decide) (by decide) all0 ?_
  rintro _ vm3 h3 ⟨rfl, K3⟩ C3
  have z3 := K3.1
  -- pc 52
  refine Go.dload (hb hby at_52) (pc' := 54) rfl rfl ?_
  refine Go.dcmp (hb hby at_54) (pc' := 55) rfl ?_
  refine Go.ifN (hb hby at_55) (pc' := 58) rfl (fun q => q (dcmpV_self (nn_dy dx) _)) ?_
  refine Go.aload (hb hby at_58) (pc' := 60) rfl rfl rfl ?_
  have f4 : Fld Z h3 r_1 "com/example/other_words/otherwords/search/FusedModel$Weights" "concepts" "D" (.double y) := (f2.keep K3 nin0)
  have f5 : Exa Z h3 r_1 "com/example/other_words/otherwords/search/FusedModel$Weights" := (o1_0.keep K3)
  refine Go.callV (y0 := ⟨"com/example/other_words/otherwords/search/FusedModel$Weights", "concepts", "()D"⟩) (c_concepts (l := l) (nw := nw) (fk := fk) g h3 r_1 y f4 (by omega)) hown (wd_36 g) (wd_37 g) (notFace_of_selects (wd_39 g)) (wd_39 g) (wd_38 g) f5 (wd_40 g) (wd_3 g) (by decide) (argsL := []) (lenOf pd_4 rfl) rfl (by rw [hml]; rfl) (W := 0) rfl (hb hby at_60) (pc' := 63) rfl (by decide) (by decide) (by decide) (by decide) all0 ?_
  rintro _ vm6 h6 ⟨rfl, K6⟩ C6
  have z6 := K6.1
  -- pc 63
  refine Go.dload (hb hby at_63) (pc' := 65) rfl rfl ?_
  refine Go.dcmp (hb hby at_65) (pc' := 66) rfl ?_
  refine Go.ifN (hb hby at_66) (pc' := 69) rfl (fun q => q (dcmpV_self (nn_dy dy) _)) ?_
  refine Go.aload (hb hby at_69) (pc' := 71) rfl rfl rfl ?_
  have f7 : Fld Z h6 r_1 "com/example/other_words/otherwords/search/FusedModel$Weights" "words" "D" (.double x) := ((o1_1.keep K3 nin0).keep K6 nin0)
  have f8 : Exa Z h6 r_1 "com/example/other_words/otherwords/search/FusedModel$Weights" := (f5.keep K6)
  refine Go.callV (y0 := ⟨"com/example/other_words/otherwords/search/FusedModel$Weights", "words", "()D"⟩) (c_words (l := l) (nw := nw) (fk := fk) g h6 r_1 x f7 (by omega)) hown (wd_31 g) (wd_32 g) (notFace_of_selects (wd_34 g)) (wd_34 g) (wd_33 g) f8 (wd_35 g) (wd_3 g) (by decide) (argsL := []) (lenOf pd_4 rfl) rfl (by rw [hml]; rfl) (W := 0) rfl (hb hby at_71) (pc' := 74) rfl (by decide) (by decide) (by decide) (by decide) all0 ?_
  rintro _ vm9 h9 ⟨rfl, K9⟩ C9
  have z9 := K9.1
  -- pc 74
  refine Go.aload (hb hby at_74) (pc' := 76) rfl rfl rfl ?_
  have f10 : Fld Z h9 r_1 "com/example/other_words/otherwords/search/FusedModel$Weights" "concepts" "D" (.double y) := ((f4.keep K6 nin0).keep K9 nin0)
  have f11 : Exa Z h9 r_1 "com/example/other_words/otherwords/search/FusedModel$Weights" := (f8.keep K9)
  refine Go.callV (y0 := ⟨"com/example/other_words/otherwords/search/FusedModel$Weights", "concepts", "()D"⟩) (c_concepts (l := l) (nw := nw) (fk := fk) g h9 r_1 y f10 (by omega)) hown (wd_36 g) (wd_37 g) (notFace_of_selects (wd_39 g)) (wd_39 g) (wd_38 g) f11 (wd_40 g) (wd_3 g) (by decide) (argsL := []) (lenOf pd_4 rfl) rfl (by rw [hml]; rfl) (W := 2) rfl (hb hby at_76) (pc' := 79) rfl (by decide) (by decide) (by decide) (by decide) all0 ?_
  rintro _ vm12 h12 ⟨rfl, K12⟩ C12
  have z12 := K12.1
  -- pc 79
  refine Go.dadd (hb hby at_79) (pc' := 80) rfl (by rw [hsum]; exact (nn_dy one_dy)) ?_
  rw [hsum]
  refine Go.dconst1 (hb hby at_80) (pc' := 81) rfl ?_
  refine Go.dcmp (hb hby at_81) (pc' := 82) rfl ?_
  refine Go.ifN (hb hby at_82) (pc' := 85) rfl (fun q => q (dcmpV_self (nn_dy one_dy) _)) ?_
  refine Go.iconst (hb hby at_85) (pc' := 86) rfl (z := (1 : Int32)) rfl ?_
  refine Go.goto (hb hby at_86) (by decide) (pc' := 90) (by decide) ?_
  refine Go.retN (t := .boolean) hret (by simp) (hb hby at_90) (by decide) (by decide) ?_
  intro vmR CR
  exact ⟨(by first | rfl | (simp only [own_nar]; done) | (congr 2; done)), ((((((Keep.refl h []).trans K1 all0).trans K3 all0).trans K6 all0).trans K9 all0).trans K12 all0)⟩
set_option maxRecDepth 65536 in
set_option maxHeartbeats 40000000 in
theorem comes_1 {Post : Tables → Env → Array Value → State → Outcome → State → Prop} (hpost : ∀ tb e args s v u, (limb_1_1.after args s (.returned v) u = true ∧ limb_1_2.after args s (.returned v) u = true ∧ True) → Jvm.D.Framed s (.returned v) u (Jvm.fieldLocs frame_1_writes args s ++ Jvm.arrayLocs frame_1_arrays args s ++ Jvm.staticLocs frame_1_statics s) 16 128 → Post tb e args s (.returned v) u) :
    ArmFor flags0 classFile x code maxLocals ret World_1 tables_1 room_1 Calls_1 rest_1 Pre_1 Post := by
  intro l hfl _ _ p e ha hc hk s m args below hf hA hF happ hP
  obtain ⟨hcalls, hrest, hpre⟩ := hP
  obtain ⟨-, -, -, hnamed, -, -, -, hat⟩ := (Spec.applies_iff hf).mp happ
  obtain ⟨hg, hn⟩ := and_e (Cond.before_iff.mp (show (Jvm.Cond.and given_1 narrow_1).before args s = true from hpre))
  obtain ⟨h1, g0⟩ := and_e hg
  obtain ⟨k0, g1⟩ := and_e g0
  have k1 := g1
  obtain ⟨w0, w1, rfl⟩ : ∃ w0 w1 : Value, args = #[w0, w1] := by
    have hs : args.size = 2 := by simpa [Cond.value, given_1] using h1
    obtain ⟨L⟩ := args
    match L, hs with
    | [w0, w1], _ => exact ⟨w0, w1, rfl⟩
  have hw := fun d (hd : d ∈ tables_1) => atoms_spec (ws := Jvm.Cond.code x code maxLocals ret :: tables_1) hat d (List.mem_cons_of_mem _ hd)
  have hfit : Fit s := fun {y c} hc i hi => by
    obtain ⟨ha, rfl⟩ := Array.getElem?_eq_some_iff.mp hc
    have q := List.all_eq_true.mp ((Array.all_eq_true_iff_forall_mem.mp hF) _ (Array.getElem_mem ha)) i (List.mem_range.mpr hi)
    simpa [Array.getElem?_eq_getElem hi] using q
  obtain ⟨i0, r0⟩ := is_v k0
  obtain rfl : w0 = (.int i0) := Option.some.inj r0
  obtain ⟨i1, r1⟩ := is_v k1
  obtain rfl : w1 = (.int i1) := Option.some.inj r1

  have hCH : CHv s [] s.vm s.heap := fun _ hp => nomatch hp
  have hEL : EW s #[(.int i0), (.int i1)] [] := EW.nil
  obtain ⟨n, o, h1, h2, h3, v, L, rfl, N, ⟨rfl, -⟩, -, -, hH, hq⟩ := c_law (l := l) (nw := True) (fk := False) (EL := [])  ⟨hw, hEL, trivial⟩ tables_1 s.heap i0 i1 (Nat.le_refl _) p e ha hc hk s m _ below hf ((Spec.applies_iff_loose hf).mp happ).1 ⟨rfl, State.Warmed39.refl s, rfl, hCH, ⟨Nat.le_refl _, fun _ _ q => q⟩, all0⟩ (fun z => z.elim)
  refine ⟨n, _, h1, h2, h3, hpost _ _ _ _ _ _ ⟨Cond.after_iff.mpr rfl, Cond.after_iff.mpr (eq_i res_at (Term.int_eval (1)) rfl), trivial⟩ ?_⟩
  exact ⟨⟨_, rfl⟩, hH trivial, (hq.2.2.2.sift fun y hy => Or.inr (N y hy)).mono (by decide) (by decide)⟩
theorem main_1_1 : Claimed_1_1 := comes_1 fun _ _ _ _ _ _ h hF => ⟨h.1, hF⟩
theorem main_1_2 : Claimed_1_2 := comes_1 fun _ _ _ _ _ _ h hF => ⟨h.2.1, hF⟩
end Jvm.Pilot.@@N@@
namespace Jvm.Pilot.@@N@@
open Jvm Jvm.ClassFile Sem Op Lib Jvm.Free Jvm.Stand Jvm.Pilot.@@N@@.Jvm.D
/-! MADE BY PROGRAM (witnessworld.py) out of the Statement's table words and the real class files: 16 classes; the members and pool entries that the words name. The judged class is class 1, her method 1. -/
namespace start1
open Jvm.ClassFile
def u (s : String) : CpInfo := .utf8 (stringToUtf16 s)
/-- a pool by its gaps: so many unusable entries, then the entry; so many at the end -/
def gap : Nat → List CpInfo → List CpInfo
  | 0, r => r
  | n + 1, r => .unusable :: gap n r
def poolList (es : List (Nat × CpInfo)) (last : Nat) : List CpInfo := es.foldr (fun e r => gap e.1 (e.2 :: r)) (gap last [])
def pool (es : List (Nat × CpInfo)) (last : Nat) : Array CpInfo := ⟨poolList es last⟩
def fileOf (pool : Array CpInfo) (this : Nat) (attrs : Array Attribute := #[]) (ms : Array MethodInfo := #[]) (fl : Nat := 33) (sup : Nat := 0) (ifs : Array Nat := #[]) (fds : Array FieldInfo := #[]) : ClassFile where
  minorVersion := 0
  majorVersion := 65
  constantPool := pool
  accessFlags := fl
  thisClass := this
  superClass := sup
  interfaces := ifs
  fields := fds
  methods := ms
  attributes := attrs
def plain (name : String) (sup : Option ClassId) : Class where
  name := name
  kind := .ordinary
  loader := none
  accessFlags := 33
  super := sup
  interfaces := #[]
  cf := none
  fields := #[]
  methods := #[]
  instanceTypes := #[]
  staticTypes := #[]
  resolved := #[]
  callSites := []
  init := .initialized
  statics := none
  mirror := none

def pool0 : Array CpInfo := pool [(5, u "<init>"), (0, u "()V"), (1, .class_ 10), (1, u "java/lang/Object")] 113

def k0c0 : Code := { maxStack := 0, maxLocals := 1, code := object_method_1_code, exceptionTable := #[], attributes := #[] }
def k0m0 : Method := { name := "<init>", desc := "()V", sig := { parameters := [], returnType := none }, accessFlags := 1, code := some k0c0 }
/-- java/lang/Object -/
def k0 : Class := { plain "java/lang/Object" none with
  accessFlags := 33
  interfaces := #[]
  cf := some (fileOf pool0 8 #[] #[{ accessFlags := 1, nameIndex := 5, descriptorIndex := 6, attributes := #[] }] 33 0 #[] #[])
  fields := #[]
  methods := #[k0m0]
  instanceTypes := #[]
  staticTypes := #[]
  resolved := Array.replicate 124 none
  statics := none }

def pool1 : Array CpInfo := pool [(2, .class_ 4), (1, u "java/lang/Object"), (0, u "<init>"), (0, u "()V"), (0, .integer 2147483647), (0, .methodref 9 10), (0, .class_ 11), (0, .nameAndType 12 13), (0, u "com/example/other_words/otherwords/search/FusedModel$Weights"), (0, u "lambda"), (0, u "(D)Lcom/example/other_words/otherwords/search/FusedModel$Weights;"), (0, .methodref 9 15), (0, .nameAndType 16 17), (0, u "words"), (0, u "()D"), (0, .methodref 9 19), (0, .nameAndType 20 17), (0, u "concepts"), (0, .class_ 22), (0, u "com/example/other_words/otherwords/search/WeightsLambdaPinLaw"), (2, u "law"), (0, u "(II)Z")] 7

def k1m0 : Method := { name := "<init>", desc := "()V", sig := { parameters := [], returnType := none }, accessFlags := 1, code := none }
def k1c1 : Code := { maxStack := 4, maxLocals := 10, code := code, exceptionTable := #[], attributes := #[] }
def k1m1 : Method := { name := "law", desc := "(II)Z", sig := { parameters := [.int, .int], returnType := some .boolean }, accessFlags := 9, code := some k1c1 }
/-- com/example/other_words/otherwords/search/WeightsLambdaPinLaw -/
def k1 : Class := { plain "com/example/other_words/otherwords/search/WeightsLambdaPinLaw" (some 0) with
  accessFlags := 49
  interfaces := #[]
  cf := some (fileOf pool1 21 #[] #[{ accessFlags := 1, nameIndex := 5, descriptorIndex := 6, attributes := #[] }, { accessFlags := 9, nameIndex := 25, descriptorIndex := 26, attributes := #[] }] 49 2 #[] #[])
  fields := #[]
  methods := #[k1m0, k1m1]
  instanceTypes := #[]
  staticTypes := #[]
  resolved := Array.replicate 34 none
  statics := none }

def pool2 : Array CpInfo := pool [(1, .methodref 2 3), (0, .class_ 4), (0, .nameAndType 5 6), (0, u "java/lang/Object"), (0, u "<init>"), (0, u "()V"), (0, .class_ 8), (0, u "java/lang/Record")] 13

def k2c0 : Code := { maxStack := 1, maxLocals := 1, code := jdk_30_method_1_code, exceptionTable := #[], attributes := #[] }
def k2m0 : Method := { name := "<init>", desc := "()V", sig := { parameters := [], returnType := none }, accessFlags := 4, code := some k2c0 }
/-- java/lang/Record -/
def k2 : Class := { plain "java/lang/Record" (some 0) with
  accessFlags := 1057
  interfaces := #[]
  cf := some (fileOf pool2 7 #[] #[{ accessFlags := 4, nameIndex := 5, descriptorIndex := 6, attributes := #[] }] 1057 2 #[] #[])
  fields := #[]
  methods := #[k2m0]
  instanceTypes := #[]
  staticTypes := #[]
  resolved := Array.replicate 22 none
  statics := none }

def pool3 : Array CpInfo := pool [(1, .methodref 2 3), (0, .class_ 4), (0, .nameAndType 5 6), (0, u "java/lang/Record"), (0, u "<init>"), (0, u "()V"), (0, .methodref 8 9), (0, .class_ 10), (0, .nameAndType 11 12), (0, u "java/lang/Double"), (0, u "isFinite"), (0, u "(D)Z"), (9, .fieldref 23 24), (0, .class_ 25), (0, .nameAndType 26 27), (0, u "com/example/other_words/otherwords/search/FusedModel$Weights"), (0, u "words"), (0, u "D"), (0, .fieldref 23 29), (0, .nameAndType 30 27), (0, u "concepts"), (0, .methodref 23 32), (0, .nameAndType 5 33), (0, u "(DD)V"), (17, u "(D)Lcom/example/other_words/otherwords/search/FusedModel$Weights;"), (0, u "lambda"), (3, u "()D"), (3, .class_ 61), (0, u "com/example/other_words/otherwords/search/FusedModel")] 28

def k3c0 : Code := { maxStack := 6, maxLocals := 5, code := prog_44_method_1_code, exceptionTable := #[], attributes := #[] }
def k3m0 : Method := { name := "<init>", desc := "(DD)V", sig := { parameters := [.double, .double], returnType := none }, accessFlags := 1, code := some k3c0 }
def k3c1 : Code := { maxStack := 8, maxLocals := 2, code := prog_44_method_3_code, exceptionTable := #[], attributes := #[] }
def k3m1 : Method := { name := "lambda", desc := "(D)Lcom/example/other_words/otherwords/search/FusedModel$Weights;", sig := { parameters := [.double], returnType := some (.object "com/example/other_words/otherwords/search/FusedModel$Weights") }, accessFlags := 9, code := some k3c1 }
def k3c2 : Code := { maxStack := 2, maxLocals := 1, code := prog_44_method_7_code, exceptionTable := #[], attributes := #[] }
def k3m2 : Method := { name := "words", desc := "()D", sig := { parameters := [], returnType := some .double }, accessFlags := 1, code := some k3c2 }
def k3c3 : Code := { maxStack := 2, maxLocals := 1, code := prog_44_method_8_code, exceptionTable := #[], attributes := #[] }
def k3m3 : Method := { name := "concepts", desc := "()D", sig := { parameters := [], returnType := some .double }, accessFlags := 1, code := some k3c3 }
/-- com/example/other_words/otherwords/search/FusedModel$Weights -/
def k3 : Class := { plain "com/example/other_words/otherwords/search/FusedModel$Weights" (some 2) with
  accessFlags := 49
  interfaces := #[]
  cf := some (fileOf pool3 23 #[.nestHost 60] #[{ accessFlags := 1, nameIndex := 5, descriptorIndex := 33, attributes := #[] }, { accessFlags := 9, nameIndex := 52, descriptorIndex := 51, attributes := #[] }, { accessFlags := 1, nameIndex := 26, descriptorIndex := 56, attributes := #[] }, { accessFlags := 1, nameIndex := 30, descriptorIndex := 56, attributes := #[] }] 49 2 #[] #[{ accessFlags := 18, nameIndex := 26, descriptorIndex := 27, attributes := #[] }, { accessFlags := 18, nameIndex := 30, descriptorIndex := 27, attributes := #[] }])
  fields := #[{ name := "words", type := .double, accessFlags := 18, slot := 0, constantValue := 0 }, { name := "concepts", type := .double, accessFlags := 18, slot := 1, constantValue := 0 }]
  methods := #[k3m0, k3m1, k3m2, k3m3]
  instanceTypes := #[.double, .double]
  staticTypes := #[]
  resolved := Array.replicate 90 none
  statics := none }

def pool4 : Array CpInfo := pool [(1, .class_ 2), (0, u "java/io/Serializable"), (0, .class_ 4), (0, u "java/lang/Object")] 2

/-- java/io/Serializable -/
def k4 : Class := { plain "java/io/Serializable" (some 0) with
  accessFlags := 1537
  interfaces := #[]
  cf := some (fileOf pool4 1 #[] #[] 1537 3 #[] #[])
  fields := #[]
  methods := #[]
  instanceTypes := #[]
  staticTypes := #[]
  resolved := Array.replicate 7 none
  statics := none }

def pool5 : Array CpInfo := pool [(2, .class_ 4), (1, u "java/lang/Object"), (0, u "<init>"), (0, u "()V"), (1, .class_ 10), (1, u "java/lang/Number"), (2, .class_ 14), (0, u "java/io/Serializable"), (0, u "serialVersionUID"), (0, u "J")] 20

def k5m0 : Method := { name := "<init>", desc := "()V", sig := { parameters := [], returnType := none }, accessFlags := 1, code := none }
/-- java/lang/Number -/
def k5 : Class := { plain "java/lang/Number" (some 0) with
  accessFlags := 1057
  interfaces := #[4]
  cf := some (fileOf pool5 8 #[] #[{ accessFlags := 1, nameIndex := 5, descriptorIndex := 6, attributes := #[] }] 1057 2 #[13] #[{ accessFlags := 26, nameIndex := 15, descriptorIndex := 16, attributes := #[] }])
  fields := #[{ name := "serialVersionUID", type := .long, accessFlags := 26, slot := 0, constantValue := 0 }]
  methods := #[k5m0]
  instanceTypes := #[]
  staticTypes := #[.long]
  resolved := Array.replicate 37 none
  statics := none }

def pool6 : Array CpInfo := pool [(1, .class_ 2), (0, u "java/lang/Comparable"), (0, .class_ 4), (0, u "java/lang/Object")] 7

/-- java/lang/Comparable -/
def k6 : Class := { plain "java/lang/Comparable" (some 0) with
  accessFlags := 1537
  interfaces := #[]
  cf := some (fileOf pool6 1 #[] #[] 1537 3 #[] #[])
  fields := #[]
  methods := #[]
  instanceTypes := #[]
  staticTypes := #[]
  resolved := Array.replicate 12 none
  statics := none }

def pool7 : Array CpInfo := pool [(1, .class_ 2), (0, u "java/lang/constant/Constable"), (0, .class_ 4), (0, u "java/lang/Object")] 6

/-- java/lang/constant/Constable -/
def k7 : Class := { plain "java/lang/constant/Constable" (some 0) with
  accessFlags := 1537
  interfaces := #[]
  cf := some (fileOf pool7 1 #[] #[] 1537 3 #[] #[])
  fields := #[]
  methods := #[]
  instanceTypes := #[]
  staticTypes := #[]
  resolved := Array.replicate 11 none
  statics := none }

def pool8 : Array CpInfo := pool [(1, .class_ 2), (0, u "java/lang/constant/ConstantDesc"), (0, .class_ 4), (0, u "java/lang/Object")] 32

/-- java/lang/constant/ConstantDesc -/
def k8 : Class := { plain "java/lang/constant/ConstantDesc" (some 0) with
  accessFlags := 1537
  interfaces := #[]
  cf := some (fileOf pool8 1 #[] #[] 1537 3 #[] #[])
  fields := #[]
  methods := #[]
  instanceTypes := #[]
  staticTypes := #[]
  resolved := Array.replicate 37 none
  statics := none }

def pool9 : Array CpInfo := pool [(1, .class_ 2), (0, u "java/lang/Double"), (10, u "isFinite"), (0, u "(D)Z"), (8, .class_ 25), (1, u "java/lang/Math"), (12, .methodref 23 39), (0, .nameAndType 40 41), (0, u "abs"), (0, u "(D)D"), (69, .double 9218868437227405311), (2, .class_ 116), (1, u "java/lang/Number"), (3, u "value"), (0, u "D"), (51, u "TYPE"), (0, u "Ljava/lang/Class;"), (0, .class_ 176), (0, u "java/lang/Comparable"), (0, .class_ 178), (0, u "java/lang/constant/Constable"), (0, .class_ 180), (0, u "java/lang/constant/ConstantDesc"), (0, u "POSITIVE_INFINITY"), (3, u "NEGATIVE_INFINITY"), (2, u "NaN"), (2, u "MAX_VALUE"), (0, u "MIN_NORMAL"), (0, u "MIN_VALUE"), (2, u "SIZE"), (0, u "I"), (1, u "PRECISION"), (1, u "MAX_EXPONENT"), (1, u "MIN_EXPONENT"), (1, u "BYTES"), (3, u "serialVersionUID"), (0, u "J")] 79

def k9c0 : Code := { maxStack := 4, maxLocals := 2, code := jdk_117_method_8_code, exceptionTable := #[], attributes := #[] }
def k9m0 : Method := { name := "isFinite", desc := "(D)Z", sig := { parameters := [.double], returnType := some .boolean }, accessFlags := 9, code := some k9c0 }
/-- java/lang/Double -/
def k9 : Class := { plain "java/lang/Double" (some 5) with
  accessFlags := 49
  interfaces := #[6, 7, 8]
  cf := some (fileOf pool9 1 #[] #[{ accessFlags := 9, nameIndex := 13, descriptorIndex := 14, attributes := #[] }] 49 114 #[175, 177, 179] #[{ accessFlags := 25, nameIndex := 181, descriptorIndex := 121, attributes := #[] }, { accessFlags := 25, nameIndex := 185, descriptorIndex := 121, attributes := #[] }, { accessFlags := 25, nameIndex := 188, descriptorIndex := 121, attributes := #[] }, { accessFlags := 25, nameIndex := 191, descriptorIndex := 121, attributes := #[] }, { accessFlags := 25, nameIndex := 192, descriptorIndex := 121, attributes := #[] }, { accessFlags := 25, nameIndex := 193, descriptorIndex := 121, attributes := #[] }, { accessFlags := 25, nameIndex := 196, descriptorIndex := 197, attributes := #[] }, { accessFlags := 25, nameIndex := 199, descriptorIndex := 197, attributes := #[] }, { accessFlags := 25, nameIndex := 201, descriptorIndex := 197, attributes := #[] }, { accessFlags := 25, nameIndex := 203, descriptorIndex := 197, attributes := #[] }, { accessFlags := 25, nameIndex := 205, descriptorIndex := 197, attributes := #[] }, { accessFlags := 25, nameIndex := 173, descriptorIndex := 174, attributes := #[] }, { accessFlags := 18, nameIndex := 120, descriptorIndex := 121, attributes := #[] }, { accessFlags := 26, nameIndex := 209, descriptorIndex := 210, attributes := #[] }])
  fields := #[{ name := "POSITIVE_INFINITY", type := .double, accessFlags := 25, slot := 0, constantValue := 0 }, { name := "NEGATIVE_INFINITY", type := .double, accessFlags := 25, slot := 1, constantValue := 0 }, { name := "NaN", type := .double, accessFlags := 25, slot := 2, constantValue := 0 }, { name := "MAX_VALUE", type := .double, accessFlags := 25, slot := 3, constantValue := 0 }, { name := "MIN_NORMAL", type := .double, accessFlags := 25, slot := 4, constantValue := 0 }, { name := "MIN_VALUE", type := .double, accessFlags := 25, slot := 5, constantValue := 0 }, { name := "SIZE", type := .int, accessFlags := 25, slot := 6, constantValue := 0 }, { name := "PRECISION", type := .int, accessFlags := 25, slot := 7, constantValue := 0 }, { name := "MAX_EXPONENT", type := .int, accessFlags := 25, slot := 8, constantValue := 0 }, { name := "MIN_EXPONENT", type := .int, accessFlags := 25, slot := 9, constantValue := 0 }, { name := "BYTES", type := .int, accessFlags := 25, slot := 10, constantValue := 0 }, { name := "TYPE", type := (.object "java/lang/Class"), accessFlags := 25, slot := 11, constantValue := 0 }, { name := "value", type := .double, accessFlags := 18, slot := 0, constantValue := 0 }, { name := "serialVersionUID", type := .long, accessFlags := 26, slot := 12, constantValue := 0 }]
  methods := #[k9m0]
  instanceTypes := #[.double]
  staticTypes := #[.double, .double, .double, .double, .double, .double, .int, .int, .int, .int, .int, (.object "java/lang/Class"), .long]
  resolved := Array.replicate 290 none
  statics := none }

def pool10 : Array CpInfo := pool [(1, .class_ 2), (0, u "java/lang/Math"), (1, .class_ 6), (1, u "java/lang/Object"), (0, u "<init>"), (0, u "()V"), (5, u "(D)D"), (83, .class_ 100), (1, u "java/lang/Math$RandomNumberGeneratorHolder"), (23, u "abs"), (47, u "negativeZeroFloatBits"), (0, u "J"), (2, u "negativeZeroDoubleBits"), (68, u "$assertionsDisabled"), (0, u "Z"), (91, u "twoToTheDoubleScaleDown"), (0, u "D"), (4, u "twoToTheDoubleScaleUp"), (9, u "E"), (3, u "PI"), (2, u "TAU"), (2, u "DEGREES_TO_RADIANS"), (0, u "RADIANS_TO_DEGREES")] 94

def k10m0 : Method := { name := "<init>", desc := "()V", sig := { parameters := [], returnType := none }, accessFlags := 2, code := none }
def k10c1 : Code := { maxStack := 4, maxLocals := 2, code := jdk_29_method_64_code, exceptionTable := #[], attributes := #[] }
def k10m1 : Method := { name := "abs", desc := "(D)D", sig := { parameters := [.double], returnType := some .double }, accessFlags := 9, code := some k10c1 }
/-- java/lang/Math -/
def k10 : Class := { plain "java/lang/Math" (some 0) with
  accessFlags := 49
  interfaces := #[]
  cf := some (fileOf pool10 1 #[.nestMembers #[98]] #[{ accessFlags := 2, nameIndex := 7, descriptorIndex := 8, attributes := #[] }, { accessFlags := 9, nameIndex := 124, descriptorIndex := 14, attributes := #[] }] 49 4 #[] #[{ accessFlags := 25, nameIndex := 354, descriptorIndex := 339, attributes := #[] }, { accessFlags := 25, nameIndex := 358, descriptorIndex := 339, attributes := #[] }, { accessFlags := 25, nameIndex := 361, descriptorIndex := 339, attributes := #[] }, { accessFlags := 26, nameIndex := 364, descriptorIndex := 339, attributes := #[] }, { accessFlags := 26, nameIndex := 365, descriptorIndex := 339, attributes := #[] }, { accessFlags := 26, nameIndex := 172, descriptorIndex := 173, attributes := #[] }, { accessFlags := 26, nameIndex := 176, descriptorIndex := 173, attributes := #[] }, { accessFlags := 8, nameIndex := 344, descriptorIndex := 339, attributes := #[] }, { accessFlags := 8, nameIndex := 338, descriptorIndex := 339, attributes := #[] }, { accessFlags := 4120, nameIndex := 245, descriptorIndex := 246, attributes := #[] }])
  fields := #[{ name := "E", type := .double, accessFlags := 25, slot := 0, constantValue := 0 }, { name := "PI", type := .double, accessFlags := 25, slot := 1, constantValue := 0 }, { name := "TAU", type := .double, accessFlags := 25, slot := 2, constantValue := 0 }, { name := "DEGREES_TO_RADIANS", type := .double, accessFlags := 26, slot := 3, constantValue := 0 }, { name := "RADIANS_TO_DEGREES", type := .double, accessFlags := 26, slot := 4, constantValue := 0 }, { name := "negativeZeroFloatBits", type := .long, accessFlags := 26, slot := 5, constantValue := 0 }, { name := "negativeZeroDoubleBits", type := .long, accessFlags := 26, slot := 6, constantValue := 0 }, { name := "twoToTheDoubleScaleUp", type := .double, accessFlags := 8, slot := 7, constantValue := 0 }, { name := "twoToTheDoubleScaleDown", type := .double, accessFlags := 8, slot := 8, constantValue := 0 }, { name := "$assertionsDisabled", type := .boolean, accessFlags := 4120, slot := 9, constantValue := 0 }]
  methods := #[k10m0, k10m1]
  instanceTypes := #[]
  staticTypes := #[.double, .double, .double, .double, .double, .long, .long, .double, .double, .boolean]
  resolved := Array.replicate 460 none
  statics := none }

def pool11 : Array CpInfo := pool [(1, u "java/lang/Cloneable"), (0, .class_ 1), (0, u "java/lang/Object"), (0, .class_ 3)] 3

/-- java/lang/Cloneable -/
def k11 : Class := { plain "java/lang/Cloneable" (some 0) with
  accessFlags := 1537
  interfaces := #[]
  cf := some (fileOf pool11 2 #[] #[] 1537 4 #[] #[])
  fields := #[]
  methods := #[]
  instanceTypes := #[]
  staticTypes := #[]
  resolved := Array.replicate 8 none
  statics := none }

/-- the primitive byte -/
def k12 : Class := { plain "byte" none with kind := .primitive 'B', accessFlags := 0x411 }
/-- [B -/
def k13 : Class := { plain "[B" (some 0) with kind := .array 12 .byte, interfaces := #[11, 4], accessFlags := 1041 }

/-- the primitive int -/
def k14 : Class := { plain "int" none with kind := .primitive 'I', accessFlags := 0x411 }
/-- [I -/
def k15 : Class := { plain "[I" (some 0) with kind := .array 14 .int, interfaces := #[11, 4], accessFlags := 1041 }

def heap : Heap := #[]
def classes : Array Class := #[k0, k1, k2, k3, k4, k5, k6, k7, k8, k9, k10, k11, k12, k13, k14, k15]
def interned : List (Array UInt16 × Addr) := []
def slotsUsed : Nat := 0
def theMethod : MethodId := ⟨1, 1⟩
def args0 : Array Value := #[.int 5, .int 3]
def aboutOver (below : List Frame) : State where
  vm := { classes := classes, interned := interned.toArray }
  heap := heap
  slotsUsed := slotsUsed
  threads := #[{ frames := .invoking theMethod args0 :: below }]
def below0 : List Frame := [.native { method := ⟨0, 0⟩, args := #[] }]
def about1 : State := aboutOver below0
def p0 : Program := .bare "" "" ""
def e0 : Env := launch0.env 0 0 0
theorem w_frames : about1.frames = Frame.invoking theMethod args0 :: below0 := rfl
set_option maxRecDepth 65536 in
theorem w_args : argsFit about1.vm theMethod args0 = true := by decide +kernel
set_option maxRecDepth 65536 in
theorem w_heap : heapFits about1 = true := by decide +kernel
set_option maxRecDepth 65536 in
theorem w_runnable : about1.curStatus? = some .runnable := by decide +kernel
set_option maxRecDepth 65536 in
theorem w_alone : about1.alone = true := by decide +kernel
set_option maxRecDepth 65536 in
theorem w_named : about1.methodNamed? x = some theMethod := by decide +kernel
set_option maxRecDepth 65536 in
theorem w_hears : about1.hears theMethod below0 = true := by decide +kernel
set_option maxRecDepth 65536 in
theorem w_ripe : about1.ripe theMethod args0 below0 = true := by decide +kernel
theorem w_running : about1.status = .running := rfl
set_option maxRecDepth 65536 in
theorem w_room : about1.hasRoom e0.platform room_1 = true :=
  launch0.hasRoom_least _ room_1 (by decide +kernel) (by decide +kernel) (by decide +kernel) (by decide +kernel) (by decide +kernel) (by decide +kernel)
theorem allAtoms_all (ts : List Jvm.Cond) (a : Array Jvm.Value) (st : Jvm.State) : (allAtoms ts).before a st = ts.all (fun c => c.before a st) := by
  induction ts with
  | nil => rfl
  | cons c t ih =>
    show (Jvm.Cond.and c (allAtoms t)).before a st = _
    rw [Jvm.Cond.before_and, ih, List.all_cons]
def words1 : List Jvm.Cond := Jvm.Cond.code x code maxLocals ret :: tables_1
/-- a 'code' word, met by the world's own term for the bytes: nothing is compared byte by byte -/
theorem code_word {y : MethodName} {bytes : ByteArray} {mx : Nat} {rt : Option FieldType} {a : Array Value} {s : State} {m : MethodId} {meth : Method} {c : Code} (h1 : s.methodNamed? y = some m) (h2 : s.vm.method? m = some meth) (h3 : meth.code = some c) (h4 : c.code = bytes)
    (h5 : (c.maxLocals == mx && c.exceptionTable.isEmpty && decide (c.maxStack ≤ mostOperands) && decide (meth.sig.returnType = rt) && !meth.locks && decide (parseMethodDescriptor y.desc = some meth.sig)) = true) : (Jvm.Cond.code y bytes mx rt).before a s = true := by
  simp only [Bool.and_eq_true, beq_iff_eq, Bool.not_eq_true', decide_eq_true_eq] at h5
  obtain ⟨⟨⟨⟨⟨g1, g2⟩, g3⟩, g4⟩, g5⟩, g6⟩ := h5
  simp [Cond.before, Cond.holds, Cond.value, h1, h2, h3, h4, g1, g2, g3, g4, g5, g6]
def isCode : Jvm.Cond → Bool
  | .code _ _ _ _ => true
  | _ => false
theorem all_split {L : List Jvm.Cond} {P : Jvm.Cond → Bool} (h1 : L.all (fun c => isCode c || P c) = true) (h2 : ∀ c ∈ L.filter isCode, P c = true) : L.all P = true := by
  refine List.all_eq_true.mpr fun c hc => ?_
  have h := List.all_eq_true.mp h1 c hc
  rcases Bool.eq_false_or_eq_true (isCode c) with hi | hi
  · exact h2 c (List.mem_filter.mpr ⟨hc, hi⟩)
  · simpa [hi] using h
set_option maxRecDepth 65536 in
theorem w_c0 : (Jvm.Cond.code x code maxLocals ret).before args0 about1 = true := code_word (m := ⟨1, 1⟩) (meth := k1m1) (c := k1c1) (by decide +kernel) rfl rfl rfl (by decide +kernel)
set_option maxRecDepth 65536 in
theorem w_c1 : (Jvm.Cond.code ({ cls := "com/example/other_words/otherwords/search/FusedModel$Weights", name := "lambda", desc := "(D)Lcom/example/other_words/otherwords/search/FusedModel$Weights;" } : Jvm.MethodName) prog_44_method_3_code (2 : Nat) (Option.some (Jvm.ClassFile.FieldType.object "com/example/other_words/otherwords/search/FusedModel$Weights"))).before args0 about1 = true := code_word (m := ⟨3, 1⟩) (meth := k3m1) (c := k3c1) (by decide +kernel) rfl rfl rfl (by decide +kernel)
set_option maxRecDepth 65536 in
theorem w_c2 : (Jvm.Cond.code ({ cls := "com/example/other_words/otherwords/search/FusedModel$Weights", name := "<init>", desc := "(DD)V" } : Jvm.MethodName) prog_44_method_1_code (5 : Nat) (Option.none : Option Jvm.ClassFile.FieldType)).before args0 about1 = true := code_word (m := ⟨3, 0⟩) (meth := k3m0) (c := k3c0) (by decide +kernel) rfl rfl rfl (by decide +kernel)
set_option maxRecDepth 65536 in
theorem w_c3 : (Jvm.Cond.code ({ cls := "java/lang/Record", name := "<init>", desc := "()V" } : Jvm.MethodName) jdk_30_method_1_code (1 : Nat) (Option.none : Option Jvm.ClassFile.FieldType)).before args0 about1 = true := code_word (m := ⟨2, 0⟩) (meth := k2m0) (c := k2c0) (by decide +kernel) rfl rfl rfl (by decide +kernel)
set_option maxRecDepth 65536 in
theorem w_c4 : (Jvm.Cond.code ({ cls := "java/lang/Object", name := "<init>", desc := "()V" } : Jvm.MethodName) object_method_1_code (1 : Nat) (Option.none : Option Jvm.ClassFile.FieldType)).before args0 about1 = true := code_word (m := ⟨0, 0⟩) (meth := k0m0) (c := k0c0) (by decide +kernel) rfl rfl rfl (by decide +kernel)
set_option maxRecDepth 65536 in
theorem w_c5 : (Jvm.Cond.code ({ cls := "java/lang/Double", name := "isFinite", desc := "(D)Z" } : Jvm.MethodName) jdk_117_method_8_code (2 : Nat) (Option.some Jvm.ClassFile.FieldType.boolean)).before args0 about1 = true := code_word (m := ⟨9, 0⟩) (meth := k9m0) (c := k9c0) (by decide +kernel) rfl rfl rfl (by decide +kernel)
set_option maxRecDepth 65536 in
theorem w_c6 : (Jvm.Cond.code ({ cls := "java/lang/Math", name := "abs", desc := "(D)D" } : Jvm.MethodName) jdk_29_method_64_code (2 : Nat) (Option.some Jvm.ClassFile.FieldType.double)).before args0 about1 = true := code_word (m := ⟨10, 1⟩) (meth := k10m1) (c := k10c1) (by decide +kernel) rfl rfl rfl (by decide +kernel)
set_option maxRecDepth 65536 in
theorem w_c7 : (Jvm.Cond.code ({ cls := "com/example/other_words/otherwords/search/FusedModel$Weights", name := "words", desc := "()D" } : Jvm.MethodName) prog_44_method_7_code (1 : Nat) (Option.some Jvm.ClassFile.FieldType.double)).before args0 about1 = true := code_word (m := ⟨3, 2⟩) (meth := k3m2) (c := k3c2) (by decide +kernel) rfl rfl rfl (by decide +kernel)
set_option maxRecDepth 65536 in
theorem w_c8 : (Jvm.Cond.code ({ cls := "com/example/other_words/otherwords/search/FusedModel$Weights", name := "concepts", desc := "()D" } : Jvm.MethodName) prog_44_method_8_code (1 : Nat) (Option.some Jvm.ClassFile.FieldType.double)).before args0 about1 = true := code_word (m := ⟨3, 3⟩) (meth := k3m3) (c := k3c3) (by decide +kernel) rfl rfl rfl (by decide +kernel)
def codes1 : List Jvm.Cond := [Jvm.Cond.code x code maxLocals ret, Jvm.Cond.code ({ cls := "com/example/other_words/otherwords/search/FusedModel$Weights", name := "lambda", desc := "(D)Lcom/example/other_words/otherwords/search/FusedModel$Weights;" } : Jvm.MethodName) prog_44_method_3_code (2 : Nat) (Option.some (Jvm.ClassFile.FieldType.object "com/example/other_words/otherwords/search/FusedModel$Weights")), Jvm.Cond.code ({ cls := "com/example/other_words/otherwords/search/FusedModel$Weights", name := "<init>", desc := "(DD)V" } : Jvm.MethodName) prog_44_method_1_code (5 : Nat) (Option.none : Option Jvm.ClassFile.FieldType), Jvm.Cond.code ({ cls := "java/lang/Record", name := "<init>", desc := "()V" } : Jvm.MethodName) jdk_30_method_1_code (1 : Nat) (Option.none : Option Jvm.ClassFile.FieldType), Jvm.Cond.code ({ cls := "java/lang/Object", name := "<init>", desc := "()V" } : Jvm.MethodName) object_method_1_code (1 : Nat) (Option.none : Option Jvm.ClassFile.FieldType), Jvm.Cond.code ({ cls := "java/lang/Double", name := "isFinite", desc := "(D)Z" } : Jvm.MethodName) jdk_117_method_8_code (2 : Nat) (Option.some Jvm.ClassFile.FieldType.boolean), Jvm.Cond.code ({ cls := "java/lang/Math", name := "abs", desc := "(D)D" } : Jvm.MethodName) jdk_29_method_64_code (2 : Nat) (Option.some Jvm.ClassFile.FieldType.double), Jvm.Cond.code ({ cls := "com/example/other_words/otherwords/search/FusedModel$Weights", name := "words", desc := "()D" } : Jvm.MethodName) prog_44_method_7_code (1 : Nat) (Option.some Jvm.ClassFile.FieldType.double), Jvm.Cond.code ({ cls := "com/example/other_words/otherwords/search/FusedModel$Weights", name := "concepts", desc := "()D" } : Jvm.MethodName) prog_44_method_8_code (1 : Nat) (Option.some Jvm.ClassFile.FieldType.double)]
set_option maxRecDepth 65536 in
theorem codes_eq : words1.filter isCode = codes1 := rfl
theorem w_codes : ∀ c ∈ words1.filter isCode, c.before args0 about1 = true := by
  rw [codes_eq]
  intro c hc
  simp only [codes1, List.mem_cons, List.not_mem_nil, or_false] at hc
  rcases hc with rfl | rfl | rfl | rfl | rfl | rfl | rfl | rfl | rfl
  · exact w_c0
  · exact w_c1
  · exact w_c2
  · exact w_c3
  · exact w_c4
  · exact w_c5
  · exact w_c6
  · exact w_c7
  · exact w_c8
set_option maxRecDepth 65536 in
theorem w_t1 : (words1.take 24).all (fun c => isCode c || c.before args0 about1) = true := by decide +kernel
set_option maxRecDepth 65536 in
theorem w_t2 : (words1.drop 24).all (fun c => isCode c || c.before args0 about1) = true := by decide +kernel
theorem w_tables : (allAtoms (Jvm.Cond.code x code maxLocals ret :: tables_1)).before args0 about1 = true := by
  rw [allAtoms_all]
  show words1.all (fun c => c.before args0 about1) = true
  refine all_split ?_ w_codes
  rw [← List.take_append_drop 24 words1, List.all_append, w_t1, w_t2]
  rfl
set_option maxRecDepth 65536 in
theorem w_case : (Jvm.Cond.and given_1 narrow_1).before args0 about1 = true := by decide +kernel
theorem w_applies : (headSpec (Jvm.Cond.code x code maxLocals ret :: tables_1) room_1).applies x e0.platform about1 = true :=
  (Spec.applies_iff w_frames).mpr ⟨w_running, w_runnable, w_alone, w_named, w_hears, w_ripe, w_room, w_tables⟩
theorem atStart : AtStart classFile x code maxLocals ret World_1 tables_1 room_1 Calls_1 rest_1 Pre_1 launch0 p0 e0 about1 theMethod args0 below0 :=
  ⟨lists_1, trivial, launch0.admits_env _ _ _, launch0.least_env, fairChoices_fair.cas, fairChoices_fair.clock, w_frames, w_args, w_heap, w_applies, trivial, trivial, w_case⟩
end start1
theorem witness_1 : WitnessClaimed_1 := ⟨start1.p0, start1.e0, start1.about1, start1.theMethod, start1.args0, start1.below0, start1.atStart⟩
end Jvm.Pilot.@@N@@
