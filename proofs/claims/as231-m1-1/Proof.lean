import JvmDerived
import JvmDerived.Pilot.@@N@@Statement
import JvmDerived.Pilot.@@N@@Code
set_option linter.unusedVariables false
set_option linter.unusedSimpArgs false
namespace Jvm.Pilot.@@N@@
open Jvm Jvm.ClassFile Sem Op Lib Jvm.Free Jvm.Stand Jvm.LawKit Jvm.RoadKit Bundle Jvm.Pilot.@@N@@.Jvm.D
namespace Own
section Kit
variable {wd : Bool} {p : Program} {l : Launch} {e : Env} {R : Room} {s : State} {m : MethodId} {args : Array Value} {below : List Frame} {meth : Method} {c : Code} {own : String} {Z : State} {a0 : Array Value} {n0 : Nat} {h0 : Heap} {ws : List Addr} {vm : Vm} {T : State} {h : Heap} {cells slots : Nat}
/-- from A the run comes to B -/
def Go (p : Program) (e : Env) (below : List Frame) (A B : State) : Prop := ∀ t, Steps p.tables e below B t → Steps p.tables e below A t
theorem Go.refl (A : State) : Go p e below A A := fun _ k => k
theorem Go.trans {A B C : State} (x : Go p e below A B) (y : Go p e below B C) : Go p e below A C := fun t k => x t (y t k)
/-- the places in L lie in cells of ws, or in cells made since (at or above k) -/
def FrW (ws : List Addr) (k : Nat) (L : List Loc) : Prop := ∀ y ∈ L, y.base ∈ ws ∨ k ≤ y.base
theorem FrW.nil (ws : List Addr) (k : Nat) : FrW ws k [] := fun _ q => nomatch q
theorem FrW.app {ws : List Addr} {k : Nat} {L L' : List Loc} (N : FrW ws k L) (N' : FrW ws k L') : FrW ws k (L ++ L') := fun y q => (List.mem_append.mp q).elim (N y) (N' y)
theorem FrW.one {ws : List Addr} {k : Nat} {a : Addr} {sl : Nat} (q : a ∈ ws ∨ k ≤ a) : FrW ws k [⟨a, sl⟩] := fun y hy => by cases List.mem_singleton.mp hy; exact q
theorem FrW.fr {ws : List Addr} {k n : Nat} {L : List Loc} (N : FrW ws k L) (h1 : ∀ x ∈ ws, n ≤ x) (h2 : n ≤ k) : Fr n L := fun y hy => (N y hy).elim (h1 _) (Nat.le_trans h2)
/-- where a walk stands: wd = true: it may have interned. h0: the heap at the method's start; ws: the cells of h0 that it may have written; n0: the heap's size at the law's start; vm: the tables of the last step that may have interned -/
def Wk (wd : Bool) (p : Program) (l : Launch) (e : Env) (R : Room) (s : State) (m : MethodId) (args : Array Value) (below : List Frame) (meth : Method) (c : Code) (own : String) (Z : State) (n0 : Nat) (h0 : Heap) (ws : List Addr) (vm : Vm) (T : State) (h : Heap) (cells slots : Nat) : Prop :=
  T.heap = h ∧ p.tables.exec = Jvm.exec ∧ Old Z n0 h ∧ n0 ≤ h0.size ∧ (∀ x ∈ ws, n0 ≤ x) ∧ Keep h0 h ws ∧ s.heap = h0 ∧ Z.Warmed39 vm ∧ vm.findClass own = some m.cls ∧ (wd = false → vm = s.vm) ∧
  ∃ (locs : List Loc) (k : Nat), FrW ws h0.size locs ∧ Stand p l e R (s.setVm vm) m args below meth c T locs cells slots ∧ s.Since vm k ∧ k ≤ h.size
theorem Wk.stand (K : Wk wd p l e R s m args below meth c own Z n0 h0 ws vm T h cells slots) {P : Prop} (f : ∀ (locs : List Loc) (s' : State), Stand p l e R s' m args below meth c T locs cells slots → p.tables.exec = Jvm.exec → Z.Warmed39 s'.vm → s'.vm.findClass own = some m.cls → T.heap = h → P) : P := by
  obtain ⟨e1, hx, O, hn, hw, Kp, hs0, hZ, ho, hv, locs, k, F, X, S, hk⟩ := K
  exact f locs (s.setVm vm) X hx hZ ho e1
theorem Wk.here (K : Wk wd p l e R s m args below meth c own Z n0 h0 ws vm T h cells slots) : At T m c below := K.stand fun _ _ X _ _ _ _ => X.here
theorem Wk.exec (K : Wk wd p l e R s m args below meth c own Z n0 h0 ws vm T h cells slots) : p.tables.exec = Jvm.exec := K.2.1
theorem Wk.old (K : Wk wd p l e R s m args below meth c own Z n0 h0 ws vm T h cells slots) : Old Z n0 h := K.2.2.1
theorem Wk.ext (K : Wk wd p l e R s m args below meth c own Z n0 h0 ws vm T h cells slots) : Ext Z.heap h := K.2.2.1.2
theorem Wk.keep (K : Wk wd p l e R s m args below meth c own Z n0 h0 ws vm T h cells slots) : Keep h0 h ws := K.2.2.2.2.2.1
theorem Wk.fresh (K : Wk wd p l e R s m args below meth c own Z n0 h0 ws vm T h cells slots) {x : Addr} (q : x ∈ ws ∨ h0.size ≤ x) : n0 ≤ x := q.elim (K.2.2.2.2.1 x) (Nat.le_trans K.2.2.2.1)
theorem Wk.more (K : Wk wd p l e R s m args below meth c own Z n0 h0 ws vm T h cells slots) {cells' slots' : Nat} (hc : cells ≤ cells') (hs : slots ≤ slots') : Wk wd p l e R s m args below meth c own Z n0 h0 ws vm T h cells' slots' := by
  obtain ⟨e1, hx, O, hn, hw, Kp, hs0, hZ, ho, hv, locs, k, F, X, S, hk⟩ := K
  exact ⟨e1, hx, O, hn, hw, Kp, hs0, hZ, ho, hv, locs, k, F, X.more hc hs, S, hk⟩
theorem Wk.weaken (K : Wk wd p l e R s m args below meth c own Z n0 h0 [] vm T h cells slots) (ws' : List Addr) (q : ∀ x ∈ ws', n0 ≤ x) : Wk wd p l e R s m args below meth c own Z n0 h0 ws' vm T h cells slots := by
  obtain ⟨e1, hx, O, hn, hw, Kp, hs0, hZ, ho, hv, locs, k, F, X, S, hk⟩ := K
  exact ⟨e1, hx, O, hn, q, ⟨Kp.1, fun x c u _ => Kp.2.1 x c u nin0, Kp.2.2⟩, hs0, hZ, ho, hv, locs, k, fun y hy => (F y hy).elim (fun u => nomatch u) Or.inr, X, S, hk⟩
/-- a step that writes and makes nothing in the heap -/
theorem Wk.pure (K : Wk wd p l e R s m args below meth c own Z n0 h0 ws vm T h cells slots) {P : State → Prop}
    (f : ∀ (locs : List Loc) (s' : State), Stand p l e R s' m args below meth c T locs cells slots → p.tables.exec = Jvm.exec → Z.Warmed39 s'.vm → s'.vm.findClass own = some m.cls → T.heap = h → ∃ T', Stand p l e R s' m args below meth c T' locs cells slots ∧ T'.heap = h ∧ P T') :
    ∃ T', Wk wd p l e R s m args below meth c own Z n0 h0 ws vm T' h cells slots ∧ P T' := by
  obtain ⟨e1, hx, O, hn, hw, Kp, hs0, hZ, ho, hv, locs, k, F, X, S, hk⟩ := K
  obtain ⟨T', X', e', q⟩ := f locs (s.setVm vm) X hx hZ ho e1
  exact ⟨T', ⟨e', hx, O, hn, hw, Kp, hs0, hZ, ho, hv, locs, k, F, X', S, hk⟩, q⟩
/-- a step that makes a cell -/
theorem Wk.made (K : Wk wd p l e R s m args below meth c own Z n0 h0 ws vm T h cells slots) {cells' slots' : Nat} {P : State → Heap → Prop}
    (f : ∀ (locs : List Loc) (s' : State), Stand p l e R s' m args below meth c T locs cells slots → p.tables.exec = Jvm.exec → Z.Warmed39 s'.vm → s'.vm.findClass own = some m.cls → T.heap = h → ∃ T' h', Stand p l e R s' m args below meth c T' locs cells' slots' ∧ T'.heap = h' ∧ Ext h h' ∧ P T' h') :
    ∃ T' h', Wk wd p l e R s m args below meth c own Z n0 h0 ws vm T' h' cells' slots' ∧ Ext h h' ∧ h0.size ≤ h.size ∧ P T' h' := by
  obtain ⟨e1, hx, O, hn, hw, Kp, hs0, hZ, ho, hv, locs, k, F, X, S, hk⟩ := K
  obtain ⟨T', h', X', e', E, q⟩ := f locs (s.setVm vm) X hx hZ ho e1
  exact ⟨T', h', ⟨e', hx, O.ext E, hn, hw, Kp.ext E, hs0, hZ, ho, hv, locs, k, F, X', S, Nat.le_trans hk E.1⟩, E, Kp.1, q⟩
/-- a step that writes one place -/
theorem Wk.wrote (K : Wk wd p l e R s m args below meth c own Z n0 h0 ws vm T h cells slots) {a : Addr} {sl : Nat} {v : Value} (q : a ∈ ws ∨ h0.size ≤ a) {P : State → Heap → Prop}
    (f : ∀ (locs : List Loc) (s' : State), Stand p l e R s' m args below meth c T locs cells slots → p.tables.exec = Jvm.exec → Z.Warmed39 s'.vm → s'.vm.findClass own = some m.cls → T.heap = h → ∃ T' h', Stand p l e R s' m args below meth c T' (locs ++ [⟨a, sl⟩]) cells slots ∧ T'.heap = h' ∧ Wr h h' a sl v ∧ P T' h') :
    ∃ T' h', Wk wd p l e R s m args below meth c own Z n0 h0 ws vm T' h' cells slots ∧ Wr h h' a sl v ∧ P T' h' := by
  have g := K.fresh q
  obtain ⟨e1, hx, O, hn, hw, Kp, hs0, hZ, ho, hv, locs, k, F, X, S, hk⟩ := K
  obtain ⟨T', h', X', e', W, u⟩ := f locs (s.setVm vm) X hx hZ ho e1
  exact ⟨T', h', ⟨e', hx, O.wr W g, hn, hw, Kp.wr W q, hs0, hZ, ho, hv, _, k, F.app (FrW.one q), X', S, by rw [W.size]; exact hk⟩, W, u⟩
theorem Wk.getF (K : Wk wd p l e R s m args below meth c own Z n0 h0 ws vm T h cells slots) {R0 O n d : String} (host : String) {index : Nat} (w : (Cond.fieldLink own index R0 n d).before a0 Z = true ∨ (Cond.fieldLinkNest own index R0 n d host).before a0 Z = true) (via : Via Z R0 O n d) {a : Addr} {v : Value} (F : Fld Z h a O n d v)
    {pc : Nat} {Ls : Array Slot} {rest : List Value} (hd : decode c.code pc = .ok (.getfield index, 3)) :
    ∃ T', Wk wd p l e R s m args below meth c own Z n0 h0 ws vm T' h cells slots ∧ Go p e below (T.setTop (mkF m pc Ls (.ref a :: rest))) (T'.setTop (mkF m (pc + 3) Ls (v :: rest))) :=
  K.pure fun _ _ X hx hZ ho e1 => RoadKit.getF X hx hZ ho w via e1 F (g := mkF m pc Ls (.ref a :: rest)) rfl rfl hd
theorem Wk.getS (K : Wk wd p l e R s m args below meth c own Z n0 h0 ws vm T h cells slots) {R0 O n d : String} (host : String) {index : Nat} (w : (Cond.fieldLink own index R0 n d).before a0 Z = true ∨ (Cond.fieldLinkNest own index R0 n d host).before a0 Z = true) (via : Via Z R0 O n d) {v : Value} (F : Sta Z h O n d v)
    {pc : Nat} {Ls : Array Slot} {rest : List Value} (hd : decode c.code pc = .ok (.getstatic index, 3)) :
    ∃ T', Wk wd p l e R s m args below meth c own Z n0 h0 ws vm T' h cells slots ∧ Go p e below (T.setTop (mkF m pc Ls rest)) (T'.setTop (mkF m (pc + 3) Ls (v :: rest))) :=
  K.pure fun _ _ X hx hZ ho e1 => RoadKit.getS2 X hx hZ ho w via e1 F (g := mkF m pc Ls rest) rfl hd
theorem Wk.putF (K : Wk wd p l e R s m args below meth c own Z n0 h0 ws vm T h cells slots) {R0 O n d C : String} (host : String) {index kk : Nat} {ty : FieldType} (w : (Cond.fieldLink own index R0 n d).before a0 Z = true ∨ (Cond.fieldLinkNest own index R0 n d host).before a0 Z = true) (via : Via Z R0 O n d) {a : Addr} {v old : Value} (F : Fld Z h a O n d old) (E : Exa Z h a C)
    (L : (Cond.lays C O n d).before a0 Z = true ∨ ((Cond.laysFinal C O n d).before a0 Z = true ∧ own = O ∧ meth.name = "<init>")) (wi : (Cond.instantiable C kk).before a0 Z = true) (hty : parseFieldDescriptor d = some ty) (hn : narrow ty v = v) (hf : fits ty v = true) (q : a ∈ ws ∨ h0.size ≤ a)
    {pc : Nat} {Ls : Array Slot} {rest : List Value} (hd : decode c.code pc = .ok (.putfield index, 3)) :
    ∃ T' h', Wk wd p l e R s m args below meth c own Z n0 h0 ws vm T' h' cells slots ∧ Wr h h' a (RoadKit.slotOf Z O n d) v ∧ Go p e below (T.setTop (mkF m pc Ls (v :: .ref a :: rest))) (T'.setTop (mkF m (pc + 3) Ls rest)) :=
  K.wrote q fun _ _ X hx hZ ho e1 => RoadKit.putF X hx hZ ho w via e1 F E L wi hty hn hf (g := mkF m pc Ls (v :: .ref a :: rest)) rfl rfl hd
theorem Wk.initO (K : Wk wd p l e R s m args below meth c own Z n0 h0 ws vm T h cells slots) {idx : Nat} (w1 : (Cond.methodLink own idx Lib.objectInit).before a0 Z = true) (w2 : (Cond.instanceMethod Lib.objectInit).before a0 Z = true) (w3 : (Cond.code Lib.objectInit ⟨#[0xb1]⟩ 1 none).before a0 Z = true)
    {a : Addr} {pc : Nat} {Ls : Array Slot} {rest : List Value} (hsz : Ls.size = c.maxLocals) (hd : decode c.code pc = .ok (.invokespecial idx, 3)) (hf : 1 ≤ R.frames) {W : Nat} (hW : (rest.map fun v => v.category).sum ≤ W) (hl : W + 12 ≤ R.locals) :
    ∃ T', Wk wd p l e R s m args below meth c own Z n0 h0 ws vm T' h cells slots ∧ Go p e below (T.setTop (mkF m pc Ls (.ref a :: rest))) (T'.setTop (mkF m (pc + 3) Ls rest)) :=
  K.pure fun _ _ X hx hZ ho e1 => RoadKit.initO X hx hZ ho w1 w2 w3 e1 (g := mkF m pc Ls (.ref a :: rest)) rfl hsz rfl hd hf (W := W) (by show 2 * 0 + _ ≤ _; simpa using hW) hl
theorem Wk.castY (K : Wk wd p l e R s m args below meth c own Z n0 h0 ws vm T h cells slots) {C : String} {index : Nat} (w : (Cond.classLink own index C).before a0 Z = true) {a : Addr} (F : Ins Z h a C true) {pc : Nat} {Ls : Array Slot} {rest : List Value} (hd : decode c.code pc = .ok (.checkcast index, 3)) :
    ∃ T', Wk wd p l e R s m args below meth c own Z n0 h0 ws vm T' h cells slots ∧ Go p e below (T.setTop (mkF m pc Ls (.ref a :: rest))) (T'.setTop (mkF m (pc + 3) Ls (.ref a :: rest))) :=
  K.pure fun _ _ X hx hZ ho e1 => RoadKit.castY X hx hZ ho w e1 F (g := mkF m pc Ls (.ref a :: rest)) rfl rfl hd
theorem Wk.instY (K : Wk wd p l e R s m args below meth c own Z n0 h0 ws vm T h cells slots) {C : String} {index : Nat} (w : (Cond.classLink own index C).before a0 Z = true) {a : Addr} (F : Ins Z h a C true) {pc : Nat} {Ls : Array Slot} {rest : List Value} (hd : decode c.code pc = .ok (.instanceof index, 3)) :
    ∃ T', Wk wd p l e R s m args below meth c own Z n0 h0 ws vm T' h cells slots ∧ Go p e below (T.setTop (mkF m pc Ls (.ref a :: rest))) (T'.setTop (mkF m (pc + 3) Ls (.int 1 :: rest))) :=
  K.pure fun _ _ X hx hZ ho e1 => RoadKit.instY X hx hZ ho w e1 F (g := mkF m pc Ls (.ref a :: rest)) rfl rfl hd
theorem Wk.instNo (K : Wk wd p l e R s m args below meth c own Z n0 h0 ws vm T h cells slots) {C D : String} {index : Nat} (w : (Cond.classLink own index C).before a0 Z = true) {a : Addr} (E : Exa Z h a D) (F : ∃ c t, Z.vm.findClass D = some c ∧ Z.vm.findClass C = some t ∧ Z.vm.assignable c t = false) {pc : Nat} {Ls : Array Slot} {rest : List Value} (hd : decode c.code pc = .ok (.instanceof index, 3)) :
    ∃ T', Wk wd p l e R s m args below meth c own Z n0 h0 ws vm T' h cells slots ∧ Go p e below (T.setTop (mkF m pc Ls (.ref a :: rest))) (T'.setTop (mkF m (pc + 3) Ls (.int 0 :: rest))) :=
  K.pure fun _ _ X hx hZ ho e1 => RoadKit.instNo X hx hZ ho w e1 E F (g := mkF m pc Ls (.ref a :: rest)) rfl rfl hd
theorem Wk.instNull (K : Wk wd p l e R s m args below meth c own Z n0 h0 ws vm T h cells slots) {index : Nat} {pc : Nat} {Ls : Array Slot} {rest : List Value} (hd : decode c.code pc = .ok (.instanceof index, 3)) :
    Go p e below (T.setTop (mkF m pc Ls (.null :: rest))) (T.setTop (mkF m (pc + 3) Ls (.int 0 :: rest))) := by
  exact K.stand fun _ _ X hx _ _ _ => X.instanceofNull hx (g := mkF m pc Ls (.null :: rest)) rfl rfl hd
theorem Wk.newO (K : Wk wd p l e R s m args below meth c own Z n0 h0 ws vm T h cells slots) {C : String} {index n : Nat} (w : (Cond.classLink own index C).before a0 Z = true) (wi : (Cond.instantiable C n).before a0 Z = true) (wz : (Cond.initialized C).before a0 Z = true)
    {pc : Nat} {Ls : Array Slot} {rest : List Value} (hd : decode c.code pc = .ok (.new index, 3)) (hc : cells + 1 ≤ R.cells) (hl : slots + n ≤ R.slots) :
    ∃ T' h' a, Wk wd p l e R s m args below meth c own Z n0 h0 ws vm T' h' (cells + 1) (slots + n) ∧ Ext h h' ∧ h0.size ≤ a ∧ h.size ≤ a ∧ (∀ x, x < h.size → x ≠ a) ∧ Exa Z h' a C ∧
      (∀ {O nm d : String} {ty : FieldType}, Laid Z a0 C O nm d → parseFieldDescriptor d = some ty → Fld Z h' a O nm d (defaultValue ty)) ∧ Go p e below (T.setTop (mkF m pc Ls rest)) (T'.setTop (mkF m (pc + 3) Ls (.ref a :: rest))) := by
  obtain ⟨T', h', K', E, g, A, D, st⟩ := K.made (P := fun T' h' => Exa Z h' h.size C ∧ (∀ {O nm d : String} {ty : FieldType}, Laid Z a0 C O nm d → parseFieldDescriptor d = some ty → Fld Z h' h.size O nm d (defaultValue ty)) ∧ Go p e below (T.setTop (mkF m pc Ls rest)) (T'.setTop (mkF m (pc + 3) Ls (.ref h.size :: rest))))
    fun _ _ X hx hZ ho e1 => by
      obtain ⟨T', h', X', e', E, A, D, -, st⟩ := RoadKit.newO X hx hZ ho w wi wz e1 (g := mkF m pc Ls rest) rfl hd hc hl
      exact ⟨T', h', X', e', E, A, D, st⟩
  exact ⟨T', h', h.size, K', E, g, Nat.le_refl _, fun x q => Nat.ne_of_lt q, A, D, st⟩
theorem Wk.newP (K : Wk wd p l e R s m args below meth c own Z n0 h0 ws vm T h cells slots) {aty : ArrayType} (w : (Cond.arrayClass (newarray.typeOf aty)).before a0 Z = true) {n : Int32} {pc : Nat} {Ls : Array Slot} {rest : List Value} (hd : decode c.code pc = .ok (.newarray aty, 2)) (cap : Nat) (hn : ¬ n < 0) (hcap : n.toNatClampNeg ≤ cap) (hb : cap * 8 ≤ 536870912) (hc : cells + 1 ≤ R.cells) (hl : slots + cap ≤ R.slots) :
    ∃ T' h' a cA, Wk wd p l e R s m args below meth c own Z n0 h0 ws vm T' h' (cells + 1) (slots + cap) ∧ Ext h h' ∧ h0.size ≤ a ∧ h.size ≤ a ∧ (∀ x, x < h.size → x ≠ a) ∧ Arv Z h' a cA (newarray.typeOf aty) n [] (defaultValue (newarray.typeOf aty)) ∧ Go p e below (T.setTop (mkF m pc Ls (.int n :: rest))) (T'.setTop (mkF m (pc + 2) Ls (.ref a :: rest))) := by
  obtain ⟨T', h', K', E, g, cA, A, st⟩ := K.made (P := fun T' h' => ∃ cA, Arr Z h' h.size (newA cA (newarray.typeOf aty) n) (newarray.typeOf aty) ∧ Go p e below (T.setTop (mkF m pc Ls (.int n :: rest))) (T'.setTop (mkF m (pc + 2) Ls (.ref h.size :: rest))))
    fun _ _ X hx hZ ho e1 => by
      obtain ⟨T', h', cA, X', e', E, A, st⟩ := RoadKit.newP X hx hZ w e1 (g := mkF m pc Ls (.int n :: rest)) rfl hd rfl hn hcap hb hc hl
      exact ⟨T', h', X', e', E, cA, A, st⟩
  exact ⟨T', h', h.size, cA, K', E, g, Nat.le_refl _, fun x q => Nat.ne_of_lt q, Arv.new A hn, st⟩
theorem Wk.newR (K : Wk wd p l e R s m args below meth c own Z n0 h0 ws vm T h cells slots) {C : String} {index : Nat} (w1 : (Cond.classLink own index C).before a0 Z = true) (w2 : (Cond.arrayOver (.object C)).before a0 Z = true) {n : Int32} {pc : Nat} {Ls : Array Slot} {rest : List Value} (hd : decode c.code pc = .ok (.anewarray index, 3)) (cap : Nat) (hn : ¬ n < 0) (hcap : n.toNatClampNeg ≤ cap) (hb : cap * 8 ≤ 536870912) (hc : cells + 1 ≤ R.cells) (hl : slots + cap ≤ R.slots) {ad : String} (had : "[" ++ (FieldType.object C).toString = ad) :
    ∃ T' h' a cA, Wk wd p l e R s m args below meth c own Z n0 h0 ws vm T' h' (cells + 1) (slots + cap) ∧ Ext h h' ∧ h0.size ≤ a ∧ h.size ≤ a ∧ (∀ x, x < h.size → x ≠ a) ∧ Arv Z h' a cA (.object C) n [] .null ∧ Exa Z h' a ad ∧ Ovr Z cA C ∧ Go p e below (T.setTop (mkF m pc Ls (.int n :: rest))) (T'.setTop (mkF m (pc + 3) Ls (.ref a :: rest))) := by
  obtain ⟨T', h', K', E, g, cA, A, Ea, O, st⟩ := K.made (P := fun T' h' => ∃ cA, Arr Z h' h.size (newA cA (.object C) n) (.object C) ∧ Exa Z h' h.size ad ∧ Ovr Z cA C ∧ Go p e below (T.setTop (mkF m pc Ls (.int n :: rest))) (T'.setTop (mkF m (pc + 3) Ls (.ref h.size :: rest))))
    fun _ _ X hx hZ ho e1 => by
      obtain ⟨T', h', cA, X', e', E, A, Ea, O, st⟩ := RoadKit.newRE X hx hZ ho w1 w2 e1 (g := mkF m pc Ls (.int n :: rest)) rfl hd rfl hn hcap hb hc hl had
      exact ⟨T', h', X', e', E, cA, A, Ea, O, st⟩
  exact ⟨T', h', h.size, cA, K', E, g, Nat.le_refl _, fun x q => Nat.ne_of_lt q, Arv.new A hn, Ea, O, st⟩
theorem Wk.newRA (K : Wk wd p l e R s m args below meth c own Z n0 h0 ws vm T h cells slots) {C : String} {ty : FieldType} {index : Nat} (hC : (FieldType.array ty).toString = C) (w1 : (Cond.classLink own index C).before a0 Z = true) (w2 : (Cond.arrayOver (.array ty)).before a0 Z = true) {n : Int32} {pc : Nat} {Ls : Array Slot} {rest : List Value} (hd : decode c.code pc = .ok (.anewarray index, 3)) (cap : Nat) (hn : ¬ n < 0) (hcap : n.toNatClampNeg ≤ cap) (hb : cap * 8 ≤ 536870912) (hc : cells + 1 ≤ R.cells) (hl : slots + cap ≤ R.slots) {ad : String} (had : "[" ++ C = ad) :
    ∃ T' h' a cA, Wk wd p l e R s m args below meth c own Z n0 h0 ws vm T' h' (cells + 1) (slots + cap) ∧ Ext h h' ∧ h0.size ≤ a ∧ h.size ≤ a ∧ (∀ x, x < h.size → x ≠ a) ∧ Arv Z h' a cA (.array ty) n [] .null ∧ Exa Z h' a ad ∧ OvrA Z cA ty C ∧ Go p e below (T.setTop (mkF m pc Ls (.int n :: rest))) (T'.setTop (mkF m (pc + 3) Ls (.ref a :: rest))) := by
  obtain ⟨T', h', K', E, g, cA, A, Ea, O, st⟩ := K.made (P := fun T' h' => ∃ cA, Arr Z h' h.size (newA cA (.array ty) n) (.array ty) ∧ Exa Z h' h.size ad ∧ OvrA Z cA ty C ∧ Go p e below (T.setTop (mkF m pc Ls (.int n :: rest))) (T'.setTop (mkF m (pc + 3) Ls (.ref h.size :: rest))))
    fun _ _ X hx hZ ho e1 => by
      obtain ⟨T', h', cA, X', e', E, A, Ea, O, st⟩ := RoadKit.newRA X hx hZ ho hC w1 w2 e1 (g := mkF m pc Ls (.int n :: rest)) rfl hd rfl hn hcap hb hc hl had
      exact ⟨T', h', X', e', E, cA, A, Ea, O, st⟩
  exact ⟨T', h', h.size, cA, K', E, g, Nat.le_refl _, fun x q => Nat.ne_of_lt q, Arv.new A hn, Ea, O, st⟩
/-- stores into an array whose components are all known -/
theorem Wk.stC (K : Wk wd p l e R s m args below meth c own Z n0 h0 ws vm T h cells slots) {a : Addr} {cA : ClassId} {z : Int32} {vs : List Value} {dv : Value} (F : Arv Z h a cA .char z vs dv) {j x : Int32} (hj : ¬ j < 0 ∧ j < z) (i : Nat) (hi : j.toNatClampNeg = i) (hl : i < vs.length) (q : a ∈ ws ∨ h0.size ≤ a) {pc : Nat} {Ls : Array Slot} {rest : List Value} (hd : decode c.code pc = .ok (.castore, 1)) :
    ∃ T' h', Wk wd p l e R s m args below meth c own Z n0 h0 ws vm T' h' cells slots ∧ Wr h h' a j.toNatClampNeg (.int (nar .char x)) ∧ Arv Z h' a cA .char z (vs.set i (.int (nar .char x))) dv ∧ Go p e below (T.setTop (mkF m pc Ls (.int x :: .int j :: .ref a :: rest))) (T'.setTop (mkF m (pc + 1) Ls rest)) := by
  obtain ⟨cl, A, q1, S, q3, H, G⟩ := F
  obtain ⟨T', h', K', W, st⟩ := K.wrote q (P := fun T' h' => Go p e below (T.setTop (mkF m pc Ls (.int x :: .int j :: .ref a :: rest))) (T'.setTop (mkF m (pc + 1) Ls rest))) fun _ _ X hx hZ ho e1 => RoadKit.stC X hx hZ e1 A (inb_of S hj) (g := mkF m pc Ls (.int x :: .int j :: .ref a :: rest)) rfl rfl hd
  exact ⟨T', h', K', W, Arv.set A q1 S q3 H G (fits_nar_char x) W i hi hl, st⟩
theorem Wk.stB (K : Wk wd p l e R s m args below meth c own Z n0 h0 ws vm T h cells slots) {a : Addr} {cA : ClassId} {z : Int32} {vs : List Value} {dv : Value} (F : Arv Z h a cA .byte z vs dv) {j x : Int32} (hj : ¬ j < 0 ∧ j < z) (i : Nat) (hi : j.toNatClampNeg = i) (hl : i < vs.length) (q : a ∈ ws ∨ h0.size ≤ a) {pc : Nat} {Ls : Array Slot} {rest : List Value} (hd : decode c.code pc = .ok (.bastore, 1)) :
    ∃ T' h', Wk wd p l e R s m args below meth c own Z n0 h0 ws vm T' h' cells slots ∧ Wr h h' a j.toNatClampNeg (.int (nar .byte x)) ∧ Arv Z h' a cA .byte z (vs.set i (.int (nar .byte x))) dv ∧ Go p e below (T.setTop (mkF m pc Ls (.int x :: .int j :: .ref a :: rest))) (T'.setTop (mkF m (pc + 1) Ls rest)) := by
  obtain ⟨cl, A, q1, S, q3, H, G⟩ := F
  obtain ⟨T', h', K', W, st⟩ := K.wrote q (P := fun T' h' => Go p e below (T.setTop (mkF m pc Ls (.int x :: .int j :: .ref a :: rest))) (T'.setTop (mkF m (pc + 1) Ls rest))) fun _ _ X hx hZ ho e1 => RoadKit.stB X hx hZ e1 A (inb_of S hj) (g := mkF m pc Ls (.int x :: .int j :: .ref a :: rest)) rfl rfl hd
  exact ⟨T', h', K', W, Arv.set A q1 S q3 H G (fits_nar_byte x) W i hi hl, st⟩
theorem Wk.stI (K : Wk wd p l e R s m args below meth c own Z n0 h0 ws vm T h cells slots) {a : Addr} {cA : ClassId} {z : Int32} {vs : List Value} {dv : Value} (F : Arv Z h a cA .int z vs dv) {j x : Int32} (hj : ¬ j < 0 ∧ j < z) (i : Nat) (hi : j.toNatClampNeg = i) (hl : i < vs.length) (q : a ∈ ws ∨ h0.size ≤ a) {pc : Nat} {Ls : Array Slot} {rest : List Value} (hd : decode c.code pc = .ok (.iastore, 1)) :
    ∃ T' h', Wk wd p l e R s m args below meth c own Z n0 h0 ws vm T' h' cells slots ∧ Wr h h' a j.toNatClampNeg (.int x) ∧ Arv Z h' a cA .int z (vs.set i (.int x)) dv ∧ Go p e below (T.setTop (mkF m pc Ls (.int x :: .int j :: .ref a :: rest))) (T'.setTop (mkF m (pc + 1) Ls rest)) := by
  obtain ⟨cl, A, q1, S, q3, H, G⟩ := F
  obtain ⟨T', h', K', W, st⟩ := K.wrote q (P := fun T' h' => Go p e below (T.setTop (mkF m pc Ls (.int x :: .int j :: .ref a :: rest))) (T'.setTop (mkF m (pc + 1) Ls rest))) fun _ _ X hx hZ ho e1 => RoadKit.stI X hx hZ e1 A (inb_of S hj) (g := mkF m pc Ls (.int x :: .int j :: .ref a :: rest)) rfl rfl hd
  exact ⟨T', h', K', W, Arv.set A q1 S q3 H G rfl W i hi hl, st⟩
theorem Wk.stR (K : Wk wd p l e R s m args below meth c own Z n0 h0 ws vm T h cells slots) {a : Addr} {cA : ClassId} {ty : FieldType} {z : Int32} {vs : List Value} {dv : Value} (F : Arv Z h a cA ty z vs dv) (hty : ty.isReference = true) {j : Int32} {v : Value} (hv : fits ty v = true) (Sv : Sto Z h a v) (hj : ¬ j < 0 ∧ j < z) (i : Nat) (hi : j.toNatClampNeg = i) (hl : i < vs.length) (q : a ∈ ws ∨ h0.size ≤ a) {pc : Nat} {Ls : Array Slot} {rest : List Value} (hd : decode c.code pc = .ok (.aastore, 1)) :
    ∃ T' h', Wk wd p l e R s m args below meth c own Z n0 h0 ws vm T' h' cells slots ∧ Wr h h' a j.toNatClampNeg v ∧ Arv Z h' a cA ty z (vs.set i v) dv ∧ Go p e below (T.setTop (mkF m pc Ls (v :: .int j :: .ref a :: rest))) (T'.setTop (mkF m (pc + 1) Ls rest)) := by
  obtain ⟨cl, A, q1, S, q3, H, G⟩ := F
  obtain ⟨T', h', K', W, st⟩ := K.wrote q (P := fun T' h' => Go p e below (T.setTop (mkF m pc Ls (v :: .int j :: .ref a :: rest))) (T'.setTop (mkF m (pc + 1) Ls rest))) fun _ _ X hx hZ ho e1 => RoadKit.stR X hx hZ e1 A (inb_of S hj) hty Sv (g := mkF m pc Ls (v :: .int j :: .ref a :: rest)) rfl rfl hd
  exact ⟨T', h', K', W, Arv.set A q1 S q3 H G hv W i hi hl, st⟩
theorem Wk.len (K : Wk wd p l e R s m args below meth c own Z n0 h0 ws vm T h cells slots) {a : Addr} {cA : ClassId} {ty : FieldType} {z : Int32} {vs : List Value} {dv : Value} (F : Arv Z h a cA ty z vs dv) {pc : Nat} {Ls : Array Slot} {rest : List Value} (hd : decode c.code pc = .ok (.arraylength, 1)) :
    Go p e below (T.setTop (mkF m pc Ls (.ref a :: rest))) (T.setTop (mkF m (pc + 1) Ls (.int z :: rest))) := by
  obtain ⟨cl, A, q1, S, q3, H, G⟩ := F
  exact K.stand fun _ _ X hx hZ ho e1 t k => X.arraylength hx (by rw [e1]; exact A.1) (State.isArrayOf_alike hZ.alike A.2.1) (g := mkF m pc Ls (.ref a :: rest)) rfl rfl hd t (by rw [len_of S q3]; exact k)
theorem Wk.ldC (K : Wk wd p l e R s m args below meth c own Z n0 h0 ws vm T h cells slots) {a : Addr} {cA : ClassId} {z : Int32} {vs : List Value} {dv v : Value} (F : Arv Z h a cA .char z vs dv) {j : Int32} (hj : ¬ j < 0 ∧ j < z) (hv : vs.getD j.toNatClampNeg dv = v) {pc : Nat} {Ls : Array Slot} {rest : List Value} (hd : decode c.code pc = .ok (.caload, 1)) :
    Go p e below (T.setTop (mkF m pc Ls (.int j :: .ref a :: rest))) (T.setTop (mkF m (pc + 1) Ls (v :: rest))) := by
  obtain ⟨cl, A, q1, S, q3, H, G⟩ := F
  exact K.stand fun _ _ X hx hZ ho e1 t k => X.caload hx (by rw [e1]; exact A.1) (State.isArrayOf_alike hZ.alike A.2.1) A.2.2 (inb_of S hj) (Has.at H (inb_of S hj) hv) (g := mkF m pc Ls (.int j :: .ref a :: rest)) rfl rfl hd t k
theorem Wk.ldB (K : Wk wd p l e R s m args below meth c own Z n0 h0 ws vm T h cells slots) {a : Addr} {cA : ClassId} {z : Int32} {vs : List Value} {dv v : Value} (F : Arv Z h a cA .byte z vs dv) {j : Int32} (hj : ¬ j < 0 ∧ j < z) (hv : vs.getD j.toNatClampNeg dv = v) {pc : Nat} {Ls : Array Slot} {rest : List Value} (hd : decode c.code pc = .ok (.baload, 1)) :
    Go p e below (T.setTop (mkF m pc Ls (.int j :: .ref a :: rest))) (T.setTop (mkF m (pc + 1) Ls (v :: rest))) := by
  obtain ⟨cl, A, q1, S, q3, H, G⟩ := F
  exact K.stand fun _ _ X hx hZ ho e1 t k => X.baloadBytes hx (by rw [e1]; exact A.1) (State.isArrayOf_alike hZ.alike A.2.1) A.2.2 (inb_of S hj) (Has.at H (inb_of S hj) hv) (g := mkF m pc Ls (.int j :: .ref a :: rest)) rfl rfl hd t k
theorem Wk.ldI (K : Wk wd p l e R s m args below meth c own Z n0 h0 ws vm T h cells slots) {a : Addr} {cA : ClassId} {z : Int32} {vs : List Value} {dv v : Value} (F : Arv Z h a cA .int z vs dv) {j : Int32} (hj : ¬ j < 0 ∧ j < z) (hv : vs.getD j.toNatClampNeg dv = v) {pc : Nat} {Ls : Array Slot} {rest : List Value} (hd : decode c.code pc = .ok (.iaload, 1)) :
    Go p e below (T.setTop (mkF m pc Ls (.int j :: .ref a :: rest))) (T.setTop (mkF m (pc + 1) Ls (v :: rest))) := by
  obtain ⟨cl, A, q1, S, q3, H, G⟩ := F
  exact K.stand fun _ _ X hx hZ ho e1 t k => X.iaload hx (by rw [e1]; exact A.1) (State.isArrayOf_alike hZ.alike A.2.1) A.2.2 (inb_of S hj) (Has.at H (inb_of S hj) hv) (g := mkF m pc Ls (.int j :: .ref a :: rest)) rfl rfl hd t k
theorem Wk.ldR (K : Wk wd p l e R s m args below meth c own Z n0 h0 ws vm T h cells slots) {a : Addr} {cA : ClassId} {ty : FieldType} {z : Int32} {vs : List Value} {dv v : Value} (F : Arv Z h a cA ty z vs dv) (hty : ty.isReference = true) {j : Int32} (hj : ¬ j < 0 ∧ j < z) (hv : vs.getD j.toNatClampNeg dv = v) {pc : Nat} {Ls : Array Slot} {rest : List Value} (hd : decode c.code pc = .ok (.aaload, 1)) :
    Go p e below (T.setTop (mkF m pc Ls (.int j :: .ref a :: rest))) (T.setTop (mkF m (pc + 1) Ls (v :: rest))) := by
  obtain ⟨cl, A, q1, S, q3, H, G⟩ := F
  exact K.stand fun _ _ X hx hZ ho e1 t k => X.aaload hx (by rw [e1]; exact A.1) (State.isArrayOf_alike hZ.alike A.2.1) hty A.2.2 (inb_of S hj) (Has.at H (inb_of S hj) hv) (g := mkF m pc Ls (.int j :: .ref a :: rest)) rfl rfl hd t k
theorem Wk.ldcI (K : Wk wd p l e R s m args below meth c own Z n0 h0 ws vm T h cells slots) {index : Nat} {v : Int32} (w : (Cond.constant own index v).before a0 Z = true) {pc : Nat} {Ls : Array Slot} {rest : List Value} (hd : decode c.code pc = .ok (.ldc index, 2)) :
    Go p e below (T.setTop (mkF m pc Ls rest)) (T.setTop (mkF m (pc + 2) Ls (.int v :: rest))) :=
  K.stand fun _ _ X hx hZ ho e1 t k => X.ldcI hx ho (mvT hZ w) (g := mkF m pc Ls rest) rfl hd k
/-- what is said of the tables stays true of warmer ones -/
def VCl (V : Vm → Prop) : Prop := ∀ (s : State) (vm' : Vm), V s.vm → s.WarmedH vm' → V vm'
def VT : Vm → Prop := fun _ => True
theorem VT.cl : VCl VT := fun _ _ _ _ => trivial
/-- what pays a call: of either width; V: what must be known of the tables -/
def Pay (wd : Bool) (l : Launch) (R : Room) (p : Program) (e : Env) (below : List Frame) (args : Array Value) (y : MethodName) (len W : Nat) (Z : State) (h : Heap) (V : Vm → Prop) (as' : Array Value) (kc ks : Nat) (ws' : List Addr) (Q : Option Value → Heap → Vm → Prop) : Prop :=
  ∀ s' : State, Z.Warmed39 s'.vm → V s'.vm → (match wd with
    | false => Back l R p e below s' args y len W (fun A a => a = as' ∧ A.U.heap = h ∧ A.cells + kc ≤ R.cells ∧ A.slots + ks ≤ R.slots) (fun A _ v B => ∃ L, (Q v B.U.heap B.U.vm ∧ Keep h B.U.heap ws' ∧ FrW ws' h.size L) ∧ B.locs = A.locs ++ L ∧ B.cells = A.cells + kc ∧ B.slots = A.slots + ks)
    | true => BackS l R p e below s' args y len W (fun A a => a = as' ∧ A.U.heap = h ∧ A.cells + kc ≤ R.cells ∧ A.slots + ks ≤ R.slots) (fun A _ v B => ∃ L, (Q v B.U.heap B.U.vm ∧ Keep h B.U.heap ws' ∧ FrW ws' h.size L) ∧ B.locs = A.locs ++ L ∧ B.cells = A.cells + kc ∧ B.slots = A.slots + ks))
theorem Pay.ofBack {y : MethodName} {len W : Nat} {as' : Array Value} {kc ks : Nat} {ws' : List Addr} {V : Vm → Prop} {Q : Option Value → Heap → Vm → Prop} {Q0 : Option Value → Heap → List Loc → Prop}
    (f : ∀ s' : State, Z.Warmed39 s'.vm → Back l R p e below s' args y len W (fun A a => a = as' ∧ A.U.heap = h ∧ A.cells + kc ≤ R.cells ∧ A.slots + ks ≤ R.slots) (fun A _ v B => ∃ L, Q0 v B.U.heap L ∧ B.locs = A.locs ++ L ∧ B.cells = A.cells + kc ∧ B.slots = A.slots + ks))
    (hV : VCl V) (g : ∀ v h' vm' L, Q0 v h' L → V vm' → Q v h' vm' ∧ Keep h h' ws' ∧ FrW ws' h.size L) : Pay wd l R p e below args y len W Z h V as' kc ks ws' Q := by
  intro s' hZ hv
  have b : Back l R p e below s' args y len W (fun A a => a = as' ∧ A.U.heap = h ∧ A.cells + kc ≤ R.cells ∧ A.slots + ks ≤ R.slots) (fun A _ v B => A.U.heap = h ∧ ∃ L, (Q v B.U.heap B.U.vm ∧ Keep h B.U.heap ws' ∧ FrW ws' h.size L) ∧ B.locs = A.locs ++ L ∧ B.cells = A.cells + kc ∧ B.slots = A.slots + ks) := by
    intro m meth c A gg ig mk a X hg hsize hdg hW hn hp
    obtain ⟨v, B, X', ⟨L, q, r⟩, hst⟩ := f s' hZ m meth c A gg ig mk a X hg hsize hdg hW hn hp
    exact ⟨v, B, X', ⟨hp.2.1, L, g _ _ _ _ q (hV _ _ hv X'.warmed), r⟩, hst⟩
  cases wd
  · exact Back.mono b (fun A a hp => hp) (fun A a v B hp q => q.2)
  · have b' := BackS.of_back b (fun A a v B ⟨q, L, ⟨_, k, _⟩, _⟩ => by rw [q]; exact k.1)
    intro m meth c A gg ig mk a X hg hsize hdg hW hn hp
    obtain ⟨v, B, X', hS, hgr, hpost, hst⟩ := b' m meth c A gg ig mk a X hg hsize hdg hW hn hp
    exact ⟨v, B, X', hS, hgr, hpost.2, hst⟩
/-- a method's contract -/
def Ctr (wd : Bool) (l : Launch) (y : MethodName) (bytes : ByteArray) (maxL : Nat) (ret : Option FieldType) (rm : Room) (as' : Array Value) (Z : State) (h0 : Heap) (V : Vm → Prop) (ws : List Addr) (Q : Option Value → Heap → Vm → Prop) : Prop :=
  ∀ wds : List Jvm.Cond, MetFree l y (head1 (Cond.code y bytes maxL ret :: wds) rm) (fun a U => a = as' ∧ Z.Warmed39 U.vm ∧ U.heap = h0 ∧ V U.vm) (fun _ _ _ _ _ => True)
    (fun _ U o U' => ∃ v L, o = .returned v ∧ (Q v U'.heap U'.vm ∧ Keep h0 U'.heap ws ∧ FrW ws h0.size L) ∧ (match wd with | false => FrameEnd U o U' L rm.cells rm.slots | true => ReturnedEndW U o U' L rm.cells rm.slots))
theorem Ctr.pay {y : MethodName} {bytes : ByteArray} {maxL : Nat} {ret : Option FieldType} {rm : Room} {as' : Array Value} {ws' : List Addr} {V : Vm → Prop} {Q : Option Value → Heap → Vm → Prop} {len W : Nat} (H : Ctr wd l y bytes maxL ret rm as' Z h V ws' Q) (hV : VCl V)
    (wc : (Cond.code y bytes maxL ret).before a0 Z = true) (wz : (Cond.initialized y.cls).before a0 Z = true) (hf : rm.frames + 1 ≤ R.frames) (hl : W + (maxL + 11) + rm.locals ≤ R.locals) :
    Pay wd l R p e below args y len W Z h V as' rm.cells rm.slots ws' Q := by
  intro s' hZ hv
  have wa : ∀ (m : MethodId) (meth : Method) (c : Code) (A : Pt) (a : Array Value), Stand p l e R s' m args below meth c A.U A.locs A.cells A.slots → (a = as' ∧ A.U.heap = h ∧ A.cells + rm.cells ≤ R.cells ∧ A.slots + rm.slots ≤ R.slots) →
      (head1 [Cond.code y bytes maxL ret] rm).pre.before a A.U = true ∧ (Cond.code y bytes maxL ret).before a A.U = true ∧ (Cond.initialized y.cls).before a A.U = true ∧ A.cells + rm.cells ≤ R.cells ∧ A.slots + rm.slots ≤ R.slots := fun m meth c A a Y hp => by
    have hU : Z.Warmed39 A.U.vm := wtrans hZ Y.warmed
    exact ⟨by show (Cond.and _ .tt).before a A.U = true; rw [Cond.before_and, mv hU wc]; rfl, mv hU wc, mv hU wz, hp.2.2.1, hp.2.2.2⟩
  cases wd
  · exact Back.of_free (bytes := bytes) (maxL := maxL) (ret := ret) (E := fun _ _ o t L k n => k = rm.cells ∧ n = rm.slots ∧ ∃ v, o = .returned v ∧ (Q v t.heap t.vm ∧ Keep h t.heap ws' ∧ FrW ws' h.size L)) (H []) hf hl wa
      (fun m meth c A a g mk Y hp => ⟨hp.1, wtrans hZ Y.warmed, hp.2.1, hV _ _ hv Y.warmed⟩) (fun _ _ _ _ _ _ _ _ _ => trivial)
      (fun _ _ _ _ ⟨v, L, h1, h2, h3⟩ => ⟨L, _, _, h3, rfl, rfl, v, h1, h2⟩)
      (fun m meth c A a g mk v t L k n Y hp _ _ ⟨e1, e2, v', e3, e4⟩ => by cases e3; subst e1 e2; exact ⟨L, e4, rfl, rfl, rfl⟩)
  · exact BackS.of_freeW (bytes := bytes) (maxL := maxL) (ret := ret) (E := fun _ _ o t L k n => k = rm.cells ∧ n = rm.slots ∧ ∃ v, o = .returned v ∧ (Q v t.heap t.vm ∧ Keep h t.heap ws' ∧ FrW ws' h.size L)) (H []) hf hl wa
      (fun m meth c A a g mk Y hp => ⟨hp.1, wtrans hZ Y.warmed, hp.2.1, hV _ _ hv Y.warmed⟩) (fun _ _ _ _ _ _ _ _ _ => trivial)
      (fun _ _ _ _ ⟨v, L, h1, h2, h3⟩ => ⟨L, _, _, h3, rfl, rfl, v, h1, h2⟩)
      (fun m meth c A a g mk v t L k n Y hp _ _ ⟨e1, e2, v', e3, e4⟩ => by cases e3; subst e1 e2; exact ⟨L, e4, rfl, rfl, rfl⟩)
theorem Wk.behind (K : Wk wd p l e R s m args below meth c own Z n0 h0 ws vm T h cells slots) {kc ks : Nat} {ws' : List Addr} (q : ∀ x ∈ ws', x ∈ ws ∨ h0.size ≤ x) {P : State → Heap → Vm → Prop}
    (fN : wd = false → ∀ (locs : List Loc) (s' : State), s'.vm = vm → Stand p l e R s' m args below meth c T locs cells slots → Z.Warmed39 s'.vm → s'.vm.findClass own = some m.cls → ∃ T' L, Stand p l e R s' m args below meth c T' (locs ++ L) (cells + kc) (slots + ks) ∧ FrW ws' h.size L ∧ Keep h T'.heap ws' ∧ P T' T'.heap T'.vm)
    (fW : wd = true → ∀ (locs : List Loc) (s' : State), s'.vm = vm → Stand p l e R s' m args below meth c T locs cells slots → Z.Warmed39 s'.vm → s'.vm.findClass own = some m.cls → ∃ T' L, Stand p l e R (s'.setVm T'.vm) m args below meth c T' (locs ++ L) (cells + kc) (slots + ks) ∧ s'.Since T'.vm T'.heap.size ∧ T.heap.size ≤ T'.heap.size ∧ FrW ws' h.size L ∧ Keep h T'.heap ws' ∧ P T' T'.heap T'.vm) :
    ∃ vm' vq T' h', Wk wd p l e R s m args below meth c own Z n0 h0 ws vm' T' h' (cells + kc) (slots + ks) ∧ Keep h h' ws' ∧ (wd = true → vq = vm') ∧ P T' h' vq := by
  have fr := fun x hx => K.fresh (q x hx)
  obtain ⟨e1, hx, O, hn, hw, Kp, hs0, hZ, ho, hv, locs, k, F, X, S, hk⟩ := K
  have fw : ∀ L, FrW ws' h.size L → FrW ws h0.size L := fun L N y hy => (N y hy).elim (q _) fun u => Or.inr (Nat.le_trans Kp.1 u)
  cases wd
  · obtain ⟨T', L, X', FL, KK, u⟩ := fN rfl locs (s.setVm vm) rfl X hZ ho
    exact ⟨vm, T'.vm, T', _, ⟨rfl, hx, O.keep KK fr, hn, hw, Kp.trans KK q, hs0, hZ, ho, hv, _, k, F.app (fw _ FL), X', S, Nat.le_trans hk KK.1⟩, KK, (fun e => by cases e), u⟩
  · obtain ⟨T', L, X', S', gr, FL, KK, u⟩ := fW rfl locs (s.setVm vm) rfl X hZ ho
    refine ⟨T'.vm, T'.vm, T', _, ⟨rfl, hx, O.keep KK fr, hn, hw, Kp.trans KK q, hs0, State.Warmed39.trans (t := s.setVm vm) hZ S'.1, (S'.1.alike.findClass _ _).trans ho, (fun e => by cases e), _, _, F.app (fw _ FL), X', S.trans S' (Nat.le_trans hk ?_), Nat.le_refl _⟩, KK, fun _ => rfl, u⟩
    rw [← e1]; exact gr
theorem Wk.callS (K : Wk wd p l e R s m args below meth c own Z n0 h0 ws vm T h cells slots) {index : Nat} {y : MethodName} {bytes : ByteArray} {maxL : Nat} {ret : Option FieldType} (w1 : (Cond.methodLink own index y).before a0 Z = true) (w2 : (Cond.static y).before a0 Z = true) (w3 : (Cond.initialized y.cls).before a0 Z = true) (w4 : (Cond.code y bytes maxL ret).before a0 Z = true) (hy : y.cls ≠ "java/lang/invoke/MethodHandle" ∧ y.cls ≠ "java/lang/invoke/VarHandle") {W kc ks : Nat} {ws' : List Addr} {V : Vm → Prop} {Q : Option Value → Heap → Vm → Prop} {argsL rest : List Value} (P : Pay wd l R p e below args y 3 W Z h V argsL.toArray kc ks ws' Q) (hV : V vm)
    {pc : Nat} {Ls : Array Slot} {st : List Value} (hsz : Ls.size = c.maxLocals) (hlen : ∀ sig, parseMethodDescriptor y.desc = some sig → argsL.length = sig.parameters.length) (hstack : st = argsL.reverse ++ rest) (hW : (rest.map fun v => v.category).sum ≤ W) (hd : decode c.code pc = .ok (.invokestatic index, 3)) (hc : cells + kc ≤ R.cells) (hl : slots + ks ≤ R.slots) (q : ∀ x ∈ ws', x ∈ ws ∨ h0.size ≤ x) :
    ∃ v vm' vq T' h', Wk wd p l e R s m args below meth c own Z n0 h0 ws vm' T' h' (cells + kc) (slots + ks) ∧ Keep h h' ws' ∧ (wd = true → vq = vm') ∧ Q v h' vq ∧ Go p e below (T.setTop (mkF m pc Ls st)) (T'.setTop (mkF m (pc + 3) Ls (v.toList ++ rest))) := by
  have e1 := K.1
  have hx := K.2.1
  obtain ⟨vm', vq, T', h', K', KK, ev, v, hq, go⟩ := K.behind (kc := kc) (ks := ks) q (P := fun T' h' vq => ∃ v, Q v h' vq ∧ Go p e below (T.setTop (mkF m pc Ls st)) (T'.setTop (mkF m (pc + 3) Ls (v.toList ++ rest))))
    (fun hwd locs s' es X hZ ho => by
      subst hwd
      have hV' : V s'.vm := by rw [es]; exact hV
      obtain ⟨v, vm₁, ⟨T', L', k', n'⟩, -, X', ⟨L, ⟨hq, kk, fr⟩, l1, l2, l3⟩, st⟩ := Jvm.LawKit.callS X hx ho (mvT hZ w1) (mvT hZ w2) (mvT hZ w3) (mvT hZ w4) hy (P s' hZ hV') (g := mkF m pc Ls st) rfl hsz hlen hstack (by show 2 * 0 + _ ≤ _; simpa using hW) hd (fun _ _ => ⟨rfl, e1, hc, hl⟩)
      dsimp only [Pt.U, Pt.locs, Pt.cells, Pt.slots] at *
      subst l1 l2 l3
      exact ⟨T', L, X', fr, kk, v, hq, st⟩)
    (fun hwd locs s' es X hZ ho => by
      subst hwd
      have hV' : V s'.vm := by rw [es]; exact hV
      obtain ⟨v, vm₁, ⟨T', L', k', n'⟩, -, X', S', gr, ⟨L, ⟨hq, kk, fr⟩, l1, l2, l3⟩, st⟩ := RoadKit.callSS X hx ho (mvT hZ w1) (mvT hZ w2) (mvT hZ w3) (mvT hZ w4) hy (P s' hZ hV') (g := mkF m pc Ls st) rfl hsz hlen hstack (by show 2 * 0 + _ ≤ _; simpa using hW) hd (fun _ _ => ⟨rfl, e1, hc, hl⟩)
      dsimp only [Pt.U, Pt.locs, Pt.cells, Pt.slots] at *
      subst l1 l2 l3
      exact ⟨T', L, X', S', gr, fr, kk, v, hq, fun t k => st.trans k⟩)
  exact ⟨v, vm', vq, T', h', K', KK, ev, hq, go⟩
theorem Wk.callI (K : Wk wd p l e R s m args below meth c own Z n0 h0 ws vm T h cells slots) {index : Nat} {y : MethodName} {bytes : ByteArray} {maxL : Nat} (hy1 : y.name = "<init>") (w1 : (Cond.methodLink own index y).before a0 Z = true) (w2 : (Cond.instanceMethod y).before a0 Z = true) (w4 : (Cond.code y bytes maxL none).before a0 Z = true) (hy : y.cls ≠ "java/lang/invoke/MethodHandle" ∧ y.cls ≠ "java/lang/invoke/VarHandle") {W kc ks : Nat} {ws' : List Addr} {V : Vm → Prop} {Q : Option Value → Heap → Vm → Prop} {a : Addr} {argsL rest : List Value} (P : Pay wd l R p e below args y 3 W Z h V (.ref a :: argsL).toArray kc ks ws' Q) (hV : V vm)
    {pc : Nat} {Ls : Array Slot} {st : List Value} (hsz : Ls.size = c.maxLocals) (hlen : ∀ sig, parseMethodDescriptor y.desc = some sig → argsL.length = sig.parameters.length) (hstack : st = argsL.reverse ++ .ref a :: rest) (hW : (rest.map fun v => v.category).sum ≤ W) (hd : decode c.code pc = .ok (.invokespecial index, 3)) (hc : cells + kc ≤ R.cells) (hl : slots + ks ≤ R.slots) (q : ∀ x ∈ ws', x ∈ ws ∨ h0.size ≤ x) :
    ∃ v vm' vq T' h', Wk wd p l e R s m args below meth c own Z n0 h0 ws vm' T' h' (cells + kc) (slots + ks) ∧ Keep h h' ws' ∧ (wd = true → vq = vm') ∧ Q v h' vq ∧ Go p e below (T.setTop (mkF m pc Ls st)) (T'.setTop (mkF m (pc + 3) Ls (v.toList ++ rest))) := by
  have e1 := K.1
  have hx := K.2.1
  obtain ⟨vm', vq, T', h', K', KK, ev, v, hq, go⟩ := K.behind (kc := kc) (ks := ks) q (P := fun T' h' vq => ∃ v, Q v h' vq ∧ Go p e below (T.setTop (mkF m pc Ls st)) (T'.setTop (mkF m (pc + 3) Ls (v.toList ++ rest))))
    (fun hwd locs s' es X hZ ho => by
      subst hwd
      have hV' : V s'.vm := by rw [es]; exact hV
      obtain ⟨v, vm₁, ⟨T', L', k', n'⟩, -, X', ⟨L, ⟨hq, kk, fr⟩, l1, l2, l3⟩, st⟩ := X.specialBack hx hy1 ho (mvT hZ w1) (mvT hZ w2) (mvT hZ w4) hy (P s' hZ hV') (g := mkF m pc Ls st) rfl hsz (Steps.refl _) hlen hstack (by show 2 * 0 + _ ≤ _; simpa using hW) hd (fun _ _ => ⟨rfl, e1, hc, hl⟩)
      dsimp only [Pt.U, Pt.locs, Pt.cells, Pt.slots] at *
      subst l1 l2 l3
      exact ⟨T', L, X', fr, kk, v, hq, fun t k => st.trans k⟩)
    (fun hwd locs s' es X hZ ho => by
      subst hwd
      have hV' : V s'.vm := by rw [es]; exact hV
      obtain ⟨v, vm₁, ⟨T', L', k', n'⟩, -, X', S', gr, ⟨L, ⟨hq, kk, fr⟩, l1, l2, l3⟩, st⟩ := X.specialBackS hx hy1 ho (mvT hZ w1) (mvT hZ w2) (mvT hZ w4) hy (P s' hZ hV') (g := mkF m pc Ls st) rfl hsz (Steps.refl _) hlen hstack (by show 2 * 0 + _ ≤ _; simpa using hW) hd (fun _ _ => ⟨rfl, e1, hc, hl⟩)
      dsimp only [Pt.U, Pt.locs, Pt.cells, Pt.slots] at *
      subst l1 l2 l3
      exact ⟨T', L, X', S', gr, fr, kk, v, hq, fun t k => st.trans k⟩)
  exact ⟨v, vm', vq, T', h', K', KK, ev, hq, go⟩
theorem Wk.callV (K : Wk wd p l e R s m args below meth c own Z n0 h0 ws vm T h cells slots) {C : String} {index : Nat} {y z : MethodName} (w1 : (Cond.methodLink own index y).before a0 Z = true) (w2 : (Cond.declares y).before a0 Z = true) (w3 : (Cond.selects C y z).before a0 Z = true) (w5 : (∃ S, (Cond.superclass y.cls S).before a0 Z = true) ∨ (Cond.noSuperclass y.cls).before a0 Z = true ∨ y = z) (w4 : (Cond.instanceMethod z).before a0 Z = true) (hy : y.cls ≠ "java/lang/invoke/MethodHandle" ∧ y.cls ≠ "java/lang/invoke/VarHandle") {W kc ks : Nat} {ws' : List Addr} {V : Vm → Prop} {Q : Option Value → Heap → Vm → Prop} {a : Addr} (E : Exa Z h a C) {argsL rest : List Value} (P : Pay wd l R p e below args z 3 W Z h V (.ref a :: argsL).toArray kc ks ws' Q) (hV : V vm)
    {pc : Nat} {Ls : Array Slot} {st : List Value} (hsz : Ls.size = c.maxLocals) (hlen : ∀ sig, parseMethodDescriptor y.desc = some sig → argsL.length = sig.parameters.length) (hstack : st = argsL.reverse ++ .ref a :: rest) (hW : (rest.map fun v => v.category).sum ≤ W) (hd : decode c.code pc = .ok (.invokevirtual index, 3)) (hc : cells + kc ≤ R.cells) (hl : slots + ks ≤ R.slots) (q : ∀ x ∈ ws', x ∈ ws ∨ h0.size ≤ x) :
    ∃ v vm' vq T' h', Wk wd p l e R s m args below meth c own Z n0 h0 ws vm' T' h' (cells + kc) (slots + ks) ∧ Keep h h' ws' ∧ (wd = true → vq = vm') ∧ Q v h' vq ∧ Go p e below (T.setTop (mkF m pc Ls st)) (T'.setTop (mkF m (pc + 3) Ls (v.toList ++ rest))) := by
  have e1 := K.1
  have hx := K.2.1
  have nf : ∀ s' : State, Z.Warmed39 s'.vm → NotFace s' y := fun s' hZ => by
    rcases w5 with ⟨S, w5⟩ | w5 | rfl
    · exact nf_super (args := #[]) (mvT hZ w5)
    · exact nf_top (args := #[]) (mvT hZ w5)
    · exact notFace_of_selects (args := #[]) (mvT hZ w3)
  obtain ⟨vm', vq, T', h', K', KK, ev, v, hq, go⟩ := K.behind (kc := kc) (ks := ks) q (P := fun T' h' vq => ∃ v, Q v h' vq ∧ Go p e below (T.setTop (mkF m pc Ls st)) (T'.setTop (mkF m (pc + 3) Ls (v.toList ++ rest))))
    (fun hwd locs s' es X hZ ho => by
      subst hwd
      have hV' : V s'.vm := by rw [es]; exact hV
      obtain ⟨cB, kB, i1, i2, i3⟩ := isOf hZ e1 E
      obtain ⟨v, vm₁, ⟨T', L', k', n'⟩, -, X', ⟨L, ⟨hq, kk, fr⟩, l1, l2, l3⟩, st⟩ := X.virtualBack hx ho (mvT hZ w1) (mvT hZ w2) (nf s' hZ) (mvT hZ w3) (mvT hZ w4) hy (P s' hZ hV') i1 i3 (g := mkF m pc Ls st) rfl hsz (Steps.refl _) hlen hstack (by show 2 * 0 + _ ≤ _; simpa using hW) hd (fun _ _ => ⟨rfl, e1, hc, hl⟩)
      dsimp only [Pt.U, Pt.locs, Pt.cells, Pt.slots] at *
      subst l1 l2 l3
      exact ⟨T', L, X', fr, kk, v, hq, fun t k => st.trans k⟩)
    (fun hwd locs s' es X hZ ho => by
      subst hwd
      have hV' : V s'.vm := by rw [es]; exact hV
      obtain ⟨cB, kB, i1, i2, i3⟩ := isOf hZ e1 E
      obtain ⟨v, vm₁, ⟨T', L', k', n'⟩, -, X', S', gr, ⟨L, ⟨hq, kk, fr⟩, l1, l2, l3⟩, st⟩ := X.virtualBackS hx ho (mvT hZ w1) (mvT hZ w2) (nf s' hZ) (mvT hZ w3) (mvT hZ w4) hy (P s' hZ hV') i1 i3 (g := mkF m pc Ls st) rfl hsz (Steps.refl _) hlen hstack (by show 2 * 0 + _ ≤ _; simpa using hW) hd (fun _ _ => ⟨rfl, e1, hc, hl⟩)
      dsimp only [Pt.U, Pt.locs, Pt.cells, Pt.slots] at *
      subst l1 l2 l3
      exact ⟨T', L, X', S', gr, fr, kk, v, hq, fun t k => st.trans k⟩)
  exact ⟨v, vm', vq, T', h', K', KK, ev, hq, go⟩
theorem Wk.callF (K : Wk wd p l e R s m args below meth c own Z n0 h0 ws vm T h cells slots) {C : String} {index count : Nat} {y z : MethodName} (w1 : (Cond.methodLink own index y).before a0 Z = true) (w2 : (Cond.declares y).before a0 Z = true) (w3 : (Cond.interfaceMethod y.cls y.cls y.name y.desc).before a0 Z = true) (hfa : ((Cond.interfaceMethod y.cls y.cls y.name y.desc).onTables && (Cond.interfaceMethod y.cls y.cls y.name y.desc).keepsFace) = true) (w4 : (Cond.selects C y z).before a0 Z = true) (w5 : (Cond.instanceMethod z).before a0 Z = true) (w6 : (Cond.publicMethod z).before a0 Z = true) (w7 : (Cond.unhidden C y.name y.desc).before a0 Z = true) (w8 : (Cond.castable C y.cls).before a0 Z = true) (hy : y.cls ≠ "java/lang/invoke/MethodHandle" ∧ y.cls ≠ "java/lang/invoke/VarHandle") {W kc ks : Nat} {ws' : List Addr} {V : Vm → Prop} {Q : Option Value → Heap → Vm → Prop} {a : Addr} (E : Exa Z h a C) {argsL rest : List Value} (P : Pay wd l R p e below args z 5 W Z h V (.ref a :: argsL).toArray kc ks ws' Q) (hV : V vm)
    {pc : Nat} {Ls : Array Slot} {st : List Value} (hsz : Ls.size = c.maxLocals) (hlen : ∀ sig, parseMethodDescriptor y.desc = some sig → argsL.length = sig.parameters.length) (hstack : st = argsL.reverse ++ .ref a :: rest) (hW : (rest.map fun v => v.category).sum ≤ W) (hd : decode c.code pc = .ok (.invokeinterface index count, 5)) (hc : cells + kc ≤ R.cells) (hl : slots + ks ≤ R.slots) (q : ∀ x ∈ ws', x ∈ ws ∨ h0.size ≤ x) :
    ∃ v vm' vq T' h', Wk wd p l e R s m args below meth c own Z n0 h0 ws vm' T' h' (cells + kc) (slots + ks) ∧ Keep h h' ws' ∧ (wd = true → vq = vm') ∧ Q v h' vq ∧ Go p e below (T.setTop (mkF m pc Ls st)) (T'.setTop (mkF m (pc + 5) Ls (v.toList ++ rest))) := by
  have e1 := K.1
  have hx := K.2.1
  obtain ⟨vm', vq, T', h', K', KK, ev, v, hq, go⟩ := K.behind (kc := kc) (ks := ks) q (P := fun T' h' vq => ∃ v, Q v h' vq ∧ Go p e below (T.setTop (mkF m pc Ls st)) (T'.setTop (mkF m (pc + 5) Ls (v.toList ++ rest))))
    (fun hwd locs s' es X hZ ho => by
      subst hwd
      have hV' : V s'.vm := by rw [es]; exact hV
      obtain ⟨cB, kB, i1, i2, i3⟩ := isOf hZ e1 E
      obtain ⟨v, vm₁, ⟨T', L', k', n'⟩, -, X', ⟨L, ⟨hq, kk, fr⟩, l1, l2, l3⟩, st⟩ := X.interfaceBack hx ho (mvT hZ w1) (mvT hZ w2) (mvT hZ w3 hfa) (mvT hZ w4) (mvT hZ w5) (mvT hZ w6) (mvT hZ w7) (mvT hZ w8) hy (P s' hZ hV') i1 i2 i3 (g := mkF m pc Ls st) rfl hsz (Steps.refl _) hlen hstack (by show 2 * 0 + _ ≤ _; simpa using hW) hd (fun _ _ => ⟨rfl, e1, hc, hl⟩)
      dsimp only [Pt.U, Pt.locs, Pt.cells, Pt.slots] at *
      subst l1 l2 l3
      exact ⟨T', L, X', fr, kk, v, hq, fun t k => st.trans k⟩)
    (fun hwd locs s' es X hZ ho => by
      subst hwd
      have hV' : V s'.vm := by rw [es]; exact hV
      obtain ⟨cB, kB, i1, i2, i3⟩ := isOf hZ e1 E
      obtain ⟨v, vm₁, ⟨T', L', k', n'⟩, -, X', S', gr, ⟨L, ⟨hq, kk, fr⟩, l1, l2, l3⟩, st⟩ := X.interfaceBackS hx ho (mvT hZ w1) (mvT hZ w2) (mvT hZ w3 hfa) (mvT hZ w4) (mvT hZ w5) (mvT hZ w6) (mvT hZ w7) (mvT hZ w8) hy (P s' hZ hV') i1 i2 i3 (g := mkF m pc Ls st) rfl hsz (Steps.refl _) hlen hstack (by show 2 * 0 + _ ≤ _; simpa using hW) hd (fun _ _ => ⟨rfl, e1, hc, hl⟩)
      dsimp only [Pt.U, Pt.locs, Pt.cells, Pt.slots] at *
      subst l1 l2 l3
      exact ⟨T', L, X', S', gr, fr, kk, v, hq, fun t k => st.trans k⟩)
  exact ⟨v, vm', vq, T', h', K', KK, ev, hq, go⟩
/-- the method's end: T the last state, v what it returns -/
def Ret (p : Program) (e : Env) (below : List Frame) (m : MethodId) (T : State) (v : Option Value) (A : State) : Prop :=
  ∀ fs, (∀ (f : JFrame) (acts : List Action), f.method = m → f.locked = none → f.entered = [] → (doReturn e (T.setTop f) acts v).1 = T.setFrames fs) → Steps p.tables e below A (T.setFrames fs)
theorem Wk.retV (K : Wk wd p l e R s m args below meth c own Z n0 h0 ws vm T h cells slots) {A : State} {pc : Nat} {Ls : Array Slot} (S : Go p e below A (T.setTop (mkF m pc Ls []))) (hret : meth.sig.returnType = none) (hd : decode c.code pc = .ok (.return_, 1)) : Ret p e below m T none A := by
  intro fs hl
  exact K.stand fun _ _ X hx _ _ _ => S _ (X.returnOut hx hret hd hl)
theorem Wk.retW (K : Wk wd p l e R s m args below meth c own Z n0 h0 ws vm T h cells slots) {A : State} {pc : Nat} {Ls : Array Slot} {w : Value} {t : FieldType} {i : Instr} {rest : List Value} (S : Go p e below A (T.setTop (mkF m pc Ls (w :: rest)))) (hret : meth.sig.returnType = some t) (hn : narrow t w = w)
    (hi : (i = .ireturn ∧ (t = .int ∨ t = .boolean ∨ t = .byte ∨ t = .char ∨ t = .short) ∧ ∃ z, w = .int z) ∨ (i = .lreturn ∧ t = .long ∧ ∃ z, w = .long z) ∨ (i = .dreturn ∧ t = .double ∧ ∃ z, w = .double z) ∨ (i = .freturn ∧ t = .float ∧ ∃ z, w = .float z) ∨ (i = .areturn ∧ t.isReference = true ∧ w.isRef = true))
    (hd : decode c.code pc = .ok (i, 1)) : Ret p e below m T (some w) A := by
  intro fs hl
  exact K.stand fun _ _ X hx _ _ _ => S _ (retOut X hx hret hn hi hd hl)
theorem body {y : MethodName} {bytes : ByteArray} {maxL : Nat} {ret : Option FieldType} {rm : Room} {as' : Array Value} {V : Vm → Prop} {Q : Option Value → Heap → Vm → Prop} (hpl : plainFor y = true) (O0 : Old Z n0 h0) (hvr : ∀ v h vm, Q v h vm → ret = none → v = none) (hQ : ∀ v h, VCl (Q v h))
    (H : ∀ (p : Program) (e : Env) (s : State) (m : MethodId) (below : List Frame) (meth : Method) (c : Code) (T0 : State), c.code = bytes → c.maxLocals = maxL → meth.sig.returnType = ret → meth.name = y.name → V s.vm → Wk wd p l e rm s m as' below meth c y.cls Z n0 h0 [] s.vm T0 h0 0 0 →
      ∃ vm T h v cells slots, Wk wd p l e rm s m as' below meth c y.cls Z n0 h0 ws vm T h cells slots ∧ cells ≤ rm.cells ∧ slots ≤ rm.slots ∧ Q v h vm ∧ Ret p e below m T v (T0.setTop (entryFrame m as' maxL))) :
    Ctr wd l y bytes maxL ret rm as' Z h0 V ws Q := by
  intro wds
  refine MetFree.of_bodySF hpl hisR ?_
  intro p e s m args below meth c s₁ Bd hml0 hP hK
  obtain ⟨rfl, hZ, hh, hV0⟩ := hP
  have hown : s.vm.findClass y.cls = some m.cls := findClass_of_methodNamed Bd.named
  have hnm := (name_of_methodNamed Bd.named Bd.method).1
  have X0 : Stand p l e rm (s.setVm s.vm) m args below meth c s₁ [] 0 0 := Stand.of_body Bd
  have e0 : s₁.heap = h0 := by rw [← hh, Bd.state]; rfl
  have nle : n0 ≤ h0.size := by rw [← O0.1]; exact O0.2.1
  obtain ⟨vm, T, h, v, cells, slots, K, c1, c2, hq, rt⟩ := H p e s m below meth c s₁ Bd.bytes hml0 Bd.returns hnm hV0 ⟨e0, Bd.exec, O0, nle, all0, Keep.refl _ _, hh, hZ, hown, fun _ => rfl, [], 0, FrW.nil _ _, X0, (State.WarmedH.refl s).since _, Nat.zero_le _⟩
  have hv : meth.sig.returnType = none → v = none := fun q => hvr v h vm hq (by rw [← Bd.returns]; exact q)
  have hlk := Bd.notSynchronized
  obtain ⟨e1, hx, O, hn, hw, Kp, hs0, hZ', ho, hvm, locs, k, F, X, S, hk⟩ := K
  subst e1
  have hq' := hQ v T.heap (s.setVm vm) T.vm hq X.warmed
  cases wd
  · obtain rfl := hvm rfl
    obtain ⟨fs, hr, hrun, hended, hW, hsame⟩ := X.leave (v := v) hv
    exact ⟨_, _, rt fs hr, hrun, hended, _, _, rfl, ⟨hq', Kp, F⟩, ⟨_, rfl⟩, hW, hsame.mono c1 c2⟩
  · obtain ⟨fs, hr, hrun, hended, hW⟩ := X.leaveW S hk (v := v) hv
    exact ⟨_, _, rt fs hr, hrun, hended, _, _, rfl, ⟨hq', Kp, F⟩, hW.1, hW.2.1, hW.2.2.1, hW.2.2.2.mono c1 c2⟩
end Kit
end Own
end Jvm.Pilot.@@N@@
namespace Jvm.Pilot.@@N@@
open Jvm Jvm.ClassFile Sem Op Lib Jvm.Free Jvm.Stand Jvm.LawKit Jvm.RoadKit Bundle Jvm.Pilot.@@N@@.Jvm.D
namespace Own.P
section Plain
variable {p : Program} {e : Env} {below : List Frame} {T : State} {m : MethodId} {c : Code} {pc : Nat} {Ls : Array Slot} {st : List Value}
theorem aloadN (H : At T m c below) (hx : p.tables.exec = Jvm.exec) {k : Fin 4} {v : Value} (hd : decode c.code pc = .ok (.aload_n k, 1)) (hl : Ls[k.val]? = some (.val v)) (hv : v.isRef = true) : Go p e below (T.setTop (mkF m pc Ls (st))) (T.setTop (mkF m (pc + 1) Ls (v :: st))) := fun t r => XS.aloadN H hx rfl hd hl hv r
theorem aload (H : At T m c below) (hx : p.tables.exec = Jvm.exec) {k : Nat} {v : Value} (hd : decode c.code pc = .ok (.aload k, 2)) (hl : Ls[k]? = some (.val v)) (hv : v.isRef = true) : Go p e below (T.setTop (mkF m pc Ls (st))) (T.setTop (mkF m (pc + 2) Ls (v :: st))) := fun t r => XS.aload H hx rfl hd hl hv r
theorem iloadN (H : At T m c below) (hx : p.tables.exec = Jvm.exec) {k : Fin 4} {v : Int32} (hd : decode c.code pc = .ok (.iload_n k, 1)) (hl : Ls[k.val]? = some (.val (.int v))) : Go p e below (T.setTop (mkF m pc Ls (st))) (T.setTop (mkF m (pc + 1) Ls (.int v :: st))) := fun t r => XS.iloadN H hx rfl hd hl r
theorem iload (H : At T m c below) (hx : p.tables.exec = Jvm.exec) {k : Nat} {v : Int32} (hd : decode c.code pc = .ok (.iload k, 2)) (hl : Ls[k]? = some (.val (.int v))) : Go p e below (T.setTop (mkF m pc Ls (st))) (T.setTop (mkF m (pc + 2) Ls (.int v :: st))) := fun t r => XS.iload H hx rfl hd hl r
theorem lloadN (H : At T m c below) (hx : p.tables.exec = Jvm.exec) {k : Fin 4} {v : Int64} (hd : decode c.code pc = .ok (.lload_n k, 1)) (hl : Ls[k.val]? = some (.val (.long v))) : Go p e below (T.setTop (mkF m pc Ls (st))) (T.setTop (mkF m (pc + 1) Ls (.long v :: st))) := fun t r => XT.lloadN H hx rfl hd hl r
theorem lload (H : At T m c below) (hx : p.tables.exec = Jvm.exec) {k : Nat} {v : Int64} (hd : decode c.code pc = .ok (.lload k, 2)) (hl : Ls[k]? = some (.val (.long v))) : Go p e below (T.setTop (mkF m pc Ls (st))) (T.setTop (mkF m (pc + 2) Ls (.long v :: st))) := fun t r => XT.lload H hx rfl hd hl r
theorem iconst (H : At T m c below) (hx : p.tables.exec = Jvm.exec) {i : Int} (v : Int32) (hd : decode c.code pc = .ok (.iconst i, 1)) (hv : Int32.ofInt i = v) : Go p e below (T.setTop (mkF m pc Ls (st))) (T.setTop (mkF m (pc + 1) Ls (.int v :: st))) := fun t r => XS.iconst H hx rfl hd (by rw [hv]; exact r)
theorem bipush (H : At T m c below) (hx : p.tables.exec = Jvm.exec) {i : Int} (v : Int32) (hd : decode c.code pc = .ok (.bipush i, 2)) (hv : (Int8.ofInt i).toInt32 = v) : Go p e below (T.setTop (mkF m pc Ls (st))) (T.setTop (mkF m (pc + 2) Ls (.int v :: st))) := fun t r => XS.bipush H hx rfl hd (by rw [hv]; exact r)
theorem sipush (H : At T m c below) (hx : p.tables.exec = Jvm.exec) {i : Int} (v : Int32) (hd : decode c.code pc = .ok (.sipush i, 3)) (hv : (Int16.ofInt i).toInt32 = v) : Go p e below (T.setTop (mkF m pc Ls (st))) (T.setTop (mkF m (pc + 3) Ls (.int v :: st))) := fun t r => XS.sipush H hx rfl hd (by rw [hv]; exact r)
theorem lconst (H : At T m c below) (hx : p.tables.exec = Jvm.exec) {k : Fin 2} (v : Int64) (hd : decode c.code pc = .ok (.lconst k, 1)) (hv : Int64.ofNat k = v) : Go p e below (T.setTop (mkF m pc Ls (st))) (T.setTop (mkF m (pc + 1) Ls (.long v :: st))) := fun t r => XT.lconst H hx rfl hd (by rw [hv]; exact r)
theorem null (H : At T m c below) (hx : p.tables.exec = Jvm.exec)  (hd : decode c.code pc = .ok (.aconst_null, 1))  : Go p e below (T.setTop (mkF m pc Ls (st))) (T.setTop (mkF m (pc + 1) Ls (.null :: st))) := fun t r => XS.aconstNull H hx rfl hd r
theorem dup (H : At T m c below) (hx : p.tables.exec = Jvm.exec) {x : Value} (hd : decode c.code pc = .ok (.dup, 1)) (hc : x.category = 1) : Go p e below (T.setTop (mkF m pc Ls (x :: st))) (T.setTop (mkF m (pc + 1) Ls (x :: x :: st))) := fun t r => XS.dup H hx rfl hd rfl hc r
theorem pop (H : At T m c below) (hx : p.tables.exec = Jvm.exec) {x : Value} (hd : decode c.code pc = .ok (.pop, 1)) (hc : x.category = 1) : Go p e below (T.setTop (mkF m pc Ls (x :: st))) (T.setTop (mkF m (pc + 1) Ls (st))) := fun t r => XT.pop H hx rfl hd rfl hc r
theorem iadd (H : At T m c below) (hx : p.tables.exec = Jvm.exec) {x y : Int32} (hd : decode c.code pc = .ok (.iadd, 1))  : Go p e below (T.setTop (mkF m pc Ls (.int y :: .int x :: st))) (T.setTop (mkF m (pc + 1) Ls (.int (x + y) :: st))) := fun t r => XS.iadd H hx rfl hd rfl r
theorem isub (H : At T m c below) (hx : p.tables.exec = Jvm.exec) {x y : Int32} (hd : decode c.code pc = .ok (.isub, 1))  : Go p e below (T.setTop (mkF m pc Ls (.int y :: .int x :: st))) (T.setTop (mkF m (pc + 1) Ls (.int (x - y) :: st))) := fun t r => XS.isub H hx rfl hd rfl r
theorem iand (H : At T m c below) (hx : p.tables.exec = Jvm.exec) {x y : Int32} (hd : decode c.code pc = .ok (.iand, 1))  : Go p e below (T.setTop (mkF m pc Ls (.int y :: .int x :: st))) (T.setTop (mkF m (pc + 1) Ls (.int (x &&& y) :: st))) := fun t r => XS.iand H hx rfl hd rfl r
theorem imul (H : At T m c below) (hx : p.tables.exec = Jvm.exec) {x y : Int32} (hd : decode c.code pc = .ok (.imul, 1))  : Go p e below (T.setTop (mkF m pc Ls (.int y :: .int x :: st))) (T.setTop (mkF m (pc + 1) Ls (.int (x * y) :: st))) := fun t r => XS.imul H hx rfl hd rfl r
theorem ixor (H : At T m c below) (hx : p.tables.exec = Jvm.exec) {x y : Int32} (hd : decode c.code pc = .ok (.ixor, 1))  : Go p e below (T.setTop (mkF m pc Ls (.int y :: .int x :: st))) (T.setTop (mkF m (pc + 1) Ls (.int (x ^^^ y) :: st))) := fun t r => XT.ixor H hx rfl hd rfl r
theorem ior (H : At T m c below) (hx : p.tables.exec = Jvm.exec) {x y : Int32} (hd : decode c.code pc = .ok (.ior, 1))  : Go p e below (T.setTop (mkF m pc Ls (.int y :: .int x :: st))) (T.setTop (mkF m (pc + 1) Ls (.int (x ||| y) :: st))) := fun t r => XT.ior H hx rfl hd rfl r
theorem ishl (H : At T m c below) (hx : p.tables.exec = Jvm.exec) {x y : Int32} (hd : decode c.code pc = .ok (.ishl, 1))  : Go p e below (T.setTop (mkF m pc Ls (.int y :: .int x :: st))) (T.setTop (mkF m (pc + 1) Ls (.int (x <<< (y &&& 31)) :: st))) := fun t r => XT.ishl H hx rfl hd rfl r
theorem ishr (H : At T m c below) (hx : p.tables.exec = Jvm.exec) {x y : Int32} (hd : decode c.code pc = .ok (.ishr, 1))  : Go p e below (T.setTop (mkF m pc Ls (.int y :: .int x :: st))) (T.setTop (mkF m (pc + 1) Ls (.int (x >>> (y &&& 31)) :: st))) := fun t r => XT.ishr H hx rfl hd rfl r
theorem iushr (H : At T m c below) (hx : p.tables.exec = Jvm.exec) {x y : Int32} (hd : decode c.code pc = .ok (.iushr, 1))  : Go p e below (T.setTop (mkF m pc Ls (.int y :: .int x :: st))) (T.setTop (mkF m (pc + 1) Ls (.int (XT.ushr x y) :: st))) := fun t r => XT.iushr H hx rfl hd rfl r
theorem ladd (H : At T m c below) (hx : p.tables.exec = Jvm.exec) {x y : Int64} (hd : decode c.code pc = .ok (.ladd, 1))  : Go p e below (T.setTop (mkF m pc Ls (.long y :: .long x :: st))) (T.setTop (mkF m (pc + 1) Ls (.long (x + y) :: st))) := fun t r => XT.ladd H hx rfl hd rfl r
theorem land (H : At T m c below) (hx : p.tables.exec = Jvm.exec) {x y : Int64} (hd : decode c.code pc = .ok (.land, 1))  : Go p e below (T.setTop (mkF m pc Ls (.long y :: .long x :: st))) (T.setTop (mkF m (pc + 1) Ls (.long (x &&& y) :: st))) := fun t r => XT.land H hx rfl hd rfl r
theorem lushr (H : At T m c below) (hx : p.tables.exec = Jvm.exec) {x : Int64} {y : Int32} (hd : decode c.code pc = .ok (.lushr, 1))  : Go p e below (T.setTop (mkF m pc Ls (.int y :: .long x :: st))) (T.setTop (mkF m (pc + 1) Ls (.long (XT.ushrL x y) :: st))) := fun t r => XT.lushr H hx rfl hd rfl r
theorem irem (H : At T m c below) (hx : p.tables.exec = Jvm.exec) {x y : Int32} (hd : decode c.code pc = .ok (.irem, 1)) (hy : y ≠ 0) : Go p e below (T.setTop (mkF m pc Ls (.int y :: .int x :: st))) (T.setTop (mkF m (pc + 1) Ls (.int (x % y) :: st))) := fun t r => XS.irem H hx rfl hd rfl hy (by rw [irem_eq_mod]; exact r)
theorem lcmp (H : At T m c below) (hx : p.tables.exec = Jvm.exec) {x y : Int64} (hd : decode c.code pc = .ok (.lcmp, 1))  : Go p e below (T.setTop (mkF m pc Ls (.long y :: .long x :: st))) (T.setTop (mkF m (pc + 1) Ls (.int (XT.cmpL x y) :: st))) := fun t r => XT.lcmp H hx rfl hd rfl r
theorem i2c (H : At T m c below) (hx : p.tables.exec = Jvm.exec) {x : Int32} (hd : decode c.code pc = .ok (.i2c, 1))  : Go p e below (T.setTop (mkF m pc Ls (.int x :: st))) (T.setTop (mkF m (pc + 1) Ls (.int (x.toUInt32.toUInt16.toUInt32.toInt32) :: st))) := fun t r => XT.i2c H hx rfl hd rfl r
theorem i2b (H : At T m c below) (hx : p.tables.exec = Jvm.exec) {x : Int32} (hd : decode c.code pc = .ok (.i2b, 1))  : Go p e below (T.setTop (mkF m pc Ls (.int x :: st))) (T.setTop (mkF m (pc + 1) Ls (.int (x.toInt8.toInt32) :: st))) := fun t r => XT.i2b H hx rfl hd rfl r
theorem i2l (H : At T m c below) (hx : p.tables.exec = Jvm.exec) {x : Int32} (hd : decode c.code pc = .ok (.i2l, 1))  : Go p e below (T.setTop (mkF m pc Ls (.int x :: st))) (T.setTop (mkF m (pc + 1) Ls (.long (x.toInt64) :: st))) := fun t r => XT.i2l H hx rfl hd rfl r
theorem l2i (H : At T m c below) (hx : p.tables.exec = Jvm.exec) {x : Int64} (hd : decode c.code pc = .ok (.l2i, 1))  : Go p e below (T.setTop (mkF m pc Ls (.long x :: st))) (T.setTop (mkF m (pc + 1) Ls (.int (x.toInt32) :: st))) := fun t r => XT.l2i H hx rfl hd rfl r
theorem istoreN (H : At T m c below) (hx : p.tables.exec = Jvm.exec) {k : Fin 4} {x : Int32} (l' : Array Slot) (hd : decode c.code pc = .ok (.istore_n k, 1)) (hl : storeLocals Ls k.val (.int x) = some l') : Go p e below (T.setTop (mkF m pc Ls (.int x :: st))) (T.setTop (mkF m (pc + 1) l' (st))) := fun t r => XS.istoreN H hx rfl hd rfl hl r
theorem istore (H : At T m c below) (hx : p.tables.exec = Jvm.exec) {k : Nat} {x : Int32} (l' : Array Slot) (hd : decode c.code pc = .ok (.istore k, 2)) (hl : storeLocals Ls k (.int x) = some l') : Go p e below (T.setTop (mkF m pc Ls (.int x :: st))) (T.setTop (mkF m (pc + 2) l' (st))) := fun t r => XS.istore H hx rfl hd rfl hl r
theorem astoreN (H : At T m c below) (hx : p.tables.exec = Jvm.exec) {k : Fin 4} {x : Value} (l' : Array Slot) (hd : decode c.code pc = .ok (.astore_n k, 1)) (hv : x.isRef = true) (hl : storeLocals Ls k.val x = some l') : Go p e below (T.setTop (mkF m pc Ls (x :: st))) (T.setTop (mkF m (pc + 1) l' (st))) := fun t r => XS.astoreN H hx rfl hd rfl hv hl r
theorem astore (H : At T m c below) (hx : p.tables.exec = Jvm.exec) {k : Nat} {x : Value} (l' : Array Slot) (hd : decode c.code pc = .ok (.astore k, 2)) (hv : x.isRef = true) (hl : storeLocals Ls k x = some l') : Go p e below (T.setTop (mkF m pc Ls (x :: st))) (T.setTop (mkF m (pc + 2) l' (st))) := fun t r => XS.astore H hx rfl hd rfl hv hl r
theorem lstoreN (H : At T m c below) (hx : p.tables.exec = Jvm.exec) {k : Fin 4} {x : Int64} (l' : Array Slot) (hd : decode c.code pc = .ok (.lstore_n k, 1)) (hl : storeLocals Ls k.val (.long x) = some l') : Go p e below (T.setTop (mkF m pc Ls (.long x :: st))) (T.setTop (mkF m (pc + 1) l' (st))) := fun t r => XT.lstoreN H hx rfl hd rfl hl r
theorem lstore (H : At T m c below) (hx : p.tables.exec = Jvm.exec) {k : Nat} {x : Int64} (l' : Array Slot) (hd : decode c.code pc = .ok (.lstore k, 2)) (hl : storeLocals Ls k (.long x) = some l') : Go p e below (T.setTop (mkF m pc Ls (.long x :: st))) (T.setTop (mkF m (pc + 2) l' (st))) := fun t r => XT.lstore H hx rfl hd rfl hl r
theorem iinc (H : At T m c below) (hx : p.tables.exec = Jvm.exec) {k : Nat} {cst : Int} {x : Int32} (v : Int32) (l' : Array Slot) (hd : decode c.code pc = .ok (.iinc k cst, 3)) (hl : Ls[k]? = some (.val (.int x))) (hv : x + Int32.ofInt cst = v) (hl' : storeLocals Ls k (.int v) = some l') : Go p e below (T.setTop (mkF m pc Ls (st))) (T.setTop (mkF m (pc + 3) l' (st))) := fun t r => XS.iinc H hx rfl hd hl (by rw [hv]; exact hl') r
theorem goto (H : At T m c below) (hx : p.tables.exec = Jvm.exec) {o : Int} (pc' : Nat) (hd : decode c.code pc = .ok (.goto o, 3)) (ho : 0 ≤ (pc : Int) + o) (hp : ((pc : Int) + o).toNat = pc') : Go p e below (T.setTop (mkF m pc Ls (st))) (T.setTop (mkF m (pc') Ls (st))) := fun t r => XS.goto H hx rfl rfl hd ho hp r
theorem ifYes (H : At T m c below) (hx : p.tables.exec = Jvm.exec) {cd : ClassFile.Cond} {x : Int32} {o : Int} (pc' : Nat) (hd : decode c.code pc = .ok (.ifCond cd o, 3)) (hc : ifCond.holds cd x = true) (ho : 0 ≤ (pc : Int) + o) (hp : ((pc : Int) + o).toNat = pc') : Go p e below (T.setTop (mkF m pc Ls (.int x :: st))) (T.setTop (mkF m (pc') Ls (st))) := fun t r => XS.ifYes H hx rfl rfl hd rfl hc ho hp r
theorem ifNo (H : At T m c below) (hx : p.tables.exec = Jvm.exec) {cd : ClassFile.Cond} {x : Int32} {o : Int} (hd : decode c.code pc = .ok (.ifCond cd o, 3)) (hc : ifCond.holds cd x = false) : Go p e below (T.setTop (mkF m pc Ls (.int x :: st))) (T.setTop (mkF m (pc + 3) Ls (st))) := fun t r => XS.ifNo H hx rfl hd rfl hc r
theorem icmpYes (H : At T m c below) (hx : p.tables.exec = Jvm.exec) {cd : ClassFile.Cond} {x y : Int32} {o : Int} (pc' : Nat) (hd : decode c.code pc = .ok (.if_icmp cd o, 3)) (hc : if_icmp.holds cd x y = true) (ho : 0 ≤ (pc : Int) + o) (hp : ((pc : Int) + o).toNat = pc') : Go p e below (T.setTop (mkF m pc Ls (.int y :: .int x :: st))) (T.setTop (mkF m (pc') Ls (st))) := fun t r => XS.icmpYes H hx rfl rfl hd rfl hc ho hp r
theorem icmpNo (H : At T m c below) (hx : p.tables.exec = Jvm.exec) {cd : ClassFile.Cond} {x y : Int32} {o : Int} (hd : decode c.code pc = .ok (.if_icmp cd o, 3)) (hc : if_icmp.holds cd x y = false) : Go p e below (T.setTop (mkF m pc Ls (.int y :: .int x :: st))) (T.setTop (mkF m (pc + 3) Ls (st))) := fun t r => XS.icmpNo H hx rfl hd rfl hc r
theorem acmpYes (H : At T m c below) (hx : p.tables.exec = Jvm.exec) {cd : ClassFile.ACond} {x y : Value} {o : Int} (pc' : Nat) (hd : decode c.code pc = .ok (.if_acmp cd o, 3)) (hx' : x.isRef = true) (hy' : y.isRef = true) (hc : XT.acmp cd x y = true) (ho : 0 ≤ (pc : Int) + o) (hp : ((pc : Int) + o).toNat = pc') : Go p e below (T.setTop (mkF m pc Ls (y :: x :: st))) (T.setTop (mkF m (pc') Ls (st))) := fun t r => XT.acmpYes H hx rfl rfl hd rfl hx' hy' hc ho hp r
theorem acmpNo (H : At T m c below) (hx : p.tables.exec = Jvm.exec) {cd : ClassFile.ACond} {x y : Value} {o : Int} (hd : decode c.code pc = .ok (.if_acmp cd o, 3)) (hx' : x.isRef = true) (hy' : y.isRef = true) (hc : XT.acmp cd x y = false) : Go p e below (T.setTop (mkF m pc Ls (y :: x :: st))) (T.setTop (mkF m (pc + 3) Ls (st))) := fun t r => XT.acmpNo H hx rfl hd rfl hx' hy' hc r
theorem ifnullYes (H : At T m c below) (hx : p.tables.exec = Jvm.exec) {o : Int} (pc' : Nat) (hd : decode c.code pc = .ok (.ifnull o, 3)) (ho : 0 ≤ (pc : Int) + o) (hp : ((pc : Int) + o).toNat = pc') : Go p e below (T.setTop (mkF m pc Ls (.null :: st))) (T.setTop (mkF m (pc') Ls (st))) := fun t r => XS.ifnullYes H hx rfl rfl hd rfl ho hp r
theorem ifnullNo (H : At T m c below) (hx : p.tables.exec = Jvm.exec) {o : Int} {b : Addr} (hd : decode c.code pc = .ok (.ifnull o, 3))  : Go p e below (T.setTop (mkF m pc Ls (.ref b :: st))) (T.setTop (mkF m (pc + 3) Ls (st))) := fun t r => XS.ifnullNo H hx rfl hd rfl r
theorem ifnonnullYes (H : At T m c below) (hx : p.tables.exec = Jvm.exec) {o : Int} {b : Addr} (pc' : Nat) (hd : decode c.code pc = .ok (.ifnonnull o, 3)) (ho : 0 ≤ (pc : Int) + o) (hp : ((pc : Int) + o).toNat = pc') : Go p e below (T.setTop (mkF m pc Ls (.ref b :: st))) (T.setTop (mkF m (pc') Ls (st))) := fun t r => XT.ifnonnullYes H hx rfl rfl hd rfl ho hp r
theorem ifnonnullNo (H : At T m c below) (hx : p.tables.exec = Jvm.exec) {o : Int} (hd : decode c.code pc = .ok (.ifnonnull o, 3))  : Go p e below (T.setTop (mkF m pc Ls (.null :: st))) (T.setTop (mkF m (pc + 3) Ls (st))) := fun t r => XT.ifnonnullNo H hx rfl hd rfl r
end Plain
end Own.P
end Jvm.Pilot.@@N@@
/- laws to paste: Road.backArv (cut by pick.py; bodies as the Statement names them) -/
namespace Jvm.Pilot.@@N@@
namespace StrChars
open Jvm Sem ClassFile Op Lib Jvm.Stand Jvm.Free.XT Jvm.Free.ALB Jvm.Free.JM Jvm.Free
open Jvm.Lib.Cold (StaticIs)
/-- a char array whose places are chars -/
def Ch (a : Addr) (A : Cell) (U : State) : Prop := Arr .char a A U ∧ Typed .char A
theorem Ch.mv {a : Addr} {A : Cell} {U U' : State} (h : Ch a A U) (hal : U.vm.Alike U'.vm) (hh : U'.heap = U.heap) : Ch a A U' := ⟨h.1.mv hal hh, h.2⟩
theorem Ch.keep {a : Addr} {A : Cell} {U U' : State} (h : Ch a A U) (hal : U.vm.Alike U'.vm) (hk : U'.heap[a]? = some A) : Ch a A U' := ⟨h.1.keep hal hk, h.2⟩
/-- what place i of a char[]'s cell holds -/
def cv (A : Cell) (i : Nat) : Int32 := match A.slots[i]? with | some (.int x) => x | _ => 0
theorem Ch.get {a : Addr} {A : Cell} {U : State} (h : Ch a A U) {i : Nat} (hi : i < A.slots.size) : A.slots[i]? = some (.int (cv A i)) := by
  have e := Array.getElem?_eq_getElem hi
  have f := h.2 i _ e
  unfold cv; rw [e]
  generalize A.slots[i] = v at f
  cases v <;> simp [fits] at f ⊢
/-- the byte that i2b leaves of a char -/
def lo8 (x : Int32) : Int32 := x.toInt8.toInt32
theorem fits_lo8 (y : Int32) : fits .byte (.int (lo8 y)) = true := by
  have h1 := y.toInt8.le_toInt
  have h2 := y.toInt8.toInt_lt
  simp only [lo8, fits, Bool.and_eq_true, decide_eq_true_eq, Int32.le_iff_toInt_le, Int8.toInt_toInt32, show (-128 : Int32).toInt = -128 from by decide, show (127 : Int32).toInt = 127 from by decide]
  omega
/-- A' is A but that each place j of lo .. hi - 1 holds f j -/
def Laid (A A' : Cell) (lo hi : Nat) (f : Nat → Value) : Prop := A'.cls = A.cls ∧ A'.vm = A.vm ∧ A'.slots.size = A.slots.size ∧ ∀ i, A'.slots[i]? = if lo ≤ i ∧ i < hi then some (f i) else A.slots[i]?
theorem Laid.zero (A : Cell) (lo : Nat) (f : Nat → Value) : Laid A A lo (lo + 0) f := ⟨rfl, rfl, rfl, fun i => by rw [if_neg (by omega)]⟩
theorem Laid.step {A Ak : Cell} {lo k : Nat} {f : Nat → Value} {v : Value} (h : Laid A Ak lo k f) (hlo : lo ≤ k) (hk : k < Ak.slots.size) (hv : v = f k) : Laid A (Ak.setSlot k v) lo (k + 1) f := by
  refine ⟨h.1, h.2.1, by simpa [Cell.setSlot] using h.2.2.1, fun i => ?_⟩
  by_cases e : k = i
  · subst e; rw [Cell.slots_setSlot_self v hk, if_pos (by omega), hv]
  · rw [Cell.slots_setSlot_ne v e, h.2.2.2 i]
    by_cases q : lo ≤ i ∧ i < k
    · rw [if_pos q, if_pos (by omega)]
    · rw [if_neg q, if_neg (by omega)]
def U16 : String := "java/lang/StringUTF16"
namespace Cmp5
def yN : MethodName := ⟨"java/lang/StringUTF16", "compress", "([CI[BII)I"⟩
abbrev yB : ByteArray := jdk_52_method_21_code
theorem d0 : decode yB 0 = .ok (.iconst 0, 1) := by decide +kernel
theorem d1 : decode yB 1 = .ok (.istore 5, 2) := by decide +kernel
theorem d3 : decode yB 3 = .ok (.iload 5, 2) := by decide +kernel
theorem d5 : decode yB 5 = .ok (.iload 4, 2) := by decide +kernel
theorem d7 : decode yB 7 = .ok (.if_icmp (.ge) 37, 3) := by decide +kernel
theorem d10 : decode yB 10 = .ok (.aload_n 0, 1) := by decide +kernel
theorem d11 : decode yB 11 = .ok (.iload_n 1, 1) := by decide +kernel
theorem d12 : decode yB 12 = .ok (.caload, 1) := by decide +kernel
theorem d13 : decode yB 13 = .ok (.istore 6, 2) := by decide +kernel
theorem d15 : decode yB 15 = .ok (.iload 6, 2) := by decide +kernel
theorem d17 : decode yB 17 = .ok (.sipush 255, 3) := by decide +kernel
theorem d20 : decode yB 20 = .ok (.if_icmp (.le) 6, 3) := by decide +kernel
theorem d26 : decode yB 26 = .ok (.aload_n 2, 1) := by decide +kernel
theorem d27 : decode yB 27 = .ok (.iload_n 3, 1) := by decide +kernel
theorem d28 : decode yB 28 = .ok (.iload 6, 2) := by decide +kernel
theorem d30 : decode yB 30 = .ok (.i2b, 1) := by decide +kernel
theorem d31 : decode yB 31 = .ok (.bastore, 1) := by decide +kernel
theorem d32 : decode yB 32 = .ok (.iinc 1 1, 3) := by decide +kernel
theorem d35 : decode yB 35 = .ok (.iinc 3 1, 3) := by decide +kernel
theorem d38 : decode yB 38 = .ok (.iinc 5 1, 3) := by decide +kernel
theorem d41 : decode yB 41 = .ok (.goto (-38), 3) := by decide +kernel
theorem d44 : decode yB 44 = .ok (.iload 4, 2) := by decide +kernel
theorem d46 : decode yB 46 = .ok (.ireturn, 1) := by decide +kernel
def site : List Cond := []
def tab : Cond := tabOf yN yB 7 (some .int) site
def P (b : Addr) (A : Cell) (d : Addr) (B : Cell) (o q len : Nat) (args : Array Value) (s : State) : Prop := args = #[.ref b, .int (Int32.ofNat o), .ref d, .int (Int32.ofNat q), .int (Int32.ofNat len)] ∧ Ch b A s ∧ Arr .byte d B s ∧ b ≠ d ∧ o + len ≤ A.slots.size ∧ q + len ≤ B.slots.size ∧ ∀ i, i < len → ¬ 255 < cv A (o + i)
def E (b : Addr) (A : Cell) (d : Addr) (B : Cell) (o q len : Nat) (r : Option Value) (s u : State) : Prop := r = some (.int (Int32.ofNat len)) ∧ ∃ B', Put d B' s u ∧ Laid B B' q (q + len) (fun j => Value.int (lo8 (cv A (o + (j - q)))))
/-- no char of the range above 255: len; the places written hold each char's low byte -/
theorem law (l : Launch) (b : Addr) (A : Cell) (d : Addr) (B : Cell) (o q len : Nat) : Law l yN 5 5 0 0 yB 7 (some .int) site (P b A d B o q len) (E b A d B o q len) (copyLocs d q len) 0 0 := by
  refine Law.of_walk (plainFor_of_name (by decide +kernel)) (by decide +kernel) (by decide +kernel) (by decide) (fun _ _ h => by rw [h.1]; rfl) (fun _ U U' hal hh h => ⟨h.1, h.2.1.mv hal hh, h.2.2.1.mv hal hh, h.2.2.2⟩) (fun r U U' V V' h1 hal h2 h => ⟨h.1, h.2.elim fun B' q => ⟨B', q.1.mv h1 h2, q.2⟩⟩) ?_
  intro p e s m args below meth c s₁ X0 hexec hbytes hml hret hlk hnm hown hh0 W hP
  obtain ⟨rfl, hA, hB, hne, l1, l2, hp⟩ := hP
  have c1 : Steps p.tables e below (s₁.setTop (entryFrame m #[.ref b, .int (Int32.ofNat o), .ref d, .int (Int32.ofNat q), .int (Int32.ofNat len)] 7)) (s₁.setTop (mkF m 0 #[.val (.ref b), .val (.int (Int32.ofNat o)), .val (.ref d), .val (.int (Int32.ofNat q)), .val (.int (Int32.ofNat len)), .unset, .unset] [])) := entry rfl
  have hA0 := hA.1.mv X0.warmed.alike hh0
  have hB0 := hB.mv X0.warmed.alike hh0
  have a31 := hA.1.2.2.2
  have c2 : Steps p.tables e below (s₁.setTop (entryFrame m #[.ref b, .int (Int32.ofNat o), .ref d, .int (Int32.ofNat q), .int (Int32.ofNat len)] 7)) (s₁.setTop (mkF m 3 #[.val (.ref b), .val (.int (Int32.ofNat o)), .val (.ref d), .val (.int (Int32.ofNat q)), .val (.int (Int32.ofNat len)), .val (.int 0), .unset] [])) := c1.trans (by
    refine iconstV X0.here hexec rfl 0 (hb hbytes d0) (by decide) ?_
    refine XS.istore X0.here hexec rfl (hb hbytes d1) rfl rfl ?_
    exact Steps.refl _)
  have loop : ∀ (r i : Nat), i + r = len → ∀ (z : Slot), (z = .unset ∨ ∃ w, z = .val w ∧ w.category = 1) → ∀ (Tl : State) (Bk : Cell), Stand p l e { frames := 0, locals := 0, cells := 0, slots := 0 } s m #[.ref b, .int (Int32.ofNat o), .ref d, .int (Int32.ofNat q), .int (Int32.ofNat len)] below meth c Tl ([] ++ copyLocs d q i) 0 0 → Put d Bk s₁ Tl → Laid B Bk q (q + i) (fun j => Value.int (lo8 (cv A (o + (j - q))))) →
      Steps p.tables e below (s₁.setTop (entryFrame m #[.ref b, .int (Int32.ofNat o), .ref d, .int (Int32.ofNat q), .int (Int32.ofNat len)] 7)) (Tl.setTop (mkF m 3 #[.val (.ref b), .val (.int (Int32.ofNat (o + i))), .val (.ref d), .val (.int (Int32.ofNat (q + i))), .val (.int (Int32.ofNat len)), .val (.int (Int32.ofNat i)), z] [])) → ∃ (T' : State) (B' : Cell) (z' : Slot), Stand p l e { frames := 0, locals := 0, cells := 0, slots := 0 } s m #[.ref b, .int (Int32.ofNat o), .ref d, .int (Int32.ofNat q), .int (Int32.ofNat len)] below meth c T' ([] ++ copyLocs d q len) 0 0 ∧ Put d B' s₁ T' ∧ Laid B B' q (q + len) (fun j => Value.int (lo8 (cv A (o + (j - q))))) ∧
      Steps p.tables e below (s₁.setTop (entryFrame m #[.ref b, .int (Int32.ofNat o), .ref d, .int (Int32.ofNat q), .int (Int32.ofNat len)] 7)) (T'.setTop (mkF m 3 #[.val (.ref b), .val (.int (Int32.ofNat (o + len))), .val (.ref d), .val (.int (Int32.ofNat (q + len))), .val (.int (Int32.ofNat len)), .val (.int (Int32.ofNat len)), z'] [])) := by
    intro r
    induction r with
    | zero =>
      intro i hi z hz Tl Bk Xl pl fl cl
      have hil : i = len := by omega
      rw [hil] at Xl fl cl
      exact ⟨Tl, Bk, z, Xl, pl, fl, cl⟩
    | succ r ih =>
      intro i hi z hz Tl Bk Xl pl fl cl
      have all := X0.warmed.alike.symm.trans Xl.warmed.alike
      have hAl := hA0.keep all (pl.other hne hA0.1)
      have hBk := hB0.like all pl.1 fl.1 fl.2.1 fl.2.2.1
      have hlt : q + i < Bk.slots.size := by rw [fl.2.2.1]; omega
      have c3 : Steps p.tables e below (s₁.setTop (entryFrame m #[.ref b, .int (Int32.ofNat o), .ref d, .int (Int32.ofNat q), .int (Int32.ofNat len)] 7)) (Tl.setTop (mkF m 12 #[.val (.ref b), .val (.int (Int32.ofNat (o + i))), .val (.ref d), .val (.int (Int32.ofNat (q + i))), .val (.int (Int32.ofNat len)), .val (.int (Int32.ofNat i)), z] [.int (Int32.ofNat (o + i)), .ref b])) := cl.trans (by
        refine XS.iload Xl.here hexec rfl (hb hbytes d3) rfl ?_
        refine XS.iload Xl.here hexec rfl (hb hbytes d5) rfl ?_
        refine XS.icmpNo Xl.here hexec rfl (hb hbytes d7) rfl (ii_ge_f (lt32 (by omega) (by omega))) ?_
        refine XS.aloadN Xl.here hexec rfl (hb hbytes d10) rfl rfl ?_
        refine XS.iloadN Xl.here hexec rfl (hb hbytes d11) rfl ?_
        exact Steps.refl _)
      have c4 : Steps p.tables e below (s₁.setTop (entryFrame m #[.ref b, .int (Int32.ofNat o), .ref d, .int (Int32.ofNat q), .int (Int32.ofNat len)] 7)) (Tl.setTop (mkF m 13 #[.val (.ref b), .val (.int (Int32.ofNat (o + i))), .val (.ref d), .val (.int (Int32.ofNat (q + i))), .val (.int (Int32.ofNat len)), .val (.int (Int32.ofNat i)), z] [.int (cv A (o + i))])) := c3.trans (by
        refine Xl.aget hexec hAl rfl (hA.get (i := o + i) (by omega)) rfl rfl (hb hbytes d12) ?_
        exact Steps.refl _)
      have c5 : Steps p.tables e below (s₁.setTop (entryFrame m #[.ref b, .int (Int32.ofNat o), .ref d, .int (Int32.ofNat q), .int (Int32.ofNat len)] 7)) (Tl.setTop (mkF m 15 #[.val (.ref b), .val (.int (Int32.ofNat (o + i))), .val (.ref d), .val (.int (Int32.ofNat (q + i))), .val (.int (Int32.ofNat len)), .val (.int (Int32.ofNat i)), .val (.int (cv A (o + i)))] [])) := c4.trans (by
        refine XS.istoreS Xl.here hexec rfl (hb hbytes d13) rfl rfl hz ?_
        exact Steps.refl _)
      have c6 : Steps p.tables e below (s₁.setTop (entryFrame m #[.ref b, .int (Int32.ofNat o), .ref d, .int (Int32.ofNat q), .int (Int32.ofNat len)] 7)) (Tl.setTop (mkF m 31 #[.val (.ref b), .val (.int (Int32.ofNat (o + i))), .val (.ref d), .val (.int (Int32.ofNat (q + i))), .val (.int (Int32.ofNat len)), .val (.int (Int32.ofNat i)), .val (.int (cv A (o + i)))] [.int (lo8 (cv A (o + i))), .int (Int32.ofNat (q + i)), .ref d])) := c5.trans (by
        refine XS.iload Xl.here hexec rfl (hb hbytes d15) rfl ?_
        refine sipushV Xl.here hexec rfl 255 (hb hbytes d17) (by decide) ?_
        refine XS.icmpYes Xl.here hexec rfl (pc0 := 20) rfl (hb hbytes d20) rfl (ii_le_t (hp i (by omega))) (by decide) rfl ?_
        refine XS.aloadN Xl.here hexec rfl (hb hbytes d26) rfl rfl ?_
        refine XS.iloadN Xl.here hexec rfl (hb hbytes d27) rfl ?_
        refine XS.iload Xl.here hexec rfl (hb hbytes d28) rfl ?_
        refine i2b Xl.here hexec rfl (hb hbytes d30) rfl ?_
        exact Steps.refl _)
      obtain ⟨T7, X7, p7, st7⟩ := Xl.aput hexec hBk rfl hlt rfl (fits_lo8 (cv A (o + i))) (g := (mkF m 31 #[.val (.ref b), .val (.int (Int32.ofNat (o + i))), .val (.ref d), .val (.int (Int32.ofNat (q + i))), .val (.int (Int32.ofNat len)), .val (.int (Int32.ofNat i)), .val (.int (cv A (o + i)))] [.int (lo8 (cv A (o + i))), .int (Int32.ofNat (q + i)), .ref d])) rfl (rest := []) rfl (hb hbytes d31)
      have c8 : Steps p.tables e below (s₁.setTop (entryFrame m #[.ref b, .int (Int32.ofNat o), .ref d, .int (Int32.ofNat q), .int (Int32.ofNat len)] 7)) (T7.setTop (mkF m 32 #[.val (.ref b), .val (.int (Int32.ofNat (o + i))), .val (.ref d), .val (.int (Int32.ofNat (q + i))), .val (.int (Int32.ofNat len)), .val (.int (Int32.ofNat i)), .val (.int (cv A (o + i)))] [])) := c6.trans (st7 _ (Steps.refl _))
      have c9 : Steps p.tables e below (s₁.setTop (entryFrame m #[.ref b, .int (Int32.ofNat o), .ref d, .int (Int32.ofNat q), .int (Int32.ofNat len)] 7)) (T7.setTop (mkF m 3 #[.val (.ref b), .val (.int (Int32.ofNat (o + i) + 1)), .val (.ref d), .val (.int (Int32.ofNat (q + i) + 1)), .val (.int (Int32.ofNat len)), .val (.int (Int32.ofNat i + 1)), .val (.int (cv A (o + i)))] [])) := c8.trans (by
        refine iincV X7.here hexec rfl 1 (hb hbytes d32) (by decide) rfl rfl ?_
        refine iincV X7.here hexec rfl 1 (hb hbytes d35) (by decide) rfl rfl ?_
        refine iincV X7.here hexec rfl 1 (hb hbytes d38) (by decide) rfl rfl ?_
        refine XS.goto X7.here hexec rfl (pc0 := 41) rfl (hb hbytes d41) (by decide) rfl ?_
        exact Steps.refl _)
      have c10 : Steps p.tables e below (s₁.setTop (entryFrame m #[.ref b, .int (Int32.ofNat o), .ref d, .int (Int32.ofNat q), .int (Int32.ofNat len)] 7)) (T7.setTop (mkF m 3 #[.val (.ref b), .val (.int (Int32.ofNat (o + (i + 1)))), .val (.ref d), .val (.int (Int32.ofNat (q + (i + 1)))), .val (.int (Int32.ofNat len)), .val (.int (Int32.ofNat (i + 1))), .val (.int (cv A (o + i)))] [])) := by
        have := c9
        rw [succ32, succ32, succ32] at this
        exact this
      exact ih (i + 1) (by omega) _ (Or.inr ⟨_, rfl, rfl⟩) T7 _ (by rw [copyLocs_step, ← List.append_assoc]; exact X7) (pl.trans p7) (fl.step (by omega) hlt (by simp)) c10
  obtain ⟨T9, B9, z9, X9, p9, f9, g9⟩ := loop len 0 (by omega) .unset (Or.inl rfl) s₁ B (by simpa [copyLocs] using X0) ⟨hB0.1, fun _ _ => rfl, rfl⟩ (Laid.zero _ _ _) c2
  have c11 : Steps p.tables e below (s₁.setTop (entryFrame m #[.ref b, .int (Int32.ofNat o), .ref d, .int (Int32.ofNat q), .int (Int32.ofNat len)] 7)) (T9.setTop (mkF m 46 #[.val (.ref b), .val (.int (Int32.ofNat (o + len))), .val (.ref d), .val (.int (Int32.ofNat (q + len))), .val (.int (Int32.ofNat len)), .val (.int (Int32.ofNat len)), z9] [.int (Int32.ofNat len)])) := g9.trans (by
    refine XS.iload X9.here hexec rfl (hb hbytes d3) rfl ?_
    refine XS.iload X9.here hexec rfl (hb hbytes d5) rfl ?_
    refine XS.icmpYes X9.here hexec rfl (pc0 := 7) rfl (hb hbytes d7) rfl (ii_ge_t (nlt32 (by omega) (Nat.le_refl _))) (by decide) rfl ?_
    refine XS.iload X9.here hexec rfl (hb hbytes d44) rfl ?_
    exact Steps.refl _)
  exact ⟨T9, some (.int (Int32.ofNat len)), _, _, _, X9, by simp, rfl, rfl, (fun h => by cases h), ⟨rfl, B9, p9.from hh0, f9⟩, fun fs hl => c11.trans (X9.ireturnOut hexec hret rfl (Or.inl rfl) (hb hbytes d46) hl)⟩
end Cmp5
namespace Cmp3
def yN : MethodName := ⟨"java/lang/StringUTF16", "compress", "([CII)[B"⟩
abbrev yB : ByteArray := jdk_52_method_16_code
theorem d0 : decode yB 0 = .ok (.iload_n 2, 1) := by decide +kernel
theorem d1 : decode yB 1 = .ok (.newarray .byte, 2) := by decide +kernel
theorem d3 : decode yB 3 = .ok (.astore_n 3, 1) := by decide +kernel
theorem d4 : decode yB 4 = .ok (.aload_n 0, 1) := by decide +kernel
theorem d5 : decode yB 5 = .ok (.iload_n 1, 1) := by decide +kernel
theorem d6 : decode yB 6 = .ok (.aload_n 3, 1) := by decide +kernel
theorem d7 : decode yB 7 = .ok (.iconst 0, 1) := by decide +kernel
theorem d8 : decode yB 8 = .ok (.iload_n 2, 1) := by decide +kernel
theorem d9 : decode yB 9 = .ok (.invokestatic 115, 3) := by decide +kernel
theorem d12 : decode yB 12 = .ok (.istore 4, 2) := by decide +kernel
theorem d14 : decode yB 14 = .ok (.iload 4, 2) := by decide +kernel
theorem d16 : decode yB 16 = .ok (.iload_n 2, 1) := by decide +kernel
theorem d17 : decode yB 17 = .ok (.if_icmp (.eq) 40, 3) := by decide +kernel
theorem d57 : decode yB 57 = .ok (.aload_n 3, 1) := by decide +kernel
theorem d58 : decode yB 58 = .ok (.areturn, 1) := by decide +kernel
def site : List Cond := [.arrayClass .byte, Cmp5.tab] ++ staticW U16 115 Cmp5.yN
def tab : Cond := tabOf yN yB 6 (some (.array .byte)) site
def P (b : Addr) (A : Cell) (o len : Nat) (args : Array Value) (s : State) : Prop := args = #[.ref b, .int (Int32.ofNat o), .int (Int32.ofNat len)] ∧ Ch b A s ∧ o + len ≤ A.slots.size ∧ len ≤ 536870912 ∧ ∀ i, i < len → ¬ 255 < cv A (o + i)
def E (b : Addr) (A : Cell) (o len : Nat) (r : Option Value) (s u : State) : Prop := NewArr .byte "[B" len (fun j => .int (lo8 (cv A (o + j)))) r s u ∧ u.heap.size = s.heap.size + 1
/-- no char of the range above 255: a new byte[] of their low bytes -/
theorem law (l : Launch) (b : Addr) (A : Cell) (o len : Nat) : Law l yN 3 3 1 18 yB 6 (some (.array .byte)) site (P b A o len) (E b A o len) [] 1 len := by
  refine Law.of_walk (plainFor_of_name (by decide +kernel)) (by decide +kernel) (by decide +kernel) (by decide) (fun _ _ h => by rw [h.1]; rfl) (fun _ U U' hal hh h => ⟨h.1, h.2.1.mv hal hh, h.2.2⟩) (fun r U U' V V' h1 hal h2 h => ⟨NewArr.mv r U U' V V' h1 hal h2 h.1, by rw [h1, h2]; exact h.2⟩) ?_
  intro p e s m args below meth c s₁ X0 hexec hbytes hml hret hlk hnm hown hh0 W hP
  obtain ⟨rfl, hA, l1, l2, hp⟩ := hP
  have a31 := hA.1.2.2.2
  have c1 : Steps p.tables e below (s₁.setTop (entryFrame m #[.ref b, .int (Int32.ofNat o), .int (Int32.ofNat len)] 6)) (s₁.setTop (mkF m 0 #[.val (.ref b), .val (.int (Int32.ofNat o)), .val (.int (Int32.ofNat len)), .unset, .unset, .unset] [])) := entry rfl
  have c2 : Steps p.tables e below (s₁.setTop (entryFrame m #[.ref b, .int (Int32.ofNat o), .int (Int32.ofNat len)] 6)) (s₁.setTop (mkF m 1 #[.val (.ref b), .val (.int (Int32.ofNat o)), .val (.int (Int32.ofNat len)), .unset, .unset, .unset] [.int (Int32.ofNat len)])) := c1.trans (by
    refine XS.iloadN X0.here hexec rfl (hb hbytes d0) rfl ?_
    exact Steps.refl _)
  obtain ⟨T3, B3, X3, ba3, bs3, bv3, bh3, bf3, st3⟩ := X0.anew hexec (atype := .byte) (wk W (.arrayClass .byte)) rfl (by show len * 1 ≤ _; omega) (by omega) (g := (mkF m 1 #[.val (.ref b), .val (.int (Int32.ofNat o)), .val (.int (Int32.ofNat len)), .unset, .unset, .unset] [.int (Int32.ofNat len)])) rfl (hb hbytes d1) (rest := []) rfl (Nat.le_refl _) (by show 0 + len ≤ len; omega)
  rw [hh0] at ba3 st3
  have kp3 : XT.Kept s T3 := (XT.Kept.of_eq hh0).push bh3
  have hA3 := hA.keep X3.warmed.alike (kp3 _ _ hA.1.1)
  have hne : b ≠ s.heap.size := hA.1.ne
  have c4 : Steps p.tables e below (s₁.setTop (entryFrame m #[.ref b, .int (Int32.ofNat o), .int (Int32.ofNat len)] 6)) (T3.setTop (mkF m 3 #[.val (.ref b), .val (.int (Int32.ofNat o)), .val (.int (Int32.ofNat len)), .unset, .unset, .unset] [.ref s.heap.size])) := c2.trans (st3 _ (Steps.refl _))
  have c5 : Steps p.tables e below (s₁.setTop (entryFrame m #[.ref b, .int (Int32.ofNat o), .int (Int32.ofNat len)] 6)) (T3.setTop (mkF m 9 #[.val (.ref b), .val (.int (Int32.ofNat o)), .val (.int (Int32.ofNat len)), .val (.ref s.heap.size), .unset, .unset] [.int (Int32.ofNat len), .int 0, .ref s.heap.size, .int (Int32.ofNat o), .ref b])) := c4.trans (by
    refine XS.astoreN X3.here hexec rfl (hb hbytes d3) rfl rfl rfl ?_
    refine XS.aloadN X3.here hexec rfl (hb hbytes d4) rfl rfl ?_
    refine XS.iloadN X3.here hexec rfl (hb hbytes d5) rfl ?_
    refine XS.aloadN X3.here hexec rfl (hb hbytes d6) rfl rfl ?_
    refine iconstV X3.here hexec rfl 0 (hb hbytes d7) (by decide) ?_
    refine XS.iloadN X3.here hexec rfl (hb hbytes d8) rfl ?_
    exact Steps.refl _)
  obtain ⟨v6, T6, X6, E6, g6⟩ := X3.callS hexec (Cmp5.law l b A s.heap.size B3 o 0 len) hown (wks W (staticW U16 115 Cmp5.yN)) (wk W Cmp5.tab) (W := 0) (Nat.le_of_ble_eq_true rfl) (Nat.le_of_ble_eq_true rfl) (Nat.le_refl _) (by show 0 + len + 0 ≤ len; omega) (g := (mkF m 9 #[.val (.ref b), .val (.int (Int32.ofNat o)), .val (.int (Int32.ofNat len)), .val (.ref s.heap.size), .unset, .unset] [.int (Int32.ofNat len), .int (Int32.ofNat 0), .ref s.heap.size, .int (Int32.ofNat o), .ref b])) rfl (by rw [hml]; rfl) c5 (argsL := [.ref b, .int (Int32.ofNat o), .ref s.heap.size, .int (Int32.ofNat 0), .int (Int32.ofNat len)]) (rest := []) rfl rfl (by show 2 * 0 + 0 ≤ _; decide) (hb hbytes d9) (⟨rfl, hA3, ba3, hne, l1, by rw [bs3]; simp, hp⟩)
  obtain ⟨rfl, B6, p6, f6⟩ := E6
  have c7 : Steps p.tables e below (s₁.setTop (entryFrame m #[.ref b, .int (Int32.ofNat o), .int (Int32.ofNat len)] 6)) (T6.setTop (mkF m 12 #[.val (.ref b), .val (.int (Int32.ofNat o)), .val (.int (Int32.ofNat len)), .val (.ref s.heap.size), .unset, .unset] [.int (Int32.ofNat len)])) := g6
  have c8 : Steps p.tables e below (s₁.setTop (entryFrame m #[.ref b, .int (Int32.ofNat o), .int (Int32.ofNat len)] 6)) (T6.setTop (mkF m 58 #[.val (.ref b), .val (.int (Int32.ofNat o)), .val (.int (Int32.ofNat len)), .val (.ref s.heap.size), .val (.int (Int32.ofNat len)), .unset] [.ref s.heap.size])) := c7.trans (by
    refine XS.istore X6.here hexec rfl (hb hbytes d12) rfl rfl ?_
    refine XS.iload X6.here hexec rfl (hb hbytes d14) rfl ?_
    refine XS.iloadN X6.here hexec rfl (hb hbytes d16) rfl ?_
    refine XS.icmpYes X6.here hexec rfl (pc0 := 17) rfl (hb hbytes d17) rfl (ii_eq_t rfl) (by decide) rfl ?_
    refine XS.aloadN X6.here hexec rfl (hb hbytes d57) rfl rfl ?_
    exact Steps.refl _)
  have X8 := X6.wide (L' := []) (cells' := 1) (slots' := len) (fun x hx hlt => by
    simp only [List.nil_append, copyLocs, List.mem_map, List.mem_range] at hx
    obtain ⟨i, -, rfl⟩ := hx
    exact absurd hlt (Nat.lt_irrefl _)) (Nat.le_refl _) (by omega)
  exact ⟨T6, some (.ref s.heap.size), _, _, _, X8, rfl, rfl, rfl, (fun h => by cases h), ⟨⟨rfl, B6, ba3.like (X3.warmed.alike.symm.trans X6.warmed.alike) p6.1 f6.1 f6.2.1 f6.2.2.1, f6.2.1.trans bv3, by rw [X6.warmed.alike.findClass, f6.1]; exact bf3, by rw [f6.2.2.1, bs3]; simp, fun j hj => by rw [f6.2.2.2 j, if_pos (by omega)]; rfl, kp3.put p6 (Nat.le_refl _)⟩, by rw [p6.2.2, bh3, hh0]; simp⟩, fun fs hl => c8.trans (X8.areturnOut hexec rfl hret rfl (hb hbytes d58) hl)⟩
end Cmp3
namespace CodL
def yN : MethodName := ⟨"java/lang/StringUTF16", "coderFromArrayLen", "([BI)B"⟩
abbrev yB : ByteArray := jdk_52_method_15_code
theorem d0 : decode yB 0 = .ok (.iload_n 1, 1) := by decide +kernel
theorem d1 : decode yB 1 = .ok (.aload_n 0, 1) := by decide +kernel
theorem d2 : decode yB 2 = .ok (.arraylength, 1) := by decide +kernel
theorem d3 : decode yB 3 = .ok (.isub, 1) := by decide +kernel
theorem d4 : decode yB 4 = .ok (.bipush 31, 2) := by decide +kernel
theorem d6 : decode yB 6 = .ok (.iushr, 1) := by decide +kernel
theorem d7 : decode yB 7 = .ok (.i2b, 1) := by decide +kernel
theorem d8 : decode yB 8 = .ok (.ireturn, 1) := by decide +kernel
def site : List Cond := []
def tab : Cond := tabOf yN yB 2 (some .byte) site
def P (d : Addr) (B : Cell) (args : Array Value) (s : State) : Prop := args = #[.ref d, .int (Int32.ofNat B.slots.size)] ∧ Arr .byte d B s
def E (r : Option Value) (s u : State) : Prop := XT.PureE (some (.int 0)) r s u
/-- an array as long as the number of chars: LATIN1 -/
theorem law (l : Launch) (d : Addr) (B : Cell) : Law l yN 2 2 0 0 yB 2 (some .byte) site (P d B) E [] 0 0 := by
  refine Law.of_walk (plainFor_of_name (by decide +kernel)) (by decide +kernel) (by decide +kernel) (by decide) (fun _ _ h => by rw [h.1]; rfl) (fun _ U U' hal hh h => ⟨h.1, h.2.mv hal hh⟩) (fun r U U' V V' h1 hal h2 h => XT.PureE.mv r U U' V V' h1 hal h2 h) ?_
  intro p e s m args below meth c s₁ X0 hexec hbytes hml hret hlk hnm hown hh0 W hP
  obtain ⟨rfl, hB⟩ := hP
  have hB0 := hB.mv X0.warmed.alike hh0
  have c1 : Steps p.tables e below (s₁.setTop (entryFrame m #[.ref d, .int (Int32.ofNat B.slots.size)] 2)) (s₁.setTop (mkF m 0 #[.val (.ref d), .val (.int (Int32.ofNat B.slots.size))] [])) := entry rfl
  have c2 : Steps p.tables e below (s₁.setTop (entryFrame m #[.ref d, .int (Int32.ofNat B.slots.size)] 2)) (s₁.setTop (mkF m 2 #[.val (.ref d), .val (.int (Int32.ofNat B.slots.size))] [.ref d, .int (Int32.ofNat B.slots.size)])) := c1.trans (by
    refine XS.iloadN X0.here hexec rfl (hb hbytes d0) rfl ?_
    refine XS.aloadN X0.here hexec rfl (hb hbytes d1) rfl rfl ?_
    exact Steps.refl _)
  have c3 : Steps p.tables e below (s₁.setTop (entryFrame m #[.ref d, .int (Int32.ofNat B.slots.size)] 2)) (s₁.setTop (mkF m 8 #[.val (.ref d), .val (.int (Int32.ofNat B.slots.size))] [.int (lo8 (ushr (Int32.ofNat B.slots.size - Int32.ofNat B.slots.size) 31))])) := c2.trans (by
    refine X0.alen hexec hB0 rfl rfl (hb hbytes d2) ?_
    refine XS.isub X0.here hexec rfl (hb hbytes d3) rfl ?_
    refine bipushV X0.here hexec rfl 31 (hb hbytes d4) (by decide) ?_
    refine iushr X0.here hexec rfl (hb hbytes d6) rfl ?_
    refine i2b X0.here hexec rfl (hb hbytes d7) rfl ?_
    exact Steps.refl _)
  have e0 : lo8 (ushr (Int32.ofNat B.slots.size - Int32.ofNat B.slots.size) 31) = 0 := by rw [Int32.sub_self]; decide
  rw [e0] at c3
  exact ⟨s₁, some (.int 0), _, _, _, X0, rfl, rfl, rfl, (fun h => by cases h), ⟨rfl, hh0⟩, fun fs hl => c3.trans (X0.ireturnOut hexec hret rfl (Or.inr (Or.inr (Or.inl rfl))) (hb hbytes d8) hl)⟩
end CodL
/-- the String at a is Latin-1 over a new byte[] (the heap's one new cell): the low bytes of the len chars of A from o on; every cell but a is kept -/
def Got (a : Addr) (D : Cell) (fV fC : Field) (A : Cell) (o len : Nat) (r : Option Value) (s u : State) : Prop := r = none ∧ ∃ D' V : Cell, Blank "java/lang/String" a D' u ∧ Same D D' [fV.slot, fC.slot] ∧ D'.slots[fV.slot]? = some (.ref s.heap.size) ∧ D'.slots[fC.slot]? = some (.int 0) ∧ Arr .byte s.heap.size V u ∧ V.vm = .none ∧ u.vm.findClass "[B" = some V.cls ∧ V.slots.size = len ∧ (∀ j, j < len → V.slots[j]? = some (.int (lo8 (cv A (o + j))))) ∧ (∀ (y : Addr) (c : Cell), y ≠ a → s.heap[y]? = some c → u.heap[y]? = some c) ∧ u.heap.size = s.heap.size + 1
theorem Got.mv {a : Addr} {D A : Cell} {fV fC : Field} {o len : Nat} : ∀ r (U U' V V' : State), U'.heap = U.heap → V.vm.Alike V'.vm → V'.heap = V.heap → Got a D fV fC A o len r U V → Got a D fV fC A o len r U' V' :=
  fun r U U' V V' h1 hal h2 ⟨e0, D', X, a1, a2, a3, a4, a5, a6, a7, a8, a9, a10, a11⟩ => ⟨e0, D', X, a1.mv hal h2, a2, by rw [h1]; exact a3, a4, by rw [h1]; exact a5.mv hal h2, a6, by rw [hal.findClass]; exact a7, a8, a9, by rw [h1, h2]; exact a10, by rw [h1, h2]; exact a11⟩
namespace New4
def yN : MethodName := ⟨"java/lang/String", "<init>", "([CIILjava/lang/Void;)V"⟩
abbrev yB : ByteArray := jdk_42_method_149_code
theorem d0 : decode yB 0 = .ok (.aload_n 0, 1) := by decide +kernel
theorem d1 : decode yB 1 = .ok (.invokespecial 1, 3) := by decide +kernel
theorem d4 : decode yB 4 = .ok (.iload_n 3, 1) := by decide +kernel
theorem d5 : decode yB 5 = .ok (.ifCond (.ne) 22, 3) := by decide +kernel
theorem d27 : decode yB 27 = .ok (.getstatic 38, 3) := by decide +kernel
theorem d30 : decode yB 30 = .ok (.ifCond (.eq) 28, 3) := by decide +kernel
theorem d33 : decode yB 33 = .ok (.aload_n 1, 1) := by decide +kernel
theorem d34 : decode yB 34 = .ok (.iload_n 2, 1) := by decide +kernel
theorem d35 : decode yB 35 = .ok (.iload_n 3, 1) := by decide +kernel
theorem d36 : decode yB 36 = .ok (.invokestatic 177, 3) := by decide +kernel
theorem d39 : decode yB 39 = .ok (.astore 5, 2) := by decide +kernel
theorem d41 : decode yB 41 = .ok (.aload_n 0, 1) := by decide +kernel
theorem d42 : decode yB 42 = .ok (.aload 5, 2) := by decide +kernel
theorem d44 : decode yB 44 = .ok (.iload_n 3, 1) := by decide +kernel
theorem d45 : decode yB 45 = .ok (.invokestatic 47, 3) := by decide +kernel
theorem d48 : decode yB 48 = .ok (.putfield 15, 3) := by decide +kernel
theorem d51 : decode yB 51 = .ok (.aload_n 0, 1) := by decide +kernel
theorem d52 : decode yB 52 = .ok (.aload 5, 2) := by decide +kernel
theorem d54 : decode yB 54 = .ok (.putfield 9, 3) := by decide +kernel
theorem d57 : decode yB 57 = .ok (.return_, 1) := by decide +kernel
def site : List Cond := [.fieldLink "java/lang/String" 38 "java/lang/String" "COMPACT_STRINGS" "Z", Cmp3.tab, CodL.tab, .laysFinal "java/lang/String" "java/lang/String" "value" "[B", .fieldLink "java/lang/String" 9 "java/lang/String" "value" "[B", .laysFinal "java/lang/String" "java/lang/String" "coder" "B", .fieldLink "java/lang/String" 15 "java/lang/String" "coder" "B"] ++ objW "java/lang/String" 1 ++ staticW "java/lang/String" 177 Cmp3.yN ++ staticW "java/lang/String" 47 CodL.yN
def tab : Cond := tabOf yN yB 6 none site
def P (a : Addr) (D : Cell) (fV fC : Field) (b : Addr) (A : Cell) (z : Int32) (o len : Nat) (args : Array Value) (s : State) : Prop := args = #[.ref a, .ref b, .int (Int32.ofNat o), .int (Int32.ofNat len), .null] ∧ Blank "java/lang/String" a D s ∧ Found "java/lang/String" "value" "[B" fV s ∧ Found "java/lang/String" "coder" "B" fC s ∧ Ch b A s ∧ StaticIs s "java/lang/String" "COMPACT_STRINGS" "Z" (.int z) ∧ ¬ z = 0 ∧ 0 < len ∧ o + len ≤ A.slots.size ∧ len ≤ 536870912 ∧ ∀ i, i < len → ¬ 255 < cv A (o + i)
def E (a : Addr) (D : Cell) (fV fC : Field) (A : Cell) (o len : Nat) (r : Option Value) (s u : State) : Prop := Got a D fV fC A o len r s u
/-- len > 0, no char of the range above 255: a Latin-1 String of their low bytes -/
theorem law (l : Launch) (a : Addr) (D : Cell) (fV fC : Field) (b : Addr) (A : Cell) (z : Int32) (o len : Nat) : Law l yN 5 4 2 35 yB 6 none site (P a D fV fC b A z o len) (E a D fV fC A o len) [⟨a, fC.slot⟩, ⟨a, fV.slot⟩] 1 len := by
  refine Law.of_walk (plainFor_of_name (by decide +kernel)) (by decide +kernel) (by decide +kernel) (by decide) (fun _ _ h => by rw [h.1]; rfl) (fun _ U U' hal hh h => ⟨h.1, h.2.1.mv hal hh, h.2.2.1.al hal, h.2.2.2.1.al hal, h.2.2.2.2.1.mv hal hh, h.2.2.2.2.2.1.there hal hh, h.2.2.2.2.2.2⟩) (fun r U U' V V' h1 hal h2 h => Got.mv r U U' V V' h1 hal h2 h) ?_
  intro p e s m args below meth c s₁ X0 hexec hbytes hml hret hlk hnm hown hh0 W hP
  obtain ⟨rfl, hB, f1, f2, hA, s1, hz, l0, l1, l2, hp⟩ := hP
  have a31 := hA.1.2.2.2
  have c1 : Steps p.tables e below (s₁.setTop (entryFrame m #[.ref a, .ref b, .int (Int32.ofNat o), .int (Int32.ofNat len), .null] 6)) (s₁.setTop (mkF m 0 #[.val (.ref a), .val (.ref b), .val (.int (Int32.ofNat o)), .val (.int (Int32.ofNat len)), .val .null, .unset] [])) := entry rfl
  have c2 : Steps p.tables e below (s₁.setTop (entryFrame m #[.ref a, .ref b, .int (Int32.ofNat o), .int (Int32.ofNat len), .null] 6)) (s₁.setTop (mkF m 1 #[.val (.ref a), .val (.ref b), .val (.int (Int32.ofNat o)), .val (.int (Int32.ofNat len)), .val .null, .unset] [.ref a])) := c1.trans (by
    refine XS.aloadN X0.here hexec rfl (hb hbytes d0) rfl rfl ?_
    exact Steps.refl _)
  obtain ⟨T3, X3, q3, st3⟩ := X0.oinit hexec hown (wks W (objW "java/lang/String" 1)) (g := (mkF m 1 #[.val (.ref a), .val (.ref b), .val (.int (Int32.ofNat o)), .val (.int (Int32.ofNat len)), .val .null, .unset] [.ref a])) rfl (by rw [hml]; rfl) (rest := []) rfl (hb hbytes d1) (W := 0) (by show 2 * 0 + 0 ≤ _; decide) (Nat.le_of_ble_eq_true rfl) (Nat.le_of_ble_eq_true rfl)
  have hh3 := q3.trans hh0
  have c4 : Steps p.tables e below (s₁.setTop (entryFrame m #[.ref a, .ref b, .int (Int32.ofNat o), .int (Int32.ofNat len), .null] 6)) (T3.setTop (mkF m 27 #[.val (.ref a), .val (.ref b), .val (.int (Int32.ofNat o)), .val (.int (Int32.ofNat len)), .val .null, .unset] [])) := (c2.trans (st3 _ (Steps.refl _))).trans (by
    refine XS.iloadN X3.here hexec rfl (hb hbytes d4) rfl ?_
    refine XS.ifYes X3.here hexec rfl (pc0 := 5) rfl (hb hbytes d5) rfl (i0_ne_t (nz32 (by omega) l0)) (by decide) rfl ?_
    exact Steps.refl _)
  obtain ⟨T5, X5, q5, st5⟩ := X3.sget hexec hown (wk W (.fieldLink "java/lang/String" 38 "java/lang/String" "COMPACT_STRINGS" "Z")) s1 (fun _ _ h => by rw [hh3]; exact h) (g := (mkF m 27 #[.val (.ref a), .val (.ref b), .val (.int (Int32.ofNat o)), .val (.int (Int32.ofNat len)), .val .null, .unset] [])) rfl (hb hbytes d27)
  have hh5 := q5.trans hh3
  have c6 : Steps p.tables e below (s₁.setTop (entryFrame m #[.ref a, .ref b, .int (Int32.ofNat o), .int (Int32.ofNat len), .null] 6)) (T5.setTop (mkF m 30 #[.val (.ref a), .val (.ref b), .val (.int (Int32.ofNat o)), .val (.int (Int32.ofNat len)), .val .null, .unset] [.int z])) := c4.trans (st5 _ (Steps.refl _))
  have c7 : Steps p.tables e below (s₁.setTop (entryFrame m #[.ref a, .ref b, .int (Int32.ofNat o), .int (Int32.ofNat len), .null] 6)) (T5.setTop (mkF m 36 #[.val (.ref a), .val (.ref b), .val (.int (Int32.ofNat o)), .val (.int (Int32.ofNat len)), .val .null, .unset] [.int (Int32.ofNat len), .int (Int32.ofNat o), .ref b])) := c6.trans (by
    refine XS.ifNo X5.here hexec rfl (hb hbytes d30) rfl (i0_eq_f hz) ?_
    refine XS.aloadN X5.here hexec rfl (hb hbytes d33) rfl rfl ?_
    refine XS.iloadN X5.here hexec rfl (hb hbytes d34) rfl ?_
    refine XS.iloadN X5.here hexec rfl (hb hbytes d35) rfl ?_
    exact Steps.refl _)
  obtain ⟨v8, T8, X8, E8, g8⟩ := X5.callS hexec (Cmp3.law l b A o len) hown (wks W (staticW "java/lang/String" 177 Cmp3.yN)) (wk W Cmp3.tab) (W := 0) (Nat.le_of_ble_eq_true rfl) (Nat.le_of_ble_eq_true rfl) (Nat.le_refl _) (by show 0 + len ≤ len; omega) (g := (mkF m 36 #[.val (.ref a), .val (.ref b), .val (.int (Int32.ofNat o)), .val (.int (Int32.ofNat len)), .val .null, .unset] [.int (Int32.ofNat len), .int (Int32.ofNat o), .ref b])) rfl (by rw [hml]; rfl) c7 (argsL := [.ref b, .int (Int32.ofNat o), .int (Int32.ofNat len)]) (rest := []) rfl rfl (by show 2 * 0 + 0 ≤ _; decide) (hb hbytes d36) (⟨rfl, hA.mv X5.warmed.alike hh5, l1, l2, hp⟩)
  obtain ⟨e8, z8⟩ := E8
  obtain ⟨rfl, N, n1, n2, n3, n4, n5, n6⟩ := NewArr.mv _ T5 s _ _ hh5.symm (Vm.Alike.refl _) rfl e8
  rw [hh5] at z8
  have hB1 := hB.keep X8.warmed.alike (n6 _ _ hB.1)
  have hne : s.heap.size ≠ a := (Nat.ne_of_lt (Array.getElem?_eq_some_iff.mp hB.1).1).symm
  have c9 : Steps p.tables e below (s₁.setTop (entryFrame m #[.ref a, .ref b, .int (Int32.ofNat o), .int (Int32.ofNat len), .null] 6)) (T8.setTop (mkF m 39 #[.val (.ref a), .val (.ref b), .val (.int (Int32.ofNat o)), .val (.int (Int32.ofNat len)), .val .null, .unset] [.ref s.heap.size])) := g8
  have c10 : Steps p.tables e below (s₁.setTop (entryFrame m #[.ref a, .ref b, .int (Int32.ofNat o), .int (Int32.ofNat len), .null] 6)) (T8.setTop (mkF m 45 #[.val (.ref a), .val (.ref b), .val (.int (Int32.ofNat o)), .val (.int (Int32.ofNat len)), .val .null, .val (.ref s.heap.size)] [.int (Int32.ofNat N.slots.size), .ref s.heap.size, .ref a])) := by
    have hc : Steps p.tables e below (s₁.setTop (entryFrame m #[.ref a, .ref b, .int (Int32.ofNat o), .int (Int32.ofNat len), .null] 6)) (T8.setTop (mkF m 45 #[.val (.ref a), .val (.ref b), .val (.int (Int32.ofNat o)), .val (.int (Int32.ofNat len)), .val .null, .val (.ref s.heap.size)] [.int (Int32.ofNat len), .ref s.heap.size, .ref a])) := c9.trans (by
      refine XS.astore X8.here hexec rfl (hb hbytes d39) rfl rfl rfl ?_
      refine XS.aloadN X8.here hexec rfl (hb hbytes d41) rfl rfl ?_
      refine XS.aload X8.here hexec rfl (hb hbytes d42) rfl rfl ?_
      refine XS.iloadN X8.here hexec rfl (hb hbytes d44) rfl ?_
      exact Steps.refl _)
    rw [n4]; exact hc
  obtain ⟨v11, T11, X11, E11, g11⟩ := X8.callS hexec (CodL.law l s.heap.size N) hown (wks W (staticW "java/lang/String" 47 CodL.yN)) (wk W CodL.tab) (W := 1) (Nat.le_of_ble_eq_true rfl) (Nat.le_of_ble_eq_true rfl) (Nat.le_refl _) (by show 0 + len + 0 ≤ len; omega) (g := (mkF m 45 #[.val (.ref a), .val (.ref b), .val (.int (Int32.ofNat o)), .val (.int (Int32.ofNat len)), .val .null, .val (.ref s.heap.size)] [.int (Int32.ofNat N.slots.size), .ref s.heap.size, .ref a])) rfl (by rw [hml]; rfl) c10 (argsL := [.ref s.heap.size, .int (Int32.ofNat N.slots.size)]) (rest := [.ref a]) rfl rfl (by show 2 * 0 + (1 + 0) ≤ _; decide) (hb hbytes d45) (⟨rfl, n1⟩)
  obtain ⟨rfl, q11⟩ := E11
  have hB11 := hB1.mv (X8.warmed.alike.symm.trans X11.warmed.alike) q11
  have c12 : Steps p.tables e below (s₁.setTop (entryFrame m #[.ref a, .ref b, .int (Int32.ofNat o), .int (Int32.ofNat len), .null] 6)) (T11.setTop (mkF m 48 #[.val (.ref a), .val (.ref b), .val (.int (Int32.ofNat o)), .val (.int (Int32.ofNat len)), .val .null, .val (.ref s.heap.size)] [.int 0, .ref a])) := g11
  obtain ⟨T13, X13, p13, bl13, sl13, st13⟩ := X11.finit hexec hown (wk W (.fieldLink "java/lang/String" 15 "java/lang/String" "coder" "B")) (Or.inr ⟨_, (wk W (.laysFinal "java/lang/String" "java/lang/String" "coder" "B"))⟩) (Or.inl ⟨rfl, hnm⟩) f2 (Or.inl rfl) hB11 (t := .byte) (by decide +kernel) rfl (g := (mkF m 48 #[.val (.ref a), .val (.ref b), .val (.int (Int32.ofNat o)), .val (.int (Int32.ofNat len)), .val .null, .val (.ref s.heap.size)] [.int 0, .ref a])) rfl (rest := []) rfl (hb hbytes d48)
  have c14 : Steps p.tables e below (s₁.setTop (entryFrame m #[.ref a, .ref b, .int (Int32.ofNat o), .int (Int32.ofNat len), .null] 6)) (T13.setTop (mkF m 54 #[.val (.ref a), .val (.ref b), .val (.int (Int32.ofNat o)), .val (.int (Int32.ofNat len)), .val .null, .val (.ref s.heap.size)] [.ref s.heap.size, .ref a])) := (c12.trans (st13 _ (Steps.refl _))).trans (by
    refine XS.aloadN X13.here hexec rfl (hb hbytes d51) rfl rfl ?_
    refine XS.aload X13.here hexec rfl (hb hbytes d52) rfl rfl ?_
    exact Steps.refl _)
  obtain ⟨T15, X15, p15, bl15, sl15, st15⟩ := X13.finit hexec hown (wk W (.fieldLink "java/lang/String" 9 "java/lang/String" "value" "[B")) (Or.inr ⟨_, (wk W (.laysFinal "java/lang/String" "java/lang/String" "value" "[B"))⟩) (Or.inl ⟨rfl, hnm⟩) f1 (Or.inl rfl) bl13 (t := (.array .byte)) (by decide +kernel) rfl (g := (mkF m 54 #[.val (.ref a), .val (.ref b), .val (.int (Int32.ofNat o)), .val (.int (Int32.ofNat len)), .val .null, .val (.ref s.heap.size)] [.ref s.heap.size, .ref a])) rfl (rest := []) rfl (hb hbytes d54)
  have c16 : Steps p.tables e below (s₁.setTop (entryFrame m #[.ref a, .ref b, .int (Int32.ofNat o), .int (Int32.ofNat len), .null] 6)) (T15.setTop (mkF m 57 #[.val (.ref a), .val (.ref b), .val (.int (Int32.ofNat o)), .val (.int (Int32.ofNat len)), .val .null, .val (.ref s.heap.size)] [])) := c14.trans (st15 _ (Steps.refl _))
  have ap := apart (Or.inr ⟨_, (wk W (.laysFinal "java/lang/String" "java/lang/String" "value" "[B"))⟩) (Or.inr ⟨_, (wk W (.laysFinal "java/lang/String" "java/lang/String" "coder" "B"))⟩) f1 f2 (t₁ := .array .byte) (t₂ := .byte) (by decide +kernel) (by decide +kernel) (by decide)
  have al := X8.warmed.alike.symm.trans X15.warmed.alike
  have n7 : T11.heap[s.heap.size]? = some N := by rw [q11]; exact n1.1
  exact ⟨T15, none, _, _, _, X15, by simp, rfl, by omega, (fun _ => rfl), ⟨rfl, _, N, bl15, ((Same.refl D _).set _ (by simp)).set _ (by simp), sl15, (Cell.slots_setSlot_ne _ ap).trans sl13, n1.keep al (p15.other hne (p13.other hne n7)), n2, by rw [al.findClass]; exact n3, n4, n5, fun y c h1 h2 => p15.other h1 (p13.other h1 (by rw [q11]; exact n6 y c h2)), by rw [p15.2.2, p13.2.2, q11]; exact z8⟩, fun fs hl => c16.trans (X15.returnOut hexec hret (hb hbytes d57) hl)⟩
end New4
namespace New1
def yN : MethodName := ⟨"java/lang/String", "<init>", "([C)V"⟩
abbrev yB : ByteArray := jdk_42_method_3_code
theorem d0 : decode yB 0 = .ok (.aload_n 0, 1) := by decide +kernel
theorem d1 : decode yB 1 = .ok (.aload_n 1, 1) := by decide +kernel
theorem d2 : decode yB 2 = .ok (.iconst 0, 1) := by decide +kernel
theorem d3 : decode yB 3 = .ok (.aload_n 1, 1) := by decide +kernel
theorem d4 : decode yB 4 = .ok (.arraylength, 1) := by decide +kernel
theorem d5 : decode yB 5 = .ok (.aconst_null, 1) := by decide +kernel
theorem d6 : decode yB 6 = .ok (.invokespecial 27, 3) := by decide +kernel
theorem d9 : decode yB 9 = .ok (.return_, 1) := by decide +kernel
def site : List Cond := [New4.tab] ++ initW "java/lang/String" 27 New4.yN
def tab : Cond := tabOf yN yB 2 none site
def P (a : Addr) (D : Cell) (fV fC : Field) (b : Addr) (A : Cell) (z : Int32) (args : Array Value) (s : State) : Prop := args = #[.ref a, .ref b] ∧ Blank "java/lang/String" a D s ∧ Found "java/lang/String" "value" "[B" fV s ∧ Found "java/lang/String" "coder" "B" fC s ∧ Ch b A s ∧ StaticIs s "java/lang/String" "COMPACT_STRINGS" "Z" (.int z) ∧ ¬ z = 0 ∧ 0 < A.slots.size ∧ A.slots.size ≤ 536870912 ∧ ∀ i, i < A.slots.size → ¬ 255 < cv A i
def E (a : Addr) (D : Cell) (fV fC : Field) (A : Cell) (r : Option Value) (s u : State) : Prop := Got a D fV fC A 0 A.slots.size r s u
/-- new String(chars), not empty, no char above 255: a Latin-1 String of their low bytes -/
theorem law (l : Launch) (a : Addr) (D : Cell) (fV fC : Field) (b : Addr) (A : Cell) (z : Int32) : Law l yN 2 1 3 52 yB 2 none site (P a D fV fC b A z) (E a D fV fC A) [⟨a, fC.slot⟩, ⟨a, fV.slot⟩] 1 A.slots.size := by
  refine Law.of_walk (plainFor_of_name (by decide +kernel)) (by decide +kernel) (by decide +kernel) (by decide) (fun _ _ h => by rw [h.1]; rfl) (fun _ U U' hal hh h => ⟨h.1, h.2.1.mv hal hh, h.2.2.1.al hal, h.2.2.2.1.al hal, h.2.2.2.2.1.mv hal hh, h.2.2.2.2.2.1.there hal hh, h.2.2.2.2.2.2⟩) (fun r U U' V V' h1 hal h2 h => Got.mv r U U' V V' h1 hal h2 h) ?_
  intro p e s m args below meth c s₁ X0 hexec hbytes hml hret hlk hnm hown hh0 W hP
  obtain ⟨rfl, hB, f1, f2, hA, s1, hz, l0, l2, hp⟩ := hP
  have c1 : Steps p.tables e below (s₁.setTop (entryFrame m #[.ref a, .ref b] 2)) (s₁.setTop (mkF m 0 #[.val (.ref a), .val (.ref b)] [])) := entry rfl
  have c2 : Steps p.tables e below (s₁.setTop (entryFrame m #[.ref a, .ref b] 2)) (s₁.setTop (mkF m 6 #[.val (.ref a), .val (.ref b)] [.null, .int (Int32.ofNat A.slots.size), .int 0, .ref b, .ref a])) := c1.trans (by
    refine XS.aloadN X0.here hexec rfl (hb hbytes d0) rfl rfl ?_
    refine XS.aloadN X0.here hexec rfl (hb hbytes d1) rfl rfl ?_
    refine iconstV X0.here hexec rfl 0 (hb hbytes d2) (by decide) ?_
    refine XS.aloadN X0.here hexec rfl (hb hbytes d3) rfl rfl ?_
    refine X0.alen hexec (hA.1.mv X0.warmed.alike hh0) rfl rfl (hb hbytes d4) ?_
    refine XS.aconstNull X0.here hexec rfl (hb hbytes d5) ?_
    exact Steps.refl _)
  obtain ⟨v3, T3, X3, E3, g3⟩ := X0.callN hexec (New4.law l a D fV fC b A z 0 A.slots.size) rfl hown (wks W (initW "java/lang/String" 27 New4.yN)) (W New4.tab (by simp only [site, List.mem_cons, List.mem_append, true_or, or_true])) (W := 0) (Nat.le_of_ble_eq_true rfl) (Nat.le_of_ble_eq_true rfl) (Nat.le_refl _) (by show 0 + A.slots.size ≤ A.slots.size; omega) (g := (mkF m 6 #[.val (.ref a), .val (.ref b)] [.null, .int (Int32.ofNat A.slots.size), .int (Int32.ofNat 0), .ref b, .ref a])) rfl (by rw [hml]; rfl) c2 (argsL := [.ref b, .int (Int32.ofNat 0), .int (Int32.ofNat A.slots.size), .null]) (rest := []) rfl rfl (by show 2 * 0 + 0 ≤ _; decide) (hb hbytes d6) (⟨rfl, hB.mv X0.warmed.alike hh0, f1.al X0.warmed.alike, f2.al X0.warmed.alike, hA.mv X0.warmed.alike hh0, s1.there X0.warmed.alike hh0, hz, l0, by omega, l2, fun i hi => by rw [Nat.zero_add]; exact hp i hi⟩)
  have e0 := Got.mv _ s₁ s _ _ hh0.symm (Vm.Alike.refl _) rfl E3
  obtain rfl := e0.1
  have c4 : Steps p.tables e below (s₁.setTop (entryFrame m #[.ref a, .ref b] 2)) (T3.setTop (mkF m 9 #[.val (.ref a), .val (.ref b)] [])) := g3
  exact ⟨T3, none, _, _, _, X3, by simp, rfl, by omega, (fun _ => rfl), e0, fun fs hl => c4.trans (X3.returnOut hexec hret (hb hbytes d9) hl)⟩
theorem pays {l : Launch} {R : Room} {p : Program} {e : Env} {below : List Frame} {s : State} {sargs : Array Value} {len W : Nat} (a : Addr) (D : Cell) (fV fC : Field) (b : Addr) (A : Cell) (z : Int32) (htab : tab.before sargs s = true) (hfr : 4 ≤ R.frames) (hlo : W + 65 ≤ R.locals) :
    Back l R p e below s sargs yN len W (fun A₁ a₁ => A₁.cells + 1 ≤ R.cells ∧ A₁.slots + A.slots.size ≤ R.slots ∧ P a D fV fC b A z a₁ A₁.U) (fun A₁ _ v₁ B₁ => E a D fV fC A v₁ A₁.U B₁.U ∧ B₁.locs = A₁.locs ++ [⟨a, fC.slot⟩, ⟨a, fV.slot⟩] ∧ B₁.cells = A₁.cells + 1 ∧ B₁.slots = A₁.slots + A.slots.size) :=
  (law l a D fV fC b A z).pays htab hfr (by omega)
end New1
end StrChars
namespace StrChars.Road
open Jvm Sem ClassFile Op Lib Jvm.Stand Jvm.Free Jvm.Free.XT
open Jvm.Lib.Cold (StaticIs)
abbrev ST : String := "java/lang/String"
/-- every table word that New1's law asks, flat -/
abbrev words : List Jvm.Cond := [.code New1.yN New1.yB 2 none, .initialized ST, .methodLink ST 27 New4.yN, .instanceMethod New4.yN,
  .code New4.yN New4.yB 6 none, .fieldLink ST 38 ST "COMPACT_STRINGS" "Z", .laysFinal ST ST "value" "[B", .fieldLink ST 9 ST "value" "[B", .laysFinal ST ST "coder" "B", .fieldLink ST 15 ST "coder" "B",
  .methodLink ST 1 Lib.objectInit, .instanceMethod Lib.objectInit, .code Lib.objectInit ⟨#[0xb1]⟩ 1 none, .methodLink ST 177 Cmp3.yN, .static Cmp3.yN, .methodLink ST 47 CodL.yN, .static CodL.yN,
  .code Cmp3.yN Cmp3.yB 6 (some (.array .byte)), .initialized U16, .arrayClass .byte, .methodLink U16 115 Cmp5.yN, .static Cmp5.yN, .code Cmp5.yN Cmp5.yB 7 (some .int), .code CodL.yN CodL.yB 2 (some .byte)]
theorem tab_of {a : Array Value} {s : State} (h : ∀ w ∈ words, w.before a s = true) : New1.tab.before a s = true := by
  have h5 : Cmp5.tab.before a s = true := unparts (wk h (.code Cmp5.yN Cmp5.yB 7 (some .int))) (wks h (.initialized Cmp5.yN.cls :: Cmp5.site))
  have hc : CodL.tab.before a s = true := unparts (wk h (.code CodL.yN CodL.yB 2 (some .byte))) (wks h (.initialized CodL.yN.cls :: CodL.site))
  have q5 : ∀ w ∈ Cmp5.tab :: words, w.before a s = true := fun w hw => (List.mem_cons.mp hw).elim (fun e => e ▸ h5) (h w)
  have h3 : Cmp3.tab.before a s = true := unparts (wk q5 (.code Cmp3.yN Cmp3.yB 6 (some (.array .byte)))) (wks q5 (.initialized Cmp3.yN.cls :: Cmp3.site))
  have q3 : ∀ w ∈ Cmp3.tab :: CodL.tab :: words, w.before a s = true := fun w hw => (List.mem_cons.mp hw).elim (fun e => e ▸ h3) fun hw => (List.mem_cons.mp hw).elim (fun e => e ▸ hc) (h w)
  have h4 : New4.tab.before a s = true := unparts (wk q3 (.code New4.yN New4.yB 6 none)) (wks q3 (.initialized New4.yN.cls :: New4.site))
  have q4 : ∀ w ∈ New4.tab :: words, w.before a s = true := fun w hw => (List.mem_cons.mp hw).elim (fun e => e ▸ h4) (h w)
  exact unparts (wk q4 (.code New1.yN New1.yB 2 none)) (wks q4 (.initialized New1.yN.cls :: New1.site))
/-- the words ride from the start Z to the walk's own state -/
theorem moved {Z s : State} {a0 args : Array Value} (hZ : Z.Warmed39 s.vm) (hw : ∀ d ∈ words, d.before a0 Z = true) : ∀ d ∈ words, d.before args s = true := fun d hd => by
  have q := hw d hd
  have t : ∀ d ∈ words, d = .arrayClass .byte ∨ (d.onTables && d.keepsFace) = true := by decide +kernel
  rcases t d hd with rfl | t
  · exact RoadKit.mvA hZ q
  · exact RoadKit.mv hZ q t
/-- WHAT COMES BACK, over the tables of the start Z: h the heap at the call, h' behind it -/
def Q (Z : State) (x : Addr) (A : Cell) (h : Heap) (v : Option Value) (h' : Heap) (L : List Loc) : Prop := v = none ∧ (∀ y ∈ L, y.base = x) ∧ RoadKit.Keep h h' [x] ∧ h'.size = h.size + 1 ∧ RoadKit.Exa Z h' x ST ∧ RoadKit.Fld Z h' x ST "value" "[B" (.ref h.size) ∧ RoadKit.Fld Z h' x ST "coder" "B" (.int 0) ∧
  (∃ V : Cell, RoadKit.Arr Z h' h.size V .byte ∧ V.vm = .none ∧ Z.vm.findClass "[B" = some V.cls ∧ V.slots.size = A.slots.size ∧ ∀ j, j < A.slots.size → V.slots[j]? = some (.int (lo8 (cv A j)))) ∧
  ∀ (O n d : String) (w : Value), RoadKit.Fld Z h x O n d w → RoadKit.slotOf Z O n d ≠ RoadKit.slotOf Z ST "value" "[B" → RoadKit.slotOf Z O n d ≠ RoadKit.slotOf Z ST "coder" "B" → RoadKit.Fld Z h' x O n d w
/-- **new String(chars) AT A CALL, IN THE ROAD'S FORM**: for specialBack behind newO: x the fresh String, b the char[] with the cell A -/
theorem back {p : Program} {l : Launch} {e : Env} {R : Room} {s : State} {args : Array Value} {below : List Frame} {len W : Nat} {Z : State} {a0 : Array Value} {h : Heap} (hZ : Z.Warmed39 s.vm) (hw : ∀ d ∈ words, d.before a0 Z = true) {kI : Nat} (wi : (Jvm.Cond.instantiable ST kI).before a0 Z = true)
    {x b : Addr} {A : Cell} {z : Int32} {v0 c0 : Value} (E : RoadKit.Exa Z h x ST) (V : RoadKit.Fld Z h x ST "value" "[B" v0) (C : RoadKit.Fld Z h x ST "coder" "B" c0) (K : RoadKit.Arr Z h b A .char) (hty : Typed .char A) (S : RoadKit.Sta Z h ST "COMPACT_STRINGS" "Z" (.int z)) (hz : ¬ z = 0)
    (l0 : 0 < A.slots.size) (l2 : A.slots.size ≤ 536870912) (hp : ∀ i, i < A.slots.size → ¬ 255 < cv A i) (hfr : 4 ≤ R.frames) (hlo : W + 65 ≤ R.locals) :
    Back l R p e below s args New1.yN len W (fun P a => a = #[.ref x, .ref b] ∧ P.U.heap = h ∧ P.cells + 1 ≤ R.cells ∧ P.slots + A.slots.size ≤ R.slots)
      (fun P _ v B => ∃ L, Q Z x A h v B.U.heap L ∧ B.locs = P.locs ++ L ∧ B.cells = P.cells + 1 ∧ B.slots = P.slots + A.slots.size) := by
  intro m meth c P g ig mk a X hg hsize hdg hW hn hp'
  obtain ⟨rfl, rfl, r1, r2⟩ := hp'
  have al : Z.vm.Alike P.U.vm := hZ.alike.trans X.warmed.alike
  obtain ⟨D, cfV, kV, iV, fV, hD, gV, stV, knV, obV, asV, slV⟩ := id V
  obtain ⟨D', cfC, kC, iC, fC, hD', gC, stC, -, -, asC, slC⟩ := id C
  cases hD.symm.trans hD'
  obtain ⟨D2, kD, e1, e2, e3, e4, e5⟩ := id E
  cases hD.symm.trans e1
  obtain ⟨c2, k2, i1, i2, i3, -⟩ := Cond.instantiable_spec wi
  cases e2.symm.trans i1
  cases e3.symm.trans i2
  obtain ⟨kU, u1, u2⟩ := al.2.2 _ _ e3
  have hB : Blank ST x D P.U := ⟨hD, ⟨knV, fun q hq => by rw [hq] at obV; cases obV⟩, by rw [al.findClass]; exact e2, kU, u1, by rw [u2]; exact i3, by rw [u2]; exact e5 i3⟩
  have F1 : Found ST "value" "[B" fV P.U := ⟨SBG.found_only al ⟨cfV, kV, iV, gV⟩, stV⟩
  have F2 : Found ST "coder" "B" fC P.U := ⟨SBG.found_only al ⟨cfC, kC, iC, gC⟩, stC⟩
  have hA : Ch b A P.U := ⟨⟨K.1, State.isArrayOf_alike al K.2.1, K.2.2, by omega⟩, hty⟩
  have hS : StaticIs P.U ST "COMPACT_STRINGS" "Z" (.int z) := by
    obtain ⟨cfS, iS, kS, fS, st, cS, t1, t2, t3, t4, t5, t6, t7⟩ := S
    exact StaticIs.there (s := { Z with heap := P.U.heap }) ⟨cfS, iS, kS, fS, st, cS, t1, t2, t3, t4, t5, (fun q => by rw [q] at t6; cases t6), t7⟩ al rfl
  obtain ⟨v, B, X', ⟨⟨hv, E', V', q1, q2, q3, q4, q5, q6, q7, q8, q9, q10, q11⟩, hl, hc, hs⟩, st⟩ := New1.pays x D fV fC b A z (tab_of (moved hZ hw)) hfr hlo m meth c P g ig mk _ X hg hsize hdg hW hn ⟨r1, r2, rfl, hB, F1, F2, hA, hS, hz, l0, l2, hp⟩
  have al' : Z.vm.Alike B.U.vm := hZ.alike.trans X'.warmed.alike
  have hsz : E'.slots.size = D.slots.size := by
    obtain ⟨-, -, -, kB, w1, w2, w3⟩ := q1
    obtain ⟨kB', y1, y2⟩ := al'.2.2 _ _ e3
    rw [q2.2.1] at w1
    cases w1.symm.trans y1
    rw [w3, e5 i3, y2]
  refine ⟨v, B, X', ⟨_, ⟨hv, ?_, ⟨by omega, fun y cy hy hn' => q10 y cy (by simpa using hn') hy, fun y cy hy => ?_⟩, q11, ⟨E', _, q1.1, by rw [q2.2.1]; exact e2, by rw [q2.2.1]; exact e3, by rw [q2.1]; exact obV, fun _ => by rw [hsz]; exact e5 i3⟩,
    ⟨E', cfV, kV, iV, fV, q1.1, gV, stV, by rw [q2.1]; exact knV, by rw [q2.1]; exact obV, by rw [q2.2.1]; exact asV, q3⟩, ⟨E', cfC, kC, iC, fC, q1.1, gC, stC, by rw [q2.1]; exact knV, by rw [q2.1]; exact obV, by rw [q2.2.1]; exact asC, q4⟩,
    ⟨V', ⟨q5.1, State.isArrayOf_alike al'.symm q5.2.1, q5.2.2.1⟩, q6, by rw [← al'.findClass]; exact q7, q8, fun j hj => by have := q9 j hj; rwa [Nat.zero_add] at this⟩, fun O n d w F n1 n2 => ?_⟩, hl, hc, hs⟩, st⟩
  · intro y hy
    simp only [List.mem_cons, List.not_mem_nil, or_false] at hy
    rcases hy with rfl | rfl <;> rfl
  · by_cases q : y = x
    · subst q
      cases hD.symm.trans hy
      exact ⟨E', q1.1, q2.2.1, q2.1, hsz⟩
    · exact ⟨cy, q10 y cy q hy, rfl, rfl, rfl⟩
  · obtain ⟨D3, cf, k, i, f, g1, g2, g3, g4, g5, g6, g7⟩ := F
    cases hD.symm.trans g1
    simp only [RoadKit.slotOf, g2, gV, gC, Option.map_some, Option.getD_some] at n1 n2
    exact ⟨E', cf, k, i, f, q1.1, g2, g3, by rw [q2.1]; exact g4, by rw [q2.1]; exact g5, by rw [q2.2.1]; exact g6, by rw [q2.2.2 f.slot (by simp [n1, n2])]; exact g7⟩
end StrChars.Road
namespace StrChars.Road
open Jvm Sem ClassFile Op Lib Jvm.Stand Jvm.Free Jvm.Free.XT
/-- WHAT COMES BACK, the byte[] as a list of values -/
def QA (Z : State) (x : Addr) (zn : Int32) (cs : List Int32) (h : Heap) (v : Option Value) (h' : Heap) (L : List Loc) : Prop := v = none ∧ (∀ y ∈ L, y.base = x) ∧ RoadKit.Keep h h' [x] ∧ h'.size = h.size + 1 ∧ RoadKit.Exa Z h' x ST ∧ RoadKit.Fld Z h' x ST "value" "[B" (.ref h.size) ∧ RoadKit.Fld Z h' x ST "coder" "B" (.int 0) ∧
  (∃ kb, Z.vm.findClass "[B" = some kb ∧ RoadKit.Arv Z h' h.size kb .byte zn (cs.map fun c => .int (lo8 c)) (.int 0)) ∧
  ∀ (O n d : String) (w : Value), RoadKit.Fld Z h x O n d w → RoadKit.slotOf Z O n d ≠ RoadKit.slotOf Z ST "value" "[B" → RoadKit.slotOf Z O n d ≠ RoadKit.slotOf Z ST "coder" "B" → RoadKit.Fld Z h' x O n d w
/-- **new String(chars) AT A CALL, THE ARRAYS AS LISTS**: the char[] at b holds cs, not empty, no char above 255 -/
theorem backArv {p : Program} {l : Launch} {e : Env} {R : Room} {s : State} {args : Array Value} {below : List Frame} {len W : Nat} {Z : State} {a0 : Array Value} {h : Heap} (hZ : Z.Warmed39 s.vm) (hw : ∀ d ∈ words, d.before a0 Z = true) {kI : Nat} (wi : (Jvm.Cond.instantiable ST kI).before a0 Z = true)
    {x b : Addr} {k : ClassId} {zn z : Int32} {cs : List Int32} {dv v0 c0 : Value} (E : RoadKit.Exa Z h x ST) (V : RoadKit.Fld Z h x ST "value" "[B" v0) (C : RoadKit.Fld Z h x ST "coder" "B" c0) (K : RoadKit.Arv Z h b k .char zn (cs.map Value.int) dv) (S : RoadKit.Sta Z h ST "COMPACT_STRINGS" "Z" (.int z)) (hz : ¬ z = 0)
    (hlen : zn.toNatClampNeg = cs.length) (h0 : 0 < cs.length) (hbig : cs.length ≤ 536870912) (hall : ∀ c ∈ cs, ¬ 255 < c) (hfr : 4 ≤ R.frames) (hlo : W + 65 ≤ R.locals) :
    Back l R p e below s args New1.yN len W (fun P a => a = #[.ref x, .ref b] ∧ P.U.heap = h ∧ P.cells + 1 ≤ R.cells ∧ P.slots + cs.length ≤ R.slots)
      (fun P _ v B => ∃ L, QA Z x zn cs h v B.U.heap L ∧ B.locs = P.locs ++ L ∧ B.cells = P.cells + 1 ∧ B.slots = P.slots + cs.length) := by
  obtain ⟨A, K1, K2, K3, K4, K5, K6⟩ := K
  have e : A.slots.size = cs.length := K3.trans hlen
  have hat : ∀ (i : Nat) (hi : i < cs.length), A.slots[i]? = some (.int cs[i]) := fun i hi => by rw [K5 i (by omega)]; simp [List.getD_eq_getElem?_getD, hi]
  have hcv : ∀ (i : Nat) (hi : i < cs.length), cv A i = cs[i] := fun i hi => by unfold cv; rw [hat i hi]
  have hty : Typed .char A := fun i v hv => by
    have hi : i < A.slots.size := (Array.getElem?_eq_some_iff.mp hv).1
    have q := K5 i hi
    rw [hv] at q
    rw [Option.some.inj q]
    exact K6 i hi
  refine Back.mono (back hZ hw wi E V C K1 hty S hz (by omega) (by omega) (fun i hi => by rw [hcv i (by omega)]; exact hall _ (List.getElem_mem _)) hfr hlo) (fun P a hp => ⟨hp.1, hp.2.1, hp.2.2.1, by rw [e]; exact hp.2.2.2⟩) (fun P a v B hp hq => ?_)
  obtain ⟨L, ⟨q1, q2, q3, q4, q5, q6, q7, ⟨V', v1, v2, v3, v4, v5⟩, q9⟩, hl, hc, hs⟩ := hq
  refine ⟨L, ⟨q1, q2, q3, q4, q5, q6, q7, ⟨V'.cls, v3, V', v1, rfl, by rw [v4, e, hlen], K4, fun i hi => ?_, fun i hi => ?_⟩, q9⟩, hl, hc, by rw [hs, e]⟩
  · have hi' : i < cs.length := by omega
    rw [v5 i (by omega), hcv i hi']; simp [List.getD_eq_getElem?_getD, hi']
  · have hi' : i < cs.length := by omega
    simp only [List.getD_eq_getElem?_getD, List.getElem?_map, List.getElem?_eq_getElem hi', Option.map_some, Option.getD_some]
    exact fits_lo8 _
end StrChars.Road
end Jvm.Pilot.@@N@@
namespace Jvm.Pilot.@@N@@
open Jvm Jvm.ClassFile Sem Op Lib Jvm.Free Jvm.Stand Jvm.LawKit Jvm.RoadKit Bundle Jvm.Pilot.@@N@@.Jvm.D
namespace Own
theorem hws_of {Z : State} {a0 : Array Value} (hw : ∀ d ∈ tables_1, d.before a0 Z = true) : ∀ d ∈ StrChars.Road.words, d.before a0 Z = true := fun d hd => hw d ((by decide +kernel : ∀ d ∈ StrChars.Road.words, d ∈ tables_1) d hd)
/-- (char) (x & 255) is 0 to 255 -/
theorem and255 (x : Int32) : ¬ nar .char ((x &&& (255 : Int32)).toUInt32.toUInt16.toUInt32.toInt32) < 0 ∧ ¬ (255 : Int32) < nar .char ((x &&& (255 : Int32)).toUInt32.toUInt16.toUInt32.toInt32) := by
  have t : ∀ k : Fin 256, ¬ nar .char ((Int32.ofNat k.val).toUInt32.toUInt16.toUInt32.toInt32) < 0 ∧ ¬ (255 : Int32) < nar .char ((Int32.ofNat k.val).toUInt32.toUInt16.toUInt32.toInt32) := by decide +kernel
  have h : (x &&& 255).toBitVec.toNat < 256 := by
    simp only [Int32.toBitVec_and, BitVec.toNat_and]
    exact Nat.lt_succ_of_le Nat.and_le_right
  have e : (x &&& 255) = Int32.ofNat (x &&& 255).toBitVec.toNat := by
    apply Int32.toBitVec_inj.mp
    show _ = BitVec.ofNat 32 _
    rw [BitVec.ofNat_toNat]; simp
  rw [e]
  exact t ⟨_, h⟩
/-- a String that spells cs -/
def StrIs (Z : State) (h : Heap) (x : Addr) (cs : List Int32) : Prop :=
  (∀ c ∈ cs, ¬ c < 0 ∧ ¬ (255 : Int32) < c) ∧ Exa Z h x "java/lang/String" ∧ Fld Z h x "java/lang/String" "coder" "B" (.int 0) ∧ ∃ (t : Addr) (kb : ClassId), Fld Z h x "java/lang/String" "value" "[B" (.ref t) ∧ Arv Z h t kb .byte (Int32.ofNat cs.length) (cs.map fun c => Value.int (StrChars.lo8 c)) (.int 0)
theorem payStr {wd : Bool} {l : Launch} {R : Room} {p : Program} {e : Env} {below : List Frame} {args : Array Value} {len W : Nat} {Z : State} {a0 : Array Value} (hw : ∀ d ∈ tables_1, d.before a0 Z = true) {n0 : Nat} {h : Heap} {V : Vm → Prop} (hV : VCl V) (wi : (Jvm.Cond.instantiable "java/lang/String" 4).before a0 Z = true)
    {x b : Addr} {kC : ClassId} {cs : List Int32} {d v0 c0 : Value} {z N : Int32} {n : Nat} (hO : Old Z n0 h) (E : Exa Z h x "java/lang/String") (Vl : Fld Z h x "java/lang/String" "value" "[B" v0) (C : Fld Z h x "java/lang/String" "coder" "B" c0) (K : Arv Z h b kC .char N (cs.map Value.int) d) (S : Sta Z Z.heap "java/lang/String" "COMPACT_STRINGS" "Z" (.int z)) (hz : ¬ z = 0)
    (hn : cs.length = n) (hN : N = Int32.ofNat n) (hN' : N.toNatClampNeg = n) (l0 : 0 < n) (l2 : n ≤ 4000) (hp : ∀ c ∈ cs, ¬ c < 0 ∧ ¬ (255 : Int32) < c) (hfr : 4 ≤ R.frames) (hlo : W + 65 ≤ R.locals) :
    Pay wd l R p e below args (⟨"java/lang/String", "<init>", "([C)V"⟩ : MethodName) len W Z h V #[.ref x, .ref b] 1 n [x] (fun v h' vm' => v = none ∧ StrIs Z h' x cs ∧ V vm') := by
  subst hn
  refine Pay.ofBack (Q0 := StrChars.Road.QA Z x N cs h) (fun s' hZ => StrChars.Road.backArv (W := W) hZ (hws_of hw) (kI := 4) wi E Vl C K (S.ext hO.2) hz hN' l0 (by omega) (fun c hc => (hp c hc).2) hfr hlo) hV ?_
  rintro v h' vm' L ⟨q1, q2, q3, q4, q5, q6, q7, ⟨kb, -, q8⟩, -⟩ hv
  subst hN
  exact ⟨⟨q1, ⟨hp, q5, q7, h.size, kb, q6, q8⟩, hv⟩, q3, fun y hy => Or.inl (by rw [q2 y hy]; exact List.mem_singleton.mpr rfl)⟩
end Own
end Jvm.Pilot.@@N@@
namespace Jvm.Pilot.@@N@@
open Jvm Jvm.ClassFile Sem Op Lib Jvm.Free Jvm.Stand Jvm.LawKit Jvm.RoadKit Bundle Own Jvm.Pilot.@@N@@.Jvm.D
def BookAt (Z : State) (h : Heap) (a : Addr) (vb : Value) (va : Value) (vn : Value) (mm : Int64) (vv : Int64) (ss : Int64) (sy : Int32) (ms : Int64) : Prop := Exa Z h a "com/example/tidebook/tidebook/book/Book" ∧ Fld Z h a "com/example/tidebook/tidebook/book/Book" "bids" "Lcom/example/tidebook/tidebook/book/BookSide;" (vb) ∧ Fld Z h a "com/example/tidebook/tidebook/book/Book" "asks" "Lcom/example/tidebook/tidebook/book/BookSide;" (va) ∧ Fld Z h a "com/example/tidebook/tidebook/book/Book" "name" "Ljava/lang/String;" (vn) ∧ Fld Z h a "com/example/tidebook/tidebook/book/Book" "mismatched" "J" (.long mm) ∧ Fld Z h a "com/example/tidebook/tidebook/book/Book" "verified" "J" (.long vv) ∧ Fld Z h a "com/example/tidebook/tidebook/book/Book" "skipped" "J" (.long ss) ∧ Fld Z h a "com/example/tidebook/tidebook/book/Book" "synced" "Z" (.int sy) ∧ Fld Z h a "com/example/tidebook/tidebook/book/Book" "messages" "J" (.long ms)
theorem BookAt.keep {Z : State} {h h' : Heap} {a : Addr} {ws : List Addr} {vb : Value} {va : Value} {vn : Value} {mm : Int64} {vv : Int64} {ss : Int64} {sy : Int32} {ms : Int64} (F : BookAt Z h a vb va vn mm vv ss sy ms) (K : Keep h h' ws) (q : a ∉ ws) : BookAt Z h' a vb va vn mm vv ss sy ms := ⟨F.1.keep K, (F.2.1).keep K q, (F.2.2.1).keep K q, (F.2.2.2.1).keep K q, (F.2.2.2.2.1).keep K q, (F.2.2.2.2.2.1).keep K q, (F.2.2.2.2.2.2.1).keep K q, (F.2.2.2.2.2.2.2.1).keep K q, (F.2.2.2.2.2.2.2.2).keep K q⟩
theorem BookAt.ext {Z : State} {h h' : Heap} {a : Addr} {vb : Value} {va : Value} {vn : Value} {mm : Int64} {vv : Int64} {ss : Int64} {sy : Int32} {ms : Int64} (F : BookAt Z h a vb va vn mm vv ss sy ms) (E : Ext h h') : BookAt Z h' a vb va vn mm vv ss sy ms := ⟨F.1.ext E, (F.2.1).ext E, (F.2.2.1).ext E, (F.2.2.2.1).ext E, (F.2.2.2.2.1).ext E, (F.2.2.2.2.2.1).ext E, (F.2.2.2.2.2.2.1).ext E, (F.2.2.2.2.2.2.2.1).ext E, (F.2.2.2.2.2.2.2.2).ext E⟩
theorem BookAt.wrO {Z : State} {h h' : Heap} {a b : Addr} {sl : Nat} {w : Value} {vb : Value} {va : Value} {vn : Value} {mm : Int64} {vv : Int64} {ss : Int64} {sy : Int32} {ms : Int64} (F : BookAt Z h a vb va vn mm vv ss sy ms) (W : Wr h h' b sl w) (q : a ≠ b) : BookAt Z h' a vb va vn mm vv ss sy ms := ⟨F.1.wr W, (F.2.1).other W (Or.inl q), (F.2.2.1).other W (Or.inl q), (F.2.2.2.1).other W (Or.inl q), (F.2.2.2.2.1).other W (Or.inl q), (F.2.2.2.2.2.1).other W (Or.inl q), (F.2.2.2.2.2.2.1).other W (Or.inl q), (F.2.2.2.2.2.2.2.1).other W (Or.inl q), (F.2.2.2.2.2.2.2.2).other W (Or.inl q)⟩
theorem BookAt.set_vb {Z : State} {a0 : Array Value} (hw : ∀ d ∈ tables_1, d.before a0 Z = true) {h h' : Heap} {a : Addr} {vb : Value} {va : Value} {vn : Value} {mm : Int64} {vv : Int64} {ss : Int64} {sy : Int32} {ms : Int64} {x' : Value} (F : BookAt Z h a vb va vn mm vv ss sy ms) (W : Wr h h' a (RoadKit.slotOf Z "com/example/tidebook/tidebook/book/Book" "bids" "Lcom/example/tidebook/tidebook/book/BookSide;") (x')) : BookAt Z h' a x' va vn mm vv ss sy ms := ⟨F.1.wr W, (F.2.1).same W, (F.2.2.1).other W (Or.inr (slot_ne (C := "com/example/tidebook/tidebook/book/Book") (Or.inr (hw _ (List.mem_of_getElem? (i := 61) rfl))) (Or.inr (hw _ (List.mem_of_getElem? (i := 59) rfl))) (by decide) (t := (.object "com/example/tidebook/tidebook/book/BookSide")) (t' := (.object "com/example/tidebook/tidebook/book/BookSide")) (by decide) (by decide))), (F.2.2.2.1).other W (Or.inr (slot_ne (C := "com/example/tidebook/tidebook/book/Book") (Or.inr (hw _ (List.mem_of_getElem? (i := 63) rfl))) (Or.inr (hw _ (List.mem_of_getElem? (i := 59) rfl))) (by decide) (t := (.object "java/lang/String")) (t' := (.object "com/example/tidebook/tidebook/book/BookSide")) (by decide) (by decide))), (F.2.2.2.2.1).other W (Or.inr (slot_ne (C := "com/example/tidebook/tidebook/book/Book") (Or.inl (hw _ (List.mem_of_getElem? (i := 70) rfl))) (Or.inr (hw _ (List.mem_of_getElem? (i := 59) rfl))) (by decide) (t := .long) (t' := (.object "com/example/tidebook/tidebook/book/BookSide")) (by decide) (by decide))), (F.2.2.2.2.2.1).other W (Or.inr (slot_ne (C := "com/example/tidebook/tidebook/book/Book") (Or.inl (hw _ (List.mem_of_getElem? (i := 84) rfl))) (Or.inr (hw _ (List.mem_of_getElem? (i := 59) rfl))) (by decide) (t := .long) (t' := (.object "com/example/tidebook/tidebook/book/BookSide")) (by decide) (by decide))), (F.2.2.2.2.2.2.1).other W (Or.inr (slot_ne (C := "com/example/tidebook/tidebook/book/Book") (Or.inl (hw _ (List.mem_of_getElem? (i := 96) rfl))) (Or.inr (hw _ (List.mem_of_getElem? (i := 59) rfl))) (by decide) (t := .long) (t' := (.object "com/example/tidebook/tidebook/book/BookSide")) (by decide) (by decide))), (F.2.2.2.2.2.2.2.1).other W (Or.inr (slot_ne (C := "com/example/tidebook/tidebook/book/Book") (Or.inl (hw _ (List.mem_of_getElem? (i := 72) rfl))) (Or.inr (hw _ (List.mem_of_getElem? (i := 59) rfl))) (by decide) (t := .boolean) (t' := (.object "com/example/tidebook/tidebook/book/BookSide")) (by decide) (by decide))), (F.2.2.2.2.2.2.2.2).other W (Or.inr (slot_ne (C := "com/example/tidebook/tidebook/book/Book") (Or.inl (hw _ (List.mem_of_getElem? (i := 108) rfl))) (Or.inr (hw _ (List.mem_of_getElem? (i := 59) rfl))) (by decide) (t := .long) (t' := (.object "com/example/tidebook/tidebook/book/BookSide")) (by decide) (by decide)))⟩
theorem BookAt.set_va {Z : State} {a0 : Array Value} (hw : ∀ d ∈ tables_1, d.before a0 Z = true) {h h' : Heap} {a : Addr} {vb : Value} {va : Value} {vn : Value} {mm : Int64} {vv : Int64} {ss : Int64} {sy : Int32} {ms : Int64} {x' : Value} (F : BookAt Z h a vb va vn mm vv ss sy ms) (W : Wr h h' a (RoadKit.slotOf Z "com/example/tidebook/tidebook/book/Book" "asks" "Lcom/example/tidebook/tidebook/book/BookSide;") (x')) : BookAt Z h' a vb x' vn mm vv ss sy ms := ⟨F.1.wr W, (F.2.1).other W (Or.inr (slot_ne (C := "com/example/tidebook/tidebook/book/Book") (Or.inr (hw _ (List.mem_of_getElem? (i := 59) rfl))) (Or.inr (hw _ (List.mem_of_getElem? (i := 61) rfl))) (by decide) (t := (.object "com/example/tidebook/tidebook/book/BookSide")) (t' := (.object "com/example/tidebook/tidebook/book/BookSide")) (by decide) (by decide))), (F.2.2.1).same W, (F.2.2.2.1).other W (Or.inr (slot_ne (C := "com/example/tidebook/tidebook/book/Book") (Or.inr (hw _ (List.mem_of_getElem? (i := 63) rfl))) (Or.inr (hw _ (List.mem_of_getElem? (i := 61) rfl))) (by decide) (t := (.object "java/lang/String")) (t' := (.object "com/example/tidebook/tidebook/book/BookSide")) (by decide) (by decide))), (F.2.2.2.2.1).other W (Or.inr (slot_ne (C := "com/example/tidebook/tidebook/book/Book") (Or.inl (hw _ (List.mem_of_getElem? (i := 70) rfl))) (Or.inr (hw _ (List.mem_of_getElem? (i := 61) rfl))) (by decide) (t := .long) (t' := (.object "com/example/tidebook/tidebook/book/BookSide")) (by decide) (by decide))), (F.2.2.2.2.2.1).other W (Or.inr (slot_ne (C := "com/example/tidebook/tidebook/book/Book") (Or.inl (hw _ (List.mem_of_getElem? (i := 84) rfl))) (Or.inr (hw _ (List.mem_of_getElem? (i := 61) rfl))) (by decide) (t := .long) (t' := (.object "com/example/tidebook/tidebook/book/BookSide")) (by decide) (by decide))), (F.2.2.2.2.2.2.1).other W (Or.inr (slot_ne (C := "com/example/tidebook/tidebook/book/Book") (Or.inl (hw _ (List.mem_of_getElem? (i := 96) rfl))) (Or.inr (hw _ (List.mem_of_getElem? (i := 61) rfl))) (by decide) (t := .long) (t' := (.object "com/example/tidebook/tidebook/book/BookSide")) (by decide) (by decide))), (F.2.2.2.2.2.2.2.1).other W (Or.inr (slot_ne (C := "com/example/tidebook/tidebook/book/Book") (Or.inl (hw _ (List.mem_of_getElem? (i := 72) rfl))) (Or.inr (hw _ (List.mem_of_getElem? (i := 61) rfl))) (by decide) (t := .boolean) (t' := (.object "com/example/tidebook/tidebook/book/BookSide")) (by decide) (by decide))), (F.2.2.2.2.2.2.2.2).other W (Or.inr (slot_ne (C := "com/example/tidebook/tidebook/book/Book") (Or.inl (hw _ (List.mem_of_getElem? (i := 108) rfl))) (Or.inr (hw _ (List.mem_of_getElem? (i := 61) rfl))) (by decide) (t := .long) (t' := (.object "com/example/tidebook/tidebook/book/BookSide")) (by decide) (by decide)))⟩
theorem BookAt.set_vn {Z : State} {a0 : Array Value} (hw : ∀ d ∈ tables_1, d.before a0 Z = true) {h h' : Heap} {a : Addr} {vb : Value} {va : Value} {vn : Value} {mm : Int64} {vv : Int64} {ss : Int64} {sy : Int32} {ms : Int64} {x' : Value} (F : BookAt Z h a vb va vn mm vv ss sy ms) (W : Wr h h' a (RoadKit.slotOf Z "com/example/tidebook/tidebook/book/Book" "name" "Ljava/lang/String;") (x')) : BookAt Z h' a vb va x' mm vv ss sy ms := ⟨F.1.wr W, (F.2.1).other W (Or.inr (slot_ne (C := "com/example/tidebook/tidebook/book/Book") (Or.inr (hw _ (List.mem_of_getElem? (i := 59) rfl))) (Or.inr (hw _ (List.mem_of_getElem? (i := 63) rfl))) (by decide) (t := (.object "com/example/tidebook/tidebook/book/BookSide")) (t' := (.object "java/lang/String")) (by decide) (by decide))), (F.2.2.1).other W (Or.inr (slot_ne (C := "com/example/tidebook/tidebook/book/Book") (Or.inr (hw _ (List.mem_of_getElem? (i := 61) rfl))) (Or.inr (hw _ (List.mem_of_getElem? (i := 63) rfl))) (by decide) (t := (.object "com/example/tidebook/tidebook/book/BookSide")) (t' := (.object "java/lang/String")) (by decide) (by decide))), (F.2.2.2.1).same W, (F.2.2.2.2.1).other W (Or.inr (slot_ne (C := "com/example/tidebook/tidebook/book/Book") (Or.inl (hw _ (List.mem_of_getElem? (i := 70) rfl))) (Or.inr (hw _ (List.mem_of_getElem? (i := 63) rfl))) (by decide) (t := .long) (t' := (.object "java/lang/String")) (by decide) (by decide))), (F.2.2.2.2.2.1).other W (Or.inr (slot_ne (C := "com/example/tidebook/tidebook/book/Book") (Or.inl (hw _ (List.mem_of_getElem? (i := 84) rfl))) (Or.inr (hw _ (List.mem_of_getElem? (i := 63) rfl))) (by decide) (t := .long) (t' := (.object "java/lang/String")) (by decide) (by decide))), (F.2.2.2.2.2.2.1).other W (Or.inr (slot_ne (C := "com/example/tidebook/tidebook/book/Book") (Or.inl (hw _ (List.mem_of_getElem? (i := 96) rfl))) (Or.inr (hw _ (List.mem_of_getElem? (i := 63) rfl))) (by decide) (t := .long) (t' := (.object "java/lang/String")) (by decide) (by decide))), (F.2.2.2.2.2.2.2.1).other W (Or.inr (slot_ne (C := "com/example/tidebook/tidebook/book/Book") (Or.inl (hw _ (List.mem_of_getElem? (i := 72) rfl))) (Or.inr (hw _ (List.mem_of_getElem? (i := 63) rfl))) (by decide) (t := .boolean) (t' := (.object "java/lang/String")) (by decide) (by decide))), (F.2.2.2.2.2.2.2.2).other W (Or.inr (slot_ne (C := "com/example/tidebook/tidebook/book/Book") (Or.inl (hw _ (List.mem_of_getElem? (i := 108) rfl))) (Or.inr (hw _ (List.mem_of_getElem? (i := 63) rfl))) (by decide) (t := .long) (t' := (.object "java/lang/String")) (by decide) (by decide)))⟩
theorem BookAt.set_mm {Z : State} {a0 : Array Value} (hw : ∀ d ∈ tables_1, d.before a0 Z = true) {h h' : Heap} {a : Addr} {vb : Value} {va : Value} {vn : Value} {mm : Int64} {vv : Int64} {ss : Int64} {sy : Int32} {ms : Int64} {x' : Int64} (F : BookAt Z h a vb va vn mm vv ss sy ms) (W : Wr h h' a (RoadKit.slotOf Z "com/example/tidebook/tidebook/book/Book" "mismatched" "J") (.long x')) : BookAt Z h' a vb va vn x' vv ss sy ms := ⟨F.1.wr W, (F.2.1).other W (Or.inr (slot_ne (C := "com/example/tidebook/tidebook/book/Book") (Or.inr (hw _ (List.mem_of_getElem? (i := 59) rfl))) (Or.inl (hw _ (List.mem_of_getElem? (i := 70) rfl))) (by decide) (t := (.object "com/example/tidebook/tidebook/book/BookSide")) (t' := .long) (by decide) (by decide))), (F.2.2.1).other W (Or.inr (slot_ne (C := "com/example/tidebook/tidebook/book/Book") (Or.inr (hw _ (List.mem_of_getElem? (i := 61) rfl))) (Or.inl (hw _ (List.mem_of_getElem? (i := 70) rfl))) (by decide) (t := (.object "com/example/tidebook/tidebook/book/BookSide")) (t' := .long) (by decide) (by decide))), (F.2.2.2.1).other W (Or.inr (slot_ne (C := "com/example/tidebook/tidebook/book/Book") (Or.inr (hw _ (List.mem_of_getElem? (i := 63) rfl))) (Or.inl (hw _ (List.mem_of_getElem? (i := 70) rfl))) (by decide) (t := (.object "java/lang/String")) (t' := .long) (by decide) (by decide))), (F.2.2.2.2.1).same W, (F.2.2.2.2.2.1).other W (Or.inr (slot_ne (C := "com/example/tidebook/tidebook/book/Book") (Or.inl (hw _ (List.mem_of_getElem? (i := 84) rfl))) (Or.inl (hw _ (List.mem_of_getElem? (i := 70) rfl))) (by decide) (t := .long) (t' := .long) (by decide) (by decide))), (F.2.2.2.2.2.2.1).other W (Or.inr (slot_ne (C := "com/example/tidebook/tidebook/book/Book") (Or.inl (hw _ (List.mem_of_getElem? (i := 96) rfl))) (Or.inl (hw _ (List.mem_of_getElem? (i := 70) rfl))) (by decide) (t := .long) (t' := .long) (by decide) (by decide))), (F.2.2.2.2.2.2.2.1).other W (Or.inr (slot_ne (C := "com/example/tidebook/tidebook/book/Book") (Or.inl (hw _ (List.mem_of_getElem? (i := 72) rfl))) (Or.inl (hw _ (List.mem_of_getElem? (i := 70) rfl))) (by decide) (t := .boolean) (t' := .long) (by decide) (by decide))), (F.2.2.2.2.2.2.2.2).other W (Or.inr (slot_ne (C := "com/example/tidebook/tidebook/book/Book") (Or.inl (hw _ (List.mem_of_getElem? (i := 108) rfl))) (Or.inl (hw _ (List.mem_of_getElem? (i := 70) rfl))) (by decide) (t := .long) (t' := .long) (by decide) (by decide)))⟩
theorem BookAt.set_vv {Z : State} {a0 : Array Value} (hw : ∀ d ∈ tables_1, d.before a0 Z = true) {h h' : Heap} {a : Addr} {vb : Value} {va : Value} {vn : Value} {mm : Int64} {vv : Int64} {ss : Int64} {sy : Int32} {ms : Int64} {x' : Int64} (F : BookAt Z h a vb va vn mm vv ss sy ms) (W : Wr h h' a (RoadKit.slotOf Z "com/example/tidebook/tidebook/book/Book" "verified" "J") (.long x')) : BookAt Z h' a vb va vn mm x' ss sy ms := ⟨F.1.wr W, (F.2.1).other W (Or.inr (slot_ne (C := "com/example/tidebook/tidebook/book/Book") (Or.inr (hw _ (List.mem_of_getElem? (i := 59) rfl))) (Or.inl (hw _ (List.mem_of_getElem? (i := 84) rfl))) (by decide) (t := (.object "com/example/tidebook/tidebook/book/BookSide")) (t' := .long) (by decide) (by decide))), (F.2.2.1).other W (Or.inr (slot_ne (C := "com/example/tidebook/tidebook/book/Book") (Or.inr (hw _ (List.mem_of_getElem? (i := 61) rfl))) (Or.inl (hw _ (List.mem_of_getElem? (i := 84) rfl))) (by decide) (t := (.object "com/example/tidebook/tidebook/book/BookSide")) (t' := .long) (by decide) (by decide))), (F.2.2.2.1).other W (Or.inr (slot_ne (C := "com/example/tidebook/tidebook/book/Book") (Or.inr (hw _ (List.mem_of_getElem? (i := 63) rfl))) (Or.inl (hw _ (List.mem_of_getElem? (i := 84) rfl))) (by decide) (t := (.object "java/lang/String")) (t' := .long) (by decide) (by decide))), (F.2.2.2.2.1).other W (Or.inr (slot_ne (C := "com/example/tidebook/tidebook/book/Book") (Or.inl (hw _ (List.mem_of_getElem? (i := 70) rfl))) (Or.inl (hw _ (List.mem_of_getElem? (i := 84) rfl))) (by decide) (t := .long) (t' := .long) (by decide) (by decide))), (F.2.2.2.2.2.1).same W, (F.2.2.2.2.2.2.1).other W (Or.inr (slot_ne (C := "com/example/tidebook/tidebook/book/Book") (Or.inl (hw _ (List.mem_of_getElem? (i := 96) rfl))) (Or.inl (hw _ (List.mem_of_getElem? (i := 84) rfl))) (by decide) (t := .long) (t' := .long) (by decide) (by decide))), (F.2.2.2.2.2.2.2.1).other W (Or.inr (slot_ne (C := "com/example/tidebook/tidebook/book/Book") (Or.inl (hw _ (List.mem_of_getElem? (i := 72) rfl))) (Or.inl (hw _ (List.mem_of_getElem? (i := 84) rfl))) (by decide) (t := .boolean) (t' := .long) (by decide) (by decide))), (F.2.2.2.2.2.2.2.2).other W (Or.inr (slot_ne (C := "com/example/tidebook/tidebook/book/Book") (Or.inl (hw _ (List.mem_of_getElem? (i := 108) rfl))) (Or.inl (hw _ (List.mem_of_getElem? (i := 84) rfl))) (by decide) (t := .long) (t' := .long) (by decide) (by decide)))⟩
theorem BookAt.set_ss {Z : State} {a0 : Array Value} (hw : ∀ d ∈ tables_1, d.before a0 Z = true) {h h' : Heap} {a : Addr} {vb : Value} {va : Value} {vn : Value} {mm : Int64} {vv : Int64} {ss : Int64} {sy : Int32} {ms : Int64} {x' : Int64} (F : BookAt Z h a vb va vn mm vv ss sy ms) (W : Wr h h' a (RoadKit.slotOf Z "com/example/tidebook/tidebook/book/Book" "skipped" "J") (.long x')) : BookAt Z h' a vb va vn mm vv x' sy ms := ⟨F.1.wr W, (F.2.1).other W (Or.inr (slot_ne (C := "com/example/tidebook/tidebook/book/Book") (Or.inr (hw _ (List.mem_of_getElem? (i := 59) rfl))) (Or.inl (hw _ (List.mem_of_getElem? (i := 96) rfl))) (by decide) (t := (.object "com/example/tidebook/tidebook/book/BookSide")) (t' := .long) (by decide) (by decide))), (F.2.2.1).other W (Or.inr (slot_ne (C := "com/example/tidebook/tidebook/book/Book") (Or.inr (hw _ (List.mem_of_getElem? (i := 61) rfl))) (Or.inl (hw _ (List.mem_of_getElem? (i := 96) rfl))) (by decide) (t := (.object "com/example/tidebook/tidebook/book/BookSide")) (t' := .long) (by decide) (by decide))), (F.2.2.2.1).other W (Or.inr (slot_ne (C := "com/example/tidebook/tidebook/book/Book") (Or.inr (hw _ (List.mem_of_getElem? (i := 63) rfl))) (Or.inl (hw _ (List.mem_of_getElem? (i := 96) rfl))) (by decide) (t := (.object "java/lang/String")) (t' := .long) (by decide) (by decide))), (F.2.2.2.2.1).other W (Or.inr (slot_ne (C := "com/example/tidebook/tidebook/book/Book") (Or.inl (hw _ (List.mem_of_getElem? (i := 70) rfl))) (Or.inl (hw _ (List.mem_of_getElem? (i := 96) rfl))) (by decide) (t := .long) (t' := .long) (by decide) (by decide))), (F.2.2.2.2.2.1).other W (Or.inr (slot_ne (C := "com/example/tidebook/tidebook/book/Book") (Or.inl (hw _ (List.mem_of_getElem? (i := 84) rfl))) (Or.inl (hw _ (List.mem_of_getElem? (i := 96) rfl))) (by decide) (t := .long) (t' := .long) (by decide) (by decide))), (F.2.2.2.2.2.2.1).same W, (F.2.2.2.2.2.2.2.1).other W (Or.inr (slot_ne (C := "com/example/tidebook/tidebook/book/Book") (Or.inl (hw _ (List.mem_of_getElem? (i := 72) rfl))) (Or.inl (hw _ (List.mem_of_getElem? (i := 96) rfl))) (by decide) (t := .boolean) (t' := .long) (by decide) (by decide))), (F.2.2.2.2.2.2.2.2).other W (Or.inr (slot_ne (C := "com/example/tidebook/tidebook/book/Book") (Or.inl (hw _ (List.mem_of_getElem? (i := 108) rfl))) (Or.inl (hw _ (List.mem_of_getElem? (i := 96) rfl))) (by decide) (t := .long) (t' := .long) (by decide) (by decide)))⟩
theorem BookAt.set_sy {Z : State} {a0 : Array Value} (hw : ∀ d ∈ tables_1, d.before a0 Z = true) {h h' : Heap} {a : Addr} {vb : Value} {va : Value} {vn : Value} {mm : Int64} {vv : Int64} {ss : Int64} {sy : Int32} {ms : Int64} {x' : Int32} (F : BookAt Z h a vb va vn mm vv ss sy ms) (W : Wr h h' a (RoadKit.slotOf Z "com/example/tidebook/tidebook/book/Book" "synced" "Z") (.int x')) : BookAt Z h' a vb va vn mm vv ss x' ms := ⟨F.1.wr W, (F.2.1).other W (Or.inr (slot_ne (C := "com/example/tidebook/tidebook/book/Book") (Or.inr (hw _ (List.mem_of_getElem? (i := 59) rfl))) (Or.inl (hw _ (List.mem_of_getElem? (i := 72) rfl))) (by decide) (t := (.object "com/example/tidebook/tidebook/book/BookSide")) (t' := .boolean) (by decide) (by decide))), (F.2.2.1).other W (Or.inr (slot_ne (C := "com/example/tidebook/tidebook/book/Book") (Or.inr (hw _ (List.mem_of_getElem? (i := 61) rfl))) (Or.inl (hw _ (List.mem_of_getElem? (i := 72) rfl))) (by decide) (t := (.object "com/example/tidebook/tidebook/book/BookSide")) (t' := .boolean) (by decide) (by decide))), (F.2.2.2.1).other W (Or.inr (slot_ne (C := "com/example/tidebook/tidebook/book/Book") (Or.inr (hw _ (List.mem_of_getElem? (i := 63) rfl))) (Or.inl (hw _ (List.mem_of_getElem? (i := 72) rfl))) (by decide) (t := (.object "java/lang/String")) (t' := .boolean) (by decide) (by decide))), (F.2.2.2.2.1).other W (Or.inr (slot_ne (C := "com/example/tidebook/tidebook/book/Book") (Or.inl (hw _ (List.mem_of_getElem? (i := 70) rfl))) (Or.inl (hw _ (List.mem_of_getElem? (i := 72) rfl))) (by decide) (t := .long) (t' := .boolean) (by decide) (by decide))), (F.2.2.2.2.2.1).other W (Or.inr (slot_ne (C := "com/example/tidebook/tidebook/book/Book") (Or.inl (hw _ (List.mem_of_getElem? (i := 84) rfl))) (Or.inl (hw _ (List.mem_of_getElem? (i := 72) rfl))) (by decide) (t := .long) (t' := .boolean) (by decide) (by decide))), (F.2.2.2.2.2.2.1).other W (Or.inr (slot_ne (C := "com/example/tidebook/tidebook/book/Book") (Or.inl (hw _ (List.mem_of_getElem? (i := 96) rfl))) (Or.inl (hw _ (List.mem_of_getElem? (i := 72) rfl))) (by decide) (t := .long) (t' := .boolean) (by decide) (by decide))), (F.2.2.2.2.2.2.2.1).same W, (F.2.2.2.2.2.2.2.2).other W (Or.inr (slot_ne (C := "com/example/tidebook/tidebook/book/Book") (Or.inl (hw _ (List.mem_of_getElem? (i := 108) rfl))) (Or.inl (hw _ (List.mem_of_getElem? (i := 72) rfl))) (by decide) (t := .long) (t' := .boolean) (by decide) (by decide)))⟩
theorem BookAt.set_ms {Z : State} {a0 : Array Value} (hw : ∀ d ∈ tables_1, d.before a0 Z = true) {h h' : Heap} {a : Addr} {vb : Value} {va : Value} {vn : Value} {mm : Int64} {vv : Int64} {ss : Int64} {sy : Int32} {ms : Int64} {x' : Int64} (F : BookAt Z h a vb va vn mm vv ss sy ms) (W : Wr h h' a (RoadKit.slotOf Z "com/example/tidebook/tidebook/book/Book" "messages" "J") (.long x')) : BookAt Z h' a vb va vn mm vv ss sy x' := ⟨F.1.wr W, (F.2.1).other W (Or.inr (slot_ne (C := "com/example/tidebook/tidebook/book/Book") (Or.inr (hw _ (List.mem_of_getElem? (i := 59) rfl))) (Or.inl (hw _ (List.mem_of_getElem? (i := 108) rfl))) (by decide) (t := (.object "com/example/tidebook/tidebook/book/BookSide")) (t' := .long) (by decide) (by decide))), (F.2.2.1).other W (Or.inr (slot_ne (C := "com/example/tidebook/tidebook/book/Book") (Or.inr (hw _ (List.mem_of_getElem? (i := 61) rfl))) (Or.inl (hw _ (List.mem_of_getElem? (i := 108) rfl))) (by decide) (t := (.object "com/example/tidebook/tidebook/book/BookSide")) (t' := .long) (by decide) (by decide))), (F.2.2.2.1).other W (Or.inr (slot_ne (C := "com/example/tidebook/tidebook/book/Book") (Or.inr (hw _ (List.mem_of_getElem? (i := 63) rfl))) (Or.inl (hw _ (List.mem_of_getElem? (i := 108) rfl))) (by decide) (t := (.object "java/lang/String")) (t' := .long) (by decide) (by decide))), (F.2.2.2.2.1).other W (Or.inr (slot_ne (C := "com/example/tidebook/tidebook/book/Book") (Or.inl (hw _ (List.mem_of_getElem? (i := 70) rfl))) (Or.inl (hw _ (List.mem_of_getElem? (i := 108) rfl))) (by decide) (t := .long) (t' := .long) (by decide) (by decide))), (F.2.2.2.2.2.1).other W (Or.inr (slot_ne (C := "com/example/tidebook/tidebook/book/Book") (Or.inl (hw _ (List.mem_of_getElem? (i := 84) rfl))) (Or.inl (hw _ (List.mem_of_getElem? (i := 108) rfl))) (by decide) (t := .long) (t' := .long) (by decide) (by decide))), (F.2.2.2.2.2.2.1).other W (Or.inr (slot_ne (C := "com/example/tidebook/tidebook/book/Book") (Or.inl (hw _ (List.mem_of_getElem? (i := 96) rfl))) (Or.inl (hw _ (List.mem_of_getElem? (i := 108) rfl))) (by decide) (t := .long) (t' := .long) (by decide) (by decide))), (F.2.2.2.2.2.2.2.1).other W (Or.inr (slot_ne (C := "com/example/tidebook/tidebook/book/Book") (Or.inl (hw _ (List.mem_of_getElem? (i := 72) rfl))) (Or.inl (hw _ (List.mem_of_getElem? (i := 108) rfl))) (by decide) (t := .boolean) (t' := .long) (by decide) (by decide))), (F.2.2.2.2.2.2.2.2).same W⟩
theorem BookAt.new {Z : State} {a0 : Array Value} (hw : ∀ d ∈ tables_1, d.before a0 Z = true) {h : Heap} {a : Addr} (X : Exa Z h a "com/example/tidebook/tidebook/book/Book") (D : ∀ {O nm d : String} {ty : FieldType}, Laid Z a0 "com/example/tidebook/tidebook/book/Book" O nm d → parseFieldDescriptor d = some ty → Fld Z h a O nm d (defaultValue ty)) : Exa Z h a "com/example/tidebook/tidebook/book/Book" ∧ Fld Z h a "com/example/tidebook/tidebook/book/Book" "bids" "Lcom/example/tidebook/tidebook/book/BookSide;" (.null) ∧ Fld Z h a "com/example/tidebook/tidebook/book/Book" "asks" "Lcom/example/tidebook/tidebook/book/BookSide;" (.null) ∧ Fld Z h a "com/example/tidebook/tidebook/book/Book" "name" "Ljava/lang/String;" (.null) ∧ Fld Z h a "com/example/tidebook/tidebook/book/Book" "mismatched" "J" (.long 0) ∧ Fld Z h a "com/example/tidebook/tidebook/book/Book" "verified" "J" (.long 0) ∧ Fld Z h a "com/example/tidebook/tidebook/book/Book" "skipped" "J" (.long 0) ∧ Fld Z h a "com/example/tidebook/tidebook/book/Book" "synced" "Z" (.int 0) ∧ Fld Z h a "com/example/tidebook/tidebook/book/Book" "messages" "J" (.long 0) := ⟨X, D (Or.inr (hw _ (List.mem_of_getElem? (i := 59) rfl))) (ty := (.object "com/example/tidebook/tidebook/book/BookSide")) (by decide), D (Or.inr (hw _ (List.mem_of_getElem? (i := 61) rfl))) (ty := (.object "com/example/tidebook/tidebook/book/BookSide")) (by decide), D (Or.inr (hw _ (List.mem_of_getElem? (i := 63) rfl))) (ty := (.object "java/lang/String")) (by decide), D (Or.inl (hw _ (List.mem_of_getElem? (i := 70) rfl))) (ty := .long) (by decide), D (Or.inl (hw _ (List.mem_of_getElem? (i := 84) rfl))) (ty := .long) (by decide), D (Or.inl (hw _ (List.mem_of_getElem? (i := 96) rfl))) (ty := .long) (by decide), D (Or.inl (hw _ (List.mem_of_getElem? (i := 72) rfl))) (ty := .boolean) (by decide), D (Or.inl (hw _ (List.mem_of_getElem? (i := 108) rfl))) (ty := .long) (by decide)⟩
def SideAt (Z : State) (h : Heap) (a : Addr) (vb : Value) (vs : Value) (ct : Int32) (de : Int32) (sz : Int32) : Prop := Exa Z h a "com/example/tidebook/tidebook/book/BookSide" ∧ Fld Z h a "com/example/tidebook/tidebook/book/BookSide" "blocks" "[[Lcom/example/tidebook/tidebook/book/Level;" (vb) ∧ Fld Z h a "com/example/tidebook/tidebook/book/BookSide" "sizes" "[I" (vs) ∧ Fld Z h a "com/example/tidebook/tidebook/book/BookSide" "count" "I" (.int ct) ∧ Fld Z h a "com/example/tidebook/tidebook/book/BookSide" "descending" "Z" (.int de) ∧ Fld Z h a "com/example/tidebook/tidebook/book/BookSide" "size" "I" (.int sz)
theorem SideAt.keep {Z : State} {h h' : Heap} {a : Addr} {ws : List Addr} {vb : Value} {vs : Value} {ct : Int32} {de : Int32} {sz : Int32} (F : SideAt Z h a vb vs ct de sz) (K : Keep h h' ws) (q : a ∉ ws) : SideAt Z h' a vb vs ct de sz := ⟨F.1.keep K, (F.2.1).keep K q, (F.2.2.1).keep K q, (F.2.2.2.1).keep K q, (F.2.2.2.2.1).keep K q, (F.2.2.2.2.2).keep K q⟩
theorem SideAt.ext {Z : State} {h h' : Heap} {a : Addr} {vb : Value} {vs : Value} {ct : Int32} {de : Int32} {sz : Int32} (F : SideAt Z h a vb vs ct de sz) (E : Ext h h') : SideAt Z h' a vb vs ct de sz := ⟨F.1.ext E, (F.2.1).ext E, (F.2.2.1).ext E, (F.2.2.2.1).ext E, (F.2.2.2.2.1).ext E, (F.2.2.2.2.2).ext E⟩
theorem SideAt.wrO {Z : State} {h h' : Heap} {a b : Addr} {sl : Nat} {w : Value} {vb : Value} {vs : Value} {ct : Int32} {de : Int32} {sz : Int32} (F : SideAt Z h a vb vs ct de sz) (W : Wr h h' b sl w) (q : a ≠ b) : SideAt Z h' a vb vs ct de sz := ⟨F.1.wr W, (F.2.1).other W (Or.inl q), (F.2.2.1).other W (Or.inl q), (F.2.2.2.1).other W (Or.inl q), (F.2.2.2.2.1).other W (Or.inl q), (F.2.2.2.2.2).other W (Or.inl q)⟩
theorem SideAt.set_vb {Z : State} {a0 : Array Value} (hw : ∀ d ∈ tables_1, d.before a0 Z = true) {h h' : Heap} {a : Addr} {vb : Value} {vs : Value} {ct : Int32} {de : Int32} {sz : Int32} {x' : Value} (F : SideAt Z h a vb vs ct de sz) (W : Wr h h' a (RoadKit.slotOf Z "com/example/tidebook/tidebook/book/BookSide" "blocks" "[[Lcom/example/tidebook/tidebook/book/Level;") (x')) : SideAt Z h' a x' vs ct de sz := ⟨F.1.wr W, (F.2.1).same W, (F.2.2.1).other W (Or.inr (slot_ne (C := "com/example/tidebook/tidebook/book/BookSide") (Or.inl (hw _ (List.mem_of_getElem? (i := 50) rfl))) (Or.inl (hw _ (List.mem_of_getElem? (i := 47) rfl))) (by decide) (t := (.array .int)) (t' := (.array (.array (.object "com/example/tidebook/tidebook/book/Level")))) (by decide) (by decide))), (F.2.2.2.1).other W (Or.inr (slot_ne (C := "com/example/tidebook/tidebook/book/BookSide") (Or.inl (hw _ (List.mem_of_getElem? (i := 52) rfl))) (Or.inl (hw _ (List.mem_of_getElem? (i := 47) rfl))) (by decide) (t := .int) (t' := (.array (.array (.object "com/example/tidebook/tidebook/book/Level")))) (by decide) (by decide))), (F.2.2.2.2.1).other W (Or.inr (slot_ne (C := "com/example/tidebook/tidebook/book/BookSide") (Or.inr (hw _ (List.mem_of_getElem? (i := 54) rfl))) (Or.inl (hw _ (List.mem_of_getElem? (i := 47) rfl))) (by decide) (t := .boolean) (t' := (.array (.array (.object "com/example/tidebook/tidebook/book/Level")))) (by decide) (by decide))), (F.2.2.2.2.2).other W (Or.inr (slot_ne (C := "com/example/tidebook/tidebook/book/BookSide") (Or.inl (hw _ (List.mem_of_getElem? (i := 164) rfl))) (Or.inl (hw _ (List.mem_of_getElem? (i := 47) rfl))) (by decide) (t := .int) (t' := (.array (.array (.object "com/example/tidebook/tidebook/book/Level")))) (by decide) (by decide)))⟩
theorem SideAt.set_vs {Z : State} {a0 : Array Value} (hw : ∀ d ∈ tables_1, d.before a0 Z = true) {h h' : Heap} {a : Addr} {vb : Value} {vs : Value} {ct : Int32} {de : Int32} {sz : Int32} {x' : Value} (F : SideAt Z h a vb vs ct de sz) (W : Wr h h' a (RoadKit.slotOf Z "com/example/tidebook/tidebook/book/BookSide" "sizes" "[I") (x')) : SideAt Z h' a vb x' ct de sz := ⟨F.1.wr W, (F.2.1).other W (Or.inr (slot_ne (C := "com/example/tidebook/tidebook/book/BookSide") (Or.inl (hw _ (List.mem_of_getElem? (i := 47) rfl))) (Or.inl (hw _ (List.mem_of_getElem? (i := 50) rfl))) (by decide) (t := (.array (.array (.object "com/example/tidebook/tidebook/book/Level")))) (t' := (.array .int)) (by decide) (by decide))), (F.2.2.1).same W, (F.2.2.2.1).other W (Or.inr (slot_ne (C := "com/example/tidebook/tidebook/book/BookSide") (Or.inl (hw _ (List.mem_of_getElem? (i := 52) rfl))) (Or.inl (hw _ (List.mem_of_getElem? (i := 50) rfl))) (by decide) (t := .int) (t' := (.array .int)) (by decide) (by decide))), (F.2.2.2.2.1).other W (Or.inr (slot_ne (C := "com/example/tidebook/tidebook/book/BookSide") (Or.inr (hw _ (List.mem_of_getElem? (i := 54) rfl))) (Or.inl (hw _ (List.mem_of_getElem? (i := 50) rfl))) (by decide) (t := .boolean) (t' := (.array .int)) (by decide) (by decide))), (F.2.2.2.2.2).other W (Or.inr (slot_ne (C := "com/example/tidebook/tidebook/book/BookSide") (Or.inl (hw _ (List.mem_of_getElem? (i := 164) rfl))) (Or.inl (hw _ (List.mem_of_getElem? (i := 50) rfl))) (by decide) (t := .int) (t' := (.array .int)) (by decide) (by decide)))⟩
theorem SideAt.set_ct {Z : State} {a0 : Array Value} (hw : ∀ d ∈ tables_1, d.before a0 Z = true) {h h' : Heap} {a : Addr} {vb : Value} {vs : Value} {ct : Int32} {de : Int32} {sz : Int32} {x' : Int32} (F : SideAt Z h a vb vs ct de sz) (W : Wr h h' a (RoadKit.slotOf Z "com/example/tidebook/tidebook/book/BookSide" "count" "I") (.int x')) : SideAt Z h' a vb vs x' de sz := ⟨F.1.wr W, (F.2.1).other W (Or.inr (slot_ne (C := "com/example/tidebook/tidebook/book/BookSide") (Or.inl (hw _ (List.mem_of_getElem? (i := 47) rfl))) (Or.inl (hw _ (List.mem_of_getElem? (i := 52) rfl))) (by decide) (t := (.array (.array (.object "com/example/tidebook/tidebook/book/Level")))) (t' := .int) (by decide) (by decide))), (F.2.2.1).other W (Or.inr (slot_ne (C := "com/example/tidebook/tidebook/book/BookSide") (Or.inl (hw _ (List.mem_of_getElem? (i := 50) rfl))) (Or.inl (hw _ (List.mem_of_getElem? (i := 52) rfl))) (by decide) (t := (.array .int)) (t' := .int) (by decide) (by decide))), (F.2.2.2.1).same W, (F.2.2.2.2.1).other W (Or.inr (slot_ne (C := "com/example/tidebook/tidebook/book/BookSide") (Or.inr (hw _ (List.mem_of_getElem? (i := 54) rfl))) (Or.inl (hw _ (List.mem_of_getElem? (i := 52) rfl))) (by decide) (t := .boolean) (t' := .int) (by decide) (by decide))), (F.2.2.2.2.2).other W (Or.inr (slot_ne (C := "com/example/tidebook/tidebook/book/BookSide") (Or.inl (hw _ (List.mem_of_getElem? (i := 164) rfl))) (Or.inl (hw _ (List.mem_of_getElem? (i := 52) rfl))) (by decide) (t := .int) (t' := .int) (by decide) (by decide)))⟩
theorem SideAt.set_de {Z : State} {a0 : Array Value} (hw : ∀ d ∈ tables_1, d.before a0 Z = true) {h h' : Heap} {a : Addr} {vb : Value} {vs : Value} {ct : Int32} {de : Int32} {sz : Int32} {x' : Int32} (F : SideAt Z h a vb vs ct de sz) (W : Wr h h' a (RoadKit.slotOf Z "com/example/tidebook/tidebook/book/BookSide" "descending" "Z") (.int x')) : SideAt Z h' a vb vs ct x' sz := ⟨F.1.wr W, (F.2.1).other W (Or.inr (slot_ne (C := "com/example/tidebook/tidebook/book/BookSide") (Or.inl (hw _ (List.mem_of_getElem? (i := 47) rfl))) (Or.inr (hw _ (List.mem_of_getElem? (i := 54) rfl))) (by decide) (t := (.array (.array (.object "com/example/tidebook/tidebook/book/Level")))) (t' := .boolean) (by decide) (by decide))), (F.2.2.1).other W (Or.inr (slot_ne (C := "com/example/tidebook/tidebook/book/BookSide") (Or.inl (hw _ (List.mem_of_getElem? (i := 50) rfl))) (Or.inr (hw _ (List.mem_of_getElem? (i := 54) rfl))) (by decide) (t := (.array .int)) (t' := .boolean) (by decide) (by decide))), (F.2.2.2.1).other W (Or.inr (slot_ne (C := "com/example/tidebook/tidebook/book/BookSide") (Or.inl (hw _ (List.mem_of_getElem? (i := 52) rfl))) (Or.inr (hw _ (List.mem_of_getElem? (i := 54) rfl))) (by decide) (t := .int) (t' := .boolean) (by decide) (by decide))), (F.2.2.2.2.1).same W, (F.2.2.2.2.2).other W (Or.inr (slot_ne (C := "com/example/tidebook/tidebook/book/BookSide") (Or.inl (hw _ (List.mem_of_getElem? (i := 164) rfl))) (Or.inr (hw _ (List.mem_of_getElem? (i := 54) rfl))) (by decide) (t := .int) (t' := .boolean) (by decide) (by decide)))⟩
theorem SideAt.set_sz {Z : State} {a0 : Array Value} (hw : ∀ d ∈ tables_1, d.before a0 Z = true) {h h' : Heap} {a : Addr} {vb : Value} {vs : Value} {ct : Int32} {de : Int32} {sz : Int32} {x' : Int32} (F : SideAt Z h a vb vs ct de sz) (W : Wr h h' a (RoadKit.slotOf Z "com/example/tidebook/tidebook/book/BookSide" "size" "I") (.int x')) : SideAt Z h' a vb vs ct de x' := ⟨F.1.wr W, (F.2.1).other W (Or.inr (slot_ne (C := "com/example/tidebook/tidebook/book/BookSide") (Or.inl (hw _ (List.mem_of_getElem? (i := 47) rfl))) (Or.inl (hw _ (List.mem_of_getElem? (i := 164) rfl))) (by decide) (t := (.array (.array (.object "com/example/tidebook/tidebook/book/Level")))) (t' := .int) (by decide) (by decide))), (F.2.2.1).other W (Or.inr (slot_ne (C := "com/example/tidebook/tidebook/book/BookSide") (Or.inl (hw _ (List.mem_of_getElem? (i := 50) rfl))) (Or.inl (hw _ (List.mem_of_getElem? (i := 164) rfl))) (by decide) (t := (.array .int)) (t' := .int) (by decide) (by decide))), (F.2.2.2.1).other W (Or.inr (slot_ne (C := "com/example/tidebook/tidebook/book/BookSide") (Or.inl (hw _ (List.mem_of_getElem? (i := 52) rfl))) (Or.inl (hw _ (List.mem_of_getElem? (i := 164) rfl))) (by decide) (t := .int) (t' := .int) (by decide) (by decide))), (F.2.2.2.2.1).other W (Or.inr (slot_ne (C := "com/example/tidebook/tidebook/book/BookSide") (Or.inr (hw _ (List.mem_of_getElem? (i := 54) rfl))) (Or.inl (hw _ (List.mem_of_getElem? (i := 164) rfl))) (by decide) (t := .boolean) (t' := .int) (by decide) (by decide))), (F.2.2.2.2.2).same W⟩
theorem SideAt.new {Z : State} {a0 : Array Value} (hw : ∀ d ∈ tables_1, d.before a0 Z = true) {h : Heap} {a : Addr} (X : Exa Z h a "com/example/tidebook/tidebook/book/BookSide") (D : ∀ {O nm d : String} {ty : FieldType}, Laid Z a0 "com/example/tidebook/tidebook/book/BookSide" O nm d → parseFieldDescriptor d = some ty → Fld Z h a O nm d (defaultValue ty)) : Exa Z h a "com/example/tidebook/tidebook/book/BookSide" ∧ Fld Z h a "com/example/tidebook/tidebook/book/BookSide" "blocks" "[[Lcom/example/tidebook/tidebook/book/Level;" (.null) ∧ Fld Z h a "com/example/tidebook/tidebook/book/BookSide" "sizes" "[I" (.null) ∧ Fld Z h a "com/example/tidebook/tidebook/book/BookSide" "count" "I" (.int 0) ∧ Fld Z h a "com/example/tidebook/tidebook/book/BookSide" "descending" "Z" (.int 0) ∧ Fld Z h a "com/example/tidebook/tidebook/book/BookSide" "size" "I" (.int 0) := ⟨X, D (Or.inl (hw _ (List.mem_of_getElem? (i := 47) rfl))) (ty := (.array (.array (.object "com/example/tidebook/tidebook/book/Level")))) (by decide), D (Or.inl (hw _ (List.mem_of_getElem? (i := 50) rfl))) (ty := (.array .int)) (by decide), D (Or.inl (hw _ (List.mem_of_getElem? (i := 52) rfl))) (ty := .int) (by decide), D (Or.inr (hw _ (List.mem_of_getElem? (i := 54) rfl))) (ty := .boolean) (by decide), D (Or.inl (hw _ (List.mem_of_getElem? (i := 164) rfl))) (ty := .int) (by decide)⟩
theorem d_prog_2_method_11_code_0 : decode prog_2_method_11_code 0 = .ok (.aload_n 0, 1) := by decide +kernel
theorem d_prog_2_method_11_code_1 : decode prog_2_method_11_code 1 = .ok (.getfield 100, 3) := by decide +kernel
theorem d_prog_2_method_11_code_4 : decode prog_2_method_11_code 4 = .ok (.lreturn, 1) := by decide +kernel
theorem pn_0 : plainName "com/example/tidebook/tidebook/book/Book" = true := by first | (simp [plainName, overriddenIn]; done) | decide +kernel
set_option maxRecDepth 65536 in
set_option maxHeartbeats 40000000 in
theorem c_mismatched (l : Launch) (Z : State) (a0 : Array Value) (hw : ∀ d ∈ tables_1, d.before a0 Z = true) (n0 : Nat) (h0 : Heap) (O0 : Old Z n0 h0) (a1 : Addr) (vb va vn : Value) (mm vv ss : Int64) (sy : Int32) (ms : Int64) (B : BookAt Z h0 a1 vb va vn mm vv ss sy ms) :
    Own.Ctr false l (⟨"com/example/tidebook/tidebook/book/Book", "mismatched", "()J"⟩ : MethodName) prog_2_method_11_code 1 (some .long) ({ frames := 0, cells := 0, slots := 0, locals := 0 } : Room) #[(.ref a1)] Z h0 Own.VT [] (fun v h vm => v = some (.long mm) ∧ h = h0) := by
  refine Own.body (plainFor_of_name pn_0) O0 (fun _ _ _ _ q => by cases q) (fun _ _ _ _ q _ => q) ?_
  intro p e s m below meth c T0 hby hml0 hret hnm hV0 K0
  change Own.Wk false p l e ({ frames := 0, cells := 0, slots := 0, locals := 0 } : Room) s m #[(.ref a1)] below meth c "com/example/tidebook/tidebook/book/Book" Z n0 h0 [] s.vm T0 h0 0 0 at K0
  have hml : c.maxLocals = 1 := hml0
  have S0 : Go p e below (T0.setTop (entryFrame m #[(.ref a1)] 1)) (T0.setTop (mkF m 0 #[.val (.ref a1)] [])) := fun t k => castTop (by first | rfl | (simp [entryFrame, mkF, argsToLocals, Value.category]; done)) k
  generalize T0.setTop (entryFrame m #[(.ref a1)] 1) = A0 at S0 ⊢
  have S1 : Go p e below A0 (T0.setTop (mkF m 1 #[.val (.ref a1)] [(.ref a1)])) := by
    refine S0.trans ?_
    refine (Own.P.aloadN K0.here K0.exec (hb hby d_prog_2_method_11_code_0) rfl rfl).trans ?_
    exact Go.refl _
  obtain ⟨T2, K2, G2⟩ := K0.getF "" (Or.inl (hw _ (List.mem_of_getElem? (i := 69) rfl))) Via.refl B.2.2.2.2.1 (pc := 1) (Ls := #[.val (.ref a1)]) (rest := []) (hb hby d_prog_2_method_11_code_1)
  have S2 : Go p e below A0 (T2.setTop (mkF m 4 #[.val (.ref a1)] [(.long mm)])) := S1.trans G2
  exact ⟨s.vm, T2, h0, (some (.long mm)), _, _, K2, by decide, by decide, ⟨rfl, rfl⟩, K2.retW S2 hret rfl (Or.inr (Or.inl ⟨rfl, rfl, _, rfl⟩)) (hb hby d_prog_2_method_11_code_4)⟩
theorem d_prog_2_method_10_code_0 : decode prog_2_method_10_code 0 = .ok (.aload_n 0, 1) := by decide +kernel
theorem d_prog_2_method_10_code_1 : decode prog_2_method_10_code 1 = .ok (.getfield 97, 3) := by decide +kernel
theorem d_prog_2_method_10_code_4 : decode prog_2_method_10_code 4 = .ok (.lreturn, 1) := by decide +kernel
set_option maxRecDepth 65536 in
set_option maxHeartbeats 40000000 in
theorem c_verified (l : Launch) (Z : State) (a0 : Array Value) (hw : ∀ d ∈ tables_1, d.before a0 Z = true) (n0 : Nat) (h0 : Heap) (O0 : Old Z n0 h0) (a1 : Addr) (vb va vn : Value) (mm vv ss : Int64) (sy : Int32) (ms : Int64) (B : BookAt Z h0 a1 vb va vn mm vv ss sy ms) :
    Own.Ctr false l (⟨"com/example/tidebook/tidebook/book/Book", "verified", "()J"⟩ : MethodName) prog_2_method_10_code 1 (some .long) ({ frames := 0, cells := 0, slots := 0, locals := 0 } : Room) #[(.ref a1)] Z h0 Own.VT [] (fun v h vm => v = some (.long vv) ∧ h = h0) := by
  refine Own.body (plainFor_of_name pn_0) O0 (fun _ _ _ _ q => by cases q) (fun _ _ _ _ q _ => q) ?_
  intro p e s m below meth c T0 hby hml0 hret hnm hV0 K0
  change Own.Wk false p l e ({ frames := 0, cells := 0, slots := 0, locals := 0 } : Room) s m #[(.ref a1)] below meth c "com/example/tidebook/tidebook/book/Book" Z n0 h0 [] s.vm T0 h0 0 0 at K0
  have hml : c.maxLocals = 1 := hml0
  have S0 : Go p e below (T0.setTop (entryFrame m #[(.ref a1)] 1)) (T0.setTop (mkF m 0 #[.val (.ref a1)] [])) := fun t k => castTop (by first | rfl | (simp [entryFrame, mkF, argsToLocals, Value.category]; done)) k
  generalize T0.setTop (entryFrame m #[(.ref a1)] 1) = A0 at S0 ⊢
  have S1 : Go p e below A0 (T0.setTop (mkF m 1 #[.val (.ref a1)] [(.ref a1)])) := by
    refine S0.trans ?_
    refine (Own.P.aloadN K0.here K0.exec (hb hby d_prog_2_method_10_code_0) rfl rfl).trans ?_
    exact Go.refl _
  obtain ⟨T2, K2, G2⟩ := K0.getF "" (Or.inl (hw _ (List.mem_of_getElem? (i := 83) rfl))) Via.refl B.2.2.2.2.2.1 (pc := 1) (Ls := #[.val (.ref a1)]) (rest := []) (hb hby d_prog_2_method_10_code_1)
  have S2 : Go p e below A0 (T2.setTop (mkF m 4 #[.val (.ref a1)] [(.long vv)])) := S1.trans G2
  exact ⟨s.vm, T2, h0, (some (.long vv)), _, _, K2, by decide, by decide, ⟨rfl, rfl⟩, K2.retW S2 hret rfl (Or.inr (Or.inl ⟨rfl, rfl, _, rfl⟩)) (hb hby d_prog_2_method_10_code_4)⟩
theorem d_prog_2_method_12_code_0 : decode prog_2_method_12_code 0 = .ok (.aload_n 0, 1) := by decide +kernel
theorem d_prog_2_method_12_code_1 : decode prog_2_method_12_code 1 = .ok (.getfield 103, 3) := by decide +kernel
theorem d_prog_2_method_12_code_4 : decode prog_2_method_12_code 4 = .ok (.lreturn, 1) := by decide +kernel
set_option maxRecDepth 65536 in
set_option maxHeartbeats 40000000 in
theorem c_skipped (l : Launch) (Z : State) (a0 : Array Value) (hw : ∀ d ∈ tables_1, d.before a0 Z = true) (n0 : Nat) (h0 : Heap) (O0 : Old Z n0 h0) (a1 : Addr) (vb va vn : Value) (mm vv ss : Int64) (sy : Int32) (ms : Int64) (B : BookAt Z h0 a1 vb va vn mm vv ss sy ms) :
    Own.Ctr false l (⟨"com/example/tidebook/tidebook/book/Book", "skipped", "()J"⟩ : MethodName) prog_2_method_12_code 1 (some .long) ({ frames := 0, cells := 0, slots := 0, locals := 0 } : Room) #[(.ref a1)] Z h0 Own.VT [] (fun v h vm => v = some (.long ss) ∧ h = h0) := by
  refine Own.body (plainFor_of_name pn_0) O0 (fun _ _ _ _ q => by cases q) (fun _ _ _ _ q _ => q) ?_
  intro p e s m below meth c T0 hby hml0 hret hnm hV0 K0
  change Own.Wk false p l e ({ frames := 0, cells := 0, slots := 0, locals := 0 } : Room) s m #[(.ref a1)] below meth c "com/example/tidebook/tidebook/book/Book" Z n0 h0 [] s.vm T0 h0 0 0 at K0
  have hml : c.maxLocals = 1 := hml0
  have S0 : Go p e below (T0.setTop (entryFrame m #[(.ref a1)] 1)) (T0.setTop (mkF m 0 #[.val (.ref a1)] [])) := fun t k => castTop (by first | rfl | (simp [entryFrame, mkF, argsToLocals, Value.category]; done)) k
  generalize T0.setTop (entryFrame m #[(.ref a1)] 1) = A0 at S0 ⊢
  have S1 : Go p e below A0 (T0.setTop (mkF m 1 #[.val (.ref a1)] [(.ref a1)])) := by
    refine S0.trans ?_
    refine (Own.P.aloadN K0.here K0.exec (hb hby d_prog_2_method_12_code_0) rfl rfl).trans ?_
    exact Go.refl _
  obtain ⟨T2, K2, G2⟩ := K0.getF "" (Or.inl (hw _ (List.mem_of_getElem? (i := 95) rfl))) Via.refl B.2.2.2.2.2.2.1 (pc := 1) (Ls := #[.val (.ref a1)]) (rest := []) (hb hby d_prog_2_method_12_code_1)
  have S2 : Go p e below A0 (T2.setTop (mkF m 4 #[.val (.ref a1)] [(.long ss)])) := S1.trans G2
  exact ⟨s.vm, T2, h0, (some (.long ss)), _, _, K2, by decide, by decide, ⟨rfl, rfl⟩, K2.retW S2 hret rfl (Or.inr (Or.inl ⟨rfl, rfl, _, rfl⟩)) (hb hby d_prog_2_method_12_code_4)⟩
theorem d_prog_2_method_8_code_0 : decode prog_2_method_8_code 0 = .ok (.aload_n 0, 1) := by decide +kernel
theorem d_prog_2_method_8_code_1 : decode prog_2_method_8_code 1 = .ok (.getfield 93, 3) := by decide +kernel
theorem d_prog_2_method_8_code_4 : decode prog_2_method_8_code 4 = .ok (.lreturn, 1) := by decide +kernel
set_option maxRecDepth 65536 in
set_option maxHeartbeats 40000000 in
theorem c_messages (l : Launch) (Z : State) (a0 : Array Value) (hw : ∀ d ∈ tables_1, d.before a0 Z = true) (n0 : Nat) (h0 : Heap) (O0 : Old Z n0 h0) (a1 : Addr) (vb va vn : Value) (mm vv ss : Int64) (sy : Int32) (ms : Int64) (B : BookAt Z h0 a1 vb va vn mm vv ss sy ms) :
    Own.Ctr false l (⟨"com/example/tidebook/tidebook/book/Book", "messages", "()J"⟩ : MethodName) prog_2_method_8_code 1 (some .long) ({ frames := 0, cells := 0, slots := 0, locals := 0 } : Room) #[(.ref a1)] Z h0 Own.VT [] (fun v h vm => v = some (.long ms) ∧ h = h0) := by
  refine Own.body (plainFor_of_name pn_0) O0 (fun _ _ _ _ q => by cases q) (fun _ _ _ _ q _ => q) ?_
  intro p e s m below meth c T0 hby hml0 hret hnm hV0 K0
  change Own.Wk false p l e ({ frames := 0, cells := 0, slots := 0, locals := 0 } : Room) s m #[(.ref a1)] below meth c "com/example/tidebook/tidebook/book/Book" Z n0 h0 [] s.vm T0 h0 0 0 at K0
  have hml : c.maxLocals = 1 := hml0
  have S0 : Go p e below (T0.setTop (entryFrame m #[(.ref a1)] 1)) (T0.setTop (mkF m 0 #[.val (.ref a1)] [])) := fun t k => castTop (by first | rfl | (simp [entryFrame, mkF, argsToLocals, Value.category]; done)) k
  generalize T0.setTop (entryFrame m #[(.ref a1)] 1) = A0 at S0 ⊢
  have S1 : Go p e below A0 (T0.setTop (mkF m 1 #[.val (.ref a1)] [(.ref a1)])) := by
    refine S0.trans ?_
    refine (Own.P.aloadN K0.here K0.exec (hb hby d_prog_2_method_8_code_0) rfl rfl).trans ?_
    exact Go.refl _
  obtain ⟨T2, K2, G2⟩ := K0.getF "" (Or.inl (hw _ (List.mem_of_getElem? (i := 107) rfl))) Via.refl B.2.2.2.2.2.2.2.2 (pc := 1) (Ls := #[.val (.ref a1)]) (rest := []) (hb hby d_prog_2_method_8_code_1)
  have S2 : Go p e below A0 (T2.setTop (mkF m 4 #[.val (.ref a1)] [(.long ms)])) := S1.trans G2
  exact ⟨s.vm, T2, h0, (some (.long ms)), _, _, K2, by decide, by decide, ⟨rfl, rfl⟩, K2.retW S2 hret rfl (Or.inr (Or.inl ⟨rfl, rfl, _, rfl⟩)) (hb hby d_prog_2_method_8_code_4)⟩
theorem d_prog_2_method_9_code_0 : decode prog_2_method_9_code 0 = .ok (.aload_n 0, 1) := by decide +kernel
theorem d_prog_2_method_9_code_1 : decode prog_2_method_9_code 1 = .ok (.getfield 97, 3) := by decide +kernel
theorem d_prog_2_method_9_code_4 : decode prog_2_method_9_code 4 = .ok (.aload_n 0, 1) := by decide +kernel
theorem d_prog_2_method_9_code_5 : decode prog_2_method_9_code 5 = .ok (.getfield 100, 3) := by decide +kernel
theorem d_prog_2_method_9_code_8 : decode prog_2_method_9_code 8 = .ok (.ladd, 1) := by decide +kernel
theorem d_prog_2_method_9_code_9 : decode prog_2_method_9_code 9 = .ok (.lreturn, 1) := by decide +kernel
set_option maxRecDepth 65536 in
set_option maxHeartbeats 40000000 in
theorem c_checked (l : Launch) (Z : State) (a0 : Array Value) (hw : ∀ d ∈ tables_1, d.before a0 Z = true) (n0 : Nat) (h0 : Heap) (O0 : Old Z n0 h0) (a1 : Addr) (vb va vn : Value) (mm vv ss : Int64) (sy : Int32) (ms : Int64) (B : BookAt Z h0 a1 vb va vn mm vv ss sy ms) :
    Own.Ctr false l (⟨"com/example/tidebook/tidebook/book/Book", "checked", "()J"⟩ : MethodName) prog_2_method_9_code 1 (some .long) ({ frames := 0, cells := 0, slots := 0, locals := 0 } : Room) #[(.ref a1)] Z h0 Own.VT [] (fun v h vm => v = some (.long (vv + mm)) ∧ h = h0) := by
  refine Own.body (plainFor_of_name pn_0) O0 (fun _ _ _ _ q => by cases q) (fun _ _ _ _ q _ => q) ?_
  intro p e s m below meth c T0 hby hml0 hret hnm hV0 K0
  change Own.Wk false p l e ({ frames := 0, cells := 0, slots := 0, locals := 0 } : Room) s m #[(.ref a1)] below meth c "com/example/tidebook/tidebook/book/Book" Z n0 h0 [] s.vm T0 h0 0 0 at K0
  have hml : c.maxLocals = 1 := hml0
  have S0 : Go p e below (T0.setTop (entryFrame m #[(.ref a1)] 1)) (T0.setTop (mkF m 0 #[.val (.ref a1)] [])) := fun t k => castTop (by first | rfl | (simp [entryFrame, mkF, argsToLocals, Value.category]; done)) k
  generalize T0.setTop (entryFrame m #[(.ref a1)] 1) = A0 at S0 ⊢
  have S1 : Go p e below A0 (T0.setTop (mkF m 1 #[.val (.ref a1)] [(.ref a1)])) := by
    refine S0.trans ?_
    refine (Own.P.aloadN K0.here K0.exec (hb hby d_prog_2_method_9_code_0) rfl rfl).trans ?_
    exact Go.refl _
  obtain ⟨T2, K2, G2⟩ := K0.getF "" (Or.inl (hw _ (List.mem_of_getElem? (i := 83) rfl))) Via.refl B.2.2.2.2.2.1 (pc := 1) (Ls := #[.val (.ref a1)]) (rest := []) (hb hby d_prog_2_method_9_code_1)
  have S2 : Go p e below A0 (T2.setTop (mkF m 4 #[.val (.ref a1)] [(.long vv)])) := S1.trans G2
  have S3 : Go p e below A0 (T2.setTop (mkF m 5 #[.val (.ref a1)] [(.ref a1), (.long vv)])) := by
    refine S2.trans ?_
    refine (Own.P.aloadN K2.here K2.exec (hb hby d_prog_2_method_9_code_4) rfl rfl).trans ?_
    exact Go.refl _
  obtain ⟨T4, K4, G4⟩ := K2.getF "" (Or.inl (hw _ (List.mem_of_getElem? (i := 69) rfl))) Via.refl B.2.2.2.2.1 (pc := 5) (Ls := #[.val (.ref a1)]) (rest := [(.long vv)]) (hb hby d_prog_2_method_9_code_5)
  have S4 : Go p e below A0 (T4.setTop (mkF m 8 #[.val (.ref a1)] [(.long mm), (.long vv)])) := S3.trans G4
  have S5 : Go p e below A0 (T4.setTop (mkF m 9 #[.val (.ref a1)] [(.long (vv + mm))])) := by
    refine S4.trans ?_
    refine (Own.P.ladd K4.here K4.exec (hb hby d_prog_2_method_9_code_8) ).trans ?_
    exact Go.refl _
  exact ⟨s.vm, T4, h0, (some (.long (vv + mm))), _, _, K4, by decide, by decide, ⟨rfl, rfl⟩, K4.retW S5 hret rfl (Or.inr (Or.inl ⟨rfl, rfl, _, rfl⟩)) (hb hby d_prog_2_method_9_code_9)⟩
theorem d_prog_2_method_4_code_0 : decode prog_2_method_4_code 0 = .ok (.aload_n 0, 1) := by decide +kernel
theorem d_prog_2_method_4_code_1 : decode prog_2_method_4_code 1 = .ok (.getfield 51, 3) := by decide +kernel
theorem d_prog_2_method_4_code_4 : decode prog_2_method_4_code 4 = .ok (.ireturn, 1) := by decide +kernel
set_option maxRecDepth 65536 in
set_option maxHeartbeats 40000000 in
theorem c_isSynced (l : Launch) (Z : State) (a0 : Array Value) (hw : ∀ d ∈ tables_1, d.before a0 Z = true) (n0 : Nat) (h0 : Heap) (O0 : Old Z n0 h0) (a1 : Addr) (vb va vn : Value) (mm vv ss : Int64) (sy : Int32) (ms : Int64) (B : BookAt Z h0 a1 vb va vn mm vv ss sy ms) (hsy : narrow .boolean (.int sy) = .int sy) :
    Own.Ctr false l (⟨"com/example/tidebook/tidebook/book/Book", "isSynced", "()Z"⟩ : MethodName) prog_2_method_4_code 1 (some .boolean) ({ frames := 0, cells := 0, slots := 0, locals := 0 } : Room) #[(.ref a1)] Z h0 Own.VT [] (fun v h vm => v = some (.int sy) ∧ h = h0) := by
  refine Own.body (plainFor_of_name pn_0) O0 (fun _ _ _ _ q => by cases q) (fun _ _ _ _ q _ => q) ?_
  intro p e s m below meth c T0 hby hml0 hret hnm hV0 K0
  change Own.Wk false p l e ({ frames := 0, cells := 0, slots := 0, locals := 0 } : Room) s m #[(.ref a1)] below meth c "com/example/tidebook/tidebook/book/Book" Z n0 h0 [] s.vm T0 h0 0 0 at K0
  have hml : c.maxLocals = 1 := hml0
  have S0 : Go p e below (T0.setTop (entryFrame m #[(.ref a1)] 1)) (T0.setTop (mkF m 0 #[.val (.ref a1)] [])) := fun t k => castTop (by first | rfl | (simp [entryFrame, mkF, argsToLocals, Value.category]; done)) k
  generalize T0.setTop (entryFrame m #[(.ref a1)] 1) = A0 at S0 ⊢
  have S1 : Go p e below A0 (T0.setTop (mkF m 1 #[.val (.ref a1)] [(.ref a1)])) := by
    refine S0.trans ?_
    refine (Own.P.aloadN K0.here K0.exec (hb hby d_prog_2_method_4_code_0) rfl rfl).trans ?_
    exact Go.refl _
  obtain ⟨T2, K2, G2⟩ := K0.getF "" (Or.inl (hw _ (List.mem_of_getElem? (i := 71) rfl))) Via.refl B.2.2.2.2.2.2.2.1 (pc := 1) (Ls := #[.val (.ref a1)]) (rest := []) (hb hby d_prog_2_method_4_code_1)
  have S2 : Go p e below A0 (T2.setTop (mkF m 4 #[.val (.ref a1)] [(.int sy)])) := S1.trans G2
  exact ⟨s.vm, T2, h0, (some (.int sy)), _, _, K2, by decide, by decide, ⟨rfl, rfl⟩, K2.retW S2 hret hsy (Or.inl ⟨rfl, by decide, _, rfl⟩) (hb hby d_prog_2_method_4_code_4)⟩
theorem d_prog_2_method_3_code_0 : decode prog_2_method_3_code 0 = .ok (.aload_n 0, 1) := by decide +kernel
theorem d_prog_2_method_3_code_1 : decode prog_2_method_3_code 1 = .ok (.getfield 21, 3) := by decide +kernel
theorem d_prog_2_method_3_code_4 : decode prog_2_method_3_code 4 = .ok (.areturn, 1) := by decide +kernel
set_option maxRecDepth 65536 in
set_option maxHeartbeats 40000000 in
theorem c_bname (l : Launch) (Z : State) (a0 : Array Value) (hw : ∀ d ∈ tables_1, d.before a0 Z = true) (n0 : Nat) (h0 : Heap) (O0 : Old Z n0 h0) (a1 : Addr) (vb va : Value) (n1 : Addr) (mm vv ss : Int64) (sy : Int32) (ms : Int64) (B : BookAt Z h0 a1 vb va (.ref n1) mm vv ss sy ms) :
    Own.Ctr false l (⟨"com/example/tidebook/tidebook/book/Book", "name", "()Ljava/lang/String;"⟩ : MethodName) prog_2_method_3_code 1 (some (.object "java/lang/String")) ({ frames := 0, cells := 0, slots := 0, locals := 0 } : Room) #[(.ref a1)] Z h0 Own.VT [] (fun v h vm => v = some (.ref n1) ∧ h = h0) := by
  refine Own.body (plainFor_of_name pn_0) O0 (fun _ _ _ _ q => by cases q) (fun _ _ _ _ q _ => q) ?_
  intro p e s m below meth c T0 hby hml0 hret hnm hV0 K0
  change Own.Wk false p l e ({ frames := 0, cells := 0, slots := 0, locals := 0 } : Room) s m #[(.ref a1)] below meth c "com/example/tidebook/tidebook/book/Book" Z n0 h0 [] s.vm T0 h0 0 0 at K0
  have hml : c.maxLocals = 1 := hml0
  have S0 : Go p e below (T0.setTop (entryFrame m #[(.ref a1)] 1)) (T0.setTop (mkF m 0 #[.val (.ref a1)] [])) := fun t k => castTop (by first | rfl | (simp [entryFrame, mkF, argsToLocals, Value.category]; done)) k
  generalize T0.setTop (entryFrame m #[(.ref a1)] 1) = A0 at S0 ⊢
  have S1 : Go p e below A0 (T0.setTop (mkF m 1 #[.val (.ref a1)] [(.ref a1)])) := by
    refine S0.trans ?_
    refine (Own.P.aloadN K0.here K0.exec (hb hby d_prog_2_method_3_code_0) rfl rfl).trans ?_
    exact Go.refl _
  obtain ⟨T2, K2, G2⟩ := K0.getF "" (Or.inl (hw _ (List.mem_of_getElem? (i := 62) rfl))) Via.refl B.2.2.2.1 (pc := 1) (Ls := #[.val (.ref a1)]) (rest := []) (hb hby d_prog_2_method_3_code_1)
  have S2 : Go p e below A0 (T2.setTop (mkF m 4 #[.val (.ref a1)] [(.ref n1)])) := S1.trans G2
  exact ⟨s.vm, T2, h0, (some (.ref n1)), _, _, K2, by decide, by decide, ⟨rfl, rfl⟩, K2.retW S2 hret rfl (Or.inr (Or.inr (Or.inr (Or.inr ⟨rfl, rfl, rfl⟩)))) (hb hby d_prog_2_method_3_code_4)⟩
theorem d_jdk_42_method_66_code_0 : decode jdk_42_method_66_code 0 = .ok (.aload_n 0, 1) := by decide +kernel
theorem d_jdk_42_method_66_code_1 : decode jdk_42_method_66_code 1 = .ok (.aload_n 1, 1) := by decide +kernel
theorem d_jdk_42_method_66_code_2 : decode jdk_42_method_66_code 2 = .ok (.if_acmp .ne 5, 3) := by decide +kernel
theorem d_jdk_42_method_66_code_5 : decode jdk_42_method_66_code 5 = .ok (.iconst 1, 1) := by decide +kernel
theorem d_jdk_42_method_66_code_6 : decode jdk_42_method_66_code 6 = .ok (.ireturn, 1) := by decide +kernel
theorem pn_1 : plainName "java/lang/String" = true := by first | (simp [plainName, overriddenIn]; done) | decide +kernel
set_option maxRecDepth 65536 in
set_option maxHeartbeats 40000000 in
theorem c_eqSame (l : Launch) (Z : State) (a0 : Array Value) (hw : ∀ d ∈ tables_1, d.before a0 Z = true) (n0 : Nat) (h0 : Heap) (O0 : Old Z n0 h0) (a1 : Addr) :
    Own.Ctr false l (⟨"java/lang/String", "equals", "(Ljava/lang/Object;)Z"⟩ : MethodName) jdk_42_method_66_code 3 (some .boolean) ({ frames := 0, cells := 0, slots := 0, locals := 0 } : Room) #[(.ref a1), (.ref a1)] Z h0 Own.VT [] (fun v h vm => v = some (.int 1) ∧ h = h0) := by
  refine Own.body (plainFor_of_name pn_1) O0 (fun _ _ _ _ q => by cases q) (fun _ _ _ _ q _ => q) ?_
  intro p e s m below meth c T0 hby hml0 hret hnm hV0 K0
  change Own.Wk false p l e ({ frames := 0, cells := 0, slots := 0, locals := 0 } : Room) s m #[(.ref a1), (.ref a1)] below meth c "java/lang/String" Z n0 h0 [] s.vm T0 h0 0 0 at K0
  have hml : c.maxLocals = 3 := hml0
  have S0 : Go p e below (T0.setTop (entryFrame m #[(.ref a1), (.ref a1)] 3)) (T0.setTop (mkF m 0 #[.val (.ref a1), .val (.ref a1), .unset] [])) := fun t k => castTop (by first | rfl | (simp [entryFrame, mkF, argsToLocals, Value.category]; done)) k
  generalize T0.setTop (entryFrame m #[(.ref a1), (.ref a1)] 3) = A0 at S0 ⊢
  have S1 : Go p e below A0 (T0.setTop (mkF m 6 #[.val (.ref a1), .val (.ref a1), .unset] [(.int (1 : Int32))])) := by
    refine S0.trans ?_
    refine (Own.P.aloadN K0.here K0.exec (hb hby d_jdk_42_method_66_code_0) rfl rfl).trans ?_
    refine (Own.P.aloadN K0.here K0.exec (hb hby d_jdk_42_method_66_code_1) rfl rfl).trans ?_
    refine (Own.P.acmpNo K0.here K0.exec (hb hby d_jdk_42_method_66_code_2) rfl rfl (by simp [XT.acmp])).trans ?_
    refine (Own.P.iconst K0.here K0.exec (1 : Int32) (hb hby d_jdk_42_method_66_code_5) rfl).trans ?_
    exact Go.refl _
  exact ⟨s.vm, T0, h0, (some (.int (1 : Int32))), _, _, K0, by decide, by decide, ⟨rfl, rfl⟩, K0.retW S1 hret rfl (Or.inl ⟨rfl, by decide, _, rfl⟩) (hb hby d_jdk_42_method_66_code_6)⟩
theorem d_prog_2_method_17_code_0 : decode prog_2_method_17_code 0 = .ok (.aload_n 0, 1) := by decide +kernel
theorem d_prog_2_method_17_code_1 : decode prog_2_method_17_code 1 = .ok (.dup, 1) := by decide +kernel
theorem d_prog_2_method_17_code_2 : decode prog_2_method_17_code 2 = .ok (.getfield 100, 3) := by decide +kernel
theorem d_prog_2_method_17_code_5 : decode prog_2_method_17_code 5 = .ok (.lconst 1, 1) := by decide +kernel
theorem d_prog_2_method_17_code_6 : decode prog_2_method_17_code 6 = .ok (.ladd, 1) := by decide +kernel
theorem d_prog_2_method_17_code_7 : decode prog_2_method_17_code 7 = .ok (.putfield 100, 3) := by decide +kernel
theorem d_prog_2_method_17_code_10 : decode prog_2_method_17_code 10 = .ok (.aload_n 0, 1) := by decide +kernel
theorem d_prog_2_method_17_code_11 : decode prog_2_method_17_code 11 = .ok (.iconst 0, 1) := by decide +kernel
theorem d_prog_2_method_17_code_12 : decode prog_2_method_17_code 12 = .ok (.putfield 51, 3) := by decide +kernel
theorem d_prog_2_method_17_code_15 : decode prog_2_method_17_code 15 = .ok (.return_, 1) := by decide +kernel
set_option maxRecDepth 65536 in
set_option maxHeartbeats 40000000 in
theorem c_cMis (l : Launch) (Z : State) (a0 : Array Value) (hw : ∀ d ∈ tables_1, d.before a0 Z = true) (n0 : Nat) (h0 : Heap) (O0 : Old Z n0 h0) (a1 : Addr) (vb va vn : Value) (mm vv ss : Int64) (sy : Int32) (ms : Int64) (B : BookAt Z h0 a1 vb va vn mm vv ss sy ms) (g1 : n0 ≤ a1) :
    Own.Ctr false l (⟨"com/example/tidebook/tidebook/book/Book", "countMismatched", "()V"⟩ : MethodName) prog_2_method_17_code 1 none ({ frames := 0, cells := 0, slots := 0, locals := 0 } : Room) #[(.ref a1)] Z h0 Own.VT [a1] (fun v h vm => v = none ∧ BookAt Z h a1 vb va vn (mm + 1) vv ss 0 ms) := by
  refine Own.body (plainFor_of_name pn_0) O0 (fun v h vm q _ => q.1) (fun _ _ _ _ q _ => q) ?_
  intro p e s m below meth c T0 hby hml0 hret hnm hV0 K0
  change Own.Wk false p l e ({ frames := 0, cells := 0, slots := 0, locals := 0 } : Room) s m #[(.ref a1)] below meth c "com/example/tidebook/tidebook/book/Book" Z n0 h0 [] s.vm T0 h0 0 0 at K0
  replace K0 := K0.weaken [a1] (allS g1 all0)
  have hml : c.maxLocals = 1 := hml0
  have S0 : Go p e below (T0.setTop (entryFrame m #[(.ref a1)] 1)) (T0.setTop (mkF m 0 #[.val (.ref a1)] [])) := fun t k => castTop (by first | rfl | (simp [entryFrame, mkF, argsToLocals, Value.category]; done)) k
  generalize T0.setTop (entryFrame m #[(.ref a1)] 1) = A0 at S0 ⊢
  have S1 : Go p e below A0 (T0.setTop (mkF m 2 #[.val (.ref a1)] [(.ref a1), (.ref a1)])) := by
    refine S0.trans ?_
    refine (Own.P.aloadN K0.here K0.exec (hb hby d_prog_2_method_17_code_0) rfl rfl).trans ?_
    refine (Own.P.dup K0.here K0.exec (hb hby d_prog_2_method_17_code_1) rfl).trans ?_
    exact Go.refl _
  obtain ⟨T2, K2, G2⟩ := K0.getF "" (Or.inl (hw _ (List.mem_of_getElem? (i := 69) rfl))) Via.refl B.2.2.2.2.1 (pc := 2) (Ls := #[.val (.ref a1)]) (rest := [(.ref a1)]) (hb hby d_prog_2_method_17_code_2)
  have S2 : Go p e below A0 (T2.setTop (mkF m 5 #[.val (.ref a1)] [(.long mm), (.ref a1)])) := S1.trans G2
  have S3 : Go p e below A0 (T2.setTop (mkF m 7 #[.val (.ref a1)] [(.long (mm + (1 : Int64))), (.ref a1)])) := by
    refine S2.trans ?_
    refine (Own.P.lconst K2.here K2.exec (1 : Int64) (hb hby d_prog_2_method_17_code_5) rfl).trans ?_
    refine (Own.P.ladd K2.here K2.exec (hb hby d_prog_2_method_17_code_6) ).trans ?_
    exact Go.refl _
  obtain ⟨T4, h4, K4, W4, G4⟩ := K2.putF "" (Or.inl (hw _ (List.mem_of_getElem? (i := 69) rfl))) Via.refl B.2.2.2.2.1 B.1 (Or.inl (hw _ (List.mem_of_getElem? (i := 70) rfl))) (hw _ (List.mem_of_getElem? (i := 31) rfl)) (ty := .long) (by decide) (v := (.long (mm + (1 : Int64)))) rfl rfl (Or.inl (List.mem_of_getElem? (i := 0) rfl)) (pc := 7) (Ls := #[.val (.ref a1)]) (rest := []) (hb hby d_prog_2_method_17_code_7)
  have S4 : Go p e below A0 (T4.setTop (mkF m 10 #[.val (.ref a1)] [])) := S3.trans G4
  have B1 := B.set_mm hw W4
  have S5 : Go p e below A0 (T4.setTop (mkF m 12 #[.val (.ref a1)] [(.int (0 : Int32)), (.ref a1)])) := by
    refine S4.trans ?_
    refine (Own.P.aloadN K4.here K4.exec (hb hby d_prog_2_method_17_code_10) rfl rfl).trans ?_
    refine (Own.P.iconst K4.here K4.exec (0 : Int32) (hb hby d_prog_2_method_17_code_11) rfl).trans ?_
    exact Go.refl _
  obtain ⟨T6, h6, K6, W6, G6⟩ := K4.putF "" (Or.inl (hw _ (List.mem_of_getElem? (i := 71) rfl))) Via.refl B1.2.2.2.2.2.2.2.1 B1.1 (Or.inl (hw _ (List.mem_of_getElem? (i := 72) rfl))) (hw _ (List.mem_of_getElem? (i := 31) rfl)) (ty := .boolean) (by decide) (v := (.int (0 : Int32))) rfl rfl (Or.inl (List.mem_of_getElem? (i := 0) rfl)) (pc := 12) (Ls := #[.val (.ref a1)]) (rest := []) (hb hby d_prog_2_method_17_code_12)
  have S6 : Go p e below A0 (T6.setTop (mkF m 15 #[.val (.ref a1)] [])) := S5.trans G6
  have B2 := B1.set_sy hw W6
  exact ⟨s.vm, T6, h6, none, _, _, K6, by decide, by decide, ⟨rfl, B2⟩, K6.retV S6 hret (hb hby d_prog_2_method_17_code_15)⟩
theorem d_prog_2_method_16_code_0 : decode prog_2_method_16_code 0 = .ok (.aload_n 0, 1) := by decide +kernel
theorem d_prog_2_method_16_code_1 : decode prog_2_method_16_code 1 = .ok (.dup, 1) := by decide +kernel
theorem d_prog_2_method_16_code_2 : decode prog_2_method_16_code 2 = .ok (.getfield 97, 3) := by decide +kernel
theorem d_prog_2_method_16_code_5 : decode prog_2_method_16_code 5 = .ok (.lconst 1, 1) := by decide +kernel
theorem d_prog_2_method_16_code_6 : decode prog_2_method_16_code 6 = .ok (.ladd, 1) := by decide +kernel
theorem d_prog_2_method_16_code_7 : decode prog_2_method_16_code 7 = .ok (.putfield 97, 3) := by decide +kernel
theorem d_prog_2_method_16_code_10 : decode prog_2_method_16_code 10 = .ok (.return_, 1) := by decide +kernel
set_option maxRecDepth 65536 in
set_option maxHeartbeats 40000000 in
theorem c_cVer (l : Launch) (Z : State) (a0 : Array Value) (hw : ∀ d ∈ tables_1, d.before a0 Z = true) (n0 : Nat) (h0 : Heap) (O0 : Old Z n0 h0) (a1 : Addr) (vb va vn : Value) (mm vv ss : Int64) (sy : Int32) (ms : Int64) (B : BookAt Z h0 a1 vb va vn mm vv ss sy ms) (g1 : n0 ≤ a1) :
    Own.Ctr false l (⟨"com/example/tidebook/tidebook/book/Book", "countVerified", "()V"⟩ : MethodName) prog_2_method_16_code 1 none ({ frames := 0, cells := 0, slots := 0, locals := 0 } : Room) #[(.ref a1)] Z h0 Own.VT [a1] (fun v h vm => v = none ∧ BookAt Z h a1 vb va vn mm (vv + 1) ss sy ms) := by
  refine Own.body (plainFor_of_name pn_0) O0 (fun v h vm q _ => q.1) (fun _ _ _ _ q _ => q) ?_
  intro p e s m below meth c T0 hby hml0 hret hnm hV0 K0
  change Own.Wk false p l e ({ frames := 0, cells := 0, slots := 0, locals := 0 } : Room) s m #[(.ref a1)] below meth c "com/example/tidebook/tidebook/book/Book" Z n0 h0 [] s.vm T0 h0 0 0 at K0
  replace K0 := K0.weaken [a1] (allS g1 all0)
  have hml : c.maxLocals = 1 := hml0
  have S0 : Go p e below (T0.setTop (entryFrame m #[(.ref a1)] 1)) (T0.setTop (mkF m 0 #[.val (.ref a1)] [])) := fun t k => castTop (by first | rfl | (simp [entryFrame, mkF, argsToLocals, Value.category]; done)) k
  generalize T0.setTop (entryFrame m #[(.ref a1)] 1) = A0 at S0 ⊢
  have S1 : Go p e below A0 (T0.setTop (mkF m 2 #[.val (.ref a1)] [(.ref a1), (.ref a1)])) := by
    refine S0.trans ?_
    refine (Own.P.aloadN K0.here K0.exec (hb hby d_prog_2_method_16_code_0) rfl rfl).trans ?_
    refine (Own.P.dup K0.here K0.exec (hb hby d_prog_2_method_16_code_1) rfl).trans ?_
    exact Go.refl _
  obtain ⟨T2, K2, G2⟩ := K0.getF "" (Or.inl (hw _ (List.mem_of_getElem? (i := 83) rfl))) Via.refl B.2.2.2.2.2.1 (pc := 2) (Ls := #[.val (.ref a1)]) (rest := [(.ref a1)]) (hb hby d_prog_2_method_16_code_2)
  have S2 : Go p e below A0 (T2.setTop (mkF m 5 #[.val (.ref a1)] [(.long vv), (.ref a1)])) := S1.trans G2
  have S3 : Go p e below A0 (T2.setTop (mkF m 7 #[.val (.ref a1)] [(.long (vv + (1 : Int64))), (.ref a1)])) := by
    refine S2.trans ?_
    refine (Own.P.lconst K2.here K2.exec (1 : Int64) (hb hby d_prog_2_method_16_code_5) rfl).trans ?_
    refine (Own.P.ladd K2.here K2.exec (hb hby d_prog_2_method_16_code_6) ).trans ?_
    exact Go.refl _
  obtain ⟨T4, h4, K4, W4, G4⟩ := K2.putF "" (Or.inl (hw _ (List.mem_of_getElem? (i := 83) rfl))) Via.refl B.2.2.2.2.2.1 B.1 (Or.inl (hw _ (List.mem_of_getElem? (i := 84) rfl))) (hw _ (List.mem_of_getElem? (i := 31) rfl)) (ty := .long) (by decide) (v := (.long (vv + (1 : Int64)))) rfl rfl (Or.inl (List.mem_of_getElem? (i := 0) rfl)) (pc := 7) (Ls := #[.val (.ref a1)]) (rest := []) (hb hby d_prog_2_method_16_code_7)
  have S4 : Go p e below A0 (T4.setTop (mkF m 10 #[.val (.ref a1)] [])) := S3.trans G4
  have B1 := B.set_vv hw W4
  exact ⟨s.vm, T4, h4, none, _, _, K4, by decide, by decide, ⟨rfl, B1⟩, K4.retV S4 hret (hb hby d_prog_2_method_16_code_10)⟩
theorem d_prog_2_method_19_code_0 : decode prog_2_method_19_code 0 = .ok (.aload_n 0, 1) := by decide +kernel
theorem d_prog_2_method_19_code_1 : decode prog_2_method_19_code 1 = .ok (.dup, 1) := by decide +kernel
theorem d_prog_2_method_19_code_2 : decode prog_2_method_19_code 2 = .ok (.getfield 103, 3) := by decide +kernel
theorem d_prog_2_method_19_code_5 : decode prog_2_method_19_code 5 = .ok (.lconst 1, 1) := by decide +kernel
theorem d_prog_2_method_19_code_6 : decode prog_2_method_19_code 6 = .ok (.ladd, 1) := by decide +kernel
theorem d_prog_2_method_19_code_7 : decode prog_2_method_19_code 7 = .ok (.putfield 103, 3) := by decide +kernel
theorem d_prog_2_method_19_code_10 : decode prog_2_method_19_code 10 = .ok (.return_, 1) := by decide +kernel
set_option maxRecDepth 65536 in
set_option maxHeartbeats 40000000 in
theorem c_cSkp (l : Launch) (Z : State) (a0 : Array Value) (hw : ∀ d ∈ tables_1, d.before a0 Z = true) (n0 : Nat) (h0 : Heap) (O0 : Old Z n0 h0) (a1 : Addr) (vb va vn : Value) (mm vv ss : Int64) (sy : Int32) (ms : Int64) (B : BookAt Z h0 a1 vb va vn mm vv ss sy ms) (g1 : n0 ≤ a1) :
    Own.Ctr false l (⟨"com/example/tidebook/tidebook/book/Book", "countSkipped", "()V"⟩ : MethodName) prog_2_method_19_code 1 none ({ frames := 0, cells := 0, slots := 0, locals := 0 } : Room) #[(.ref a1)] Z h0 Own.VT [a1] (fun v h vm => v = none ∧ BookAt Z h a1 vb va vn mm vv (ss + 1) sy ms) := by
  refine Own.body (plainFor_of_name pn_0) O0 (fun v h vm q _ => q.1) (fun _ _ _ _ q _ => q) ?_
  intro p e s m below meth c T0 hby hml0 hret hnm hV0 K0
  change Own.Wk false p l e ({ frames := 0, cells := 0, slots := 0, locals := 0 } : Room) s m #[(.ref a1)] below meth c "com/example/tidebook/tidebook/book/Book" Z n0 h0 [] s.vm T0 h0 0 0 at K0
  replace K0 := K0.weaken [a1] (allS g1 all0)
  have hml : c.maxLocals = 1 := hml0
  have S0 : Go p e below (T0.setTop (entryFrame m #[(.ref a1)] 1)) (T0.setTop (mkF m 0 #[.val (.ref a1)] [])) := fun t k => castTop (by first | rfl | (simp [entryFrame, mkF, argsToLocals, Value.category]; done)) k
  generalize T0.setTop (entryFrame m #[(.ref a1)] 1) = A0 at S0 ⊢
  have S1 : Go p e below A0 (T0.setTop (mkF m 2 #[.val (.ref a1)] [(.ref a1), (.ref a1)])) := by
    refine S0.trans ?_
    refine (Own.P.aloadN K0.here K0.exec (hb hby d_prog_2_method_19_code_0) rfl rfl).trans ?_
    refine (Own.P.dup K0.here K0.exec (hb hby d_prog_2_method_19_code_1) rfl).trans ?_
    exact Go.refl _
  obtain ⟨T2, K2, G2⟩ := K0.getF "" (Or.inl (hw _ (List.mem_of_getElem? (i := 95) rfl))) Via.refl B.2.2.2.2.2.2.1 (pc := 2) (Ls := #[.val (.ref a1)]) (rest := [(.ref a1)]) (hb hby d_prog_2_method_19_code_2)
  have S2 : Go p e below A0 (T2.setTop (mkF m 5 #[.val (.ref a1)] [(.long ss), (.ref a1)])) := S1.trans G2
  have S3 : Go p e below A0 (T2.setTop (mkF m 7 #[.val (.ref a1)] [(.long (ss + (1 : Int64))), (.ref a1)])) := by
    refine S2.trans ?_
    refine (Own.P.lconst K2.here K2.exec (1 : Int64) (hb hby d_prog_2_method_19_code_5) rfl).trans ?_
    refine (Own.P.ladd K2.here K2.exec (hb hby d_prog_2_method_19_code_6) ).trans ?_
    exact Go.refl _
  obtain ⟨T4, h4, K4, W4, G4⟩ := K2.putF "" (Or.inl (hw _ (List.mem_of_getElem? (i := 95) rfl))) Via.refl B.2.2.2.2.2.2.1 B.1 (Or.inl (hw _ (List.mem_of_getElem? (i := 96) rfl))) (hw _ (List.mem_of_getElem? (i := 31) rfl)) (ty := .long) (by decide) (v := (.long (ss + (1 : Int64)))) rfl rfl (Or.inl (List.mem_of_getElem? (i := 0) rfl)) (pc := 7) (Ls := #[.val (.ref a1)]) (rest := []) (hb hby d_prog_2_method_19_code_7)
  have S4 : Go p e below A0 (T4.setTop (mkF m 10 #[.val (.ref a1)] [])) := S3.trans G4
  have B1 := B.set_ss hw W4
  exact ⟨s.vm, T4, h4, none, _, _, K4, by decide, by decide, ⟨rfl, B1⟩, K4.retV S4 hret (hb hby d_prog_2_method_19_code_10)⟩
theorem d_jdk_22_method_1_code_0 : decode jdk_22_method_1_code 0 = .ok (.aload_n 0, 1) := by decide +kernel
theorem d_jdk_22_method_1_code_1 : decode jdk_22_method_1_code 1 = .ok (.invokespecial 1, 3) := by decide +kernel
theorem d_jdk_22_method_1_code_4 : decode jdk_22_method_1_code 4 = .ok (.return_, 1) := by decide +kernel
theorem pn_2 : plainName "java/util/AbstractCollection" = true := by first | (simp [plainName, overriddenIn]; done) | decide +kernel
set_option maxRecDepth 65536 in
set_option maxHeartbeats 40000000 in
theorem c_abc (l : Launch) (Z : State) (a0 : Array Value) (hw : ∀ d ∈ tables_1, d.before a0 Z = true) (n0 : Nat) (h0 : Heap) (O0 : Old Z n0 h0) (a1 : Addr) :
    Own.Ctr false l (⟨"java/util/AbstractCollection", "<init>", "()V"⟩ : MethodName) jdk_22_method_1_code 1 none ({ frames := 1, cells := 0, slots := 0, locals := 12 } : Room) #[(.ref a1)] Z h0 Own.VT [] (fun v h vm => v = none ∧ h = h0) := by
  refine Own.body (plainFor_of_name pn_2) O0 (fun v h vm q _ => q.1) (fun _ _ _ _ q _ => q) ?_
  intro p e s m below meth c T0 hby hml0 hret hnm hV0 K0
  change Own.Wk false p l e ({ frames := 1, cells := 0, slots := 0, locals := 12 } : Room) s m #[(.ref a1)] below meth c "java/util/AbstractCollection" Z n0 h0 [] s.vm T0 h0 0 0 at K0
  have hml : c.maxLocals = 1 := hml0
  have S0 : Go p e below (T0.setTop (entryFrame m #[(.ref a1)] 1)) (T0.setTop (mkF m 0 #[.val (.ref a1)] [])) := fun t k => castTop (by first | rfl | (simp [entryFrame, mkF, argsToLocals, Value.category]; done)) k
  generalize T0.setTop (entryFrame m #[(.ref a1)] 1) = A0 at S0 ⊢
  have S1 : Go p e below A0 (T0.setTop (mkF m 1 #[.val (.ref a1)] [(.ref a1)])) := by
    refine S0.trans ?_
    refine (Own.P.aloadN K0.here K0.exec (hb hby d_jdk_22_method_1_code_0) rfl rfl).trans ?_
    exact Go.refl _
  obtain ⟨T2, K2, G2⟩ := K0.initO (hw _ (List.mem_of_getElem? (i := 137) rfl)) (hw _ (List.mem_of_getElem? (i := 12) rfl)) (hw _ (List.mem_of_getElem? (i := 13) rfl)) (pc := 1) (Ls := #[.val (.ref a1)]) (rest := []) (by rw [hml]; rfl) (hb hby d_jdk_22_method_1_code_1) (by decide) (W := 0) (Nat.le_of_eq rfl) (by decide)
  have S2 : Go p e below A0 (T2.setTop (mkF m 4 #[.val (.ref a1)] [])) := S1.trans G2
  exact ⟨s.vm, T2, h0, none, _, _, K2, by decide, by decide, ⟨rfl, rfl⟩, K2.retV S2 hret (hb hby d_jdk_22_method_1_code_4)⟩
def AlAt (Z : State) (h : Heap) (a : Addr) (mc : Int32) (ve : Value) (sz : Int32) : Prop := Exa Z h a "java/util/ArrayList" ∧ Fld Z h a "java/util/AbstractList" "modCount" "I" (.int mc) ∧ Fld Z h a "java/util/ArrayList" "elementData" "[Ljava/lang/Object;" (ve) ∧ Fld Z h a "java/util/ArrayList" "size" "I" (.int sz)
theorem AlAt.keep {Z : State} {h h' : Heap} {a : Addr} {ws : List Addr} {mc : Int32} {ve : Value} {sz : Int32} (F : AlAt Z h a mc ve sz) (K : Keep h h' ws) (q : a ∉ ws) : AlAt Z h' a mc ve sz := ⟨F.1.keep K, (F.2.1).keep K q, (F.2.2.1).keep K q, (F.2.2.2).keep K q⟩
theorem AlAt.ext {Z : State} {h h' : Heap} {a : Addr} {mc : Int32} {ve : Value} {sz : Int32} (F : AlAt Z h a mc ve sz) (E : Ext h h') : AlAt Z h' a mc ve sz := ⟨F.1.ext E, (F.2.1).ext E, (F.2.2.1).ext E, (F.2.2.2).ext E⟩
theorem AlAt.wrO {Z : State} {h h' : Heap} {a b : Addr} {sl : Nat} {w : Value} {mc : Int32} {ve : Value} {sz : Int32} (F : AlAt Z h a mc ve sz) (W : Wr h h' b sl w) (q : a ≠ b) : AlAt Z h' a mc ve sz := ⟨F.1.wr W, (F.2.1).other W (Or.inl q), (F.2.2.1).other W (Or.inl q), (F.2.2.2).other W (Or.inl q)⟩
theorem AlAt.set_mc {Z : State} {a0 : Array Value} (hw : ∀ d ∈ tables_1, d.before a0 Z = true) {h h' : Heap} {a : Addr} {mc : Int32} {ve : Value} {sz : Int32} {x' : Int32} (F : AlAt Z h a mc ve sz) (W : Wr h h' a (RoadKit.slotOf Z "java/util/AbstractList" "modCount" "I") (.int x')) : AlAt Z h' a x' ve sz := ⟨F.1.wr W, (F.2.1).same W, (F.2.2.1).other W (Or.inr (slot_ne (C := "java/util/ArrayList") (Or.inl (hw _ (List.mem_of_getElem? (i := 142) rfl))) (Or.inl (hw _ (List.mem_of_getElem? (i := 139) rfl))) (by decide) (t := (.array (.object "java/lang/Object"))) (t' := .int) (by decide) (by decide))), (F.2.2.2).other W (Or.inr (slot_ne (C := "java/util/ArrayList") (Or.inl (hw _ (List.mem_of_getElem? (i := 202) rfl))) (Or.inl (hw _ (List.mem_of_getElem? (i := 139) rfl))) (by decide) (t := .int) (t' := .int) (by decide) (by decide)))⟩
theorem AlAt.set_ve {Z : State} {a0 : Array Value} (hw : ∀ d ∈ tables_1, d.before a0 Z = true) {h h' : Heap} {a : Addr} {mc : Int32} {ve : Value} {sz : Int32} {x' : Value} (F : AlAt Z h a mc ve sz) (W : Wr h h' a (RoadKit.slotOf Z "java/util/ArrayList" "elementData" "[Ljava/lang/Object;") (x')) : AlAt Z h' a mc x' sz := ⟨F.1.wr W, (F.2.1).other W (Or.inr (slot_ne (C := "java/util/ArrayList") (Or.inl (hw _ (List.mem_of_getElem? (i := 139) rfl))) (Or.inl (hw _ (List.mem_of_getElem? (i := 142) rfl))) (by decide) (t := .int) (t' := (.array (.object "java/lang/Object"))) (by decide) (by decide))), (F.2.2.1).same W, (F.2.2.2).other W (Or.inr (slot_ne (C := "java/util/ArrayList") (Or.inl (hw _ (List.mem_of_getElem? (i := 202) rfl))) (Or.inl (hw _ (List.mem_of_getElem? (i := 142) rfl))) (by decide) (t := .int) (t' := (.array (.object "java/lang/Object"))) (by decide) (by decide)))⟩
theorem AlAt.set_sz {Z : State} {a0 : Array Value} (hw : ∀ d ∈ tables_1, d.before a0 Z = true) {h h' : Heap} {a : Addr} {mc : Int32} {ve : Value} {sz : Int32} {x' : Int32} (F : AlAt Z h a mc ve sz) (W : Wr h h' a (RoadKit.slotOf Z "java/util/ArrayList" "size" "I") (.int x')) : AlAt Z h' a mc ve x' := ⟨F.1.wr W, (F.2.1).other W (Or.inr (slot_ne (C := "java/util/ArrayList") (Or.inl (hw _ (List.mem_of_getElem? (i := 139) rfl))) (Or.inl (hw _ (List.mem_of_getElem? (i := 202) rfl))) (by decide) (t := .int) (t' := .int) (by decide) (by decide))), (F.2.2.1).other W (Or.inr (slot_ne (C := "java/util/ArrayList") (Or.inl (hw _ (List.mem_of_getElem? (i := 142) rfl))) (Or.inl (hw _ (List.mem_of_getElem? (i := 202) rfl))) (by decide) (t := (.array (.object "java/lang/Object"))) (t' := .int) (by decide) (by decide))), (F.2.2.2).same W⟩
theorem AlAt.new {Z : State} {a0 : Array Value} (hw : ∀ d ∈ tables_1, d.before a0 Z = true) {h : Heap} {a : Addr} (X : Exa Z h a "java/util/ArrayList") (D : ∀ {O nm d : String} {ty : FieldType}, Laid Z a0 "java/util/ArrayList" O nm d → parseFieldDescriptor d = some ty → Fld Z h a O nm d (defaultValue ty)) : Exa Z h a "java/util/ArrayList" ∧ Fld Z h a "java/util/AbstractList" "modCount" "I" (.int 0) ∧ Fld Z h a "java/util/ArrayList" "elementData" "[Ljava/lang/Object;" (.null) ∧ Fld Z h a "java/util/ArrayList" "size" "I" (.int 0) := ⟨X, D (Or.inl (hw _ (List.mem_of_getElem? (i := 139) rfl))) (ty := .int) (by decide), D (Or.inl (hw _ (List.mem_of_getElem? (i := 142) rfl))) (ty := (.array (.object "java/lang/Object"))) (by decide), D (Or.inl (hw _ (List.mem_of_getElem? (i := 202) rfl))) (ty := .int) (by decide)⟩
theorem d_jdk_39_method_1_code_0 : decode jdk_39_method_1_code 0 = .ok (.aload_n 0, 1) := by decide +kernel
theorem pd_0 : parseMethodDescriptor "()V" = some ⟨[], none⟩ := by decide +kernel
theorem d_jdk_39_method_1_code_1 : decode jdk_39_method_1_code 1 = .ok (.invokespecial 1, 3) := by decide +kernel
theorem d_jdk_39_method_1_code_4 : decode jdk_39_method_1_code 4 = .ok (.aload_n 0, 1) := by decide +kernel
theorem d_jdk_39_method_1_code_5 : decode jdk_39_method_1_code 5 = .ok (.iconst 0, 1) := by decide +kernel
theorem d_jdk_39_method_1_code_6 : decode jdk_39_method_1_code 6 = .ok (.putfield 7, 3) := by decide +kernel
theorem d_jdk_39_method_1_code_9 : decode jdk_39_method_1_code 9 = .ok (.return_, 1) := by decide +kernel
theorem pn_3 : plainName "java/util/AbstractList" = true := by first | (simp [plainName, overriddenIn]; done) | decide +kernel
set_option maxRecDepth 65536 in
set_option maxHeartbeats 40000000 in
theorem c_abl (l : Launch) (Z : State) (a0 : Array Value) (hw : ∀ d ∈ tables_1, d.before a0 Z = true) (n0 : Nat) (h0 : Heap) (O0 : Old Z n0 h0) (a1 : Addr) (ve : Value) (sz : Int32) (B : AlAt Z h0 a1 0 ve sz) (g1 : n0 ≤ a1) :
    Own.Ctr false l (⟨"java/util/AbstractList", "<init>", "()V"⟩ : MethodName) jdk_39_method_1_code 1 none ({ frames := 2, cells := 0, slots := 0, locals := 24 } : Room) #[(.ref a1)] Z h0 Own.VT [a1] (fun v h vm => v = none ∧ AlAt Z h a1 0 ve sz) := by
  refine Own.body (plainFor_of_name pn_3) O0 (fun v h vm q _ => q.1) (fun _ _ _ _ q _ => q) ?_
  intro p e s m below meth c T0 hby hml0 hret hnm hV0 K0
  change Own.Wk false p l e ({ frames := 2, cells := 0, slots := 0, locals := 24 } : Room) s m #[(.ref a1)] below meth c "java/util/AbstractList" Z n0 h0 [] s.vm T0 h0 0 0 at K0
  replace K0 := K0.weaken [a1] (allS g1 all0)
  have hml : c.maxLocals = 1 := hml0
  have S0 : Go p e below (T0.setTop (entryFrame m #[(.ref a1)] 1)) (T0.setTop (mkF m 0 #[.val (.ref a1)] [])) := fun t k => castTop (by first | rfl | (simp [entryFrame, mkF, argsToLocals, Value.category]; done)) k
  generalize T0.setTop (entryFrame m #[(.ref a1)] 1) = A0 at S0 ⊢
  have S1 : Go p e below A0 (T0.setTop (mkF m 1 #[.val (.ref a1)] [(.ref a1)])) := by
    refine S0.trans ?_
    refine (Own.P.aloadN K0.here K0.exec (hb hby d_jdk_39_method_1_code_0) rfl rfl).trans ?_
    exact Go.refl _
  obtain ⟨v2, vm2, vq2, T2, h2, K2, KK2, ev2, Q2, G2⟩ := K0.callI (y := (⟨"java/util/AbstractCollection", "<init>", "()V"⟩ : MethodName)) rfl (hw _ (List.mem_of_getElem? (i := 131) rfl)) (hw _ (List.mem_of_getElem? (i := 132) rfl)) (hw _ (List.mem_of_getElem? (i := 136) rfl)) (by decide) (W := 0) (a := a1) (argsL := []) (rest := []) ((c_abc l Z a0 hw n0 h0 (K0.old) a1).pay Own.VT.cl (hw _ (List.mem_of_getElem? (i := 136) rfl)) (hw _ (List.mem_of_getElem? (i := 135) rfl)) (by decide) (by decide)) trivial (pc := 1) (Ls := #[.val (.ref a1)]) (st := [(.ref a1)]) (by rw [hml]; rfl) (lenOf pd_0 rfl) rfl (Nat.le_of_eq rfl) (hb hby d_jdk_39_method_1_code_1) (by decide) (by decide) all0
  obtain ⟨rfl, e2⟩ := Q2
  have S2 : Go p e below A0 (T2.setTop (mkF m 4 #[.val (.ref a1)] [])) := S1.trans G2
  subst e2
  have S3 : Go p e below A0 (T2.setTop (mkF m 6 #[.val (.ref a1)] [(.int (0 : Int32)), (.ref a1)])) := by
    refine S2.trans ?_
    refine (Own.P.aloadN K2.here K2.exec (hb hby d_jdk_39_method_1_code_4) rfl rfl).trans ?_
    refine (Own.P.iconst K2.here K2.exec (0 : Int32) (hb hby d_jdk_39_method_1_code_5) rfl).trans ?_
    exact Go.refl _
  obtain ⟨T4, h4, K4, W4, G4⟩ := K2.putF "" (Or.inl (hw _ (List.mem_of_getElem? (i := 138) rfl))) Via.refl B.2.1 B.1 (Or.inl (hw _ (List.mem_of_getElem? (i := 139) rfl))) (hw _ (List.mem_of_getElem? (i := 120) rfl)) (ty := .int) (by decide) (v := (.int (0 : Int32))) rfl rfl (Or.inl (List.mem_of_getElem? (i := 0) rfl)) (pc := 6) (Ls := #[.val (.ref a1)]) (rest := []) (hb hby d_jdk_39_method_1_code_6)
  have S4 : Go p e below A0 (T4.setTop (mkF m 9 #[.val (.ref a1)] [])) := S3.trans G4
  exact ⟨vm2, T4, h4, none, _, _, K4, by decide, by decide, ⟨rfl, B.set_mc hw W4⟩, K4.retV S4 hret (hb hby d_jdk_39_method_1_code_9)⟩
theorem d_jdk_38_method_2_code_0 : decode jdk_38_method_2_code 0 = .ok (.aload_n 0, 1) := by decide +kernel
theorem d_jdk_38_method_2_code_1 : decode jdk_38_method_2_code 1 = .ok (.invokespecial 1, 3) := by decide +kernel
theorem d_jdk_38_method_2_code_4 : decode jdk_38_method_2_code 4 = .ok (.aload_n 0, 1) := by decide +kernel
theorem d_jdk_38_method_2_code_5 : decode jdk_38_method_2_code 5 = .ok (.getstatic 39, 3) := by decide +kernel
theorem d_jdk_38_method_2_code_8 : decode jdk_38_method_2_code 8 = .ok (.putfield 9, 3) := by decide +kernel
theorem d_jdk_38_method_2_code_11 : decode jdk_38_method_2_code 11 = .ok (.return_, 1) := by decide +kernel
theorem pn_4 : plainName "java/util/ArrayList" = true := by first | (simp [plainName, overriddenIn]; done) | decide +kernel
set_option maxRecDepth 65536 in
set_option maxHeartbeats 40000000 in
theorem c_ali (l : Launch) (Z : State) (a0 : Array Value) (hw : ∀ d ∈ tables_1, d.before a0 Z = true) (n0 : Nat) (h0 : Heap) (O0 : Old Z n0 h0) (a1 : Addr) (vd : Value) (rd : vd.isRef = true) (fd : fits (.array (.object "java/lang/Object")) vd = true) (nd : narrow (.array (.object "java/lang/Object")) vd = vd) (SD : Sta Z Z.heap "java/util/ArrayList" "DEFAULTCAPACITY_EMPTY_ELEMENTDATA" "[Ljava/lang/Object;" vd) (ve : Value) (sz : Int32) (B : AlAt Z h0 a1 0 ve sz) (g1 : n0 ≤ a1) :
    Own.Ctr false l (⟨"java/util/ArrayList", "<init>", "()V"⟩ : MethodName) jdk_38_method_2_code 1 none ({ frames := 3, cells := 0, slots := 0, locals := 36 } : Room) #[(.ref a1)] Z h0 Own.VT [a1] (fun v h vm => v = none ∧ AlAt Z h a1 0 vd sz) := by
  refine Own.body (plainFor_of_name pn_4) O0 (fun v h vm q _ => q.1) (fun _ _ _ _ q _ => q) ?_
  intro p e s m below meth c T0 hby hml0 hret hnm hV0 K0
  change Own.Wk false p l e ({ frames := 3, cells := 0, slots := 0, locals := 36 } : Room) s m #[(.ref a1)] below meth c "java/util/ArrayList" Z n0 h0 [] s.vm T0 h0 0 0 at K0
  replace K0 := K0.weaken [a1] (allS g1 all0)
  have hml : c.maxLocals = 1 := hml0
  have S0 : Go p e below (T0.setTop (entryFrame m #[(.ref a1)] 1)) (T0.setTop (mkF m 0 #[.val (.ref a1)] [])) := fun t k => castTop (by first | rfl | (simp [entryFrame, mkF, argsToLocals, Value.category]; done)) k
  generalize T0.setTop (entryFrame m #[(.ref a1)] 1) = A0 at S0 ⊢
  have S1 : Go p e below A0 (T0.setTop (mkF m 1 #[.val (.ref a1)] [(.ref a1)])) := by
    refine S0.trans ?_
    refine (Own.P.aloadN K0.here K0.exec (hb hby d_jdk_38_method_2_code_0) rfl rfl).trans ?_
    exact Go.refl _
  obtain ⟨v2, vm2, vq2, T2, h2, K2, KK2, ev2, Q2, G2⟩ := K0.callI (y := (⟨"java/util/AbstractList", "<init>", "()V"⟩ : MethodName)) rfl (hw _ (List.mem_of_getElem? (i := 125) rfl)) (hw _ (List.mem_of_getElem? (i := 126) rfl)) (hw _ (List.mem_of_getElem? (i := 130) rfl)) (by decide) (W := 0) (a := a1) (argsL := []) (rest := []) ((c_abl l Z a0 hw n0 h0 (K0.old) a1 ve sz B g1).pay Own.VT.cl (hw _ (List.mem_of_getElem? (i := 130) rfl)) (hw _ (List.mem_of_getElem? (i := 129) rfl)) (by decide) (by decide)) trivial (pc := 1) (Ls := #[.val (.ref a1)]) (st := [(.ref a1)]) (by rw [hml]; rfl) (lenOf pd_0 rfl) rfl (Nat.le_of_eq rfl) (hb hby d_jdk_38_method_2_code_1) (by decide) (by decide) (allS (Or.inl (List.mem_of_getElem? (i := 0) rfl)) all0)
  obtain ⟨rfl, B1⟩ := Q2
  have S2 : Go p e below A0 (T2.setTop (mkF m 4 #[.val (.ref a1)] [])) := S1.trans G2
  have S3 : Go p e below A0 (T2.setTop (mkF m 5 #[.val (.ref a1)] [(.ref a1)])) := by
    refine S2.trans ?_
    refine (Own.P.aloadN K2.here K2.exec (hb hby d_jdk_38_method_2_code_4) rfl rfl).trans ?_
    exact Go.refl _
  obtain ⟨T4, K4, G4⟩ := K2.getS "" (Or.inl (hw _ (List.mem_of_getElem? (i := 140) rfl))) Via.refl (SD.ext K2.ext) (pc := 5) (Ls := #[.val (.ref a1)]) (rest := [(.ref a1)]) (hb hby d_jdk_38_method_2_code_5)
  have S4 : Go p e below A0 (T4.setTop (mkF m 8 #[.val (.ref a1)] [vd, (.ref a1)])) := S3.trans G4
  obtain ⟨T5, h5, K5, W5, G5⟩ := K4.putF "" (Or.inl (hw _ (List.mem_of_getElem? (i := 141) rfl))) Via.refl B1.2.2.1 B1.1 (Or.inl (hw _ (List.mem_of_getElem? (i := 142) rfl))) (hw _ (List.mem_of_getElem? (i := 120) rfl)) (ty := (.array (.object "java/lang/Object"))) (by decide) (v := vd) nd fd (Or.inl (List.mem_of_getElem? (i := 0) rfl)) (pc := 8) (Ls := #[.val (.ref a1)]) (rest := []) (hb hby d_jdk_38_method_2_code_8)
  have S5 : Go p e below A0 (T5.setTop (mkF m 11 #[.val (.ref a1)] [])) := S4.trans G5
  exact ⟨vm2, T5, h5, none, _, _, K5, by decide, by decide, ⟨rfl, B1.set_ve hw W5⟩, K5.retV S5 hret (hb hby d_jdk_38_method_2_code_11)⟩
def SideIn (Z : State) (h : Heap) (a lo : Nat) (hi : Nat) (n0 : Nat) : Prop := ∃ (bl sz b0 : Nat) (kb ks k0 : ClassId) (de : Int32), SideAt Z h a (.ref bl) (.ref sz) 1 de 0 ∧ Arv Z h bl kb (.array (.object "com/example/tidebook/tidebook/book/Level")) 4 [.ref b0, .null, .null, .null] .null ∧ Arv Z h sz ks .int 4 [.int 0, .int 0, .int 0, .int 0] (.int 0) ∧ Arv Z h b0 k0 (.object "com/example/tidebook/tidebook/book/Level") 256 [] .null ∧ lo ≤ a ∧ a < hi ∧ lo ≤ bl ∧ bl < hi ∧ lo ≤ sz ∧ sz < hi ∧ lo ≤ b0 ∧ b0 < hi ∧ n0 ≤ lo ∧ a < sz
theorem d_prog_9_method_1_code_0 : decode prog_9_method_1_code 0 = .ok (.aload_n 0, 1) := by decide +kernel
theorem d_prog_9_method_1_code_1 : decode prog_9_method_1_code 1 = .ok (.invokespecial 1, 3) := by decide +kernel
theorem d_prog_9_method_1_code_4 : decode prog_9_method_1_code 4 = .ok (.aload_n 0, 1) := by decide +kernel
theorem d_prog_9_method_1_code_5 : decode prog_9_method_1_code 5 = .ok (.iconst 4, 1) := by decide +kernel
theorem d_prog_9_method_1_code_6 : decode prog_9_method_1_code 6 = .ok (.anewarray 9, 3) := by decide +kernel
theorem d_prog_9_method_1_code_9 : decode prog_9_method_1_code 9 = .ok (.putfield 11, 3) := by decide +kernel
theorem d_prog_9_method_1_code_12 : decode prog_9_method_1_code 12 = .ok (.aload_n 0, 1) := by decide +kernel
theorem d_prog_9_method_1_code_13 : decode prog_9_method_1_code 13 = .ok (.iconst 4, 1) := by decide +kernel
theorem d_prog_9_method_1_code_14 : decode prog_9_method_1_code 14 = .ok (.newarray .int, 2) := by decide +kernel
theorem d_prog_9_method_1_code_16 : decode prog_9_method_1_code 16 = .ok (.putfield 15, 3) := by decide +kernel
theorem d_prog_9_method_1_code_19 : decode prog_9_method_1_code 19 = .ok (.aload_n 0, 1) := by decide +kernel
theorem d_prog_9_method_1_code_20 : decode prog_9_method_1_code 20 = .ok (.iconst 1, 1) := by decide +kernel
theorem d_prog_9_method_1_code_21 : decode prog_9_method_1_code 21 = .ok (.putfield 19, 3) := by decide +kernel
theorem d_prog_9_method_1_code_24 : decode prog_9_method_1_code 24 = .ok (.aload_n 0, 1) := by decide +kernel
theorem d_prog_9_method_1_code_25 : decode prog_9_method_1_code 25 = .ok (.iload_n 1, 1) := by decide +kernel
theorem d_prog_9_method_1_code_26 : decode prog_9_method_1_code 26 = .ok (.putfield 23, 3) := by decide +kernel
theorem d_prog_9_method_1_code_29 : decode prog_9_method_1_code 29 = .ok (.aload_n 0, 1) := by decide +kernel
theorem d_prog_9_method_1_code_30 : decode prog_9_method_1_code 30 = .ok (.getfield 11, 3) := by decide +kernel
theorem d_prog_9_method_1_code_33 : decode prog_9_method_1_code 33 = .ok (.iconst 0, 1) := by decide +kernel
theorem d_prog_9_method_1_code_34 : decode prog_9_method_1_code 34 = .ok (.sipush 256, 3) := by decide +kernel
theorem d_prog_9_method_1_code_37 : decode prog_9_method_1_code 37 = .ok (.anewarray 27, 3) := by decide +kernel
theorem d_prog_9_method_1_code_40 : decode prog_9_method_1_code 40 = .ok (.aastore, 1) := by decide +kernel
theorem d_prog_9_method_1_code_41 : decode prog_9_method_1_code 41 = .ok (.return_, 1) := by decide +kernel
theorem pn_5 : plainName "com/example/tidebook/tidebook/book/BookSide" = true := by first | (simp [plainName, overriddenIn]; done) | decide +kernel
set_option maxRecDepth 65536 in
set_option maxHeartbeats 40000000 in
theorem c_side (l : Launch) (Z : State) (a0 : Array Value) (hw : ∀ d ∈ tables_1, d.before a0 Z = true) (n0 : Nat) (h0 : Heap) (O0 : Old Z n0 h0) (a1 : Addr) (z : Int32) (hz : narrow .boolean (.int z) = .int z) (fz : fits .boolean (.int z) = true) (B : SideAt Z h0 a1 .null .null 0 0 0) (g1 : n0 ≤ a1) :
    Own.Ctr false l (⟨"com/example/tidebook/tidebook/book/BookSide", "<init>", "(Z)V"⟩ : MethodName) prog_9_method_1_code 2 none ({ frames := 1, cells := 3, slots := 264, locals := 12 } : Room) #[(.ref a1), (.int z)] Z h0 Own.VT [a1] (fun v h vm => v = none ∧ SideIn Z h a1 a1 h.size n0) := by
  refine Own.body (plainFor_of_name pn_5) O0 (fun v h vm q _ => q.1) (fun _ _ _ _ q _ => q) ?_
  intro p e s m below meth c T0 hby hml0 hret hnm hV0 K0
  change Own.Wk false p l e ({ frames := 1, cells := 3, slots := 264, locals := 12 } : Room) s m #[(.ref a1), (.int z)] below meth c "com/example/tidebook/tidebook/book/BookSide" Z n0 h0 [] s.vm T0 h0 0 0 at K0
  replace K0 := K0.weaken [a1] (allS g1 all0)
  have hml : c.maxLocals = 2 := hml0
  have S0 : Go p e below (T0.setTop (entryFrame m #[(.ref a1), (.int z)] 2)) (T0.setTop (mkF m 0 #[.val (.ref a1), .val (.int z)] [])) := fun t k => castTop (by first | rfl | (simp [entryFrame, mkF, argsToLocals, Value.category]; done)) k
  generalize T0.setTop (entryFrame m #[(.ref a1), (.int z)] 2) = A0 at S0 ⊢
  have S1 : Go p e below A0 (T0.setTop (mkF m 1 #[.val (.ref a1), .val (.int z)] [(.ref a1)])) := by
    refine S0.trans ?_
    refine (Own.P.aloadN K0.here K0.exec (hb hby d_prog_9_method_1_code_0) rfl rfl).trans ?_
    exact Go.refl _
  obtain ⟨T2, K2, G2⟩ := K0.initO (hw _ (List.mem_of_getElem? (i := 43) rfl)) (hw _ (List.mem_of_getElem? (i := 12) rfl)) (hw _ (List.mem_of_getElem? (i := 13) rfl)) (pc := 1) (Ls := #[.val (.ref a1), .val (.int z)]) (rest := []) (by rw [hml]; rfl) (hb hby d_prog_9_method_1_code_1) (by decide) (W := 0) (Nat.le_of_eq rfl) (by decide)
  have S2 : Go p e below A0 (T2.setTop (mkF m 4 #[.val (.ref a1), .val (.int z)] [])) := S1.trans G2
  have S3 : Go p e below A0 (T2.setTop (mkF m 6 #[.val (.ref a1), .val (.int z)] [(.int (4 : Int32)), (.ref a1)])) := by
    refine S2.trans ?_
    refine (Own.P.aloadN K2.here K2.exec (hb hby d_prog_9_method_1_code_4) rfl rfl).trans ?_
    refine (Own.P.iconst K2.here K2.exec (4 : Int32) (hb hby d_prog_9_method_1_code_5) rfl).trans ?_
    exact Go.refl _
  obtain ⟨T4, h4, bl, cA_bl, K4, E4, g_bl, l_bl, ne_bl, V_bl, X_bl, O_bl, G4⟩ := K2.newRA (C := "[Lcom/example/tidebook/tidebook/book/Level;") (ty := (.object "com/example/tidebook/tidebook/book/Level")) rfl (hw _ (List.mem_of_getElem? (i := 44) rfl)) (hw _ (List.mem_of_getElem? (i := 45) rfl)) (n := (4 : Int32)) (pc := 6) (Ls := #[.val (.ref a1), .val (.int z)]) (rest := [(.ref a1)]) (hb hby d_prog_9_method_1_code_6) 4 (by decide) (by decide) (by decide) (by decide) (by decide) (ad := "[[Lcom/example/tidebook/tidebook/book/Level;") rfl
  have S4 : Go p e below A0 (T4.setTop (mkF m 9 #[.val (.ref a1), .val (.int z)] [(.ref bl), (.ref a1)])) := S3.trans G4
  have B1 := B.ext E4
  have V1 : Arv Z h4 bl cA_bl (.array (.object "com/example/tidebook/tidebook/book/Level")) 4 [.null, .null, .null, .null] .null := V_bl.pad (pad_rep [] .null 4)
  obtain ⟨T5, h5, K5, W5, G5⟩ := K4.putF "" (Or.inl (hw _ (List.mem_of_getElem? (i := 46) rfl))) Via.refl B1.2.1 B1.1 (Or.inl (hw _ (List.mem_of_getElem? (i := 47) rfl))) (hw _ (List.mem_of_getElem? (i := 38) rfl)) (ty := (.array (.array (.object "com/example/tidebook/tidebook/book/Level")))) (by decide) (v := (.ref bl)) rfl rfl (Or.inl (List.mem_of_getElem? (i := 0) rfl)) (pc := 9) (Ls := #[.val (.ref a1), .val (.int z)]) (rest := []) (hb hby d_prog_9_method_1_code_9)
  have S5 : Go p e below A0 (T5.setTop (mkF m 12 #[.val (.ref a1), .val (.int z)] [])) := S4.trans G5
  have B2 := B1.set_vb hw W5
  have hlt : a1 < h0.size := B.1.lt
  have V2 := V1.other W5 (Nat.ne_of_gt (Nat.lt_of_lt_of_le hlt g_bl))
  have S6 : Go p e below A0 (T5.setTop (mkF m 14 #[.val (.ref a1), .val (.int z)] [(.int (4 : Int32)), (.ref a1)])) := by
    refine S5.trans ?_
    refine (Own.P.aloadN K5.here K5.exec (hb hby d_prog_9_method_1_code_12) rfl rfl).trans ?_
    refine (Own.P.iconst K5.here K5.exec (4 : Int32) (hb hby d_prog_9_method_1_code_13) rfl).trans ?_
    exact Go.refl _
  obtain ⟨T7, h7, sz, cA_sz, K7, E7, g_sz, l_sz, ne_sz, V_sz, G7⟩ := K5.newP (aty := .int) (hw _ (List.mem_of_getElem? (i := 48) rfl)) (n := (4 : Int32)) (pc := 14) (Ls := #[.val (.ref a1), .val (.int z)]) (rest := [(.ref a1)]) (hb hby d_prog_9_method_1_code_14) 4 (by decide) (by decide) (by decide) (by decide) (by decide)
  have S7 : Go p e below A0 (T7.setTop (mkF m 16 #[.val (.ref a1), .val (.int z)] [(.ref sz), (.ref a1)])) := S6.trans G7
  have B3 := B2.ext E7
  have V3 := V2.ext E7
  have Y1 : Arv Z h7 sz cA_sz .int 4 [.int 0, .int 0, .int 0, .int 0] (.int 0) := V_sz.pad (pad_rep [] (.int 0) 4)
  obtain ⟨T8, h8, K8, W8, G8⟩ := K7.putF "" (Or.inl (hw _ (List.mem_of_getElem? (i := 49) rfl))) Via.refl B3.2.2.1 B3.1 (Or.inl (hw _ (List.mem_of_getElem? (i := 50) rfl))) (hw _ (List.mem_of_getElem? (i := 38) rfl)) (ty := (.array .int)) (by decide) (v := (.ref sz)) rfl rfl (Or.inl (List.mem_of_getElem? (i := 0) rfl)) (pc := 16) (Ls := #[.val (.ref a1), .val (.int z)]) (rest := []) (hb hby d_prog_9_method_1_code_16)
  have S8 : Go p e below A0 (T8.setTop (mkF m 19 #[.val (.ref a1), .val (.int z)] [])) := S7.trans G8
  have B4 := B3.set_vs hw W8
  have ne2 := Nat.ne_of_gt (Nat.lt_of_lt_of_le hlt g_bl)
  have ne3 := Nat.ne_of_gt (Nat.lt_of_lt_of_le hlt g_sz)
  have V4 := V3.other W8 ne2
  have Y2 := Y1.other W8 ne3
  have S9 : Go p e below A0 (T8.setTop (mkF m 21 #[.val (.ref a1), .val (.int z)] [(.int (1 : Int32)), (.ref a1)])) := by
    refine S8.trans ?_
    refine (Own.P.aloadN K8.here K8.exec (hb hby d_prog_9_method_1_code_19) rfl rfl).trans ?_
    refine (Own.P.iconst K8.here K8.exec (1 : Int32) (hb hby d_prog_9_method_1_code_20) rfl).trans ?_
    exact Go.refl _
  obtain ⟨T10, h10, K10, W10, G10⟩ := K8.putF "" (Or.inl (hw _ (List.mem_of_getElem? (i := 51) rfl))) Via.refl B4.2.2.2.1 B4.1 (Or.inl (hw _ (List.mem_of_getElem? (i := 52) rfl))) (hw _ (List.mem_of_getElem? (i := 38) rfl)) (ty := .int) (by decide) (v := (.int (1 : Int32))) rfl rfl (Or.inl (List.mem_of_getElem? (i := 0) rfl)) (pc := 21) (Ls := #[.val (.ref a1), .val (.int z)]) (rest := []) (hb hby d_prog_9_method_1_code_21)
  have S10 : Go p e below A0 (T10.setTop (mkF m 24 #[.val (.ref a1), .val (.int z)] [])) := S9.trans G10
  have B5 := B4.set_ct hw W10
  have V5 := V4.other W10 ne2
  have Y3 := Y2.other W10 ne3
  have S11 : Go p e below A0 (T10.setTop (mkF m 26 #[.val (.ref a1), .val (.int z)] [(.int z), (.ref a1)])) := by
    refine S10.trans ?_
    refine (Own.P.aloadN K10.here K10.exec (hb hby d_prog_9_method_1_code_24) rfl rfl).trans ?_
    refine (Own.P.iloadN K10.here K10.exec (hb hby d_prog_9_method_1_code_25) rfl).trans ?_
    exact Go.refl _
  obtain ⟨T12, h12, K12, W12, G12⟩ := K10.putF "" (Or.inl (hw _ (List.mem_of_getElem? (i := 53) rfl))) Via.refl B5.2.2.2.2.1 B5.1 (Or.inr ⟨(hw _ (List.mem_of_getElem? (i := 54) rfl)), rfl, hnm⟩) (hw _ (List.mem_of_getElem? (i := 38) rfl)) (ty := .boolean) (by decide) (v := (.int z)) hz fz (Or.inl (List.mem_of_getElem? (i := 0) rfl)) (pc := 26) (Ls := #[.val (.ref a1), .val (.int z)]) (rest := []) (hb hby d_prog_9_method_1_code_26)
  have S12 : Go p e below A0 (T12.setTop (mkF m 29 #[.val (.ref a1), .val (.int z)] [])) := S11.trans G12
  have B6 := B5.set_de hw W12
  have V6 := V5.other W12 ne2
  have Y4 := Y3.other W12 ne3
  have S13 : Go p e below A0 (T12.setTop (mkF m 30 #[.val (.ref a1), .val (.int z)] [(.ref a1)])) := by
    refine S12.trans ?_
    refine (Own.P.aloadN K12.here K12.exec (hb hby d_prog_9_method_1_code_29) rfl rfl).trans ?_
    exact Go.refl _
  obtain ⟨T14, K14, G14⟩ := K12.getF "" (Or.inl (hw _ (List.mem_of_getElem? (i := 46) rfl))) Via.refl B6.2.1 (pc := 30) (Ls := #[.val (.ref a1), .val (.int z)]) (rest := []) (hb hby d_prog_9_method_1_code_30)
  have S14 : Go p e below A0 (T14.setTop (mkF m 33 #[.val (.ref a1), .val (.int z)] [(.ref bl)])) := S13.trans G14
  have S15 : Go p e below A0 (T14.setTop (mkF m 37 #[.val (.ref a1), .val (.int z)] [(.int (256 : Int32)), (.int (0 : Int32)), (.ref bl)])) := by
    refine S14.trans ?_
    refine (Own.P.iconst K14.here K14.exec (0 : Int32) (hb hby d_prog_9_method_1_code_33) rfl).trans ?_
    refine (Own.P.sipush K14.here K14.exec (256 : Int32) (hb hby d_prog_9_method_1_code_34) rfl).trans ?_
    exact Go.refl _
  obtain ⟨T16, h16, b0, cA_b0, K16, E16, g_b0, l_b0, ne_b0, V_b0, X_b0, O_b0, G16⟩ := K14.newR (C := "com/example/tidebook/tidebook/book/Level") (hw _ (List.mem_of_getElem? (i := 55) rfl)) (hw _ (List.mem_of_getElem? (i := 56) rfl)) (n := (256 : Int32)) (pc := 37) (Ls := #[.val (.ref a1), .val (.int z)]) (rest := [(.int (0 : Int32)), (.ref bl)]) (hb hby d_prog_9_method_1_code_37) 256 (by decide) (by decide) (by decide) (by decide) (by decide) (ad := "[Lcom/example/tidebook/tidebook/book/Level;") rfl
  have S16 : Go p e below A0 (T16.setTop (mkF m 40 #[.val (.ref a1), .val (.int z)] [(.ref b0), (.int (0 : Int32)), (.ref bl)])) := S15.trans G16
  have B7 := B6.ext E16
  have V7 := V6.ext E16
  have Y5 := Y4.ext E16
  have Sv : Sto Z h16 bl (.ref b0) := by obtain ⟨cl, A, q1, -⟩ := V7; exact Sto.ofVA A q1 O_bl (Ins.self X_b0)
  obtain ⟨T17, h17, K17, W17, V17, G17⟩ := K16.stR V7 rfl (v := (.ref b0)) rfl Sv (j := (0 : Int32)) ⟨by decide, by decide⟩ 0 rfl (Nat.le_of_ble_eq_true rfl) (Or.inr g_bl) (pc := 40) (Ls := #[.val (.ref a1), .val (.int z)]) (rest := []) (hb hby d_prog_9_method_1_code_40)
  have S17 : Go p e below A0 (T17.setTop (mkF m 41 #[.val (.ref a1), .val (.int z)] [])) := S16.trans G17
  have B8 := B7.wrO W17 (Ne.symm ne2)
  have lbz : bl < sz := Nat.lt_of_lt_of_le V2.lt l_sz
  have lb0 : bl < b0 := Nat.lt_of_lt_of_le V6.lt l_b0
  have Y6 := Y5.other W17 (Nat.ne_of_gt lbz)
  have U1 := V_b0.other W17 (Nat.ne_of_gt lb0)
  have la : ∀ x, h0.size ≤ x → a1 ≤ x := fun x q => Nat.le_of_lt (Nat.lt_of_lt_of_le hlt q)
  exact ⟨s.vm, T17, h17, none, _, _, K17, by decide, by decide, ⟨rfl, bl, sz, b0, cA_bl, cA_sz, cA_b0, z, B8, V17, Y6, U1, Nat.le_refl _, B8.1.lt, la _ g_bl, V17.lt, la _ g_sz, Y6.lt, la _ g_b0, U1.lt, g1, Nat.lt_of_lt_of_le hlt g_sz⟩, K17.retV S17 hret (hb hby d_prog_9_method_1_code_41)⟩
theorem SideIn.keep {Z : State} {h h' : Heap} {a lo : Nat} {hi n0 : Nat} {ws : List Addr} (F : SideIn Z h a lo hi n0) (K : Keep h h' ws) (q : ∀ x : Nat, x ∈ ws → (x < lo ∨ hi ≤ x)) : SideIn Z h' a lo hi n0 := by
  obtain ⟨bl, sz, b0, kb, ks, k0, de, f1, f2, f3, f4, f5, f6, f7, f8, f9, f10, f11, f12, f13, f14⟩ := F
  have nn : ∀ x : Nat, lo ≤ x → x < hi → x ∉ ws := fun x u1 u2 u3 => by rcases q x u3 with w | w <;> omega
  exact ⟨bl, sz, b0, kb, ks, k0, de, f1.keep K (nn _ f5 f6), f2.keep K (nn _ f7 f8), f3.keep K (nn _ f9 f10), f4.keep K (nn _ f11 f12), f5, f6, f7, f8, f9, f10, f11, f12, f13, f14⟩
theorem d_prog_2_method_1_code_0 : decode prog_2_method_1_code 0 = .ok (.aload_n 0, 1) := by decide +kernel
theorem d_prog_2_method_1_code_1 : decode prog_2_method_1_code 1 = .ok (.invokespecial 1, 3) := by decide +kernel
theorem d_prog_2_method_1_code_4 : decode prog_2_method_1_code 4 = .ok (.aload_n 0, 1) := by decide +kernel
theorem d_prog_2_method_1_code_5 : decode prog_2_method_1_code 5 = .ok (.new 7, 3) := by decide +kernel
theorem d_prog_2_method_1_code_8 : decode prog_2_method_1_code 8 = .ok (.dup, 1) := by decide +kernel
theorem d_prog_2_method_1_code_9 : decode prog_2_method_1_code 9 = .ok (.iconst 1, 1) := by decide +kernel
theorem pd_1 : parseMethodDescriptor "(Z)V" = some ⟨[.boolean], none⟩ := by decide +kernel
theorem d_prog_2_method_1_code_10 : decode prog_2_method_1_code 10 = .ok (.invokespecial 9, 3) := by decide +kernel
theorem d_prog_2_method_1_code_13 : decode prog_2_method_1_code 13 = .ok (.putfield 12, 3) := by decide +kernel
theorem d_prog_2_method_1_code_16 : decode prog_2_method_1_code 16 = .ok (.aload_n 0, 1) := by decide +kernel
theorem d_prog_2_method_1_code_17 : decode prog_2_method_1_code 17 = .ok (.new 7, 3) := by decide +kernel
theorem d_prog_2_method_1_code_20 : decode prog_2_method_1_code 20 = .ok (.dup, 1) := by decide +kernel
theorem d_prog_2_method_1_code_21 : decode prog_2_method_1_code 21 = .ok (.iconst 0, 1) := by decide +kernel
theorem d_prog_2_method_1_code_22 : decode prog_2_method_1_code 22 = .ok (.invokespecial 9, 3) := by decide +kernel
theorem d_prog_2_method_1_code_25 : decode prog_2_method_1_code 25 = .ok (.putfield 18, 3) := by decide +kernel
theorem d_prog_2_method_1_code_28 : decode prog_2_method_1_code 28 = .ok (.aload_n 0, 1) := by decide +kernel
theorem d_prog_2_method_1_code_29 : decode prog_2_method_1_code 29 = .ok (.aload_n 1, 1) := by decide +kernel
theorem d_prog_2_method_1_code_30 : decode prog_2_method_1_code 30 = .ok (.putfield 21, 3) := by decide +kernel
theorem d_prog_2_method_1_code_33 : decode prog_2_method_1_code 33 = .ok (.return_, 1) := by decide +kernel
set_option maxRecDepth 65536 in
set_option maxHeartbeats 40000000 in
theorem c_book (l : Launch) (Z : State) (a0 : Array Value) (hw : ∀ d ∈ tables_1, d.before a0 Z = true) (n0 : Nat) (h0 : Heap) (O0 : Old Z n0 h0) (a1 a2 : Addr) (B : BookAt Z h0 a1 .null .null .null 0 0 0 0 0) (g1 : n0 ≤ a1) :
    Own.Ctr false l (⟨"com/example/tidebook/tidebook/book/Book", "<init>", "(Ljava/lang/String;)V"⟩ : MethodName) prog_2_method_1_code 2 none ({ frames := 2, cells := 8, slots := 538, locals := 27 } : Room) #[(.ref a1), (.ref a2)] Z h0 Own.VT [a1] (fun v h vm => v = none ∧ ∃ (bi as : Nat) (md : Nat), BookAt Z h a1 (.ref bi) (.ref as) (.ref a2) 0 0 0 0 0 ∧ SideIn Z h bi bi md n0 ∧ SideIn Z h as as h.size n0 ∧ a1 < bi ∧ md ≤ as ∧ bi < as) := by
  refine Own.body (plainFor_of_name pn_0) O0 (fun v h vm q _ => q.1) (fun _ _ _ _ q _ => q) ?_
  intro p e s m below meth c T0 hby hml0 hret hnm hV0 K0
  change Own.Wk false p l e ({ frames := 2, cells := 8, slots := 538, locals := 27 } : Room) s m #[(.ref a1), (.ref a2)] below meth c "com/example/tidebook/tidebook/book/Book" Z n0 h0 [] s.vm T0 h0 0 0 at K0
  replace K0 := K0.weaken [a1] (allS g1 all0)
  have hml : c.maxLocals = 2 := hml0
  have S0 : Go p e below (T0.setTop (entryFrame m #[(.ref a1), (.ref a2)] 2)) (T0.setTop (mkF m 0 #[.val (.ref a1), .val (.ref a2)] [])) := fun t k => castTop (by first | rfl | (simp [entryFrame, mkF, argsToLocals, Value.category]; done)) k
  generalize T0.setTop (entryFrame m #[(.ref a1), (.ref a2)] 2) = A0 at S0 ⊢
  have S1 : Go p e below A0 (T0.setTop (mkF m 1 #[.val (.ref a1), .val (.ref a2)] [(.ref a1)])) := by
    refine S0.trans ?_
    refine (Own.P.aloadN K0.here K0.exec (hb hby d_prog_2_method_1_code_0) rfl rfl).trans ?_
    exact Go.refl _
  obtain ⟨T2, K2, G2⟩ := K0.initO (hw _ (List.mem_of_getElem? (i := 36) rfl)) (hw _ (List.mem_of_getElem? (i := 12) rfl)) (hw _ (List.mem_of_getElem? (i := 13) rfl)) (pc := 1) (Ls := #[.val (.ref a1), .val (.ref a2)]) (rest := []) (by rw [hml]; rfl) (hb hby d_prog_2_method_1_code_1) (by decide) (W := 0) (Nat.le_of_eq rfl) (by decide)
  have S2 : Go p e below A0 (T2.setTop (mkF m 4 #[.val (.ref a1), .val (.ref a2)] [])) := S1.trans G2
  have S3 : Go p e below A0 (T2.setTop (mkF m 5 #[.val (.ref a1), .val (.ref a2)] [(.ref a1)])) := by
    refine S2.trans ?_
    refine (Own.P.aloadN K2.here K2.exec (hb hby d_prog_2_method_1_code_4) rfl rfl).trans ?_
    exact Go.refl _
  obtain ⟨T4, h4, bi, K4, E4, g_bi, l_bi, ne_bi, X_bi, D_bi, G4⟩ := K2.newO (hw _ (List.mem_of_getElem? (i := 37) rfl)) (hw _ (List.mem_of_getElem? (i := 38) rfl)) (hw _ (List.mem_of_getElem? (i := 39) rfl)) (pc := 5) (Ls := #[.val (.ref a1), .val (.ref a2)]) (rest := [(.ref a1)]) (hb hby d_prog_2_method_1_code_5) (by decide) (by decide)
  have S4 : Go p e below A0 (T4.setTop (mkF m 8 #[.val (.ref a1), .val (.ref a2)] [(.ref bi), (.ref a1)])) := S3.trans G4
  have B1 := B.ext E4
  have D1 := SideAt.new hw X_bi D_bi
  have gb : n0 ≤ bi := Nat.le_trans K0.2.2.2.1 g_bi
  have hlt : a1 < h0.size := B.1.lt
  have ab : a1 < bi := Nat.lt_of_lt_of_le hlt g_bi
  have S5 : Go p e below A0 (T4.setTop (mkF m 10 #[.val (.ref a1), .val (.ref a2)] [(.int (1 : Int32)), (.ref bi), (.ref bi), (.ref a1)])) := by
    refine S4.trans ?_
    refine (Own.P.dup K4.here K4.exec (hb hby d_prog_2_method_1_code_8) rfl).trans ?_
    refine (Own.P.iconst K4.here K4.exec (1 : Int32) (hb hby d_prog_2_method_1_code_9) rfl).trans ?_
    exact Go.refl _
  obtain ⟨v6, vm6, vq6, T6, h6, K6, KK6, ev6, Q6, G6⟩ := K4.callI (y := (⟨"com/example/tidebook/tidebook/book/BookSide", "<init>", "(Z)V"⟩ : MethodName)) rfl (hw _ (List.mem_of_getElem? (i := 40) rfl)) (hw _ (List.mem_of_getElem? (i := 41) rfl)) (hw _ (List.mem_of_getElem? (i := 42) rfl)) (by decide) (W := 2) (a := bi) (argsL := [(.int (1 : Int32))]) (rest := [(.ref bi), (.ref a1)]) ((c_side l Z a0 hw n0 h4 K4.old bi 1 rfl rfl D1 gb).pay Own.VT.cl (hw _ (List.mem_of_getElem? (i := 42) rfl)) (hw _ (List.mem_of_getElem? (i := 39) rfl)) (by decide) (by decide)) trivial (pc := 10) (Ls := #[.val (.ref a1), .val (.ref a2)]) (st := [(.int (1 : Int32)), (.ref bi), (.ref bi), (.ref a1)]) (by rw [hml]; rfl) (lenOf pd_1 rfl) rfl (Nat.le_of_eq rfl) (hb hby d_prog_2_method_1_code_10) (by decide) (by decide) (allS (Or.inr g_bi) all0)
  obtain ⟨rfl, SB⟩ := Q6
  have S6 : Go p e below A0 (T6.setTop (mkF m 13 #[.val (.ref a1), .val (.ref a2)] [(.ref bi), (.ref a1)])) := S5.trans G6
  have B2 := B1.keep KK6 (ninS (Nat.ne_of_lt ab) nin0)
  have SBl : bi < h6.size := by obtain ⟨_, _, _, _, _, _, _, -, -, -, -, -, q, -⟩ := SB; exact q
  obtain ⟨T7, h7, K7, W7, G7⟩ := K6.putF "" (Or.inl (hw _ (List.mem_of_getElem? (i := 58) rfl))) Via.refl B2.2.1 B2.1 (Or.inr ⟨(hw _ (List.mem_of_getElem? (i := 59) rfl)), rfl, hnm⟩) (hw _ (List.mem_of_getElem? (i := 31) rfl)) (ty := (.object "com/example/tidebook/tidebook/book/BookSide")) (by decide) (v := (.ref bi)) rfl rfl (Or.inl (List.mem_of_getElem? (i := 0) rfl)) (pc := 13) (Ls := #[.val (.ref a1), .val (.ref a2)]) (rest := []) (hb hby d_prog_2_method_1_code_13)
  have S7 : Go p e below A0 (T7.setTop (mkF m 16 #[.val (.ref a1), .val (.ref a2)] [])) := S6.trans G7
  have B3 := B2.set_vb hw W7
  have SB1 := SB.keep (Keep.of_wr W7) (allS (Or.inl ab) all0)
  have S8 : Go p e below A0 (T7.setTop (mkF m 17 #[.val (.ref a1), .val (.ref a2)] [(.ref a1)])) := by
    refine S7.trans ?_
    refine (Own.P.aloadN K7.here K7.exec (hb hby d_prog_2_method_1_code_16) rfl rfl).trans ?_
    exact Go.refl _
  obtain ⟨T9, h9, as, K9, E9, g_as, l_as, ne_as, X_as, D_as, G9⟩ := K7.newO (hw _ (List.mem_of_getElem? (i := 37) rfl)) (hw _ (List.mem_of_getElem? (i := 38) rfl)) (hw _ (List.mem_of_getElem? (i := 39) rfl)) (pc := 17) (Ls := #[.val (.ref a1), .val (.ref a2)]) (rest := [(.ref a1)]) (hb hby d_prog_2_method_1_code_17) (by decide) (by decide)
  have S9 : Go p e below A0 (T9.setTop (mkF m 20 #[.val (.ref a1), .val (.ref a2)] [(.ref as), (.ref a1)])) := S8.trans G9
  have B4 := B3.ext E9
  have SB2 := SB1.keep ((Keep.refl _ []).ext E9) all0
  have D2 := SideAt.new hw X_as D_as
  have ga : n0 ≤ as := Nat.le_trans K0.2.2.2.1 g_as
  have aa : a1 < as := Nat.lt_of_lt_of_le hlt g_as
  have mda : h6.size ≤ as := by rw [← (W7).size]; exact l_as
  have S10 : Go p e below A0 (T9.setTop (mkF m 22 #[.val (.ref a1), .val (.ref a2)] [(.int (0 : Int32)), (.ref as), (.ref as), (.ref a1)])) := by
    refine S9.trans ?_
    refine (Own.P.dup K9.here K9.exec (hb hby d_prog_2_method_1_code_20) rfl).trans ?_
    refine (Own.P.iconst K9.here K9.exec (0 : Int32) (hb hby d_prog_2_method_1_code_21) rfl).trans ?_
    exact Go.refl _
  obtain ⟨v11, vm11, vq11, T11, h11, K11, KK11, ev11, Q11, G11⟩ := K9.callI (y := (⟨"com/example/tidebook/tidebook/book/BookSide", "<init>", "(Z)V"⟩ : MethodName)) rfl (hw _ (List.mem_of_getElem? (i := 40) rfl)) (hw _ (List.mem_of_getElem? (i := 41) rfl)) (hw _ (List.mem_of_getElem? (i := 42) rfl)) (by decide) (W := 2) (a := as) (argsL := [(.int (0 : Int32))]) (rest := [(.ref as), (.ref a1)]) ((c_side l Z a0 hw n0 h9 K9.old as 0 rfl rfl D2 ga).pay Own.VT.cl (hw _ (List.mem_of_getElem? (i := 42) rfl)) (hw _ (List.mem_of_getElem? (i := 39) rfl)) (by decide) (by decide)) trivial (pc := 22) (Ls := #[.val (.ref a1), .val (.ref a2)]) (st := [(.int (0 : Int32)), (.ref as), (.ref as), (.ref a1)]) (by rw [hml]; rfl) (lenOf pd_1 rfl) rfl (Nat.le_of_eq rfl) (hb hby d_prog_2_method_1_code_22) (by decide) (by decide) (allS (Or.inr g_as) all0)
  obtain ⟨rfl, SA⟩ := Q11
  have S11 : Go p e below A0 (T11.setTop (mkF m 25 #[.val (.ref a1), .val (.ref a2)] [(.ref as), (.ref a1)])) := S10.trans G11
  have B5 := B4.keep KK11 (ninS (Nat.ne_of_lt aa) nin0)
  have SB3 := SB2.keep KK11 (allS (Or.inr mda) all0)
  obtain ⟨T12, h12, K12, W12, G12⟩ := K11.putF "" (Or.inl (hw _ (List.mem_of_getElem? (i := 60) rfl))) Via.refl B5.2.2.1 B5.1 (Or.inr ⟨(hw _ (List.mem_of_getElem? (i := 61) rfl)), rfl, hnm⟩) (hw _ (List.mem_of_getElem? (i := 31) rfl)) (ty := (.object "com/example/tidebook/tidebook/book/BookSide")) (by decide) (v := (.ref as)) rfl rfl (Or.inl (List.mem_of_getElem? (i := 0) rfl)) (pc := 25) (Ls := #[.val (.ref a1), .val (.ref a2)]) (rest := []) (hb hby d_prog_2_method_1_code_25)
  have S12 : Go p e below A0 (T12.setTop (mkF m 28 #[.val (.ref a1), .val (.ref a2)] [])) := S11.trans G12
  have B6 := B5.set_va hw W12
  have SB4 := SB3.keep (Keep.of_wr W12) (allS (Or.inl ab) all0)
  have SA1 := SA.keep (Keep.of_wr W12) (allS (Or.inl aa) all0)
  have S13 : Go p e below A0 (T12.setTop (mkF m 30 #[.val (.ref a1), .val (.ref a2)] [(.ref a2), (.ref a1)])) := by
    refine S12.trans ?_
    refine (Own.P.aloadN K12.here K12.exec (hb hby d_prog_2_method_1_code_28) rfl rfl).trans ?_
    refine (Own.P.aloadN K12.here K12.exec (hb hby d_prog_2_method_1_code_29) rfl rfl).trans ?_
    exact Go.refl _
  obtain ⟨T14, h14, K14, W14, G14⟩ := K12.putF "" (Or.inl (hw _ (List.mem_of_getElem? (i := 62) rfl))) Via.refl B6.2.2.2.1 B6.1 (Or.inr ⟨(hw _ (List.mem_of_getElem? (i := 63) rfl)), rfl, hnm⟩) (hw _ (List.mem_of_getElem? (i := 31) rfl)) (ty := (.object "java/lang/String")) (by decide) (v := (.ref a2)) rfl rfl (Or.inl (List.mem_of_getElem? (i := 0) rfl)) (pc := 30) (Ls := #[.val (.ref a1), .val (.ref a2)]) (rest := []) (hb hby d_prog_2_method_1_code_30)
  have S14 : Go p e below A0 (T14.setTop (mkF m 33 #[.val (.ref a1), .val (.ref a2)] [])) := S13.trans G14
  have B7 := B6.set_vn hw W14
  have SB5 := SB4.keep (Keep.of_wr W14) (allS (Or.inl ab) all0)
  have SA2 := SA1.keep (Keep.of_wr W14) (allS (Or.inl aa) all0)
  rw [← (W12).size, ← (W14).size] at SA2
  exact ⟨vm11, T14, h14, none, _, _, K14, by decide, by decide, ⟨rfl, bi, as, h6.size, B7, SB5, SA2, ab, mda, Nat.lt_of_lt_of_le SBl mda⟩, K14.retV S14 hret (hb hby d_prog_2_method_1_code_33)⟩
theorem d_jdk_65_method_30_code_0 : decode jdk_65_method_30_code 0 = .ok (.iload_n 1, 1) := by decide +kernel
theorem d_jdk_65_method_30_code_1 : decode jdk_65_method_30_code 1 = .ok (.iload_n 2, 1) := by decide +kernel
theorem d_jdk_65_method_30_code_2 : decode jdk_65_method_30_code 2 = .ok (.if_icmp .le 44, 3) := by decide +kernel
theorem d_jdk_65_method_30_code_46 : decode jdk_65_method_30_code 46 = .ok (.iload_n 1, 1) := by decide +kernel
theorem d_jdk_65_method_30_code_47 : decode jdk_65_method_30_code 47 = .ok (.ifCond .ge 12, 3) := by decide +kernel
theorem d_jdk_65_method_30_code_59 : decode jdk_65_method_30_code 59 = .ok (.iload_n 2, 1) := by decide +kernel
theorem d_jdk_65_method_30_code_60 : decode jdk_65_method_30_code 60 = .ok (.iload_n 0, 1) := by decide +kernel
theorem d_jdk_65_method_30_code_61 : decode jdk_65_method_30_code 61 = .ok (.if_icmp .le 12, 3) := by decide +kernel
theorem d_jdk_65_method_30_code_73 : decode jdk_65_method_30_code 73 = .ok (.return_, 1) := by decide +kernel
theorem pn_6 : plainName "java/util/Arrays" = true := by first | (simp [plainName, overriddenIn]; done) | decide +kernel
set_option maxRecDepth 65536 in
set_option maxHeartbeats 40000000 in
theorem c_rng (l : Launch) (Z : State) (a0 : Array Value) (hw : ∀ d ∈ tables_1, d.before a0 Z = true) (n0 : Nat) (h0 : Heap) (O0 : Old Z n0 h0) (n i j : Int32) (q1 : if_icmp.holds .le i j = true) (q2 : ifCond.holds .ge i = true) (q3 : if_icmp.holds .le j n = true) :
    Own.Ctr false l (⟨"java/util/Arrays", "rangeCheck", "(III)V"⟩ : MethodName) jdk_65_method_30_code 3 none ({ frames := 0, cells := 0, slots := 0, locals := 0 } : Room) #[(.int n), (.int i), (.int j)] Z h0 Own.VT [] (fun v h vm => v = none ∧ h = h0) := by
  refine Own.body (plainFor_of_name pn_6) O0 (fun v h vm q _ => q.1) (fun _ _ _ _ q _ => q) ?_
  intro p e s m below meth c T0 hby hml0 hret hnm hV0 K0
  change Own.Wk false p l e ({ frames := 0, cells := 0, slots := 0, locals := 0 } : Room) s m #[(.int n), (.int i), (.int j)] below meth c "java/util/Arrays" Z n0 h0 [] s.vm T0 h0 0 0 at K0
  have hml : c.maxLocals = 3 := hml0
  have S0 : Go p e below (T0.setTop (entryFrame m #[(.int n), (.int i), (.int j)] 3)) (T0.setTop (mkF m 0 #[.val (.int n), .val (.int i), .val (.int j)] [])) := fun t k => castTop (by first | rfl | (simp [entryFrame, mkF, argsToLocals, Value.category]; done)) k
  generalize T0.setTop (entryFrame m #[(.int n), (.int i), (.int j)] 3) = A0 at S0 ⊢
  have S1 : Go p e below A0 (T0.setTop (mkF m 73 #[.val (.int n), .val (.int i), .val (.int j)] [])) := by
    refine S0.trans ?_
    refine (Own.P.iloadN K0.here K0.exec (hb hby d_jdk_65_method_30_code_0) rfl).trans ?_
    refine (Own.P.iloadN K0.here K0.exec (hb hby d_jdk_65_method_30_code_1) rfl).trans ?_
    refine (Own.P.icmpYes K0.here K0.exec 46 (hb hby d_jdk_65_method_30_code_2) q1 (by decide) (by decide)).trans ?_
    refine (Own.P.iloadN K0.here K0.exec (hb hby d_jdk_65_method_30_code_46) rfl).trans ?_
    refine (Own.P.ifYes K0.here K0.exec 59 (hb hby d_jdk_65_method_30_code_47) q2 (by decide) (by decide)).trans ?_
    refine (Own.P.iloadN K0.here K0.exec (hb hby d_jdk_65_method_30_code_59) rfl).trans ?_
    refine (Own.P.iloadN K0.here K0.exec (hb hby d_jdk_65_method_30_code_60) rfl).trans ?_
    refine (Own.P.icmpYes K0.here K0.exec 73 (hb hby d_jdk_65_method_30_code_61) q3 (by decide) (by decide)).trans ?_
    exact Go.refl _
  exact ⟨s.vm, T0, h0, none, _, _, K0, by decide, by decide, ⟨rfl, rfl⟩, K0.retV S1 hret (hb hby d_jdk_65_method_30_code_73)⟩
theorem d_jdk_65_method_118_code_0 : decode jdk_65_method_118_code 0 = .ok (.aload_n 0, 1) := by decide +kernel
theorem d_jdk_65_method_118_code_1 : decode jdk_65_method_118_code 1 = .ok (.arraylength, 1) := by decide +kernel
theorem d_jdk_65_method_118_code_2 : decode jdk_65_method_118_code 2 = .ok (.iload_n 1, 1) := by decide +kernel
theorem d_jdk_65_method_118_code_3 : decode jdk_65_method_118_code 3 = .ok (.iload_n 2, 1) := by decide +kernel
theorem pd_2 : parseMethodDescriptor "(III)V" = some ⟨[.int, .int, .int], none⟩ := by decide +kernel
theorem d_jdk_65_method_118_code_4 : decode jdk_65_method_118_code 4 = .ok (.invokestatic 13, 3) := by decide +kernel
theorem d_jdk_65_method_118_code_7 : decode jdk_65_method_118_code 7 = .ok (.iload_n 1, 1) := by decide +kernel
theorem d_jdk_65_method_118_code_8 : decode jdk_65_method_118_code 8 = .ok (.istore 4, 2) := by decide +kernel
theorem d_jdk_65_method_118_code_10 : decode jdk_65_method_118_code 10 = .ok (.iload 4, 2) := by decide +kernel
theorem d_jdk_65_method_118_code_12 : decode jdk_65_method_118_code 12 = .ok (.iload_n 2, 1) := by decide +kernel
theorem d_jdk_65_method_118_code_13 : decode jdk_65_method_118_code 13 = .ok (.if_icmp .ge 14, 3) := by decide +kernel
theorem d_jdk_65_method_118_code_27 : decode jdk_65_method_118_code 27 = .ok (.return_, 1) := by decide +kernel
set_option maxRecDepth 65536 in
set_option maxHeartbeats 40000000 in
theorem c_fillO (l : Launch) (Z : State) (a0 : Array Value) (hw : ∀ d ∈ tables_1, d.before a0 Z = true) (n0 : Nat) (h0 : Heap) (O0 : Old Z n0 h0) (a1 : Addr) (i : Int32) (kA : ClassId) (ty : FieldType) (z : Int32) (vs : List Value) (V : Arv Z h0 a1 kA ty z vs .null) (q2 : ifCond.holds .ge i = true) (q3 : if_icmp.holds .le i z = true) (q1 : if_icmp.holds .le i i = true) (q4 : if_icmp.holds .ge i i = true) :
    Own.Ctr false l (⟨"java/util/Arrays", "fill", "([Ljava/lang/Object;IILjava/lang/Object;)V"⟩ : MethodName) jdk_65_method_118_code 5 none ({ frames := 1, cells := 0, slots := 0, locals := 14 } : Room) #[(.ref a1), (.int i), (.int i), Value.null] Z h0 Own.VT [] (fun v h vm => v = none ∧ h = h0) := by
  refine Own.body (plainFor_of_name pn_6) O0 (fun v h vm q _ => q.1) (fun _ _ _ _ q _ => q) ?_
  intro p e s m below meth c T0 hby hml0 hret hnm hV0 K0
  change Own.Wk false p l e ({ frames := 1, cells := 0, slots := 0, locals := 14 } : Room) s m #[(.ref a1), (.int i), (.int i), Value.null] below meth c "java/util/Arrays" Z n0 h0 [] s.vm T0 h0 0 0 at K0
  have hml : c.maxLocals = 5 := hml0
  have S0 : Go p e below (T0.setTop (entryFrame m #[(.ref a1), (.int i), (.int i), Value.null] 5)) (T0.setTop (mkF m 0 #[.val (.ref a1), .val (.int i), .val (.int i), .val Value.null, .unset] [])) := fun t k => castTop (by first | rfl | (simp [entryFrame, mkF, argsToLocals, Value.category]; done)) k
  generalize T0.setTop (entryFrame m #[(.ref a1), (.int i), (.int i), Value.null] 5) = A0 at S0 ⊢
  have S1 : Go p e below A0 (T0.setTop (mkF m 1 #[.val (.ref a1), .val (.int i), .val (.int i), .val Value.null, .unset] [(.ref a1)])) := by
    refine S0.trans ?_
    refine (Own.P.aloadN K0.here K0.exec (hb hby d_jdk_65_method_118_code_0) rfl rfl).trans ?_
    exact Go.refl _
  have G2 := K0.len V (pc := 1) (Ls := #[.val (.ref a1), .val (.int i), .val (.int i), .val Value.null, .unset]) (rest := []) (hb hby d_jdk_65_method_118_code_1)
  have S2 : Go p e below A0 (T0.setTop (mkF m 2 #[.val (.ref a1), .val (.int i), .val (.int i), .val Value.null, .unset] [(.int z)])) := S1.trans G2
  have S3 : Go p e below A0 (T0.setTop (mkF m 4 #[.val (.ref a1), .val (.int i), .val (.int i), .val Value.null, .unset] [(.int i), (.int i), (.int z)])) := by
    refine S2.trans ?_
    refine (Own.P.iloadN K0.here K0.exec (hb hby d_jdk_65_method_118_code_2) rfl).trans ?_
    refine (Own.P.iloadN K0.here K0.exec (hb hby d_jdk_65_method_118_code_3) rfl).trans ?_
    exact Go.refl _
  obtain ⟨v4, vm4, vq4, T4, h4, K4, KK4, ev4, Q4, G4⟩ := K0.callS (y := (⟨"java/util/Arrays", "rangeCheck", "(III)V"⟩ : MethodName)) (hw _ (List.mem_of_getElem? (i := 157) rfl)) (hw _ (List.mem_of_getElem? (i := 158) rfl)) (hw _ (List.mem_of_getElem? (i := 155) rfl)) (hw _ (List.mem_of_getElem? (i := 159) rfl)) (by decide) (W := 0) (argsL := [(.int z), (.int i), (.int i)]) (rest := []) ((c_rng l Z a0 hw n0 h0 (K0.old) z i i q1 q2 q3).pay Own.VT.cl (hw _ (List.mem_of_getElem? (i := 159) rfl)) (hw _ (List.mem_of_getElem? (i := 155) rfl)) (by decide) (by decide)) trivial (pc := 4) (Ls := #[.val (.ref a1), .val (.int i), .val (.int i), .val Value.null, .unset]) (st := [(.int i), (.int i), (.int z)]) (by rw [hml]; rfl) (lenOf pd_2 rfl) rfl (Nat.le_of_eq rfl) (hb hby d_jdk_65_method_118_code_4) (by decide) (by decide) all0
  obtain ⟨rfl, e4⟩ := Q4
  have S4 : Go p e below A0 (T4.setTop (mkF m 7 #[.val (.ref a1), .val (.int i), .val (.int i), .val Value.null, .unset] [])) := S3.trans G4
  subst e4
  have S5 : Go p e below A0 (T4.setTop (mkF m 27 #[.val (.ref a1), .val (.int i), .val (.int i), .val Value.null, .val (.int i)] [])) := by
    refine S4.trans ?_
    refine (Own.P.iloadN K4.here K4.exec (hb hby d_jdk_65_method_118_code_7) rfl).trans ?_
    refine (Own.P.istore K4.here K4.exec (l' := #[.val (.ref a1), .val (.int i), .val (.int i), .val Value.null, .val (.int i)]) (hb hby d_jdk_65_method_118_code_8) rfl).trans ?_
    refine (Own.P.iload K4.here K4.exec (hb hby d_jdk_65_method_118_code_10) rfl).trans ?_
    refine (Own.P.iloadN K4.here K4.exec (hb hby d_jdk_65_method_118_code_12) rfl).trans ?_
    refine (Own.P.icmpYes K4.here K4.exec 27 (hb hby d_jdk_65_method_118_code_13) q4 (by decide) (by decide)).trans ?_
    exact Go.refl _
  exact ⟨vm4, T4, h4, none, _, _, K4, by decide, by decide, ⟨rfl, rfl⟩, K4.retV S5 hret (hb hby d_jdk_65_method_118_code_27)⟩
theorem d_jdk_65_method_104_code_0 : decode jdk_65_method_104_code 0 = .ok (.aload_n 0, 1) := by decide +kernel
theorem d_jdk_65_method_104_code_1 : decode jdk_65_method_104_code 1 = .ok (.arraylength, 1) := by decide +kernel
theorem d_jdk_65_method_104_code_2 : decode jdk_65_method_104_code 2 = .ok (.iload_n 1, 1) := by decide +kernel
theorem d_jdk_65_method_104_code_3 : decode jdk_65_method_104_code 3 = .ok (.iload_n 2, 1) := by decide +kernel
theorem d_jdk_65_method_104_code_4 : decode jdk_65_method_104_code 4 = .ok (.invokestatic 13, 3) := by decide +kernel
theorem d_jdk_65_method_104_code_7 : decode jdk_65_method_104_code 7 = .ok (.iload_n 1, 1) := by decide +kernel
theorem d_jdk_65_method_104_code_8 : decode jdk_65_method_104_code 8 = .ok (.istore 4, 2) := by decide +kernel
theorem d_jdk_65_method_104_code_10 : decode jdk_65_method_104_code 10 = .ok (.iload 4, 2) := by decide +kernel
theorem d_jdk_65_method_104_code_12 : decode jdk_65_method_104_code 12 = .ok (.iload_n 2, 1) := by decide +kernel
theorem d_jdk_65_method_104_code_13 : decode jdk_65_method_104_code 13 = .ok (.if_icmp .ge 14, 3) := by decide +kernel
theorem d_jdk_65_method_104_code_16 : decode jdk_65_method_104_code 16 = .ok (.aload_n 0, 1) := by decide +kernel
theorem d_jdk_65_method_104_code_17 : decode jdk_65_method_104_code 17 = .ok (.iload 4, 2) := by decide +kernel
theorem d_jdk_65_method_104_code_19 : decode jdk_65_method_104_code 19 = .ok (.iload_n 3, 1) := by decide +kernel
theorem d_jdk_65_method_104_code_20 : decode jdk_65_method_104_code 20 = .ok (.iastore, 1) := by decide +kernel
theorem d_jdk_65_method_104_code_21 : decode jdk_65_method_104_code 21 = .ok (.iinc 4 1, 3) := by decide +kernel
theorem d_jdk_65_method_104_code_24 : decode jdk_65_method_104_code 24 = .ok (.goto (-14), 3) := by decide +kernel
theorem d_jdk_65_method_104_code_27 : decode jdk_65_method_104_code 27 = .ok (.return_, 1) := by decide +kernel
set_option maxRecDepth 65536 in
set_option maxHeartbeats 40000000 in
theorem c_fillI (l : Launch) (Z : State) (a0 : Array Value) (hw : ∀ d ∈ tables_1, d.before a0 Z = true) (n0 : Nat) (h0 : Heap) (O0 : Old Z n0 h0) (a1 : Addr) (kA : ClassId) (V : Arv Z h0 a1 kA .int 4 [.int 0, .int 0, .int 0, .int 0] (.int 0)) (g1 : n0 ≤ a1) :
    Own.Ctr false l (⟨"java/util/Arrays", "fill", "([IIII)V"⟩ : MethodName) jdk_65_method_104_code 5 none ({ frames := 1, cells := 0, slots := 0, locals := 14 } : Room) #[(.ref a1), (.int (0 : Int32)), (.int (1 : Int32)), (.int (0 : Int32))] Z h0 Own.VT [a1] (fun v h vm => v = none ∧ True) := by
  refine Own.body (plainFor_of_name pn_6) O0 (fun v h vm q _ => q.1) (fun _ _ _ _ q _ => q) ?_
  intro p e s m below meth c T0 hby hml0 hret hnm hV0 K0
  change Own.Wk false p l e ({ frames := 1, cells := 0, slots := 0, locals := 14 } : Room) s m #[(.ref a1), (.int (0 : Int32)), (.int (1 : Int32)), (.int (0 : Int32))] below meth c "java/util/Arrays" Z n0 h0 [] s.vm T0 h0 0 0 at K0
  replace K0 := K0.weaken [a1] (allS g1 all0)
  have hml : c.maxLocals = 5 := hml0
  have S0 : Go p e below (T0.setTop (entryFrame m #[(.ref a1), (.int (0 : Int32)), (.int (1 : Int32)), (.int (0 : Int32))] 5)) (T0.setTop (mkF m 0 #[.val (.ref a1), .val (.int (0 : Int32)), .val (.int (1 : Int32)), .val (.int (0 : Int32)), .unset] [])) := fun t k => castTop (by first | rfl | (simp [entryFrame, mkF, argsToLocals, Value.category]; done)) k
  generalize T0.setTop (entryFrame m #[(.ref a1), (.int (0 : Int32)), (.int (1 : Int32)), (.int (0 : Int32))] 5) = A0 at S0 ⊢
  have S1 : Go p e below A0 (T0.setTop (mkF m 1 #[.val (.ref a1), .val (.int (0 : Int32)), .val (.int (1 : Int32)), .val (.int (0 : Int32)), .unset] [(.ref a1)])) := by
    refine S0.trans ?_
    refine (Own.P.aloadN K0.here K0.exec (hb hby d_jdk_65_method_104_code_0) rfl rfl).trans ?_
    exact Go.refl _
  have G2 := K0.len V (pc := 1) (Ls := #[.val (.ref a1), .val (.int (0 : Int32)), .val (.int (1 : Int32)), .val (.int (0 : Int32)), .unset]) (rest := []) (hb hby d_jdk_65_method_104_code_1)
  have S2 : Go p e below A0 (T0.setTop (mkF m 2 #[.val (.ref a1), .val (.int (0 : Int32)), .val (.int (1 : Int32)), .val (.int (0 : Int32)), .unset] [(.int (4 : Int32))])) := S1.trans G2
  have S3 : Go p e below A0 (T0.setTop (mkF m 4 #[.val (.ref a1), .val (.int (0 : Int32)), .val (.int (1 : Int32)), .val (.int (0 : Int32)), .unset] [(.int (1 : Int32)), (.int (0 : Int32)), (.int (4 : Int32))])) := by
    refine S2.trans ?_
    refine (Own.P.iloadN K0.here K0.exec (hb hby d_jdk_65_method_104_code_2) rfl).trans ?_
    refine (Own.P.iloadN K0.here K0.exec (hb hby d_jdk_65_method_104_code_3) rfl).trans ?_
    exact Go.refl _
  obtain ⟨v4, vm4, vq4, T4, h4, K4, KK4, ev4, Q4, G4⟩ := K0.callS (y := (⟨"java/util/Arrays", "rangeCheck", "(III)V"⟩ : MethodName)) (hw _ (List.mem_of_getElem? (i := 157) rfl)) (hw _ (List.mem_of_getElem? (i := 158) rfl)) (hw _ (List.mem_of_getElem? (i := 155) rfl)) (hw _ (List.mem_of_getElem? (i := 159) rfl)) (by decide) (W := 0) (argsL := [(.int (4 : Int32)), (.int (0 : Int32)), (.int (1 : Int32))]) (rest := []) ((c_rng l Z a0 hw n0 h0 (K0.old) 4 0 1 (by decide) (by decide) (by decide)).pay Own.VT.cl (hw _ (List.mem_of_getElem? (i := 159) rfl)) (hw _ (List.mem_of_getElem? (i := 155) rfl)) (by decide) (by decide)) trivial (pc := 4) (Ls := #[.val (.ref a1), .val (.int (0 : Int32)), .val (.int (1 : Int32)), .val (.int (0 : Int32)), .unset]) (st := [(.int (1 : Int32)), (.int (0 : Int32)), (.int (4 : Int32))]) (by rw [hml]; rfl) (lenOf pd_2 rfl) rfl (Nat.le_of_eq rfl) (hb hby d_jdk_65_method_104_code_4) (by decide) (by decide) all0
  obtain ⟨rfl, e4⟩ := Q4
  have S4 : Go p e below A0 (T4.setTop (mkF m 7 #[.val (.ref a1), .val (.int (0 : Int32)), .val (.int (1 : Int32)), .val (.int (0 : Int32)), .unset] [])) := S3.trans G4
  subst e4
  have S5 : Go p e below A0 (T4.setTop (mkF m 20 #[.val (.ref a1), .val (.int (0 : Int32)), .val (.int (1 : Int32)), .val (.int (0 : Int32)), .val (.int (0 : Int32))] [(.int (0 : Int32)), (.int (0 : Int32)), (.ref a1)])) := by
    refine S4.trans ?_
    refine (Own.P.iloadN K4.here K4.exec (hb hby d_jdk_65_method_104_code_7) rfl).trans ?_
    refine (Own.P.istore K4.here K4.exec (l' := #[.val (.ref a1), .val (.int (0 : Int32)), .val (.int (1 : Int32)), .val (.int (0 : Int32)), .val (.int (0 : Int32))]) (hb hby d_jdk_65_method_104_code_8) rfl).trans ?_
    refine (Own.P.iload K4.here K4.exec (hb hby d_jdk_65_method_104_code_10) rfl).trans ?_
    refine (Own.P.iloadN K4.here K4.exec (hb hby d_jdk_65_method_104_code_12) rfl).trans ?_
    refine (Own.P.icmpNo K4.here K4.exec (hb hby d_jdk_65_method_104_code_13) (by decide)).trans ?_
    refine (Own.P.aloadN K4.here K4.exec (hb hby d_jdk_65_method_104_code_16) rfl rfl).trans ?_
    refine (Own.P.iload K4.here K4.exec (hb hby d_jdk_65_method_104_code_17) rfl).trans ?_
    refine (Own.P.iloadN K4.here K4.exec (hb hby d_jdk_65_method_104_code_19) rfl).trans ?_
    exact Go.refl _
  obtain ⟨T6, h6, K6, W6, V6, G6⟩ := K4.stI V  (j := (0 : Int32)) ⟨by decide, by decide⟩ 0 rfl (Nat.le_of_ble_eq_true rfl) (Or.inl (List.mem_of_getElem? (i := 0) rfl)) (pc := 20) (Ls := #[.val (.ref a1), .val (.int (0 : Int32)), .val (.int (1 : Int32)), .val (.int (0 : Int32)), .val (.int (0 : Int32))]) (rest := []) (hb hby d_jdk_65_method_104_code_20)
  have S6 : Go p e below A0 (T6.setTop (mkF m 21 #[.val (.ref a1), .val (.int (0 : Int32)), .val (.int (1 : Int32)), .val (.int (0 : Int32)), .val (.int (0 : Int32))] [])) := S5.trans G6
  have S7 : Go p e below A0 (T6.setTop (mkF m 27 #[.val (.ref a1), .val (.int (0 : Int32)), .val (.int (1 : Int32)), .val (.int (0 : Int32)), .val (.int (1 : Int32))] [])) := by
    refine S6.trans ?_
    refine (Own.P.iinc K6.here K6.exec (v := (1 : Int32)) (l' := #[.val (.ref a1), .val (.int (0 : Int32)), .val (.int (1 : Int32)), .val (.int (0 : Int32)), .val (.int (1 : Int32))]) (hb hby d_jdk_65_method_104_code_21) rfl rfl rfl).trans ?_
    refine (Own.P.goto K6.here K6.exec 10 (hb hby d_jdk_65_method_104_code_24) (by decide) (by decide)).trans ?_
    refine (Own.P.iload K6.here K6.exec (hb hby d_jdk_65_method_104_code_10) rfl).trans ?_
    refine (Own.P.iloadN K6.here K6.exec (hb hby d_jdk_65_method_104_code_12) rfl).trans ?_
    refine (Own.P.icmpYes K6.here K6.exec 27 (hb hby d_jdk_65_method_104_code_13) (by decide) (by decide) (by decide)).trans ?_
    exact Go.refl _
  exact ⟨vm4, T6, h6, none, _, _, K6, by decide, by decide, ⟨rfl, trivial⟩, K6.retV S7 hret (hb hby d_jdk_65_method_104_code_27)⟩
theorem d_prog_9_method_9_code_0 : decode prog_9_method_9_code 0 = .ok (.aload_n 0, 1) := by decide +kernel
theorem d_prog_9_method_9_code_1 : decode prog_9_method_9_code 1 = .ok (.getfield 11, 3) := by decide +kernel
theorem d_prog_9_method_9_code_4 : decode prog_9_method_9_code 4 = .ok (.iconst 0, 1) := by decide +kernel
theorem d_prog_9_method_9_code_5 : decode prog_9_method_9_code 5 = .ok (.aaload, 1) := by decide +kernel
theorem d_prog_9_method_9_code_6 : decode prog_9_method_9_code 6 = .ok (.iconst 0, 1) := by decide +kernel
theorem d_prog_9_method_9_code_7 : decode prog_9_method_9_code 7 = .ok (.aload_n 0, 1) := by decide +kernel
theorem d_prog_9_method_9_code_8 : decode prog_9_method_9_code 8 = .ok (.getfield 15, 3) := by decide +kernel
theorem d_prog_9_method_9_code_11 : decode prog_9_method_9_code 11 = .ok (.iconst 0, 1) := by decide +kernel
theorem d_prog_9_method_9_code_12 : decode prog_9_method_9_code 12 = .ok (.iaload, 1) := by decide +kernel
theorem d_prog_9_method_9_code_13 : decode prog_9_method_9_code 13 = .ok (.aconst_null, 1) := by decide +kernel
theorem pd_3 : parseMethodDescriptor "([Ljava/lang/Object;IILjava/lang/Object;)V" = some ⟨[(.array (.object "java/lang/Object")), .int, .int, (.object "java/lang/Object")], none⟩ := by decide +kernel
theorem d_prog_9_method_9_code_14 : decode prog_9_method_9_code 14 = .ok (.invokestatic 77, 3) := by decide +kernel
theorem d_prog_9_method_9_code_17 : decode prog_9_method_9_code 17 = .ok (.aload_n 0, 1) := by decide +kernel
theorem d_prog_9_method_9_code_18 : decode prog_9_method_9_code 18 = .ok (.getfield 11, 3) := by decide +kernel
theorem d_prog_9_method_9_code_21 : decode prog_9_method_9_code 21 = .ok (.iconst 1, 1) := by decide +kernel
theorem d_prog_9_method_9_code_22 : decode prog_9_method_9_code 22 = .ok (.aload_n 0, 1) := by decide +kernel
theorem d_prog_9_method_9_code_23 : decode prog_9_method_9_code 23 = .ok (.getfield 19, 3) := by decide +kernel
theorem d_prog_9_method_9_code_26 : decode prog_9_method_9_code 26 = .ok (.aconst_null, 1) := by decide +kernel
theorem d_prog_9_method_9_code_27 : decode prog_9_method_9_code 27 = .ok (.invokestatic 77, 3) := by decide +kernel
theorem d_prog_9_method_9_code_30 : decode prog_9_method_9_code 30 = .ok (.aload_n 0, 1) := by decide +kernel
theorem d_prog_9_method_9_code_31 : decode prog_9_method_9_code 31 = .ok (.getfield 15, 3) := by decide +kernel
theorem d_prog_9_method_9_code_34 : decode prog_9_method_9_code 34 = .ok (.iconst 0, 1) := by decide +kernel
theorem d_prog_9_method_9_code_35 : decode prog_9_method_9_code 35 = .ok (.aload_n 0, 1) := by decide +kernel
theorem d_prog_9_method_9_code_36 : decode prog_9_method_9_code 36 = .ok (.getfield 19, 3) := by decide +kernel
theorem d_prog_9_method_9_code_39 : decode prog_9_method_9_code 39 = .ok (.iconst 0, 1) := by decide +kernel
theorem pd_4 : parseMethodDescriptor "([IIII)V" = some ⟨[(.array .int), .int, .int, .int], none⟩ := by decide +kernel
theorem d_prog_9_method_9_code_40 : decode prog_9_method_9_code 40 = .ok (.invokestatic 94, 3) := by decide +kernel
theorem d_prog_9_method_9_code_43 : decode prog_9_method_9_code 43 = .ok (.aload_n 0, 1) := by decide +kernel
theorem d_prog_9_method_9_code_44 : decode prog_9_method_9_code 44 = .ok (.iconst 1, 1) := by decide +kernel
theorem d_prog_9_method_9_code_45 : decode prog_9_method_9_code 45 = .ok (.putfield 19, 3) := by decide +kernel
theorem d_prog_9_method_9_code_48 : decode prog_9_method_9_code 48 = .ok (.aload_n 0, 1) := by decide +kernel
theorem d_prog_9_method_9_code_49 : decode prog_9_method_9_code 49 = .ok (.iconst 0, 1) := by decide +kernel
theorem d_prog_9_method_9_code_50 : decode prog_9_method_9_code 50 = .ok (.putfield 29, 3) := by decide +kernel
theorem d_prog_9_method_9_code_53 : decode prog_9_method_9_code 53 = .ok (.return_, 1) := by decide +kernel
set_option maxRecDepth 65536 in
set_option maxHeartbeats 40000000 in
theorem c_clear (l : Launch) (Z : State) (a0 : Array Value) (hw : ∀ d ∈ tables_1, d.before a0 Z = true) (n0 : Nat) (h0 : Heap) (O0 : Old Z n0 h0) (a1 sz : Nat) (lo : Nat) (hi : Nat) (SI : SideIn Z h0 a1 lo hi n0) (hsz : Fld Z h0 a1 "com/example/tidebook/tidebook/book/BookSide" "sizes" "[I" (.ref sz)) (ga : n0 ≤ a1) (gs : n0 ≤ sz) :
    Own.Ctr false l (⟨"com/example/tidebook/tidebook/book/BookSide", "clear", "()V"⟩ : MethodName) prog_9_method_9_code 1 none ({ frames := 2, cells := 0, slots := 0, locals := 30 } : Room) #[(.ref a1)] Z h0 Own.VT [a1, sz] (fun v h vm => v = none ∧ True) := by
  refine Own.body (plainFor_of_name pn_5) O0 (fun v h vm q _ => q.1) (fun _ _ _ _ q _ => q) ?_
  intro p e s m below meth c T0 hby hml0 hret hnm hV0 K0
  change Own.Wk false p l e ({ frames := 2, cells := 0, slots := 0, locals := 30 } : Room) s m #[(.ref a1)] below meth c "com/example/tidebook/tidebook/book/BookSide" Z n0 h0 [] s.vm T0 h0 0 0 at K0
  replace K0 := K0.weaken [a1, sz] (allS ga (allS gs all0))
  have hml : c.maxLocals = 1 := hml0
  have S0 : Go p e below (T0.setTop (entryFrame m #[(.ref a1)] 1)) (T0.setTop (mkF m 0 #[.val (.ref a1)] [])) := fun t k => castTop (by first | rfl | (simp [entryFrame, mkF, argsToLocals, Value.category]; done)) k
  generalize T0.setTop (entryFrame m #[(.ref a1)] 1) = A0 at S0 ⊢
  obtain ⟨bl, sz', b0, kb, ks, k0, de, B, Vb, Vs, V0, f5, f6, f7, f8, f9, f10, f11, f12, f13, f14⟩ := SI
  obtain rfl : sz' = sz := by have q := Fld.ne B.2.2.1 hsz; exact Classical.byContradiction fun hne => absurd rfl (q (fun e => hne (Value.ref.inj e)))
  have S1 : Go p e below A0 (T0.setTop (mkF m 1 #[.val (.ref a1)] [(.ref a1)])) := by
    refine S0.trans ?_
    refine (Own.P.aloadN K0.here K0.exec (hb hby d_prog_9_method_9_code_0) rfl rfl).trans ?_
    exact Go.refl _
  obtain ⟨T2, K2, G2⟩ := K0.getF "" (Or.inl (hw _ (List.mem_of_getElem? (i := 46) rfl))) Via.refl B.2.1 (pc := 1) (Ls := #[.val (.ref a1)]) (rest := []) (hb hby d_prog_9_method_9_code_1)
  have S2 : Go p e below A0 (T2.setTop (mkF m 4 #[.val (.ref a1)] [(.ref bl)])) := S1.trans G2
  have S3 : Go p e below A0 (T2.setTop (mkF m 5 #[.val (.ref a1)] [(.int (0 : Int32)), (.ref bl)])) := by
    refine S2.trans ?_
    refine (Own.P.iconst K2.here K2.exec (0 : Int32) (hb hby d_prog_9_method_9_code_4) rfl).trans ?_
    exact Go.refl _
  have G4 := K2.ldR Vb rfl (j := (0 : Int32)) ⟨by decide, by decide⟩ (v := (.ref b0)) rfl (pc := 5) (Ls := #[.val (.ref a1)]) (rest := []) (hb hby d_prog_9_method_9_code_5)
  have S4 : Go p e below A0 (T2.setTop (mkF m 6 #[.val (.ref a1)] [(.ref b0)])) := S3.trans G4
  have S5 : Go p e below A0 (T2.setTop (mkF m 8 #[.val (.ref a1)] [(.ref a1), (.int (0 : Int32)), (.ref b0)])) := by
    refine S4.trans ?_
    refine (Own.P.iconst K2.here K2.exec (0 : Int32) (hb hby d_prog_9_method_9_code_6) rfl).trans ?_
    refine (Own.P.aloadN K2.here K2.exec (hb hby d_prog_9_method_9_code_7) rfl rfl).trans ?_
    exact Go.refl _
  obtain ⟨T6, K6, G6⟩ := K2.getF "" (Or.inl (hw _ (List.mem_of_getElem? (i := 49) rfl))) Via.refl B.2.2.1 (pc := 8) (Ls := #[.val (.ref a1)]) (rest := [(.int (0 : Int32)), (.ref b0)]) (hb hby d_prog_9_method_9_code_8)
  have S6 : Go p e below A0 (T6.setTop (mkF m 11 #[.val (.ref a1)] [(.ref sz'), (.int (0 : Int32)), (.ref b0)])) := S5.trans G6
  have S7 : Go p e below A0 (T6.setTop (mkF m 12 #[.val (.ref a1)] [(.int (0 : Int32)), (.ref sz'), (.int (0 : Int32)), (.ref b0)])) := by
    refine S6.trans ?_
    refine (Own.P.iconst K6.here K6.exec (0 : Int32) (hb hby d_prog_9_method_9_code_11) rfl).trans ?_
    exact Go.refl _
  have G8 := K6.ldI Vs (j := (0 : Int32)) ⟨by decide, by decide⟩ (v := (.int (0 : Int32))) rfl (pc := 12) (Ls := #[.val (.ref a1)]) (rest := [(.int (0 : Int32)), (.ref b0)]) (hb hby d_prog_9_method_9_code_12)
  have S8 : Go p e below A0 (T6.setTop (mkF m 13 #[.val (.ref a1)] [(.int (0 : Int32)), (.int (0 : Int32)), (.ref b0)])) := S7.trans G8
  have S9 : Go p e below A0 (T6.setTop (mkF m 14 #[.val (.ref a1)] [Value.null, (.int (0 : Int32)), (.int (0 : Int32)), (.ref b0)])) := by
    refine S8.trans ?_
    refine (Own.P.null K6.here K6.exec (hb hby d_prog_9_method_9_code_13) ).trans ?_
    exact Go.refl _
  obtain ⟨v10, vm10, vq10, T10, h10, K10, KK10, ev10, Q10, G10⟩ := K6.callS (y := (⟨"java/util/Arrays", "fill", "([Ljava/lang/Object;IILjava/lang/Object;)V"⟩ : MethodName)) (hw _ (List.mem_of_getElem? (i := 153) rfl)) (hw _ (List.mem_of_getElem? (i := 154) rfl)) (hw _ (List.mem_of_getElem? (i := 155) rfl)) (hw _ (List.mem_of_getElem? (i := 156) rfl)) (by decide) (W := 0) (argsL := [(.ref b0), (.int (0 : Int32)), (.int (0 : Int32)), Value.null]) (rest := []) ((c_fillO l Z a0 hw n0 h0 (K6.old) b0 0 k0 _ 256 _ V0 (by decide) (by decide) (by decide) (by decide)).pay Own.VT.cl (hw _ (List.mem_of_getElem? (i := 156) rfl)) (hw _ (List.mem_of_getElem? (i := 155) rfl)) (by decide) (by decide)) trivial (pc := 14) (Ls := #[.val (.ref a1)]) (st := [Value.null, (.int (0 : Int32)), (.int (0 : Int32)), (.ref b0)]) (by rw [hml]; rfl) (lenOf pd_3 rfl) rfl (Nat.le_of_eq rfl) (hb hby d_prog_9_method_9_code_14) (by decide) (by decide) all0
  obtain ⟨rfl, e10⟩ := Q10
  have S10 : Go p e below A0 (T10.setTop (mkF m 17 #[.val (.ref a1)] [])) := S9.trans G10
  subst e10
  have S11 : Go p e below A0 (T10.setTop (mkF m 18 #[.val (.ref a1)] [(.ref a1)])) := by
    refine S10.trans ?_
    refine (Own.P.aloadN K10.here K10.exec (hb hby d_prog_9_method_9_code_17) rfl rfl).trans ?_
    exact Go.refl _
  obtain ⟨T12, K12, G12⟩ := K10.getF "" (Or.inl (hw _ (List.mem_of_getElem? (i := 46) rfl))) Via.refl B.2.1 (pc := 18) (Ls := #[.val (.ref a1)]) (rest := []) (hb hby d_prog_9_method_9_code_18)
  have S12 : Go p e below A0 (T12.setTop (mkF m 21 #[.val (.ref a1)] [(.ref bl)])) := S11.trans G12
  have S13 : Go p e below A0 (T12.setTop (mkF m 23 #[.val (.ref a1)] [(.ref a1), (.int (1 : Int32)), (.ref bl)])) := by
    refine S12.trans ?_
    refine (Own.P.iconst K12.here K12.exec (1 : Int32) (hb hby d_prog_9_method_9_code_21) rfl).trans ?_
    refine (Own.P.aloadN K12.here K12.exec (hb hby d_prog_9_method_9_code_22) rfl rfl).trans ?_
    exact Go.refl _
  obtain ⟨T14, K14, G14⟩ := K12.getF "" (Or.inl (hw _ (List.mem_of_getElem? (i := 51) rfl))) Via.refl B.2.2.2.1 (pc := 23) (Ls := #[.val (.ref a1)]) (rest := [(.int (1 : Int32)), (.ref bl)]) (hb hby d_prog_9_method_9_code_23)
  have S14 : Go p e below A0 (T14.setTop (mkF m 26 #[.val (.ref a1)] [(.int (1 : Int32)), (.int (1 : Int32)), (.ref bl)])) := S13.trans G14
  have S15 : Go p e below A0 (T14.setTop (mkF m 27 #[.val (.ref a1)] [Value.null, (.int (1 : Int32)), (.int (1 : Int32)), (.ref bl)])) := by
    refine S14.trans ?_
    refine (Own.P.null K14.here K14.exec (hb hby d_prog_9_method_9_code_26) ).trans ?_
    exact Go.refl _
  obtain ⟨v16, vm16, vq16, T16, h16, K16, KK16, ev16, Q16, G16⟩ := K14.callS (y := (⟨"java/util/Arrays", "fill", "([Ljava/lang/Object;IILjava/lang/Object;)V"⟩ : MethodName)) (hw _ (List.mem_of_getElem? (i := 153) rfl)) (hw _ (List.mem_of_getElem? (i := 154) rfl)) (hw _ (List.mem_of_getElem? (i := 155) rfl)) (hw _ (List.mem_of_getElem? (i := 156) rfl)) (by decide) (W := 0) (argsL := [(.ref bl), (.int (1 : Int32)), (.int (1 : Int32)), Value.null]) (rest := []) ((c_fillO l Z a0 hw n0 h10 (K14.old) bl 1 kb _ 4 _ Vb (by decide) (by decide) (by decide) (by decide)).pay Own.VT.cl (hw _ (List.mem_of_getElem? (i := 156) rfl)) (hw _ (List.mem_of_getElem? (i := 155) rfl)) (by decide) (by decide)) trivial (pc := 27) (Ls := #[.val (.ref a1)]) (st := [Value.null, (.int (1 : Int32)), (.int (1 : Int32)), (.ref bl)]) (by rw [hml]; rfl) (lenOf pd_3 rfl) rfl (Nat.le_of_eq rfl) (hb hby d_prog_9_method_9_code_27) (by decide) (by decide) all0
  obtain ⟨rfl, e16⟩ := Q16
  have S16 : Go p e below A0 (T16.setTop (mkF m 30 #[.val (.ref a1)] [])) := S15.trans G16
  subst e16
  have S17 : Go p e below A0 (T16.setTop (mkF m 31 #[.val (.ref a1)] [(.ref a1)])) := by
    refine S16.trans ?_
    refine (Own.P.aloadN K16.here K16.exec (hb hby d_prog_9_method_9_code_30) rfl rfl).trans ?_
    exact Go.refl _
  obtain ⟨T18, K18, G18⟩ := K16.getF "" (Or.inl (hw _ (List.mem_of_getElem? (i := 49) rfl))) Via.refl B.2.2.1 (pc := 31) (Ls := #[.val (.ref a1)]) (rest := []) (hb hby d_prog_9_method_9_code_31)
  have S18 : Go p e below A0 (T18.setTop (mkF m 34 #[.val (.ref a1)] [(.ref sz')])) := S17.trans G18
  have S19 : Go p e below A0 (T18.setTop (mkF m 36 #[.val (.ref a1)] [(.ref a1), (.int (0 : Int32)), (.ref sz')])) := by
    refine S18.trans ?_
    refine (Own.P.iconst K18.here K18.exec (0 : Int32) (hb hby d_prog_9_method_9_code_34) rfl).trans ?_
    refine (Own.P.aloadN K18.here K18.exec (hb hby d_prog_9_method_9_code_35) rfl rfl).trans ?_
    exact Go.refl _
  obtain ⟨T20, K20, G20⟩ := K18.getF "" (Or.inl (hw _ (List.mem_of_getElem? (i := 51) rfl))) Via.refl B.2.2.2.1 (pc := 36) (Ls := #[.val (.ref a1)]) (rest := [(.int (0 : Int32)), (.ref sz')]) (hb hby d_prog_9_method_9_code_36)
  have S20 : Go p e below A0 (T20.setTop (mkF m 39 #[.val (.ref a1)] [(.int (1 : Int32)), (.int (0 : Int32)), (.ref sz')])) := S19.trans G20
  have S21 : Go p e below A0 (T20.setTop (mkF m 40 #[.val (.ref a1)] [(.int (0 : Int32)), (.int (1 : Int32)), (.int (0 : Int32)), (.ref sz')])) := by
    refine S20.trans ?_
    refine (Own.P.iconst K20.here K20.exec (0 : Int32) (hb hby d_prog_9_method_9_code_39) rfl).trans ?_
    exact Go.refl _
  obtain ⟨v22, vm22, vq22, T22, h22, K22, KK22, ev22, Q22, G22⟩ := K20.callS (y := (⟨"java/util/Arrays", "fill", "([IIII)V"⟩ : MethodName)) (hw _ (List.mem_of_getElem? (i := 160) rfl)) (hw _ (List.mem_of_getElem? (i := 161) rfl)) (hw _ (List.mem_of_getElem? (i := 155) rfl)) (hw _ (List.mem_of_getElem? (i := 162) rfl)) (by decide) (W := 0) (argsL := [(.ref sz'), (.int (0 : Int32)), (.int (1 : Int32)), (.int (0 : Int32))]) (rest := []) ((c_fillI l Z a0 hw n0 h16 (K20.old) sz' ks Vs gs).pay Own.VT.cl (hw _ (List.mem_of_getElem? (i := 162) rfl)) (hw _ (List.mem_of_getElem? (i := 155) rfl)) (by decide) (by decide)) trivial (pc := 40) (Ls := #[.val (.ref a1)]) (st := [(.int (0 : Int32)), (.int (1 : Int32)), (.int (0 : Int32)), (.ref sz')]) (by rw [hml]; rfl) (lenOf pd_4 rfl) rfl (Nat.le_of_eq rfl) (hb hby d_prog_9_method_9_code_40) (by decide) (by decide) (allS (Or.inl (List.mem_of_getElem? (i := 1) rfl)) all0)
  obtain ⟨rfl, -⟩ := Q22
  have S22 : Go p e below A0 (T22.setTop (mkF m 43 #[.val (.ref a1)] [])) := S21.trans G22
  have B1 := B.keep KK22 (ninS (Nat.ne_of_lt f14) nin0)
  have S23 : Go p e below A0 (T22.setTop (mkF m 45 #[.val (.ref a1)] [(.int (1 : Int32)), (.ref a1)])) := by
    refine S22.trans ?_
    refine (Own.P.aloadN K22.here K22.exec (hb hby d_prog_9_method_9_code_43) rfl rfl).trans ?_
    refine (Own.P.iconst K22.here K22.exec (1 : Int32) (hb hby d_prog_9_method_9_code_44) rfl).trans ?_
    exact Go.refl _
  obtain ⟨T24, h24, K24, W24, G24⟩ := K22.putF "" (Or.inl (hw _ (List.mem_of_getElem? (i := 51) rfl))) Via.refl B1.2.2.2.1 B1.1 (Or.inl (hw _ (List.mem_of_getElem? (i := 52) rfl))) (hw _ (List.mem_of_getElem? (i := 38) rfl)) (ty := .int) (by decide) (v := (.int (1 : Int32))) rfl rfl (Or.inl (List.mem_of_getElem? (i := 0) rfl)) (pc := 45) (Ls := #[.val (.ref a1)]) (rest := []) (hb hby d_prog_9_method_9_code_45)
  have S24 : Go p e below A0 (T24.setTop (mkF m 48 #[.val (.ref a1)] [])) := S23.trans G24
  have B2 := B1.set_ct hw W24
  have S25 : Go p e below A0 (T24.setTop (mkF m 50 #[.val (.ref a1)] [(.int (0 : Int32)), (.ref a1)])) := by
    refine S24.trans ?_
    refine (Own.P.aloadN K24.here K24.exec (hb hby d_prog_9_method_9_code_48) rfl rfl).trans ?_
    refine (Own.P.iconst K24.here K24.exec (0 : Int32) (hb hby d_prog_9_method_9_code_49) rfl).trans ?_
    exact Go.refl _
  obtain ⟨T26, h26, K26, W26, G26⟩ := K24.putF "" (Or.inl (hw _ (List.mem_of_getElem? (i := 163) rfl))) Via.refl B2.2.2.2.2.2 B2.1 (Or.inl (hw _ (List.mem_of_getElem? (i := 164) rfl))) (hw _ (List.mem_of_getElem? (i := 38) rfl)) (ty := .int) (by decide) (v := (.int (0 : Int32))) rfl rfl (Or.inl (List.mem_of_getElem? (i := 0) rfl)) (pc := 50) (Ls := #[.val (.ref a1)]) (rest := []) (hb hby d_prog_9_method_9_code_50)
  have S26 : Go p e below A0 (T26.setTop (mkF m 53 #[.val (.ref a1)] [])) := S25.trans G26
  exact ⟨vm22, T26, h26, none, _, _, K26, by decide, by decide, ⟨rfl, trivial⟩, K26.retV S26 hret (hb hby d_prog_9_method_9_code_53)⟩
def ItAt (Z : State) (h : Heap) (a : Addr) (vt : Value) (lr : Int32) (em : Int32) (cu : Int32) : Prop := Exa Z h a "java/util/ArrayList$Itr" ∧ Fld Z h a "java/util/ArrayList$Itr" "this$0" "Ljava/util/ArrayList;" (vt) ∧ Fld Z h a "java/util/ArrayList$Itr" "lastRet" "I" (.int lr) ∧ Fld Z h a "java/util/ArrayList$Itr" "expectedModCount" "I" (.int em) ∧ Fld Z h a "java/util/ArrayList$Itr" "cursor" "I" (.int cu)
theorem ItAt.keep {Z : State} {h h' : Heap} {a : Addr} {ws : List Addr} {vt : Value} {lr : Int32} {em : Int32} {cu : Int32} (F : ItAt Z h a vt lr em cu) (K : Keep h h' ws) (q : a ∉ ws) : ItAt Z h' a vt lr em cu := ⟨F.1.keep K, (F.2.1).keep K q, (F.2.2.1).keep K q, (F.2.2.2.1).keep K q, (F.2.2.2.2).keep K q⟩
theorem ItAt.ext {Z : State} {h h' : Heap} {a : Addr} {vt : Value} {lr : Int32} {em : Int32} {cu : Int32} (F : ItAt Z h a vt lr em cu) (E : Ext h h') : ItAt Z h' a vt lr em cu := ⟨F.1.ext E, (F.2.1).ext E, (F.2.2.1).ext E, (F.2.2.2.1).ext E, (F.2.2.2.2).ext E⟩
theorem ItAt.wrO {Z : State} {h h' : Heap} {a b : Addr} {sl : Nat} {w : Value} {vt : Value} {lr : Int32} {em : Int32} {cu : Int32} (F : ItAt Z h a vt lr em cu) (W : Wr h h' b sl w) (q : a ≠ b) : ItAt Z h' a vt lr em cu := ⟨F.1.wr W, (F.2.1).other W (Or.inl q), (F.2.2.1).other W (Or.inl q), (F.2.2.2.1).other W (Or.inl q), (F.2.2.2.2).other W (Or.inl q)⟩
theorem ItAt.set_vt {Z : State} {a0 : Array Value} (hw : ∀ d ∈ tables_1, d.before a0 Z = true) {h h' : Heap} {a : Addr} {vt : Value} {lr : Int32} {em : Int32} {cu : Int32} {x' : Value} (F : ItAt Z h a vt lr em cu) (W : Wr h h' a (RoadKit.slotOf Z "java/util/ArrayList$Itr" "this$0" "Ljava/util/ArrayList;") (x')) : ItAt Z h' a x' lr em cu := ⟨F.1.wr W, (F.2.1).same W, (F.2.2.1).other W (Or.inr (slot_ne (C := "java/util/ArrayList$Itr") (Or.inl (hw _ (List.mem_of_getElem? (i := 185) rfl))) (Or.inr (hw _ (List.mem_of_getElem? (i := 182) rfl))) (by decide) (t := .int) (t' := (.object "java/util/ArrayList")) (by decide) (by decide))), (F.2.2.2.1).other W (Or.inr (slot_ne (C := "java/util/ArrayList$Itr") (Or.inl (hw _ (List.mem_of_getElem? (i := 189) rfl))) (Or.inr (hw _ (List.mem_of_getElem? (i := 182) rfl))) (by decide) (t := .int) (t' := (.object "java/util/ArrayList")) (by decide) (by decide))), (F.2.2.2.2).other W (Or.inr (slot_ne (C := "java/util/ArrayList$Itr") (Or.inl (hw _ (List.mem_of_getElem? (i := 200) rfl))) (Or.inr (hw _ (List.mem_of_getElem? (i := 182) rfl))) (by decide) (t := .int) (t' := (.object "java/util/ArrayList")) (by decide) (by decide)))⟩
theorem ItAt.set_lr {Z : State} {a0 : Array Value} (hw : ∀ d ∈ tables_1, d.before a0 Z = true) {h h' : Heap} {a : Addr} {vt : Value} {lr : Int32} {em : Int32} {cu : Int32} {x' : Int32} (F : ItAt Z h a vt lr em cu) (W : Wr h h' a (RoadKit.slotOf Z "java/util/ArrayList$Itr" "lastRet" "I") (.int x')) : ItAt Z h' a vt x' em cu := ⟨F.1.wr W, (F.2.1).other W (Or.inr (slot_ne (C := "java/util/ArrayList$Itr") (Or.inr (hw _ (List.mem_of_getElem? (i := 182) rfl))) (Or.inl (hw _ (List.mem_of_getElem? (i := 185) rfl))) (by decide) (t := (.object "java/util/ArrayList")) (t' := .int) (by decide) (by decide))), (F.2.2.1).same W, (F.2.2.2.1).other W (Or.inr (slot_ne (C := "java/util/ArrayList$Itr") (Or.inl (hw _ (List.mem_of_getElem? (i := 189) rfl))) (Or.inl (hw _ (List.mem_of_getElem? (i := 185) rfl))) (by decide) (t := .int) (t' := .int) (by decide) (by decide))), (F.2.2.2.2).other W (Or.inr (slot_ne (C := "java/util/ArrayList$Itr") (Or.inl (hw _ (List.mem_of_getElem? (i := 200) rfl))) (Or.inl (hw _ (List.mem_of_getElem? (i := 185) rfl))) (by decide) (t := .int) (t' := .int) (by decide) (by decide)))⟩
theorem ItAt.set_em {Z : State} {a0 : Array Value} (hw : ∀ d ∈ tables_1, d.before a0 Z = true) {h h' : Heap} {a : Addr} {vt : Value} {lr : Int32} {em : Int32} {cu : Int32} {x' : Int32} (F : ItAt Z h a vt lr em cu) (W : Wr h h' a (RoadKit.slotOf Z "java/util/ArrayList$Itr" "expectedModCount" "I") (.int x')) : ItAt Z h' a vt lr x' cu := ⟨F.1.wr W, (F.2.1).other W (Or.inr (slot_ne (C := "java/util/ArrayList$Itr") (Or.inr (hw _ (List.mem_of_getElem? (i := 182) rfl))) (Or.inl (hw _ (List.mem_of_getElem? (i := 189) rfl))) (by decide) (t := (.object "java/util/ArrayList")) (t' := .int) (by decide) (by decide))), (F.2.2.1).other W (Or.inr (slot_ne (C := "java/util/ArrayList$Itr") (Or.inl (hw _ (List.mem_of_getElem? (i := 185) rfl))) (Or.inl (hw _ (List.mem_of_getElem? (i := 189) rfl))) (by decide) (t := .int) (t' := .int) (by decide) (by decide))), (F.2.2.2.1).same W, (F.2.2.2.2).other W (Or.inr (slot_ne (C := "java/util/ArrayList$Itr") (Or.inl (hw _ (List.mem_of_getElem? (i := 200) rfl))) (Or.inl (hw _ (List.mem_of_getElem? (i := 189) rfl))) (by decide) (t := .int) (t' := .int) (by decide) (by decide)))⟩
theorem ItAt.set_cu {Z : State} {a0 : Array Value} (hw : ∀ d ∈ tables_1, d.before a0 Z = true) {h h' : Heap} {a : Addr} {vt : Value} {lr : Int32} {em : Int32} {cu : Int32} {x' : Int32} (F : ItAt Z h a vt lr em cu) (W : Wr h h' a (RoadKit.slotOf Z "java/util/ArrayList$Itr" "cursor" "I") (.int x')) : ItAt Z h' a vt lr em x' := ⟨F.1.wr W, (F.2.1).other W (Or.inr (slot_ne (C := "java/util/ArrayList$Itr") (Or.inr (hw _ (List.mem_of_getElem? (i := 182) rfl))) (Or.inl (hw _ (List.mem_of_getElem? (i := 200) rfl))) (by decide) (t := (.object "java/util/ArrayList")) (t' := .int) (by decide) (by decide))), (F.2.2.1).other W (Or.inr (slot_ne (C := "java/util/ArrayList$Itr") (Or.inl (hw _ (List.mem_of_getElem? (i := 185) rfl))) (Or.inl (hw _ (List.mem_of_getElem? (i := 200) rfl))) (by decide) (t := .int) (t' := .int) (by decide) (by decide))), (F.2.2.2.1).other W (Or.inr (slot_ne (C := "java/util/ArrayList$Itr") (Or.inl (hw _ (List.mem_of_getElem? (i := 189) rfl))) (Or.inl (hw _ (List.mem_of_getElem? (i := 200) rfl))) (by decide) (t := .int) (t' := .int) (by decide) (by decide))), (F.2.2.2.2).same W⟩
theorem ItAt.new {Z : State} {a0 : Array Value} (hw : ∀ d ∈ tables_1, d.before a0 Z = true) {h : Heap} {a : Addr} (X : Exa Z h a "java/util/ArrayList$Itr") (D : ∀ {O nm d : String} {ty : FieldType}, Laid Z a0 "java/util/ArrayList$Itr" O nm d → parseFieldDescriptor d = some ty → Fld Z h a O nm d (defaultValue ty)) : Exa Z h a "java/util/ArrayList$Itr" ∧ Fld Z h a "java/util/ArrayList$Itr" "this$0" "Ljava/util/ArrayList;" (.null) ∧ Fld Z h a "java/util/ArrayList$Itr" "lastRet" "I" (.int 0) ∧ Fld Z h a "java/util/ArrayList$Itr" "expectedModCount" "I" (.int 0) ∧ Fld Z h a "java/util/ArrayList$Itr" "cursor" "I" (.int 0) := ⟨X, D (Or.inr (hw _ (List.mem_of_getElem? (i := 182) rfl))) (ty := (.object "java/util/ArrayList")) (by decide), D (Or.inl (hw _ (List.mem_of_getElem? (i := 185) rfl))) (ty := .int) (by decide), D (Or.inl (hw _ (List.mem_of_getElem? (i := 189) rfl))) (ty := .int) (by decide), D (Or.inl (hw _ (List.mem_of_getElem? (i := 200) rfl))) (ty := .int) (by decide)⟩
theorem d_jdk_49_method_1_code_0 : decode jdk_49_method_1_code 0 = .ok (.aload_n 0, 1) := by decide +kernel
theorem d_jdk_49_method_1_code_1 : decode jdk_49_method_1_code 1 = .ok (.aload_n 1, 1) := by decide +kernel
theorem d_jdk_49_method_1_code_2 : decode jdk_49_method_1_code 2 = .ok (.putfield 1, 3) := by decide +kernel
theorem d_jdk_49_method_1_code_5 : decode jdk_49_method_1_code 5 = .ok (.aload_n 0, 1) := by decide +kernel
theorem d_jdk_49_method_1_code_6 : decode jdk_49_method_1_code 6 = .ok (.invokespecial 7, 3) := by decide +kernel
theorem d_jdk_49_method_1_code_9 : decode jdk_49_method_1_code 9 = .ok (.aload_n 0, 1) := by decide +kernel
theorem d_jdk_49_method_1_code_10 : decode jdk_49_method_1_code 10 = .ok (.iconst (-1), 1) := by decide +kernel
theorem d_jdk_49_method_1_code_11 : decode jdk_49_method_1_code 11 = .ok (.putfield 13, 3) := by decide +kernel
theorem d_jdk_49_method_1_code_14 : decode jdk_49_method_1_code 14 = .ok (.aload_n 0, 1) := by decide +kernel
theorem d_jdk_49_method_1_code_15 : decode jdk_49_method_1_code 15 = .ok (.aload_n 0, 1) := by decide +kernel
theorem d_jdk_49_method_1_code_16 : decode jdk_49_method_1_code 16 = .ok (.getfield 1, 3) := by decide +kernel
theorem d_jdk_49_method_1_code_19 : decode jdk_49_method_1_code 19 = .ok (.getfield 17, 3) := by decide +kernel
theorem d_jdk_49_method_1_code_22 : decode jdk_49_method_1_code 22 = .ok (.putfield 22, 3) := by decide +kernel
theorem d_jdk_49_method_1_code_25 : decode jdk_49_method_1_code 25 = .ok (.return_, 1) := by decide +kernel
theorem pn_7 : plainName "java/util/ArrayList$Itr" = true := by first | (simp [plainName, overriddenIn]; done) | decide +kernel
set_option maxRecDepth 65536 in
set_option maxHeartbeats 40000000 in
theorem c_itr (l : Launch) (Z : State) (a0 : Array Value) (hw : ∀ d ∈ tables_1, d.before a0 Z = true) (n0 : Nat) (h0 : Heap) (O0 : Old Z n0 h0) (a1 a2 : Addr) (ve : Value) (C : ItAt Z h0 a1 .null 0 0 0) (B : AlAt Z h0 a2 0 ve 0) (g1 : n0 ≤ a1) (ne : a2 ≠ a1) :
    Own.Ctr false l (⟨"java/util/ArrayList$Itr", "<init>", "(Ljava/util/ArrayList;)V"⟩ : MethodName) jdk_49_method_1_code 2 none ({ frames := 1, cells := 0, slots := 0, locals := 12 } : Room) #[(.ref a1), (.ref a2)] Z h0 Own.VT [a1] (fun v h vm => v = none ∧ ItAt Z h a1 (.ref a2) (-1) 0 0) := by
  refine Own.body (plainFor_of_name pn_7) O0 (fun v h vm q _ => q.1) (fun _ _ _ _ q _ => q) ?_
  intro p e s m below meth c T0 hby hml0 hret hnm hV0 K0
  change Own.Wk false p l e ({ frames := 1, cells := 0, slots := 0, locals := 12 } : Room) s m #[(.ref a1), (.ref a2)] below meth c "java/util/ArrayList$Itr" Z n0 h0 [] s.vm T0 h0 0 0 at K0
  replace K0 := K0.weaken [a1] (allS g1 all0)
  have hml : c.maxLocals = 2 := hml0
  have S0 : Go p e below (T0.setTop (entryFrame m #[(.ref a1), (.ref a2)] 2)) (T0.setTop (mkF m 0 #[.val (.ref a1), .val (.ref a2)] [])) := fun t k => castTop (by first | rfl | (simp [entryFrame, mkF, argsToLocals, Value.category]; done)) k
  generalize T0.setTop (entryFrame m #[(.ref a1), (.ref a2)] 2) = A0 at S0 ⊢
  have S1 : Go p e below A0 (T0.setTop (mkF m 2 #[.val (.ref a1), .val (.ref a2)] [(.ref a2), (.ref a1)])) := by
    refine S0.trans ?_
    refine (Own.P.aloadN K0.here K0.exec (hb hby d_jdk_49_method_1_code_0) rfl rfl).trans ?_
    refine (Own.P.aloadN K0.here K0.exec (hb hby d_jdk_49_method_1_code_1) rfl rfl).trans ?_
    exact Go.refl _
  obtain ⟨T2, h2, K2, W2, G2⟩ := K0.putF "" (Or.inl (hw _ (List.mem_of_getElem? (i := 181) rfl))) Via.refl C.2.1 C.1 (Or.inr ⟨(hw _ (List.mem_of_getElem? (i := 182) rfl)), rfl, hnm⟩) (hw _ (List.mem_of_getElem? (i := 175) rfl)) (ty := (.object "java/util/ArrayList")) (by decide) (v := (.ref a2)) rfl rfl (Or.inl (List.mem_of_getElem? (i := 0) rfl)) (pc := 2) (Ls := #[.val (.ref a1), .val (.ref a2)]) (rest := []) (hb hby d_jdk_49_method_1_code_2)
  have S2 : Go p e below A0 (T2.setTop (mkF m 5 #[.val (.ref a1), .val (.ref a2)] [])) := S1.trans G2
  have C1 := C.set_vt hw W2
  have B1 := B.wrO W2 ne
  have S3 : Go p e below A0 (T2.setTop (mkF m 6 #[.val (.ref a1), .val (.ref a2)] [(.ref a1)])) := by
    refine S2.trans ?_
    refine (Own.P.aloadN K2.here K2.exec (hb hby d_jdk_49_method_1_code_5) rfl rfl).trans ?_
    exact Go.refl _
  obtain ⟨T4, K4, G4⟩ := K2.initO (hw _ (List.mem_of_getElem? (i := 183) rfl)) (hw _ (List.mem_of_getElem? (i := 12) rfl)) (hw _ (List.mem_of_getElem? (i := 13) rfl)) (pc := 6) (Ls := #[.val (.ref a1), .val (.ref a2)]) (rest := []) (by rw [hml]; rfl) (hb hby d_jdk_49_method_1_code_6) (by decide) (W := 0) (Nat.le_of_eq rfl) (by decide)
  have S4 : Go p e below A0 (T4.setTop (mkF m 9 #[.val (.ref a1), .val (.ref a2)] [])) := S3.trans G4
  have S5 : Go p e below A0 (T4.setTop (mkF m 11 #[.val (.ref a1), .val (.ref a2)] [(.int (-1 : Int32)), (.ref a1)])) := by
    refine S4.trans ?_
    refine (Own.P.aloadN K4.here K4.exec (hb hby d_jdk_49_method_1_code_9) rfl rfl).trans ?_
    refine (Own.P.iconst K4.here K4.exec (-1 : Int32) (hb hby d_jdk_49_method_1_code_10) rfl).trans ?_
    exact Go.refl _
  obtain ⟨T6, h6, K6, W6, G6⟩ := K4.putF "" (Or.inl (hw _ (List.mem_of_getElem? (i := 184) rfl))) Via.refl C1.2.2.1 C1.1 (Or.inl (hw _ (List.mem_of_getElem? (i := 185) rfl))) (hw _ (List.mem_of_getElem? (i := 175) rfl)) (ty := .int) (by decide) (v := (.int (-1 : Int32))) rfl rfl (Or.inl (List.mem_of_getElem? (i := 0) rfl)) (pc := 11) (Ls := #[.val (.ref a1), .val (.ref a2)]) (rest := []) (hb hby d_jdk_49_method_1_code_11)
  have S6 : Go p e below A0 (T6.setTop (mkF m 14 #[.val (.ref a1), .val (.ref a2)] [])) := S5.trans G6
  have C2 := C1.set_lr hw W6
  have B2 := B1.wrO W6 ne
  have S7 : Go p e below A0 (T6.setTop (mkF m 16 #[.val (.ref a1), .val (.ref a2)] [(.ref a1), (.ref a1)])) := by
    refine S6.trans ?_
    refine (Own.P.aloadN K6.here K6.exec (hb hby d_jdk_49_method_1_code_14) rfl rfl).trans ?_
    refine (Own.P.aloadN K6.here K6.exec (hb hby d_jdk_49_method_1_code_15) rfl rfl).trans ?_
    exact Go.refl _
  obtain ⟨T8, K8, G8⟩ := K6.getF "" (Or.inl (hw _ (List.mem_of_getElem? (i := 181) rfl))) Via.refl C2.2.1 (pc := 16) (Ls := #[.val (.ref a1), .val (.ref a2)]) (rest := [(.ref a1)]) (hb hby d_jdk_49_method_1_code_16)
  have S8 : Go p e below A0 (T8.setTop (mkF m 19 #[.val (.ref a1), .val (.ref a2)] [(.ref a2), (.ref a1)])) := S7.trans G8
  obtain ⟨T9, K9, G9⟩ := K8.getF "" (Or.inl (hw _ (List.mem_of_getElem? (i := 186) rfl))) (Via.of (hw _ (List.mem_of_getElem? (i := 187) rfl))) B2.2.1 (pc := 19) (Ls := #[.val (.ref a1), .val (.ref a2)]) (rest := [(.ref a1)]) (hb hby d_jdk_49_method_1_code_19)
  have S9 : Go p e below A0 (T9.setTop (mkF m 22 #[.val (.ref a1), .val (.ref a2)] [(.int (0 : Int32)), (.ref a1)])) := S8.trans G9
  obtain ⟨T10, h10, K10, W10, G10⟩ := K9.putF "" (Or.inl (hw _ (List.mem_of_getElem? (i := 188) rfl))) Via.refl C2.2.2.2.1 C2.1 (Or.inl (hw _ (List.mem_of_getElem? (i := 189) rfl))) (hw _ (List.mem_of_getElem? (i := 175) rfl)) (ty := .int) (by decide) (v := (.int (0 : Int32))) rfl rfl (Or.inl (List.mem_of_getElem? (i := 0) rfl)) (pc := 22) (Ls := #[.val (.ref a1), .val (.ref a2)]) (rest := []) (hb hby d_jdk_49_method_1_code_22)
  have S10 : Go p e below A0 (T10.setTop (mkF m 25 #[.val (.ref a1), .val (.ref a2)] [])) := S9.trans G10
  exact ⟨s.vm, T10, h10, none, _, _, K10, by decide, by decide, ⟨rfl, C2.set_em hw W10⟩, K10.retV S10 hret (hb hby d_jdk_49_method_1_code_25)⟩
theorem d_jdk_38_method_55_code_0 : decode jdk_38_method_55_code 0 = .ok (.new 267, 3) := by decide +kernel
theorem d_jdk_38_method_55_code_3 : decode jdk_38_method_55_code 3 = .ok (.dup, 1) := by decide +kernel
theorem d_jdk_38_method_55_code_4 : decode jdk_38_method_55_code 4 = .ok (.aload_n 0, 1) := by decide +kernel
theorem pd_5 : parseMethodDescriptor "(Ljava/util/ArrayList;)V" = some ⟨[(.object "java/util/ArrayList")], none⟩ := by decide +kernel
theorem d_jdk_38_method_55_code_5 : decode jdk_38_method_55_code 5 = .ok (.invokespecial 269, 3) := by decide +kernel
theorem d_jdk_38_method_55_code_8 : decode jdk_38_method_55_code 8 = .ok (.areturn, 1) := by decide +kernel
set_option maxRecDepth 65536 in
set_option maxHeartbeats 40000000 in
theorem c_iter (l : Launch) (Z : State) (a0 : Array Value) (hw : ∀ d ∈ tables_1, d.before a0 Z = true) (n0 : Nat) (h0 : Heap) (O0 : Old Z n0 h0) (a2 : Addr) (ve : Value) (B : AlAt Z h0 a2 0 ve 0) :
    Own.Ctr false l (⟨"java/util/ArrayList", "iterator", "()Ljava/util/Iterator;"⟩ : MethodName) jdk_38_method_55_code 1 (some (.object "java/util/Iterator")) ({ frames := 2, cells := 1, slots := 4, locals := 26 } : Room) #[(.ref a2)] Z h0 Own.VT [] (fun v h vm => ∃ it, v = some (.ref it) ∧ ItAt Z h it (.ref a2) (-1) 0 0 ∧ AlAt Z h a2 0 ve 0) := by
  refine Own.body (plainFor_of_name pn_4) O0 (fun _ _ _ _ q => by cases q) (fun _ _ _ _ q _ => q) ?_
  intro p e s m below meth c T0 hby hml0 hret hnm hV0 K0
  change Own.Wk false p l e ({ frames := 2, cells := 1, slots := 4, locals := 26 } : Room) s m #[(.ref a2)] below meth c "java/util/ArrayList" Z n0 h0 [] s.vm T0 h0 0 0 at K0
  have hml : c.maxLocals = 1 := hml0
  have S0 : Go p e below (T0.setTop (entryFrame m #[(.ref a2)] 1)) (T0.setTop (mkF m 0 #[.val (.ref a2)] [])) := fun t k => castTop (by first | rfl | (simp [entryFrame, mkF, argsToLocals, Value.category]; done)) k
  generalize T0.setTop (entryFrame m #[(.ref a2)] 1) = A0 at S0 ⊢
  obtain ⟨T1, h1, it, K1, E1, g_it, l_it, ne_it, X_it, D_it, G1⟩ := K0.newO (hw _ (List.mem_of_getElem? (i := 174) rfl)) (hw _ (List.mem_of_getElem? (i := 175) rfl)) (hw _ (List.mem_of_getElem? (i := 176) rfl)) (pc := 0) (Ls := #[.val (.ref a2)]) (rest := []) (hb hby d_jdk_38_method_55_code_0) (by decide) (by decide)
  have S1 : Go p e below A0 (T1.setTop (mkF m 3 #[.val (.ref a2)] [(.ref it)])) := S0.trans G1
  have B1 := B.ext E1
  have ne1 := ne_it _ B.1.lt
  have C0 := ItAt.new hw X_it D_it
  have S2 : Go p e below A0 (T1.setTop (mkF m 5 #[.val (.ref a2)] [(.ref a2), (.ref it), (.ref it)])) := by
    refine S1.trans ?_
    refine (Own.P.dup K1.here K1.exec (hb hby d_jdk_38_method_55_code_3) rfl).trans ?_
    refine (Own.P.aloadN K1.here K1.exec (hb hby d_jdk_38_method_55_code_4) rfl rfl).trans ?_
    exact Go.refl _
  obtain ⟨v3, vm3, vq3, T3, h3, K3, KK3, ev3, Q3, G3⟩ := K1.callI (y := (⟨"java/util/ArrayList$Itr", "<init>", "(Ljava/util/ArrayList;)V"⟩ : MethodName)) rfl (hw _ (List.mem_of_getElem? (i := 177) rfl)) (hw _ (List.mem_of_getElem? (i := 178) rfl)) (hw _ (List.mem_of_getElem? (i := 180) rfl)) (by decide) (W := 1) (a := it) (argsL := [(.ref a2)]) (rest := [(.ref it)]) ((c_itr l Z a0 hw n0 h1 K1.old it a2 ve C0 B1 (Nat.le_trans K0.2.2.2.1 g_it) ne1).pay Own.VT.cl (hw _ (List.mem_of_getElem? (i := 180) rfl)) (hw _ (List.mem_of_getElem? (i := 176) rfl)) (by decide) (by decide)) trivial (pc := 5) (Ls := #[.val (.ref a2)]) (st := [(.ref a2), (.ref it), (.ref it)]) (by rw [hml]; rfl) (lenOf pd_5 rfl) rfl (Nat.le_of_eq rfl) (hb hby d_jdk_38_method_55_code_5) (by decide) (by decide) (allS (Or.inr g_it) all0)
  obtain ⟨rfl, C1⟩ := Q3
  have S3 : Go p e below A0 (T3.setTop (mkF m 8 #[.val (.ref a2)] [(.ref it)])) := S2.trans G3
  have B2 := B1.keep KK3 (ninS ne1 nin0)
  exact ⟨vm3, T3, h3, (some (.ref it)), _, _, K3, by decide, by decide, ⟨it, rfl, C1, B2⟩, K3.retW S3 hret rfl (Or.inr (Or.inr (Or.inr (Or.inr ⟨rfl, rfl, rfl⟩)))) (hb hby d_jdk_38_method_55_code_8)⟩
theorem d_jdk_49_method_2_code_0 : decode jdk_49_method_2_code 0 = .ok (.aload_n 0, 1) := by decide +kernel
theorem d_jdk_49_method_2_code_1 : decode jdk_49_method_2_code 1 = .ok (.getfield 25, 3) := by decide +kernel
theorem d_jdk_49_method_2_code_4 : decode jdk_49_method_2_code 4 = .ok (.aload_n 0, 1) := by decide +kernel
theorem d_jdk_49_method_2_code_5 : decode jdk_49_method_2_code 5 = .ok (.getfield 1, 3) := by decide +kernel
theorem d_jdk_49_method_2_code_8 : decode jdk_49_method_2_code 8 = .ok (.getfield 28, 3) := by decide +kernel
theorem d_jdk_49_method_2_code_11 : decode jdk_49_method_2_code 11 = .ok (.if_icmp .eq 7, 3) := by decide +kernel
theorem d_jdk_49_method_2_code_18 : decode jdk_49_method_2_code 18 = .ok (.iconst 0, 1) := by decide +kernel
theorem d_jdk_49_method_2_code_19 : decode jdk_49_method_2_code 19 = .ok (.ireturn, 1) := by decide +kernel
set_option maxRecDepth 65536 in
set_option maxHeartbeats 40000000 in
theorem c_hasNext (l : Launch) (Z : State) (a0 : Array Value) (hw : ∀ d ∈ tables_1, d.before a0 Z = true) (n0 : Nat) (h0 : Heap) (O0 : Old Z n0 h0) (a1 a2 : Addr) (ve : Value) (C : ItAt Z h0 a1 (.ref a2) (-1) 0 0) (B : AlAt Z h0 a2 0 ve 0) :
    Own.Ctr false l (⟨"java/util/ArrayList$Itr", "hasNext", "()Z"⟩ : MethodName) jdk_49_method_2_code 1 (some .boolean) ({ frames := 0, cells := 0, slots := 0, locals := 0 } : Room) #[(.ref a1)] Z h0 Own.VT [] (fun v h vm => v = some (.int 0) ∧ h = h0) := by
  refine Own.body (plainFor_of_name pn_7) O0 (fun _ _ _ _ q => by cases q) (fun _ _ _ _ q _ => q) ?_
  intro p e s m below meth c T0 hby hml0 hret hnm hV0 K0
  change Own.Wk false p l e ({ frames := 0, cells := 0, slots := 0, locals := 0 } : Room) s m #[(.ref a1)] below meth c "java/util/ArrayList$Itr" Z n0 h0 [] s.vm T0 h0 0 0 at K0
  have hml : c.maxLocals = 1 := hml0
  have S0 : Go p e below (T0.setTop (entryFrame m #[(.ref a1)] 1)) (T0.setTop (mkF m 0 #[.val (.ref a1)] [])) := fun t k => castTop (by first | rfl | (simp [entryFrame, mkF, argsToLocals, Value.category]; done)) k
  generalize T0.setTop (entryFrame m #[(.ref a1)] 1) = A0 at S0 ⊢
  have S1 : Go p e below A0 (T0.setTop (mkF m 1 #[.val (.ref a1)] [(.ref a1)])) := by
    refine S0.trans ?_
    refine (Own.P.aloadN K0.here K0.exec (hb hby d_jdk_49_method_2_code_0) rfl rfl).trans ?_
    exact Go.refl _
  obtain ⟨T2, K2, G2⟩ := K0.getF "" (Or.inl (hw _ (List.mem_of_getElem? (i := 199) rfl))) Via.refl C.2.2.2.2 (pc := 1) (Ls := #[.val (.ref a1)]) (rest := []) (hb hby d_jdk_49_method_2_code_1)
  have S2 : Go p e below A0 (T2.setTop (mkF m 4 #[.val (.ref a1)] [(.int (0 : Int32))])) := S1.trans G2
  have S3 : Go p e below A0 (T2.setTop (mkF m 5 #[.val (.ref a1)] [(.ref a1), (.int (0 : Int32))])) := by
    refine S2.trans ?_
    refine (Own.P.aloadN K2.here K2.exec (hb hby d_jdk_49_method_2_code_4) rfl rfl).trans ?_
    exact Go.refl _
  obtain ⟨T4, K4, G4⟩ := K2.getF "" (Or.inl (hw _ (List.mem_of_getElem? (i := 181) rfl))) Via.refl C.2.1 (pc := 5) (Ls := #[.val (.ref a1)]) (rest := [(.int (0 : Int32))]) (hb hby d_jdk_49_method_2_code_5)
  have S4 : Go p e below A0 (T4.setTop (mkF m 8 #[.val (.ref a1)] [(.ref a2), (.int (0 : Int32))])) := S3.trans G4
  obtain ⟨T5, K5, G5⟩ := K4.getF "java/util/ArrayList" (Or.inr (hw _ (List.mem_of_getElem? (i := 201) rfl))) Via.refl B.2.2.2 (pc := 8) (Ls := #[.val (.ref a1)]) (rest := [(.int (0 : Int32))]) (hb hby d_jdk_49_method_2_code_8)
  have S5 : Go p e below A0 (T5.setTop (mkF m 11 #[.val (.ref a1)] [(.int (0 : Int32)), (.int (0 : Int32))])) := S4.trans G5
  have S6 : Go p e below A0 (T5.setTop (mkF m 19 #[.val (.ref a1)] [(.int (0 : Int32))])) := by
    refine S5.trans ?_
    refine (Own.P.icmpYes K5.here K5.exec 18 (hb hby d_jdk_49_method_2_code_11) (by decide) (by decide) (by decide)).trans ?_
    refine (Own.P.iconst K5.here K5.exec (0 : Int32) (hb hby d_jdk_49_method_2_code_18) rfl).trans ?_
    exact Go.refl _
  exact ⟨s.vm, T5, h0, (some (.int (0 : Int32))), _, _, K5, by decide, by decide, ⟨rfl, rfl⟩, K5.retW S6 hret rfl (Or.inl ⟨rfl, by decide, _, rfl⟩) (hb hby d_jdk_49_method_2_code_19)⟩
theorem d_prog_2_method_13_code_0 : decode prog_2_method_13_code 0 = .ok (.aload_n 0, 1) := by decide +kernel
theorem d_prog_2_method_13_code_1 : decode prog_2_method_13_code 1 = .ok (.getfield 12, 3) := by decide +kernel
theorem d_prog_2_method_13_code_4 : decode prog_2_method_13_code 4 = .ok (.invokevirtual 106, 3) := by decide +kernel
theorem d_prog_2_method_13_code_7 : decode prog_2_method_13_code 7 = .ok (.aload_n 0, 1) := by decide +kernel
theorem d_prog_2_method_13_code_8 : decode prog_2_method_13_code 8 = .ok (.getfield 18, 3) := by decide +kernel
theorem d_prog_2_method_13_code_11 : decode prog_2_method_13_code 11 = .ok (.invokevirtual 106, 3) := by decide +kernel
theorem d_prog_2_method_13_code_14 : decode prog_2_method_13_code 14 = .ok (.aload_n 1, 1) := by decide +kernel
theorem pd_6 : parseMethodDescriptor "()Ljava/util/Iterator;" = some ⟨[], some (.object "java/util/Iterator")⟩ := by decide +kernel
theorem d_prog_2_method_13_code_15 : decode prog_2_method_13_code 15 = .ok (.invokeinterface 109 1, 5) := by decide +kernel
theorem d_prog_2_method_13_code_20 : decode prog_2_method_13_code 20 = .ok (.astore_n 2, 1) := by decide +kernel
theorem d_prog_2_method_13_code_21 : decode prog_2_method_13_code 21 = .ok (.aload_n 2, 1) := by decide +kernel
theorem pd_7 : parseMethodDescriptor "()Z" = some ⟨[], some .boolean⟩ := by decide +kernel
theorem d_prog_2_method_13_code_22 : decode prog_2_method_13_code 22 = .ok (.invokeinterface 115 1, 5) := by decide +kernel
theorem d_prog_2_method_13_code_27 : decode prog_2_method_13_code 27 = .ok (.ifCond .eq 28, 3) := by decide +kernel
theorem d_prog_2_method_13_code_55 : decode prog_2_method_13_code 55 = .ok (.aload_n 0, 1) := by decide +kernel
theorem d_prog_2_method_13_code_56 : decode prog_2_method_13_code 56 = .ok (.iconst 1, 1) := by decide +kernel
theorem d_prog_2_method_13_code_57 : decode prog_2_method_13_code 57 = .ok (.putfield 51, 3) := by decide +kernel
theorem d_prog_2_method_13_code_60 : decode prog_2_method_13_code 60 = .ok (.return_, 1) := by decide +kernel
set_option maxRecDepth 65536 in
set_option maxHeartbeats 40000000 in
theorem c_repl (l : Launch) (Z : State) (a0 : Array Value) (hw : ∀ d ∈ tables_1, d.before a0 Z = true) (n0 : Nat) (h0 : Heap) (O0 : Old Z n0 h0) (a1 a2 bi as n1 sz1 sz2 : Nat) (md hi : Nat) (ve : Value) (mm vv ss : Int64) (sy : Int32) (ms : Int64) (B : BookAt Z h0 a1 (.ref bi) (.ref as) (.ref n1) mm vv ss sy ms) (SB : SideIn Z h0 bi bi md n0) (SA : SideIn Z h0 as as hi n0) (L : AlAt Z h0 a2 0 ve 0) (g1 : n0 ≤ a1) (ab : a1 < bi) (mda : md ≤ as) (La : hi ≤ a2) (F1 : Fld Z h0 bi "com/example/tidebook/tidebook/book/BookSide" "sizes" "[I" (.ref sz1)) (F2 : Fld Z h0 as "com/example/tidebook/tidebook/book/BookSide" "sizes" "[I" (.ref sz2)) (u1 : bi < md ∧ bi ≤ sz1 ∧ sz1 < md ∧ n0 ≤ bi) (u2 : as < hi ∧ as ≤ sz2 ∧ sz2 < hi ∧ n0 ≤ as) :
    Own.Ctr false l (⟨"com/example/tidebook/tidebook/book/Book", "replace", "(Ljava/util/List;)V"⟩ : MethodName) prog_2_method_13_code 4 none ({ frames := 3, cells := 1, slots := 4, locals := 42 } : Room) #[(.ref a1), (.ref a2)] Z h0 Own.VT [a1, bi, sz1, as, sz2] (fun v h vm => v = none ∧ BookAt Z h a1 (.ref bi) (.ref as) (.ref n1) mm vv ss 1 ms) := by
  refine Own.body (plainFor_of_name pn_0) O0 (fun v h vm q _ => q.1) (fun _ _ _ _ q _ => q) ?_
  intro p e s m below meth c T0 hby hml0 hret hnm hV0 K0
  change Own.Wk false p l e ({ frames := 3, cells := 1, slots := 4, locals := 42 } : Room) s m #[(.ref a1), (.ref a2)] below meth c "com/example/tidebook/tidebook/book/Book" Z n0 h0 [] s.vm T0 h0 0 0 at K0
  replace K0 := K0.weaken [a1, bi, sz1, as, sz2] (allS g1 (allS u1.2.2.2 (allS (Nat.le_trans u1.2.2.2 u1.2.1) (allS u2.2.2.2 (allS (Nat.le_trans u2.2.2.2 u2.2.1) all0)))))
  have hml : c.maxLocals = 4 := hml0
  have S0 : Go p e below (T0.setTop (entryFrame m #[(.ref a1), (.ref a2)] 4)) (T0.setTop (mkF m 0 #[.val (.ref a1), .val (.ref a2), .unset, .unset] [])) := fun t k => castTop (by first | rfl | (simp [entryFrame, mkF, argsToLocals, Value.category]; done)) k
  generalize T0.setTop (entryFrame m #[(.ref a1), (.ref a2)] 4) = A0 at S0 ⊢
  obtain ⟨u11, u12, u13, u14⟩ := u1
  obtain ⟨u21, u22, u23, u24⟩ := u2
  have nin : ∀ x : Nat, x < bi → x ∉ ([bi, sz1] : List Addr) := fun x q => ninS (Nat.ne_of_lt q) (ninS (Nat.ne_of_lt (Nat.lt_of_lt_of_le q u12)) nin0)
  have nin' : ∀ x : Nat, md ≤ x → x ∉ ([bi, sz1] : List Addr) := fun x q => ninS (Nat.ne_of_gt (Nat.lt_of_lt_of_le u11 q)) (ninS (Nat.ne_of_gt (Nat.lt_of_lt_of_le u13 q)) nin0)
  have nim : ∀ x : Nat, x < as ∨ hi ≤ x → x ∉ ([as, sz2] : List Addr) := fun x q => q.elim (fun q => ninS (Nat.ne_of_lt q) (ninS (Nat.ne_of_lt (Nat.lt_of_lt_of_le q u22)) nin0)) (fun q => ninS (Nat.ne_of_gt (Nat.lt_of_lt_of_le u21 q)) (ninS (Nat.ne_of_gt (Nat.lt_of_lt_of_le u23 q)) nin0))
  have S1 : Go p e below A0 (T0.setTop (mkF m 1 #[.val (.ref a1), .val (.ref a2), .unset, .unset] [(.ref a1)])) := by
    refine S0.trans ?_
    refine (Own.P.aloadN K0.here K0.exec (hb hby d_prog_2_method_13_code_0) rfl rfl).trans ?_
    exact Go.refl _
  obtain ⟨T2, K2, G2⟩ := K0.getF "" (Or.inl (hw _ (List.mem_of_getElem? (i := 58) rfl))) Via.refl B.2.1 (pc := 1) (Ls := #[.val (.ref a1), .val (.ref a2), .unset, .unset]) (rest := []) (hb hby d_prog_2_method_13_code_1)
  have S2 : Go p e below A0 (T2.setTop (mkF m 4 #[.val (.ref a1), .val (.ref a2), .unset, .unset] [(.ref bi)])) := S1.trans G2
  have SB1x : Exa Z h0 bi "com/example/tidebook/tidebook/book/BookSide" := by obtain ⟨_, _, _, _, _, _, _, q, -⟩ := SB; exact q.1
  obtain ⟨v3, vm3, vq3, T3, h3, K3, KK3, ev3, Q3, G3⟩ := K2.callV (C := "com/example/tidebook/tidebook/book/BookSide") (y := (⟨"com/example/tidebook/tidebook/book/BookSide", "clear", "()V"⟩ : MethodName)) (z := (⟨"com/example/tidebook/tidebook/book/BookSide", "clear", "()V"⟩ : MethodName)) (hw _ (List.mem_of_getElem? (i := 148) rfl)) (hw _ (List.mem_of_getElem? (i := 149) rfl)) (hw _ (List.mem_of_getElem? (i := 151) rfl)) (Or.inr (Or.inr rfl)) (hw _ (List.mem_of_getElem? (i := 150) rfl)) (by decide) (W := 0) SB1x (argsL := []) (rest := []) ((c_clear l Z a0 hw n0 h0 K2.old bi sz1 bi md SB F1 u14 (by omega)).pay Own.VT.cl (hw _ (List.mem_of_getElem? (i := 152) rfl)) (hw _ (List.mem_of_getElem? (i := 39) rfl)) (by decide) (by decide)) trivial (pc := 4) (Ls := #[.val (.ref a1), .val (.ref a2), .unset, .unset]) (st := [(.ref bi)]) (by rw [hml]; rfl) (lenOf pd_0 rfl) rfl (Nat.le_of_eq rfl) (hb hby d_prog_2_method_13_code_4) (by decide) (by decide) (allS (Or.inl (List.mem_of_getElem? (i := 1) rfl)) (allS (Or.inl (List.mem_of_getElem? (i := 2) rfl)) all0))
  obtain ⟨rfl, -⟩ := Q3
  have S3 : Go p e below A0 (T3.setTop (mkF m 7 #[.val (.ref a1), .val (.ref a2), .unset, .unset] [])) := S2.trans G3
  have B1 := B.keep KK3 (nin _ ab)
  have SA1 := SA.keep KK3 (allS (Or.inl (by omega)) (allS (Or.inl (by omega)) all0))
  have F21 := F2.keep KK3 (nin' _ mda)
  have L1 := L.keep KK3 (nin' _ (by omega))
  have SA1x : Exa Z h3 as "com/example/tidebook/tidebook/book/BookSide" := by obtain ⟨_, _, _, _, _, _, _, q, -⟩ := SA1; exact q.1
  have S4 : Go p e below A0 (T3.setTop (mkF m 8 #[.val (.ref a1), .val (.ref a2), .unset, .unset] [(.ref a1)])) := by
    refine S3.trans ?_
    refine (Own.P.aloadN K3.here K3.exec (hb hby d_prog_2_method_13_code_7) rfl rfl).trans ?_
    exact Go.refl _
  obtain ⟨T5, K5, G5⟩ := K3.getF "" (Or.inl (hw _ (List.mem_of_getElem? (i := 60) rfl))) Via.refl B1.2.2.1 (pc := 8) (Ls := #[.val (.ref a1), .val (.ref a2), .unset, .unset]) (rest := []) (hb hby d_prog_2_method_13_code_8)
  have S5 : Go p e below A0 (T5.setTop (mkF m 11 #[.val (.ref a1), .val (.ref a2), .unset, .unset] [(.ref as)])) := S4.trans G5
  obtain ⟨v6, vm6, vq6, T6, h6, K6, KK6, ev6, Q6, G6⟩ := K5.callV (C := "com/example/tidebook/tidebook/book/BookSide") (y := (⟨"com/example/tidebook/tidebook/book/BookSide", "clear", "()V"⟩ : MethodName)) (z := (⟨"com/example/tidebook/tidebook/book/BookSide", "clear", "()V"⟩ : MethodName)) (hw _ (List.mem_of_getElem? (i := 148) rfl)) (hw _ (List.mem_of_getElem? (i := 149) rfl)) (hw _ (List.mem_of_getElem? (i := 151) rfl)) (Or.inr (Or.inr rfl)) (hw _ (List.mem_of_getElem? (i := 150) rfl)) (by decide) (W := 0) SA1x (argsL := []) (rest := []) ((c_clear l Z a0 hw n0 h3 K5.old as sz2 as hi SA1 F21 u24 (by omega)).pay Own.VT.cl (hw _ (List.mem_of_getElem? (i := 152) rfl)) (hw _ (List.mem_of_getElem? (i := 39) rfl)) (by decide) (by decide)) trivial (pc := 11) (Ls := #[.val (.ref a1), .val (.ref a2), .unset, .unset]) (st := [(.ref as)]) (by rw [hml]; rfl) (lenOf pd_0 rfl) rfl (Nat.le_of_eq rfl) (hb hby d_prog_2_method_13_code_11) (by decide) (by decide) (allS (Or.inl (List.mem_of_getElem? (i := 3) rfl)) (allS (Or.inl (List.mem_of_getElem? (i := 4) rfl)) all0))
  obtain ⟨rfl, -⟩ := Q6
  have S6 : Go p e below A0 (T6.setTop (mkF m 14 #[.val (.ref a1), .val (.ref a2), .unset, .unset] [])) := S5.trans G6
  have B2 := B1.keep KK6 (nim _ (Or.inl (by omega)))
  have L2 := L1.keep KK6 (nim _ (Or.inr La))
  have S7 : Go p e below A0 (T6.setTop (mkF m 15 #[.val (.ref a1), .val (.ref a2), .unset, .unset] [(.ref a2)])) := by
    refine S6.trans ?_
    refine (Own.P.aloadN K6.here K6.exec (hb hby d_prog_2_method_13_code_14) rfl rfl).trans ?_
    exact Go.refl _
  obtain ⟨v8, vm8, vq8, T8, h8, K8, KK8, ev8, Q8, G8⟩ := K6.callF (C := "java/util/ArrayList") (y := (⟨"java/util/List", "iterator", "()Ljava/util/Iterator;"⟩ : MethodName)) (z := (⟨"java/util/ArrayList", "iterator", "()Ljava/util/Iterator;"⟩ : MethodName)) (hw _ (List.mem_of_getElem? (i := 165) rfl)) (hw _ (List.mem_of_getElem? (i := 166) rfl)) (hw _ (List.mem_of_getElem? (i := 167) rfl)) (by decide) (hw _ (List.mem_of_getElem? (i := 168) rfl)) (hw _ (List.mem_of_getElem? (i := 169) rfl)) (hw _ (List.mem_of_getElem? (i := 170) rfl)) (hw _ (List.mem_of_getElem? (i := 171) rfl)) (hw _ (List.mem_of_getElem? (i := 172) rfl)) (by decide) (W := 0) L2.1 (argsL := []) (rest := []) ((c_iter l Z a0 hw n0 h6 K6.old a2 ve L2).pay Own.VT.cl (hw _ (List.mem_of_getElem? (i := 173) rfl)) (hw _ (List.mem_of_getElem? (i := 121) rfl)) (by decide) (by decide)) trivial (pc := 15) (Ls := #[.val (.ref a1), .val (.ref a2), .unset, .unset]) (st := [(.ref a2)]) (by rw [hml]; rfl) (lenOf pd_6 rfl) rfl (Nat.le_of_eq rfl) (hb hby d_prog_2_method_13_code_15) (by decide) (by decide) all0
  obtain ⟨it, rfl, I1, L3⟩ := Q8
  have S8 : Go p e below A0 (T8.setTop (mkF m 20 #[.val (.ref a1), .val (.ref a2), .unset, .unset] [(.ref it)])) := S7.trans G8
  have B3 := B2.keep KK8 nin0
  have S9 : Go p e below A0 (T8.setTop (mkF m 22 #[.val (.ref a1), .val (.ref a2), .val (.ref it), .unset] [(.ref it)])) := by
    refine S8.trans ?_
    refine (Own.P.astoreN K8.here K8.exec (l' := #[.val (.ref a1), .val (.ref a2), .val (.ref it), .unset]) (hb hby d_prog_2_method_13_code_20) rfl rfl).trans ?_
    refine (Own.P.aloadN K8.here K8.exec (hb hby d_prog_2_method_13_code_21) rfl rfl).trans ?_
    exact Go.refl _
  obtain ⟨v10, vm10, vq10, T10, h10, K10, KK10, ev10, Q10, G10⟩ := K8.callF (C := "java/util/ArrayList$Itr") (y := (⟨"java/util/Iterator", "hasNext", "()Z"⟩ : MethodName)) (z := (⟨"java/util/ArrayList$Itr", "hasNext", "()Z"⟩ : MethodName)) (hw _ (List.mem_of_getElem? (i := 190) rfl)) (hw _ (List.mem_of_getElem? (i := 191) rfl)) (hw _ (List.mem_of_getElem? (i := 192) rfl)) (by decide) (hw _ (List.mem_of_getElem? (i := 193) rfl)) (hw _ (List.mem_of_getElem? (i := 194) rfl)) (hw _ (List.mem_of_getElem? (i := 195) rfl)) (hw _ (List.mem_of_getElem? (i := 196) rfl)) (hw _ (List.mem_of_getElem? (i := 197) rfl)) (by decide) (W := 0) I1.1 (argsL := []) (rest := []) ((c_hasNext l Z a0 hw n0 h8 K8.old it a2 ve I1 L3).pay Own.VT.cl (hw _ (List.mem_of_getElem? (i := 198) rfl)) (hw _ (List.mem_of_getElem? (i := 176) rfl)) (by decide) (by decide)) trivial (pc := 22) (Ls := #[.val (.ref a1), .val (.ref a2), .val (.ref it), .unset]) (st := [(.ref it)]) (by rw [hml]; rfl) (lenOf pd_7 rfl) rfl (Nat.le_of_eq rfl) (hb hby d_prog_2_method_13_code_22) (by decide) (by decide) all0
  obtain ⟨rfl, e10⟩ := Q10
  have S10 : Go p e below A0 (T10.setTop (mkF m 27 #[.val (.ref a1), .val (.ref a2), .val (.ref it), .unset] [(.int (0 : Int32))])) := S9.trans G10
  subst e10
  have S11 : Go p e below A0 (T10.setTop (mkF m 57 #[.val (.ref a1), .val (.ref a2), .val (.ref it), .unset] [(.int (1 : Int32)), (.ref a1)])) := by
    refine S10.trans ?_
    refine (Own.P.ifYes K10.here K10.exec 55 (hb hby d_prog_2_method_13_code_27) (by decide) (by decide) (by decide)).trans ?_
    refine (Own.P.aloadN K10.here K10.exec (hb hby d_prog_2_method_13_code_55) rfl rfl).trans ?_
    refine (Own.P.iconst K10.here K10.exec (1 : Int32) (hb hby d_prog_2_method_13_code_56) rfl).trans ?_
    exact Go.refl _
  obtain ⟨T12, h12, K12, W12, G12⟩ := K10.putF "" (Or.inl (hw _ (List.mem_of_getElem? (i := 71) rfl))) Via.refl B3.2.2.2.2.2.2.2.1 B3.1 (Or.inl (hw _ (List.mem_of_getElem? (i := 72) rfl))) (hw _ (List.mem_of_getElem? (i := 31) rfl)) (ty := .boolean) (by decide) (v := (.int (1 : Int32))) rfl rfl (Or.inl (List.mem_of_getElem? (i := 0) rfl)) (pc := 57) (Ls := #[.val (.ref a1), .val (.ref a2), .val (.ref it), .unset]) (rest := []) (hb hby d_prog_2_method_13_code_57)
  have S12 : Go p e below A0 (T12.setTop (mkF m 60 #[.val (.ref a1), .val (.ref a2), .val (.ref it), .unset] [])) := S11.trans G12
  exact ⟨vm10, T12, h12, none, _, _, K12, by decide, by decide, ⟨rfl, B3.set_sy hw W12⟩, K12.retV S12 hret (hb hby d_prog_2_method_13_code_60)⟩
def own_b (x : Int32) : Int64 := if x = 0 then 0 else 1
theorem own_b0 {x : Int32} (q : x = 0) : own_b x = 0 := by simp [own_b, q]
theorem own_b1 {x : Int32} (q : ¬ x = 0) : own_b x = 1 := by simp [own_b, q]
theorem pd_8 : parseMethodDescriptor "([C)V" = some ⟨[(.array .char)], none⟩ := by decide +kernel
theorem pd_9 : parseMethodDescriptor "(Ljava/lang/String;)V" = some ⟨[(.object "java/lang/String")], none⟩ := by decide +kernel
theorem pd_10 : parseMethodDescriptor "(Ljava/util/List;)V" = some ⟨[(.object "java/util/List")], none⟩ := by decide +kernel
theorem pd_11 : parseMethodDescriptor "()J" = some ⟨[], some .long⟩ := by decide +kernel
theorem pd_12 : parseMethodDescriptor "()Ljava/lang/String;" = some ⟨[], some (.object "java/lang/String")⟩ := by decide +kernel
theorem pd_13 : parseMethodDescriptor "(Ljava/lang/Object;)Z" = some ⟨[(.object "java/lang/Object")], some .boolean⟩ := by decide +kernel
theorem pn_8 : plainName "com/example/tidebook/tidebook/book/BookCountMismatchedPinLaw" = true := by first | (simp [plainName, overriddenIn]; done) | decide +kernel
set_option maxRecDepth 65536 in
set_option maxHeartbeats 40000000 in
theorem c_law (l : Launch) (Z : State) (a0 : Array Value) (hw : ∀ d ∈ tables_1, d.before a0 Z = true) (n0 : Nat) (h0 : Heap) (O0 : Old Z n0 h0) (f cc : Int32) (zc : Int32) (hzc : ¬ zc = 0) (vd : Value) (rd : vd.isRef = true) (fd : fits (.array (.object "java/lang/Object")) vd = true) (nd : narrow (.array (.object "java/lang/Object")) vd = vd) (SC : Sta Z Z.heap "java/lang/String" "COMPACT_STRINGS" "Z" (.int zc)) (SD : Sta Z Z.heap "java/util/ArrayList" "DEFAULTCAPACITY_EMPTY_ELEMENTDATA" "[Ljava/lang/Object;" vd) :
    Own.Ctr false l x code maxLocals ret room_1 #[(.int f), (.int cc)] Z h0 Own.VT [] (fun v h vm => v = some (.int 1) ∧ True) := by
  refine Own.body (plainFor_of_name pn_8) O0 (fun _ _ _ _ q => by cases q) (fun _ _ _ _ q _ => q) ?_
  intro p e s m below meth c T0 hby hml0 hret hnm hV0 K0
  change Own.Wk false p l e room_1 s m #[(.int f), (.int cc)] below meth c "com/example/tidebook/tidebook/book/BookCountMismatchedPinLaw" Z n0 h0 [] s.vm T0 h0 0 0 at K0
  have hml : c.maxLocals = 15 := hml0
  have S0 : Go p e below (T0.setTop (entryFrame m #[(.int f), (.int cc)] maxLocals)) (T0.setTop (mkF m 0 #[.val (.int f), .val (.int cc), .unset, .unset, .unset, .unset, .unset, .unset, .unset, .unset, .unset, .unset, .unset, .unset, .unset] [])) := fun t k => castTop (by first | rfl | (simp [entryFrame, mkF, argsToLocals, Value.category, maxLocals]; done)) k
  generalize T0.setTop (entryFrame m #[(.int f), (.int cc)] maxLocals) = A0 at S0 ⊢
  have S1 : Go p e below A0 (T0.setTop (mkF m 3 #[.val (.int f), .val (.int cc), .unset, .unset, .unset, .unset, .unset, .unset, .unset, .unset, .unset, .unset, .unset, .unset, .unset] [(.int (f &&& (1 : Int32)))])) := by
    refine S0.trans ?_
    refine (Own.P.iloadN K0.here K0.exec (hb hby at_0) rfl).trans ?_
    refine (Own.P.iconst K0.here K0.exec (1 : Int32) (hb hby at_1) rfl).trans ?_
    refine (Own.P.iand K0.here K0.exec (hb hby at_2) ).trans ?_
    exact Go.refl _
  obtain ⟨pr, Spr⟩ : ∃ pr : Int32, Go p e below A0 (T0.setTop (mkF m 11 #[.val (.int f), .val (.int cc), .unset, .unset, .unset, .unset, .unset, .unset, .unset, .unset, .unset, .unset, .unset, .unset, .unset] [(.int pr)])) := by
    by_cases q : f &&& 1 = 0
    case pos =>
      have S2 : Go p e below A0 (T0.setTop (mkF m 11 #[.val (.int f), .val (.int cc), .unset, .unset, .unset, .unset, .unset, .unset, .unset, .unset, .unset, .unset, .unset, .unset, .unset] [(.int (0 : Int32))])) := by
        refine S1.trans ?_
        refine (Own.P.ifYes K0.here K0.exec 10 (hb hby at_3) (XT.i0_eq_t q) (by decide) (by decide)).trans ?_
        refine (Own.P.iconst K0.here K0.exec (0 : Int32) (hb hby at_10) rfl).trans ?_
        exact Go.refl _
      exact ⟨(0 : Int32), S2⟩
    case neg =>
      have S3 : Go p e below A0 (T0.setTop (mkF m 11 #[.val (.int f), .val (.int cc), .unset, .unset, .unset, .unset, .unset, .unset, .unset, .unset, .unset, .unset, .unset, .unset, .unset] [(.int (1 : Int32))])) := by
        refine S1.trans ?_
        refine (Own.P.ifNo K0.here K0.exec (hb hby at_3) (XT.i0_eq_f q)).trans ?_
        refine (Own.P.iconst K0.here K0.exec (1 : Int32) (hb hby at_6) rfl).trans ?_
        refine (Own.P.goto K0.here K0.exec 11 (hb hby at_7) (by decide) (by decide)).trans ?_
        exact Go.refl _
      exact ⟨(1 : Int32), S3⟩
  have S4 : Go p e below A0 (T0.setTop (mkF m 15 #[.val (.int f), .val (.int cc), .val (.int pr), .unset, .unset, .unset, .unset, .unset, .unset, .unset, .unset, .unset, .unset, .unset, .unset] [(.int (f &&& (2 : Int32)))])) := by
    refine Spr.trans ?_
    refine (Own.P.istoreN K0.here K0.exec (l' := #[.val (.int f), .val (.int cc), .val (.int pr), .unset, .unset, .unset, .unset, .unset, .unset, .unset, .unset, .unset, .unset, .unset, .unset]) (hb hby at_11) rfl).trans ?_
    refine (Own.P.iloadN K0.here K0.exec (hb hby at_12) rfl).trans ?_
    refine (Own.P.iconst K0.here K0.exec (2 : Int32) (hb hby at_13) rfl).trans ?_
    refine (Own.P.iand K0.here K0.exec (hb hby at_14) ).trans ?_
    exact Go.refl _
  obtain ⟨sn, Ssn⟩ : ∃ sn : Int32, Go p e below A0 (T0.setTop (mkF m 23 #[.val (.int f), .val (.int cc), .val (.int pr), .unset, .unset, .unset, .unset, .unset, .unset, .unset, .unset, .unset, .unset, .unset, .unset] [(.int sn)])) := by
    by_cases q : f &&& 2 = 0
    case pos =>
      have S5 : Go p e below A0 (T0.setTop (mkF m 23 #[.val (.int f), .val (.int cc), .val (.int pr), .unset, .unset, .unset, .unset, .unset, .unset, .unset, .unset, .unset, .unset, .unset, .unset] [(.int (0 : Int32))])) := by
        refine S4.trans ?_
        refine (Own.P.ifYes K0.here K0.exec 22 (hb hby at_15) (XT.i0_eq_t q) (by decide) (by decide)).trans ?_
        refine (Own.P.iconst K0.here K0.exec (0 : Int32) (hb hby at_22) rfl).trans ?_
        exact Go.refl _
      exact ⟨(0 : Int32), S5⟩
    case neg =>
      have S6 : Go p e below A0 (T0.setTop (mkF m 23 #[.val (.int f), .val (.int cc), .val (.int pr), .unset, .unset, .unset, .unset, .unset, .unset, .unset, .unset, .unset, .unset, .unset, .unset] [(.int (1 : Int32))])) := by
        refine S4.trans ?_
        refine (Own.P.ifNo K0.here K0.exec (hb hby at_15) (XT.i0_eq_f q)).trans ?_
        refine (Own.P.iconst K0.here K0.exec (1 : Int32) (hb hby at_18) rfl).trans ?_
        refine (Own.P.goto K0.here K0.exec 23 (hb hby at_19) (by decide) (by decide)).trans ?_
        exact Go.refl _
      exact ⟨(1 : Int32), S6⟩
  have S7 : Go p e below A0 (T0.setTop (mkF m 27 #[.val (.int f), .val (.int cc), .val (.int pr), .val (.int sn), .unset, .unset, .unset, .unset, .unset, .unset, .unset, .unset, .unset, .unset, .unset] [(.int (f &&& (4 : Int32)))])) := by
    refine Ssn.trans ?_
    refine (Own.P.istoreN K0.here K0.exec (l' := #[.val (.int f), .val (.int cc), .val (.int pr), .val (.int sn), .unset, .unset, .unset, .unset, .unset, .unset, .unset, .unset, .unset, .unset, .unset]) (hb hby at_23) rfl).trans ?_
    refine (Own.P.iloadN K0.here K0.exec (hb hby at_24) rfl).trans ?_
    refine (Own.P.iconst K0.here K0.exec (4 : Int32) (hb hby at_25) rfl).trans ?_
    refine (Own.P.iand K0.here K0.exec (hb hby at_26) ).trans ?_
    exact Go.refl _
  obtain ⟨ve, Sve⟩ : ∃ ve : Int32, Go p e below A0 (T0.setTop (mkF m 35 #[.val (.int f), .val (.int cc), .val (.int pr), .val (.int sn), .unset, .unset, .unset, .unset, .unset, .unset, .unset, .unset, .unset, .unset, .unset] [(.int ve)])) := by
    by_cases q : f &&& 4 = 0
    case pos =>
      have S8 : Go p e below A0 (T0.setTop (mkF m 35 #[.val (.int f), .val (.int cc), .val (.int pr), .val (.int sn), .unset, .unset, .unset, .unset, .unset, .unset, .unset, .unset, .unset, .unset, .unset] [(.int (0 : Int32))])) := by
        refine S7.trans ?_
        refine (Own.P.ifYes K0.here K0.exec 34 (hb hby at_27) (XT.i0_eq_t q) (by decide) (by decide)).trans ?_
        refine (Own.P.iconst K0.here K0.exec (0 : Int32) (hb hby at_34) rfl).trans ?_
        exact Go.refl _
      exact ⟨(0 : Int32), S8⟩
    case neg =>
      have S9 : Go p e below A0 (T0.setTop (mkF m 35 #[.val (.int f), .val (.int cc), .val (.int pr), .val (.int sn), .unset, .unset, .unset, .unset, .unset, .unset, .unset, .unset, .unset, .unset, .unset] [(.int (1 : Int32))])) := by
        refine S7.trans ?_
        refine (Own.P.ifNo K0.here K0.exec (hb hby at_27) (XT.i0_eq_f q)).trans ?_
        refine (Own.P.iconst K0.here K0.exec (1 : Int32) (hb hby at_30) rfl).trans ?_
        refine (Own.P.goto K0.here K0.exec 35 (hb hby at_31) (by decide) (by decide)).trans ?_
        exact Go.refl _
      exact ⟨(1 : Int32), S9⟩
  have S10 : Go p e below A0 (T0.setTop (mkF m 41 #[.val (.int f), .val (.int cc), .val (.int pr), .val (.int sn), .val (.int ve), .unset, .unset, .unset, .unset, .unset, .unset, .unset, .unset, .unset, .unset] [(.int (f &&& (8 : Int32)))])) := by
    refine Sve.trans ?_
    refine (Own.P.istore K0.here K0.exec (l' := #[.val (.int f), .val (.int cc), .val (.int pr), .val (.int sn), .val (.int ve), .unset, .unset, .unset, .unset, .unset, .unset, .unset, .unset, .unset, .unset]) (hb hby at_35) rfl).trans ?_
    refine (Own.P.iloadN K0.here K0.exec (hb hby at_37) rfl).trans ?_
    refine (Own.P.bipush K0.here K0.exec (8 : Int32) (hb hby at_38) rfl).trans ?_
    refine (Own.P.iand K0.here K0.exec (hb hby at_40) ).trans ?_
    exact Go.refl _
  obtain ⟨sk, Ssk⟩ : ∃ sk : Int32, Go p e below A0 (T0.setTop (mkF m 49 #[.val (.int f), .val (.int cc), .val (.int pr), .val (.int sn), .val (.int ve), .unset, .unset, .unset, .unset, .unset, .unset, .unset, .unset, .unset, .unset] [(.int sk)])) := by
    by_cases q : f &&& 8 = 0
    case pos =>
      have S11 : Go p e below A0 (T0.setTop (mkF m 49 #[.val (.int f), .val (.int cc), .val (.int pr), .val (.int sn), .val (.int ve), .unset, .unset, .unset, .unset, .unset, .unset, .unset, .unset, .unset, .unset] [(.int (0 : Int32))])) := by
        refine S10.trans ?_
        refine (Own.P.ifYes K0.here K0.exec 48 (hb hby at_41) (XT.i0_eq_t q) (by decide) (by decide)).trans ?_
        refine (Own.P.iconst K0.here K0.exec (0 : Int32) (hb hby at_48) rfl).trans ?_
        exact Go.refl _
      exact ⟨(0 : Int32), S11⟩
    case neg =>
      have S12 : Go p e below A0 (T0.setTop (mkF m 49 #[.val (.int f), .val (.int cc), .val (.int pr), .val (.int sn), .val (.int ve), .unset, .unset, .unset, .unset, .unset, .unset, .unset, .unset, .unset, .unset] [(.int (1 : Int32))])) := by
        refine S10.trans ?_
        refine (Own.P.ifNo K0.here K0.exec (hb hby at_41) (XT.i0_eq_f q)).trans ?_
        refine (Own.P.iconst K0.here K0.exec (1 : Int32) (hb hby at_44) rfl).trans ?_
        refine (Own.P.goto K0.here K0.exec 49 (hb hby at_45) (by decide) (by decide)).trans ?_
        exact Go.refl _
      exact ⟨(1 : Int32), S12⟩
  have S13 : Go p e below A0 (T0.setTop (mkF m 52 #[.val (.int f), .val (.int cc), .val (.int pr), .val (.int sn), .val (.int ve), .val (.int sk), .unset, .unset, .unset, .unset, .unset, .unset, .unset, .unset, .unset] [(.int (1 : Int32))])) := by
    refine Ssk.trans ?_
    refine (Own.P.istore K0.here K0.exec (l' := #[.val (.int f), .val (.int cc), .val (.int pr), .val (.int sn), .val (.int ve), .val (.int sk), .unset, .unset, .unset, .unset, .unset, .unset, .unset, .unset, .unset]) (hb hby at_49) rfl).trans ?_
    refine (Own.P.iconst K0.here K0.exec (1 : Int32) (hb hby at_51) rfl).trans ?_
    exact Go.refl _
  obtain ⟨T14, h14, ca, cA_ca, K14, E14, g_ca, l_ca, ne_ca, V_ca, G14⟩ := K0.newP (aty := .char) (hw _ (List.mem_of_getElem? (i := 0) rfl)) (n := (1 : Int32)) (pc := 52) (Ls := #[.val (.int f), .val (.int cc), .val (.int pr), .val (.int sn), .val (.int ve), .val (.int sk), .unset, .unset, .unset, .unset, .unset, .unset, .unset, .unset, .unset]) (rest := []) (hb hby at_52) 1 (by decide) (by decide) (by decide) (by decide) (by decide)
  have S14 : Go p e below A0 (T14.setTop (mkF m 54 #[.val (.int f), .val (.int cc), .val (.int pr), .val (.int sn), .val (.int ve), .val (.int sk), .unset, .unset, .unset, .unset, .unset, .unset, .unset, .unset, .unset] [(.ref ca)])) := S13.trans G14
  have V1 : Arv Z h14 ca cA_ca .char 1 [.int 0] (.int 0) := V_ca.pad (pad_rep [] (.int 0) 1)
  have S15 : Go p e below A0 (T14.setTop (mkF m 65 #[.val (.int f), .val (.int cc), .val (.int pr), .val (.int sn), .val (.int ve), .val (.int sk), .val (.ref ca), .unset, .unset, .unset, .unset, .unset, .unset, .unset, .unset] [(.int ((cc &&& (255 : Int32)).toUInt32.toUInt16.toUInt32.toInt32)), (.int (0 : Int32)), (.ref ca)])) := by
    refine S14.trans ?_
    refine (Own.P.astore K14.here K14.exec (l' := #[.val (.int f), .val (.int cc), .val (.int pr), .val (.int sn), .val (.int ve), .val (.int sk), .val (.ref ca), .unset, .unset, .unset, .unset, .unset, .unset, .unset, .unset]) (hb hby at_54) rfl rfl).trans ?_
    refine (Own.P.aload K14.here K14.exec (hb hby at_56) rfl rfl).trans ?_
    refine (Own.P.iconst K14.here K14.exec (0 : Int32) (hb hby at_58) rfl).trans ?_
    refine (Own.P.iloadN K14.here K14.exec (hb hby at_59) rfl).trans ?_
    refine (Own.P.sipush K14.here K14.exec (255 : Int32) (hb hby at_60) rfl).trans ?_
    refine (Own.P.iand K14.here K14.exec (hb hby at_63) ).trans ?_
    refine (Own.P.i2c K14.here K14.exec (hb hby at_64) ).trans ?_
    exact Go.refl _
  obtain ⟨T16, h16, K16, W16, V16, G16⟩ := K14.stC V1  (j := (0 : Int32)) ⟨by decide, by decide⟩ 0 rfl (Nat.le_of_ble_eq_true rfl) (Or.inr g_ca) (pc := 65) (Ls := #[.val (.int f), .val (.int cc), .val (.int pr), .val (.int sn), .val (.int ve), .val (.int sk), .val (.ref ca), .unset, .unset, .unset, .unset, .unset, .unset, .unset, .unset]) (rest := []) (hb hby at_65)
  have S16 : Go p e below A0 (T16.setTop (mkF m 66 #[.val (.int f), .val (.int cc), .val (.int pr), .val (.int sn), .val (.int ve), .val (.int sk), .val (.ref ca), .unset, .unset, .unset, .unset, .unset, .unset, .unset, .unset] [])) := S15.trans G16
  obtain ⟨T17, h17, nm, K17, E17, g_nm, l_nm, ne_nm, X_nm, D_nm, G17⟩ := K16.newO (hw _ (List.mem_of_getElem? (i := 1) rfl)) (hw _ (List.mem_of_getElem? (i := 2) rfl)) (hw _ (List.mem_of_getElem? (i := 3) rfl)) (pc := 66) (Ls := #[.val (.int f), .val (.int cc), .val (.int pr), .val (.int sn), .val (.int ve), .val (.int sk), .val (.ref ca), .unset, .unset, .unset, .unset, .unset, .unset, .unset, .unset]) (rest := []) (hb hby at_66) (by decide) (by decide)
  have S17 : Go p e below A0 (T17.setTop (mkF m 69 #[.val (.int f), .val (.int cc), .val (.int pr), .val (.int sn), .val (.int ve), .val (.int sk), .val (.ref ca), .unset, .unset, .unset, .unset, .unset, .unset, .unset, .unset] [(.ref nm)])) := S16.trans G17
  have V3 := V16.ext E17
  have gn : n0 ≤ nm := Nat.le_trans K0.2.2.2.1 g_nm
  have hp : ∀ c ∈ ([(nar .char ((cc &&& (255 : Int32)).toUInt32.toUInt16.toUInt32.toInt32))] : List Int32), ¬ c < 0 ∧ ¬ (255 : Int32) < c := by intro c hc; cases List.mem_singleton.mp hc; exact Own.and255 cc
  have S18 : Go p e below A0 (T17.setTop (mkF m 72 #[.val (.int f), .val (.int cc), .val (.int pr), .val (.int sn), .val (.int ve), .val (.int sk), .val (.ref ca), .unset, .unset, .unset, .unset, .unset, .unset, .unset, .unset] [(.ref ca), (.ref nm), (.ref nm)])) := by
    refine S17.trans ?_
    refine (Own.P.dup K17.here K17.exec (hb hby at_69) rfl).trans ?_
    refine (Own.P.aload K17.here K17.exec (hb hby at_70) rfl rfl).trans ?_
    exact Go.refl _
  obtain ⟨v19, vm19, vq19, T19, h19, K19, KK19, ev19, Q19, G19⟩ := K17.callI (y := (⟨"java/lang/String", "<init>", "([C)V"⟩ : MethodName)) rfl (hw _ (List.mem_of_getElem? (i := 4) rfl)) (hw _ (List.mem_of_getElem? (i := 5) rfl)) (hw _ (List.mem_of_getElem? (i := 6) rfl)) (by decide) (W := 1) (a := nm) (argsL := [(.ref ca)]) (rest := [(.ref nm)]) (Own.payStr (W := 1) hw Own.VT.cl (hw _ (List.mem_of_getElem? (i := 2) rfl)) (cs := [(nar .char ((cc &&& (255 : Int32)).toUInt32.toUInt16.toUInt32.toInt32))]) (n := 1) K17.old X_nm (D_nm (Or.inr (hw _ (List.mem_of_getElem? (i := 29) rfl))) (ty := .array .byte) (by decide)) (D_nm (Or.inr (hw _ (List.mem_of_getElem? (i := 27) rfl))) (ty := .byte) (by decide)) V3 SC hzc rfl rfl rfl (by decide) (by decide) hp (by decide) (by decide)) trivial (pc := 72) (Ls := #[.val (.int f), .val (.int cc), .val (.int pr), .val (.int sn), .val (.int ve), .val (.int sk), .val (.ref ca), .unset, .unset, .unset, .unset, .unset, .unset, .unset, .unset]) (st := [(.ref ca), (.ref nm), (.ref nm)]) (by rw [hml]; rfl) (lenOf pd_8 rfl) rfl (Nat.le_of_eq rfl) (hb hby at_72) (by decide) (by decide) (allS (Or.inr g_nm) all0)
  obtain ⟨rfl, SI, -⟩ := Q19
  have S19 : Go p e below A0 (T19.setTop (mkF m 75 #[.val (.int f), .val (.int cc), .val (.int pr), .val (.int sn), .val (.int ve), .val (.int sk), .val (.ref ca), .unset, .unset, .unset, .unset, .unset, .unset, .unset, .unset] [(.ref nm)])) := S18.trans G19
  have Xn := SI.2.1
  have S20 : Go p e below A0 (T19.setTop (mkF m 77 #[.val (.int f), .val (.int cc), .val (.int pr), .val (.int sn), .val (.int ve), .val (.int sk), .val (.ref ca), .val (.ref nm), .unset, .unset, .unset, .unset, .unset, .unset, .unset] [])) := by
    refine S19.trans ?_
    refine (Own.P.astore K19.here K19.exec (l' := #[.val (.int f), .val (.int cc), .val (.int pr), .val (.int sn), .val (.int ve), .val (.int sk), .val (.ref ca), .val (.ref nm), .unset, .unset, .unset, .unset, .unset, .unset, .unset]) (hb hby at_75) rfl rfl).trans ?_
    exact Go.refl _
  obtain ⟨T21, h21, bk, K21, E21, g_bk, l_bk, ne_bk, X_bk, D_bk, G21⟩ := K19.newO (hw _ (List.mem_of_getElem? (i := 30) rfl)) (hw _ (List.mem_of_getElem? (i := 31) rfl)) (hw _ (List.mem_of_getElem? (i := 32) rfl)) (pc := 77) (Ls := #[.val (.int f), .val (.int cc), .val (.int pr), .val (.int sn), .val (.int ve), .val (.int sk), .val (.ref ca), .val (.ref nm), .unset, .unset, .unset, .unset, .unset, .unset, .unset]) (rest := []) (hb hby at_77) (by decide) (by decide)
  have S21 : Go p e below A0 (T21.setTop (mkF m 80 #[.val (.int f), .val (.int cc), .val (.int pr), .val (.int sn), .val (.int ve), .val (.int sk), .val (.ref ca), .val (.ref nm), .unset, .unset, .unset, .unset, .unset, .unset, .unset] [(.ref bk)])) := S20.trans G21
  have Xn1 := Xn.ext E21
  have gb : n0 ≤ bk := Nat.le_trans K0.2.2.2.1 g_bk
  have B0 := BookAt.new hw X_bk D_bk
  have S22 : Go p e below A0 (T21.setTop (mkF m 83 #[.val (.int f), .val (.int cc), .val (.int pr), .val (.int sn), .val (.int ve), .val (.int sk), .val (.ref ca), .val (.ref nm), .unset, .unset, .unset, .unset, .unset, .unset, .unset] [(.ref nm), (.ref bk), (.ref bk)])) := by
    refine S21.trans ?_
    refine (Own.P.dup K21.here K21.exec (hb hby at_80) rfl).trans ?_
    refine (Own.P.aload K21.here K21.exec (hb hby at_81) rfl rfl).trans ?_
    exact Go.refl _
  obtain ⟨v23, vm23, vq23, T23, h23, K23, KK23, ev23, Q23, G23⟩ := K21.callI (y := (⟨"com/example/tidebook/tidebook/book/Book", "<init>", "(Ljava/lang/String;)V"⟩ : MethodName)) rfl (hw _ (List.mem_of_getElem? (i := 33) rfl)) (hw _ (List.mem_of_getElem? (i := 34) rfl)) (hw _ (List.mem_of_getElem? (i := 35) rfl)) (by decide) (W := 1) (a := bk) (argsL := [(.ref nm)]) (rest := [(.ref bk)]) ((c_book l Z a0 hw n0 h21 K21.old bk nm B0 gb).pay Own.VT.cl (hw _ (List.mem_of_getElem? (i := 35) rfl)) (hw _ (List.mem_of_getElem? (i := 32) rfl)) (by decide) (by decide)) trivial (pc := 83) (Ls := #[.val (.int f), .val (.int cc), .val (.int pr), .val (.int sn), .val (.int ve), .val (.int sk), .val (.ref ca), .val (.ref nm), .unset, .unset, .unset, .unset, .unset, .unset, .unset]) (st := [(.ref nm), (.ref bk), (.ref bk)]) (by rw [hml]; rfl) (lenOf pd_9 rfl) rfl (Nat.le_of_eq rfl) (hb hby at_83) (by decide) (by decide) (allS (Or.inr g_bk) all0)
  obtain ⟨rfl, bi, as, md, B1, SB, SA, ab, mda, bas⟩ := Q23
  have S23 : Go p e below A0 (T23.setTop (mkF m 86 #[.val (.int f), .val (.int cc), .val (.int pr), .val (.int sn), .val (.int ve), .val (.int sk), .val (.ref ca), .val (.ref nm), .unset, .unset, .unset, .unset, .unset, .unset, .unset] [(.ref bk)])) := S22.trans G23
  have Xn2 := Xn1.keep KK23
  have S24 : Go p e below A0 (T23.setTop (mkF m 89 #[.val (.int f), .val (.int cc), .val (.int pr), .val (.int sn), .val (.int ve), .val (.int sk), .val (.ref ca), .val (.ref nm), .val (.ref bk), .unset, .unset, .unset, .unset, .unset, .unset] [(.int pr)])) := by
    refine S23.trans ?_
    refine (Own.P.astore K23.here K23.exec (l' := #[.val (.int f), .val (.int cc), .val (.int pr), .val (.int sn), .val (.int ve), .val (.int sk), .val (.ref ca), .val (.ref nm), .val (.ref bk), .unset, .unset, .unset, .unset, .unset, .unset]) (hb hby at_86) rfl rfl).trans ?_
    refine (Own.P.iloadN K23.here K23.exec (hb hby at_88) rfl).trans ?_
    exact Go.refl _
  have hsE : ∃ hi : Nat, hi = h23.size := ⟨_, rfl⟩
  obtain ⟨hi, ehi⟩ := hsE
  rw [← ehi] at SA
  have Kb : Keep h23 h23 [bk] := Keep.refl _ _
  obtain ⟨vmTS1, TS1, hS1, KTS1, ⟨B3, SB3, SA3, Xn3, hhi⟩, STS1⟩ : ∃ (vmTS1 : Vm) (TS1 : State) (hS1 : Heap), Own.Wk false p l e room_1 s m #[(.int f), (.int cc)] below meth c "com/example/tidebook/tidebook/book/BookCountMismatchedPinLaw" Z n0 h0 [] vmTS1 TS1 hS1 12 552 ∧ (BookAt Z hS1 bk (.ref bi) (.ref as) (.ref nm) (own_b pr) 0 0 0 0 ∧ SideIn Z hS1 bi bi md n0 ∧ SideIn Z hS1 as as hi n0 ∧ Exa Z hS1 nm "java/lang/String" ∧ hi ≤ hS1.size) ∧ Go p e below A0 (TS1.setTop (mkF m 97 #[.val (.int f), .val (.int cc), .val (.int pr), .val (.int sn), .val (.int ve), .val (.int sk), .val (.ref ca), .val (.ref nm), .val (.ref bk), .unset, .unset, .unset, .unset, .unset, .unset] [])) := by
    by_cases q : pr = 0
    case pos =>
      have Bq : BookAt Z h23 bk (.ref bi) (.ref as) (.ref nm) (own_b pr) 0 0 0 0 := by rw [own_b0 q]; exact B1
      have S25 : Go p e below A0 (T23.setTop (mkF m 97 #[.val (.int f), .val (.int cc), .val (.int pr), .val (.int sn), .val (.int ve), .val (.int sk), .val (.ref ca), .val (.ref nm), .val (.ref bk), .unset, .unset, .unset, .unset, .unset, .unset] [])) := by
        refine S24.trans ?_
        refine (Own.P.ifYes K23.here K23.exec 97 (hb hby at_89) (XT.i0_eq_t q) (by decide) (by decide)).trans ?_
        exact Go.refl _
      exact ⟨vm23, T23, h23, K23, ⟨Bq, SB, SA, Xn2, Nat.le_of_eq ehi⟩, S25⟩
    case neg =>
      have S26 : Go p e below A0 (T23.setTop (mkF m 94 #[.val (.int f), .val (.int cc), .val (.int pr), .val (.int sn), .val (.int ve), .val (.int sk), .val (.ref ca), .val (.ref nm), .val (.ref bk), .unset, .unset, .unset, .unset, .unset, .unset] [(.ref bk)])) := by
        refine S24.trans ?_
        refine (Own.P.ifNo K23.here K23.exec (hb hby at_89) (XT.i0_eq_f q)).trans ?_
        refine (Own.P.aload K23.here K23.exec (hb hby at_92) rfl rfl).trans ?_
        exact Go.refl _
      obtain ⟨v27, vm27, vq27, T27, h27, K27, KK27, ev27, Q27, G27⟩ := K23.callV (C := "com/example/tidebook/tidebook/book/Book") (y := (⟨"com/example/tidebook/tidebook/book/Book", "countMismatched", "()V"⟩ : MethodName)) (z := (⟨"com/example/tidebook/tidebook/book/Book", "countMismatched", "()V"⟩ : MethodName)) (hw _ (List.mem_of_getElem? (i := 64) rfl)) (hw _ (List.mem_of_getElem? (i := 65) rfl)) (hw _ (List.mem_of_getElem? (i := 67) rfl)) (Or.inr (Or.inr rfl)) (hw _ (List.mem_of_getElem? (i := 66) rfl)) (by decide) (W := 0) B1.1 (argsL := []) (rest := []) ((c_cMis l Z a0 hw n0 h23 K23.old bk _ _ _ _ _ _ _ _ B1 gb).pay Own.VT.cl (hw _ (List.mem_of_getElem? (i := 68) rfl)) (hw _ (List.mem_of_getElem? (i := 32) rfl)) (by decide) (by decide)) trivial (pc := 94) (Ls := #[.val (.int f), .val (.int cc), .val (.int pr), .val (.int sn), .val (.int ve), .val (.int sk), .val (.ref ca), .val (.ref nm), .val (.ref bk), .unset, .unset, .unset, .unset, .unset, .unset]) (st := [(.ref bk)]) (by rw [hml]; rfl) (lenOf pd_0 rfl) rfl (Nat.le_of_eq rfl) (hb hby at_94) (by decide) (by decide) (allS (Or.inr g_bk) all0)
      obtain ⟨rfl, B2⟩ := Q27
      have S27 : Go p e below A0 (T27.setTop (mkF m 97 #[.val (.int f), .val (.int cc), .val (.int pr), .val (.int sn), .val (.int ve), .val (.int sk), .val (.ref ca), .val (.ref nm), .val (.ref bk), .unset, .unset, .unset, .unset, .unset, .unset] [])) := S26.trans G27
      have Bq : BookAt Z h27 bk (.ref bi) (.ref as) (.ref nm) (own_b pr) 0 0 0 0 := by rw [own_b1 q]; exact B2
      exact ⟨vm27, T27, h27, K27, ⟨Bq, SB.keep KK27 (allS (Or.inl ab) all0), SA.keep KK27 (allS (Or.inl (Nat.lt_trans ab bas)) all0), Xn2.keep KK27, by rw [ehi]; exact KK27.1⟩, S27⟩
  have S28 : Go p e below A0 (TS1.setTop (mkF m 98 #[.val (.int f), .val (.int cc), .val (.int pr), .val (.int sn), .val (.int ve), .val (.int sk), .val (.ref ca), .val (.ref nm), .val (.ref bk), .unset, .unset, .unset, .unset, .unset, .unset] [(.int sn)])) := by
    refine STS1.trans ?_
    refine (Own.P.iloadN KTS1.here KTS1.exec (hb hby at_97) rfl).trans ?_
    exact Go.refl _
  obtain ⟨vmTS2, TS2, hS2, KTS2, ⟨sy, B7, Xn7⟩, STS2⟩ : ∃ (vmTS2 : Vm) (TS2 : State) (hS2 : Heap), Own.Wk false p l e room_1 s m #[(.int f), (.int cc)] below meth c "com/example/tidebook/tidebook/book/BookCountMismatchedPinLaw" Z n0 h0 [] vmTS2 TS2 hS2 14 559 ∧ (∃ sy : Int32, BookAt Z hS2 bk (.ref bi) (.ref as) (.ref nm) (own_b pr) 0 0 sy 0 ∧ Exa Z hS2 nm "java/lang/String") ∧ Go p e below A0 (TS2.setTop (mkF m 113 #[.val (.int f), .val (.int cc), .val (.int pr), .val (.int sn), .val (.int ve), .val (.int sk), .val (.ref ca), .val (.ref nm), .val (.ref bk), .unset, .unset, .unset, .unset, .unset, .unset] [])) := by
    by_cases q : sn = 0
    case pos =>
      have S29 : Go p e below A0 (TS1.setTop (mkF m 113 #[.val (.int f), .val (.int cc), .val (.int pr), .val (.int sn), .val (.int ve), .val (.int sk), .val (.ref ca), .val (.ref nm), .val (.ref bk), .unset, .unset, .unset, .unset, .unset, .unset] [])) := by
        refine S28.trans ?_
        refine (Own.P.ifYes KTS1.here KTS1.exec 113 (hb hby at_98) (XT.i0_eq_t q) (by decide) (by decide)).trans ?_
        exact Go.refl _
      have K30 := KTS1.more (cells' := 14) (slots' := 559) (by decide) (by decide)
      exact ⟨vmTS1, TS1, hS1, K30, ⟨0, B3, Xn3⟩, S29⟩
    case neg =>
      have S31 : Go p e below A0 (TS1.setTop (mkF m 103 #[.val (.int f), .val (.int cc), .val (.int pr), .val (.int sn), .val (.int ve), .val (.int sk), .val (.ref ca), .val (.ref nm), .val (.ref bk), .unset, .unset, .unset, .unset, .unset, .unset] [(.ref bk)])) := by
        refine S28.trans ?_
        refine (Own.P.ifNo KTS1.here KTS1.exec (hb hby at_98) (XT.i0_eq_f q)).trans ?_
        refine (Own.P.aload KTS1.here KTS1.exec (hb hby at_101) rfl rfl).trans ?_
        exact Go.refl _
      obtain ⟨T32, h32, al, K32, E32, g_al, l_al, ne_al, X_al, D_al, G32⟩ := KTS1.newO (hw _ (List.mem_of_getElem? (i := 119) rfl)) (hw _ (List.mem_of_getElem? (i := 120) rfl)) (hw _ (List.mem_of_getElem? (i := 121) rfl)) (pc := 103) (Ls := #[.val (.int f), .val (.int cc), .val (.int pr), .val (.int sn), .val (.int ve), .val (.int sk), .val (.ref ca), .val (.ref nm), .val (.ref bk), .unset, .unset, .unset, .unset, .unset, .unset]) (rest := [(.ref bk)]) (hb hby at_103) (by decide) (by decide)
      have S32 : Go p e below A0 (T32.setTop (mkF m 106 #[.val (.int f), .val (.int cc), .val (.int pr), .val (.int sn), .val (.int ve), .val (.int sk), .val (.ref ca), .val (.ref nm), .val (.ref bk), .unset, .unset, .unset, .unset, .unset, .unset] [(.ref al), (.ref bk)])) := S31.trans G32
      have ga : n0 ≤ al := Nat.le_trans K0.2.2.2.1 g_al
      have A0' := AlAt.new hw X_al D_al
      have B4 := B3.ext E32
      have X4 := (Keep.refl hS1 []).ext E32
      have SB4 := SB3.keep X4 all0
      have SA4 := SA3.keep X4 all0
      have lal : hi ≤ al := Nat.le_trans hhi l_al
      have Xn4 := Xn3.keep X4
      have S33 : Go p e below A0 (T32.setTop (mkF m 107 #[.val (.int f), .val (.int cc), .val (.int pr), .val (.int sn), .val (.int ve), .val (.int sk), .val (.ref ca), .val (.ref nm), .val (.ref bk), .unset, .unset, .unset, .unset, .unset, .unset] [(.ref al), (.ref al), (.ref bk)])) := by
        refine S32.trans ?_
        refine (Own.P.dup K32.here K32.exec (hb hby at_106) rfl).trans ?_
        exact Go.refl _
      obtain ⟨v34, vm34, vq34, T34, h34, K34, KK34, ev34, Q34, G34⟩ := K32.callI (y := (⟨"java/util/ArrayList", "<init>", "()V"⟩ : MethodName)) rfl (hw _ (List.mem_of_getElem? (i := 122) rfl)) (hw _ (List.mem_of_getElem? (i := 123) rfl)) (hw _ (List.mem_of_getElem? (i := 124) rfl)) (by decide) (W := 2) (a := al) (argsL := []) (rest := [(.ref al), (.ref bk)]) ((c_ali l Z a0 hw n0 h32 K32.old al vd rd fd nd SD _ _ A0' ga).pay Own.VT.cl (hw _ (List.mem_of_getElem? (i := 124) rfl)) (hw _ (List.mem_of_getElem? (i := 121) rfl)) (by decide) (by decide)) trivial (pc := 107) (Ls := #[.val (.int f), .val (.int cc), .val (.int pr), .val (.int sn), .val (.int ve), .val (.int sk), .val (.ref ca), .val (.ref nm), .val (.ref bk), .unset, .unset, .unset, .unset, .unset, .unset]) (st := [(.ref al), (.ref al), (.ref bk)]) (by rw [hml]; rfl) (lenOf pd_0 rfl) rfl (Nat.le_of_eq rfl) (hb hby at_107) (by decide) (by decide) (allS (Or.inr g_al) all0)
      obtain ⟨rfl, L1⟩ := Q34
      have S34 : Go p e below A0 (T34.setTop (mkF m 110 #[.val (.int f), .val (.int cc), .val (.int pr), .val (.int sn), .val (.int ve), .val (.int sk), .val (.ref ca), .val (.ref nm), .val (.ref bk), .unset, .unset, .unset, .unset, .unset, .unset] [(.ref al), (.ref bk)])) := S33.trans G34
      have lo : ∀ x, x < hi → x ≠ al := fun x q => Nat.ne_of_lt (Nat.lt_of_lt_of_le q lal)
      have ash : as < hi := by obtain ⟨_, _, _, _, _, _, _, -, -, -, -, -, q, -⟩ := SA4; exact q
      have B5 := B4.keep KK34 (ninS (lo _ (Nat.lt_trans ab (Nat.lt_trans bas ash))) nin0)
      have SB5 := SB4.keep KK34 (allS (Or.inr (by have := SA4; obtain ⟨_, _, _, _, _, _, _, -, -, -, -, -, q, -⟩ := this; omega)) all0)
      have SA5 := SA4.keep KK34 (allS (Or.inr lal) all0)
      have Xn5 := Xn4.keep KK34
      obtain ⟨sz1, F1, u1⟩ : ∃ sz1, Fld Z h34 bi "com/example/tidebook/tidebook/book/BookSide" "sizes" "[I" (.ref sz1) ∧ bi < md ∧ bi ≤ sz1 ∧ sz1 < md ∧ n0 ≤ bi := by obtain ⟨bl, sz, b0, kb, ks, k0, de, f1, f2, f3, f4, f5, f6, f7, f8, f9, f10, f11, f12, f13, f14⟩ := SB5; exact ⟨sz, f1.2.2.1, f6, f9, f10, f13⟩
      obtain ⟨sz2, F2, u2⟩ : ∃ sz2, Fld Z h34 as "com/example/tidebook/tidebook/book/BookSide" "sizes" "[I" (.ref sz2) ∧ as < hi ∧ as ≤ sz2 ∧ sz2 < hi ∧ n0 ≤ as := by obtain ⟨bl, sz, b0, kb, ks, k0, de, f1, f2, f3, f4, f5, f6, f7, f8, f9, f10, f11, f12, f13, f14⟩ := SA5; exact ⟨sz, f1.2.2.1, f6, f9, f10, f13⟩
      have hb0 : h0.size ≤ bi := Nat.le_trans g_bk (Nat.le_of_lt ab)
      obtain ⟨v35, vm35, vq35, T35, h35, K35, KK35, ev35, Q35, G35⟩ := K34.callV (C := "com/example/tidebook/tidebook/book/Book") (y := (⟨"com/example/tidebook/tidebook/book/Book", "replace", "(Ljava/util/List;)V"⟩ : MethodName)) (z := (⟨"com/example/tidebook/tidebook/book/Book", "replace", "(Ljava/util/List;)V"⟩ : MethodName)) (hw _ (List.mem_of_getElem? (i := 143) rfl)) (hw _ (List.mem_of_getElem? (i := 144) rfl)) (hw _ (List.mem_of_getElem? (i := 146) rfl)) (Or.inr (Or.inr rfl)) (hw _ (List.mem_of_getElem? (i := 145) rfl)) (by decide) (W := 0) B5.1 (argsL := [(.ref al)]) (rest := []) ((c_repl l Z a0 hw n0 h34 K34.old bk al bi as nm sz1 sz2 md hi vd _ _ _ _ _ B5 SB5 SA5 L1 gb ab mda lal F1 F2 u1 u2).pay Own.VT.cl (hw _ (List.mem_of_getElem? (i := 147) rfl)) (hw _ (List.mem_of_getElem? (i := 32) rfl)) (by decide) (by decide)) trivial (pc := 110) (Ls := #[.val (.int f), .val (.int cc), .val (.int pr), .val (.int sn), .val (.int ve), .val (.int sk), .val (.ref ca), .val (.ref nm), .val (.ref bk), .unset, .unset, .unset, .unset, .unset, .unset]) (st := [(.ref al), (.ref bk)]) (by rw [hml]; rfl) (lenOf pd_10 rfl) rfl (Nat.le_of_eq rfl) (hb hby at_110) (by decide) (by decide) (allS (Or.inr g_bk) (allS (Or.inr hb0) (allS (Or.inr (by omega)) (allS (Or.inr (by omega)) (allS (Or.inr (by omega)) all0)))))
      obtain ⟨rfl, B6⟩ := Q35
      have S35 : Go p e below A0 (T35.setTop (mkF m 113 #[.val (.int f), .val (.int cc), .val (.int pr), .val (.int sn), .val (.int ve), .val (.int sk), .val (.ref ca), .val (.ref nm), .val (.ref bk), .unset, .unset, .unset, .unset, .unset, .unset] [])) := S34.trans G35
      exact ⟨vm35, T35, h35, K35, ⟨1, B6, Xn5.keep KK35⟩, S35⟩
  have S36 : Go p e below A0 (TS2.setTop (mkF m 115 #[.val (.int f), .val (.int cc), .val (.int pr), .val (.int sn), .val (.int ve), .val (.int sk), .val (.ref ca), .val (.ref nm), .val (.ref bk), .unset, .unset, .unset, .unset, .unset, .unset] [(.int ve)])) := by
    refine STS2.trans ?_
    refine (Own.P.iload KTS2.here KTS2.exec (hb hby at_113) rfl).trans ?_
    exact Go.refl _
  obtain ⟨vmTS3, TS3, hS3, KTS3, ⟨B9, Xn9⟩, STS3⟩ : ∃ (vmTS3 : Vm) (TS3 : State) (hS3 : Heap), Own.Wk false p l e room_1 s m #[(.int f), (.int cc)] below meth c "com/example/tidebook/tidebook/book/BookCountMismatchedPinLaw" Z n0 h0 [] vmTS3 TS3 hS3 14 559 ∧ (BookAt Z hS3 bk (.ref bi) (.ref as) (.ref nm) (own_b pr) (own_b ve) 0 sy 0 ∧ Exa Z hS3 nm "java/lang/String") ∧ Go p e below A0 (TS3.setTop (mkF m 123 #[.val (.int f), .val (.int cc), .val (.int pr), .val (.int sn), .val (.int ve), .val (.int sk), .val (.ref ca), .val (.ref nm), .val (.ref bk), .unset, .unset, .unset, .unset, .unset, .unset] [])) := by
    by_cases q : ve = 0
    case pos =>
      have Bq : BookAt Z hS2 bk (.ref bi) (.ref as) (.ref nm) (own_b pr) (own_b ve) 0 sy 0 := by rw [own_b0 q]; exact B7
      have S37 : Go p e below A0 (TS2.setTop (mkF m 123 #[.val (.int f), .val (.int cc), .val (.int pr), .val (.int sn), .val (.int ve), .val (.int sk), .val (.ref ca), .val (.ref nm), .val (.ref bk), .unset, .unset, .unset, .unset, .unset, .unset] [])) := by
        refine S36.trans ?_
        refine (Own.P.ifYes KTS2.here KTS2.exec 123 (hb hby at_115) (XT.i0_eq_t q) (by decide) (by decide)).trans ?_
        exact Go.refl _
      exact ⟨vmTS2, TS2, hS2, KTS2, ⟨Bq, Xn7⟩, S37⟩
    case neg =>
      have S38 : Go p e below A0 (TS2.setTop (mkF m 120 #[.val (.int f), .val (.int cc), .val (.int pr), .val (.int sn), .val (.int ve), .val (.int sk), .val (.ref ca), .val (.ref nm), .val (.ref bk), .unset, .unset, .unset, .unset, .unset, .unset] [(.ref bk)])) := by
        refine S36.trans ?_
        refine (Own.P.ifNo KTS2.here KTS2.exec (hb hby at_115) (XT.i0_eq_f q)).trans ?_
        refine (Own.P.aload KTS2.here KTS2.exec (hb hby at_118) rfl rfl).trans ?_
        exact Go.refl _
      obtain ⟨v39, vm39, vq39, T39, h39, K39, KK39, ev39, Q39, G39⟩ := KTS2.callV (C := "com/example/tidebook/tidebook/book/Book") (y := (⟨"com/example/tidebook/tidebook/book/Book", "countVerified", "()V"⟩ : MethodName)) (z := (⟨"com/example/tidebook/tidebook/book/Book", "countVerified", "()V"⟩ : MethodName)) (hw _ (List.mem_of_getElem? (i := 203) rfl)) (hw _ (List.mem_of_getElem? (i := 204) rfl)) (hw _ (List.mem_of_getElem? (i := 206) rfl)) (Or.inr (Or.inr rfl)) (hw _ (List.mem_of_getElem? (i := 205) rfl)) (by decide) (W := 0) B7.1 (argsL := []) (rest := []) ((c_cVer l Z a0 hw n0 hS2 KTS2.old bk _ _ _ _ _ _ _ _ B7 gb).pay Own.VT.cl (hw _ (List.mem_of_getElem? (i := 207) rfl)) (hw _ (List.mem_of_getElem? (i := 32) rfl)) (by decide) (by decide)) trivial (pc := 120) (Ls := #[.val (.int f), .val (.int cc), .val (.int pr), .val (.int sn), .val (.int ve), .val (.int sk), .val (.ref ca), .val (.ref nm), .val (.ref bk), .unset, .unset, .unset, .unset, .unset, .unset]) (st := [(.ref bk)]) (by rw [hml]; rfl) (lenOf pd_0 rfl) rfl (Nat.le_of_eq rfl) (hb hby at_120) (by decide) (by decide) (allS (Or.inr g_bk) all0)
      obtain ⟨rfl, B8⟩ := Q39
      have S39 : Go p e below A0 (T39.setTop (mkF m 123 #[.val (.int f), .val (.int cc), .val (.int pr), .val (.int sn), .val (.int ve), .val (.int sk), .val (.ref ca), .val (.ref nm), .val (.ref bk), .unset, .unset, .unset, .unset, .unset, .unset] [])) := S38.trans G39
      have Bq : BookAt Z h39 bk (.ref bi) (.ref as) (.ref nm) (own_b pr) (own_b ve) 0 sy 0 := by rw [own_b1 q]; exact B8
      exact ⟨vm39, T39, h39, K39, ⟨Bq, Xn7.keep KK39⟩, S39⟩
  have S40 : Go p e below A0 (TS3.setTop (mkF m 125 #[.val (.int f), .val (.int cc), .val (.int pr), .val (.int sn), .val (.int ve), .val (.int sk), .val (.ref ca), .val (.ref nm), .val (.ref bk), .unset, .unset, .unset, .unset, .unset, .unset] [(.int sk)])) := by
    refine STS3.trans ?_
    refine (Own.P.iload KTS3.here KTS3.exec (hb hby at_123) rfl).trans ?_
    exact Go.refl _
  obtain ⟨vmTS4, TS4, hS4, KTS4, ⟨B11, Xn11⟩, STS4⟩ : ∃ (vmTS4 : Vm) (TS4 : State) (hS4 : Heap), Own.Wk false p l e room_1 s m #[(.int f), (.int cc)] below meth c "com/example/tidebook/tidebook/book/BookCountMismatchedPinLaw" Z n0 h0 [] vmTS4 TS4 hS4 14 559 ∧ (BookAt Z hS4 bk (.ref bi) (.ref as) (.ref nm) (own_b pr) (own_b ve) (own_b sk) sy 0 ∧ Exa Z hS4 nm "java/lang/String") ∧ Go p e below A0 (TS4.setTop (mkF m 133 #[.val (.int f), .val (.int cc), .val (.int pr), .val (.int sn), .val (.int ve), .val (.int sk), .val (.ref ca), .val (.ref nm), .val (.ref bk), .unset, .unset, .unset, .unset, .unset, .unset] [])) := by
    by_cases q : sk = 0
    case pos =>
      have Bq : BookAt Z hS3 bk (.ref bi) (.ref as) (.ref nm) (own_b pr) (own_b ve) (own_b sk) sy 0 := by rw [own_b0 q]; exact B9
      have S41 : Go p e below A0 (TS3.setTop (mkF m 133 #[.val (.int f), .val (.int cc), .val (.int pr), .val (.int sn), .val (.int ve), .val (.int sk), .val (.ref ca), .val (.ref nm), .val (.ref bk), .unset, .unset, .unset, .unset, .unset, .unset] [])) := by
        refine S40.trans ?_
        refine (Own.P.ifYes KTS3.here KTS3.exec 133 (hb hby at_125) (XT.i0_eq_t q) (by decide) (by decide)).trans ?_
        exact Go.refl _
      exact ⟨vmTS3, TS3, hS3, KTS3, ⟨Bq, Xn9⟩, S41⟩
    case neg =>
      have S42 : Go p e below A0 (TS3.setTop (mkF m 130 #[.val (.int f), .val (.int cc), .val (.int pr), .val (.int sn), .val (.int ve), .val (.int sk), .val (.ref ca), .val (.ref nm), .val (.ref bk), .unset, .unset, .unset, .unset, .unset, .unset] [(.ref bk)])) := by
        refine S40.trans ?_
        refine (Own.P.ifNo KTS3.here KTS3.exec (hb hby at_125) (XT.i0_eq_f q)).trans ?_
        refine (Own.P.aload KTS3.here KTS3.exec (hb hby at_128) rfl rfl).trans ?_
        exact Go.refl _
      obtain ⟨v43, vm43, vq43, T43, h43, K43, KK43, ev43, Q43, G43⟩ := KTS3.callV (C := "com/example/tidebook/tidebook/book/Book") (y := (⟨"com/example/tidebook/tidebook/book/Book", "countSkipped", "()V"⟩ : MethodName)) (z := (⟨"com/example/tidebook/tidebook/book/Book", "countSkipped", "()V"⟩ : MethodName)) (hw _ (List.mem_of_getElem? (i := 208) rfl)) (hw _ (List.mem_of_getElem? (i := 209) rfl)) (hw _ (List.mem_of_getElem? (i := 211) rfl)) (Or.inr (Or.inr rfl)) (hw _ (List.mem_of_getElem? (i := 210) rfl)) (by decide) (W := 0) B9.1 (argsL := []) (rest := []) ((c_cSkp l Z a0 hw n0 hS3 KTS3.old bk _ _ _ _ _ _ _ _ B9 gb).pay Own.VT.cl (hw _ (List.mem_of_getElem? (i := 212) rfl)) (hw _ (List.mem_of_getElem? (i := 32) rfl)) (by decide) (by decide)) trivial (pc := 130) (Ls := #[.val (.int f), .val (.int cc), .val (.int pr), .val (.int sn), .val (.int ve), .val (.int sk), .val (.ref ca), .val (.ref nm), .val (.ref bk), .unset, .unset, .unset, .unset, .unset, .unset]) (st := [(.ref bk)]) (by rw [hml]; rfl) (lenOf pd_0 rfl) rfl (Nat.le_of_eq rfl) (hb hby at_130) (by decide) (by decide) (allS (Or.inr g_bk) all0)
      obtain ⟨rfl, B10⟩ := Q43
      have S43 : Go p e below A0 (T43.setTop (mkF m 133 #[.val (.int f), .val (.int cc), .val (.int pr), .val (.int sn), .val (.int ve), .val (.int sk), .val (.ref ca), .val (.ref nm), .val (.ref bk), .unset, .unset, .unset, .unset, .unset, .unset] [])) := S42.trans G43
      have Bq : BookAt Z h43 bk (.ref bi) (.ref as) (.ref nm) (own_b pr) (own_b ve) (own_b sk) sy 0 := by rw [own_b1 q]; exact B10
      exact ⟨vm43, T43, h43, K43, ⟨Bq, Xn9.keep KK43⟩, S43⟩
  have S44 : Go p e below A0 (TS4.setTop (mkF m 134 #[.val (.int f), .val (.int cc), .val (.int pr), .val (.int sn), .val (.int ve), .val (.int sk), .val (.ref ca), .val (.ref nm), .val (.ref bk), .unset, .unset, .unset, .unset, .unset, .unset] [(.int pr)])) := by
    refine STS4.trans ?_
    refine (Own.P.iloadN KTS4.here KTS4.exec (hb hby at_133) rfl).trans ?_
    exact Go.refl _
  have SJ1 : Go p e below A0 (TS4.setTop (mkF m 142 #[.val (.int f), .val (.int cc), .val (.int pr), .val (.int sn), .val (.int ve), .val (.int sk), .val (.ref ca), .val (.ref nm), .val (.ref bk), .unset, .unset, .unset, .unset, .unset, .unset] [(.long (own_b pr))])) := by
    by_cases q : pr = 0
    case pos =>
      have S45 : Go p e below A0 (TS4.setTop (mkF m 142 #[.val (.int f), .val (.int cc), .val (.int pr), .val (.int sn), .val (.int ve), .val (.int sk), .val (.ref ca), .val (.ref nm), .val (.ref bk), .unset, .unset, .unset, .unset, .unset, .unset] [(.long (0 : Int64))])) := by
        refine S44.trans ?_
        refine (Own.P.ifYes KTS4.here KTS4.exec 141 (hb hby at_134) (XT.i0_eq_t q) (by decide) (by decide)).trans ?_
        refine (Own.P.lconst KTS4.here KTS4.exec (0 : Int64) (hb hby at_141) rfl).trans ?_
        exact Go.refl _
      rw [own_b0 q]; exact S45
    case neg =>
      have S46 : Go p e below A0 (TS4.setTop (mkF m 142 #[.val (.int f), .val (.int cc), .val (.int pr), .val (.int sn), .val (.int ve), .val (.int sk), .val (.ref ca), .val (.ref nm), .val (.ref bk), .unset, .unset, .unset, .unset, .unset, .unset] [(.long (1 : Int64))])) := by
        refine S44.trans ?_
        refine (Own.P.ifNo KTS4.here KTS4.exec (hb hby at_134) (XT.i0_eq_f q)).trans ?_
        refine (Own.P.lconst KTS4.here KTS4.exec (1 : Int64) (hb hby at_137) rfl).trans ?_
        refine (Own.P.goto KTS4.here KTS4.exec 142 (hb hby at_138) (by decide) (by decide)).trans ?_
        exact Go.refl _
      rw [own_b1 q]; exact S46
  have S47 : Go p e below A0 (TS4.setTop (mkF m 146 #[.val (.int f), .val (.int cc), .val (.int pr), .val (.int sn), .val (.int ve), .val (.int sk), .val (.ref ca), .val (.ref nm), .val (.ref bk), .val (.long (own_b pr)), .second, .unset, .unset, .unset, .unset] [(.int ve)])) := by
    refine SJ1.trans ?_
    refine (Own.P.lstore KTS4.here KTS4.exec (l' := #[.val (.int f), .val (.int cc), .val (.int pr), .val (.int sn), .val (.int ve), .val (.int sk), .val (.ref ca), .val (.ref nm), .val (.ref bk), .val (.long (own_b pr)), .second, .unset, .unset, .unset, .unset]) (hb hby at_142) rfl).trans ?_
    refine (Own.P.iload KTS4.here KTS4.exec (hb hby at_144) rfl).trans ?_
    exact Go.refl _
  have SJ2 : Go p e below A0 (TS4.setTop (mkF m 154 #[.val (.int f), .val (.int cc), .val (.int pr), .val (.int sn), .val (.int ve), .val (.int sk), .val (.ref ca), .val (.ref nm), .val (.ref bk), .val (.long (own_b pr)), .second, .unset, .unset, .unset, .unset] [(.long (own_b ve))])) := by
    by_cases q : ve = 0
    case pos =>
      have S48 : Go p e below A0 (TS4.setTop (mkF m 154 #[.val (.int f), .val (.int cc), .val (.int pr), .val (.int sn), .val (.int ve), .val (.int sk), .val (.ref ca), .val (.ref nm), .val (.ref bk), .val (.long (own_b pr)), .second, .unset, .unset, .unset, .unset] [(.long (0 : Int64))])) := by
        refine S47.trans ?_
        refine (Own.P.ifYes KTS4.here KTS4.exec 153 (hb hby at_146) (XT.i0_eq_t q) (by decide) (by decide)).trans ?_
        refine (Own.P.lconst KTS4.here KTS4.exec (0 : Int64) (hb hby at_153) rfl).trans ?_
        exact Go.refl _
      rw [own_b0 q]; exact S48
    case neg =>
      have S49 : Go p e below A0 (TS4.setTop (mkF m 154 #[.val (.int f), .val (.int cc), .val (.int pr), .val (.int sn), .val (.int ve), .val (.int sk), .val (.ref ca), .val (.ref nm), .val (.ref bk), .val (.long (own_b pr)), .second, .unset, .unset, .unset, .unset] [(.long (1 : Int64))])) := by
        refine S47.trans ?_
        refine (Own.P.ifNo KTS4.here KTS4.exec (hb hby at_146) (XT.i0_eq_f q)).trans ?_
        refine (Own.P.lconst KTS4.here KTS4.exec (1 : Int64) (hb hby at_149) rfl).trans ?_
        refine (Own.P.goto KTS4.here KTS4.exec 154 (hb hby at_150) (by decide) (by decide)).trans ?_
        exact Go.refl _
      rw [own_b1 q]; exact S49
  have S50 : Go p e below A0 (TS4.setTop (mkF m 158 #[.val (.int f), .val (.int cc), .val (.int pr), .val (.int sn), .val (.int ve), .val (.int sk), .val (.ref ca), .val (.ref nm), .val (.ref bk), .val (.long (own_b pr)), .second, .val (.long (own_b ve)), .second, .unset, .unset] [(.int sk)])) := by
    refine SJ2.trans ?_
    refine (Own.P.lstore KTS4.here KTS4.exec (l' := #[.val (.int f), .val (.int cc), .val (.int pr), .val (.int sn), .val (.int ve), .val (.int sk), .val (.ref ca), .val (.ref nm), .val (.ref bk), .val (.long (own_b pr)), .second, .val (.long (own_b ve)), .second, .unset, .unset]) (hb hby at_154) rfl).trans ?_
    refine (Own.P.iload KTS4.here KTS4.exec (hb hby at_156) rfl).trans ?_
    exact Go.refl _
  have SJ3 : Go p e below A0 (TS4.setTop (mkF m 166 #[.val (.int f), .val (.int cc), .val (.int pr), .val (.int sn), .val (.int ve), .val (.int sk), .val (.ref ca), .val (.ref nm), .val (.ref bk), .val (.long (own_b pr)), .second, .val (.long (own_b ve)), .second, .unset, .unset] [(.long (own_b sk))])) := by
    by_cases q : sk = 0
    case pos =>
      have S51 : Go p e below A0 (TS4.setTop (mkF m 166 #[.val (.int f), .val (.int cc), .val (.int pr), .val (.int sn), .val (.int ve), .val (.int sk), .val (.ref ca), .val (.ref nm), .val (.ref bk), .val (.long (own_b pr)), .second, .val (.long (own_b ve)), .second, .unset, .unset] [(.long (0 : Int64))])) := by
        refine S50.trans ?_
        refine (Own.P.ifYes KTS4.here KTS4.exec 165 (hb hby at_158) (XT.i0_eq_t q) (by decide) (by decide)).trans ?_
        refine (Own.P.lconst KTS4.here KTS4.exec (0 : Int64) (hb hby at_165) rfl).trans ?_
        exact Go.refl _
      rw [own_b0 q]; exact S51
    case neg =>
      have S52 : Go p e below A0 (TS4.setTop (mkF m 166 #[.val (.int f), .val (.int cc), .val (.int pr), .val (.int sn), .val (.int ve), .val (.int sk), .val (.ref ca), .val (.ref nm), .val (.ref bk), .val (.long (own_b pr)), .second, .val (.long (own_b ve)), .second, .unset, .unset] [(.long (1 : Int64))])) := by
        refine S50.trans ?_
        refine (Own.P.ifNo KTS4.here KTS4.exec (hb hby at_158) (XT.i0_eq_f q)).trans ?_
        refine (Own.P.lconst KTS4.here KTS4.exec (1 : Int64) (hb hby at_161) rfl).trans ?_
        refine (Own.P.goto KTS4.here KTS4.exec 166 (hb hby at_162) (by decide) (by decide)).trans ?_
        exact Go.refl _
      rw [own_b1 q]; exact S52
  have S53 : Go p e below A0 (TS4.setTop (mkF m 170 #[.val (.int f), .val (.int cc), .val (.int pr), .val (.int sn), .val (.int ve), .val (.int sk), .val (.ref ca), .val (.ref nm), .val (.ref bk), .val (.long (own_b pr)), .second, .val (.long (own_b ve)), .second, .val (.long (own_b sk)), .second] [(.ref bk)])) := by
    refine SJ3.trans ?_
    refine (Own.P.lstore KTS4.here KTS4.exec (l' := #[.val (.int f), .val (.int cc), .val (.int pr), .val (.int sn), .val (.int ve), .val (.int sk), .val (.ref ca), .val (.ref nm), .val (.ref bk), .val (.long (own_b pr)), .second, .val (.long (own_b ve)), .second, .val (.long (own_b sk)), .second]) (hb hby at_166) rfl).trans ?_
    refine (Own.P.aload KTS4.here KTS4.exec (hb hby at_168) rfl rfl).trans ?_
    exact Go.refl _
  obtain ⟨v54, vm54, vq54, T54, h54, K54, KK54, ev54, Q54, G54⟩ := KTS4.callV (C := "com/example/tidebook/tidebook/book/Book") (y := (⟨"com/example/tidebook/tidebook/book/Book", "countMismatched", "()V"⟩ : MethodName)) (z := (⟨"com/example/tidebook/tidebook/book/Book", "countMismatched", "()V"⟩ : MethodName)) (hw _ (List.mem_of_getElem? (i := 64) rfl)) (hw _ (List.mem_of_getElem? (i := 65) rfl)) (hw _ (List.mem_of_getElem? (i := 67) rfl)) (Or.inr (Or.inr rfl)) (hw _ (List.mem_of_getElem? (i := 66) rfl)) (by decide) (W := 0) B11.1 (argsL := []) (rest := []) ((c_cMis l Z a0 hw n0 hS4 KTS4.old bk _ _ _ _ _ _ _ _ B11 gb).pay Own.VT.cl (hw _ (List.mem_of_getElem? (i := 68) rfl)) (hw _ (List.mem_of_getElem? (i := 32) rfl)) (by decide) (by decide)) trivial (pc := 170) (Ls := #[.val (.int f), .val (.int cc), .val (.int pr), .val (.int sn), .val (.int ve), .val (.int sk), .val (.ref ca), .val (.ref nm), .val (.ref bk), .val (.long (own_b pr)), .second, .val (.long (own_b ve)), .second, .val (.long (own_b sk)), .second]) (st := [(.ref bk)]) (by rw [hml]; rfl) (lenOf pd_0 rfl) rfl (Nat.le_of_eq rfl) (hb hby at_170) (by decide) (by decide) (allS (Or.inr g_bk) all0)
  obtain ⟨rfl, B12⟩ := Q54
  have S54 : Go p e below A0 (T54.setTop (mkF m 173 #[.val (.int f), .val (.int cc), .val (.int pr), .val (.int sn), .val (.int ve), .val (.int sk), .val (.ref ca), .val (.ref nm), .val (.ref bk), .val (.long (own_b pr)), .second, .val (.long (own_b ve)), .second, .val (.long (own_b sk)), .second] [])) := S53.trans G54
  have Xn12 := Xn11.keep KK54
  have S55 : Go p e below A0 (T54.setTop (mkF m 175 #[.val (.int f), .val (.int cc), .val (.int pr), .val (.int sn), .val (.int ve), .val (.int sk), .val (.ref ca), .val (.ref nm), .val (.ref bk), .val (.long (own_b pr)), .second, .val (.long (own_b ve)), .second, .val (.long (own_b sk)), .second] [(.ref bk)])) := by
    refine S54.trans ?_
    refine (Own.P.aload K54.here K54.exec (hb hby at_173) rfl rfl).trans ?_
    exact Go.refl _
  obtain ⟨v56, vm56, vq56, T56, h56, K56, KK56, ev56, Q56, G56⟩ := K54.callV (C := "com/example/tidebook/tidebook/book/Book") (y := (⟨"com/example/tidebook/tidebook/book/Book", "mismatched", "()J"⟩ : MethodName)) (z := (⟨"com/example/tidebook/tidebook/book/Book", "mismatched", "()J"⟩ : MethodName)) (hw _ (List.mem_of_getElem? (i := 73) rfl)) (hw _ (List.mem_of_getElem? (i := 74) rfl)) (hw _ (List.mem_of_getElem? (i := 76) rfl)) (Or.inr (Or.inr rfl)) (hw _ (List.mem_of_getElem? (i := 75) rfl)) (by decide) (W := 0) B12.1 (argsL := []) (rest := []) ((c_mismatched l Z a0 hw n0 h54 K54.old bk _ _ _ _ _ _ _ _ B12).pay Own.VT.cl (hw _ (List.mem_of_getElem? (i := 77) rfl)) (hw _ (List.mem_of_getElem? (i := 32) rfl)) (by decide) (by decide)) trivial (pc := 175) (Ls := #[.val (.int f), .val (.int cc), .val (.int pr), .val (.int sn), .val (.int ve), .val (.int sk), .val (.ref ca), .val (.ref nm), .val (.ref bk), .val (.long (own_b pr)), .second, .val (.long (own_b ve)), .second, .val (.long (own_b sk)), .second]) (st := [(.ref bk)]) (by rw [hml]; rfl) (lenOf pd_11 rfl) rfl (Nat.le_of_eq rfl) (hb hby at_175) (by decide) (by decide) all0
  obtain ⟨rfl, e56⟩ := Q56
  have S56 : Go p e below A0 (T56.setTop (mkF m 178 #[.val (.int f), .val (.int cc), .val (.int pr), .val (.int sn), .val (.int ve), .val (.int sk), .val (.ref ca), .val (.ref nm), .val (.ref bk), .val (.long (own_b pr)), .second, .val (.long (own_b ve)), .second, .val (.long (own_b sk)), .second] [(.long (own_b pr + 1))])) := S55.trans G56
  subst e56
  have S57 : Go p e below A0 (T56.setTop (mkF m 188 #[.val (.int f), .val (.int cc), .val (.int pr), .val (.int sn), .val (.int ve), .val (.int sk), .val (.ref ca), .val (.ref nm), .val (.ref bk), .val (.long (own_b pr)), .second, .val (.long (own_b ve)), .second, .val (.long (own_b sk)), .second] [(.ref bk)])) := by
    refine S56.trans ?_
    refine (Own.P.lload K56.here K56.exec (hb hby at_178) rfl).trans ?_
    refine (Own.P.lconst K56.here K56.exec (1 : Int64) (hb hby at_180) rfl).trans ?_
    refine (Own.P.ladd K56.here K56.exec (hb hby at_181) ).trans ?_
    refine (Own.P.lcmp K56.here K56.exec (hb hby at_182) ).trans ?_
    refine (Own.P.ifNo K56.here K56.exec (hb hby at_183) (XT.ll_ne_f rfl)).trans ?_
    refine (Own.P.aload K56.here K56.exec (hb hby at_186) rfl rfl).trans ?_
    exact Go.refl _
  obtain ⟨v58, vm58, vq58, T58, h58, K58, KK58, ev58, Q58, G58⟩ := K56.callV (C := "com/example/tidebook/tidebook/book/Book") (y := (⟨"com/example/tidebook/tidebook/book/Book", "verified", "()J"⟩ : MethodName)) (z := (⟨"com/example/tidebook/tidebook/book/Book", "verified", "()J"⟩ : MethodName)) (hw _ (List.mem_of_getElem? (i := 78) rfl)) (hw _ (List.mem_of_getElem? (i := 79) rfl)) (hw _ (List.mem_of_getElem? (i := 81) rfl)) (Or.inr (Or.inr rfl)) (hw _ (List.mem_of_getElem? (i := 80) rfl)) (by decide) (W := 0) B12.1 (argsL := []) (rest := []) ((c_verified l Z a0 hw n0 h56 K56.old bk _ _ _ _ _ _ _ _ B12).pay Own.VT.cl (hw _ (List.mem_of_getElem? (i := 82) rfl)) (hw _ (List.mem_of_getElem? (i := 32) rfl)) (by decide) (by decide)) trivial (pc := 188) (Ls := #[.val (.int f), .val (.int cc), .val (.int pr), .val (.int sn), .val (.int ve), .val (.int sk), .val (.ref ca), .val (.ref nm), .val (.ref bk), .val (.long (own_b pr)), .second, .val (.long (own_b ve)), .second, .val (.long (own_b sk)), .second]) (st := [(.ref bk)]) (by rw [hml]; rfl) (lenOf pd_11 rfl) rfl (Nat.le_of_eq rfl) (hb hby at_188) (by decide) (by decide) all0
  obtain ⟨rfl, e58⟩ := Q58
  have S58 : Go p e below A0 (T58.setTop (mkF m 191 #[.val (.int f), .val (.int cc), .val (.int pr), .val (.int sn), .val (.int ve), .val (.int sk), .val (.ref ca), .val (.ref nm), .val (.ref bk), .val (.long (own_b pr)), .second, .val (.long (own_b ve)), .second, .val (.long (own_b sk)), .second] [(.long (own_b ve))])) := S57.trans G58
  subst e58
  have S59 : Go p e below A0 (T58.setTop (mkF m 199 #[.val (.int f), .val (.int cc), .val (.int pr), .val (.int sn), .val (.int ve), .val (.int sk), .val (.ref ca), .val (.ref nm), .val (.ref bk), .val (.long (own_b pr)), .second, .val (.long (own_b ve)), .second, .val (.long (own_b sk)), .second] [(.ref bk)])) := by
    refine S58.trans ?_
    refine (Own.P.lload K58.here K58.exec (hb hby at_191) rfl).trans ?_
    refine (Own.P.lcmp K58.here K58.exec (hb hby at_193) ).trans ?_
    refine (Own.P.ifNo K58.here K58.exec (hb hby at_194) (XT.ll_ne_f rfl)).trans ?_
    refine (Own.P.aload K58.here K58.exec (hb hby at_197) rfl rfl).trans ?_
    exact Go.refl _
  obtain ⟨v60, vm60, vq60, T60, h60, K60, KK60, ev60, Q60, G60⟩ := K58.callV (C := "com/example/tidebook/tidebook/book/Book") (y := (⟨"com/example/tidebook/tidebook/book/Book", "checked", "()J"⟩ : MethodName)) (z := (⟨"com/example/tidebook/tidebook/book/Book", "checked", "()J"⟩ : MethodName)) (hw _ (List.mem_of_getElem? (i := 85) rfl)) (hw _ (List.mem_of_getElem? (i := 86) rfl)) (hw _ (List.mem_of_getElem? (i := 88) rfl)) (Or.inr (Or.inr rfl)) (hw _ (List.mem_of_getElem? (i := 87) rfl)) (by decide) (W := 0) B12.1 (argsL := []) (rest := []) ((c_checked l Z a0 hw n0 h58 K58.old bk _ _ _ _ _ _ _ _ B12).pay Own.VT.cl (hw _ (List.mem_of_getElem? (i := 89) rfl)) (hw _ (List.mem_of_getElem? (i := 32) rfl)) (by decide) (by decide)) trivial (pc := 199) (Ls := #[.val (.int f), .val (.int cc), .val (.int pr), .val (.int sn), .val (.int ve), .val (.int sk), .val (.ref ca), .val (.ref nm), .val (.ref bk), .val (.long (own_b pr)), .second, .val (.long (own_b ve)), .second, .val (.long (own_b sk)), .second]) (st := [(.ref bk)]) (by rw [hml]; rfl) (lenOf pd_11 rfl) rfl (Nat.le_of_eq rfl) (hb hby at_199) (by decide) (by decide) all0
  obtain ⟨rfl, e60⟩ := Q60
  have S60 : Go p e below A0 (T60.setTop (mkF m 202 #[.val (.int f), .val (.int cc), .val (.int pr), .val (.int sn), .val (.int ve), .val (.int sk), .val (.ref ca), .val (.ref nm), .val (.ref bk), .val (.long (own_b pr)), .second, .val (.long (own_b ve)), .second, .val (.long (own_b sk)), .second] [(.long (own_b ve + (own_b pr + 1)))])) := S59.trans G60
  subst e60
  have S61 : Go p e below A0 (T60.setTop (mkF m 215 #[.val (.int f), .val (.int cc), .val (.int pr), .val (.int sn), .val (.int ve), .val (.int sk), .val (.ref ca), .val (.ref nm), .val (.ref bk), .val (.long (own_b pr)), .second, .val (.long (own_b ve)), .second, .val (.long (own_b sk)), .second] [(.ref bk)])) := by
    refine S60.trans ?_
    refine (Own.P.lload K60.here K60.exec (hb hby at_202) rfl).trans ?_
    refine (Own.P.lload K60.here K60.exec (hb hby at_204) rfl).trans ?_
    refine (Own.P.ladd K60.here K60.exec (hb hby at_206) ).trans ?_
    refine (Own.P.lconst K60.here K60.exec (1 : Int64) (hb hby at_207) rfl).trans ?_
    refine (Own.P.ladd K60.here K60.exec (hb hby at_208) ).trans ?_
    refine (Own.P.lcmp K60.here K60.exec (hb hby at_209) ).trans ?_
    refine (Own.P.ifNo K60.here K60.exec (hb hby at_210) (XT.ll_ne_f (Int64.add_assoc _ _ _).symm)).trans ?_
    refine (Own.P.aload K60.here K60.exec (hb hby at_213) rfl rfl).trans ?_
    exact Go.refl _
  obtain ⟨v62, vm62, vq62, T62, h62, K62, KK62, ev62, Q62, G62⟩ := K60.callV (C := "com/example/tidebook/tidebook/book/Book") (y := (⟨"com/example/tidebook/tidebook/book/Book", "skipped", "()J"⟩ : MethodName)) (z := (⟨"com/example/tidebook/tidebook/book/Book", "skipped", "()J"⟩ : MethodName)) (hw _ (List.mem_of_getElem? (i := 90) rfl)) (hw _ (List.mem_of_getElem? (i := 91) rfl)) (hw _ (List.mem_of_getElem? (i := 93) rfl)) (Or.inr (Or.inr rfl)) (hw _ (List.mem_of_getElem? (i := 92) rfl)) (by decide) (W := 0) B12.1 (argsL := []) (rest := []) ((c_skipped l Z a0 hw n0 h60 K60.old bk _ _ _ _ _ _ _ _ B12).pay Own.VT.cl (hw _ (List.mem_of_getElem? (i := 94) rfl)) (hw _ (List.mem_of_getElem? (i := 32) rfl)) (by decide) (by decide)) trivial (pc := 215) (Ls := #[.val (.int f), .val (.int cc), .val (.int pr), .val (.int sn), .val (.int ve), .val (.int sk), .val (.ref ca), .val (.ref nm), .val (.ref bk), .val (.long (own_b pr)), .second, .val (.long (own_b ve)), .second, .val (.long (own_b sk)), .second]) (st := [(.ref bk)]) (by rw [hml]; rfl) (lenOf pd_11 rfl) rfl (Nat.le_of_eq rfl) (hb hby at_215) (by decide) (by decide) all0
  obtain ⟨rfl, e62⟩ := Q62
  have S62 : Go p e below A0 (T62.setTop (mkF m 218 #[.val (.int f), .val (.int cc), .val (.int pr), .val (.int sn), .val (.int ve), .val (.int sk), .val (.ref ca), .val (.ref nm), .val (.ref bk), .val (.long (own_b pr)), .second, .val (.long (own_b ve)), .second, .val (.long (own_b sk)), .second] [(.long (own_b sk))])) := S61.trans G62
  subst e62
  have S63 : Go p e below A0 (T62.setTop (mkF m 226 #[.val (.int f), .val (.int cc), .val (.int pr), .val (.int sn), .val (.int ve), .val (.int sk), .val (.ref ca), .val (.ref nm), .val (.ref bk), .val (.long (own_b pr)), .second, .val (.long (own_b ve)), .second, .val (.long (own_b sk)), .second] [(.ref bk)])) := by
    refine S62.trans ?_
    refine (Own.P.lload K62.here K62.exec (hb hby at_218) rfl).trans ?_
    refine (Own.P.lcmp K62.here K62.exec (hb hby at_220) ).trans ?_
    refine (Own.P.ifNo K62.here K62.exec (hb hby at_221) (XT.ll_ne_f rfl)).trans ?_
    refine (Own.P.aload K62.here K62.exec (hb hby at_224) rfl rfl).trans ?_
    exact Go.refl _
  obtain ⟨v64, vm64, vq64, T64, h64, K64, KK64, ev64, Q64, G64⟩ := K62.callV (C := "com/example/tidebook/tidebook/book/Book") (y := (⟨"com/example/tidebook/tidebook/book/Book", "isSynced", "()Z"⟩ : MethodName)) (z := (⟨"com/example/tidebook/tidebook/book/Book", "isSynced", "()Z"⟩ : MethodName)) (hw _ (List.mem_of_getElem? (i := 97) rfl)) (hw _ (List.mem_of_getElem? (i := 98) rfl)) (hw _ (List.mem_of_getElem? (i := 100) rfl)) (Or.inr (Or.inr rfl)) (hw _ (List.mem_of_getElem? (i := 99) rfl)) (by decide) (W := 0) B12.1 (argsL := []) (rest := []) ((c_isSynced l Z a0 hw n0 h62 K62.old bk _ _ _ _ _ _ _ _ B12 rfl).pay Own.VT.cl (hw _ (List.mem_of_getElem? (i := 101) rfl)) (hw _ (List.mem_of_getElem? (i := 32) rfl)) (by decide) (by decide)) trivial (pc := 226) (Ls := #[.val (.int f), .val (.int cc), .val (.int pr), .val (.int sn), .val (.int ve), .val (.int sk), .val (.ref ca), .val (.ref nm), .val (.ref bk), .val (.long (own_b pr)), .second, .val (.long (own_b ve)), .second, .val (.long (own_b sk)), .second]) (st := [(.ref bk)]) (by rw [hml]; rfl) (lenOf pd_7 rfl) rfl (Nat.le_of_eq rfl) (hb hby at_226) (by decide) (by decide) all0
  obtain ⟨rfl, e64⟩ := Q64
  have S64 : Go p e below A0 (T64.setTop (mkF m 229 #[.val (.int f), .val (.int cc), .val (.int pr), .val (.int sn), .val (.int ve), .val (.int sk), .val (.ref ca), .val (.ref nm), .val (.ref bk), .val (.long (own_b pr)), .second, .val (.long (own_b ve)), .second, .val (.long (own_b sk)), .second] [(.int (0 : Int32))])) := S63.trans G64
  subst e64
  have S65 : Go p e below A0 (T64.setTop (mkF m 234 #[.val (.int f), .val (.int cc), .val (.int pr), .val (.int sn), .val (.int ve), .val (.int sk), .val (.ref ca), .val (.ref nm), .val (.ref bk), .val (.long (own_b pr)), .second, .val (.long (own_b ve)), .second, .val (.long (own_b sk)), .second] [(.ref bk)])) := by
    refine S64.trans ?_
    refine (Own.P.ifNo K64.here K64.exec (hb hby at_229) (by decide)).trans ?_
    refine (Own.P.aload K64.here K64.exec (hb hby at_232) rfl rfl).trans ?_
    exact Go.refl _
  obtain ⟨v66, vm66, vq66, T66, h66, K66, KK66, ev66, Q66, G66⟩ := K64.callV (C := "com/example/tidebook/tidebook/book/Book") (y := (⟨"com/example/tidebook/tidebook/book/Book", "messages", "()J"⟩ : MethodName)) (z := (⟨"com/example/tidebook/tidebook/book/Book", "messages", "()J"⟩ : MethodName)) (hw _ (List.mem_of_getElem? (i := 102) rfl)) (hw _ (List.mem_of_getElem? (i := 103) rfl)) (hw _ (List.mem_of_getElem? (i := 105) rfl)) (Or.inr (Or.inr rfl)) (hw _ (List.mem_of_getElem? (i := 104) rfl)) (by decide) (W := 0) B12.1 (argsL := []) (rest := []) ((c_messages l Z a0 hw n0 h64 K64.old bk _ _ _ _ _ _ _ _ B12).pay Own.VT.cl (hw _ (List.mem_of_getElem? (i := 106) rfl)) (hw _ (List.mem_of_getElem? (i := 32) rfl)) (by decide) (by decide)) trivial (pc := 234) (Ls := #[.val (.int f), .val (.int cc), .val (.int pr), .val (.int sn), .val (.int ve), .val (.int sk), .val (.ref ca), .val (.ref nm), .val (.ref bk), .val (.long (own_b pr)), .second, .val (.long (own_b ve)), .second, .val (.long (own_b sk)), .second]) (st := [(.ref bk)]) (by rw [hml]; rfl) (lenOf pd_11 rfl) rfl (Nat.le_of_eq rfl) (hb hby at_234) (by decide) (by decide) all0
  obtain ⟨rfl, e66⟩ := Q66
  have S66 : Go p e below A0 (T66.setTop (mkF m 237 #[.val (.int f), .val (.int cc), .val (.int pr), .val (.int sn), .val (.int ve), .val (.int sk), .val (.ref ca), .val (.ref nm), .val (.ref bk), .val (.long (own_b pr)), .second, .val (.long (own_b ve)), .second, .val (.long (own_b sk)), .second] [(.long (0 : Int64))])) := S65.trans G66
  subst e66
  have S67 : Go p e below A0 (T66.setTop (mkF m 246 #[.val (.int f), .val (.int cc), .val (.int pr), .val (.int sn), .val (.int ve), .val (.int sk), .val (.ref ca), .val (.ref nm), .val (.ref bk), .val (.long (own_b pr)), .second, .val (.long (own_b ve)), .second, .val (.long (own_b sk)), .second] [(.ref bk), (.ref nm)])) := by
    refine S66.trans ?_
    refine (Own.P.lconst K66.here K66.exec (0 : Int64) (hb hby at_237) rfl).trans ?_
    refine (Own.P.lcmp K66.here K66.exec (hb hby at_238) ).trans ?_
    refine (Own.P.ifNo K66.here K66.exec (hb hby at_239) (XT.ll_ne_f rfl)).trans ?_
    refine (Own.P.aload K66.here K66.exec (hb hby at_242) rfl rfl).trans ?_
    refine (Own.P.aload K66.here K66.exec (hb hby at_244) rfl rfl).trans ?_
    exact Go.refl _
  obtain ⟨v68, vm68, vq68, T68, h68, K68, KK68, ev68, Q68, G68⟩ := K66.callV (C := "com/example/tidebook/tidebook/book/Book") (y := (⟨"com/example/tidebook/tidebook/book/Book", "name", "()Ljava/lang/String;"⟩ : MethodName)) (z := (⟨"com/example/tidebook/tidebook/book/Book", "name", "()Ljava/lang/String;"⟩ : MethodName)) (hw _ (List.mem_of_getElem? (i := 109) rfl)) (hw _ (List.mem_of_getElem? (i := 110) rfl)) (hw _ (List.mem_of_getElem? (i := 112) rfl)) (Or.inr (Or.inr rfl)) (hw _ (List.mem_of_getElem? (i := 111) rfl)) (by decide) (W := 1) B12.1 (argsL := []) (rest := [(.ref nm)]) ((c_bname l Z a0 hw n0 h66 K66.old bk _ _ nm _ _ _ _ _ B12).pay Own.VT.cl (hw _ (List.mem_of_getElem? (i := 113) rfl)) (hw _ (List.mem_of_getElem? (i := 32) rfl)) (by decide) (by decide)) trivial (pc := 246) (Ls := #[.val (.int f), .val (.int cc), .val (.int pr), .val (.int sn), .val (.int ve), .val (.int sk), .val (.ref ca), .val (.ref nm), .val (.ref bk), .val (.long (own_b pr)), .second, .val (.long (own_b ve)), .second, .val (.long (own_b sk)), .second]) (st := [(.ref bk), (.ref nm)]) (by rw [hml]; rfl) (lenOf pd_12 rfl) rfl (Nat.le_of_eq rfl) (hb hby at_246) (by decide) (by decide) all0
  obtain ⟨rfl, e68⟩ := Q68
  have S68 : Go p e below A0 (T68.setTop (mkF m 249 #[.val (.int f), .val (.int cc), .val (.int pr), .val (.int sn), .val (.int ve), .val (.int sk), .val (.ref ca), .val (.ref nm), .val (.ref bk), .val (.long (own_b pr)), .second, .val (.long (own_b ve)), .second, .val (.long (own_b sk)), .second] [(.ref nm), (.ref nm)])) := S67.trans G68
  subst e68
  obtain ⟨v69, vm69, vq69, T69, h69, K69, KK69, ev69, Q69, G69⟩ := K68.callV (C := "java/lang/String") (y := (⟨"java/lang/String", "equals", "(Ljava/lang/Object;)Z"⟩ : MethodName)) (z := (⟨"java/lang/String", "equals", "(Ljava/lang/Object;)Z"⟩ : MethodName)) (hw _ (List.mem_of_getElem? (i := 114) rfl)) (hw _ (List.mem_of_getElem? (i := 115) rfl)) (hw _ (List.mem_of_getElem? (i := 117) rfl)) (Or.inr (Or.inr rfl)) (hw _ (List.mem_of_getElem? (i := 116) rfl)) (by decide) (W := 0) Xn12 (argsL := [(.ref nm)]) (rest := []) ((c_eqSame l Z a0 hw n0 h68 K68.old nm).pay Own.VT.cl (hw _ (List.mem_of_getElem? (i := 118) rfl)) (hw _ (List.mem_of_getElem? (i := 3) rfl)) (by decide) (by decide)) trivial (pc := 249) (Ls := #[.val (.int f), .val (.int cc), .val (.int pr), .val (.int sn), .val (.int ve), .val (.int sk), .val (.ref ca), .val (.ref nm), .val (.ref bk), .val (.long (own_b pr)), .second, .val (.long (own_b ve)), .second, .val (.long (own_b sk)), .second]) (st := [(.ref nm), (.ref nm)]) (by rw [hml]; rfl) (lenOf pd_13 rfl) rfl (Nat.le_of_eq rfl) (hb hby at_249) (by decide) (by decide) all0
  obtain ⟨rfl, e69⟩ := Q69
  have S69 : Go p e below A0 (T69.setTop (mkF m 252 #[.val (.int f), .val (.int cc), .val (.int pr), .val (.int sn), .val (.int ve), .val (.int sk), .val (.ref ca), .val (.ref nm), .val (.ref bk), .val (.long (own_b pr)), .second, .val (.long (own_b ve)), .second, .val (.long (own_b sk)), .second] [(.int (1 : Int32))])) := S68.trans G69
  subst e69
  have S70 : Go p e below A0 (T69.setTop (mkF m 260 #[.val (.int f), .val (.int cc), .val (.int pr), .val (.int sn), .val (.int ve), .val (.int sk), .val (.ref ca), .val (.ref nm), .val (.ref bk), .val (.long (own_b pr)), .second, .val (.long (own_b ve)), .second, .val (.long (own_b sk)), .second] [(.int (1 : Int32))])) := by
    refine S69.trans ?_
    refine (Own.P.ifNo K69.here K69.exec (hb hby at_252) (by decide)).trans ?_
    refine (Own.P.iconst K69.here K69.exec (1 : Int32) (hb hby at_255) rfl).trans ?_
    refine (Own.P.goto K69.here K69.exec 260 (hb hby at_256) (by decide) (by decide)).trans ?_
    exact Go.refl _
  exact ⟨vm69, T69, h69, (some (.int (1 : Int32))), _, _, K69, by decide, by decide, ⟨rfl, trivial⟩, K69.retW S70 hret rfl (Or.inl ⟨rfl, by decide, _, rfl⟩) (hb hby at_260)⟩
set_option maxRecDepth 65536 in
set_option maxHeartbeats 40000000 in
theorem comes_1 {Post : Tables → Env → Array Value → State → Outcome → State → Prop} (hpost : ∀ tb e args s v u, (limb_1_1.after args s (.returned v) u = true ∧ limb_1_2.after args s (.returned v) u = true ∧ True) → FrameEnd s (.returned v) u (Jvm.fieldLocs frame_1_writes args s ++ Jvm.arrayLocs frame_1_arrays args s ++ Jvm.staticLocs frame_1_statics s) 40 1216 → Post tb e args s (.returned v) u) :
    ArmFor flags0 classFile x code maxLocals ret World_1 tables_1 room_1 Calls_1 rest_1 Pre_1 Post := by
  intro l hfl _ _ p e ha hc hk s m args below hf hA hF happ hP
  obtain ⟨hcalls, hrest, hpre⟩ := hP
  obtain ⟨-, -, -, hnamed, -, -, -, hat⟩ := (Spec.applies_iff hf).mp happ
  obtain ⟨hg, hn⟩ := and_e (Cond.before_iff.mp (show (Jvm.Cond.and given_1 narrow_1).before args s = true from hpre))
  obtain ⟨h1, h2⟩ := and_e hg
  obtain ⟨h3, h4⟩ := and_e h2
  obtain ⟨w0, w1, rfl⟩ : ∃ w0 w1 : Value, args = #[w0, w1] := by
    have hs : args.size = 2 := by simpa [Cond.value, given_1] using h1
    obtain ⟨L⟩ := args
    match L, hs with
    | [w0, w1], _ => exact ⟨w0, w1, rfl⟩
  have hw := fun d (hd : d ∈ tables_1) => atoms_spec (ws := Jvm.Cond.code x code maxLocals ret :: tables_1) hat d (List.mem_cons_of_mem _ hd)
  obtain ⟨hsets, hown0⟩ := atoms_of _ (rest_1_c_eq ▸ (show rest_1_c.before _ s = true from hrest))
  have hfit : Fit s := fun {y c} hc i hi => by
    obtain ⟨ha, rfl⟩ := Array.getElem?_eq_some_iff.mp hc
    have q := List.all_eq_true.mp ((Array.all_eq_true_iff_forall_mem.mp hF) _ (Array.getElem_mem ha)) i (List.mem_range.mpr hi)
    simpa [Array.getElem?_eq_getElem hi] using q
  have n5 := not_v (Cond.before_iff.mp (hsets _ (List.mem_of_getElem? (i := 2) rfl)))
  obtain ⟨i7, e6⟩ := is_v h3
  obtain rfl : w0 = (.int i7) := Option.some.inj e6
  obtain ⟨i9, e8⟩ := is_v h4
  obtain rfl : w1 = (.int i9) := Option.some.inj e8
  obtain ⟨i11, e10⟩ := is_v (Cond.before_iff.mp (hsets _ (List.mem_of_getElem? (i := 1) rfl)))
  have S12 : Sta s s.heap "java/lang/String" "COMPACT_STRINGS" "Z" (.int i11) := Sta.start e10 (Or.inl (hsets _ (List.mem_of_getElem? (i := 0) rfl)))
  have c17 : ¬ (i11 = (0 : Int32)) := gotF (Cond.eq_ints e10 (Term.int_eval (0))) n5
  obtain ⟨vd, ed⟩ := exa_v (Cond.before_iff.mp (hsets _ (List.mem_of_getElem? (i := 16) rfl)))
  have SD : Sta s s.heap "java/util/ArrayList" "DEFAULTCAPACITY_EMPTY_ELEMENTDATA" "[Ljava/lang/Object;" (.ref vd) := Sta.start ed (Or.inr ⟨hw _ (List.mem_of_getElem? (i := 121) rfl), hsets _ (List.mem_of_getElem? (i := 11) rfl)⟩)
  obtain ⟨n, o, h1, h2, h3, v, L, rfl, ⟨⟨rfl, -⟩, -, NW⟩, hq⟩ := c_law l s _ hw s.heap.size s.heap (Old.start s) i7 i9 i11 c17 (.ref vd) rfl rfl rfl S12 SD tables_1 p e ha hc hk s m _ below hf ((Spec.applies_iff_loose hf).mp happ).1 ⟨rfl, State.Warmed39.refl s, rfl, trivial⟩ trivial
  have N := NW.fr all0 (Nat.le_refl _)
  refine ⟨n, _, h1, h2, h3, hpost _ _ _ _ _ _ ⟨Cond.after_iff.mpr rfl, Cond.after_iff.mpr (eq_i res_at (Term.int_eval (1)) rfl), trivial⟩ ⟨hq.1, hq.2.1, (hq.2.2.sift fun y hy => Or.inr (N y hy)).mono (by decide) (by decide)⟩⟩
theorem main_1_1 : Claimed_1_1 := comes_1 fun _ _ _ _ _ _ h hF => ⟨h.1, hF⟩
theorem main_1_2 : Claimed_1_2 := comes_1 fun _ _ _ _ _ _ h hF => ⟨h.2.1, hF⟩
end Jvm.Pilot.@@N@@
namespace Jvm.Pilot.@@N@@
open Jvm Jvm.ClassFile Sem Op Lib Jvm.Free Jvm.Stand Jvm.Pilot.@@N@@.Jvm.D
/-! MADE BY PROGRAM (witnessworld.py) out of the Statement's table words and the real class files: 36 classes; the members and pool entries that the words name. The judged class is class 1, her method 1. -/
namespace start1
open Jvm.ClassFile
def u (s : String) : CpInfo := .utf8 (stringToUtf16 s)
/-- a pool by its gaps: so many unusable entries, then the entry; so many at the end -/
def gap : Nat → List CpInfo → List CpInfo
  | 0, r => r
  | n + 1, r => .unusable :: gap n r
def poolList (es : List (Nat × CpInfo)) (last : Nat) : List CpInfo := es.foldr (fun e r => gap e.1 (e.2 :: r)) (gap last [])
def pool (es : List (Nat × CpInfo)) (last : Nat) : Array CpInfo := ⟨poolList es last⟩
def fileOf (pool : Array CpInfo) (this : Nat) (attrs : Array Attribute := #[]) (ms : Array MethodInfo := #[]) (fl : Nat := 33) (sup : Nat := 0) (ifs : Array Nat := #[]) (fds : Array FieldInfo := #[]) : ClassFile where
  minorVersion := 0
  majorVersion := 65
  constantPool := pool
  accessFlags := fl
  thisClass := this
  superClass := sup
  interfaces := ifs
  fields := fds
  methods := ms
  attributes := attrs
def plain (name : String) (sup : Option ClassId) : Class where
  name := name
  kind := .ordinary
  loader := none
  accessFlags := 33
  super := sup
  interfaces := #[]
  cf := none
  fields := #[]
  methods := #[]
  instanceTypes := #[]
  staticTypes := #[]
  resolved := #[]
  callSites := []
  init := .initialized
  statics := none
  mirror := none

def pool0 : Array CpInfo := pool [(5, u "<init>"), (0, u "()V"), (1, .class_ 10), (1, u "java/lang/Object")] 113

def k0c0 : Code := { maxStack := 0, maxLocals := 1, code := object_method_1_code, exceptionTable := #[], attributes := #[] }
def k0m0 : Method := { name := "<init>", desc := "()V", sig := { parameters := [], returnType := none }, accessFlags := 1, code := some k0c0 }
/-- java/lang/Object -/
def k0 : Class := { plain "java/lang/Object" none with
  accessFlags := 33
  interfaces := #[]
  cf := some (fileOf pool0 8 #[] #[{ accessFlags := 1, nameIndex := 5, descriptorIndex := 6, attributes := #[] }] 33 0 #[] #[])
  fields := #[]
  methods := #[k0m0]
  instanceTypes := #[]
  staticTypes := #[]
  resolved := Array.replicate 124 none
  statics := none }

def pool1 : Array CpInfo := pool [(2, .class_ 4), (0, .nameAndType 5 6), (0, u "java/lang/Object"), (0, u "<init>"), (0, u "()V"), (0, .class_ 8), (0, u "java/lang/String"), (0, .methodref 7 10), (0, .nameAndType 5 11), (0, u "([C)V"), (0, .class_ 13), (0, u "com/example/tidebook/tidebook/book/Book"), (0, .methodref 12 15), (0, .nameAndType 5 16), (0, u "(Ljava/lang/String;)V"), (0, .methodref 12 18), (0, .nameAndType 19 6), (0, u "countMismatched"), (0, .class_ 21), (0, u "java/util/ArrayList"), (0, .methodref 20 3), (0, .methodref 12 24), (0, .nameAndType 25 26), (0, u "replace"), (0, u "(Ljava/util/List;)V"), (0, .methodref 12 28), (0, .nameAndType 29 6), (0, u "countVerified"), (0, .methodref 12 31), (0, .nameAndType 32 6), (0, u "countSkipped"), (0, .methodref 12 34), (0, .nameAndType 35 36), (0, u "mismatched"), (0, u "()J"), (0, .methodref 12 38), (0, .nameAndType 39 36), (0, u "verified"), (0, .methodref 12 41), (0, .nameAndType 42 36), (0, u "checked"), (0, .methodref 12 44), (0, .nameAndType 45 36), (0, u "skipped"), (0, .methodref 12 47), (0, .nameAndType 48 49), (0, u "isSynced"), (0, u "()Z"), (0, .methodref 12 51), (0, .nameAndType 52 36), (0, u "messages"), (0, .methodref 12 54), (0, .nameAndType 55 56), (0, u "name"), (0, u "()Ljava/lang/String;"), (0, .methodref 7 58), (0, .nameAndType 59 60), (0, u "equals"), (0, u "(Ljava/lang/Object;)Z"), (0, .class_ 62), (0, u "com/example/tidebook/tidebook/book/BookCountMismatchedPinLaw"), (2, u "law"), (0, u "(II)Z")] 5

def k1m0 : Method := { name := "<init>", desc := "()V", sig := { parameters := [], returnType := none }, accessFlags := 1, code := none }
def k1c1 : Code := { maxStack := 6, maxLocals := 15, code := code, exceptionTable := #[], attributes := #[] }
def k1m1 : Method := { name := "law", desc := "(II)Z", sig := { parameters := [.int, .int], returnType := some .boolean }, accessFlags := 9, code := some k1c1 }
/-- com/example/tidebook/tidebook/book/BookCountMismatchedPinLaw -/
def k1 : Class := { plain "com/example/tidebook/tidebook/book/BookCountMismatchedPinLaw" (some 0) with
  accessFlags := 49
  interfaces := #[]
  cf := some (fileOf pool1 61 #[] #[{ accessFlags := 1, nameIndex := 5, descriptorIndex := 6, attributes := #[] }, { accessFlags := 9, nameIndex := 65, descriptorIndex := 66, attributes := #[] }] 49 2 #[] #[])
  fields := #[]
  methods := #[k1m0, k1m1]
  instanceTypes := #[]
  staticTypes := #[]
  resolved := Array.replicate 72 none
  statics := none }

def pool2 : Array CpInfo := pool [(1, .class_ 2), (0, u "java/io/Serializable"), (0, .class_ 4), (0, u "java/lang/Object")] 2

/-- java/io/Serializable -/
def k2 : Class := { plain "java/io/Serializable" (some 0) with
  accessFlags := 1537
  interfaces := #[]
  cf := some (fileOf pool2 1 #[] #[] 1537 3 #[] #[])
  fields := #[]
  methods := #[]
  instanceTypes := #[]
  staticTypes := #[]
  resolved := Array.replicate 7 none
  statics := none }

def pool3 : Array CpInfo := pool [(1, .class_ 2), (0, u "java/lang/Comparable"), (0, .class_ 4), (0, u "java/lang/Object")] 7

/-- java/lang/Comparable -/
def k3 : Class := { plain "java/lang/Comparable" (some 0) with
  accessFlags := 1537
  interfaces := #[]
  cf := some (fileOf pool3 1 #[] #[] 1537 3 #[] #[])
  fields := #[]
  methods := #[]
  instanceTypes := #[]
  staticTypes := #[]
  resolved := Array.replicate 12 none
  statics := none }

def pool4 : Array CpInfo := pool [(2, .class_ 4), (1, u "java/lang/CharSequence"), (42, .class_ 48), (0, u "java/lang/CharSequence$1CodePointIterator"), (10, .class_ 60), (0, u "java/lang/CharSequence$1CharIterator"), (5, .class_ 67), (0, u "java/lang/Object")] 63

/-- java/lang/CharSequence -/
def k4 : Class := { plain "java/lang/CharSequence" (some 0) with
  accessFlags := 1537
  interfaces := #[]
  cf := some (fileOf pool4 2 #[.nestMembers #[47, 59]] #[] 1537 66 #[] #[])
  fields := #[]
  methods := #[]
  instanceTypes := #[]
  staticTypes := #[]
  resolved := Array.replicate 131 none
  statics := none }

def pool5 : Array CpInfo := pool [(1, .class_ 2), (0, u "java/lang/constant/Constable"), (0, .class_ 4), (0, u "java/lang/Object")] 6

/-- java/lang/constant/Constable -/
def k5 : Class := { plain "java/lang/constant/Constable" (some 0) with
  accessFlags := 1537
  interfaces := #[]
  cf := some (fileOf pool5 1 #[] #[] 1537 3 #[] #[])
  fields := #[]
  methods := #[]
  instanceTypes := #[]
  staticTypes := #[]
  resolved := Array.replicate 11 none
  statics := none }

def pool6 : Array CpInfo := pool [(1, .class_ 2), (0, u "java/lang/constant/ConstantDesc"), (0, .class_ 4), (0, u "java/lang/Object")] 32

/-- java/lang/constant/ConstantDesc -/
def k6 : Class := { plain "java/lang/constant/ConstantDesc" (some 0) with
  accessFlags := 1537
  interfaces := #[]
  cf := some (fileOf pool6 1 #[] #[] 1537 3 #[] #[])
  fields := #[]
  methods := #[]
  instanceTypes := #[]
  staticTypes := #[]
  resolved := Array.replicate 37 none
  statics := none }

def pool7 : Array CpInfo := pool [(1, .methodref 2 3), (0, .class_ 4), (0, .nameAndType 5 6), (0, u "java/lang/Object"), (0, u "<init>"), (0, u "()V"), (2, .fieldref 10 11), (0, .class_ 12), (0, .nameAndType 13 14), (0, u "java/lang/String"), (0, u "value"), (0, u "[B"), (0, .fieldref 10 16), (0, .nameAndType 17 18), (0, u "coder"), (0, u "B"), (2, u "hash"), (0, u "I"), (2, u "hashIsZero"), (0, u "Z"), (0, .methodref 10 28), (0, .nameAndType 5 29), (0, u "([CIILjava/lang/Void;)V"), (8, .fieldref 10 39), (0, .nameAndType 40 26), (0, u "COMPACT_STRINGS"), (1, .class_ 44), (1, u "java/lang/StringUTF16"), (0, u "compress"), (1, .methodref 42 48), (0, .nameAndType 49 50), (0, u "coderFromArrayLen"), (0, u "([BI)B"), (126, .methodref 42 178), (0, .nameAndType 45 179), (0, u "([CII)[B"), (363, u "equals"), (29, u "(Ljava/lang/Object;)Z"), (1, .class_ 576), (0, u "java/lang/CharSequence"), (22, u "CASE_INSENSITIVE_ORDER"), (0, u "Ljava/util/Comparator;"), (409, u "([C)V"), (90, u "serialPersistentFields"), (0, u "[Ljava/io/ObjectStreamField;"), (0, .class_ 1104), (0, u "java/lang/String$CaseInsensitiveComparator"), (1, .class_ 1107), (0, u "java/io/Serializable"), (0, .class_ 1109), (0, u "java/lang/Comparable"), (0, .class_ 1111), (0, u "java/lang/constant/Constable"), (0, .class_ 1113), (0, u "java/lang/constant/ConstantDesc"), (2, u "serialVersionUID"), (0, u "J"), (3, u "REPL"), (0, u "C"), (2, u "LATIN1"), (1, u "UTF16")] 323

def k7m0 : Method := { name := "<init>", desc := "()V", sig := { parameters := [], returnType := none }, accessFlags := 1, code := none }
def k7c1 : Code := { maxStack := 5, maxLocals := 2, code := jdk_42_method_3_code, exceptionTable := #[], attributes := #[] }
def k7m1 : Method := { name := "<init>", desc := "([C)V", sig := { parameters := [(.array .char)], returnType := none }, accessFlags := 1, code := some k7c1 }
def k7c2 : Code := { maxStack := 2, maxLocals := 3, code := jdk_42_method_66_code, exceptionTable := #[], attributes := #[] }
def k7m2 : Method := { name := "equals", desc := "(Ljava/lang/Object;)Z", sig := { parameters := [(.object "java/lang/Object")], returnType := some .boolean }, accessFlags := 1, code := some k7c2 }
def k7c3 : Code := { maxStack := 4, maxLocals := 6, code := jdk_42_method_149_code, exceptionTable := #[], attributes := #[] }
def k7m3 : Method := { name := "<init>", desc := "([CIILjava/lang/Void;)V", sig := { parameters := [(.array .char), .int, .int, (.object "java/lang/Void")], returnType := none }, accessFlags := 2, code := some k7c3 }
/-- java/lang/String -/
def k7 : Class := { plain "java/lang/String" (some 0) with
  accessFlags := 49
  interfaces := #[2, 3, 4, 5, 6]
  cf := some (fileOf pool7 10 #[.nestMembers #[1103]] #[{ accessFlags := 1, nameIndex := 5, descriptorIndex := 6, attributes := #[] }, { accessFlags := 1, nameIndex := 5, descriptorIndex := 1010, attributes := #[] }, { accessFlags := 1, nameIndex := 543, descriptorIndex := 573, attributes := #[] }, { accessFlags := 2, nameIndex := 5, descriptorIndex := 29, attributes := #[] }] 49 2 #[1106, 1108, 575, 1110, 1112] #[{ accessFlags := 18, nameIndex := 13, descriptorIndex := 14, attributes := #[] }, { accessFlags := 18, nameIndex := 17, descriptorIndex := 18, attributes := #[] }, { accessFlags := 2, nameIndex := 21, descriptorIndex := 22, attributes := #[] }, { accessFlags := 2, nameIndex := 25, descriptorIndex := 26, attributes := #[] }, { accessFlags := 26, nameIndex := 1116, descriptorIndex := 1117, attributes := #[] }, { accessFlags := 24, nameIndex := 40, descriptorIndex := 26, attributes := #[] }, { accessFlags := 26, nameIndex := 1101, descriptorIndex := 1102, attributes := #[] }, { accessFlags := 26, nameIndex := 1121, descriptorIndex := 1122, attributes := #[] }, { accessFlags := 25, nameIndex := 599, descriptorIndex := 600, attributes := #[] }, { accessFlags := 24, nameIndex := 1125, descriptorIndex := 18, attributes := #[] }, { accessFlags := 24, nameIndex := 1127, descriptorIndex := 18, attributes := #[] }])
  fields := #[{ name := "value", type := (.array .byte), accessFlags := 18, slot := 0, constantValue := 0 }, { name := "coder", type := .byte, accessFlags := 18, slot := 1, constantValue := 0 }, { name := "hash", type := .int, accessFlags := 2, slot := 2, constantValue := 0 }, { name := "hashIsZero", type := .boolean, accessFlags := 2, slot := 3, constantValue := 0 }, { name := "serialVersionUID", type := .long, accessFlags := 26, slot := 0, constantValue := 0 }, { name := "COMPACT_STRINGS", type := .boolean, accessFlags := 24, slot := 1, constantValue := 0 }, { name := "serialPersistentFields", type := (.array (.object "java/io/ObjectStreamField")), accessFlags := 26, slot := 2, constantValue := 0 }, { name := "REPL", type := .char, accessFlags := 26, slot := 3, constantValue := 0 }, { name := "CASE_INSENSITIVE_ORDER", type := (.object "java/util/Comparator"), accessFlags := 25, slot := 4, constantValue := 0 }, { name := "LATIN1", type := .byte, accessFlags := 24, slot := 5, constantValue := 0 }, { name := "UTF16", type := .byte, accessFlags := 24, slot := 6, constantValue := 0 }]
  methods := #[k7m0, k7m1, k7m2, k7m3]
  instanceTypes := #[(.array .byte), .byte, .int, .boolean]
  staticTypes := #[.long, .boolean, (.array (.object "java/io/ObjectStreamField")), .char, (.object "java/util/Comparator"), .byte, .byte]
  resolved := Array.replicate 1451 none
  statics := some 0 }

def pool8 : Array CpInfo := pool [(6, .class_ 8), (1, u "java/lang/Object"), (0, u "<init>"), (0, u "()V"), (1, .class_ 14), (1, u "java/lang/StringUTF16"), (31, u "$assertionsDisabled"), (0, u "Z"), (13, u "HI_BYTE_SHIFT"), (0, u "I"), (2, u "LO_BYTE_SHIFT"), (49, .methodref 12 116), (0, .nameAndType 117 118), (0, u "compress"), (0, u "([CI[BII)I"), (3, u "([CII)[B"), (138, u "coderFromArrayLen"), (0, u "([BI)B"), (106, .class_ 371), (1, u "java/lang/StringUTF16$LinesSpliterator"), (58, u "MAX_LENGTH"), (196, .class_ 628), (0, u "java/lang/StringUTF16$CodePointsSpliterator"), (0, .class_ 630), (0, u "java/lang/StringUTF16$CharsSpliterator")] 4

def k8m0 : Method := { name := "<init>", desc := "()V", sig := { parameters := [], returnType := none }, accessFlags := 0, code := none }
def k8c1 : Code := { maxStack := 2, maxLocals := 2, code := jdk_52_method_15_code, exceptionTable := #[], attributes := #[] }
def k8m1 : Method := { name := "coderFromArrayLen", desc := "([BI)B", sig := { parameters := [(.array .byte), .int], returnType := some .byte }, accessFlags := 8, code := some k8c1 }
def k8c2 : Code := { maxStack := 5, maxLocals := 6, code := jdk_52_method_16_code, exceptionTable := #[], attributes := #[] }
def k8m2 : Method := { name := "compress", desc := "([CII)[B", sig := { parameters := [(.array .char), .int, .int], returnType := some (.array .byte) }, accessFlags := 9, code := some k8c2 }
def k8c3 : Code := { maxStack := 3, maxLocals := 7, code := jdk_52_method_21_code, exceptionTable := #[], attributes := #[] }
def k8m3 : Method := { name := "compress", desc := "([CI[BII)I", sig := { parameters := [(.array .char), .int, (.array .byte), .int, .int], returnType := some .int }, accessFlags := 9, code := some k8c3 }
/-- java/lang/StringUTF16 -/
def k8 : Class := { plain "java/lang/StringUTF16" (some 0) with
  accessFlags := 48
  interfaces := #[]
  cf := some (fileOf pool8 12 #[.nestMembers #[627, 629, 369]] #[{ accessFlags := 0, nameIndex := 9, descriptorIndex := 10, attributes := #[] }, { accessFlags := 8, nameIndex := 261, descriptorIndex := 262, attributes := #[] }, { accessFlags := 9, nameIndex := 117, descriptorIndex := 122, attributes := #[] }, { accessFlags := 9, nameIndex := 117, descriptorIndex := 118, attributes := #[] }] 48 6 #[] #[{ accessFlags := 26, nameIndex := 61, descriptorIndex := 62, attributes := #[] }, { accessFlags := 26, nameIndex := 65, descriptorIndex := 62, attributes := #[] }, { accessFlags := 24, nameIndex := 430, descriptorIndex := 62, attributes := #[] }, { accessFlags := 4120, nameIndex := 46, descriptorIndex := 47, attributes := #[] }])
  fields := #[{ name := "HI_BYTE_SHIFT", type := .int, accessFlags := 26, slot := 0, constantValue := 0 }, { name := "LO_BYTE_SHIFT", type := .int, accessFlags := 26, slot := 1, constantValue := 0 }, { name := "MAX_LENGTH", type := .int, accessFlags := 24, slot := 2, constantValue := 0 }, { name := "$assertionsDisabled", type := .boolean, accessFlags := 4120, slot := 3, constantValue := 0 }]
  methods := #[k8m0, k8m1, k8m2, k8m3]
  instanceTypes := #[]
  staticTypes := #[.int, .int, .int, .boolean]
  resolved := Array.replicate 635 none
  statics := none }

def pool9 : Array CpInfo := pool [(1, .methodref 2 3), (0, .class_ 4), (0, .nameAndType 5 6), (0, u "java/lang/Object"), (0, u "<init>"), (0, u "()V"), (0, .class_ 8), (0, u "com/example/tidebook/tidebook/book/BookSide"), (0, .methodref 7 10), (0, .nameAndType 5 11), (0, u "(Z)V"), (0, .fieldref 13 14), (0, .class_ 15), (0, .nameAndType 16 17), (0, u "com/example/tidebook/tidebook/book/Book"), (0, u "bids"), (0, u "Lcom/example/tidebook/tidebook/book/BookSide;"), (0, .fieldref 13 19), (0, .nameAndType 20 17), (0, u "asks"), (0, .fieldref 13 22), (0, .nameAndType 23 24), (0, u "name"), (0, u "Ljava/lang/String;"), (5, u "()Z"), (20, .fieldref 13 52), (0, .nameAndType 53 54), (0, u "synced"), (0, u "Z"), (38, .fieldref 13 94), (0, .nameAndType 95 96), (0, u "messages"), (0, u "J"), (0, .fieldref 13 98), (0, .nameAndType 99 96), (0, u "verified"), (0, .fieldref 13 101), (0, .nameAndType 102 96), (0, u "mismatched"), (0, .fieldref 13 104), (0, .nameAndType 105 96), (0, u "skipped"), (0, .methodref 7 107), (0, .nameAndType 108 6), (0, u "clear"), (0, .interfaceMethodref 110 111), (0, .class_ 112), (0, .nameAndType 113 114), (0, u "java/util/List"), (0, u "iterator"), (0, u "()Ljava/util/Iterator;"), (0, .interfaceMethodref 116 117), (0, .class_ 118), (0, .nameAndType 119 30), (0, u "java/util/Iterator"), (0, u "hasNext"), (15, .class_ 137), (1, u "com/example/tidebook/tidebook/book/Book$1"), (53, u "(Ljava/lang/String;)V"), (5, u "()Ljava/lang/String;"), (0, u "isSynced"), (5, u "()J"), (0, u "checked"), (0, u "replace"), (0, u "(Ljava/util/List;)V"), (4, u "countVerified"), (0, u "countMismatched"), (1, u "countSkipped")] 5

def k9c0 : Code := { maxStack := 4, maxLocals := 2, code := prog_2_method_1_code, exceptionTable := #[], attributes := #[] }
def k9m0 : Method := { name := "<init>", desc := "(Ljava/lang/String;)V", sig := { parameters := [(.object "java/lang/String")], returnType := none }, accessFlags := 0, code := some k9c0 }
def k9c1 : Code := { maxStack := 1, maxLocals := 1, code := prog_2_method_3_code, exceptionTable := #[], attributes := #[] }
def k9m1 : Method := { name := "name", desc := "()Ljava/lang/String;", sig := { parameters := [], returnType := some (.object "java/lang/String") }, accessFlags := 1, code := some k9c1 }
def k9c2 : Code := { maxStack := 1, maxLocals := 1, code := prog_2_method_4_code, exceptionTable := #[], attributes := #[] }
def k9m2 : Method := { name := "isSynced", desc := "()Z", sig := { parameters := [], returnType := some .boolean }, accessFlags := 1, code := some k9c2 }
def k9c3 : Code := { maxStack := 2, maxLocals := 1, code := prog_2_method_8_code, exceptionTable := #[], attributes := #[] }
def k9m3 : Method := { name := "messages", desc := "()J", sig := { parameters := [], returnType := some .long }, accessFlags := 1, code := some k9c3 }
def k9c4 : Code := { maxStack := 4, maxLocals := 1, code := prog_2_method_9_code, exceptionTable := #[], attributes := #[] }
def k9m4 : Method := { name := "checked", desc := "()J", sig := { parameters := [], returnType := some .long }, accessFlags := 1, code := some k9c4 }
def k9c5 : Code := { maxStack := 2, maxLocals := 1, code := prog_2_method_10_code, exceptionTable := #[], attributes := #[] }
def k9m5 : Method := { name := "verified", desc := "()J", sig := { parameters := [], returnType := some .long }, accessFlags := 1, code := some k9c5 }
def k9c6 : Code := { maxStack := 2, maxLocals := 1, code := prog_2_method_11_code, exceptionTable := #[], attributes := #[] }
def k9m6 : Method := { name := "mismatched", desc := "()J", sig := { parameters := [], returnType := some .long }, accessFlags := 1, code := some k9c6 }
def k9c7 : Code := { maxStack := 2, maxLocals := 1, code := prog_2_method_12_code, exceptionTable := #[], attributes := #[] }
def k9m7 : Method := { name := "skipped", desc := "()J", sig := { parameters := [], returnType := some .long }, accessFlags := 1, code := some k9c7 }
def k9c8 : Code := { maxStack := 2, maxLocals := 4, code := prog_2_method_13_code, exceptionTable := #[], attributes := #[] }
def k9m8 : Method := { name := "replace", desc := "(Ljava/util/List;)V", sig := { parameters := [(.object "java/util/List")], returnType := none }, accessFlags := 0, code := some k9c8 }
def k9c9 : Code := { maxStack := 5, maxLocals := 1, code := prog_2_method_16_code, exceptionTable := #[], attributes := #[] }
def k9m9 : Method := { name := "countVerified", desc := "()V", sig := { parameters := [], returnType := none }, accessFlags := 0, code := some k9c9 }
def k9c10 : Code := { maxStack := 5, maxLocals := 1, code := prog_2_method_17_code, exceptionTable := #[], attributes := #[] }
def k9m10 : Method := { name := "countMismatched", desc := "()V", sig := { parameters := [], returnType := none }, accessFlags := 0, code := some k9c10 }
def k9c11 : Code := { maxStack := 5, maxLocals := 1, code := prog_2_method_19_code, exceptionTable := #[], attributes := #[] }
def k9m11 : Method := { name := "countSkipped", desc := "()V", sig := { parameters := [], returnType := none }, accessFlags := 0, code := some k9c11 }
/-- com/example/tidebook/tidebook/book/Book -/
def k9 : Class := { plain "com/example/tidebook/tidebook/book/Book" (some 0) with
  accessFlags := 49
  interfaces := #[]
  cf := some (fileOf pool9 13 #[.nestMembers #[135]] #[{ accessFlags := 0, nameIndex := 5, descriptorIndex := 191, attributes := #[] }, { accessFlags := 1, nameIndex := 23, descriptorIndex := 197, attributes := #[] }, { accessFlags := 1, nameIndex := 198, descriptorIndex := 30, attributes := #[] }, { accessFlags := 1, nameIndex := 95, descriptorIndex := 204, attributes := #[] }, { accessFlags := 1, nameIndex := 205, descriptorIndex := 204, attributes := #[] }, { accessFlags := 1, nameIndex := 99, descriptorIndex := 204, attributes := #[] }, { accessFlags := 1, nameIndex := 102, descriptorIndex := 204, attributes := #[] }, { accessFlags := 1, nameIndex := 105, descriptorIndex := 204, attributes := #[] }, { accessFlags := 0, nameIndex := 206, descriptorIndex := 207, attributes := #[] }, { accessFlags := 0, nameIndex := 212, descriptorIndex := 6, attributes := #[] }, { accessFlags := 0, nameIndex := 213, descriptorIndex := 6, attributes := #[] }, { accessFlags := 0, nameIndex := 215, descriptorIndex := 6, attributes := #[] }] 49 2 #[] #[{ accessFlags := 18, nameIndex := 23, descriptorIndex := 24, attributes := #[] }, { accessFlags := 18, nameIndex := 16, descriptorIndex := 17, attributes := #[] }, { accessFlags := 18, nameIndex := 20, descriptorIndex := 17, attributes := #[] }, { accessFlags := 2, nameIndex := 53, descriptorIndex := 54, attributes := #[] }, { accessFlags := 2, nameIndex := 95, descriptorIndex := 96, attributes := #[] }, { accessFlags := 2, nameIndex := 99, descriptorIndex := 96, attributes := #[] }, { accessFlags := 2, nameIndex := 102, descriptorIndex := 96, attributes := #[] }, { accessFlags := 2, nameIndex := 105, descriptorIndex := 96, attributes := #[] }])
  fields := #[{ name := "name", type := (.object "java/lang/String"), accessFlags := 18, slot := 0, constantValue := 0 }, { name := "bids", type := (.object "com/example/tidebook/tidebook/book/BookSide"), accessFlags := 18, slot := 1, constantValue := 0 }, { name := "asks", type := (.object "com/example/tidebook/tidebook/book/BookSide"), accessFlags := 18, slot := 2, constantValue := 0 }, { name := "synced", type := .boolean, accessFlags := 2, slot := 3, constantValue := 0 }, { name := "messages", type := .long, accessFlags := 2, slot := 4, constantValue := 0 }, { name := "verified", type := .long, accessFlags := 2, slot := 5, constantValue := 0 }, { name := "mismatched", type := .long, accessFlags := 2, slot := 6, constantValue := 0 }, { name := "skipped", type := .long, accessFlags := 2, slot := 7, constantValue := 0 }]
  methods := #[k9m0, k9m1, k9m2, k9m3, k9m4, k9m5, k9m6, k9m7, k9m8, k9m9, k9m10, k9m11]
  instanceTypes := #[(.object "java/lang/String"), (.object "com/example/tidebook/tidebook/book/BookSide"), (.object "com/example/tidebook/tidebook/book/BookSide"), .boolean, .long, .long, .long, .long]
  staticTypes := #[]
  resolved := Array.replicate 221 none
  statics := none }

def pool10 : Array CpInfo := pool [(1, .methodref 2 3), (0, .class_ 4), (0, .nameAndType 5 6), (0, u "java/lang/Object"), (0, u "<init>"), (0, u "()V"), (0, .class_ 8), (0, u "com/example/tidebook/tidebook/book/BookSide"), (0, .class_ 10), (0, u "[Lcom/example/tidebook/tidebook/book/Level;"), (0, .fieldref 7 12), (0, .nameAndType 13 14), (0, u "blocks"), (0, u "[[Lcom/example/tidebook/tidebook/book/Level;"), (0, .fieldref 7 16), (0, .nameAndType 17 18), (0, u "sizes"), (0, u "[I"), (0, .fieldref 7 20), (0, .nameAndType 21 22), (0, u "count"), (0, u "I"), (0, .fieldref 7 24), (0, .nameAndType 25 26), (0, u "descending"), (0, u "Z"), (0, .class_ 28), (0, u "com/example/tidebook/tidebook/book/Level"), (0, .fieldref 7 30), (0, .nameAndType 31 22), (0, u "size"), (45, .methodref 78 79), (0, .class_ 80), (0, .nameAndType 81 82), (0, u "java/util/Arrays"), (0, u "fill"), (0, u "([Ljava/lang/Object;IILjava/lang/Object;)V"), (11, .methodref 78 95), (0, .nameAndType 81 96), (0, u "([IIII)V"), (26, u "BLOCK"), (2, u "MIN_BLOCKS"), (1, u "(Z)V"), (14, u "clear")] 2

def k10c0 : Code := { maxStack := 3, maxLocals := 2, code := prog_9_method_1_code, exceptionTable := #[], attributes := #[] }
def k10m0 : Method := { name := "<init>", desc := "(Z)V", sig := { parameters := [.boolean], returnType := none }, accessFlags := 0, code := some k10c0 }
def k10c1 : Code := { maxStack := 4, maxLocals := 1, code := prog_9_method_9_code, exceptionTable := #[], attributes := #[] }
def k10m1 : Method := { name := "clear", desc := "()V", sig := { parameters := [], returnType := none }, accessFlags := 0, code := some k10c1 }
/-- com/example/tidebook/tidebook/book/BookSide -/
def k10 : Class := { plain "com/example/tidebook/tidebook/book/BookSide" (some 0) with
  accessFlags := 48
  interfaces := #[]
  cf := some (fileOf pool10 7 #[] #[{ accessFlags := 0, nameIndex := 5, descriptorIndex := 128, attributes := #[] }, { accessFlags := 0, nameIndex := 143, descriptorIndex := 6, attributes := #[] }] 48 2 #[] #[{ accessFlags := 24, nameIndex := 123, descriptorIndex := 22, attributes := #[] }, { accessFlags := 26, nameIndex := 126, descriptorIndex := 22, attributes := #[] }, { accessFlags := 18, nameIndex := 25, descriptorIndex := 26, attributes := #[] }, { accessFlags := 2, nameIndex := 13, descriptorIndex := 14, attributes := #[] }, { accessFlags := 2, nameIndex := 17, descriptorIndex := 18, attributes := #[] }, { accessFlags := 2, nameIndex := 21, descriptorIndex := 22, attributes := #[] }, { accessFlags := 2, nameIndex := 31, descriptorIndex := 22, attributes := #[] }])
  fields := #[{ name := "BLOCK", type := .int, accessFlags := 24, slot := 0, constantValue := 0 }, { name := "MIN_BLOCKS", type := .int, accessFlags := 26, slot := 1, constantValue := 0 }, { name := "descending", type := .boolean, accessFlags := 18, slot := 0, constantValue := 0 }, { name := "blocks", type := (.array (.array (.object "com/example/tidebook/tidebook/book/Level"))), accessFlags := 2, slot := 1, constantValue := 0 }, { name := "sizes", type := (.array .int), accessFlags := 2, slot := 2, constantValue := 0 }, { name := "count", type := .int, accessFlags := 2, slot := 3, constantValue := 0 }, { name := "size", type := .int, accessFlags := 2, slot := 4, constantValue := 0 }]
  methods := #[k10m0, k10m1]
  instanceTypes := #[.boolean, (.array (.array (.object "com/example/tidebook/tidebook/book/Level"))), (.array .int), .int, .int]
  staticTypes := #[.int, .int]
  resolved := Array.replicate 146 none
  statics := none }

def pool11 : Array CpInfo := pool [(2, .class_ 4), (1, u "java/lang/Object"), (0, u "<init>"), (0, u "()V"), (0, .class_ 8), (0, u "java/lang/Record")] 13

def k11m0 : Method := { name := "<init>", desc := "()V", sig := { parameters := [], returnType := none }, accessFlags := 4, code := none }
/-- java/lang/Record -/
def k11 : Class := { plain "java/lang/Record" (some 0) with
  accessFlags := 1057
  interfaces := #[]
  cf := some (fileOf pool11 7 #[] #[{ accessFlags := 4, nameIndex := 5, descriptorIndex := 6, attributes := #[] }] 1057 2 #[] #[])
  fields := #[]
  methods := #[k11m0]
  instanceTypes := #[]
  staticTypes := #[]
  resolved := Array.replicate 22 none
  statics := none }

def pool12 : Array CpInfo := pool [(2, .class_ 4), (1, u "java/lang/Record"), (3, u "price"), (7, u "quantity"), (1, .class_ 20), (1, u "com/example/tidebook/tidebook/book/Level"), (0, u "Lcom/example/tidebook/tidebook/decimal/Decimal;")] 43

/-- com/example/tidebook/tidebook/book/Level -/
def k12 : Class := { plain "com/example/tidebook/tidebook/book/Level" (some 11) with
  accessFlags := 49
  interfaces := #[]
  cf := some (fileOf pool12 18 #[] #[] 49 2 #[] #[{ accessFlags := 18, nameIndex := 8, descriptorIndex := 21, attributes := #[] }, { accessFlags := 18, nameIndex := 16, descriptorIndex := 21, attributes := #[] }])
  fields := #[{ name := "price", type := (.object "com/example/tidebook/tidebook/decimal/Decimal"), accessFlags := 18, slot := 0, constantValue := 0 }, { name := "quantity", type := (.object "com/example/tidebook/tidebook/decimal/Decimal"), accessFlags := 18, slot := 1, constantValue := 0 }]
  methods := #[]
  instanceTypes := #[(.object "com/example/tidebook/tidebook/decimal/Decimal"), (.object "com/example/tidebook/tidebook/decimal/Decimal")]
  staticTypes := #[]
  resolved := Array.replicate 65 none
  statics := none }

def pool13 : Array CpInfo := pool [(8, .class_ 10), (1, u "java/lang/Iterable"), (24, .class_ 36), (0, u "java/lang/Object")] 25

/-- java/lang/Iterable -/
def k13 : Class := { plain "java/lang/Iterable" (some 0) with
  accessFlags := 1537
  interfaces := #[]
  cf := some (fileOf pool13 8 #[] #[] 1537 35 #[] #[])
  fields := #[]
  methods := #[]
  instanceTypes := #[]
  staticTypes := #[]
  resolved := Array.replicate 62 none
  statics := none }

def pool14 : Array CpInfo := pool [(10, .class_ 12), (1, u "java/util/Collection"), (47, .class_ 61), (0, u "java/lang/Object"), (0, .class_ 63), (0, u "java/lang/Iterable")] 51

/-- java/util/Collection -/
def k14 : Class := { plain "java/util/Collection" (some 0) with
  accessFlags := 1537
  interfaces := #[13]
  cf := some (fileOf pool14 10 #[] #[] 1537 60 #[62] #[])
  fields := #[]
  methods := #[]
  instanceTypes := #[]
  staticTypes := #[]
  resolved := Array.replicate 115 none
  statics := none }

def pool15 : Array CpInfo := pool [(1, .methodref 2 3), (0, .class_ 4), (0, .nameAndType 5 6), (0, u "java/lang/Object"), (0, u "<init>"), (0, u "()V"), (1, .class_ 10), (1, u "java/util/AbstractCollection"), (66, .class_ 78), (0, u "java/util/Collection")] 81

def k15c0 : Code := { maxStack := 1, maxLocals := 1, code := jdk_22_method_1_code, exceptionTable := #[], attributes := #[] }
def k15m0 : Method := { name := "<init>", desc := "()V", sig := { parameters := [], returnType := none }, accessFlags := 4, code := some k15c0 }
/-- java/util/AbstractCollection -/
def k15 : Class := { plain "java/util/AbstractCollection" (some 0) with
  accessFlags := 1057
  interfaces := #[14]
  cf := some (fileOf pool15 8 #[] #[{ accessFlags := 4, nameIndex := 5, descriptorIndex := 6, attributes := #[] }] 1057 2 #[77] #[])
  fields := #[]
  methods := #[k15m0]
  instanceTypes := #[]
  staticTypes := #[]
  resolved := Array.replicate 160 none
  statics := none }

def pool16 : Array CpInfo := pool [(8, .class_ 10), (1, u "java/util/SequencedCollection"), (15, .class_ 27), (0, u "java/lang/Object"), (0, .class_ 29), (0, u "java/util/Collection")] 27

/-- java/util/SequencedCollection -/
def k16 : Class := { plain "java/util/SequencedCollection" (some 0) with
  accessFlags := 1537
  interfaces := #[14]
  cf := some (fileOf pool16 8 #[] #[] 1537 26 #[28] #[])
  fields := #[]
  methods := #[]
  instanceTypes := #[]
  staticTypes := #[]
  resolved := Array.replicate 57 none
  statics := none }

def pool17 : Array CpInfo := pool [(8, .class_ 10), (1, u "java/util/List"), (92, .class_ 104), (0, u "java/lang/Object"), (15, .class_ 121), (0, u "java/util/SequencedCollection"), (1, u "iterator"), (0, u "()Ljava/util/Iterator;")] 126

def k17m0 : Method := { name := "iterator", desc := "()Ljava/util/Iterator;", sig := { parameters := [], returnType := some (.object "java/util/Iterator") }, accessFlags := 1025, code := none }
/-- java/util/List -/
def k17 : Class := { plain "java/util/List" (some 0) with
  accessFlags := 1537
  interfaces := #[16]
  cf := some (fileOf pool17 8 #[] #[{ accessFlags := 1025, nameIndex := 123, descriptorIndex := 124, attributes := #[] }] 1537 103 #[120] #[])
  fields := #[]
  methods := #[k17m0]
  instanceTypes := #[]
  staticTypes := #[]
  resolved := Array.replicate 251 none
  statics := none }

def pool18 : Array CpInfo := pool [(1, .methodref 2 3), (0, .class_ 4), (0, .nameAndType 5 6), (0, u "java/util/AbstractCollection"), (0, u "<init>"), (0, u "()V"), (0, .fieldref 8 9), (0, .class_ 10), (0, .nameAndType 11 12), (0, u "java/util/AbstractList"), (0, u "modCount"), (0, u "I"), (64, .class_ 78), (0, u "java/util/AbstractList$Itr"), (3, .class_ 83), (0, u "java/util/AbstractList$ListItr"), (9, .class_ 94), (0, u "java/util/AbstractList$RandomAccessSubList"), (3, .class_ 99), (0, u "java/util/AbstractList$SubList"), (33, .class_ 134), (0, u "java/util/List"), (73, .class_ 209), (0, u "java/util/AbstractList$SubList$1"), (0, .class_ 211), (0, u "java/util/AbstractList$RandomAccessSpliterator")] 6

def k18c0 : Code := { maxStack := 2, maxLocals := 1, code := jdk_39_method_1_code, exceptionTable := #[], attributes := #[] }
def k18m0 : Method := { name := "<init>", desc := "()V", sig := { parameters := [], returnType := none }, accessFlags := 4, code := some k18c0 }
/-- java/util/AbstractList -/
def k18 : Class := { plain "java/util/AbstractList" (some 15) with
  accessFlags := 1057
  interfaces := #[17]
  cf := some (fileOf pool18 8 #[.nestMembers #[93, 98, 208, 210, 82, 77]] #[{ accessFlags := 4, nameIndex := 5, descriptorIndex := 6, attributes := #[] }] 1057 2 #[133] #[{ accessFlags := 132, nameIndex := 11, descriptorIndex := 12, attributes := #[] }])
  fields := #[{ name := "modCount", type := .int, accessFlags := 132, slot := 0, constantValue := 0 }]
  methods := #[k18m0]
  instanceTypes := #[.int]
  staticTypes := #[]
  resolved := Array.replicate 218 none
  statics := none }

def pool19 : Array CpInfo := pool [(1, .class_ 2), (0, u "java/util/RandomAccess"), (0, .class_ 4), (0, u "java/lang/Object")] 2

/-- java/util/RandomAccess -/
def k19 : Class := { plain "java/util/RandomAccess" (some 0) with
  accessFlags := 1537
  interfaces := #[]
  cf := some (fileOf pool19 1 #[] #[] 1537 3 #[] #[])
  fields := #[]
  methods := #[]
  instanceTypes := #[]
  staticTypes := #[]
  resolved := Array.replicate 7 none
  statics := none }

def pool20 : Array CpInfo := pool [(1, .class_ 2), (0, u "java/lang/Cloneable"), (0, .class_ 4), (0, u "java/lang/Object")] 2

/-- java/lang/Cloneable -/
def k20 : Class := { plain "java/lang/Cloneable" (some 0) with
  accessFlags := 1537
  interfaces := #[]
  cf := some (fileOf pool20 1 #[] #[] 1537 3 #[] #[])
  fields := #[]
  methods := #[]
  instanceTypes := #[]
  staticTypes := #[]
  resolved := Array.replicate 7 none
  statics := none }

def pool21 : Array CpInfo := pool [(1, .methodref 2 3), (0, .class_ 4), (0, .nameAndType 5 6), (0, u "java/util/AbstractList"), (0, u "<init>"), (0, u "()V"), (2, .fieldref 10 11), (0, .class_ 12), (0, .nameAndType 13 14), (0, u "java/util/ArrayList"), (0, u "elementData"), (0, u "[Ljava/lang/Object;"), (2, u "EMPTY_ELEMENTDATA"), (21, .fieldref 10 40), (0, .nameAndType 41 14), (0, u "DEFAULTCAPACITY_EMPTY_ELEMENTDATA"), (8, u "size"), (0, u "I"), (96, .class_ 149), (0, u "java/util/List"), (16, u "iterator"), (0, u "()Ljava/util/Iterator;"), (94, .class_ 263), (0, u "java/util/ArrayList$ListItr"), (3, .class_ 268), (0, u "java/util/ArrayList$Itr"), (0, .methodref 267 270), (0, .nameAndType 5 271), (0, u "(Ljava/util/ArrayList;)V"), (4, .class_ 277), (0, u "java/util/ArrayList$SubList"), (12, .class_ 291), (0, u "java/util/ArrayList$ArrayListSpliterator"), (37, .class_ 330), (0, u "java/util/RandomAccess"), (0, .class_ 332), (0, u "java/lang/Cloneable"), (0, .class_ 334), (0, u "java/io/Serializable"), (0, u "serialVersionUID"), (0, u "J"), (3, u "DEFAULT_CAPACITY"), (159, .class_ 501), (0, u "java/util/ArrayList$SubList$2"), (0, .class_ 503), (0, u "java/util/ArrayList$SubList$1")] 5

def k21c0 : Code := { maxStack := 2, maxLocals := 1, code := jdk_38_method_2_code, exceptionTable := #[], attributes := #[] }
def k21m0 : Method := { name := "<init>", desc := "()V", sig := { parameters := [], returnType := none }, accessFlags := 1, code := some k21c0 }
def k21c1 : Code := { maxStack := 3, maxLocals := 1, code := jdk_38_method_55_code, exceptionTable := #[], attributes := #[] }
def k21m1 : Method := { name := "iterator", desc := "()Ljava/util/Iterator;", sig := { parameters := [], returnType := some (.object "java/util/Iterator") }, accessFlags := 1, code := some k21c1 }
/-- java/util/ArrayList -/
def k21 : Class := { plain "java/util/ArrayList" (some 18) with
  accessFlags := 33
  interfaces := #[17, 19, 20, 2]
  cf := some (fileOf pool21 10 #[.nestMembers #[290, 276, 500, 502, 262, 267]] #[{ accessFlags := 1, nameIndex := 5, descriptorIndex := 6, attributes := #[] }, { accessFlags := 1, nameIndex := 166, descriptorIndex := 167, attributes := #[] }] 33 2 #[148, 329, 331, 333] #[{ accessFlags := 26, nameIndex := 335, descriptorIndex := 336, attributes := #[] }, { accessFlags := 26, nameIndex := 340, descriptorIndex := 51, attributes := #[] }, { accessFlags := 26, nameIndex := 17, descriptorIndex := 14, attributes := #[] }, { accessFlags := 26, nameIndex := 41, descriptorIndex := 14, attributes := #[] }, { accessFlags := 128, nameIndex := 13, descriptorIndex := 14, attributes := #[] }, { accessFlags := 2, nameIndex := 50, descriptorIndex := 51, attributes := #[] }])
  fields := #[{ name := "serialVersionUID", type := .long, accessFlags := 26, slot := 0, constantValue := 0 }, { name := "DEFAULT_CAPACITY", type := .int, accessFlags := 26, slot := 1, constantValue := 0 }, { name := "EMPTY_ELEMENTDATA", type := (.array (.object "java/lang/Object")), accessFlags := 26, slot := 2, constantValue := 0 }, { name := "DEFAULTCAPACITY_EMPTY_ELEMENTDATA", type := (.array (.object "java/lang/Object")), accessFlags := 26, slot := 3, constantValue := 0 }, { name := "elementData", type := (.array (.object "java/lang/Object")), accessFlags := 128, slot := 1, constantValue := 0 }, { name := "size", type := .int, accessFlags := 2, slot := 2, constantValue := 0 }]
  methods := #[k21m0, k21m1]
  instanceTypes := #[.int, (.array (.object "java/lang/Object")), .int]
  staticTypes := #[.long, .int, (.array (.object "java/lang/Object")), (.array (.object "java/lang/Object"))]
  resolved := Array.replicate 509 none
  statics := some 1 }

def pool22 : Array CpInfo := pool [(2, .class_ 4), (1, u "java/lang/Object"), (0, u "<init>"), (0, u "()V"), (5, u "([IIII)V"), (0, .methodref 14 15), (0, .class_ 16), (0, .nameAndType 17 18), (0, u "java/util/Arrays"), (0, u "rangeCheck"), (0, u "(III)V"), (55, .class_ 76), (1, u "java/util/Arrays$NaturalOrder"), (36, .class_ 115), (1, u "java/util/Arrays$LegacyMergeSort"), (1, u "Z"), (257, .class_ 376), (0, u "java/util/Arrays$ArrayList"), (68, u "$assertionsDisabled"), (269, u "MIN_ARRAY_SORT_GRAN"), (0, u "I"), (2, u "INSERTIONSORT_THRESHOLD"), (120, u "fill"), (18, u "([Ljava/lang/Object;IILjava/lang/Object;)V"), (115, .class_ 976), (0, u "java/util/Arrays$ArrayItr")] 52

def k22m0 : Method := { name := "<init>", desc := "()V", sig := { parameters := [], returnType := none }, accessFlags := 2, code := none }
def k22c1 : Code := { maxStack := 4, maxLocals := 3, code := jdk_65_method_30_code, exceptionTable := #[], attributes := #[] }
def k22m1 : Method := { name := "rangeCheck", desc := "(III)V", sig := { parameters := [.int, .int, .int], returnType := none }, accessFlags := 8, code := some k22c1 }
def k22c2 : Code := { maxStack := 3, maxLocals := 5, code := jdk_65_method_104_code, exceptionTable := #[], attributes := #[] }
def k22m2 : Method := { name := "fill", desc := "([IIII)V", sig := { parameters := [(.array .int), .int, .int, .int], returnType := none }, accessFlags := 9, code := some k22c2 }
def k22c3 : Code := { maxStack := 3, maxLocals := 5, code := jdk_65_method_118_code, exceptionTable := #[], attributes := #[] }
def k22m3 : Method := { name := "fill", desc := "([Ljava/lang/Object;IILjava/lang/Object;)V", sig := { parameters := [(.array (.object "java/lang/Object")), .int, .int, (.object "java/lang/Object")], returnType := none }, accessFlags := 9, code := some k22c3 }
/-- java/util/Arrays -/
def k22 : Class := { plain "java/util/Arrays" (some 0) with
  accessFlags := 49
  interfaces := #[]
  cf := some (fileOf pool22 14 #[.nestMembers #[975, 375, 113, 74]] #[{ accessFlags := 2, nameIndex := 5, descriptorIndex := 6, attributes := #[] }, { accessFlags := 8, nameIndex := 17, descriptorIndex := 18, attributes := #[] }, { accessFlags := 9, nameIndex := 840, descriptorIndex := 12, attributes := #[] }, { accessFlags := 9, nameIndex := 840, descriptorIndex := 859, attributes := #[] }] 49 2 #[] #[{ accessFlags := 26, nameIndex := 715, descriptorIndex := 716, attributes := #[] }, { accessFlags := 26, nameIndex := 719, descriptorIndex := 716, attributes := #[] }, { accessFlags := 4120, nameIndex := 445, descriptorIndex := 117, attributes := #[] }])
  fields := #[{ name := "MIN_ARRAY_SORT_GRAN", type := .int, accessFlags := 26, slot := 0, constantValue := 0 }, { name := "INSERTIONSORT_THRESHOLD", type := .int, accessFlags := 26, slot := 1, constantValue := 0 }, { name := "$assertionsDisabled", type := .boolean, accessFlags := 4120, slot := 2, constantValue := 0 }]
  methods := #[k22m0, k22m1, k22m2, k22m3]
  instanceTypes := #[]
  staticTypes := #[.int, .int, .boolean]
  resolved := Array.replicate 1029 none
  statics := none }

def pool23 : Array CpInfo := pool [(16, .class_ 18), (1, u "java/util/Iterator"), (0, u "hasNext"), (0, u "()Z"), (10, .class_ 32), (0, u "java/lang/Object")] 20

def k23m0 : Method := { name := "hasNext", desc := "()Z", sig := { parameters := [], returnType := some .boolean }, accessFlags := 1025, code := none }
/-- java/util/Iterator -/
def k23 : Class := { plain "java/util/Iterator" (some 0) with
  accessFlags := 1537
  interfaces := #[]
  cf := some (fileOf pool23 16 #[] #[{ accessFlags := 1025, nameIndex := 19, descriptorIndex := 20, attributes := #[] }] 1537 31 #[] #[])
  fields := #[]
  methods := #[k23m0]
  instanceTypes := #[]
  staticTypes := #[]
  resolved := Array.replicate 53 none
  statics := none }

def pool24 : Array CpInfo := pool [(1, .fieldref 2 3), (0, .class_ 4), (0, .nameAndType 5 6), (0, u "java/util/ArrayList$Itr"), (0, u "this$0"), (0, u "Ljava/util/ArrayList;"), (0, .methodref 8 9), (0, .class_ 10), (0, .nameAndType 11 12), (0, u "java/lang/Object"), (0, u "<init>"), (0, u "()V"), (0, .fieldref 2 14), (0, .nameAndType 15 16), (0, u "lastRet"), (0, u "I"), (0, .fieldref 18 19), (0, .class_ 20), (0, .nameAndType 21 16), (0, u "java/util/ArrayList"), (0, u "modCount"), (0, .fieldref 2 23), (0, .nameAndType 24 16), (0, u "expectedModCount"), (0, .fieldref 2 26), (0, .nameAndType 27 16), (0, u "cursor"), (0, .fieldref 18 29), (0, .nameAndType 30 16), (0, u "size"), (38, .class_ 70), (0, u "java/util/Iterator"), (0, u "(Ljava/util/ArrayList;)V"), (8, u "hasNext"), (0, u "()Z")] 22

def k24c0 : Code := { maxStack := 2, maxLocals := 2, code := jdk_49_method_1_code, exceptionTable := #[], attributes := #[] }
def k24m0 : Method := { name := "<init>", desc := "(Ljava/util/ArrayList;)V", sig := { parameters := [(.object "java/util/ArrayList")], returnType := none }, accessFlags := 0, code := some k24c0 }
def k24c1 : Code := { maxStack := 2, maxLocals := 1, code := jdk_49_method_2_code, exceptionTable := #[], attributes := #[] }
def k24m1 : Method := { name := "hasNext", desc := "()Z", sig := { parameters := [], returnType := some .boolean }, accessFlags := 1, code := some k24c1 }
/-- java/util/ArrayList$Itr -/
def k24 : Class := { plain "java/util/ArrayList$Itr" (some 0) with
  accessFlags := 32
  interfaces := #[23]
  cf := some (fileOf pool24 2 #[.nestHost 18] #[{ accessFlags := 0, nameIndex := 11, descriptorIndex := 71, attributes := #[] }, { accessFlags := 1, nameIndex := 80, descriptorIndex := 81, attributes := #[] }] 32 8 #[69] #[{ accessFlags := 0, nameIndex := 27, descriptorIndex := 16, attributes := #[] }, { accessFlags := 0, nameIndex := 15, descriptorIndex := 16, attributes := #[] }, { accessFlags := 0, nameIndex := 24, descriptorIndex := 16, attributes := #[] }, { accessFlags := 4112, nameIndex := 5, descriptorIndex := 6, attributes := #[] }])
  fields := #[{ name := "cursor", type := .int, accessFlags := 0, slot := 0, constantValue := 0 }, { name := "lastRet", type := .int, accessFlags := 0, slot := 1, constantValue := 0 }, { name := "expectedModCount", type := .int, accessFlags := 0, slot := 2, constantValue := 0 }, { name := "this$0", type := (.object "java/util/ArrayList"), accessFlags := 4112, slot := 3, constantValue := 0 }]
  methods := #[k24m0, k24m1]
  instanceTypes := #[.int, .int, .int, (.object "java/util/ArrayList")]
  staticTypes := #[]
  resolved := Array.replicate 104 none
  statics := none }

def pool25 : Array CpInfo := pool [(4, .class_ 6), (1, u "java/lang/Object"), (0, u "<init>"), (0, u "()V"), (5, .class_ 16), (1, u "java/lang/StringLatin1"), (104, u "$assertionsDisabled"), (0, u "Z"), (98, .class_ 223), (1, u "java/lang/StringLatin1$LinesSpliterator"), (166, .class_ 391), (0, u "java/lang/StringLatin1$CharsSpliterator")] 3

def k25m0 : Method := { name := "<init>", desc := "()V", sig := { parameters := [], returnType := none }, accessFlags := 0, code := none }
/-- java/lang/StringLatin1 -/
def k25 : Class := { plain "java/lang/StringLatin1" (some 0) with
  accessFlags := 48
  interfaces := #[]
  cf := some (fileOf pool25 14 #[.nestMembers #[390, 221]] #[{ accessFlags := 0, nameIndex := 7, descriptorIndex := 8, attributes := #[] }] 48 4 #[] #[{ accessFlags := 4120, nameIndex := 121, descriptorIndex := 122, attributes := #[] }])
  fields := #[{ name := "$assertionsDisabled", type := .boolean, accessFlags := 4120, slot := 0, constantValue := 0 }]
  methods := #[k25m0]
  instanceTypes := #[]
  staticTypes := #[.boolean]
  resolved := Array.replicate 395 none
  statics := none }

def pool26 : Array CpInfo := pool [(2, .class_ 4), (1, u "java/lang/Object"), (0, u "<init>"), (0, u "()V"), (17, .class_ 26), (1, u "jdk/internal/util/Preconditions"), (28, .class_ 56), (0, u "jdk/internal/util/Preconditions$4"), (57, .class_ 115), (0, u "jdk/internal/util/Preconditions$1"), (7, u "SIOOBE_FORMATTER"), (0, u "Ljava/util/function/BiFunction;"), (0, .class_ 126), (0, u "jdk/internal/util/Preconditions$2"), (3, u "AIOOBE_FORMATTER"), (0, .class_ 132), (0, u "jdk/internal/util/Preconditions$3"), (3, u "IOOBE_FORMATTER")] 57

def k26m0 : Method := { name := "<init>", desc := "()V", sig := { parameters := [], returnType := none }, accessFlags := 1, code := none }
/-- jdk/internal/util/Preconditions -/
def k26 : Class := { plain "jdk/internal/util/Preconditions" (some 0) with
  accessFlags := 33
  interfaces := #[]
  cf := some (fileOf pool26 24 #[.nestMembers #[55, 131, 125, 114]] #[{ accessFlags := 1, nameIndex := 5, descriptorIndex := 6, attributes := #[] }] 33 2 #[] #[{ accessFlags := 25, nameIndex := 123, descriptorIndex := 124, attributes := #[] }, { accessFlags := 25, nameIndex := 130, descriptorIndex := 124, attributes := #[] }, { accessFlags := 25, nameIndex := 136, descriptorIndex := 124, attributes := #[] }])
  fields := #[{ name := "SIOOBE_FORMATTER", type := (.object "java/util/function/BiFunction"), accessFlags := 25, slot := 0, constantValue := 0 }, { name := "AIOOBE_FORMATTER", type := (.object "java/util/function/BiFunction"), accessFlags := 25, slot := 1, constantValue := 0 }, { name := "IOOBE_FORMATTER", type := (.object "java/util/function/BiFunction"), accessFlags := 25, slot := 2, constantValue := 0 }]
  methods := #[k26m0]
  instanceTypes := #[]
  staticTypes := #[(.object "java/util/function/BiFunction"), (.object "java/util/function/BiFunction"), (.object "java/util/function/BiFunction")]
  resolved := Array.replicate 194 none
  statics := some 2 }

def pool27 : Array CpInfo := pool [(9, u "<init>"), (6, .class_ 18), (1, u "java/lang/Object"), (0, u "()V"), (1, .class_ 23), (1, u "jdk/internal/util/ArraysSupport"), (0, u "LOG2_ARRAY_LONG_INDEX_SCALE"), (0, u "I"), (2, u "U"), (0, u "Ljdk/internal/misc/Unsafe;"), (8, u "BIG_ENDIAN"), (0, u "Z"), (8, u "LOG2_BYTE_BIT_SIZE"), (4, u "LOG2_ARRAY_INT_INDEX_SCALE"), (54, u "JLA"), (0, u "Ljdk/internal/access/JavaLangAccess;"), (11, u "LOG2_ARRAY_BOOLEAN_INDEX_SCALE"), (9, u "LOG2_ARRAY_BYTE_INDEX_SCALE"), (5, u "LOG2_ARRAY_CHAR_INDEX_SCALE"), (5, u "LOG2_ARRAY_SHORT_INDEX_SCALE"), (18, u "LOG2_ARRAY_FLOAT_INDEX_SCALE"), (24, u "LOG2_ARRAY_DOUBLE_INDEX_SCALE"), (89, u "T_BOOLEAN"), (2, u "T_CHAR"), (1, u "T_FLOAT"), (1, u "T_DOUBLE"), (1, u "T_BYTE"), (1, u "T_SHORT"), (1, u "T_INT"), (1, u "T_LONG"), (1, u "SOFT_MAX_ARRAY_LENGTH")] 83

def k27m0 : Method := { name := "<init>", desc := "()V", sig := { parameters := [], returnType := none }, accessFlags := 2, code := none }
/-- jdk/internal/util/ArraysSupport -/
def k27 : Class := { plain "jdk/internal/util/ArraysSupport" (some 0) with
  accessFlags := 33
  interfaces := #[]
  cf := some (fileOf pool27 21 #[] #[{ accessFlags := 2, nameIndex := 9, descriptorIndex := 19, attributes := #[] }] 33 16 #[] #[{ accessFlags := 24, nameIndex := 28, descriptorIndex := 29, attributes := #[] }, { accessFlags := 26, nameIndex := 38, descriptorIndex := 39, attributes := #[] }, { accessFlags := 25, nameIndex := 121, descriptorIndex := 25, attributes := #[] }, { accessFlags := 25, nameIndex := 131, descriptorIndex := 25, attributes := #[] }, { accessFlags := 25, nameIndex := 137, descriptorIndex := 25, attributes := #[] }, { accessFlags := 25, nameIndex := 143, descriptorIndex := 25, attributes := #[] }, { accessFlags := 25, nameIndex := 53, descriptorIndex := 25, attributes := #[] }, { accessFlags := 25, nameIndex := 24, descriptorIndex := 25, attributes := #[] }, { accessFlags := 25, nameIndex := 162, descriptorIndex := 25, attributes := #[] }, { accessFlags := 25, nameIndex := 187, descriptorIndex := 25, attributes := #[] }, { accessFlags := 26, nameIndex := 48, descriptorIndex := 25, attributes := #[] }, { accessFlags := 25, nameIndex := 277, descriptorIndex := 25, attributes := #[] }, { accessFlags := 25, nameIndex := 280, descriptorIndex := 25, attributes := #[] }, { accessFlags := 25, nameIndex := 282, descriptorIndex := 25, attributes := #[] }, { accessFlags := 25, nameIndex := 284, descriptorIndex := 25, attributes := #[] }, { accessFlags := 25, nameIndex := 286, descriptorIndex := 25, attributes := #[] }, { accessFlags := 25, nameIndex := 288, descriptorIndex := 25, attributes := #[] }, { accessFlags := 25, nameIndex := 290, descriptorIndex := 25, attributes := #[] }, { accessFlags := 25, nameIndex := 292, descriptorIndex := 25, attributes := #[] }, { accessFlags := 26, nameIndex := 108, descriptorIndex := 109, attributes := #[] }, { accessFlags := 25, nameIndex := 294, descriptorIndex := 25, attributes := #[] }])
  fields := #[{ name := "U", type := (.object "jdk/internal/misc/Unsafe"), accessFlags := 24, slot := 0, constantValue := 0 }, { name := "BIG_ENDIAN", type := .boolean, accessFlags := 26, slot := 1, constantValue := 0 }, { name := "LOG2_ARRAY_BOOLEAN_INDEX_SCALE", type := .int, accessFlags := 25, slot := 2, constantValue := 0 }, { name := "LOG2_ARRAY_BYTE_INDEX_SCALE", type := .int, accessFlags := 25, slot := 3, constantValue := 0 }, { name := "LOG2_ARRAY_CHAR_INDEX_SCALE", type := .int, accessFlags := 25, slot := 4, constantValue := 0 }, { name := "LOG2_ARRAY_SHORT_INDEX_SCALE", type := .int, accessFlags := 25, slot := 5, constantValue := 0 }, { name := "LOG2_ARRAY_INT_INDEX_SCALE", type := .int, accessFlags := 25, slot := 6, constantValue := 0 }, { name := "LOG2_ARRAY_LONG_INDEX_SCALE", type := .int, accessFlags := 25, slot := 7, constantValue := 0 }, { name := "LOG2_ARRAY_FLOAT_INDEX_SCALE", type := .int, accessFlags := 25, slot := 8, constantValue := 0 }, { name := "LOG2_ARRAY_DOUBLE_INDEX_SCALE", type := .int, accessFlags := 25, slot := 9, constantValue := 0 }, { name := "LOG2_BYTE_BIT_SIZE", type := .int, accessFlags := 26, slot := 10, constantValue := 0 }, { name := "T_BOOLEAN", type := .int, accessFlags := 25, slot := 11, constantValue := 0 }, { name := "T_CHAR", type := .int, accessFlags := 25, slot := 12, constantValue := 0 }, { name := "T_FLOAT", type := .int, accessFlags := 25, slot := 13, constantValue := 0 }, { name := "T_DOUBLE", type := .int, accessFlags := 25, slot := 14, constantValue := 0 }, { name := "T_BYTE", type := .int, accessFlags := 25, slot := 15, constantValue := 0 }, { name := "T_SHORT", type := .int, accessFlags := 25, slot := 16, constantValue := 0 }, { name := "T_INT", type := .int, accessFlags := 25, slot := 17, constantValue := 0 }, { name := "T_LONG", type := .int, accessFlags := 25, slot := 18, constantValue := 0 }, { name := "JLA", type := (.object "jdk/internal/access/JavaLangAccess"), accessFlags := 26, slot := 19, constantValue := 0 }, { name := "SOFT_MAX_ARRAY_LENGTH", type := .int, accessFlags := 25, slot := 20, constantValue := 0 }]
  methods := #[k27m0]
  instanceTypes := #[]
  staticTypes := #[(.object "jdk/internal/misc/Unsafe"), .boolean, .int, .int, .int, .int, .int, .int, .int, .int, .int, .int, .int, .int, .int, .int, .int, .int, .int, (.object "jdk/internal/access/JavaLangAccess"), .int]
  resolved := Array.replicate 378 none
  statics := none }

/-- the primitive byte -/
def k28 : Class := { plain "byte" none with kind := .primitive 'B', accessFlags := 0x411 }
/-- [B -/
def k29 : Class := { plain "[B" (some 0) with kind := .array 28 .byte, interfaces := #[20, 2], accessFlags := 1041 }

/-- the primitive char -/
def k30 : Class := { plain "char" none with kind := .primitive 'C', accessFlags := 0x411 }
/-- [C -/
def k31 : Class := { plain "[C" (some 0) with kind := .array 30 .char, interfaces := #[20, 2], accessFlags := 1041 }

/-- the primitive int -/
def k32 : Class := { plain "int" none with kind := .primitive 'I', accessFlags := 0x411 }
/-- [I -/
def k33 : Class := { plain "[I" (some 0) with kind := .array 32 .int, interfaces := #[20, 2], accessFlags := 1041 }

/-- [Lcom/example/tidebook/tidebook/book/Level; -/
def k34 : Class := { plain "[Lcom/example/tidebook/tidebook/book/Level;" (some 0) with kind := .array 12 (.object "com/example/tidebook/tidebook/book/Level"), interfaces := #[20, 2], accessFlags := 1041 }

/-- [Ljava/lang/Object; -/
def k35 : Class := { plain "[Ljava/lang/Object;" (some 0) with kind := .array 0 (.object "java/lang/Object"), interfaces := #[20, 2], accessFlags := 1041 }

/-- [[Lcom/example/tidebook/tidebook/book/Level; -/
def k36 : Class := { plain "[[Lcom/example/tidebook/tidebook/book/Level;" (some 0) with kind := .array 34 (.array (.object "com/example/tidebook/tidebook/book/Level")), interfaces := #[20, 2], accessFlags := 1041 }

def heap : Heap := #[{ cls := 7, slots := #[.long 0, .int 1, .null, .int 0, .null, .int 0, .int 0], vm := .statics 7 },
  { cls := 21, slots := #[.long 0, .int 0, .ref 3, .ref 4], vm := .statics 21 },
  { cls := 26, slots := #[.null, .null, .null], vm := .statics 26 },
  { cls := 35, slots := #[], vm := .none },
  { cls := 35, slots := #[], vm := .none }]
def classes : Array Class := #[k0, k1, k2, k3, k4, k5, k6, k7, k8, k9, k10, k11, k12, k13, k14, k15, k16, k17, k18, k19, k20, k21, k22, k23, k24, k25, k26, k27, k28, k29, k30, k31, k32, k33, k34, k35, k36]
def interned : List (Array UInt16 × Addr) := []
def slotsUsed : Nat := 14
def theMethod : MethodId := ⟨1, 1⟩
def args0 : Array Value := #[.int 15, .int 66]
def aboutOver (below : List Frame) : State where
  vm := { classes := classes, interned := interned.toArray }
  heap := heap
  slotsUsed := slotsUsed
  threads := #[{ frames := .invoking theMethod args0 :: below }]
def below0 : List Frame := [.native { method := ⟨0, 0⟩, args := #[] }]
def about1 : State := aboutOver below0
def p0 : Program := .bare "" "" ""
def e0 : Env := launch0.env 0 0 0
theorem w_frames : about1.frames = Frame.invoking theMethod args0 :: below0 := rfl
set_option maxRecDepth 65536 in
theorem w_args : argsFit about1.vm theMethod args0 = true := by decide +kernel
set_option maxRecDepth 65536 in
theorem w_heap : heapFits about1 = true := by decide +kernel
set_option maxRecDepth 65536 in
theorem w_runnable : about1.curStatus? = some .runnable := by decide +kernel
set_option maxRecDepth 65536 in
theorem w_alone : about1.alone = true := by decide +kernel
set_option maxRecDepth 65536 in
theorem w_named : about1.methodNamed? x = some theMethod := by decide +kernel
set_option maxRecDepth 65536 in
theorem w_hears : about1.hears theMethod below0 = true := by decide +kernel
set_option maxRecDepth 65536 in
theorem w_ripe : about1.ripe theMethod args0 below0 = true := by decide +kernel
theorem w_running : about1.status = .running := rfl
set_option maxRecDepth 65536 in
theorem w_room : about1.hasRoom e0.platform room_1 = true :=
  launch0.hasRoom_least _ room_1 (by decide +kernel) (by decide +kernel) (by decide +kernel) (by decide +kernel) (by decide +kernel) (by decide +kernel)
theorem allAtoms_all (ts : List Jvm.Cond) (a : Array Jvm.Value) (st : Jvm.State) : (allAtoms ts).before a st = ts.all (fun c => c.before a st) := by
  induction ts with
  | nil => rfl
  | cons c t ih =>
    show (Jvm.Cond.and c (allAtoms t)).before a st = _
    rw [Jvm.Cond.before_and, ih, List.all_cons]
def words1 : List Jvm.Cond := Jvm.Cond.code x code maxLocals ret :: tables_1
/-- a 'code' word, met by the world's own term for the bytes: nothing is compared byte by byte -/
theorem code_word {y : MethodName} {bytes : ByteArray} {mx : Nat} {rt : Option FieldType} {a : Array Value} {s : State} {m : MethodId} {meth : Method} {c : Code} (h1 : s.methodNamed? y = some m) (h2 : s.vm.method? m = some meth) (h3 : meth.code = some c) (h4 : c.code = bytes)
    (h5 : (c.maxLocals == mx && c.exceptionTable.isEmpty && decide (c.maxStack ≤ mostOperands) && decide (meth.sig.returnType = rt) && !meth.locks && decide (parseMethodDescriptor y.desc = some meth.sig)) = true) : (Jvm.Cond.code y bytes mx rt).before a s = true := by
  simp only [Bool.and_eq_true, beq_iff_eq, Bool.not_eq_true', decide_eq_true_eq] at h5
  obtain ⟨⟨⟨⟨⟨g1, g2⟩, g3⟩, g4⟩, g5⟩, g6⟩ := h5
  simp [Cond.before, Cond.holds, Cond.value, h1, h2, h3, h4, g1, g2, g3, g4, g5, g6]
def isCode : Jvm.Cond → Bool
  | .code _ _ _ _ => true
  | _ => false
theorem all_split {L : List Jvm.Cond} {P : Jvm.Cond → Bool} (h1 : L.all (fun c => isCode c || P c) = true) (h2 : ∀ c ∈ L.filter isCode, P c = true) : L.all P = true := by
  refine List.all_eq_true.mpr fun c hc => ?_
  have h := List.all_eq_true.mp h1 c hc
  rcases Bool.eq_false_or_eq_true (isCode c) with hi | hi
  · exact h2 c (List.mem_filter.mpr ⟨hc, hi⟩)
  · simpa [hi] using h
set_option maxRecDepth 65536 in
theorem w_c0 : (Jvm.Cond.code x code maxLocals ret).before args0 about1 = true := code_word (m := ⟨1, 1⟩) (meth := k1m1) (c := k1c1) (by decide +kernel) rfl rfl rfl (by decide +kernel)
set_option maxRecDepth 65536 in
theorem w_c1 : (Jvm.Cond.code ({ cls := "java/lang/String", name := "<init>", desc := "([C)V" } : Jvm.MethodName) jdk_42_method_3_code (2 : Nat) (Option.none : Option Jvm.ClassFile.FieldType)).before args0 about1 = true := code_word (m := ⟨7, 1⟩) (meth := k7m1) (c := k7c1) (by decide +kernel) rfl rfl rfl (by decide +kernel)
set_option maxRecDepth 65536 in
theorem w_c2 : (Jvm.Cond.code ({ cls := "java/lang/String", name := "<init>", desc := "([CIILjava/lang/Void;)V" } : Jvm.MethodName) jdk_42_method_149_code (6 : Nat) (Option.none : Option Jvm.ClassFile.FieldType)).before args0 about1 = true := code_word (m := ⟨7, 3⟩) (meth := k7m3) (c := k7c3) (by decide +kernel) rfl rfl rfl (by decide +kernel)
set_option maxRecDepth 65536 in
theorem w_c3 : (Jvm.Cond.code ({ cls := "java/lang/Object", name := "<init>", desc := "()V" } : Jvm.MethodName) object_method_1_code (1 : Nat) (Option.none : Option Jvm.ClassFile.FieldType)).before args0 about1 = true := code_word (m := ⟨0, 0⟩) (meth := k0m0) (c := k0c0) (by decide +kernel) rfl rfl rfl (by decide +kernel)
set_option maxRecDepth 65536 in
theorem w_c4 : (Jvm.Cond.code ({ cls := "java/lang/StringUTF16", name := "compress", desc := "([CII)[B" } : Jvm.MethodName) jdk_52_method_16_code (6 : Nat) (Option.some (Jvm.ClassFile.FieldType.array Jvm.ClassFile.FieldType.byte))).before args0 about1 = true := code_word (m := ⟨8, 2⟩) (meth := k8m2) (c := k8c2) (by decide +kernel) rfl rfl rfl (by decide +kernel)
set_option maxRecDepth 65536 in
theorem w_c5 : (Jvm.Cond.code ({ cls := "java/lang/StringUTF16", name := "compress", desc := "([CI[BII)I" } : Jvm.MethodName) jdk_52_method_21_code (7 : Nat) (Option.some Jvm.ClassFile.FieldType.int)).before args0 about1 = true := code_word (m := ⟨8, 3⟩) (meth := k8m3) (c := k8c3) (by decide +kernel) rfl rfl rfl (by decide +kernel)
set_option maxRecDepth 65536 in
theorem w_c6 : (Jvm.Cond.code ({ cls := "java/lang/StringUTF16", name := "coderFromArrayLen", desc := "([BI)B" } : Jvm.MethodName) jdk_52_method_15_code (2 : Nat) (Option.some Jvm.ClassFile.FieldType.byte)).before args0 about1 = true := code_word (m := ⟨8, 1⟩) (meth := k8m1) (c := k8c1) (by decide +kernel) rfl rfl rfl (by decide +kernel)
set_option maxRecDepth 65536 in
theorem w_c7 : (Jvm.Cond.code ({ cls := "com/example/tidebook/tidebook/book/Book", name := "<init>", desc := "(Ljava/lang/String;)V" } : Jvm.MethodName) prog_2_method_1_code (2 : Nat) (Option.none : Option Jvm.ClassFile.FieldType)).before args0 about1 = true := code_word (m := ⟨9, 0⟩) (meth := k9m0) (c := k9c0) (by decide +kernel) rfl rfl rfl (by decide +kernel)
set_option maxRecDepth 65536 in
theorem w_c8 : (Jvm.Cond.code ({ cls := "com/example/tidebook/tidebook/book/BookSide", name := "<init>", desc := "(Z)V" } : Jvm.MethodName) prog_9_method_1_code (2 : Nat) (Option.none : Option Jvm.ClassFile.FieldType)).before args0 about1 = true := code_word (m := ⟨10, 0⟩) (meth := k10m0) (c := k10c0) (by decide +kernel) rfl rfl rfl (by decide +kernel)
set_option maxRecDepth 65536 in
theorem w_c9 : (Jvm.Cond.code ({ cls := "com/example/tidebook/tidebook/book/Book", name := "countMismatched", desc := "()V" } : Jvm.MethodName) prog_2_method_17_code (1 : Nat) (Option.none : Option Jvm.ClassFile.FieldType)).before args0 about1 = true := code_word (m := ⟨9, 10⟩) (meth := k9m10) (c := k9c10) (by decide +kernel) rfl rfl rfl (by decide +kernel)
set_option maxRecDepth 65536 in
theorem w_c10 : (Jvm.Cond.code ({ cls := "com/example/tidebook/tidebook/book/Book", name := "mismatched", desc := "()J" } : Jvm.MethodName) prog_2_method_11_code (1 : Nat) (Option.some Jvm.ClassFile.FieldType.long)).before args0 about1 = true := code_word (m := ⟨9, 6⟩) (meth := k9m6) (c := k9c6) (by decide +kernel) rfl rfl rfl (by decide +kernel)
set_option maxRecDepth 65536 in
theorem w_c11 : (Jvm.Cond.code ({ cls := "com/example/tidebook/tidebook/book/Book", name := "verified", desc := "()J" } : Jvm.MethodName) prog_2_method_10_code (1 : Nat) (Option.some Jvm.ClassFile.FieldType.long)).before args0 about1 = true := code_word (m := ⟨9, 5⟩) (meth := k9m5) (c := k9c5) (by decide +kernel) rfl rfl rfl (by decide +kernel)
set_option maxRecDepth 65536 in
theorem w_c12 : (Jvm.Cond.code ({ cls := "com/example/tidebook/tidebook/book/Book", name := "checked", desc := "()J" } : Jvm.MethodName) prog_2_method_9_code (1 : Nat) (Option.some Jvm.ClassFile.FieldType.long)).before args0 about1 = true := code_word (m := ⟨9, 4⟩) (meth := k9m4) (c := k9c4) (by decide +kernel) rfl rfl rfl (by decide +kernel)
set_option maxRecDepth 65536 in
theorem w_c13 : (Jvm.Cond.code ({ cls := "com/example/tidebook/tidebook/book/Book", name := "skipped", desc := "()J" } : Jvm.MethodName) prog_2_method_12_code (1 : Nat) (Option.some Jvm.ClassFile.FieldType.long)).before args0 about1 = true := code_word (m := ⟨9, 7⟩) (meth := k9m7) (c := k9c7) (by decide +kernel) rfl rfl rfl (by decide +kernel)
set_option maxRecDepth 65536 in
theorem w_c14 : (Jvm.Cond.code ({ cls := "com/example/tidebook/tidebook/book/Book", name := "isSynced", desc := "()Z" } : Jvm.MethodName) prog_2_method_4_code (1 : Nat) (Option.some Jvm.ClassFile.FieldType.boolean)).before args0 about1 = true := code_word (m := ⟨9, 2⟩) (meth := k9m2) (c := k9c2) (by decide +kernel) rfl rfl rfl (by decide +kernel)
set_option maxRecDepth 65536 in
theorem w_c15 : (Jvm.Cond.code ({ cls := "com/example/tidebook/tidebook/book/Book", name := "messages", desc := "()J" } : Jvm.MethodName) prog_2_method_8_code (1 : Nat) (Option.some Jvm.ClassFile.FieldType.long)).before args0 about1 = true := code_word (m := ⟨9, 3⟩) (meth := k9m3) (c := k9c3) (by decide +kernel) rfl rfl rfl (by decide +kernel)
set_option maxRecDepth 65536 in
theorem w_c16 : (Jvm.Cond.code ({ cls := "com/example/tidebook/tidebook/book/Book", name := "name", desc := "()Ljava/lang/String;" } : Jvm.MethodName) prog_2_method_3_code (1 : Nat) (Option.some (Jvm.ClassFile.FieldType.object "java/lang/String"))).before args0 about1 = true := code_word (m := ⟨9, 1⟩) (meth := k9m1) (c := k9c1) (by decide +kernel) rfl rfl rfl (by decide +kernel)
set_option maxRecDepth 65536 in
theorem w_c17 : (Jvm.Cond.code ({ cls := "java/lang/String", name := "equals", desc := "(Ljava/lang/Object;)Z" } : Jvm.MethodName) jdk_42_method_66_code (3 : Nat) (Option.some Jvm.ClassFile.FieldType.boolean)).before args0 about1 = true := code_word (m := ⟨7, 2⟩) (meth := k7m2) (c := k7c2) (by decide +kernel) rfl rfl rfl (by decide +kernel)
set_option maxRecDepth 65536 in
theorem w_c18 : (Jvm.Cond.code ({ cls := "java/util/ArrayList", name := "<init>", desc := "()V" } : Jvm.MethodName) jdk_38_method_2_code (1 : Nat) (Option.none : Option Jvm.ClassFile.FieldType)).before args0 about1 = true := code_word (m := ⟨21, 0⟩) (meth := k21m0) (c := k21c0) (by decide +kernel) rfl rfl rfl (by decide +kernel)
set_option maxRecDepth 65536 in
theorem w_c19 : (Jvm.Cond.code ({ cls := "java/util/AbstractList", name := "<init>", desc := "()V" } : Jvm.MethodName) jdk_39_method_1_code (1 : Nat) (Option.none : Option Jvm.ClassFile.FieldType)).before args0 about1 = true := code_word (m := ⟨18, 0⟩) (meth := k18m0) (c := k18c0) (by decide +kernel) rfl rfl rfl (by decide +kernel)
set_option maxRecDepth 65536 in
theorem w_c20 : (Jvm.Cond.code ({ cls := "java/util/AbstractCollection", name := "<init>", desc := "()V" } : Jvm.MethodName) jdk_22_method_1_code (1 : Nat) (Option.none : Option Jvm.ClassFile.FieldType)).before args0 about1 = true := code_word (m := ⟨15, 0⟩) (meth := k15m0) (c := k15c0) (by decide +kernel) rfl rfl rfl (by decide +kernel)
set_option maxRecDepth 65536 in
theorem w_c21 : (Jvm.Cond.code ({ cls := "com/example/tidebook/tidebook/book/Book", name := "replace", desc := "(Ljava/util/List;)V" } : Jvm.MethodName) prog_2_method_13_code (4 : Nat) (Option.none : Option Jvm.ClassFile.FieldType)).before args0 about1 = true := code_word (m := ⟨9, 8⟩) (meth := k9m8) (c := k9c8) (by decide +kernel) rfl rfl rfl (by decide +kernel)
set_option maxRecDepth 65536 in
theorem w_c22 : (Jvm.Cond.code ({ cls := "com/example/tidebook/tidebook/book/BookSide", name := "clear", desc := "()V" } : Jvm.MethodName) prog_9_method_9_code (1 : Nat) (Option.none : Option Jvm.ClassFile.FieldType)).before args0 about1 = true := code_word (m := ⟨10, 1⟩) (meth := k10m1) (c := k10c1) (by decide +kernel) rfl rfl rfl (by decide +kernel)
set_option maxRecDepth 65536 in
theorem w_c23 : (Jvm.Cond.code ({ cls := "java/util/Arrays", name := "fill", desc := "([Ljava/lang/Object;IILjava/lang/Object;)V" } : Jvm.MethodName) jdk_65_method_118_code (5 : Nat) (Option.none : Option Jvm.ClassFile.FieldType)).before args0 about1 = true := code_word (m := ⟨22, 3⟩) (meth := k22m3) (c := k22c3) (by decide +kernel) rfl rfl rfl (by decide +kernel)
set_option maxRecDepth 65536 in
theorem w_c24 : (Jvm.Cond.code ({ cls := "java/util/Arrays", name := "rangeCheck", desc := "(III)V" } : Jvm.MethodName) jdk_65_method_30_code (3 : Nat) (Option.none : Option Jvm.ClassFile.FieldType)).before args0 about1 = true := code_word (m := ⟨22, 1⟩) (meth := k22m1) (c := k22c1) (by decide +kernel) rfl rfl rfl (by decide +kernel)
set_option maxRecDepth 65536 in
theorem w_c25 : (Jvm.Cond.code ({ cls := "java/util/Arrays", name := "fill", desc := "([IIII)V" } : Jvm.MethodName) jdk_65_method_104_code (5 : Nat) (Option.none : Option Jvm.ClassFile.FieldType)).before args0 about1 = true := code_word (m := ⟨22, 2⟩) (meth := k22m2) (c := k22c2) (by decide +kernel) rfl rfl rfl (by decide +kernel)
set_option maxRecDepth 65536 in
theorem w_c26 : (Jvm.Cond.code ({ cls := "java/util/ArrayList", name := "iterator", desc := "()Ljava/util/Iterator;" } : Jvm.MethodName) jdk_38_method_55_code (1 : Nat) (Option.some (Jvm.ClassFile.FieldType.object "java/util/Iterator"))).before args0 about1 = true := code_word (m := ⟨21, 1⟩) (meth := k21m1) (c := k21c1) (by decide +kernel) rfl rfl rfl (by decide +kernel)
set_option maxRecDepth 65536 in
theorem w_c27 : (Jvm.Cond.code ({ cls := "java/util/ArrayList$Itr", name := "<init>", desc := "(Ljava/util/ArrayList;)V" } : Jvm.MethodName) jdk_49_method_1_code (2 : Nat) (Option.none : Option Jvm.ClassFile.FieldType)).before args0 about1 = true := code_word (m := ⟨24, 0⟩) (meth := k24m0) (c := k24c0) (by decide +kernel) rfl rfl rfl (by decide +kernel)
set_option maxRecDepth 65536 in
theorem w_c28 : (Jvm.Cond.code ({ cls := "java/util/ArrayList$Itr", name := "hasNext", desc := "()Z" } : Jvm.MethodName) jdk_49_method_2_code (1 : Nat) (Option.some Jvm.ClassFile.FieldType.boolean)).before args0 about1 = true := code_word (m := ⟨24, 1⟩) (meth := k24m1) (c := k24c1) (by decide +kernel) rfl rfl rfl (by decide +kernel)
set_option maxRecDepth 65536 in
theorem w_c29 : (Jvm.Cond.code ({ cls := "com/example/tidebook/tidebook/book/Book", name := "countVerified", desc := "()V" } : Jvm.MethodName) prog_2_method_16_code (1 : Nat) (Option.none : Option Jvm.ClassFile.FieldType)).before args0 about1 = true := code_word (m := ⟨9, 9⟩) (meth := k9m9) (c := k9c9) (by decide +kernel) rfl rfl rfl (by decide +kernel)
set_option maxRecDepth 65536 in
theorem w_c30 : (Jvm.Cond.code ({ cls := "com/example/tidebook/tidebook/book/Book", name := "countSkipped", desc := "()V" } : Jvm.MethodName) prog_2_method_19_code (1 : Nat) (Option.none : Option Jvm.ClassFile.FieldType)).before args0 about1 = true := code_word (m := ⟨9, 11⟩) (meth := k9m11) (c := k9c11) (by decide +kernel) rfl rfl rfl (by decide +kernel)
def codes1 : List Jvm.Cond := [Jvm.Cond.code x code maxLocals ret, Jvm.Cond.code ({ cls := "java/lang/String", name := "<init>", desc := "([C)V" } : Jvm.MethodName) jdk_42_method_3_code (2 : Nat) (Option.none : Option Jvm.ClassFile.FieldType), Jvm.Cond.code ({ cls := "java/lang/String", name := "<init>", desc := "([CIILjava/lang/Void;)V" } : Jvm.MethodName) jdk_42_method_149_code (6 : Nat) (Option.none : Option Jvm.ClassFile.FieldType), Jvm.Cond.code ({ cls := "java/lang/Object", name := "<init>", desc := "()V" } : Jvm.MethodName) object_method_1_code (1 : Nat) (Option.none : Option Jvm.ClassFile.FieldType), Jvm.Cond.code ({ cls := "java/lang/StringUTF16", name := "compress", desc := "([CII)[B" } : Jvm.MethodName) jdk_52_method_16_code (6 : Nat) (Option.some (Jvm.ClassFile.FieldType.array Jvm.ClassFile.FieldType.byte)), Jvm.Cond.code ({ cls := "java/lang/StringUTF16", name := "compress", desc := "([CI[BII)I" } : Jvm.MethodName) jdk_52_method_21_code (7 : Nat) (Option.some Jvm.ClassFile.FieldType.int), Jvm.Cond.code ({ cls := "java/lang/StringUTF16", name := "coderFromArrayLen", desc := "([BI)B" } : Jvm.MethodName) jdk_52_method_15_code (2 : Nat) (Option.some Jvm.ClassFile.FieldType.byte), Jvm.Cond.code ({ cls := "com/example/tidebook/tidebook/book/Book", name := "<init>", desc := "(Ljava/lang/String;)V" } : Jvm.MethodName) prog_2_method_1_code (2 : Nat) (Option.none : Option Jvm.ClassFile.FieldType), Jvm.Cond.code ({ cls := "com/example/tidebook/tidebook/book/BookSide", name := "<init>", desc := "(Z)V" } : Jvm.MethodName) prog_9_method_1_code (2 : Nat) (Option.none : Option Jvm.ClassFile.FieldType), Jvm.Cond.code ({ cls := "com/example/tidebook/tidebook/book/Book", name := "countMismatched", desc := "()V" } : Jvm.MethodName) prog_2_method_17_code (1 : Nat) (Option.none : Option Jvm.ClassFile.FieldType), Jvm.Cond.code ({ cls := "com/example/tidebook/tidebook/book/Book", name := "mismatched", desc := "()J" } : Jvm.MethodName) prog_2_method_11_code (1 : Nat) (Option.some Jvm.ClassFile.FieldType.long), Jvm.Cond.code ({ cls := "com/example/tidebook/tidebook/book/Book", name := "verified", desc := "()J" } : Jvm.MethodName) prog_2_method_10_code (1 : Nat) (Option.some Jvm.ClassFile.FieldType.long), Jvm.Cond.code ({ cls := "com/example/tidebook/tidebook/book/Book", name := "checked", desc := "()J" } : Jvm.MethodName) prog_2_method_9_code (1 : Nat) (Option.some Jvm.ClassFile.FieldType.long), Jvm.Cond.code ({ cls := "com/example/tidebook/tidebook/book/Book", name := "skipped", desc := "()J" } : Jvm.MethodName) prog_2_method_12_code (1 : Nat) (Option.some Jvm.ClassFile.FieldType.long), Jvm.Cond.code ({ cls := "com/example/tidebook/tidebook/book/Book", name := "isSynced", desc := "()Z" } : Jvm.MethodName) prog_2_method_4_code (1 : Nat) (Option.some Jvm.ClassFile.FieldType.boolean), Jvm.Cond.code ({ cls := "com/example/tidebook/tidebook/book/Book", name := "messages", desc := "()J" } : Jvm.MethodName) prog_2_method_8_code (1 : Nat) (Option.some Jvm.ClassFile.FieldType.long), Jvm.Cond.code ({ cls := "com/example/tidebook/tidebook/book/Book", name := "name", desc := "()Ljava/lang/String;" } : Jvm.MethodName) prog_2_method_3_code (1 : Nat) (Option.some (Jvm.ClassFile.FieldType.object "java/lang/String")), Jvm.Cond.code ({ cls := "java/lang/String", name := "equals", desc := "(Ljava/lang/Object;)Z" } : Jvm.MethodName) jdk_42_method_66_code (3 : Nat) (Option.some Jvm.ClassFile.FieldType.boolean), Jvm.Cond.code ({ cls := "java/util/ArrayList", name := "<init>", desc := "()V" } : Jvm.MethodName) jdk_38_method_2_code (1 : Nat) (Option.none : Option Jvm.ClassFile.FieldType), Jvm.Cond.code ({ cls := "java/util/AbstractList", name := "<init>", desc := "()V" } : Jvm.MethodName) jdk_39_method_1_code (1 : Nat) (Option.none : Option Jvm.ClassFile.FieldType), Jvm.Cond.code ({ cls := "java/util/AbstractCollection", name := "<init>", desc := "()V" } : Jvm.MethodName) jdk_22_method_1_code (1 : Nat) (Option.none : Option Jvm.ClassFile.FieldType), Jvm.Cond.code ({ cls := "com/example/tidebook/tidebook/book/Book", name := "replace", desc := "(Ljava/util/List;)V" } : Jvm.MethodName) prog_2_method_13_code (4 : Nat) (Option.none : Option Jvm.ClassFile.FieldType), Jvm.Cond.code ({ cls := "com/example/tidebook/tidebook/book/BookSide", name := "clear", desc := "()V" } : Jvm.MethodName) prog_9_method_9_code (1 : Nat) (Option.none : Option Jvm.ClassFile.FieldType), Jvm.Cond.code ({ cls := "java/util/Arrays", name := "fill", desc := "([Ljava/lang/Object;IILjava/lang/Object;)V" } : Jvm.MethodName) jdk_65_method_118_code (5 : Nat) (Option.none : Option Jvm.ClassFile.FieldType), Jvm.Cond.code ({ cls := "java/util/Arrays", name := "rangeCheck", desc := "(III)V" } : Jvm.MethodName) jdk_65_method_30_code (3 : Nat) (Option.none : Option Jvm.ClassFile.FieldType), Jvm.Cond.code ({ cls := "java/util/Arrays", name := "fill", desc := "([IIII)V" } : Jvm.MethodName) jdk_65_method_104_code (5 : Nat) (Option.none : Option Jvm.ClassFile.FieldType), Jvm.Cond.code ({ cls := "java/util/ArrayList", name := "iterator", desc := "()Ljava/util/Iterator;" } : Jvm.MethodName) jdk_38_method_55_code (1 : Nat) (Option.some (Jvm.ClassFile.FieldType.object "java/util/Iterator")), Jvm.Cond.code ({ cls := "java/util/ArrayList$Itr", name := "<init>", desc := "(Ljava/util/ArrayList;)V" } : Jvm.MethodName) jdk_49_method_1_code (2 : Nat) (Option.none : Option Jvm.ClassFile.FieldType), Jvm.Cond.code ({ cls := "java/util/ArrayList$Itr", name := "hasNext", desc := "()Z" } : Jvm.MethodName) jdk_49_method_2_code (1 : Nat) (Option.some Jvm.ClassFile.FieldType.boolean), Jvm.Cond.code ({ cls := "com/example/tidebook/tidebook/book/Book", name := "countVerified", desc := "()V" } : Jvm.MethodName) prog_2_method_16_code (1 : Nat) (Option.none : Option Jvm.ClassFile.FieldType), Jvm.Cond.code ({ cls := "com/example/tidebook/tidebook/book/Book", name := "countSkipped", desc := "()V" } : Jvm.MethodName) prog_2_method_19_code (1 : Nat) (Option.none : Option Jvm.ClassFile.FieldType)]
set_option maxRecDepth 65536 in
theorem codes_eq : words1.filter isCode = codes1 := rfl
theorem w_codes : ∀ c ∈ words1.filter isCode, c.before args0 about1 = true := by
  rw [codes_eq]
  intro c hc
  simp only [codes1, List.mem_cons, List.not_mem_nil, or_false] at hc
  rcases hc with rfl | rfl | rfl | rfl | rfl | rfl | rfl | rfl | rfl | rfl | rfl | rfl | rfl | rfl | rfl | rfl | rfl | rfl | rfl | rfl | rfl | rfl | rfl | rfl | rfl | rfl | rfl | rfl | rfl | rfl | rfl
  · exact w_c0
  · exact w_c1
  · exact w_c2
  · exact w_c3
  · exact w_c4
  · exact w_c5
  · exact w_c6
  · exact w_c7
  · exact w_c8
  · exact w_c9
  · exact w_c10
  · exact w_c11
  · exact w_c12
  · exact w_c13
  · exact w_c14
  · exact w_c15
  · exact w_c16
  · exact w_c17
  · exact w_c18
  · exact w_c19
  · exact w_c20
  · exact w_c21
  · exact w_c22
  · exact w_c23
  · exact w_c24
  · exact w_c25
  · exact w_c26
  · exact w_c27
  · exact w_c28
  · exact w_c29
  · exact w_c30
set_option maxRecDepth 65536 in
theorem w_t1 : (words1.take 24).all (fun c => isCode c || c.before args0 about1) = true := by decide +kernel
set_option maxRecDepth 65536 in
theorem w_t2 : ((words1.drop 24).take 24).all (fun c => isCode c || c.before args0 about1) = true := by decide +kernel
set_option maxRecDepth 65536 in
theorem w_t3 : (((words1.drop 24).drop 24).take 24).all (fun c => isCode c || c.before args0 about1) = true := by decide +kernel
set_option maxRecDepth 65536 in
theorem w_t4 : ((((words1.drop 24).drop 24).drop 24).take 24).all (fun c => isCode c || c.before args0 about1) = true := by decide +kernel
set_option maxRecDepth 65536 in
theorem w_t5 : (((((words1.drop 24).drop 24).drop 24).drop 24).take 24).all (fun c => isCode c || c.before args0 about1) = true := by decide +kernel
set_option maxRecDepth 65536 in
theorem w_t6 : ((((((words1.drop 24).drop 24).drop 24).drop 24).drop 24).take 24).all (fun c => isCode c || c.before args0 about1) = true := by decide +kernel
set_option maxRecDepth 65536 in
theorem w_t7 : (((((((words1.drop 24).drop 24).drop 24).drop 24).drop 24).drop 24).take 24).all (fun c => isCode c || c.before args0 about1) = true := by decide +kernel
set_option maxRecDepth 65536 in
theorem w_t8 : ((((((((words1.drop 24).drop 24).drop 24).drop 24).drop 24).drop 24).drop 24).take 24).all (fun c => isCode c || c.before args0 about1) = true := by decide +kernel
set_option maxRecDepth 65536 in
theorem w_t9 : ((((((((words1.drop 24).drop 24).drop 24).drop 24).drop 24).drop 24).drop 24).drop 24).all (fun c => isCode c || c.before args0 about1) = true := by decide +kernel
theorem w_tables : (allAtoms (Jvm.Cond.code x code maxLocals ret :: tables_1)).before args0 about1 = true := by
  rw [allAtoms_all]
  show words1.all (fun c => c.before args0 about1) = true
  refine all_split ?_ w_codes
  rw [← List.take_append_drop 24 words1, List.all_append, w_t1, ← List.take_append_drop 24 (words1.drop 24), List.all_append, w_t2, ← List.take_append_drop 24 ((words1.drop 24).drop 24), List.all_append, w_t3, ← List.take_append_drop 24 (((words1.drop 24).drop 24).drop 24), List.all_append, w_t4, ← List.take_append_drop 24 ((((words1.drop 24).drop 24).drop 24).drop 24), List.all_append, w_t5, ← List.take_append_drop 24 (((((words1.drop 24).drop 24).drop 24).drop 24).drop 24), List.all_append, w_t6, ← List.take_append_drop 24 ((((((words1.drop 24).drop 24).drop 24).drop 24).drop 24).drop 24), List.all_append, w_t7, ← List.take_append_drop 24 (((((((words1.drop 24).drop 24).drop 24).drop 24).drop 24).drop 24).drop 24), List.all_append, w_t8, w_t9]
  rfl
set_option maxRecDepth 65536 in
theorem w_rest : rest_1_c.before args0 about1 = true := by decide +kernel
set_option maxRecDepth 65536 in
theorem w_case : (Jvm.Cond.and given_1 narrow_1).before args0 about1 = true := by decide +kernel
theorem w_applies : (headSpec (Jvm.Cond.code x code maxLocals ret :: tables_1) room_1).applies x e0.platform about1 = true :=
  (Spec.applies_iff w_frames).mpr ⟨w_running, w_runnable, w_alone, w_named, w_hears, w_ripe, w_room, w_tables⟩
theorem atStart : AtStart classFile x code maxLocals ret World_1 tables_1 room_1 Calls_1 rest_1 Pre_1 launch0 p0 e0 about1 theMethod args0 below0 :=
  ⟨lists_1, trivial, launch0.admits_env _ _ _, launch0.least_env, fairChoices_fair.cas, fairChoices_fair.clock, w_frames, w_args, w_heap, w_applies, trivial, w_rest, w_case⟩
end start1
theorem witness_1 : WitnessClaimed_1 := ⟨start1.p0, start1.e0, start1.about1, start1.theMethod, start1.args0, start1.below0, start1.atStart⟩
end Jvm.Pilot.@@N@@
