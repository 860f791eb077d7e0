import JvmDerived
import JvmDerived.Pilot.@@N@@Statement
import JvmDerived.Pilot.@@N@@Code
set_option linter.unusedVariables false
set_option linter.unusedSimpArgs false
namespace Jvm.Pilot.@@N@@
open Jvm Jvm.ClassFile Sem Op Lib Jvm.Free Jvm.Stand Jvm.LawKit Jvm.RoadKit Bundle Jvm.Pilot.@@N@@.Jvm.D
namespace Own
section Kit
variable {wd : Bool} {p : Program} {l : Launch} {e : Env} {R : Room} {s : State} {m : MethodId} {args : Array Value} {below : List Frame} {meth : Method} {c : Code} {own : String} {Z : State} {a0 : Array Value} {n0 : Nat} {h0 : Heap} {ws : List Addr} {vm : Vm} {T : State} {h : Heap} {cells slots : Nat}
/-- from A the run comes to B -/
def Go (p : Program) (e : Env) (below : List Frame) (A B : State) : Prop := ∀ t, Steps p.tables e below B t → Steps p.tables e below A t
theorem Go.refl (A : State) : Go p e below A A := fun _ k => k
theorem Go.trans {A B C : State} (x : Go p e below A B) (y : Go p e below B C) : Go p e below A C := fun t k => x t (y t k)
/-- the places in L lie in cells of ws, or in cells made since (at or above k) -/
def FrW (ws : List Addr) (k : Nat) (L : List Loc) : Prop := ∀ y ∈ L, y.base ∈ ws ∨ k ≤ y.base
theorem FrW.nil (ws : List Addr) (k : Nat) : FrW ws k [] := fun _ q => nomatch q
theorem FrW.app {ws : List Addr} {k : Nat} {L L' : List Loc} (N : FrW ws k L) (N' : FrW ws k L') : FrW ws k (L ++ L') := fun y q => (List.mem_append.mp q).elim (N y) (N' y)
theorem FrW.one {ws : List Addr} {k : Nat} {a : Addr} {sl : Nat} (q : a ∈ ws ∨ k ≤ a) : FrW ws k [⟨a, sl⟩] := fun y hy => by cases List.mem_singleton.mp hy; exact q
theorem FrW.fr {ws : List Addr} {k n : Nat} {L : List Loc} (N : FrW ws k L) (h1 : ∀ x ∈ ws, n ≤ x) (h2 : n ≤ k) : Fr n L := fun y hy => (N y hy).elim (h1 _) (Nat.le_trans h2)
/-- where a walk stands: wd = true: it may have interned. h0: the heap at the method's start; ws: the cells of h0 that it may have written; n0: the heap's size at the law's start; vm: the tables of the last step that may have interned -/
def Wk (wd : Bool) (p : Program) (l : Launch) (e : Env) (R : Room) (s : State) (m : MethodId) (args : Array Value) (below : List Frame) (meth : Method) (c : Code) (own : String) (Z : State) (n0 : Nat) (h0 : Heap) (ws : List Addr) (vm : Vm) (T : State) (h : Heap) (cells slots : Nat) : Prop :=
  T.heap = h ∧ p.tables.exec = Jvm.exec ∧ Old Z n0 h ∧ n0 ≤ h0.size ∧ (∀ x ∈ ws, n0 ≤ x) ∧ Keep h0 h ws ∧ s.heap = h0 ∧ Z.Warmed39 vm ∧ vm.findClass own = some m.cls ∧ (wd = false → vm = s.vm) ∧
  ∃ (locs : List Loc) (k : Nat), FrW ws h0.size locs ∧ Stand p l e R (s.setVm vm) m args below meth c T locs cells slots ∧ s.Since vm k ∧ k ≤ h.size
theorem Wk.stand (K : Wk wd p l e R s m args below meth c own Z n0 h0 ws vm T h cells slots) {P : Prop} (f : ∀ (locs : List Loc) (s' : State), Stand p l e R s' m args below meth c T locs cells slots → p.tables.exec = Jvm.exec → Z.Warmed39 s'.vm → s'.vm.findClass own = some m.cls → T.heap = h → P) : P := by
  obtain ⟨e1, hx, O, hn, hw, Kp, hs0, hZ, ho, hv, locs, k, F, X, S, hk⟩ := K
  exact f locs (s.setVm vm) X hx hZ ho e1
theorem Wk.here (K : Wk wd p l e R s m args below meth c own Z n0 h0 ws vm T h cells slots) : At T m c below := K.stand fun _ _ X _ _ _ _ => X.here
theorem Wk.exec (K : Wk wd p l e R s m args below meth c own Z n0 h0 ws vm T h cells slots) : p.tables.exec = Jvm.exec := K.2.1
theorem Wk.old (K : Wk wd p l e R s m args below meth c own Z n0 h0 ws vm T h cells slots) : Old Z n0 h := K.2.2.1
theorem Wk.ext (K : Wk wd p l e R s m args below meth c own Z n0 h0 ws vm T h cells slots) : Ext Z.heap h := K.2.2.1.2
theorem Wk.keep (K : Wk wd p l e R s m args below meth c own Z n0 h0 ws vm T h cells slots) : Keep h0 h ws := K.2.2.2.2.2.1
theorem Wk.fresh (K : Wk wd p l e R s m args below meth c own Z n0 h0 ws vm T h cells slots) {x : Addr} (q : x ∈ ws ∨ h0.size ≤ x) : n0 ≤ x := q.elim (K.2.2.2.2.1 x) (Nat.le_trans K.2.2.2.1)
theorem Wk.more (K : Wk wd p l e R s m args below meth c own Z n0 h0 ws vm T h cells slots) {cells' slots' : Nat} (hc : cells ≤ cells') (hs : slots ≤ slots') : Wk wd p l e R s m args below meth c own Z n0 h0 ws vm T h cells' slots' := by
  obtain ⟨e1, hx, O, hn, hw, Kp, hs0, hZ, ho, hv, locs, k, F, X, S, hk⟩ := K
  exact ⟨e1, hx, O, hn, hw, Kp, hs0, hZ, ho, hv, locs, k, F, X.more hc hs, S, hk⟩
theorem Wk.weaken (K : Wk wd p l e R s m args below meth c own Z n0 h0 [] vm T h cells slots) (ws' : List Addr) (q : ∀ x ∈ ws', n0 ≤ x) : Wk wd p l e R s m args below meth c own Z n0 h0 ws' vm T h cells slots := by
  obtain ⟨e1, hx, O, hn, hw, Kp, hs0, hZ, ho, hv, locs, k, F, X, S, hk⟩ := K
  exact ⟨e1, hx, O, hn, q, ⟨Kp.1, fun x c u _ => Kp.2.1 x c u nin0, Kp.2.2⟩, hs0, hZ, ho, hv, locs, k, fun y hy => (F y hy).elim (fun u => nomatch u) Or.inr, X, S, hk⟩
/-- a step that writes and makes nothing in the heap -/
theorem Wk.pure (K : Wk wd p l e R s m args below meth c own Z n0 h0 ws vm T h cells slots) {P : State → Prop}
    (f : ∀ (locs : List Loc) (s' : State), Stand p l e R s' m args below meth c T locs cells slots → p.tables.exec = Jvm.exec → Z.Warmed39 s'.vm → s'.vm.findClass own = some m.cls → T.heap = h → ∃ T', Stand p l e R s' m args below meth c T' locs cells slots ∧ T'.heap = h ∧ P T') :
    ∃ T', Wk wd p l e R s m args below meth c own Z n0 h0 ws vm T' h cells slots ∧ P T' := by
  obtain ⟨e1, hx, O, hn, hw, Kp, hs0, hZ, ho, hv, locs, k, F, X, S, hk⟩ := K
  obtain ⟨T', X', e', q⟩ := f locs (s.setVm vm) X hx hZ ho e1
  exact ⟨T', ⟨e', hx, O, hn, hw, Kp, hs0, hZ, ho, hv, locs, k, F, X', S, hk⟩, q⟩
/-- a step that makes a cell -/
theorem Wk.made (K : Wk wd p l e R s m args below meth c own Z n0 h0 ws vm T h cells slots) {cells' slots' : Nat} {P : State → Heap → Prop}
    (f : ∀ (locs : List Loc) (s' : State), Stand p l e R s' m args below meth c T locs cells slots → p.tables.exec = Jvm.exec → Z.Warmed39 s'.vm → s'.vm.findClass own = some m.cls → T.heap = h → ∃ T' h', Stand p l e R s' m args below meth c T' locs cells' slots' ∧ T'.heap = h' ∧ Ext h h' ∧ P T' h') :
    ∃ T' h', Wk wd p l e R s m args below meth c own Z n0 h0 ws vm T' h' cells' slots' ∧ Ext h h' ∧ h0.size ≤ h.size ∧ P T' h' := by
  obtain ⟨e1, hx, O, hn, hw, Kp, hs0, hZ, ho, hv, locs, k, F, X, S, hk⟩ := K
  obtain ⟨T', h', X', e', E, q⟩ := f locs (s.setVm vm) X hx hZ ho e1
  exact ⟨T', h', ⟨e', hx, O.ext E, hn, hw, Kp.ext E, hs0, hZ, ho, hv, locs, k, F, X', S, Nat.le_trans hk E.1⟩, E, Kp.1, q⟩
/-- a step that writes one place -/
theorem Wk.wrote (K : Wk wd p l e R s m args below meth c own Z n0 h0 ws vm T h cells slots) {a : Addr} {sl : Nat} {v : Value} (q : a ∈ ws ∨ h0.size ≤ a) {P : State → Heap → Prop}
    (f : ∀ (locs : List Loc) (s' : State), Stand p l e R s' m args below meth c T locs cells slots → p.tables.exec = Jvm.exec → Z.Warmed39 s'.vm → s'.vm.findClass own = some m.cls → T.heap = h → ∃ T' h', Stand p l e R s' m args below meth c T' (locs ++ [⟨a, sl⟩]) cells slots ∧ T'.heap = h' ∧ Wr h h' a sl v ∧ P T' h') :
    ∃ T' h', Wk wd p l e R s m args below meth c own Z n0 h0 ws vm T' h' cells slots ∧ Wr h h' a sl v ∧ P T' h' := by
  have g := K.fresh q
  obtain ⟨e1, hx, O, hn, hw, Kp, hs0, hZ, ho, hv, locs, k, F, X, S, hk⟩ := K
  obtain ⟨T', h', X', e', W, u⟩ := f locs (s.setVm vm) X hx hZ ho e1
  exact ⟨T', h', ⟨e', hx, O.wr W g, hn, hw, Kp.wr W q, hs0, hZ, ho, hv, _, k, F.app (FrW.one q), X', S, by rw [W.size]; exact hk⟩, W, u⟩
theorem Wk.getF (K : Wk wd p l e R s m args below meth c own Z n0 h0 ws vm T h cells slots) {R0 O n d : String} (host : String) {index : Nat} (w : (Cond.fieldLink own index R0 n d).before a0 Z = true ∨ (Cond.fieldLinkNest own index R0 n d host).before a0 Z = true) (via : Via Z R0 O n d) {a : Addr} {v : Value} (F : Fld Z h a O n d v)
    {pc : Nat} {Ls : Array Slot} {rest : List Value} (hd : decode c.code pc = .ok (.getfield index, 3)) :
    ∃ T', Wk wd p l e R s m args below meth c own Z n0 h0 ws vm T' h cells slots ∧ Go p e below (T.setTop (mkF m pc Ls (.ref a :: rest))) (T'.setTop (mkF m (pc + 3) Ls (v :: rest))) :=
  K.pure fun _ _ X hx hZ ho e1 => RoadKit.getF X hx hZ ho w via e1 F (g := mkF m pc Ls (.ref a :: rest)) rfl rfl hd
theorem Wk.getS (K : Wk wd p l e R s m args below meth c own Z n0 h0 ws vm T h cells slots) {R0 O n d : String} (host : String) {index : Nat} (w : (Cond.fieldLink own index R0 n d).before a0 Z = true ∨ (Cond.fieldLinkNest own index R0 n d host).before a0 Z = true) (via : Via Z R0 O n d) {v : Value} (F : Sta Z h O n d v)
    {pc : Nat} {Ls : Array Slot} {rest : List Value} (hd : decode c.code pc = .ok (.getstatic index, 3)) :
    ∃ T', Wk wd p l e R s m args below meth c own Z n0 h0 ws vm T' h cells slots ∧ Go p e below (T.setTop (mkF m pc Ls rest)) (T'.setTop (mkF m (pc + 3) Ls (v :: rest))) :=
  K.pure fun _ _ X hx hZ ho e1 => RoadKit.getS2 X hx hZ ho w via e1 F (g := mkF m pc Ls rest) rfl hd
theorem Wk.putF (K : Wk wd p l e R s m args below meth c own Z n0 h0 ws vm T h cells slots) {R0 O n d C : String} (host : String) {index kk : Nat} {ty : FieldType} (w : (Cond.fieldLink own index R0 n d).before a0 Z = true ∨ (Cond.fieldLinkNest own index R0 n d host).before a0 Z = true) (via : Via Z R0 O n d) {a : Addr} {v old : Value} (F : Fld Z h a O n d old) (E : Exa Z h a C)
    (L : (Cond.lays C O n d).before a0 Z = true ∨ ((Cond.laysFinal C O n d).before a0 Z = true ∧ own = O ∧ meth.name = "<init>")) (wi : (Cond.instantiable C kk).before a0 Z = true) (hty : parseFieldDescriptor d = some ty) (hn : narrow ty v = v) (hf : fits ty v = true) (q : a ∈ ws ∨ h0.size ≤ a)
    {pc : Nat} {Ls : Array Slot} {rest : List Value} (hd : decode c.code pc = .ok (.putfield index, 3)) :
    ∃ T' h', Wk wd p l e R s m args below meth c own Z n0 h0 ws vm T' h' cells slots ∧ Wr h h' a (RoadKit.slotOf Z O n d) v ∧ Go p e below (T.setTop (mkF m pc Ls (v :: .ref a :: rest))) (T'.setTop (mkF m (pc + 3) Ls rest)) :=
  K.wrote q fun _ _ X hx hZ ho e1 => RoadKit.putF X hx hZ ho w via e1 F E L wi hty hn hf (g := mkF m pc Ls (v :: .ref a :: rest)) rfl rfl hd
theorem Wk.initO (K : Wk wd p l e R s m args below meth c own Z n0 h0 ws vm T h cells slots) {idx : Nat} (w1 : (Cond.methodLink own idx Lib.objectInit).before a0 Z = true) (w2 : (Cond.instanceMethod Lib.objectInit).before a0 Z = true) (w3 : (Cond.code Lib.objectInit ⟨#[0xb1]⟩ 1 none).before a0 Z = true)
    {a : Addr} {pc : Nat} {Ls : Array Slot} {rest : List Value} (hsz : Ls.size = c.maxLocals) (hd : decode c.code pc = .ok (.invokespecial idx, 3)) (hf : 1 ≤ R.frames) {W : Nat} (hW : (rest.map fun v => v.category).sum ≤ W) (hl : W + 12 ≤ R.locals) :
    ∃ T', Wk wd p l e R s m args below meth c own Z n0 h0 ws vm T' h cells slots ∧ Go p e below (T.setTop (mkF m pc Ls (.ref a :: rest))) (T'.setTop (mkF m (pc + 3) Ls rest)) :=
  K.pure fun _ _ X hx hZ ho e1 => RoadKit.initO X hx hZ ho w1 w2 w3 e1 (g := mkF m pc Ls (.ref a :: rest)) rfl hsz rfl hd hf (W := W) (by show 2 * 0 + _ ≤ _; simpa using hW) hl
theorem Wk.castY (K : Wk wd p l e R s m args below meth c own Z n0 h0 ws vm T h cells slots) {C : String} {index : Nat} (w : (Cond.classLink own index C).before a0 Z = true) {a : Addr} (F : Ins Z h a C true) {pc : Nat} {Ls : Array Slot} {rest : List Value} (hd : decode c.code pc = .ok (.checkcast index, 3)) :
    ∃ T', Wk wd p l e R s m args below meth c own Z n0 h0 ws vm T' h cells slots ∧ Go p e below (T.setTop (mkF m pc Ls (.ref a :: rest))) (T'.setTop (mkF m (pc + 3) Ls (.ref a :: rest))) :=
  K.pure fun _ _ X hx hZ ho e1 => RoadKit.castY X hx hZ ho w e1 F (g := mkF m pc Ls (.ref a :: rest)) rfl rfl hd
theorem Wk.instY (K : Wk wd p l e R s m args below meth c own Z n0 h0 ws vm T h cells slots) {C : String} {index : Nat} (w : (Cond.classLink own index C).before a0 Z = true) {a : Addr} (F : Ins Z h a C true) {pc : Nat} {Ls : Array Slot} {rest : List Value} (hd : decode c.code pc = .ok (.instanceof index, 3)) :
    ∃ T', Wk wd p l e R s m args below meth c own Z n0 h0 ws vm T' h cells slots ∧ Go p e below (T.setTop (mkF m pc Ls (.ref a :: rest))) (T'.setTop (mkF m (pc + 3) Ls (.int 1 :: rest))) :=
  K.pure fun _ _ X hx hZ ho e1 => RoadKit.instY X hx hZ ho w e1 F (g := mkF m pc Ls (.ref a :: rest)) rfl rfl hd
theorem Wk.instNo (K : Wk wd p l e R s m args below meth c own Z n0 h0 ws vm T h cells slots) {C D : String} {index : Nat} (w : (Cond.classLink own index C).before a0 Z = true) {a : Addr} (E : Exa Z h a D) (F : ∃ c t, Z.vm.findClass D = some c ∧ Z.vm.findClass C = some t ∧ Z.vm.assignable c t = false) {pc : Nat} {Ls : Array Slot} {rest : List Value} (hd : decode c.code pc = .ok (.instanceof index, 3)) :
    ∃ T', Wk wd p l e R s m args below meth c own Z n0 h0 ws vm T' h cells slots ∧ Go p e below (T.setTop (mkF m pc Ls (.ref a :: rest))) (T'.setTop (mkF m (pc + 3) Ls (.int 0 :: rest))) :=
  K.pure fun _ _ X hx hZ ho e1 => RoadKit.instNo X hx hZ ho w e1 E F (g := mkF m pc Ls (.ref a :: rest)) rfl rfl hd
theorem Wk.instNull (K : Wk wd p l e R s m args below meth c own Z n0 h0 ws vm T h cells slots) {index : Nat} {pc : Nat} {Ls : Array Slot} {rest : List Value} (hd : decode c.code pc = .ok (.instanceof index, 3)) :
    Go p e below (T.setTop (mkF m pc Ls (.null :: rest))) (T.setTop (mkF m (pc + 3) Ls (.int 0 :: rest))) := by
  exact K.stand fun _ _ X hx _ _ _ => X.instanceofNull hx (g := mkF m pc Ls (.null :: rest)) rfl rfl hd
theorem Wk.newO (K : Wk wd p l e R s m args below meth c own Z n0 h0 ws vm T h cells slots) {C : String} {index n : Nat} (w : (Cond.classLink own index C).before a0 Z = true) (wi : (Cond.instantiable C n).before a0 Z = true) (wz : (Cond.initialized C).before a0 Z = true)
    {pc : Nat} {Ls : Array Slot} {rest : List Value} (hd : decode c.code pc = .ok (.new index, 3)) (hc : cells + 1 ≤ R.cells) (hl : slots + n ≤ R.slots) :
    ∃ T' h' a, Wk wd p l e R s m args below meth c own Z n0 h0 ws vm T' h' (cells + 1) (slots + n) ∧ Ext h h' ∧ h0.size ≤ a ∧ h.size ≤ a ∧ (∀ x, x < h.size → x ≠ a) ∧ Exa Z h' a C ∧
      (∀ {O nm d : String} {ty : FieldType}, Laid Z a0 C O nm d → parseFieldDescriptor d = some ty → Fld Z h' a O nm d (defaultValue ty)) ∧ Go p e below (T.setTop (mkF m pc Ls rest)) (T'.setTop (mkF m (pc + 3) Ls (.ref a :: rest))) := by
  obtain ⟨T', h', K', E, g, A, D, st⟩ := K.made (P := fun T' h' => Exa Z h' h.size C ∧ (∀ {O nm d : String} {ty : FieldType}, Laid Z a0 C O nm d → parseFieldDescriptor d = some ty → Fld Z h' h.size O nm d (defaultValue ty)) ∧ Go p e below (T.setTop (mkF m pc Ls rest)) (T'.setTop (mkF m (pc + 3) Ls (.ref h.size :: rest))))
    fun _ _ X hx hZ ho e1 => by
      obtain ⟨T', h', X', e', E, A, D, -, st⟩ := RoadKit.newO X hx hZ ho w wi wz e1 (g := mkF m pc Ls rest) rfl hd hc hl
      exact ⟨T', h', X', e', E, A, D, st⟩
  exact ⟨T', h', h.size, K', E, g, Nat.le_refl _, fun x q => Nat.ne_of_lt q, A, D, st⟩
theorem Wk.newP (K : Wk wd p l e R s m args below meth c own Z n0 h0 ws vm T h cells slots) {aty : ArrayType} (w : (Cond.arrayClass (newarray.typeOf aty)).before a0 Z = true) {n : Int32} {pc : Nat} {Ls : Array Slot} {rest : List Value} (hd : decode c.code pc = .ok (.newarray aty, 2)) (cap : Nat) (hn : ¬ n < 0) (hcap : n.toNatClampNeg ≤ cap) (hb : cap * 8 ≤ 536870912) (hc : cells + 1 ≤ R.cells) (hl : slots + cap ≤ R.slots) :
    ∃ T' h' a cA, Wk wd p l e R s m args below meth c own Z n0 h0 ws vm T' h' (cells + 1) (slots + cap) ∧ Ext h h' ∧ h0.size ≤ a ∧ h.size ≤ a ∧ (∀ x, x < h.size → x ≠ a) ∧ Arv Z h' a cA (newarray.typeOf aty) n [] (defaultValue (newarray.typeOf aty)) ∧ Go p e below (T.setTop (mkF m pc Ls (.int n :: rest))) (T'.setTop (mkF m (pc + 2) Ls (.ref a :: rest))) := by
  obtain ⟨T', h', K', E, g, cA, A, st⟩ := K.made (P := fun T' h' => ∃ cA, Arr Z h' h.size (newA cA (newarray.typeOf aty) n) (newarray.typeOf aty) ∧ Go p e below (T.setTop (mkF m pc Ls (.int n :: rest))) (T'.setTop (mkF m (pc + 2) Ls (.ref h.size :: rest))))
    fun _ _ X hx hZ ho e1 => by
      obtain ⟨T', h', cA, X', e', E, A, st⟩ := RoadKit.newP X hx hZ w e1 (g := mkF m pc Ls (.int n :: rest)) rfl hd rfl hn hcap hb hc hl
      exact ⟨T', h', X', e', E, cA, A, st⟩
  exact ⟨T', h', h.size, cA, K', E, g, Nat.le_refl _, fun x q => Nat.ne_of_lt q, Arv.new A hn, st⟩
theorem Wk.newR (K : Wk wd p l e R s m args below meth c own Z n0 h0 ws vm T h cells slots) {C : String} {index : Nat} (w1 : (Cond.classLink own index C).before a0 Z = true) (w2 : (Cond.arrayOver (.object C)).before a0 Z = true) {n : Int32} {pc : Nat} {Ls : Array Slot} {rest : List Value} (hd : decode c.code pc = .ok (.anewarray index, 3)) (cap : Nat) (hn : ¬ n < 0) (hcap : n.toNatClampNeg ≤ cap) (hb : cap * 8 ≤ 536870912) (hc : cells + 1 ≤ R.cells) (hl : slots + cap ≤ R.slots) {ad : String} (had : "[" ++ (FieldType.object C).toString = ad) :
    ∃ T' h' a cA, Wk wd p l e R s m args below meth c own Z n0 h0 ws vm T' h' (cells + 1) (slots + cap) ∧ Ext h h' ∧ h0.size ≤ a ∧ h.size ≤ a ∧ (∀ x, x < h.size → x ≠ a) ∧ Arv Z h' a cA (.object C) n [] .null ∧ Exa Z h' a ad ∧ Ovr Z cA C ∧ Go p e below (T.setTop (mkF m pc Ls (.int n :: rest))) (T'.setTop (mkF m (pc + 3) Ls (.ref a :: rest))) := by
  obtain ⟨T', h', K', E, g, cA, A, Ea, O, st⟩ := K.made (P := fun T' h' => ∃ cA, Arr Z h' h.size (newA cA (.object C) n) (.object C) ∧ Exa Z h' h.size ad ∧ Ovr Z cA C ∧ Go p e below (T.setTop (mkF m pc Ls (.int n :: rest))) (T'.setTop (mkF m (pc + 3) Ls (.ref h.size :: rest))))
    fun _ _ X hx hZ ho e1 => by
      obtain ⟨T', h', cA, X', e', E, A, Ea, O, st⟩ := RoadKit.newRE X hx hZ ho w1 w2 e1 (g := mkF m pc Ls (.int n :: rest)) rfl hd rfl hn hcap hb hc hl had
      exact ⟨T', h', X', e', E, cA, A, Ea, O, st⟩
  exact ⟨T', h', h.size, cA, K', E, g, Nat.le_refl _, fun x q => Nat.ne_of_lt q, Arv.new A hn, Ea, O, st⟩
theorem Wk.newRA (K : Wk wd p l e R s m args below meth c own Z n0 h0 ws vm T h cells slots) {C : String} {ty : FieldType} {index : Nat} (hC : (FieldType.array ty).toString = C) (w1 : (Cond.classLink own index C).before a0 Z = true) (w2 : (Cond.arrayOver (.array ty)).before a0 Z = true) {n : Int32} {pc : Nat} {Ls : Array Slot} {rest : List Value} (hd : decode c.code pc = .ok (.anewarray index, 3)) (cap : Nat) (hn : ¬ n < 0) (hcap : n.toNatClampNeg ≤ cap) (hb : cap * 8 ≤ 536870912) (hc : cells + 1 ≤ R.cells) (hl : slots + cap ≤ R.slots) {ad : String} (had : "[" ++ C = ad) :
    ∃ T' h' a cA, Wk wd p l e R s m args below meth c own Z n0 h0 ws vm T' h' (cells + 1) (slots + cap) ∧ Ext h h' ∧ h0.size ≤ a ∧ h.size ≤ a ∧ (∀ x, x < h.size → x ≠ a) ∧ Arv Z h' a cA (.array ty) n [] .null ∧ Exa Z h' a ad ∧ OvrA Z cA ty C ∧ Go p e below (T.setTop (mkF m pc Ls (.int n :: rest))) (T'.setTop (mkF m (pc + 3) Ls (.ref a :: rest))) := by
  obtain ⟨T', h', K', E, g, cA, A, Ea, O, st⟩ := K.made (P := fun T' h' => ∃ cA, Arr Z h' h.size (newA cA (.array ty) n) (.array ty) ∧ Exa Z h' h.size ad ∧ OvrA Z cA ty C ∧ Go p e below (T.setTop (mkF m pc Ls (.int n :: rest))) (T'.setTop (mkF m (pc + 3) Ls (.ref h.size :: rest))))
    fun _ _ X hx hZ ho e1 => by
      obtain ⟨T', h', cA, X', e', E, A, Ea, O, st⟩ := RoadKit.newRA X hx hZ ho hC w1 w2 e1 (g := mkF m pc Ls (.int n :: rest)) rfl hd rfl hn hcap hb hc hl had
      exact ⟨T', h', X', e', E, cA, A, Ea, O, st⟩
  exact ⟨T', h', h.size, cA, K', E, g, Nat.le_refl _, fun x q => Nat.ne_of_lt q, Arv.new A hn, Ea, O, st⟩
/-- stores into an array whose components are all known -/
theorem Wk.stC (K : Wk wd p l e R s m args below meth c own Z n0 h0 ws vm T h cells slots) {a : Addr} {cA : ClassId} {z : Int32} {vs : List Value} {dv : Value} (F : Arv Z h a cA .char z vs dv) {j x : Int32} (hj : ¬ j < 0 ∧ j < z) (i : Nat) (hi : j.toNatClampNeg = i) (hl : i < vs.length) (q : a ∈ ws ∨ h0.size ≤ a) {pc : Nat} {Ls : Array Slot} {rest : List Value} (hd : decode c.code pc = .ok (.castore, 1)) :
    ∃ T' h', Wk wd p l e R s m args below meth c own Z n0 h0 ws vm T' h' cells slots ∧ Wr h h' a j.toNatClampNeg (.int (nar .char x)) ∧ Arv Z h' a cA .char z (vs.set i (.int (nar .char x))) dv ∧ Go p e below (T.setTop (mkF m pc Ls (.int x :: .int j :: .ref a :: rest))) (T'.setTop (mkF m (pc + 1) Ls rest)) := by
  obtain ⟨cl, A, q1, S, q3, H, G⟩ := F
  obtain ⟨T', h', K', W, st⟩ := K.wrote q (P := fun T' h' => Go p e below (T.setTop (mkF m pc Ls (.int x :: .int j :: .ref a :: rest))) (T'.setTop (mkF m (pc + 1) Ls rest))) fun _ _ X hx hZ ho e1 => RoadKit.stC X hx hZ e1 A (inb_of S hj) (g := mkF m pc Ls (.int x :: .int j :: .ref a :: rest)) rfl rfl hd
  exact ⟨T', h', K', W, Arv.set A q1 S q3 H G (fits_nar_char x) W i hi hl, st⟩
theorem Wk.stB (K : Wk wd p l e R s m args below meth c own Z n0 h0 ws vm T h cells slots) {a : Addr} {cA : ClassId} {z : Int32} {vs : List Value} {dv : Value} (F : Arv Z h a cA .byte z vs dv) {j x : Int32} (hj : ¬ j < 0 ∧ j < z) (i : Nat) (hi : j.toNatClampNeg = i) (hl : i < vs.length) (q : a ∈ ws ∨ h0.size ≤ a) {pc : Nat} {Ls : Array Slot} {rest : List Value} (hd : decode c.code pc = .ok (.bastore, 1)) :
    ∃ T' h', Wk wd p l e R s m args below meth c own Z n0 h0 ws vm T' h' cells slots ∧ Wr h h' a j.toNatClampNeg (.int (nar .byte x)) ∧ Arv Z h' a cA .byte z (vs.set i (.int (nar .byte x))) dv ∧ Go p e below (T.setTop (mkF m pc Ls (.int x :: .int j :: .ref a :: rest))) (T'.setTop (mkF m (pc + 1) Ls rest)) := by
  obtain ⟨cl, A, q1, S, q3, H, G⟩ := F
  obtain ⟨T', h', K', W, st⟩ := K.wrote q (P := fun T' h' => Go p e below (T.setTop (mkF m pc Ls (.int x :: .int j :: .ref a :: rest))) (T'.setTop (mkF m (pc + 1) Ls rest))) fun _ _ X hx hZ ho e1 => RoadKit.stB X hx hZ e1 A (inb_of S hj) (g := mkF m pc Ls (.int x :: .int j :: .ref a :: rest)) rfl rfl hd
  exact ⟨T', h', K', W, Arv.set A q1 S q3 H G (fits_nar_byte x) W i hi hl, st⟩
theorem Wk.stI (K : Wk wd p l e R s m args below meth c own Z n0 h0 ws vm T h cells slots) {a : Addr} {cA : ClassId} {z : Int32} {vs : List Value} {dv : Value} (F : Arv Z h a cA .int z vs dv) {j x : Int32} (hj : ¬ j < 0 ∧ j < z) (i : Nat) (hi : j.toNatClampNeg = i) (hl : i < vs.length) (q : a ∈ ws ∨ h0.size ≤ a) {pc : Nat} {Ls : Array Slot} {rest : List Value} (hd : decode c.code pc = .ok (.iastore, 1)) :
    ∃ T' h', Wk wd p l e R s m args below meth c own Z n0 h0 ws vm T' h' cells slots ∧ Wr h h' a j.toNatClampNeg (.int x) ∧ Arv Z h' a cA .int z (vs.set i (.int x)) dv ∧ Go p e below (T.setTop (mkF m pc Ls (.int x :: .int j :: .ref a :: rest))) (T'.setTop (mkF m (pc + 1) Ls rest)) := by
  obtain ⟨cl, A, q1, S, q3, H, G⟩ := F
  obtain ⟨T', h', K', W, st⟩ := K.wrote q (P := fun T' h' => Go p e below (T.setTop (mkF m pc Ls (.int x :: .int j :: .ref a :: rest))) (T'.setTop (mkF m (pc + 1) Ls rest))) fun _ _ X hx hZ ho e1 => RoadKit.stI X hx hZ e1 A (inb_of S hj) (g := mkF m pc Ls (.int x :: .int j :: .ref a :: rest)) rfl rfl hd
  exact ⟨T', h', K', W, Arv.set A q1 S q3 H G rfl W i hi hl, st⟩
theorem Wk.stR (K : Wk wd p l e R s m args below meth c own Z n0 h0 ws vm T h cells slots) {a : Addr} {cA : ClassId} {ty : FieldType} {z : Int32} {vs : List Value} {dv : Value} (F : Arv Z h a cA ty z vs dv) (hty : ty.isReference = true) {j : Int32} {v : Value} (hv : fits ty v = true) (Sv : Sto Z h a v) (hj : ¬ j < 0 ∧ j < z) (i : Nat) (hi : j.toNatClampNeg = i) (hl : i < vs.length) (q : a ∈ ws ∨ h0.size ≤ a) {pc : Nat} {Ls : Array Slot} {rest : List Value} (hd : decode c.code pc = .ok (.aastore, 1)) :
    ∃ T' h', Wk wd p l e R s m args below meth c own Z n0 h0 ws vm T' h' cells slots ∧ Wr h h' a j.toNatClampNeg v ∧ Arv Z h' a cA ty z (vs.set i v) dv ∧ Go p e below (T.setTop (mkF m pc Ls (v :: .int j :: .ref a :: rest))) (T'.setTop (mkF m (pc + 1) Ls rest)) := by
  obtain ⟨cl, A, q1, S, q3, H, G⟩ := F
  obtain ⟨T', h', K', W, st⟩ := K.wrote q (P := fun T' h' => Go p e below (T.setTop (mkF m pc Ls (v :: .int j :: .ref a :: rest))) (T'.setTop (mkF m (pc + 1) Ls rest))) fun _ _ X hx hZ ho e1 => RoadKit.stR X hx hZ e1 A (inb_of S hj) hty Sv (g := mkF m pc Ls (v :: .int j :: .ref a :: rest)) rfl rfl hd
  exact ⟨T', h', K', W, Arv.set A q1 S q3 H G hv W i hi hl, st⟩
theorem Wk.len (K : Wk wd p l e R s m args below meth c own Z n0 h0 ws vm T h cells slots) {a : Addr} {cA : ClassId} {ty : FieldType} {z : Int32} {vs : List Value} {dv : Value} (F : Arv Z h a cA ty z vs dv) {pc : Nat} {Ls : Array Slot} {rest : List Value} (hd : decode c.code pc = .ok (.arraylength, 1)) :
    Go p e below (T.setTop (mkF m pc Ls (.ref a :: rest))) (T.setTop (mkF m (pc + 1) Ls (.int z :: rest))) := by
  obtain ⟨cl, A, q1, S, q3, H, G⟩ := F
  exact K.stand fun _ _ X hx hZ ho e1 t k => X.arraylength hx (by rw [e1]; exact A.1) (State.isArrayOf_alike hZ.alike A.2.1) (g := mkF m pc Ls (.ref a :: rest)) rfl rfl hd t (by rw [len_of S q3]; exact k)
theorem Wk.ldC (K : Wk wd p l e R s m args below meth c own Z n0 h0 ws vm T h cells slots) {a : Addr} {cA : ClassId} {z : Int32} {vs : List Value} {dv v : Value} (F : Arv Z h a cA .char z vs dv) {j : Int32} (hj : ¬ j < 0 ∧ j < z) (hv : vs.getD j.toNatClampNeg dv = v) {pc : Nat} {Ls : Array Slot} {rest : List Value} (hd : decode c.code pc = .ok (.caload, 1)) :
    Go p e below (T.setTop (mkF m pc Ls (.int j :: .ref a :: rest))) (T.setTop (mkF m (pc + 1) Ls (v :: rest))) := by
  obtain ⟨cl, A, q1, S, q3, H, G⟩ := F
  exact K.stand fun _ _ X hx hZ ho e1 t k => X.caload hx (by rw [e1]; exact A.1) (State.isArrayOf_alike hZ.alike A.2.1) A.2.2 (inb_of S hj) (Has.at H (inb_of S hj) hv) (g := mkF m pc Ls (.int j :: .ref a :: rest)) rfl rfl hd t k
theorem Wk.ldB (K : Wk wd p l e R s m args below meth c own Z n0 h0 ws vm T h cells slots) {a : Addr} {cA : ClassId} {z : Int32} {vs : List Value} {dv v : Value} (F : Arv Z h a cA .byte z vs dv) {j : Int32} (hj : ¬ j < 0 ∧ j < z) (hv : vs.getD j.toNatClampNeg dv = v) {pc : Nat} {Ls : Array Slot} {rest : List Value} (hd : decode c.code pc = .ok (.baload, 1)) :
    Go p e below (T.setTop (mkF m pc Ls (.int j :: .ref a :: rest))) (T.setTop (mkF m (pc + 1) Ls (v :: rest))) := by
  obtain ⟨cl, A, q1, S, q3, H, G⟩ := F
  exact K.stand fun _ _ X hx hZ ho e1 t k => X.baloadBytes hx (by rw [e1]; exact A.1) (State.isArrayOf_alike hZ.alike A.2.1) A.2.2 (inb_of S hj) (Has.at H (inb_of S hj) hv) (g := mkF m pc Ls (.int j :: .ref a :: rest)) rfl rfl hd t k
theorem Wk.ldI (K : Wk wd p l e R s m args below meth c own Z n0 h0 ws vm T h cells slots) {a : Addr} {cA : ClassId} {z : Int32} {vs : List Value} {dv v : Value} (F : Arv Z h a cA .int z vs dv) {j : Int32} (hj : ¬ j < 0 ∧ j < z) (hv : vs.getD j.toNatClampNeg dv = v) {pc : Nat} {Ls : Array Slot} {rest : List Value} (hd : decode c.code pc = .ok (.iaload, 1)) :
    Go p e below (T.setTop (mkF m pc Ls (.int j :: .ref a :: rest))) (T.setTop (mkF m (pc + 1) Ls (v :: rest))) := by
  obtain ⟨cl, A, q1, S, q3, H, G⟩ := F
  exact K.stand fun _ _ X hx hZ ho e1 t k => X.iaload hx (by rw [e1]; exact A.1) (State.isArrayOf_alike hZ.alike A.2.1) A.2.2 (inb_of S hj) (Has.at H (inb_of S hj) hv) (g := mkF m pc Ls (.int j :: .ref a :: rest)) rfl rfl hd t k
theorem Wk.ldR (K : Wk wd p l e R s m args below meth c own Z n0 h0 ws vm T h cells slots) {a : Addr} {cA : ClassId} {ty : FieldType} {z : Int32} {vs : List Value} {dv v : Value} (F : Arv Z h a cA ty z vs dv) (hty : ty.isReference = true) {j : Int32} (hj : ¬ j < 0 ∧ j < z) (hv : vs.getD j.toNatClampNeg dv = v) {pc : Nat} {Ls : Array Slot} {rest : List Value} (hd : decode c.code pc = .ok (.aaload, 1)) :
    Go p e below (T.setTop (mkF m pc Ls (.int j :: .ref a :: rest))) (T.setTop (mkF m (pc + 1) Ls (v :: rest))) := by
  obtain ⟨cl, A, q1, S, q3, H, G⟩ := F
  exact K.stand fun _ _ X hx hZ ho e1 t k => X.aaload hx (by rw [e1]; exact A.1) (State.isArrayOf_alike hZ.alike A.2.1) hty A.2.2 (inb_of S hj) (Has.at H (inb_of S hj) hv) (g := mkF m pc Ls (.int j :: .ref a :: rest)) rfl rfl hd t k
theorem Wk.ldcI (K : Wk wd p l e R s m args below meth c own Z n0 h0 ws vm T h cells slots) {index : Nat} {v : Int32} (w : (Cond.constant own index v).before a0 Z = true) {pc : Nat} {Ls : Array Slot} {rest : List Value} (hd : decode c.code pc = .ok (.ldc index, 2)) :
    Go p e below (T.setTop (mkF m pc Ls rest)) (T.setTop (mkF m (pc + 2) Ls (.int v :: rest))) :=
  K.stand fun _ _ X hx hZ ho e1 t k => X.ldcI hx ho (mvT hZ w) (g := mkF m pc Ls rest) rfl hd k
/-- what is said of the tables stays true of warmer ones -/
def VCl (V : Vm → Prop) : Prop := ∀ (s : State) (vm' : Vm), V s.vm → s.WarmedH vm' → V vm'
def VT : Vm → Prop := fun _ => True
theorem VT.cl : VCl VT := fun _ _ _ _ => trivial
/-- what pays a call: of either width; V: what must be known of the tables -/
def Pay (wd : Bool) (l : Launch) (R : Room) (p : Program) (e : Env) (below : List Frame) (args : Array Value) (y : MethodName) (len W : Nat) (Z : State) (h : Heap) (V : Vm → Prop) (as' : Array Value) (kc ks : Nat) (ws' : List Addr) (Q : Option Value → Heap → Vm → Prop) : Prop :=
  ∀ s' : State, Z.Warmed39 s'.vm → V s'.vm → (match wd with
    | false => Back l R p e below s' args y len W (fun A a => a = as' ∧ A.U.heap = h ∧ A.cells + kc ≤ R.cells ∧ A.slots + ks ≤ R.slots) (fun A _ v B => ∃ L, (Q v B.U.heap B.U.vm ∧ Keep h B.U.heap ws' ∧ FrW ws' h.size L) ∧ B.locs = A.locs ++ L ∧ B.cells = A.cells + kc ∧ B.slots = A.slots + ks)
    | true => BackS l R p e below s' args y len W (fun A a => a = as' ∧ A.U.heap = h ∧ A.cells + kc ≤ R.cells ∧ A.slots + ks ≤ R.slots) (fun A _ v B => ∃ L, (Q v B.U.heap B.U.vm ∧ Keep h B.U.heap ws' ∧ FrW ws' h.size L) ∧ B.locs = A.locs ++ L ∧ B.cells = A.cells + kc ∧ B.slots = A.slots + ks))
theorem Pay.ofBack {y : MethodName} {len W : Nat} {as' : Array Value} {kc ks : Nat} {ws' : List Addr} {V : Vm → Prop} {Q : Option Value → Heap → Vm → Prop} {Q0 : Option Value → Heap → List Loc → Prop}
    (f : ∀ s' : State, Z.Warmed39 s'.vm → Back l R p e below s' args y len W (fun A a => a = as' ∧ A.U.heap = h ∧ A.cells + kc ≤ R.cells ∧ A.slots + ks ≤ R.slots) (fun A _ v B => ∃ L, Q0 v B.U.heap L ∧ B.locs = A.locs ++ L ∧ B.cells = A.cells + kc ∧ B.slots = A.slots + ks))
    (hV : VCl V) (g : ∀ v h' vm' L, Q0 v h' L → V vm' → Q v h' vm' ∧ Keep h h' ws' ∧ FrW ws' h.size L) : Pay wd l R p e below args y len W Z h V as' kc ks ws' Q := by
  intro s' hZ hv
  have b : Back l R p e below s' args y len W (fun A a => a = as' ∧ A.U.heap = h ∧ A.cells + kc ≤ R.cells ∧ A.slots + ks ≤ R.slots) (fun A _ v B => A.U.heap = h ∧ ∃ L, (Q v B.U.heap B.U.vm ∧ Keep h B.U.heap ws' ∧ FrW ws' h.size L) ∧ B.locs = A.locs ++ L ∧ B.cells = A.cells + kc ∧ B.slots = A.slots + ks) := by
    intro m meth c A gg ig mk a X hg hsize hdg hW hn hp
    obtain ⟨v, B, X', ⟨L, q, r⟩, hst⟩ := f s' hZ m meth c A gg ig mk a X hg hsize hdg hW hn hp
    exact ⟨v, B, X', ⟨hp.2.1, L, g _ _ _ _ q (hV _ _ hv X'.warmed), r⟩, hst⟩
  cases wd
  · exact Back.mono b (fun A a hp => hp) (fun A a v B hp q => q.2)
  · have b' := BackS.of_back b (fun A a v B ⟨q, L, ⟨_, k, _⟩, _⟩ => by rw [q]; exact k.1)
    intro m meth c A gg ig mk a X hg hsize hdg hW hn hp
    obtain ⟨v, B, X', hS, hgr, hpost, hst⟩ := b' m meth c A gg ig mk a X hg hsize hdg hW hn hp
    exact ⟨v, B, X', hS, hgr, hpost.2, hst⟩
/-- a method's contract -/
def Ctr (wd : Bool) (l : Launch) (y : MethodName) (bytes : ByteArray) (maxL : Nat) (ret : Option FieldType) (rm : Room) (as' : Array Value) (Z : State) (h0 : Heap) (V : Vm → Prop) (ws : List Addr) (Q : Option Value → Heap → Vm → Prop) : Prop :=
  ∀ wds : List Jvm.Cond, MetFree l y (head1 (Cond.code y bytes maxL ret :: wds) rm) (fun a U => a = as' ∧ Z.Warmed39 U.vm ∧ U.heap = h0 ∧ V U.vm) (fun _ _ _ _ _ => True)
    (fun _ U o U' => ∃ v L, o = .returned v ∧ (Q v U'.heap U'.vm ∧ Keep h0 U'.heap ws ∧ FrW ws h0.size L) ∧ (match wd with | false => FrameEnd U o U' L rm.cells rm.slots | true => ReturnedEndW U o U' L rm.cells rm.slots))
theorem Ctr.pay {y : MethodName} {bytes : ByteArray} {maxL : Nat} {ret : Option FieldType} {rm : Room} {as' : Array Value} {ws' : List Addr} {V : Vm → Prop} {Q : Option Value → Heap → Vm → Prop} {len W : Nat} (H : Ctr wd l y bytes maxL ret rm as' Z h V ws' Q) (hV : VCl V)
    (wc : (Cond.code y bytes maxL ret).before a0 Z = true) (wz : (Cond.initialized y.cls).before a0 Z = true) (hf : rm.frames + 1 ≤ R.frames) (hl : W + (maxL + 11) + rm.locals ≤ R.locals) :
    Pay wd l R p e below args y len W Z h V as' rm.cells rm.slots ws' Q := by
  intro s' hZ hv
  have wa : ∀ (m : MethodId) (meth : Method) (c : Code) (A : Pt) (a : Array Value), Stand p l e R s' m args below meth c A.U A.locs A.cells A.slots → (a = as' ∧ A.U.heap = h ∧ A.cells + rm.cells ≤ R.cells ∧ A.slots + rm.slots ≤ R.slots) →
      (head1 [Cond.code y bytes maxL ret] rm).pre.before a A.U = true ∧ (Cond.code y bytes maxL ret).before a A.U = true ∧ (Cond.initialized y.cls).before a A.U = true ∧ A.cells + rm.cells ≤ R.cells ∧ A.slots + rm.slots ≤ R.slots := fun m meth c A a Y hp => by
    have hU : Z.Warmed39 A.U.vm := wtrans hZ Y.warmed
    exact ⟨by show (Cond.and _ .tt).before a A.U = true; rw [Cond.before_and, mv hU wc]; rfl, mv hU wc, mv hU wz, hp.2.2.1, hp.2.2.2⟩
  cases wd
  · exact Back.of_free (bytes := bytes) (maxL := maxL) (ret := ret) (E := fun _ _ o t L k n => k = rm.cells ∧ n = rm.slots ∧ ∃ v, o = .returned v ∧ (Q v t.heap t.vm ∧ Keep h t.heap ws' ∧ FrW ws' h.size L)) (H []) hf hl wa
      (fun m meth c A a g mk Y hp => ⟨hp.1, wtrans hZ Y.warmed, hp.2.1, hV _ _ hv Y.warmed⟩) (fun _ _ _ _ _ _ _ _ _ => trivial)
      (fun _ _ _ _ ⟨v, L, h1, h2, h3⟩ => ⟨L, _, _, h3, rfl, rfl, v, h1, h2⟩)
      (fun m meth c A a g mk v t L k n Y hp _ _ ⟨e1, e2, v', e3, e4⟩ => by cases e3; subst e1 e2; exact ⟨L, e4, rfl, rfl, rfl⟩)
  · exact BackS.of_freeW (bytes := bytes) (maxL := maxL) (ret := ret) (E := fun _ _ o t L k n => k = rm.cells ∧ n = rm.slots ∧ ∃ v, o = .returned v ∧ (Q v t.heap t.vm ∧ Keep h t.heap ws' ∧ FrW ws' h.size L)) (H []) hf hl wa
      (fun m meth c A a g mk Y hp => ⟨hp.1, wtrans hZ Y.warmed, hp.2.1, hV _ _ hv Y.warmed⟩) (fun _ _ _ _ _ _ _ _ _ => trivial)
      (fun _ _ _ _ ⟨v, L, h1, h2, h3⟩ => ⟨L, _, _, h3, rfl, rfl, v, h1, h2⟩)
      (fun m meth c A a g mk v t L k n Y hp _ _ ⟨e1, e2, v', e3, e4⟩ => by cases e3; subst e1 e2; exact ⟨L, e4, rfl, rfl, rfl⟩)
/-- a contract of a method that interns nothing pays in either width, and what is known of the tables stays -/
theorem Ctr.payW {wd' : Bool} {y : MethodName} {bytes : ByteArray} {maxL : Nat} {ret : Option FieldType} {rm : Room} {as' : Array Value} {ws' : List Addr} {V : Vm → Prop} {Q' : Option Value → Heap → Prop} {len W : Nat} (H : Ctr false l y bytes maxL ret rm as' Z h VT ws' (fun v h _ => Q' v h)) (hV : VCl V)
    (wc : (Cond.code y bytes maxL ret).before a0 Z = true) (wz : (Cond.initialized y.cls).before a0 Z = true) (hf : rm.frames + 1 ≤ R.frames) (hl : W + (maxL + 11) + rm.locals ≤ R.locals) :
    Pay wd' l R p e below args y len W Z h V as' rm.cells rm.slots ws' (fun v h vm => Q' v h ∧ V vm) :=
  Pay.ofBack (Q0 := fun v h' L => Q' v h' ∧ Keep h h' ws' ∧ FrW ws' h.size L) (fun s' hZ => Ctr.pay (wd := false) (V := VT) H VT.cl wc wz hf hl s' hZ trivial) hV (fun v h' vm' L q hv => ⟨⟨q.1, hv⟩, q.2⟩)
theorem Wk.behind (K : Wk wd p l e R s m args below meth c own Z n0 h0 ws vm T h cells slots) {kc ks : Nat} {ws' : List Addr} (q : ∀ x ∈ ws', x ∈ ws ∨ h0.size ≤ x) {P : State → Heap → Vm → Prop}
    (fN : wd = false → ∀ (locs : List Loc) (s' : State), s'.vm = vm → Stand p l e R s' m args below meth c T locs cells slots → Z.Warmed39 s'.vm → s'.vm.findClass own = some m.cls → ∃ T' L, Stand p l e R s' m args below meth c T' (locs ++ L) (cells + kc) (slots + ks) ∧ FrW ws' h.size L ∧ Keep h T'.heap ws' ∧ P T' T'.heap T'.vm)
    (fW : wd = true → ∀ (locs : List Loc) (s' : State), s'.vm = vm → Stand p l e R s' m args below meth c T locs cells slots → Z.Warmed39 s'.vm → s'.vm.findClass own = some m.cls → ∃ T' L, Stand p l e R (s'.setVm T'.vm) m args below meth c T' (locs ++ L) (cells + kc) (slots + ks) ∧ s'.Since T'.vm T'.heap.size ∧ T.heap.size ≤ T'.heap.size ∧ FrW ws' h.size L ∧ Keep h T'.heap ws' ∧ P T' T'.heap T'.vm) :
    ∃ vm' vq T' h', Wk wd p l e R s m args below meth c own Z n0 h0 ws vm' T' h' (cells + kc) (slots + ks) ∧ Keep h h' ws' ∧ (wd = true → vq = vm' ∧ (s.setVm vm).Warmed39 vm') ∧ P T' h' vq := by
  have fr := fun x hx => K.fresh (q x hx)
  obtain ⟨e1, hx, O, hn, hw, Kp, hs0, hZ, ho, hv, locs, k, F, X, S, hk⟩ := K
  have fw : ∀ L, FrW ws' h.size L → FrW ws h0.size L := fun L N y hy => (N y hy).elim (q _) fun u => Or.inr (Nat.le_trans Kp.1 u)
  cases wd
  · obtain ⟨T', L, X', FL, KK, u⟩ := fN rfl locs (s.setVm vm) rfl X hZ ho
    exact ⟨vm, T'.vm, T', _, ⟨rfl, hx, O.keep KK fr, hn, hw, Kp.trans KK q, hs0, hZ, ho, hv, _, k, F.app (fw _ FL), X', S, Nat.le_trans hk KK.1⟩, KK, (fun e => by cases e), u⟩
  · obtain ⟨T', L, X', S', gr, FL, KK, u⟩ := fW rfl locs (s.setVm vm) rfl X hZ ho
    refine ⟨T'.vm, T'.vm, T', _, ⟨rfl, hx, O.keep KK fr, hn, hw, Kp.trans KK q, hs0, State.Warmed39.trans (t := s.setVm vm) hZ S'.1, (S'.1.alike.findClass _ _).trans ho, (fun e => by cases e), _, _, F.app (fw _ FL), X', S.trans S' (Nat.le_trans hk ?_), Nat.le_refl _⟩, KK, fun _ => ⟨rfl, S'.1⟩, u⟩
    rw [← e1]; exact gr
theorem Wk.callS (K : Wk wd p l e R s m args below meth c own Z n0 h0 ws vm T h cells slots) {index : Nat} {y : MethodName} {bytes : ByteArray} {maxL : Nat} {ret : Option FieldType} (w1 : (Cond.methodLink own index y).before a0 Z = true) (w2 : (Cond.static y).before a0 Z = true) (w3 : (Cond.initialized y.cls).before a0 Z = true) (w4 : (Cond.code y bytes maxL ret).before a0 Z = true) (hy : y.cls ≠ "java/lang/invoke/MethodHandle" ∧ y.cls ≠ "java/lang/invoke/VarHandle") {W kc ks : Nat} {ws' : List Addr} {V : Vm → Prop} {Q : Option Value → Heap → Vm → Prop} {argsL rest : List Value} (P : Pay wd l R p e below args y 3 W Z h V argsL.toArray kc ks ws' Q) (hV : V vm)
    {pc : Nat} {Ls : Array Slot} {st : List Value} (hsz : Ls.size = c.maxLocals) (hlen : ∀ sig, parseMethodDescriptor y.desc = some sig → argsL.length = sig.parameters.length) (hstack : st = argsL.reverse ++ rest) (hW : (rest.map fun v => v.category).sum ≤ W) (hd : decode c.code pc = .ok (.invokestatic index, 3)) (hc : cells + kc ≤ R.cells) (hl : slots + ks ≤ R.slots) (q : ∀ x ∈ ws', x ∈ ws ∨ h0.size ≤ x) :
    ∃ v vm' vq T' h', Wk wd p l e R s m args below meth c own Z n0 h0 ws vm' T' h' (cells + kc) (slots + ks) ∧ Keep h h' ws' ∧ (wd = true → vq = vm' ∧ (s.setVm vm).Warmed39 vm') ∧ Q v h' vq ∧ Go p e below (T.setTop (mkF m pc Ls st)) (T'.setTop (mkF m (pc + 3) Ls (v.toList ++ rest))) := by
  have e1 := K.1
  have hx := K.2.1
  obtain ⟨vm', vq, T', h', K', KK, ev, v, hq, go⟩ := K.behind (kc := kc) (ks := ks) q (P := fun T' h' vq => ∃ v, Q v h' vq ∧ Go p e below (T.setTop (mkF m pc Ls st)) (T'.setTop (mkF m (pc + 3) Ls (v.toList ++ rest))))
    (fun hwd locs s' es X hZ ho => by
      subst hwd
      have hV' : V s'.vm := by rw [es]; exact hV
      obtain ⟨v, vm₁, ⟨T', L', k', n'⟩, -, X', ⟨L, ⟨hq, kk, fr⟩, l1, l2, l3⟩, st⟩ := Jvm.LawKit.callS X hx ho (mvT hZ w1) (mvT hZ w2) (mvT hZ w3) (mvT hZ w4) hy (P s' hZ hV') (g := mkF m pc Ls st) rfl hsz hlen hstack (by show 2 * 0 + _ ≤ _; simpa using hW) hd (fun _ _ => ⟨rfl, e1, hc, hl⟩)
      dsimp only [Pt.U, Pt.locs, Pt.cells, Pt.slots] at *
      subst l1 l2 l3
      exact ⟨T', L, X', fr, kk, v, hq, st⟩)
    (fun hwd locs s' es X hZ ho => by
      subst hwd
      have hV' : V s'.vm := by rw [es]; exact hV
      obtain ⟨v, vm₁, ⟨T', L', k', n'⟩, -, X', S', gr, ⟨L, ⟨hq, kk, fr⟩, l1, l2, l3⟩, st⟩ := RoadKit.callSS X hx ho (mvT hZ w1) (mvT hZ w2) (mvT hZ w3) (mvT hZ w4) hy (P s' hZ hV') (g := mkF m pc Ls st) rfl hsz hlen hstack (by show 2 * 0 + _ ≤ _; simpa using hW) hd (fun _ _ => ⟨rfl, e1, hc, hl⟩)
      dsimp only [Pt.U, Pt.locs, Pt.cells, Pt.slots] at *
      subst l1 l2 l3
      exact ⟨T', L, X', S', gr, fr, kk, v, hq, fun t k => st.trans k⟩)
  exact ⟨v, vm', vq, T', h', K', KK, ev, hq, go⟩
theorem Wk.callI (K : Wk wd p l e R s m args below meth c own Z n0 h0 ws vm T h cells slots) {index : Nat} {y : MethodName} {bytes : ByteArray} {maxL : Nat} (hy1 : y.name = "<init>") (w1 : (Cond.methodLink own index y).before a0 Z = true) (w2 : (Cond.instanceMethod y).before a0 Z = true) (w4 : (Cond.code y bytes maxL none).before a0 Z = true) (hy : y.cls ≠ "java/lang/invoke/MethodHandle" ∧ y.cls ≠ "java/lang/invoke/VarHandle") {W kc ks : Nat} {ws' : List Addr} {V : Vm → Prop} {Q : Option Value → Heap → Vm → Prop} {a : Addr} {argsL rest : List Value} (P : Pay wd l R p e below args y 3 W Z h V (.ref a :: argsL).toArray kc ks ws' Q) (hV : V vm)
    {pc : Nat} {Ls : Array Slot} {st : List Value} (hsz : Ls.size = c.maxLocals) (hlen : ∀ sig, parseMethodDescriptor y.desc = some sig → argsL.length = sig.parameters.length) (hstack : st = argsL.reverse ++ .ref a :: rest) (hW : (rest.map fun v => v.category).sum ≤ W) (hd : decode c.code pc = .ok (.invokespecial index, 3)) (hc : cells + kc ≤ R.cells) (hl : slots + ks ≤ R.slots) (q : ∀ x ∈ ws', x ∈ ws ∨ h0.size ≤ x) :
    ∃ v vm' vq T' h', Wk wd p l e R s m args below meth c own Z n0 h0 ws vm' T' h' (cells + kc) (slots + ks) ∧ Keep h h' ws' ∧ (wd = true → vq = vm' ∧ (s.setVm vm).Warmed39 vm') ∧ Q v h' vq ∧ Go p e below (T.setTop (mkF m pc Ls st)) (T'.setTop (mkF m (pc + 3) Ls (v.toList ++ rest))) := by
  have e1 := K.1
  have hx := K.2.1
  obtain ⟨vm', vq, T', h', K', KK, ev, v, hq, go⟩ := K.behind (kc := kc) (ks := ks) q (P := fun T' h' vq => ∃ v, Q v h' vq ∧ Go p e below (T.setTop (mkF m pc Ls st)) (T'.setTop (mkF m (pc + 3) Ls (v.toList ++ rest))))
    (fun hwd locs s' es X hZ ho => by
      subst hwd
      have hV' : V s'.vm := by rw [es]; exact hV
      obtain ⟨v, vm₁, ⟨T', L', k', n'⟩, -, X', ⟨L, ⟨hq, kk, fr⟩, l1, l2, l3⟩, st⟩ := X.specialBack hx hy1 ho (mvT hZ w1) (mvT hZ w2) (mvT hZ w4) hy (P s' hZ hV') (g := mkF m pc Ls st) rfl hsz (Steps.refl _) hlen hstack (by show 2 * 0 + _ ≤ _; simpa using hW) hd (fun _ _ => ⟨rfl, e1, hc, hl⟩)
      dsimp only [Pt.U, Pt.locs, Pt.cells, Pt.slots] at *
      subst l1 l2 l3
      exact ⟨T', L, X', fr, kk, v, hq, fun t k => st.trans k⟩)
    (fun hwd locs s' es X hZ ho => by
      subst hwd
      have hV' : V s'.vm := by rw [es]; exact hV
      obtain ⟨v, vm₁, ⟨T', L', k', n'⟩, -, X', S', gr, ⟨L, ⟨hq, kk, fr⟩, l1, l2, l3⟩, st⟩ := X.specialBackS hx hy1 ho (mvT hZ w1) (mvT hZ w2) (mvT hZ w4) hy (P s' hZ hV') (g := mkF m pc Ls st) rfl hsz (Steps.refl _) hlen hstack (by show 2 * 0 + _ ≤ _; simpa using hW) hd (fun _ _ => ⟨rfl, e1, hc, hl⟩)
      dsimp only [Pt.U, Pt.locs, Pt.cells, Pt.slots] at *
      subst l1 l2 l3
      exact ⟨T', L, X', S', gr, fr, kk, v, hq, fun t k => st.trans k⟩)
  exact ⟨v, vm', vq, T', h', K', KK, ev, hq, go⟩
theorem Wk.callV (K : Wk wd p l e R s m args below meth c own Z n0 h0 ws vm T h cells slots) {C : String} {index : Nat} {y z : MethodName} (w1 : (Cond.methodLink own index y).before a0 Z = true) (w2 : (Cond.declares y).before a0 Z = true) (w3 : (Cond.selects C y z).before a0 Z = true) (w5 : (∃ S, (Cond.superclass y.cls S).before a0 Z = true) ∨ (Cond.noSuperclass y.cls).before a0 Z = true ∨ y = z) (w4 : (Cond.instanceMethod z).before a0 Z = true) (hy : y.cls ≠ "java/lang/invoke/MethodHandle" ∧ y.cls ≠ "java/lang/invoke/VarHandle") {W kc ks : Nat} {ws' : List Addr} {V : Vm → Prop} {Q : Option Value → Heap → Vm → Prop} {a : Addr} (E : Exa Z h a C) {argsL rest : List Value} (P : Pay wd l R p e below args z 3 W Z h V (.ref a :: argsL).toArray kc ks ws' Q) (hV : V vm)
    {pc : Nat} {Ls : Array Slot} {st : List Value} (hsz : Ls.size = c.maxLocals) (hlen : ∀ sig, parseMethodDescriptor y.desc = some sig → argsL.length = sig.parameters.length) (hstack : st = argsL.reverse ++ .ref a :: rest) (hW : (rest.map fun v => v.category).sum ≤ W) (hd : decode c.code pc = .ok (.invokevirtual index, 3)) (hc : cells + kc ≤ R.cells) (hl : slots + ks ≤ R.slots) (q : ∀ x ∈ ws', x ∈ ws ∨ h0.size ≤ x) :
    ∃ v vm' vq T' h', Wk wd p l e R s m args below meth c own Z n0 h0 ws vm' T' h' (cells + kc) (slots + ks) ∧ Keep h h' ws' ∧ (wd = true → vq = vm' ∧ (s.setVm vm).Warmed39 vm') ∧ Q v h' vq ∧ Go p e below (T.setTop (mkF m pc Ls st)) (T'.setTop (mkF m (pc + 3) Ls (v.toList ++ rest))) := by
  have e1 := K.1
  have hx := K.2.1
  have nf : ∀ s' : State, Z.Warmed39 s'.vm → NotFace s' y := fun s' hZ => by
    rcases w5 with ⟨S, w5⟩ | w5 | rfl
    · exact nf_super (args := #[]) (mvT hZ w5)
    · exact nf_top (args := #[]) (mvT hZ w5)
    · exact notFace_of_selects (args := #[]) (mvT hZ w3)
  obtain ⟨vm', vq, T', h', K', KK, ev, v, hq, go⟩ := K.behind (kc := kc) (ks := ks) q (P := fun T' h' vq => ∃ v, Q v h' vq ∧ Go p e below (T.setTop (mkF m pc Ls st)) (T'.setTop (mkF m (pc + 3) Ls (v.toList ++ rest))))
    (fun hwd locs s' es X hZ ho => by
      subst hwd
      have hV' : V s'.vm := by rw [es]; exact hV
      obtain ⟨cB, kB, i1, i2, i3⟩ := isOf hZ e1 E
      obtain ⟨v, vm₁, ⟨T', L', k', n'⟩, -, X', ⟨L, ⟨hq, kk, fr⟩, l1, l2, l3⟩, st⟩ := X.virtualBack hx ho (mvT hZ w1) (mvT hZ w2) (nf s' hZ) (mvT hZ w3) (mvT hZ w4) hy (P s' hZ hV') i1 i3 (g := mkF m pc Ls st) rfl hsz (Steps.refl _) hlen hstack (by show 2 * 0 + _ ≤ _; simpa using hW) hd (fun _ _ => ⟨rfl, e1, hc, hl⟩)
      dsimp only [Pt.U, Pt.locs, Pt.cells, Pt.slots] at *
      subst l1 l2 l3
      exact ⟨T', L, X', fr, kk, v, hq, fun t k => st.trans k⟩)
    (fun hwd locs s' es X hZ ho => by
      subst hwd
      have hV' : V s'.vm := by rw [es]; exact hV
      obtain ⟨cB, kB, i1, i2, i3⟩ := isOf hZ e1 E
      obtain ⟨v, vm₁, ⟨T', L', k', n'⟩, -, X', S', gr, ⟨L, ⟨hq, kk, fr⟩, l1, l2, l3⟩, st⟩ := X.virtualBackS hx ho (mvT hZ w1) (mvT hZ w2) (nf s' hZ) (mvT hZ w3) (mvT hZ w4) hy (P s' hZ hV') i1 i3 (g := mkF m pc Ls st) rfl hsz (Steps.refl _) hlen hstack (by show 2 * 0 + _ ≤ _; simpa using hW) hd (fun _ _ => ⟨rfl, e1, hc, hl⟩)
      dsimp only [Pt.U, Pt.locs, Pt.cells, Pt.slots] at *
      subst l1 l2 l3
      exact ⟨T', L, X', S', gr, fr, kk, v, hq, fun t k => st.trans k⟩)
  exact ⟨v, vm', vq, T', h', K', KK, ev, hq, go⟩
theorem Wk.callF (K : Wk wd p l e R s m args below meth c own Z n0 h0 ws vm T h cells slots) {C : String} {index count : Nat} {y z : MethodName} (w1 : (Cond.methodLink own index y).before a0 Z = true) (w2 : (Cond.declares y).before a0 Z = true) (w3 : (Cond.interfaceMethod y.cls y.cls y.name y.desc).before a0 Z = true) (hfa : ((Cond.interfaceMethod y.cls y.cls y.name y.desc).onTables && (Cond.interfaceMethod y.cls y.cls y.name y.desc).keepsFace) = true) (w4 : (Cond.selects C y z).before a0 Z = true) (w5 : (Cond.instanceMethod z).before a0 Z = true) (w6 : (Cond.publicMethod z).before a0 Z = true) (w7 : (Cond.unhidden C y.name y.desc).before a0 Z = true) (w8 : (Cond.castable C y.cls).before a0 Z = true) (hy : y.cls ≠ "java/lang/invoke/MethodHandle" ∧ y.cls ≠ "java/lang/invoke/VarHandle") {W kc ks : Nat} {ws' : List Addr} {V : Vm → Prop} {Q : Option Value → Heap → Vm → Prop} {a : Addr} (E : Exa Z h a C) {argsL rest : List Value} (P : Pay wd l R p e below args z 5 W Z h V (.ref a :: argsL).toArray kc ks ws' Q) (hV : V vm)
    {pc : Nat} {Ls : Array Slot} {st : List Value} (hsz : Ls.size = c.maxLocals) (hlen : ∀ sig, parseMethodDescriptor y.desc = some sig → argsL.length = sig.parameters.length) (hstack : st = argsL.reverse ++ .ref a :: rest) (hW : (rest.map fun v => v.category).sum ≤ W) (hd : decode c.code pc = .ok (.invokeinterface index count, 5)) (hc : cells + kc ≤ R.cells) (hl : slots + ks ≤ R.slots) (q : ∀ x ∈ ws', x ∈ ws ∨ h0.size ≤ x) :
    ∃ v vm' vq T' h', Wk wd p l e R s m args below meth c own Z n0 h0 ws vm' T' h' (cells + kc) (slots + ks) ∧ Keep h h' ws' ∧ (wd = true → vq = vm' ∧ (s.setVm vm).Warmed39 vm') ∧ Q v h' vq ∧ Go p e below (T.setTop (mkF m pc Ls st)) (T'.setTop (mkF m (pc + 5) Ls (v.toList ++ rest))) := by
  have e1 := K.1
  have hx := K.2.1
  obtain ⟨vm', vq, T', h', K', KK, ev, v, hq, go⟩ := K.behind (kc := kc) (ks := ks) q (P := fun T' h' vq => ∃ v, Q v h' vq ∧ Go p e below (T.setTop (mkF m pc Ls st)) (T'.setTop (mkF m (pc + 5) Ls (v.toList ++ rest))))
    (fun hwd locs s' es X hZ ho => by
      subst hwd
      have hV' : V s'.vm := by rw [es]; exact hV
      obtain ⟨cB, kB, i1, i2, i3⟩ := isOf hZ e1 E
      obtain ⟨v, vm₁, ⟨T', L', k', n'⟩, -, X', ⟨L, ⟨hq, kk, fr⟩, l1, l2, l3⟩, st⟩ := X.interfaceBack hx ho (mvT hZ w1) (mvT hZ w2) (mvT hZ w3 hfa) (mvT hZ w4) (mvT hZ w5) (mvT hZ w6) (mvT hZ w7) (mvT hZ w8) hy (P s' hZ hV') i1 i2 i3 (g := mkF m pc Ls st) rfl hsz (Steps.refl _) hlen hstack (by show 2 * 0 + _ ≤ _; simpa using hW) hd (fun _ _ => ⟨rfl, e1, hc, hl⟩)
      dsimp only [Pt.U, Pt.locs, Pt.cells, Pt.slots] at *
      subst l1 l2 l3
      exact ⟨T', L, X', fr, kk, v, hq, fun t k => st.trans k⟩)
    (fun hwd locs s' es X hZ ho => by
      subst hwd
      have hV' : V s'.vm := by rw [es]; exact hV
      obtain ⟨cB, kB, i1, i2, i3⟩ := isOf hZ e1 E
      obtain ⟨v, vm₁, ⟨T', L', k', n'⟩, -, X', S', gr, ⟨L, ⟨hq, kk, fr⟩, l1, l2, l3⟩, st⟩ := X.interfaceBackS hx ho (mvT hZ w1) (mvT hZ w2) (mvT hZ w3 hfa) (mvT hZ w4) (mvT hZ w5) (mvT hZ w6) (mvT hZ w7) (mvT hZ w8) hy (P s' hZ hV') i1 i2 i3 (g := mkF m pc Ls st) rfl hsz (Steps.refl _) hlen hstack (by show 2 * 0 + _ ≤ _; simpa using hW) hd (fun _ _ => ⟨rfl, e1, hc, hl⟩)
      dsimp only [Pt.U, Pt.locs, Pt.cells, Pt.slots] at *
      subst l1 l2 l3
      exact ⟨T', L, X', S', gr, fr, kk, v, hq, fun t k => st.trans k⟩)
  exact ⟨v, vm', vq, T', h', K', KK, ev, hq, go⟩
/-- the method's end: T the last state, v what it returns -/
def Ret (p : Program) (e : Env) (below : List Frame) (m : MethodId) (T : State) (v : Option Value) (A : State) : Prop :=
  ∀ fs, (∀ (f : JFrame) (acts : List Action), f.method = m → f.locked = none → f.entered = [] → (doReturn e (T.setTop f) acts v).1 = T.setFrames fs) → Steps p.tables e below A (T.setFrames fs)
theorem Wk.retV (K : Wk wd p l e R s m args below meth c own Z n0 h0 ws vm T h cells slots) {A : State} {pc : Nat} {Ls : Array Slot} (S : Go p e below A (T.setTop (mkF m pc Ls []))) (hret : meth.sig.returnType = none) (hd : decode c.code pc = .ok (.return_, 1)) : Ret p e below m T none A := by
  intro fs hl
  exact K.stand fun _ _ X hx _ _ _ => S _ (X.returnOut hx hret hd hl)
theorem Wk.retW (K : Wk wd p l e R s m args below meth c own Z n0 h0 ws vm T h cells slots) {A : State} {pc : Nat} {Ls : Array Slot} {w : Value} {t : FieldType} {i : Instr} {rest : List Value} (S : Go p e below A (T.setTop (mkF m pc Ls (w :: rest)))) (hret : meth.sig.returnType = some t) (hn : narrow t w = w)
    (hi : (i = .ireturn ∧ (t = .int ∨ t = .boolean ∨ t = .byte ∨ t = .char ∨ t = .short) ∧ ∃ z, w = .int z) ∨ (i = .lreturn ∧ t = .long ∧ ∃ z, w = .long z) ∨ (i = .dreturn ∧ t = .double ∧ ∃ z, w = .double z) ∨ (i = .freturn ∧ t = .float ∧ ∃ z, w = .float z) ∨ (i = .areturn ∧ t.isReference = true ∧ w.isRef = true))
    (hd : decode c.code pc = .ok (i, 1)) : Ret p e below m T (some w) A := by
  intro fs hl
  exact K.stand fun _ _ X hx _ _ _ => S _ (retOut X hx hret hn hi hd hl)
theorem body {y : MethodName} {bytes : ByteArray} {maxL : Nat} {ret : Option FieldType} {rm : Room} {as' : Array Value} {V : Vm → Prop} {Q : Option Value → Heap → Vm → Prop} (hpl : plainFor y = true) (O0 : Old Z n0 h0) (hvr : ∀ v h vm, Q v h vm → ret = none → v = none) (hQ : ∀ v h, VCl (Q v h))
    (H : ∀ (p : Program) (e : Env) (s : State) (m : MethodId) (below : List Frame) (meth : Method) (c : Code) (T0 : State), c.code = bytes → c.maxLocals = maxL → meth.sig.returnType = ret → meth.name = y.name → V s.vm → Wk wd p l e rm s m as' below meth c y.cls Z n0 h0 [] s.vm T0 h0 0 0 →
      ∃ vm T h v cells slots, Wk wd p l e rm s m as' below meth c y.cls Z n0 h0 ws vm T h cells slots ∧ cells ≤ rm.cells ∧ slots ≤ rm.slots ∧ Q v h vm ∧ Ret p e below m T v (T0.setTop (entryFrame m as' maxL))) :
    Ctr wd l y bytes maxL ret rm as' Z h0 V ws Q := by
  intro wds
  refine MetFree.of_bodySF hpl hisR ?_
  intro p e s m args below meth c s₁ Bd hml0 hP hK
  obtain ⟨rfl, hZ, hh, hV0⟩ := hP
  have hown : s.vm.findClass y.cls = some m.cls := findClass_of_methodNamed Bd.named
  have hnm := (name_of_methodNamed Bd.named Bd.method).1
  have X0 : Stand p l e rm (s.setVm s.vm) m args below meth c s₁ [] 0 0 := Stand.of_body Bd
  have e0 : s₁.heap = h0 := by rw [← hh, Bd.state]; rfl
  have nle : n0 ≤ h0.size := by rw [← O0.1]; exact O0.2.1
  obtain ⟨vm, T, h, v, cells, slots, K, c1, c2, hq, rt⟩ := H p e s m below meth c s₁ Bd.bytes hml0 Bd.returns hnm hV0 ⟨e0, Bd.exec, O0, nle, all0, Keep.refl _ _, hh, hZ, hown, fun _ => rfl, [], 0, FrW.nil _ _, X0, (State.WarmedH.refl s).since _, Nat.zero_le _⟩
  have hv : meth.sig.returnType = none → v = none := fun q => hvr v h vm hq (by rw [← Bd.returns]; exact q)
  have hlk := Bd.notSynchronized
  obtain ⟨e1, hx, O, hn, hw, Kp, hs0, hZ', ho, hvm, locs, k, F, X, S, hk⟩ := K
  subst e1
  have hq' := hQ v T.heap (s.setVm vm) T.vm hq X.warmed
  cases wd
  · obtain rfl := hvm rfl
    obtain ⟨fs, hr, hrun, hended, hW, hsame⟩ := X.leave (v := v) hv
    exact ⟨_, _, rt fs hr, hrun, hended, _, _, rfl, ⟨hq', Kp, F⟩, ⟨_, rfl⟩, hW, hsame.mono c1 c2⟩
  · obtain ⟨fs, hr, hrun, hended, hW⟩ := X.leaveW S hk (v := v) hv
    exact ⟨_, _, rt fs hr, hrun, hended, _, _, rfl, ⟨hq', Kp, F⟩, hW.1, hW.2.1, hW.2.2.1, hW.2.2.2.mono c1 c2⟩
end Kit
end Own
end Jvm.Pilot.@@N@@
namespace Jvm.Pilot.@@N@@
open Jvm Jvm.ClassFile Sem Op Lib Jvm.Free Jvm.Stand Jvm.LawKit Jvm.RoadKit Bundle Jvm.Pilot.@@N@@.Jvm.D
namespace Own.P
section Plain
variable {p : Program} {e : Env} {below : List Frame} {T : State} {m : MethodId} {c : Code} {pc : Nat} {Ls : Array Slot} {st : List Value}
theorem aloadN (H : At T m c below) (hx : p.tables.exec = Jvm.exec) {k : Fin 4} {v : Value} (hd : decode c.code pc = .ok (.aload_n k, 1)) (hl : Ls[k.val]? = some (.val v)) (hv : v.isRef = true) : Go p e below (T.setTop (mkF m pc Ls (st))) (T.setTop (mkF m (pc + 1) Ls (v :: st))) := fun t r => XS.aloadN H hx rfl hd hl hv r
theorem aload (H : At T m c below) (hx : p.tables.exec = Jvm.exec) {k : Nat} {v : Value} (hd : decode c.code pc = .ok (.aload k, 2)) (hl : Ls[k]? = some (.val v)) (hv : v.isRef = true) : Go p e below (T.setTop (mkF m pc Ls (st))) (T.setTop (mkF m (pc + 2) Ls (v :: st))) := fun t r => XS.aload H hx rfl hd hl hv r
theorem iloadN (H : At T m c below) (hx : p.tables.exec = Jvm.exec) {k : Fin 4} {v : Int32} (hd : decode c.code pc = .ok (.iload_n k, 1)) (hl : Ls[k.val]? = some (.val (.int v))) : Go p e below (T.setTop (mkF m pc Ls (st))) (T.setTop (mkF m (pc + 1) Ls (.int v :: st))) := fun t r => XS.iloadN H hx rfl hd hl r
theorem iload (H : At T m c below) (hx : p.tables.exec = Jvm.exec) {k : Nat} {v : Int32} (hd : decode c.code pc = .ok (.iload k, 2)) (hl : Ls[k]? = some (.val (.int v))) : Go p e below (T.setTop (mkF m pc Ls (st))) (T.setTop (mkF m (pc + 2) Ls (.int v :: st))) := fun t r => XS.iload H hx rfl hd hl r
theorem lloadN (H : At T m c below) (hx : p.tables.exec = Jvm.exec) {k : Fin 4} {v : Int64} (hd : decode c.code pc = .ok (.lload_n k, 1)) (hl : Ls[k.val]? = some (.val (.long v))) : Go p e below (T.setTop (mkF m pc Ls (st))) (T.setTop (mkF m (pc + 1) Ls (.long v :: st))) := fun t r => XT.lloadN H hx rfl hd hl r
theorem lload (H : At T m c below) (hx : p.tables.exec = Jvm.exec) {k : Nat} {v : Int64} (hd : decode c.code pc = .ok (.lload k, 2)) (hl : Ls[k]? = some (.val (.long v))) : Go p e below (T.setTop (mkF m pc Ls (st))) (T.setTop (mkF m (pc + 2) Ls (.long v :: st))) := fun t r => XT.lload H hx rfl hd hl r
theorem iconst (H : At T m c below) (hx : p.tables.exec = Jvm.exec) {i : Int} (v : Int32) (hd : decode c.code pc = .ok (.iconst i, 1)) (hv : Int32.ofInt i = v) : Go p e below (T.setTop (mkF m pc Ls (st))) (T.setTop (mkF m (pc + 1) Ls (.int v :: st))) := fun t r => XS.iconst H hx rfl hd (by rw [hv]; exact r)
theorem bipush (H : At T m c below) (hx : p.tables.exec = Jvm.exec) {i : Int} (v : Int32) (hd : decode c.code pc = .ok (.bipush i, 2)) (hv : (Int8.ofInt i).toInt32 = v) : Go p e below (T.setTop (mkF m pc Ls (st))) (T.setTop (mkF m (pc + 2) Ls (.int v :: st))) := fun t r => XS.bipush H hx rfl hd (by rw [hv]; exact r)
theorem sipush (H : At T m c below) (hx : p.tables.exec = Jvm.exec) {i : Int} (v : Int32) (hd : decode c.code pc = .ok (.sipush i, 3)) (hv : (Int16.ofInt i).toInt32 = v) : Go p e below (T.setTop (mkF m pc Ls (st))) (T.setTop (mkF m (pc + 3) Ls (.int v :: st))) := fun t r => XS.sipush H hx rfl hd (by rw [hv]; exact r)
theorem lconst (H : At T m c below) (hx : p.tables.exec = Jvm.exec) {k : Fin 2} (v : Int64) (hd : decode c.code pc = .ok (.lconst k, 1)) (hv : Int64.ofNat k = v) : Go p e below (T.setTop (mkF m pc Ls (st))) (T.setTop (mkF m (pc + 1) Ls (.long v :: st))) := fun t r => XT.lconst H hx rfl hd (by rw [hv]; exact r)
theorem null (H : At T m c below) (hx : p.tables.exec = Jvm.exec)  (hd : decode c.code pc = .ok (.aconst_null, 1))  : Go p e below (T.setTop (mkF m pc Ls (st))) (T.setTop (mkF m (pc + 1) Ls (.null :: st))) := fun t r => XS.aconstNull H hx rfl hd r
theorem dup (H : At T m c below) (hx : p.tables.exec = Jvm.exec) {x : Value} (hd : decode c.code pc = .ok (.dup, 1)) (hc : x.category = 1) : Go p e below (T.setTop (mkF m pc Ls (x :: st))) (T.setTop (mkF m (pc + 1) Ls (x :: x :: st))) := fun t r => XS.dup H hx rfl hd rfl hc r
theorem pop (H : At T m c below) (hx : p.tables.exec = Jvm.exec) {x : Value} (hd : decode c.code pc = .ok (.pop, 1)) (hc : x.category = 1) : Go p e below (T.setTop (mkF m pc Ls (x :: st))) (T.setTop (mkF m (pc + 1) Ls (st))) := fun t r => XT.pop H hx rfl hd rfl hc r
theorem iadd (H : At T m c below) (hx : p.tables.exec = Jvm.exec) {x y : Int32} (hd : decode c.code pc = .ok (.iadd, 1))  : Go p e below (T.setTop (mkF m pc Ls (.int y :: .int x :: st))) (T.setTop (mkF m (pc + 1) Ls (.int (x + y) :: st))) := fun t r => XS.iadd H hx rfl hd rfl r
theorem isub (H : At T m c below) (hx : p.tables.exec = Jvm.exec) {x y : Int32} (hd : decode c.code pc = .ok (.isub, 1))  : Go p e below (T.setTop (mkF m pc Ls (.int y :: .int x :: st))) (T.setTop (mkF m (pc + 1) Ls (.int (x - y) :: st))) := fun t r => XS.isub H hx rfl hd rfl r
theorem iand (H : At T m c below) (hx : p.tables.exec = Jvm.exec) {x y : Int32} (hd : decode c.code pc = .ok (.iand, 1))  : Go p e below (T.setTop (mkF m pc Ls (.int y :: .int x :: st))) (T.setTop (mkF m (pc + 1) Ls (.int (x &&& y) :: st))) := fun t r => XS.iand H hx rfl hd rfl r
theorem imul (H : At T m c below) (hx : p.tables.exec = Jvm.exec) {x y : Int32} (hd : decode c.code pc = .ok (.imul, 1))  : Go p e below (T.setTop (mkF m pc Ls (.int y :: .int x :: st))) (T.setTop (mkF m (pc + 1) Ls (.int (x * y) :: st))) := fun t r => XS.imul H hx rfl hd rfl r
theorem ixor (H : At T m c below) (hx : p.tables.exec = Jvm.exec) {x y : Int32} (hd : decode c.code pc = .ok (.ixor, 1))  : Go p e below (T.setTop (mkF m pc Ls (.int y :: .int x :: st))) (T.setTop (mkF m (pc + 1) Ls (.int (x ^^^ y) :: st))) := fun t r => XT.ixor H hx rfl hd rfl r
theorem ior (H : At T m c below) (hx : p.tables.exec = Jvm.exec) {x y : Int32} (hd : decode c.code pc = .ok (.ior, 1))  : Go p e below (T.setTop (mkF m pc Ls (.int y :: .int x :: st))) (T.setTop (mkF m (pc + 1) Ls (.int (x ||| y) :: st))) := fun t r => XT.ior H hx rfl hd rfl r
theorem ishl (H : At T m c below) (hx : p.tables.exec = Jvm.exec) {x y : Int32} (hd : decode c.code pc = .ok (.ishl, 1))  : Go p e below (T.setTop (mkF m pc Ls (.int y :: .int x :: st))) (T.setTop (mkF m (pc + 1) Ls (.int (x <<< (y &&& 31)) :: st))) := fun t r => XT.ishl H hx rfl hd rfl r
theorem ishr (H : At T m c below) (hx : p.tables.exec = Jvm.exec) {x y : Int32} (hd : decode c.code pc = .ok (.ishr, 1))  : Go p e below (T.setTop (mkF m pc Ls (.int y :: .int x :: st))) (T.setTop (mkF m (pc + 1) Ls (.int (x >>> (y &&& 31)) :: st))) := fun t r => XT.ishr H hx rfl hd rfl r
theorem iushr (H : At T m c below) (hx : p.tables.exec = Jvm.exec) {x y : Int32} (hd : decode c.code pc = .ok (.iushr, 1))  : Go p e below (T.setTop (mkF m pc Ls (.int y :: .int x :: st))) (T.setTop (mkF m (pc + 1) Ls (.int (XT.ushr x y) :: st))) := fun t r => XT.iushr H hx rfl hd rfl r
theorem ladd (H : At T m c below) (hx : p.tables.exec = Jvm.exec) {x y : Int64} (hd : decode c.code pc = .ok (.ladd, 1))  : Go p e below (T.setTop (mkF m pc Ls (.long y :: .long x :: st))) (T.setTop (mkF m (pc + 1) Ls (.long (x + y) :: st))) := fun t r => XT.ladd H hx rfl hd rfl r
theorem land (H : At T m c below) (hx : p.tables.exec = Jvm.exec) {x y : Int64} (hd : decode c.code pc = .ok (.land, 1))  : Go p e below (T.setTop (mkF m pc Ls (.long y :: .long x :: st))) (T.setTop (mkF m (pc + 1) Ls (.long (x &&& y) :: st))) := fun t r => XT.land H hx rfl hd rfl r
theorem lushr (H : At T m c below) (hx : p.tables.exec = Jvm.exec) {x : Int64} {y : Int32} (hd : decode c.code pc = .ok (.lushr, 1))  : Go p e below (T.setTop (mkF m pc Ls (.int y :: .long x :: st))) (T.setTop (mkF m (pc + 1) Ls (.long (XT.ushrL x y) :: st))) := fun t r => XT.lushr H hx rfl hd rfl r
theorem irem (H : At T m c below) (hx : p.tables.exec = Jvm.exec) {x y : Int32} (hd : decode c.code pc = .ok (.irem, 1)) (hy : y ≠ 0) : Go p e below (T.setTop (mkF m pc Ls (.int y :: .int x :: st))) (T.setTop (mkF m (pc + 1) Ls (.int (x % y) :: st))) := fun t r => XS.irem H hx rfl hd rfl hy (by rw [irem_eq_mod]; exact r)
theorem lcmp (H : At T m c below) (hx : p.tables.exec = Jvm.exec) {x y : Int64} (hd : decode c.code pc = .ok (.lcmp, 1))  : Go p e below (T.setTop (mkF m pc Ls (.long y :: .long x :: st))) (T.setTop (mkF m (pc + 1) Ls (.int (XT.cmpL x y) :: st))) := fun t r => XT.lcmp H hx rfl hd rfl r
theorem i2c (H : At T m c below) (hx : p.tables.exec = Jvm.exec) {x : Int32} (hd : decode c.code pc = .ok (.i2c, 1))  : Go p e below (T.setTop (mkF m pc Ls (.int x :: st))) (T.setTop (mkF m (pc + 1) Ls (.int (x.toUInt32.toUInt16.toUInt32.toInt32) :: st))) := fun t r => XT.i2c H hx rfl hd rfl r
theorem i2b (H : At T m c below) (hx : p.tables.exec = Jvm.exec) {x : Int32} (hd : decode c.code pc = .ok (.i2b, 1))  : Go p e below (T.setTop (mkF m pc Ls (.int x :: st))) (T.setTop (mkF m (pc + 1) Ls (.int (x.toInt8.toInt32) :: st))) := fun t r => XT.i2b H hx rfl hd rfl r
theorem i2l (H : At T m c below) (hx : p.tables.exec = Jvm.exec) {x : Int32} (hd : decode c.code pc = .ok (.i2l, 1))  : Go p e below (T.setTop (mkF m pc Ls (.int x :: st))) (T.setTop (mkF m (pc + 1) Ls (.long (x.toInt64) :: st))) := fun t r => XT.i2l H hx rfl hd rfl r
theorem l2i (H : At T m c below) (hx : p.tables.exec = Jvm.exec) {x : Int64} (hd : decode c.code pc = .ok (.l2i, 1))  : Go p e below (T.setTop (mkF m pc Ls (.long x :: st))) (T.setTop (mkF m (pc + 1) Ls (.int (x.toInt32) :: st))) := fun t r => XT.l2i H hx rfl hd rfl r
theorem istoreN (H : At T m c below) (hx : p.tables.exec = Jvm.exec) {k : Fin 4} {x : Int32} (l' : Array Slot) (hd : decode c.code pc = .ok (.istore_n k, 1)) (hl : storeLocals Ls k.val (.int x) = some l') : Go p e below (T.setTop (mkF m pc Ls (.int x :: st))) (T.setTop (mkF m (pc + 1) l' (st))) := fun t r => XS.istoreN H hx rfl hd rfl hl r
theorem istore (H : At T m c below) (hx : p.tables.exec = Jvm.exec) {k : Nat} {x : Int32} (l' : Array Slot) (hd : decode c.code pc = .ok (.istore k, 2)) (hl : storeLocals Ls k (.int x) = some l') : Go p e below (T.setTop (mkF m pc Ls (.int x :: st))) (T.setTop (mkF m (pc + 2) l' (st))) := fun t r => XS.istore H hx rfl hd rfl hl r
theorem astoreN (H : At T m c below) (hx : p.tables.exec = Jvm.exec) {k : Fin 4} {x : Value} (l' : Array Slot) (hd : decode c.code pc = .ok (.astore_n k, 1)) (hv : x.isRef = true) (hl : storeLocals Ls k.val x = some l') : Go p e below (T.setTop (mkF m pc Ls (x :: st))) (T.setTop (mkF m (pc + 1) l' (st))) := fun t r => XS.astoreN H hx rfl hd rfl hv hl r
theorem astore (H : At T m c below) (hx : p.tables.exec = Jvm.exec) {k : Nat} {x : Value} (l' : Array Slot) (hd : decode c.code pc = .ok (.astore k, 2)) (hv : x.isRef = true) (hl : storeLocals Ls k x = some l') : Go p e below (T.setTop (mkF m pc Ls (x :: st))) (T.setTop (mkF m (pc + 2) l' (st))) := fun t r => XS.astore H hx rfl hd rfl hv hl r
theorem lstoreN (H : At T m c below) (hx : p.tables.exec = Jvm.exec) {k : Fin 4} {x : Int64} (l' : Array Slot) (hd : decode c.code pc = .ok (.lstore_n k, 1)) (hl : storeLocals Ls k.val (.long x) = some l') : Go p e below (T.setTop (mkF m pc Ls (.long x :: st))) (T.setTop (mkF m (pc + 1) l' (st))) := fun t r => XT.lstoreN H hx rfl hd rfl hl r
theorem lstore (H : At T m c below) (hx : p.tables.exec = Jvm.exec) {k : Nat} {x : Int64} (l' : Array Slot) (hd : decode c.code pc = .ok (.lstore k, 2)) (hl : storeLocals Ls k (.long x) = some l') : Go p e below (T.setTop (mkF m pc Ls (.long x :: st))) (T.setTop (mkF m (pc + 2) l' (st))) := fun t r => XT.lstore H hx rfl hd rfl hl r
theorem iinc (H : At T m c below) (hx : p.tables.exec = Jvm.exec) {k : Nat} {cst : Int} {x : Int32} (v : Int32) (l' : Array Slot) (hd : decode c.code pc = .ok (.iinc k cst, 3)) (hl : Ls[k]? = some (.val (.int x))) (hv : x + Int32.ofInt cst = v) (hl' : storeLocals Ls k (.int v) = some l') : Go p e below (T.setTop (mkF m pc Ls (st))) (T.setTop (mkF m (pc + 3) l' (st))) := fun t r => XS.iinc H hx rfl hd hl (by rw [hv]; exact hl') r
theorem goto (H : At T m c below) (hx : p.tables.exec = Jvm.exec) {o : Int} (pc' : Nat) (hd : decode c.code pc = .ok (.goto o, 3)) (ho : 0 ≤ (pc : Int) + o) (hp : ((pc : Int) + o).toNat = pc') : Go p e below (T.setTop (mkF m pc Ls (st))) (T.setTop (mkF m (pc') Ls (st))) := fun t r => XS.goto H hx rfl rfl hd ho hp r
theorem ifYes (H : At T m c below) (hx : p.tables.exec = Jvm.exec) {cd : ClassFile.Cond} {x : Int32} {o : Int} (pc' : Nat) (hd : decode c.code pc = .ok (.ifCond cd o, 3)) (hc : ifCond.holds cd x = true) (ho : 0 ≤ (pc : Int) + o) (hp : ((pc : Int) + o).toNat = pc') : Go p e below (T.setTop (mkF m pc Ls (.int x :: st))) (T.setTop (mkF m (pc') Ls (st))) := fun t r => XS.ifYes H hx rfl rfl hd rfl hc ho hp r
theorem ifNo (H : At T m c below) (hx : p.tables.exec = Jvm.exec) {cd : ClassFile.Cond} {x : Int32} {o : Int} (hd : decode c.code pc = .ok (.ifCond cd o, 3)) (hc : ifCond.holds cd x = false) : Go p e below (T.setTop (mkF m pc Ls (.int x :: st))) (T.setTop (mkF m (pc + 3) Ls (st))) := fun t r => XS.ifNo H hx rfl hd rfl hc r
theorem icmpYes (H : At T m c below) (hx : p.tables.exec = Jvm.exec) {cd : ClassFile.Cond} {x y : Int32} {o : Int} (pc' : Nat) (hd : decode c.code pc = .ok (.if_icmp cd o, 3)) (hc : if_icmp.holds cd x y = true) (ho : 0 ≤ (pc : Int) + o) (hp : ((pc : Int) + o).toNat = pc') : Go p e below (T.setTop (mkF m pc Ls (.int y :: .int x :: st))) (T.setTop (mkF m (pc') Ls (st))) := fun t r => XS.icmpYes H hx rfl rfl hd rfl hc ho hp r
theorem icmpNo (H : At T m c below) (hx : p.tables.exec = Jvm.exec) {cd : ClassFile.Cond} {x y : Int32} {o : Int} (hd : decode c.code pc = .ok (.if_icmp cd o, 3)) (hc : if_icmp.holds cd x y = false) : Go p e below (T.setTop (mkF m pc Ls (.int y :: .int x :: st))) (T.setTop (mkF m (pc + 3) Ls (st))) := fun t r => XS.icmpNo H hx rfl hd rfl hc r
theorem acmpYes (H : At T m c below) (hx : p.tables.exec = Jvm.exec) {cd : ClassFile.ACond} {x y : Value} {o : Int} (pc' : Nat) (hd : decode c.code pc = .ok (.if_acmp cd o, 3)) (hx' : x.isRef = true) (hy' : y.isRef = true) (hc : XT.acmp cd x y = true) (ho : 0 ≤ (pc : Int) + o) (hp : ((pc : Int) + o).toNat = pc') : Go p e below (T.setTop (mkF m pc Ls (y :: x :: st))) (T.setTop (mkF m (pc') Ls (st))) := fun t r => XT.acmpYes H hx rfl rfl hd rfl hx' hy' hc ho hp r
theorem acmpNo (H : At T m c below) (hx : p.tables.exec = Jvm.exec) {cd : ClassFile.ACond} {x y : Value} {o : Int} (hd : decode c.code pc = .ok (.if_acmp cd o, 3)) (hx' : x.isRef = true) (hy' : y.isRef = true) (hc : XT.acmp cd x y = false) : Go p e below (T.setTop (mkF m pc Ls (y :: x :: st))) (T.setTop (mkF m (pc + 3) Ls (st))) := fun t r => XT.acmpNo H hx rfl hd rfl hx' hy' hc r
theorem ifnullYes (H : At T m c below) (hx : p.tables.exec = Jvm.exec) {o : Int} (pc' : Nat) (hd : decode c.code pc = .ok (.ifnull o, 3)) (ho : 0 ≤ (pc : Int) + o) (hp : ((pc : Int) + o).toNat = pc') : Go p e below (T.setTop (mkF m pc Ls (.null :: st))) (T.setTop (mkF m (pc') Ls (st))) := fun t r => XS.ifnullYes H hx rfl rfl hd rfl ho hp r
theorem ifnullNo (H : At T m c below) (hx : p.tables.exec = Jvm.exec) {o : Int} {b : Addr} (hd : decode c.code pc = .ok (.ifnull o, 3))  : Go p e below (T.setTop (mkF m pc Ls (.ref b :: st))) (T.setTop (mkF m (pc + 3) Ls (st))) := fun t r => XS.ifnullNo H hx rfl hd rfl r
theorem ifnonnullYes (H : At T m c below) (hx : p.tables.exec = Jvm.exec) {o : Int} {b : Addr} (pc' : Nat) (hd : decode c.code pc = .ok (.ifnonnull o, 3)) (ho : 0 ≤ (pc : Int) + o) (hp : ((pc : Int) + o).toNat = pc') : Go p e below (T.setTop (mkF m pc Ls (.ref b :: st))) (T.setTop (mkF m (pc') Ls (st))) := fun t r => XT.ifnonnullYes H hx rfl rfl hd rfl ho hp r
theorem ifnonnullNo (H : At T m c below) (hx : p.tables.exec = Jvm.exec) {o : Int} (hd : decode c.code pc = .ok (.ifnonnull o, 3))  : Go p e below (T.setTop (mkF m pc Ls (.null :: st))) (T.setTop (mkF m (pc + 3) Ls (st))) := fun t r => XT.ifnonnullNo H hx rfl hd rfl r
end Plain
end Own.P
end Jvm.Pilot.@@N@@
/- laws to paste: Road.backArv, Road.eqW, Road.chN (cut by pick.py; bodies as the Statement names them) -/
namespace Jvm.Pilot.@@N@@
namespace StrChars
open Jvm Sem ClassFile Op Lib Jvm.Stand Jvm.Free.XT Jvm.Free.ALB Jvm.Free.JM Jvm.Free
open Jvm.Lib.Cold (StaticIs)
/-- a char array whose places are chars -/
def Ch (a : Addr) (A : Cell) (U : State) : Prop := Arr .char a A U ∧ Typed .char A
theorem Ch.mv {a : Addr} {A : Cell} {U U' : State} (h : Ch a A U) (hal : U.vm.Alike U'.vm) (hh : U'.heap = U.heap) : Ch a A U' := ⟨h.1.mv hal hh, h.2⟩
theorem Ch.keep {a : Addr} {A : Cell} {U U' : State} (h : Ch a A U) (hal : U.vm.Alike U'.vm) (hk : U'.heap[a]? = some A) : Ch a A U' := ⟨h.1.keep hal hk, h.2⟩
/-- what place i of a char[]'s cell holds -/
def cv (A : Cell) (i : Nat) : Int32 := match A.slots[i]? with | some (.int x) => x | _ => 0
theorem Ch.get {a : Addr} {A : Cell} {U : State} (h : Ch a A U) {i : Nat} (hi : i < A.slots.size) : A.slots[i]? = some (.int (cv A i)) := by
  have e := Array.getElem?_eq_getElem hi
  have f := h.2 i _ e
  unfold cv; rw [e]
  generalize A.slots[i] = v at f
  cases v <;> simp [fits] at f ⊢
/-- the byte that i2b leaves of a char -/
def lo8 (x : Int32) : Int32 := x.toInt8.toInt32
theorem fits_lo8 (y : Int32) : fits .byte (.int (lo8 y)) = true := by
  have h1 := y.toInt8.le_toInt
  have h2 := y.toInt8.toInt_lt
  simp only [lo8, fits, Bool.and_eq_true, decide_eq_true_eq, Int32.le_iff_toInt_le, Int8.toInt_toInt32, show (-128 : Int32).toInt = -128 from by decide, show (127 : Int32).toInt = 127 from by decide]
  omega
/-- A' is A but that each place j of lo .. hi - 1 holds f j -/
def Laid (A A' : Cell) (lo hi : Nat) (f : Nat → Value) : Prop := A'.cls = A.cls ∧ A'.vm = A.vm ∧ A'.slots.size = A.slots.size ∧ ∀ i, A'.slots[i]? = if lo ≤ i ∧ i < hi then some (f i) else A.slots[i]?
theorem Laid.zero (A : Cell) (lo : Nat) (f : Nat → Value) : Laid A A lo (lo + 0) f := ⟨rfl, rfl, rfl, fun i => by rw [if_neg (by omega)]⟩
theorem Laid.step {A Ak : Cell} {lo k : Nat} {f : Nat → Value} {v : Value} (h : Laid A Ak lo k f) (hlo : lo ≤ k) (hk : k < Ak.slots.size) (hv : v = f k) : Laid A (Ak.setSlot k v) lo (k + 1) f := by
  refine ⟨h.1, h.2.1, by simpa [Cell.setSlot] using h.2.2.1, fun i => ?_⟩
  by_cases e : k = i
  · subst e; rw [Cell.slots_setSlot_self v hk, if_pos (by omega), hv]
  · rw [Cell.slots_setSlot_ne v e, h.2.2.2 i]
    by_cases q : lo ≤ i ∧ i < k
    · rw [if_pos q, if_pos (by omega)]
    · rw [if_neg q, if_neg (by omega)]
def U16 : String := "java/lang/StringUTF16"
namespace Cmp5
def yN : MethodName := ⟨"java/lang/StringUTF16", "compress", "([CI[BII)I"⟩
abbrev yB : ByteArray := jdk_52_method_21_code
theorem d0 : decode yB 0 = .ok (.iconst 0, 1) := by decide +kernel
theorem d1 : decode yB 1 = .ok (.istore 5, 2) := by decide +kernel
theorem d3 : decode yB 3 = .ok (.iload 5, 2) := by decide +kernel
theorem d5 : decode yB 5 = .ok (.iload 4, 2) := by decide +kernel
theorem d7 : decode yB 7 = .ok (.if_icmp (.ge) 37, 3) := by decide +kernel
theorem d10 : decode yB 10 = .ok (.aload_n 0, 1) := by decide +kernel
theorem d11 : decode yB 11 = .ok (.iload_n 1, 1) := by decide +kernel
theorem d12 : decode yB 12 = .ok (.caload, 1) := by decide +kernel
theorem d13 : decode yB 13 = .ok (.istore 6, 2) := by decide +kernel
theorem d15 : decode yB 15 = .ok (.iload 6, 2) := by decide +kernel
theorem d17 : decode yB 17 = .ok (.sipush 255, 3) := by decide +kernel
theorem d20 : decode yB 20 = .ok (.if_icmp (.le) 6, 3) := by decide +kernel
theorem d26 : decode yB 26 = .ok (.aload_n 2, 1) := by decide +kernel
theorem d27 : decode yB 27 = .ok (.iload_n 3, 1) := by decide +kernel
theorem d28 : decode yB 28 = .ok (.iload 6, 2) := by decide +kernel
theorem d30 : decode yB 30 = .ok (.i2b, 1) := by decide +kernel
theorem d31 : decode yB 31 = .ok (.bastore, 1) := by decide +kernel
theorem d32 : decode yB 32 = .ok (.iinc 1 1, 3) := by decide +kernel
theorem d35 : decode yB 35 = .ok (.iinc 3 1, 3) := by decide +kernel
theorem d38 : decode yB 38 = .ok (.iinc 5 1, 3) := by decide +kernel
theorem d41 : decode yB 41 = .ok (.goto (-38), 3) := by decide +kernel
theorem d44 : decode yB 44 = .ok (.iload 4, 2) := by decide +kernel
theorem d46 : decode yB 46 = .ok (.ireturn, 1) := by decide +kernel
def site : List Cond := []
def tab : Cond := tabOf yN yB 7 (some .int) site
def P (b : Addr) (A : Cell) (d : Addr) (B : Cell) (o q len : Nat) (args : Array Value) (s : State) : Prop := args = #[.ref b, .int (Int32.ofNat o), .ref d, .int (Int32.ofNat q), .int (Int32.ofNat len)] ∧ Ch b A s ∧ Arr .byte d B s ∧ b ≠ d ∧ o + len ≤ A.slots.size ∧ q + len ≤ B.slots.size ∧ ∀ i, i < len → ¬ 255 < cv A (o + i)
def E (b : Addr) (A : Cell) (d : Addr) (B : Cell) (o q len : Nat) (r : Option Value) (s u : State) : Prop := r = some (.int (Int32.ofNat len)) ∧ ∃ B', Put d B' s u ∧ Laid B B' q (q + len) (fun j => Value.int (lo8 (cv A (o + (j - q)))))
/-- no char of the range above 255: len; the places written hold each char's low byte -/
theorem law (l : Launch) (b : Addr) (A : Cell) (d : Addr) (B : Cell) (o q len : Nat) : Law l yN 5 5 0 0 yB 7 (some .int) site (P b A d B o q len) (E b A d B o q len) (copyLocs d q len) 0 0 := by
  refine Law.of_walk (plainFor_of_name (by decide +kernel)) (by decide +kernel) (by decide +kernel) (by decide) (fun _ _ h => by rw [h.1]; rfl) (fun _ U U' hal hh h => ⟨h.1, h.2.1.mv hal hh, h.2.2.1.mv hal hh, h.2.2.2⟩) (fun r U U' V V' h1 hal h2 h => ⟨h.1, h.2.elim fun B' q => ⟨B', q.1.mv h1 h2, q.2⟩⟩) ?_
  intro p e s m args below meth c s₁ X0 hexec hbytes hml hret hlk hnm hown hh0 W hP
  obtain ⟨rfl, hA, hB, hne, l1, l2, hp⟩ := hP
  have c1 : Steps p.tables e below (s₁.setTop (entryFrame m #[.ref b, .int (Int32.ofNat o), .ref d, .int (Int32.ofNat q), .int (Int32.ofNat len)] 7)) (s₁.setTop (mkF m 0 #[.val (.ref b), .val (.int (Int32.ofNat o)), .val (.ref d), .val (.int (Int32.ofNat q)), .val (.int (Int32.ofNat len)), .unset, .unset] [])) := entry rfl
  have hA0 := hA.1.mv X0.warmed.alike hh0
  have hB0 := hB.mv X0.warmed.alike hh0
  have a31 := hA.1.2.2.2
  have c2 : Steps p.tables e below (s₁.setTop (entryFrame m #[.ref b, .int (Int32.ofNat o), .ref d, .int (Int32.ofNat q), .int (Int32.ofNat len)] 7)) (s₁.setTop (mkF m 3 #[.val (.ref b), .val (.int (Int32.ofNat o)), .val (.ref d), .val (.int (Int32.ofNat q)), .val (.int (Int32.ofNat len)), .val (.int 0), .unset] [])) := c1.trans (by
    refine iconstV X0.here hexec rfl 0 (hb hbytes d0) (by decide) ?_
    refine XS.istore X0.here hexec rfl (hb hbytes d1) rfl rfl ?_
    exact Steps.refl _)
  have loop : ∀ (r i : Nat), i + r = len → ∀ (z : Slot), (z = .unset ∨ ∃ w, z = .val w ∧ w.category = 1) → ∀ (Tl : State) (Bk : Cell), Stand p l e { frames := 0, locals := 0, cells := 0, slots := 0 } s m #[.ref b, .int (Int32.ofNat o), .ref d, .int (Int32.ofNat q), .int (Int32.ofNat len)] below meth c Tl ([] ++ copyLocs d q i) 0 0 → Put d Bk s₁ Tl → Laid B Bk q (q + i) (fun j => Value.int (lo8 (cv A (o + (j - q))))) →
      Steps p.tables e below (s₁.setTop (entryFrame m #[.ref b, .int (Int32.ofNat o), .ref d, .int (Int32.ofNat q), .int (Int32.ofNat len)] 7)) (Tl.setTop (mkF m 3 #[.val (.ref b), .val (.int (Int32.ofNat (o + i))), .val (.ref d), .val (.int (Int32.ofNat (q + i))), .val (.int (Int32.ofNat len)), .val (.int (Int32.ofNat i)), z] [])) → ∃ (T' : State) (B' : Cell) (z' : Slot), Stand p l e { frames := 0, locals := 0, cells := 0, slots := 0 } s m #[.ref b, .int (Int32.ofNat o), .ref d, .int (Int32.ofNat q), .int (Int32.ofNat len)] below meth c T' ([] ++ copyLocs d q len) 0 0 ∧ Put d B' s₁ T' ∧ Laid B B' q (q + len) (fun j => Value.int (lo8 (cv A (o + (j - q))))) ∧
      Steps p.tables e below (s₁.setTop (entryFrame m #[.ref b, .int (Int32.ofNat o), .ref d, .int (Int32.ofNat q), .int (Int32.ofNat len)] 7)) (T'.setTop (mkF m 3 #[.val (.ref b), .val (.int (Int32.ofNat (o + len))), .val (.ref d), .val (.int (Int32.ofNat (q + len))), .val (.int (Int32.ofNat len)), .val (.int (Int32.ofNat len)), z'] [])) := by
    intro r
    induction r with
    | zero =>
      intro i hi z hz Tl Bk Xl pl fl cl
      have hil : i = len := by omega
      rw [hil] at Xl fl cl
      exact ⟨Tl, Bk, z, Xl, pl, fl, cl⟩
    | succ r ih =>
      intro i hi z hz Tl Bk Xl pl fl cl
      have all := X0.warmed.alike.symm.trans Xl.warmed.alike
      have hAl := hA0.keep all (pl.other hne hA0.1)
      have hBk := hB0.like all pl.1 fl.1 fl.2.1 fl.2.2.1
      have hlt : q + i < Bk.slots.size := by rw [fl.2.2.1]; omega
      have c3 : Steps p.tables e below (s₁.setTop (entryFrame m #[.ref b, .int (Int32.ofNat o), .ref d, .int (Int32.ofNat q), .int (Int32.ofNat len)] 7)) (Tl.setTop (mkF m 12 #[.val (.ref b), .val (.int (Int32.ofNat (o + i))), .val (.ref d), .val (.int (Int32.ofNat (q + i))), .val (.int (Int32.ofNat len)), .val (.int (Int32.ofNat i)), z] [.int (Int32.ofNat (o + i)), .ref b])) := cl.trans (by
        refine XS.iload Xl.here hexec rfl (hb hbytes d3) rfl ?_
        refine XS.iload Xl.here hexec rfl (hb hbytes d5) rfl ?_
        refine XS.icmpNo Xl.here hexec rfl (hb hbytes d7) rfl (ii_ge_f (lt32 (by omega) (by omega))) ?_
        refine XS.aloadN Xl.here hexec rfl (hb hbytes d10) rfl rfl ?_
        refine XS.iloadN Xl.here hexec rfl (hb hbytes d11) rfl ?_
        exact Steps.refl _)
      have c4 : Steps p.tables e below (s₁.setTop (entryFrame m #[.ref b, .int (Int32.ofNat o), .ref d, .int (Int32.ofNat q), .int (Int32.ofNat len)] 7)) (Tl.setTop (mkF m 13 #[.val (.ref b), .val (.int (Int32.ofNat (o + i))), .val (.ref d), .val (.int (Int32.ofNat (q + i))), .val (.int (Int32.ofNat len)), .val (.int (Int32.ofNat i)), z] [.int (cv A (o + i))])) := c3.trans (by
        refine Xl.aget hexec hAl rfl (hA.get (i := o + i) (by omega)) rfl rfl (hb hbytes d12) ?_
        exact Steps.refl _)
      have c5 : Steps p.tables e below (s₁.setTop (entryFrame m #[.ref b, .int (Int32.ofNat o), .ref d, .int (Int32.ofNat q), .int (Int32.ofNat len)] 7)) (Tl.setTop (mkF m 15 #[.val (.ref b), .val (.int (Int32.ofNat (o + i))), .val (.ref d), .val (.int (Int32.ofNat (q + i))), .val (.int (Int32.ofNat len)), .val (.int (Int32.ofNat i)), .val (.int (cv A (o + i)))] [])) := c4.trans (by
        refine XS.istoreS Xl.here hexec rfl (hb hbytes d13) rfl rfl hz ?_
        exact Steps.refl _)
      have c6 : Steps p.tables e below (s₁.setTop (entryFrame m #[.ref b, .int (Int32.ofNat o), .ref d, .int (Int32.ofNat q), .int (Int32.ofNat len)] 7)) (Tl.setTop (mkF m 31 #[.val (.ref b), .val (.int (Int32.ofNat (o + i))), .val (.ref d), .val (.int (Int32.ofNat (q + i))), .val (.int (Int32.ofNat len)), .val (.int (Int32.ofNat i)), .val (.int (cv A (o + i)))] [.int (lo8 (cv A (o + i))), .int (Int32.ofNat (q + i)), .ref d])) := c5.trans (by
        refine XS.iload Xl.here hexec rfl (hb hbytes d15) rfl ?_
        refine sipushV Xl.here hexec rfl 255 (hb hbytes d17) (by decide) ?_
        refine XS.icmpYes Xl.here hexec rfl (pc0 := 20) rfl (hb hbytes d20) rfl (ii_le_t (hp i (by omega))) (by decide) rfl ?_
        refine XS.aloadN Xl.here hexec rfl (hb hbytes d26) rfl rfl ?_
        refine XS.iloadN Xl.here hexec rfl (hb hbytes d27) rfl ?_
        refine XS.iload Xl.here hexec rfl (hb hbytes d28) rfl ?_
        refine i2b Xl.here hexec rfl (hb hbytes d30) rfl ?_
        exact Steps.refl _)
      obtain ⟨T7, X7, p7, st7⟩ := Xl.aput hexec hBk rfl hlt rfl (fits_lo8 (cv A (o + i))) (g := (mkF m 31 #[.val (.ref b), .val (.int (Int32.ofNat (o + i))), .val (.ref d), .val (.int (Int32.ofNat (q + i))), .val (.int (Int32.ofNat len)), .val (.int (Int32.ofNat i)), .val (.int (cv A (o + i)))] [.int (lo8 (cv A (o + i))), .int (Int32.ofNat (q + i)), .ref d])) rfl (rest := []) rfl (hb hbytes d31)
      have c8 : Steps p.tables e below (s₁.setTop (entryFrame m #[.ref b, .int (Int32.ofNat o), .ref d, .int (Int32.ofNat q), .int (Int32.ofNat len)] 7)) (T7.setTop (mkF m 32 #[.val (.ref b), .val (.int (Int32.ofNat (o + i))), .val (.ref d), .val (.int (Int32.ofNat (q + i))), .val (.int (Int32.ofNat len)), .val (.int (Int32.ofNat i)), .val (.int (cv A (o + i)))] [])) := c6.trans (st7 _ (Steps.refl _))
      have c9 : Steps p.tables e below (s₁.setTop (entryFrame m #[.ref b, .int (Int32.ofNat o), .ref d, .int (Int32.ofNat q), .int (Int32.ofNat len)] 7)) (T7.setTop (mkF m 3 #[.val (.ref b), .val (.int (Int32.ofNat (o + i) + 1)), .val (.ref d), .val (.int (Int32.ofNat (q + i) + 1)), .val (.int (Int32.ofNat len)), .val (.int (Int32.ofNat i + 1)), .val (.int (cv A (o + i)))] [])) := c8.trans (by
        refine iincV X7.here hexec rfl 1 (hb hbytes d32) (by decide) rfl rfl ?_
        refine iincV X7.here hexec rfl 1 (hb hbytes d35) (by decide) rfl rfl ?_
        refine iincV X7.here hexec rfl 1 (hb hbytes d38) (by decide) rfl rfl ?_
        refine XS.goto X7.here hexec rfl (pc0 := 41) rfl (hb hbytes d41) (by decide) rfl ?_
        exact Steps.refl _)
      have c10 : Steps p.tables e below (s₁.setTop (entryFrame m #[.ref b, .int (Int32.ofNat o), .ref d, .int (Int32.ofNat q), .int (Int32.ofNat len)] 7)) (T7.setTop (mkF m 3 #[.val (.ref b), .val (.int (Int32.ofNat (o + (i + 1)))), .val (.ref d), .val (.int (Int32.ofNat (q + (i + 1)))), .val (.int (Int32.ofNat len)), .val (.int (Int32.ofNat (i + 1))), .val (.int (cv A (o + i)))] [])) := by
        have := c9
        rw [succ32, succ32, succ32] at this
        exact this
      exact ih (i + 1) (by omega) _ (Or.inr ⟨_, rfl, rfl⟩) T7 _ (by rw [copyLocs_step, ← List.append_assoc]; exact X7) (pl.trans p7) (fl.step (by omega) hlt (by simp)) c10
  obtain ⟨T9, B9, z9, X9, p9, f9, g9⟩ := loop len 0 (by omega) .unset (Or.inl rfl) s₁ B (by simpa [copyLocs] using X0) ⟨hB0.1, fun _ _ => rfl, rfl⟩ (Laid.zero _ _ _) c2
  have c11 : Steps p.tables e below (s₁.setTop (entryFrame m #[.ref b, .int (Int32.ofNat o), .ref d, .int (Int32.ofNat q), .int (Int32.ofNat len)] 7)) (T9.setTop (mkF m 46 #[.val (.ref b), .val (.int (Int32.ofNat (o + len))), .val (.ref d), .val (.int (Int32.ofNat (q + len))), .val (.int (Int32.ofNat len)), .val (.int (Int32.ofNat len)), z9] [.int (Int32.ofNat len)])) := g9.trans (by
    refine XS.iload X9.here hexec rfl (hb hbytes d3) rfl ?_
    refine XS.iload X9.here hexec rfl (hb hbytes d5) rfl ?_
    refine XS.icmpYes X9.here hexec rfl (pc0 := 7) rfl (hb hbytes d7) rfl (ii_ge_t (nlt32 (by omega) (Nat.le_refl _))) (by decide) rfl ?_
    refine XS.iload X9.here hexec rfl (hb hbytes d44) rfl ?_
    exact Steps.refl _)
  exact ⟨T9, some (.int (Int32.ofNat len)), _, _, _, X9, by simp, rfl, rfl, (fun h => by cases h), ⟨rfl, B9, p9.from hh0, f9⟩, fun fs hl => c11.trans (X9.ireturnOut hexec hret rfl (Or.inl rfl) (hb hbytes d46) hl)⟩
end Cmp5
namespace Cmp3
def yN : MethodName := ⟨"java/lang/StringUTF16", "compress", "([CII)[B"⟩
abbrev yB : ByteArray := jdk_52_method_16_code
theorem d0 : decode yB 0 = .ok (.iload_n 2, 1) := by decide +kernel
theorem d1 : decode yB 1 = .ok (.newarray .byte, 2) := by decide +kernel
theorem d3 : decode yB 3 = .ok (.astore_n 3, 1) := by decide +kernel
theorem d4 : decode yB 4 = .ok (.aload_n 0, 1) := by decide +kernel
theorem d5 : decode yB 5 = .ok (.iload_n 1, 1) := by decide +kernel
theorem d6 : decode yB 6 = .ok (.aload_n 3, 1) := by decide +kernel
theorem d7 : decode yB 7 = .ok (.iconst 0, 1) := by decide +kernel
theorem d8 : decode yB 8 = .ok (.iload_n 2, 1) := by decide +kernel
theorem d9 : decode yB 9 = .ok (.invokestatic 115, 3) := by decide +kernel
theorem d12 : decode yB 12 = .ok (.istore 4, 2) := by decide +kernel
theorem d14 : decode yB 14 = .ok (.iload 4, 2) := by decide +kernel
theorem d16 : decode yB 16 = .ok (.iload_n 2, 1) := by decide +kernel
theorem d17 : decode yB 17 = .ok (.if_icmp (.eq) 40, 3) := by decide +kernel
theorem d57 : decode yB 57 = .ok (.aload_n 3, 1) := by decide +kernel
theorem d58 : decode yB 58 = .ok (.areturn, 1) := by decide +kernel
def site : List Cond := [.arrayClass .byte, Cmp5.tab] ++ staticW U16 115 Cmp5.yN
def tab : Cond := tabOf yN yB 6 (some (.array .byte)) site
def P (b : Addr) (A : Cell) (o len : Nat) (args : Array Value) (s : State) : Prop := args = #[.ref b, .int (Int32.ofNat o), .int (Int32.ofNat len)] ∧ Ch b A s ∧ o + len ≤ A.slots.size ∧ len ≤ 536870912 ∧ ∀ i, i < len → ¬ 255 < cv A (o + i)
def E (b : Addr) (A : Cell) (o len : Nat) (r : Option Value) (s u : State) : Prop := NewArr .byte "[B" len (fun j => .int (lo8 (cv A (o + j)))) r s u ∧ u.heap.size = s.heap.size + 1
/-- no char of the range above 255: a new byte[] of their low bytes -/
theorem law (l : Launch) (b : Addr) (A : Cell) (o len : Nat) : Law l yN 3 3 1 18 yB 6 (some (.array .byte)) site (P b A o len) (E b A o len) [] 1 len := by
  refine Law.of_walk (plainFor_of_name (by decide +kernel)) (by decide +kernel) (by decide +kernel) (by decide) (fun _ _ h => by rw [h.1]; rfl) (fun _ U U' hal hh h => ⟨h.1, h.2.1.mv hal hh, h.2.2⟩) (fun r U U' V V' h1 hal h2 h => ⟨NewArr.mv r U U' V V' h1 hal h2 h.1, by rw [h1, h2]; exact h.2⟩) ?_
  intro p e s m args below meth c s₁ X0 hexec hbytes hml hret hlk hnm hown hh0 W hP
  obtain ⟨rfl, hA, l1, l2, hp⟩ := hP
  have a31 := hA.1.2.2.2
  have c1 : Steps p.tables e below (s₁.setTop (entryFrame m #[.ref b, .int (Int32.ofNat o), .int (Int32.ofNat len)] 6)) (s₁.setTop (mkF m 0 #[.val (.ref b), .val (.int (Int32.ofNat o)), .val (.int (Int32.ofNat len)), .unset, .unset, .unset] [])) := entry rfl
  have c2 : Steps p.tables e below (s₁.setTop (entryFrame m #[.ref b, .int (Int32.ofNat o), .int (Int32.ofNat len)] 6)) (s₁.setTop (mkF m 1 #[.val (.ref b), .val (.int (Int32.ofNat o)), .val (.int (Int32.ofNat len)), .unset, .unset, .unset] [.int (Int32.ofNat len)])) := c1.trans (by
    refine XS.iloadN X0.here hexec rfl (hb hbytes d0) rfl ?_
    exact Steps.refl _)
  obtain ⟨T3, B3, X3, ba3, bs3, bv3, bh3, bf3, st3⟩ := X0.anew hexec (atype := .byte) (wk W (.arrayClass .byte)) rfl (by show len * 1 ≤ _; omega) (by omega) (g := (mkF m 1 #[.val (.ref b), .val (.int (Int32.ofNat o)), .val (.int (Int32.ofNat len)), .unset, .unset, .unset] [.int (Int32.ofNat len)])) rfl (hb hbytes d1) (rest := []) rfl (Nat.le_refl _) (by show 0 + len ≤ len; omega)
  rw [hh0] at ba3 st3
  have kp3 : XT.Kept s T3 := (XT.Kept.of_eq hh0).push bh3
  have hA3 := hA.keep X3.warmed.alike (kp3 _ _ hA.1.1)
  have hne : b ≠ s.heap.size := hA.1.ne
  have c4 : Steps p.tables e below (s₁.setTop (entryFrame m #[.ref b, .int (Int32.ofNat o), .int (Int32.ofNat len)] 6)) (T3.setTop (mkF m 3 #[.val (.ref b), .val (.int (Int32.ofNat o)), .val (.int (Int32.ofNat len)), .unset, .unset, .unset] [.ref s.heap.size])) := c2.trans (st3 _ (Steps.refl _))
  have c5 : Steps p.tables e below (s₁.setTop (entryFrame m #[.ref b, .int (Int32.ofNat o), .int (Int32.ofNat len)] 6)) (T3.setTop (mkF m 9 #[.val (.ref b), .val (.int (Int32.ofNat o)), .val (.int (Int32.ofNat len)), .val (.ref s.heap.size), .unset, .unset] [.int (Int32.ofNat len), .int 0, .ref s.heap.size, .int (Int32.ofNat o), .ref b])) := c4.trans (by
    refine XS.astoreN X3.here hexec rfl (hb hbytes d3) rfl rfl rfl ?_
    refine XS.aloadN X3.here hexec rfl (hb hbytes d4) rfl rfl ?_
    refine XS.iloadN X3.here hexec rfl (hb hbytes d5) rfl ?_
    refine XS.aloadN X3.here hexec rfl (hb hbytes d6) rfl rfl ?_
    refine iconstV X3.here hexec rfl 0 (hb hbytes d7) (by decide) ?_
    refine XS.iloadN X3.here hexec rfl (hb hbytes d8) rfl ?_
    exact Steps.refl _)
  obtain ⟨v6, T6, X6, E6, g6⟩ := X3.callS hexec (Cmp5.law l b A s.heap.size B3 o 0 len) hown (wks W (staticW U16 115 Cmp5.yN)) (wk W Cmp5.tab) (W := 0) (Nat.le_of_ble_eq_true rfl) (Nat.le_of_ble_eq_true rfl) (Nat.le_refl _) (by show 0 + len + 0 ≤ len; omega) (g := (mkF m 9 #[.val (.ref b), .val (.int (Int32.ofNat o)), .val (.int (Int32.ofNat len)), .val (.ref s.heap.size), .unset, .unset] [.int (Int32.ofNat len), .int (Int32.ofNat 0), .ref s.heap.size, .int (Int32.ofNat o), .ref b])) rfl (by rw [hml]; rfl) c5 (argsL := [.ref b, .int (Int32.ofNat o), .ref s.heap.size, .int (Int32.ofNat 0), .int (Int32.ofNat len)]) (rest := []) rfl rfl (by show 2 * 0 + 0 ≤ _; decide) (hb hbytes d9) (⟨rfl, hA3, ba3, hne, l1, by rw [bs3]; simp, hp⟩)
  obtain ⟨rfl, B6, p6, f6⟩ := E6
  have c7 : Steps p.tables e below (s₁.setTop (entryFrame m #[.ref b, .int (Int32.ofNat o), .int (Int32.ofNat len)] 6)) (T6.setTop (mkF m 12 #[.val (.ref b), .val (.int (Int32.ofNat o)), .val (.int (Int32.ofNat len)), .val (.ref s.heap.size), .unset, .unset] [.int (Int32.ofNat len)])) := g6
  have c8 : Steps p.tables e below (s₁.setTop (entryFrame m #[.ref b, .int (Int32.ofNat o), .int (Int32.ofNat len)] 6)) (T6.setTop (mkF m 58 #[.val (.ref b), .val (.int (Int32.ofNat o)), .val (.int (Int32.ofNat len)), .val (.ref s.heap.size), .val (.int (Int32.ofNat len)), .unset] [.ref s.heap.size])) := c7.trans (by
    refine XS.istore X6.here hexec rfl (hb hbytes d12) rfl rfl ?_
    refine XS.iload X6.here hexec rfl (hb hbytes d14) rfl ?_
    refine XS.iloadN X6.here hexec rfl (hb hbytes d16) rfl ?_
    refine XS.icmpYes X6.here hexec rfl (pc0 := 17) rfl (hb hbytes d17) rfl (ii_eq_t rfl) (by decide) rfl ?_
    refine XS.aloadN X6.here hexec rfl (hb hbytes d57) rfl rfl ?_
    exact Steps.refl _)
  have X8 := X6.wide (L' := []) (cells' := 1) (slots' := len) (fun x hx hlt => by
    simp only [List.nil_append, copyLocs, List.mem_map, List.mem_range] at hx
    obtain ⟨i, -, rfl⟩ := hx
    exact absurd hlt (Nat.lt_irrefl _)) (Nat.le_refl _) (by omega)
  exact ⟨T6, some (.ref s.heap.size), _, _, _, X8, rfl, rfl, rfl, (fun h => by cases h), ⟨⟨rfl, B6, ba3.like (X3.warmed.alike.symm.trans X6.warmed.alike) p6.1 f6.1 f6.2.1 f6.2.2.1, f6.2.1.trans bv3, by rw [X6.warmed.alike.findClass, f6.1]; exact bf3, by rw [f6.2.2.1, bs3]; simp, fun j hj => by rw [f6.2.2.2 j, if_pos (by omega)]; rfl, kp3.put p6 (Nat.le_refl _)⟩, by rw [p6.2.2, bh3, hh0]; simp⟩, fun fs hl => c8.trans (X8.areturnOut hexec rfl hret rfl (hb hbytes d58) hl)⟩
end Cmp3
namespace CodL
def yN : MethodName := ⟨"java/lang/StringUTF16", "coderFromArrayLen", "([BI)B"⟩
abbrev yB : ByteArray := jdk_52_method_15_code
theorem d0 : decode yB 0 = .ok (.iload_n 1, 1) := by decide +kernel
theorem d1 : decode yB 1 = .ok (.aload_n 0, 1) := by decide +kernel
theorem d2 : decode yB 2 = .ok (.arraylength, 1) := by decide +kernel
theorem d3 : decode yB 3 = .ok (.isub, 1) := by decide +kernel
theorem d4 : decode yB 4 = .ok (.bipush 31, 2) := by decide +kernel
theorem d6 : decode yB 6 = .ok (.iushr, 1) := by decide +kernel
theorem d7 : decode yB 7 = .ok (.i2b, 1) := by decide +kernel
theorem d8 : decode yB 8 = .ok (.ireturn, 1) := by decide +kernel
def site : List Cond := []
def tab : Cond := tabOf yN yB 2 (some .byte) site
def P (d : Addr) (B : Cell) (args : Array Value) (s : State) : Prop := args = #[.ref d, .int (Int32.ofNat B.slots.size)] ∧ Arr .byte d B s
def E (r : Option Value) (s u : State) : Prop := XT.PureE (some (.int 0)) r s u
/-- an array as long as the number of chars: LATIN1 -/
theorem law (l : Launch) (d : Addr) (B : Cell) : Law l yN 2 2 0 0 yB 2 (some .byte) site (P d B) E [] 0 0 := by
  refine Law.of_walk (plainFor_of_name (by decide +kernel)) (by decide +kernel) (by decide +kernel) (by decide) (fun _ _ h => by rw [h.1]; rfl) (fun _ U U' hal hh h => ⟨h.1, h.2.mv hal hh⟩) (fun r U U' V V' h1 hal h2 h => XT.PureE.mv r U U' V V' h1 hal h2 h) ?_
  intro p e s m args below meth c s₁ X0 hexec hbytes hml hret hlk hnm hown hh0 W hP
  obtain ⟨rfl, hB⟩ := hP
  have hB0 := hB.mv X0.warmed.alike hh0
  have c1 : Steps p.tables e below (s₁.setTop (entryFrame m #[.ref d, .int (Int32.ofNat B.slots.size)] 2)) (s₁.setTop (mkF m 0 #[.val (.ref d), .val (.int (Int32.ofNat B.slots.size))] [])) := entry rfl
  have c2 : Steps p.tables e below (s₁.setTop (entryFrame m #[.ref d, .int (Int32.ofNat B.slots.size)] 2)) (s₁.setTop (mkF m 2 #[.val (.ref d), .val (.int (Int32.ofNat B.slots.size))] [.ref d, .int (Int32.ofNat B.slots.size)])) := c1.trans (by
    refine XS.iloadN X0.here hexec rfl (hb hbytes d0) rfl ?_
    refine XS.aloadN X0.here hexec rfl (hb hbytes d1) rfl rfl ?_
    exact Steps.refl _)
  have c3 : Steps p.tables e below (s₁.setTop (entryFrame m #[.ref d, .int (Int32.ofNat B.slots.size)] 2)) (s₁.setTop (mkF m 8 #[.val (.ref d), .val (.int (Int32.ofNat B.slots.size))] [.int (lo8 (ushr (Int32.ofNat B.slots.size - Int32.ofNat B.slots.size) 31))])) := c2.trans (by
    refine X0.alen hexec hB0 rfl rfl (hb hbytes d2) ?_
    refine XS.isub X0.here hexec rfl (hb hbytes d3) rfl ?_
    refine bipushV X0.here hexec rfl 31 (hb hbytes d4) (by decide) ?_
    refine iushr X0.here hexec rfl (hb hbytes d6) rfl ?_
    refine i2b X0.here hexec rfl (hb hbytes d7) rfl ?_
    exact Steps.refl _)
  have e0 : lo8 (ushr (Int32.ofNat B.slots.size - Int32.ofNat B.slots.size) 31) = 0 := by rw [Int32.sub_self]; decide
  rw [e0] at c3
  exact ⟨s₁, some (.int 0), _, _, _, X0, rfl, rfl, rfl, (fun h => by cases h), ⟨rfl, hh0⟩, fun fs hl => c3.trans (X0.ireturnOut hexec hret rfl (Or.inr (Or.inr (Or.inl rfl))) (hb hbytes d8) hl)⟩
end CodL
/-- the String at a is Latin-1 over a new byte[] (the heap's one new cell): the low bytes of the len chars of A from o on; every cell but a is kept -/
def Got (a : Addr) (D : Cell) (fV fC : Field) (A : Cell) (o len : Nat) (r : Option Value) (s u : State) : Prop := r = none ∧ ∃ D' V : Cell, Blank "java/lang/String" a D' u ∧ Same D D' [fV.slot, fC.slot] ∧ D'.slots[fV.slot]? = some (.ref s.heap.size) ∧ D'.slots[fC.slot]? = some (.int 0) ∧ Arr .byte s.heap.size V u ∧ V.vm = .none ∧ u.vm.findClass "[B" = some V.cls ∧ V.slots.size = len ∧ (∀ j, j < len → V.slots[j]? = some (.int (lo8 (cv A (o + j))))) ∧ (∀ (y : Addr) (c : Cell), y ≠ a → s.heap[y]? = some c → u.heap[y]? = some c) ∧ u.heap.size = s.heap.size + 1
theorem Got.mv {a : Addr} {D A : Cell} {fV fC : Field} {o len : Nat} : ∀ r (U U' V V' : State), U'.heap = U.heap → V.vm.Alike V'.vm → V'.heap = V.heap → Got a D fV fC A o len r U V → Got a D fV fC A o len r U' V' :=
  fun r U U' V V' h1 hal h2 ⟨e0, D', X, a1, a2, a3, a4, a5, a6, a7, a8, a9, a10, a11⟩ => ⟨e0, D', X, a1.mv hal h2, a2, by rw [h1]; exact a3, a4, by rw [h1]; exact a5.mv hal h2, a6, by rw [hal.findClass]; exact a7, a8, a9, by rw [h1, h2]; exact a10, by rw [h1, h2]; exact a11⟩
namespace New4
def yN : MethodName := ⟨"java/lang/String", "<init>", "([CIILjava/lang/Void;)V"⟩
abbrev yB : ByteArray := jdk_42_method_149_code
theorem d0 : decode yB 0 = .ok (.aload_n 0, 1) := by decide +kernel
theorem d1 : decode yB 1 = .ok (.invokespecial 1, 3) := by decide +kernel
theorem d4 : decode yB 4 = .ok (.iload_n 3, 1) := by decide +kernel
theorem d5 : decode yB 5 = .ok (.ifCond (.ne) 22, 3) := by decide +kernel
theorem d27 : decode yB 27 = .ok (.getstatic 38, 3) := by decide +kernel
theorem d30 : decode yB 30 = .ok (.ifCond (.eq) 28, 3) := by decide +kernel
theorem d33 : decode yB 33 = .ok (.aload_n 1, 1) := by decide +kernel
theorem d34 : decode yB 34 = .ok (.iload_n 2, 1) := by decide +kernel
theorem d35 : decode yB 35 = .ok (.iload_n 3, 1) := by decide +kernel
theorem d36 : decode yB 36 = .ok (.invokestatic 177, 3) := by decide +kernel
theorem d39 : decode yB 39 = .ok (.astore 5, 2) := by decide +kernel
theorem d41 : decode yB 41 = .ok (.aload_n 0, 1) := by decide +kernel
theorem d42 : decode yB 42 = .ok (.aload 5, 2) := by decide +kernel
theorem d44 : decode yB 44 = .ok (.iload_n 3, 1) := by decide +kernel
theorem d45 : decode yB 45 = .ok (.invokestatic 47, 3) := by decide +kernel
theorem d48 : decode yB 48 = .ok (.putfield 15, 3) := by decide +kernel
theorem d51 : decode yB 51 = .ok (.aload_n 0, 1) := by decide +kernel
theorem d52 : decode yB 52 = .ok (.aload 5, 2) := by decide +kernel
theorem d54 : decode yB 54 = .ok (.putfield 9, 3) := by decide +kernel
theorem d57 : decode yB 57 = .ok (.return_, 1) := by decide +kernel
def site : List Cond := [.fieldLink "java/lang/String" 38 "java/lang/String" "COMPACT_STRINGS" "Z", Cmp3.tab, CodL.tab, .laysFinal "java/lang/String" "java/lang/String" "value" "[B", .fieldLink "java/lang/String" 9 "java/lang/String" "value" "[B", .laysFinal "java/lang/String" "java/lang/String" "coder" "B", .fieldLink "java/lang/String" 15 "java/lang/String" "coder" "B"] ++ objW "java/lang/String" 1 ++ staticW "java/lang/String" 177 Cmp3.yN ++ staticW "java/lang/String" 47 CodL.yN
def tab : Cond := tabOf yN yB 6 none site
def P (a : Addr) (D : Cell) (fV fC : Field) (b : Addr) (A : Cell) (z : Int32) (o len : Nat) (args : Array Value) (s : State) : Prop := args = #[.ref a, .ref b, .int (Int32.ofNat o), .int (Int32.ofNat len), .null] ∧ Blank "java/lang/String" a D s ∧ Found "java/lang/String" "value" "[B" fV s ∧ Found "java/lang/String" "coder" "B" fC s ∧ Ch b A s ∧ StaticIs s "java/lang/String" "COMPACT_STRINGS" "Z" (.int z) ∧ ¬ z = 0 ∧ 0 < len ∧ o + len ≤ A.slots.size ∧ len ≤ 536870912 ∧ ∀ i, i < len → ¬ 255 < cv A (o + i)
def E (a : Addr) (D : Cell) (fV fC : Field) (A : Cell) (o len : Nat) (r : Option Value) (s u : State) : Prop := Got a D fV fC A o len r s u
/-- len > 0, no char of the range above 255: a Latin-1 String of their low bytes -/
theorem law (l : Launch) (a : Addr) (D : Cell) (fV fC : Field) (b : Addr) (A : Cell) (z : Int32) (o len : Nat) : Law l yN 5 4 2 35 yB 6 none site (P a D fV fC b A z o len) (E a D fV fC A o len) [⟨a, fC.slot⟩, ⟨a, fV.slot⟩] 1 len := by
  refine Law.of_walk (plainFor_of_name (by decide +kernel)) (by decide +kernel) (by decide +kernel) (by decide) (fun _ _ h => by rw [h.1]; rfl) (fun _ U U' hal hh h => ⟨h.1, h.2.1.mv hal hh, h.2.2.1.al hal, h.2.2.2.1.al hal, h.2.2.2.2.1.mv hal hh, h.2.2.2.2.2.1.there hal hh, h.2.2.2.2.2.2⟩) (fun r U U' V V' h1 hal h2 h => Got.mv r U U' V V' h1 hal h2 h) ?_
  intro p e s m args below meth c s₁ X0 hexec hbytes hml hret hlk hnm hown hh0 W hP
  obtain ⟨rfl, hB, f1, f2, hA, s1, hz, l0, l1, l2, hp⟩ := hP
  have a31 := hA.1.2.2.2
  have c1 : Steps p.tables e below (s₁.setTop (entryFrame m #[.ref a, .ref b, .int (Int32.ofNat o), .int (Int32.ofNat len), .null] 6)) (s₁.setTop (mkF m 0 #[.val (.ref a), .val (.ref b), .val (.int (Int32.ofNat o)), .val (.int (Int32.ofNat len)), .val .null, .unset] [])) := entry rfl
  have c2 : Steps p.tables e below (s₁.setTop (entryFrame m #[.ref a, .ref b, .int (Int32.ofNat o), .int (Int32.ofNat len), .null] 6)) (s₁.setTop (mkF m 1 #[.val (.ref a), .val (.ref b), .val (.int (Int32.ofNat o)), .val (.int (Int32.ofNat len)), .val .null, .unset] [.ref a])) := c1.trans (by
    refine XS.aloadN X0.here hexec rfl (hb hbytes d0) rfl rfl ?_
    exact Steps.refl _)
  obtain ⟨T3, X3, q3, st3⟩ := X0.oinit hexec hown (wks W (objW "java/lang/String" 1)) (g := (mkF m 1 #[.val (.ref a), .val (.ref b), .val (.int (Int32.ofNat o)), .val (.int (Int32.ofNat len)), .val .null, .unset] [.ref a])) rfl (by rw [hml]; rfl) (rest := []) rfl (hb hbytes d1) (W := 0) (by show 2 * 0 + 0 ≤ _; decide) (Nat.le_of_ble_eq_true rfl) (Nat.le_of_ble_eq_true rfl)
  have hh3 := q3.trans hh0
  have c4 : Steps p.tables e below (s₁.setTop (entryFrame m #[.ref a, .ref b, .int (Int32.ofNat o), .int (Int32.ofNat len), .null] 6)) (T3.setTop (mkF m 27 #[.val (.ref a), .val (.ref b), .val (.int (Int32.ofNat o)), .val (.int (Int32.ofNat len)), .val .null, .unset] [])) := (c2.trans (st3 _ (Steps.refl _))).trans (by
    refine XS.iloadN X3.here hexec rfl (hb hbytes d4) rfl ?_
    refine XS.ifYes X3.here hexec rfl (pc0 := 5) rfl (hb hbytes d5) rfl (i0_ne_t (nz32 (by omega) l0)) (by decide) rfl ?_
    exact Steps.refl _)
  obtain ⟨T5, X5, q5, st5⟩ := X3.sget hexec hown (wk W (.fieldLink "java/lang/String" 38 "java/lang/String" "COMPACT_STRINGS" "Z")) s1 (fun _ _ h => by rw [hh3]; exact h) (g := (mkF m 27 #[.val (.ref a), .val (.ref b), .val (.int (Int32.ofNat o)), .val (.int (Int32.ofNat len)), .val .null, .unset] [])) rfl (hb hbytes d27)
  have hh5 := q5.trans hh3
  have c6 : Steps p.tables e below (s₁.setTop (entryFrame m #[.ref a, .ref b, .int (Int32.ofNat o), .int (Int32.ofNat len), .null] 6)) (T5.setTop (mkF m 30 #[.val (.ref a), .val (.ref b), .val (.int (Int32.ofNat o)), .val (.int (Int32.ofNat len)), .val .null, .unset] [.int z])) := c4.trans (st5 _ (Steps.refl _))
  have c7 : Steps p.tables e below (s₁.setTop (entryFrame m #[.ref a, .ref b, .int (Int32.ofNat o), .int (Int32.ofNat len), .null] 6)) (T5.setTop (mkF m 36 #[.val (.ref a), .val (.ref b), .val (.int (Int32.ofNat o)), .val (.int (Int32.ofNat len)), .val .null, .unset] [.int (Int32.ofNat len), .int (Int32.ofNat o), .ref b])) := c6.trans (by
    refine XS.ifNo X5.here hexec rfl (hb hbytes d30) rfl (i0_eq_f hz) ?_
    refine XS.aloadN X5.here hexec rfl (hb hbytes d33) rfl rfl ?_
    refine XS.iloadN X5.here hexec rfl (hb hbytes d34) rfl ?_
    refine XS.iloadN X5.here hexec rfl (hb hbytes d35) rfl ?_
    exact Steps.refl _)
  obtain ⟨v8, T8, X8, E8, g8⟩ := X5.callS hexec (Cmp3.law l b A o len) hown (wks W (staticW "java/lang/String" 177 Cmp3.yN)) (wk W Cmp3.tab) (W := 0) (Nat.le_of_ble_eq_true rfl) (Nat.le_of_ble_eq_true rfl) (Nat.le_refl _) (by show 0 + len ≤ len; omega) (g := (mkF m 36 #[.val (.ref a), .val (.ref b), .val (.int (Int32.ofNat o)), .val (.int (Int32.ofNat len)), .val .null, .unset] [.int (Int32.ofNat len), .int (Int32.ofNat o), .ref b])) rfl (by rw [hml]; rfl) c7 (argsL := [.ref b, .int (Int32.ofNat o), .int (Int32.ofNat len)]) (rest := []) rfl rfl (by show 2 * 0 + 0 ≤ _; decide) (hb hbytes d36) (⟨rfl, hA.mv X5.warmed.alike hh5, l1, l2, hp⟩)
  obtain ⟨e8, z8⟩ := E8
  obtain ⟨rfl, N, n1, n2, n3, n4, n5, n6⟩ := NewArr.mv _ T5 s _ _ hh5.symm (Vm.Alike.refl _) rfl e8
  rw [hh5] at z8
  have hB1 := hB.keep X8.warmed.alike (n6 _ _ hB.1)
  have hne : s.heap.size ≠ a := (Nat.ne_of_lt (Array.getElem?_eq_some_iff.mp hB.1).1).symm
  have c9 : Steps p.tables e below (s₁.setTop (entryFrame m #[.ref a, .ref b, .int (Int32.ofNat o), .int (Int32.ofNat len), .null] 6)) (T8.setTop (mkF m 39 #[.val (.ref a), .val (.ref b), .val (.int (Int32.ofNat o)), .val (.int (Int32.ofNat len)), .val .null, .unset] [.ref s.heap.size])) := g8
  have c10 : Steps p.tables e below (s₁.setTop (entryFrame m #[.ref a, .ref b, .int (Int32.ofNat o), .int (Int32.ofNat len), .null] 6)) (T8.setTop (mkF m 45 #[.val (.ref a), .val (.ref b), .val (.int (Int32.ofNat o)), .val (.int (Int32.ofNat len)), .val .null, .val (.ref s.heap.size)] [.int (Int32.ofNat N.slots.size), .ref s.heap.size, .ref a])) := by
    have hc : Steps p.tables e below (s₁.setTop (entryFrame m #[.ref a, .ref b, .int (Int32.ofNat o), .int (Int32.ofNat len), .null] 6)) (T8.setTop (mkF m 45 #[.val (.ref a), .val (.ref b), .val (.int (Int32.ofNat o)), .val (.int (Int32.ofNat len)), .val .null, .val (.ref s.heap.size)] [.int (Int32.ofNat len), .ref s.heap.size, .ref a])) := c9.trans (by
      refine XS.astore X8.here hexec rfl (hb hbytes d39) rfl rfl rfl ?_
      refine XS.aloadN X8.here hexec rfl (hb hbytes d41) rfl rfl ?_
      refine XS.aload X8.here hexec rfl (hb hbytes d42) rfl rfl ?_
      refine XS.iloadN X8.here hexec rfl (hb hbytes d44) rfl ?_
      exact Steps.refl _)
    rw [n4]; exact hc
  obtain ⟨v11, T11, X11, E11, g11⟩ := X8.callS hexec (CodL.law l s.heap.size N) hown (wks W (staticW "java/lang/String" 47 CodL.yN)) (wk W CodL.tab) (W := 1) (Nat.le_of_ble_eq_true rfl) (Nat.le_of_ble_eq_true rfl) (Nat.le_refl _) (by show 0 + len + 0 ≤ len; omega) (g := (mkF m 45 #[.val (.ref a), .val (.ref b), .val (.int (Int32.ofNat o)), .val (.int (Int32.ofNat len)), .val .null, .val (.ref s.heap.size)] [.int (Int32.ofNat N.slots.size), .ref s.heap.size, .ref a])) rfl (by rw [hml]; rfl) c10 (argsL := [.ref s.heap.size, .int (Int32.ofNat N.slots.size)]) (rest := [.ref a]) rfl rfl (by show 2 * 0 + (1 + 0) ≤ _; decide) (hb hbytes d45) (⟨rfl, n1⟩)
  obtain ⟨rfl, q11⟩ := E11
  have hB11 := hB1.mv (X8.warmed.alike.symm.trans X11.warmed.alike) q11
  have c12 : Steps p.tables e below (s₁.setTop (entryFrame m #[.ref a, .ref b, .int (Int32.ofNat o), .int (Int32.ofNat len), .null] 6)) (T11.setTop (mkF m 48 #[.val (.ref a), .val (.ref b), .val (.int (Int32.ofNat o)), .val (.int (Int32.ofNat len)), .val .null, .val (.ref s.heap.size)] [.int 0, .ref a])) := g11
  obtain ⟨T13, X13, p13, bl13, sl13, st13⟩ := X11.finit hexec hown (wk W (.fieldLink "java/lang/String" 15 "java/lang/String" "coder" "B")) (Or.inr ⟨_, (wk W (.laysFinal "java/lang/String" "java/lang/String" "coder" "B"))⟩) (Or.inl ⟨rfl, hnm⟩) f2 (Or.inl rfl) hB11 (t := .byte) (by decide +kernel) rfl (g := (mkF m 48 #[.val (.ref a), .val (.ref b), .val (.int (Int32.ofNat o)), .val (.int (Int32.ofNat len)), .val .null, .val (.ref s.heap.size)] [.int 0, .ref a])) rfl (rest := []) rfl (hb hbytes d48)
  have c14 : Steps p.tables e below (s₁.setTop (entryFrame m #[.ref a, .ref b, .int (Int32.ofNat o), .int (Int32.ofNat len), .null] 6)) (T13.setTop (mkF m 54 #[.val (.ref a), .val (.ref b), .val (.int (Int32.ofNat o)), .val (.int (Int32.ofNat len)), .val .null, .val (.ref s.heap.size)] [.ref s.heap.size, .ref a])) := (c12.trans (st13 _ (Steps.refl _))).trans (by
    refine XS.aloadN X13.here hexec rfl (hb hbytes d51) rfl rfl ?_
    refine XS.aload X13.here hexec rfl (hb hbytes d52) rfl rfl ?_
    exact Steps.refl _)
  obtain ⟨T15, X15, p15, bl15, sl15, st15⟩ := X13.finit hexec hown (wk W (.fieldLink "java/lang/String" 9 "java/lang/String" "value" "[B")) (Or.inr ⟨_, (wk W (.laysFinal "java/lang/String" "java/lang/String" "value" "[B"))⟩) (Or.inl ⟨rfl, hnm⟩) f1 (Or.inl rfl) bl13 (t := (.array .byte)) (by decide +kernel) rfl (g := (mkF m 54 #[.val (.ref a), .val (.ref b), .val (.int (Int32.ofNat o)), .val (.int (Int32.ofNat len)), .val .null, .val (.ref s.heap.size)] [.ref s.heap.size, .ref a])) rfl (rest := []) rfl (hb hbytes d54)
  have c16 : Steps p.tables e below (s₁.setTop (entryFrame m #[.ref a, .ref b, .int (Int32.ofNat o), .int (Int32.ofNat len), .null] 6)) (T15.setTop (mkF m 57 #[.val (.ref a), .val (.ref b), .val (.int (Int32.ofNat o)), .val (.int (Int32.ofNat len)), .val .null, .val (.ref s.heap.size)] [])) := c14.trans (st15 _ (Steps.refl _))
  have ap := apart (Or.inr ⟨_, (wk W (.laysFinal "java/lang/String" "java/lang/String" "value" "[B"))⟩) (Or.inr ⟨_, (wk W (.laysFinal "java/lang/String" "java/lang/String" "coder" "B"))⟩) f1 f2 (t₁ := .array .byte) (t₂ := .byte) (by decide +kernel) (by decide +kernel) (by decide)
  have al := X8.warmed.alike.symm.trans X15.warmed.alike
  have n7 : T11.heap[s.heap.size]? = some N := by rw [q11]; exact n1.1
  exact ⟨T15, none, _, _, _, X15, by simp, rfl, by omega, (fun _ => rfl), ⟨rfl, _, N, bl15, ((Same.refl D _).set _ (by simp)).set _ (by simp), sl15, (Cell.slots_setSlot_ne _ ap).trans sl13, n1.keep al (p15.other hne (p13.other hne n7)), n2, by rw [al.findClass]; exact n3, n4, n5, fun y c h1 h2 => p15.other h1 (p13.other h1 (by rw [q11]; exact n6 y c h2)), by rw [p15.2.2, p13.2.2, q11]; exact z8⟩, fun fs hl => c16.trans (X15.returnOut hexec hret (hb hbytes d57) hl)⟩
end New4
namespace New1
def yN : MethodName := ⟨"java/lang/String", "<init>", "([C)V"⟩
abbrev yB : ByteArray := jdk_42_method_3_code
theorem d0 : decode yB 0 = .ok (.aload_n 0, 1) := by decide +kernel
theorem d1 : decode yB 1 = .ok (.aload_n 1, 1) := by decide +kernel
theorem d2 : decode yB 2 = .ok (.iconst 0, 1) := by decide +kernel
theorem d3 : decode yB 3 = .ok (.aload_n 1, 1) := by decide +kernel
theorem d4 : decode yB 4 = .ok (.arraylength, 1) := by decide +kernel
theorem d5 : decode yB 5 = .ok (.aconst_null, 1) := by decide +kernel
theorem d6 : decode yB 6 = .ok (.invokespecial 27, 3) := by decide +kernel
theorem d9 : decode yB 9 = .ok (.return_, 1) := by decide +kernel
def site : List Cond := [New4.tab] ++ initW "java/lang/String" 27 New4.yN
def tab : Cond := tabOf yN yB 2 none site
def P (a : Addr) (D : Cell) (fV fC : Field) (b : Addr) (A : Cell) (z : Int32) (args : Array Value) (s : State) : Prop := args = #[.ref a, .ref b] ∧ Blank "java/lang/String" a D s ∧ Found "java/lang/String" "value" "[B" fV s ∧ Found "java/lang/String" "coder" "B" fC s ∧ Ch b A s ∧ StaticIs s "java/lang/String" "COMPACT_STRINGS" "Z" (.int z) ∧ ¬ z = 0 ∧ 0 < A.slots.size ∧ A.slots.size ≤ 536870912 ∧ ∀ i, i < A.slots.size → ¬ 255 < cv A i
def E (a : Addr) (D : Cell) (fV fC : Field) (A : Cell) (r : Option Value) (s u : State) : Prop := Got a D fV fC A 0 A.slots.size r s u
/-- new String(chars), not empty, no char above 255: a Latin-1 String of their low bytes -/
theorem law (l : Launch) (a : Addr) (D : Cell) (fV fC : Field) (b : Addr) (A : Cell) (z : Int32) : Law l yN 2 1 3 52 yB 2 none site (P a D fV fC b A z) (E a D fV fC A) [⟨a, fC.slot⟩, ⟨a, fV.slot⟩] 1 A.slots.size := by
  refine Law.of_walk (plainFor_of_name (by decide +kernel)) (by decide +kernel) (by decide +kernel) (by decide) (fun _ _ h => by rw [h.1]; rfl) (fun _ U U' hal hh h => ⟨h.1, h.2.1.mv hal hh, h.2.2.1.al hal, h.2.2.2.1.al hal, h.2.2.2.2.1.mv hal hh, h.2.2.2.2.2.1.there hal hh, h.2.2.2.2.2.2⟩) (fun r U U' V V' h1 hal h2 h => Got.mv r U U' V V' h1 hal h2 h) ?_
  intro p e s m args below meth c s₁ X0 hexec hbytes hml hret hlk hnm hown hh0 W hP
  obtain ⟨rfl, hB, f1, f2, hA, s1, hz, l0, l2, hp⟩ := hP
  have c1 : Steps p.tables e below (s₁.setTop (entryFrame m #[.ref a, .ref b] 2)) (s₁.setTop (mkF m 0 #[.val (.ref a), .val (.ref b)] [])) := entry rfl
  have c2 : Steps p.tables e below (s₁.setTop (entryFrame m #[.ref a, .ref b] 2)) (s₁.setTop (mkF m 6 #[.val (.ref a), .val (.ref b)] [.null, .int (Int32.ofNat A.slots.size), .int 0, .ref b, .ref a])) := c1.trans (by
    refine XS.aloadN X0.here hexec rfl (hb hbytes d0) rfl rfl ?_
    refine XS.aloadN X0.here hexec rfl (hb hbytes d1) rfl rfl ?_
    refine iconstV X0.here hexec rfl 0 (hb hbytes d2) (by decide) ?_
    refine XS.aloadN X0.here hexec rfl (hb hbytes d3) rfl rfl ?_
    refine X0.alen hexec (hA.1.mv X0.warmed.alike hh0) rfl rfl (hb hbytes d4) ?_
    refine XS.aconstNull X0.here hexec rfl (hb hbytes d5) ?_
    exact Steps.refl _)
  obtain ⟨v3, T3, X3, E3, g3⟩ := X0.callN hexec (New4.law l a D fV fC b A z 0 A.slots.size) rfl hown (wks W (initW "java/lang/String" 27 New4.yN)) (W New4.tab (by simp only [site, List.mem_cons, List.mem_append, true_or, or_true])) (W := 0) (Nat.le_of_ble_eq_true rfl) (Nat.le_of_ble_eq_true rfl) (Nat.le_refl _) (by show 0 + A.slots.size ≤ A.slots.size; omega) (g := (mkF m 6 #[.val (.ref a), .val (.ref b)] [.null, .int (Int32.ofNat A.slots.size), .int (Int32.ofNat 0), .ref b, .ref a])) rfl (by rw [hml]; rfl) c2 (argsL := [.ref b, .int (Int32.ofNat 0), .int (Int32.ofNat A.slots.size), .null]) (rest := []) rfl rfl (by show 2 * 0 + 0 ≤ _; decide) (hb hbytes d6) (⟨rfl, hB.mv X0.warmed.alike hh0, f1.al X0.warmed.alike, f2.al X0.warmed.alike, hA.mv X0.warmed.alike hh0, s1.there X0.warmed.alike hh0, hz, l0, by omega, l2, fun i hi => by rw [Nat.zero_add]; exact hp i hi⟩)
  have e0 := Got.mv _ s₁ s _ _ hh0.symm (Vm.Alike.refl _) rfl E3
  obtain rfl := e0.1
  have c4 : Steps p.tables e below (s₁.setTop (entryFrame m #[.ref a, .ref b] 2)) (T3.setTop (mkF m 9 #[.val (.ref a), .val (.ref b)] [])) := g3
  exact ⟨T3, none, _, _, _, X3, by simp, rfl, by omega, (fun _ => rfl), e0, fun fs hl => c4.trans (X3.returnOut hexec hret (hb hbytes d9) hl)⟩
theorem pays {l : Launch} {R : Room} {p : Program} {e : Env} {below : List Frame} {s : State} {sargs : Array Value} {len W : Nat} (a : Addr) (D : Cell) (fV fC : Field) (b : Addr) (A : Cell) (z : Int32) (htab : tab.before sargs s = true) (hfr : 4 ≤ R.frames) (hlo : W + 65 ≤ R.locals) :
    Back l R p e below s sargs yN len W (fun A₁ a₁ => A₁.cells + 1 ≤ R.cells ∧ A₁.slots + A.slots.size ≤ R.slots ∧ P a D fV fC b A z a₁ A₁.U) (fun A₁ _ v₁ B₁ => E a D fV fC A v₁ A₁.U B₁.U ∧ B₁.locs = A₁.locs ++ [⟨a, fC.slot⟩, ⟨a, fV.slot⟩] ∧ B₁.cells = A₁.cells + 1 ∧ B₁.slots = A₁.slots + A.slots.size) :=
  (law l a D fV fC b A z).pays htab hfr (by omega)
end New1
/-- the byte, read back as charAt reads it, is the char -/
theorem lo8_mask {x : Int32} (h0 : ¬ x < 0) (h1 : ¬ 255 < x) : lo8 x &&& 255 = x := by
  have t : ∀ k : Fin 256, lo8 (Int32.ofNat k.val) &&& 255 = Int32.ofNat k.val := by decide +kernel
  rw [Int32.lt_iff_toInt_lt] at h0 h1
  have e0 : (0 : Int32).toInt = 0 := rfl
  have e1 : (255 : Int32).toInt = 255 := rfl
  obtain ⟨k, hk⟩ : ∃ k : Nat, x.toInt = k := ⟨x.toInt.toNat, by omega⟩
  have hx : x = Int32.ofNat k := Int32.toInt_inj.mp (by rw [hk, Int32.toInt_ofNat_small (by omega)])
  rw [hx]
  exact t ⟨k, by omega⟩
end StrChars
namespace StrChars.Road
open Jvm Sem ClassFile Op Lib Jvm.Stand Jvm.Free Jvm.Free.XT
open Jvm.Lib.Cold (StaticIs)
abbrev ST : String := "java/lang/String"
/-- every table word that New1's law asks, flat -/
abbrev words : List Jvm.Cond := [.code New1.yN New1.yB 2 none, .initialized ST, .methodLink ST 27 New4.yN, .instanceMethod New4.yN,
  .code New4.yN New4.yB 6 none, .fieldLink ST 38 ST "COMPACT_STRINGS" "Z", .laysFinal ST ST "value" "[B", .fieldLink ST 9 ST "value" "[B", .laysFinal ST ST "coder" "B", .fieldLink ST 15 ST "coder" "B",
  .methodLink ST 1 Lib.objectInit, .instanceMethod Lib.objectInit, .code Lib.objectInit ⟨#[0xb1]⟩ 1 none, .methodLink ST 177 Cmp3.yN, .static Cmp3.yN, .methodLink ST 47 CodL.yN, .static CodL.yN,
  .code Cmp3.yN Cmp3.yB 6 (some (.array .byte)), .initialized U16, .arrayClass .byte, .methodLink U16 115 Cmp5.yN, .static Cmp5.yN, .code Cmp5.yN Cmp5.yB 7 (some .int), .code CodL.yN CodL.yB 2 (some .byte)]
theorem tab_of {a : Array Value} {s : State} (h : ∀ w ∈ words, w.before a s = true) : New1.tab.before a s = true := by
  have h5 : Cmp5.tab.before a s = true := unparts (wk h (.code Cmp5.yN Cmp5.yB 7 (some .int))) (wks h (.initialized Cmp5.yN.cls :: Cmp5.site))
  have hc : CodL.tab.before a s = true := unparts (wk h (.code CodL.yN CodL.yB 2 (some .byte))) (wks h (.initialized CodL.yN.cls :: CodL.site))
  have q5 : ∀ w ∈ Cmp5.tab :: words, w.before a s = true := fun w hw => (List.mem_cons.mp hw).elim (fun e => e ▸ h5) (h w)
  have h3 : Cmp3.tab.before a s = true := unparts (wk q5 (.code Cmp3.yN Cmp3.yB 6 (some (.array .byte)))) (wks q5 (.initialized Cmp3.yN.cls :: Cmp3.site))
  have q3 : ∀ w ∈ Cmp3.tab :: CodL.tab :: words, w.before a s = true := fun w hw => (List.mem_cons.mp hw).elim (fun e => e ▸ h3) fun hw => (List.mem_cons.mp hw).elim (fun e => e ▸ hc) (h w)
  have h4 : New4.tab.before a s = true := unparts (wk q3 (.code New4.yN New4.yB 6 none)) (wks q3 (.initialized New4.yN.cls :: New4.site))
  have q4 : ∀ w ∈ New4.tab :: words, w.before a s = true := fun w hw => (List.mem_cons.mp hw).elim (fun e => e ▸ h4) (h w)
  exact unparts (wk q4 (.code New1.yN New1.yB 2 none)) (wks q4 (.initialized New1.yN.cls :: New1.site))
/-- the words ride from the start Z to the walk's own state -/
theorem moved {Z s : State} {a0 args : Array Value} (hZ : Z.Warmed39 s.vm) (hw : ∀ d ∈ words, d.before a0 Z = true) : ∀ d ∈ words, d.before args s = true := fun d hd => by
  have q := hw d hd
  have t : ∀ d ∈ words, d = .arrayClass .byte ∨ (d.onTables && d.keepsFace) = true := by decide +kernel
  rcases t d hd with rfl | t
  · exact RoadKit.mvA hZ q
  · exact RoadKit.mv hZ q t
/-- WHAT COMES BACK, over the tables of the start Z: h the heap at the call, h' behind it -/
def Q (Z : State) (x : Addr) (A : Cell) (h : Heap) (v : Option Value) (h' : Heap) (L : List Loc) : Prop := v = none ∧ (∀ y ∈ L, y.base = x) ∧ RoadKit.Keep h h' [x] ∧ h'.size = h.size + 1 ∧ RoadKit.Exa Z h' x ST ∧ RoadKit.Fld Z h' x ST "value" "[B" (.ref h.size) ∧ RoadKit.Fld Z h' x ST "coder" "B" (.int 0) ∧
  (∃ V : Cell, RoadKit.Arr Z h' h.size V .byte ∧ V.vm = .none ∧ Z.vm.findClass "[B" = some V.cls ∧ V.slots.size = A.slots.size ∧ ∀ j, j < A.slots.size → V.slots[j]? = some (.int (lo8 (cv A j)))) ∧
  ∀ (O n d : String) (w : Value), RoadKit.Fld Z h x O n d w → RoadKit.slotOf Z O n d ≠ RoadKit.slotOf Z ST "value" "[B" → RoadKit.slotOf Z O n d ≠ RoadKit.slotOf Z ST "coder" "B" → RoadKit.Fld Z h' x O n d w
/-- **new String(chars) AT A CALL, IN THE ROAD'S FORM**: for specialBack behind newO: x the fresh String, b the char[] with the cell A -/
theorem back {p : Program} {l : Launch} {e : Env} {R : Room} {s : State} {args : Array Value} {below : List Frame} {len W : Nat} {Z : State} {a0 : Array Value} {h : Heap} (hZ : Z.Warmed39 s.vm) (hw : ∀ d ∈ words, d.before a0 Z = true) {kI : Nat} (wi : (Jvm.Cond.instantiable ST kI).before a0 Z = true)
    {x b : Addr} {A : Cell} {z : Int32} {v0 c0 : Value} (E : RoadKit.Exa Z h x ST) (V : RoadKit.Fld Z h x ST "value" "[B" v0) (C : RoadKit.Fld Z h x ST "coder" "B" c0) (K : RoadKit.Arr Z h b A .char) (hty : Typed .char A) (S : RoadKit.Sta Z h ST "COMPACT_STRINGS" "Z" (.int z)) (hz : ¬ z = 0)
    (l0 : 0 < A.slots.size) (l2 : A.slots.size ≤ 536870912) (hp : ∀ i, i < A.slots.size → ¬ 255 < cv A i) (hfr : 4 ≤ R.frames) (hlo : W + 65 ≤ R.locals) :
    Back l R p e below s args New1.yN len W (fun P a => a = #[.ref x, .ref b] ∧ P.U.heap = h ∧ P.cells + 1 ≤ R.cells ∧ P.slots + A.slots.size ≤ R.slots)
      (fun P _ v B => ∃ L, Q Z x A h v B.U.heap L ∧ B.locs = P.locs ++ L ∧ B.cells = P.cells + 1 ∧ B.slots = P.slots + A.slots.size) := by
  intro m meth c P g ig mk a X hg hsize hdg hW hn hp'
  obtain ⟨rfl, rfl, r1, r2⟩ := hp'
  have al : Z.vm.Alike P.U.vm := hZ.alike.trans X.warmed.alike
  obtain ⟨D, cfV, kV, iV, fV, hD, gV, stV, knV, obV, asV, slV⟩ := id V
  obtain ⟨D', cfC, kC, iC, fC, hD', gC, stC, -, -, asC, slC⟩ := id C
  cases hD.symm.trans hD'
  obtain ⟨D2, kD, e1, e2, e3, e4, e5⟩ := id E
  cases hD.symm.trans e1
  obtain ⟨c2, k2, i1, i2, i3, -⟩ := Cond.instantiable_spec wi
  cases e2.symm.trans i1
  cases e3.symm.trans i2
  obtain ⟨kU, u1, u2⟩ := al.2.2 _ _ e3
  have hB : Blank ST x D P.U := ⟨hD, ⟨knV, fun q hq => by rw [hq] at obV; cases obV⟩, by rw [al.findClass]; exact e2, kU, u1, by rw [u2]; exact i3, by rw [u2]; exact e5 i3⟩
  have F1 : Found ST "value" "[B" fV P.U := ⟨SBG.found_only al ⟨cfV, kV, iV, gV⟩, stV⟩
  have F2 : Found ST "coder" "B" fC P.U := ⟨SBG.found_only al ⟨cfC, kC, iC, gC⟩, stC⟩
  have hA : Ch b A P.U := ⟨⟨K.1, State.isArrayOf_alike al K.2.1, K.2.2, by omega⟩, hty⟩
  have hS : StaticIs P.U ST "COMPACT_STRINGS" "Z" (.int z) := by
    obtain ⟨cfS, iS, kS, fS, st, cS, t1, t2, t3, t4, t5, t6, t7⟩ := S
    exact StaticIs.there (s := { Z with heap := P.U.heap }) ⟨cfS, iS, kS, fS, st, cS, t1, t2, t3, t4, t5, (fun q => by rw [q] at t6; cases t6), t7⟩ al rfl
  obtain ⟨v, B, X', ⟨⟨hv, E', V', q1, q2, q3, q4, q5, q6, q7, q8, q9, q10, q11⟩, hl, hc, hs⟩, st⟩ := New1.pays x D fV fC b A z (tab_of (moved hZ hw)) hfr hlo m meth c P g ig mk _ X hg hsize hdg hW hn ⟨r1, r2, rfl, hB, F1, F2, hA, hS, hz, l0, l2, hp⟩
  have al' : Z.vm.Alike B.U.vm := hZ.alike.trans X'.warmed.alike
  have hsz : E'.slots.size = D.slots.size := by
    obtain ⟨-, -, -, kB, w1, w2, w3⟩ := q1
    obtain ⟨kB', y1, y2⟩ := al'.2.2 _ _ e3
    rw [q2.2.1] at w1
    cases w1.symm.trans y1
    rw [w3, e5 i3, y2]
  refine ⟨v, B, X', ⟨_, ⟨hv, ?_, ⟨by omega, fun y cy hy hn' => q10 y cy (by simpa using hn') hy, fun y cy hy => ?_⟩, q11, ⟨E', _, q1.1, by rw [q2.2.1]; exact e2, by rw [q2.2.1]; exact e3, by rw [q2.1]; exact obV, fun _ => by rw [hsz]; exact e5 i3⟩,
    ⟨E', cfV, kV, iV, fV, q1.1, gV, stV, by rw [q2.1]; exact knV, by rw [q2.1]; exact obV, by rw [q2.2.1]; exact asV, q3⟩, ⟨E', cfC, kC, iC, fC, q1.1, gC, stC, by rw [q2.1]; exact knV, by rw [q2.1]; exact obV, by rw [q2.2.1]; exact asC, q4⟩,
    ⟨V', ⟨q5.1, State.isArrayOf_alike al'.symm q5.2.1, q5.2.2.1⟩, q6, by rw [← al'.findClass]; exact q7, q8, fun j hj => by have := q9 j hj; rwa [Nat.zero_add] at this⟩, fun O n d w F n1 n2 => ?_⟩, hl, hc, hs⟩, st⟩
  · intro y hy
    simp only [List.mem_cons, List.not_mem_nil, or_false] at hy
    rcases hy with rfl | rfl <;> rfl
  · by_cases q : y = x
    · subst q
      cases hD.symm.trans hy
      exact ⟨E', q1.1, q2.2.1, q2.1, hsz⟩
    · exact ⟨cy, q10 y cy q hy, rfl, rfl, rfl⟩
  · obtain ⟨D3, cf, k, i, f, g1, g2, g3, g4, g5, g6, g7⟩ := F
    cases hD.symm.trans g1
    simp only [RoadKit.slotOf, g2, gV, gC, Option.map_some, Option.getD_some] at n1 n2
    exact ⟨E', cf, k, i, f, q1.1, g2, g3, by rw [q2.1]; exact g4, by rw [q2.1]; exact g5, by rw [q2.2.1]; exact g6, by rw [q2.2.2 f.slot (by simp [n1, n2])]; exact g7⟩
end StrChars.Road
namespace StrChars.Road
open Jvm Sem ClassFile Op Lib Jvm.Stand Jvm.Free Jvm.Free.XT
/-- WHAT COMES BACK, the byte[] as a list of values -/
def QA (Z : State) (x : Addr) (zn : Int32) (cs : List Int32) (h : Heap) (v : Option Value) (h' : Heap) (L : List Loc) : Prop := v = none ∧ (∀ y ∈ L, y.base = x) ∧ RoadKit.Keep h h' [x] ∧ h'.size = h.size + 1 ∧ RoadKit.Exa Z h' x ST ∧ RoadKit.Fld Z h' x ST "value" "[B" (.ref h.size) ∧ RoadKit.Fld Z h' x ST "coder" "B" (.int 0) ∧
  (∃ kb, Z.vm.findClass "[B" = some kb ∧ RoadKit.Arv Z h' h.size kb .byte zn (cs.map fun c => .int (lo8 c)) (.int 0)) ∧
  ∀ (O n d : String) (w : Value), RoadKit.Fld Z h x O n d w → RoadKit.slotOf Z O n d ≠ RoadKit.slotOf Z ST "value" "[B" → RoadKit.slotOf Z O n d ≠ RoadKit.slotOf Z ST "coder" "B" → RoadKit.Fld Z h' x O n d w
/-- **new String(chars) AT A CALL, THE ARRAYS AS LISTS**: the char[] at b holds cs, not empty, no char above 255 -/
theorem backArv {p : Program} {l : Launch} {e : Env} {R : Room} {s : State} {args : Array Value} {below : List Frame} {len W : Nat} {Z : State} {a0 : Array Value} {h : Heap} (hZ : Z.Warmed39 s.vm) (hw : ∀ d ∈ words, d.before a0 Z = true) {kI : Nat} (wi : (Jvm.Cond.instantiable ST kI).before a0 Z = true)
    {x b : Addr} {k : ClassId} {zn z : Int32} {cs : List Int32} {dv v0 c0 : Value} (E : RoadKit.Exa Z h x ST) (V : RoadKit.Fld Z h x ST "value" "[B" v0) (C : RoadKit.Fld Z h x ST "coder" "B" c0) (K : RoadKit.Arv Z h b k .char zn (cs.map Value.int) dv) (S : RoadKit.Sta Z h ST "COMPACT_STRINGS" "Z" (.int z)) (hz : ¬ z = 0)
    (hlen : zn.toNatClampNeg = cs.length) (h0 : 0 < cs.length) (hbig : cs.length ≤ 536870912) (hall : ∀ c ∈ cs, ¬ 255 < c) (hfr : 4 ≤ R.frames) (hlo : W + 65 ≤ R.locals) :
    Back l R p e below s args New1.yN len W (fun P a => a = #[.ref x, .ref b] ∧ P.U.heap = h ∧ P.cells + 1 ≤ R.cells ∧ P.slots + cs.length ≤ R.slots)
      (fun P _ v B => ∃ L, QA Z x zn cs h v B.U.heap L ∧ B.locs = P.locs ++ L ∧ B.cells = P.cells + 1 ∧ B.slots = P.slots + cs.length) := by
  obtain ⟨A, K1, K2, K3, K4, K5, K6⟩ := K
  have e : A.slots.size = cs.length := K3.trans hlen
  have hat : ∀ (i : Nat) (hi : i < cs.length), A.slots[i]? = some (.int cs[i]) := fun i hi => by rw [K5 i (by omega)]; simp [List.getD_eq_getElem?_getD, hi]
  have hcv : ∀ (i : Nat) (hi : i < cs.length), cv A i = cs[i] := fun i hi => by unfold cv; rw [hat i hi]
  have hty : Typed .char A := fun i v hv => by
    have hi : i < A.slots.size := (Array.getElem?_eq_some_iff.mp hv).1
    have q := K5 i hi
    rw [hv] at q
    rw [Option.some.inj q]
    exact K6 i hi
  refine Back.mono (back hZ hw wi E V C K1 hty S hz (by omega) (by omega) (fun i hi => by rw [hcv i (by omega)]; exact hall _ (List.getElem_mem _)) hfr hlo) (fun P a hp => ⟨hp.1, hp.2.1, hp.2.2.1, by rw [e]; exact hp.2.2.2⟩) (fun P a v B hp hq => ?_)
  obtain ⟨L, ⟨q1, q2, q3, q4, q5, q6, q7, ⟨V', v1, v2, v3, v4, v5⟩, q9⟩, hl, hc, hs⟩ := hq
  refine ⟨L, ⟨q1, q2, q3, q4, q5, q6, q7, ⟨V'.cls, v3, V', v1, rfl, by rw [v4, e, hlen], K4, fun i hi => ?_, fun i hi => ?_⟩, q9⟩, hl, hc, by rw [hs, e]⟩
  · have hi' : i < cs.length := by omega
    rw [v5 i (by omega), hcv i hi']; simp [List.getD_eq_getElem?_getD, hi']
  · have hi' : i < cs.length := by omega
    simp only [List.getD_eq_getElem?_getD, List.getElem?_map, List.getElem?_eq_getElem hi', Option.map_some, Option.getD_some]
    exact fits_lo8 _
end StrChars.Road
namespace StrChars
open Jvm Sem ClassFile Op Lib Jvm.Stand Jvm.Free.XT Jvm.Free.ALB Jvm.Free.JM Jvm.Free
open Jvm.Lib.Cold (StaticIs)
def hi8 (x : Int32) : Int32 := lo8 (x >>> ((8 : Int32) &&& 31))
/-- what StringUTF16.getChar makes of two bytes -/
def pairCh (u v : Int32) : Int32 := (((u &&& 255) <<< ((0 : Int32) &&& 31)) ||| ((v &&& 255) <<< ((8 : Int32) &&& 31))).toUInt32.toUInt16.toUInt32.toInt32
theorem lo8_and (x : Int32) : (lo8 x &&& 255).toBitVec.toNat = x.toBitVec.toNat % 256 := by
  have h : (lo8 x).toBitVec = (x.toBitVec.signExtend 8).signExtend 32 := by rw [lo8, Int8.toBitVec_toInt32, Int32.toBitVec_toInt8]
  rw [Int32.toBitVec_and, BitVec.toNat_and, h]
  have e : ((x.toBitVec.signExtend 8).signExtend 32).toNat % 256 = x.toBitVec.toNat % 256 := by
    rw [BitVec.toNat_signExtend]
    have hlt := x.toBitVec.isLt
    simp only [BitVec.toNat_setWidth, BitVec.toNat_signExtend]
    split <;> split <;> omega
  rw [← e]
  exact Nat.and_two_pow_sub_one_eq_mod _ 8
theorem pair_says {c : Int32} (h0 : ¬ c < 0) (h1 : ¬ 65535 < c) : pairCh (lo8 c) (hi8 c) = c := by
  rw [Int32.lt_iff_toInt_lt] at h0 h1
  have e0 : (0 : Int32).toInt = 0 := rfl
  have e1 : (65535 : Int32).toInt = 65535 := rfl
  have hc : c.toInt = c.toBitVec.toNat := by
    have := c.toBitVec.isLt
    have e : c.toInt = c.toBitVec.toInt := rfl
    rw [e] at h0 h1
    rw [e]
    rw [BitVec.toInt_eq_toNat_cond] at h0 h1 ⊢
    split at h0 <;> split <;> omega
  have hn : c.toBitVec.toNat < 65536 := by omega
  have a1 := lo8_and c
  have a2 : (hi8 c &&& 255).toBitVec.toNat = c.toBitVec.toNat / 256 := by
    rw [hi8, lo8_and]
    have e : ((8 : Int32) &&& 31) = 8 := by decide
    rw [e, Int32.toBitVec_shiftRight]
    have e2 : ((8 : Int32).toBitVec.smod 32) = 8#32 := by decide
    rw [e2, BitVec.sshiftRight_eq', BitVec.toNat_sshiftRight_of_msb_false (by rw [BitVec.msb_eq_false_iff_two_mul_lt]; omega)]
    show c.toBitVec.toNat >>> 8 % 256 = _
    rw [Nat.shiftRight_eq_div_pow]
    omega
  unfold pairCh
  apply Int32.toBitVec_inj.mp
  apply BitVec.eq_of_toNat_eq
  have f0 : ((0 : Int32) &&& 31) = 0 := by decide
  have f8 : ((8 : Int32) &&& 31) = 8 := by decide
  rw [f0, f8]
  have g : (((lo8 c &&& 255) <<< (0 : Int32)) ||| ((hi8 c &&& 255) <<< (8 : Int32))).toBitVec.toNat = c.toBitVec.toNat := by
    rw [Int32.toBitVec_or, Int32.toBitVec_shiftLeft, Int32.toBitVec_shiftLeft]
    have s0 : ((0 : Int32).toBitVec.smod 32) = 0#32 := by decide
    have s8 : ((8 : Int32).toBitVec.smod 32) = 8#32 := by decide
    rw [s0, s8, BitVec.toNat_or]
    simp only [BitVec.shiftLeft_eq', BitVec.toNat_shiftLeft, a1, a2]
    show (c.toBitVec.toNat % 256) <<< 0 % 2 ^ 32 ||| (c.toBitVec.toNat / 256) <<< 8 % 2 ^ 32 = _
    rw [Nat.shiftLeft_zero, Nat.mod_eq_of_lt (show c.toBitVec.toNat % 256 < 2 ^ 32 by omega), Nat.mod_eq_of_lt (show (c.toBitVec.toNat / 256) <<< 8 < 2 ^ 32 by rw [Nat.shiftLeft_eq]; omega), Nat.or_comm, ← Nat.shiftLeft_add_eq_or_of_lt (by omega), Nat.shiftLeft_eq]
    omega
  show BitVec.toNat (((((lo8 c &&& 255) <<< (0 : Int32)) ||| ((hi8 c &&& 255) <<< (8 : Int32))).toBitVec.setWidth 16).setWidth 32) = _
  rw [BitVec.toNat_setWidth, BitVec.toNat_setWidth, g]
  omega
end StrChars
namespace StrChars
open Jvm Sem ClassFile Op Lib Jvm.Stand Jvm.Free.XT Jvm.Free.ALB Jvm.Free.JM Jvm.Free
open Jvm.Lib.Cold (StaticIs)
/-- charAt's cast of a byte read back -/
def chr8 (u : Int32) : Int32 := (u &&& 255).toUInt32.toUInt16.toUInt32.toInt32
theorem chr8_lo8 {c : Int32} (h0 : ¬ c < 0) (h1 : ¬ 255 < c) : chr8 (lo8 c) = c := by
  have t : ∀ k : Fin 256, (Int32.ofNat k.val).toUInt32.toUInt16.toUInt32.toInt32 = Int32.ofNat k.val := by decide +kernel
  unfold chr8
  rw [lo8_mask h0 h1]
  rw [Int32.lt_iff_toInt_lt] at h0 h1
  have e0 : (0 : Int32).toInt = 0 := rfl
  have e1 : (255 : Int32).toInt = 255 := rfl
  obtain ⟨k, hk⟩ : ∃ k : Nat, c.toInt = k := ⟨c.toInt.toNat, by omega⟩
  have hx : c = Int32.ofNat k := Int32.toInt_inj.mp (by rw [hk, Int32.toInt_ofNat_small (by omega)])
  rw [hx]
  exact t ⟨k, by omega⟩
theorem narrow_ch {c : Int32} (h0 : ¬ c < 0) (h1 : ¬ 65535 < c) : narrow .char (.int c) = .int c := by
  have q : narrow .char (.int (pairCh (lo8 c) (hi8 c))) = .int (pairCh (lo8 c) (hi8 c)) := narrow_c _
  rwa [pair_says h0 h1] at q
/-- the array's cell V codes the n chars f 0 .. f (n - 1) by the coder cd, as the JDK does: coder 1 just where some char is above 255 -/
def Cod (cd : Int32) (n : Nat) (f : Nat → Int32) (V : Cell) : Prop := (cd = 0 ∧ V.slots.size = n ∧ ∀ j, j < n → V.slots[j]? = some (.int (lo8 (f j))) ∧ ¬ 255 < f j) ∨ (cd = 1 ∧ V.slots.size = 2 * n ∧ (∀ j, j < n → V.slots[2 * j]? = some (.int (lo8 (f j))) ∧ V.slots[2 * j + 1]? = some (.int (hi8 (f j)))) ∧ ∃ j, j < n ∧ 255 < f j)
theorem Cod.cd {cd : Int32} {n : Nat} {f : Nat → Int32} {V : Cell} (h : Cod cd n f V) : cd = 0 ∨ cd = 1 := h.imp (fun q => q.1) fun q => q.1
/-- **x is a String of the n chars f 0 .. f (n - 1)**, Latin-1 or UTF-16; its array at t has the cell V -/
def Txt (x t : Addr) (V : Cell) (cd : Int32) (n : Nat) (f : Nat → Int32) (U : State) : Prop := Exact "java/lang/String" x U ∧ Has x "java/lang/String" "value" "[B" (.ref t) U ∧ Has x "java/lang/String" "coder" "B" (.int cd) U ∧ XT.Arr .byte t V U ∧ Cod cd n f V ∧ ∀ j, j < n → ¬ f j < 0 ∧ ¬ 65535 < f j
theorem Txt.mv {x t : Addr} {V : Cell} {cd : Int32} {n : Nat} {f : Nat → Int32} {U U' : State} (h : Txt x t V cd n f U) (hal : U.vm.Alike U'.vm) (hh : U'.heap = U.heap) : Txt x t V cd n f U' := ⟨h.1.mv hal hh, h.2.1.mv hal hh, h.2.2.1.mv hal hh, h.2.2.2.1.mv hal hh, h.2.2.2.2⟩
namespace IsL
def yN : MethodName := ⟨"java/lang/String", "isLatin1", "()Z"⟩
abbrev yB : ByteArray := jdk_42_method_154_code
theorem d0 : decode yB 0 = .ok (.getstatic 38, 3) := by decide +kernel
theorem d3 : decode yB 3 = .ok (.ifCond (.eq) 14, 3) := by decide +kernel
theorem d6 : decode yB 6 = .ok (.aload_n 0, 1) := by decide +kernel
theorem d7 : decode yB 7 = .ok (.getfield 15, 3) := by decide +kernel
theorem d10 : decode yB 10 = .ok (.ifCond (.ne) 7, 3) := by decide +kernel
theorem d13 : decode yB 13 = .ok (.iconst 1, 1) := by decide +kernel
theorem d14 : decode yB 14 = .ok (.goto 4, 3) := by decide +kernel
theorem d17 : decode yB 17 = .ok (.iconst 0, 1) := by decide +kernel
theorem d18 : decode yB 18 = .ok (.ireturn, 1) := by decide +kernel
def site : List Cond := [.fieldLink "java/lang/String" 38 "java/lang/String" "COMPACT_STRINGS" "Z", .fieldLink "java/lang/String" 15 "java/lang/String" "coder" "B"]
def tab : Cond := tabOf yN yB 1 (some .boolean) site
def P (x : Addr) (cd z : Int32) (args : Array Value) (s : State) : Prop := args = #[.ref x] ∧ Has x "java/lang/String" "coder" "B" (.int cd) s ∧ (cd = 0 ∨ cd = 1) ∧ StaticIs s "java/lang/String" "COMPACT_STRINGS" "Z" (.int z) ∧ ¬ z = 0
def E (cd : Int32) (r : Option Value) (s u : State) : Prop := XT.PureE (some (.int (1 - cd))) r s u
theorem law (l : Launch) (x : Addr) (cd z : Int32) : Law l yN 1 0 0 0 yB 1 (some .boolean) site (P x cd z) (E cd) [] 0 0 := by
  refine Law.of_walk (plainFor_of_name (by decide +kernel)) (by decide +kernel) (by decide +kernel) (by decide) (fun _ _ h => by rw [h.1]; rfl) (fun _ U U' hal hh h => ⟨h.1, h.2.1.mv hal hh, h.2.2.1, h.2.2.2.1.there hal hh, h.2.2.2.2⟩) (fun r U U' V V' h1 hal h2 h => XT.PureE.mv r U U' V V' h1 hal h2 h) ?_
  intro p e s m args below meth c s₁ X0 hexec hbytes hml hret hlk hnm hown hh0 W hP
  obtain ⟨rfl, hx, hc, s1, hz⟩ := hP
  have c1 : Steps p.tables e below (s₁.setTop (entryFrame m #[.ref x] 1)) (s₁.setTop (mkF m 0 #[.val (.ref x)] [])) := entry rfl
  obtain ⟨T2, X2, q2, st2⟩ := X0.sget hexec hown (wk W (.fieldLink "java/lang/String" 38 "java/lang/String" "COMPACT_STRINGS" "Z")) s1 (fun _ _ h => by rw [hh0]; exact h) (g := (mkF m 0 #[.val (.ref x)] [])) rfl (hb hbytes d0)
  have hh2 := q2.trans hh0
  have c3 : Steps p.tables e below (s₁.setTop (entryFrame m #[.ref x] 1)) (T2.setTop (mkF m 7 #[.val (.ref x)] [.ref x])) := (c1.trans (st2 _ (Steps.refl _))).trans (by
    refine XS.ifNo X2.here hexec rfl (hb hbytes d3) rfl (i0_eq_f hz) ?_
    refine XS.aloadN X2.here hexec rfl (hb hbytes d6) rfl rfl ?_
    exact Steps.refl _)
  obtain ⟨T4, X4, q4, st4⟩ := X2.hget hexec hown (wk W (.fieldLink "java/lang/String" 15 "java/lang/String" "coder" "B")) (hx.mv X2.warmed.alike hh2) (g := (mkF m 7 #[.val (.ref x)] [.ref x])) rfl (rest := []) rfl (hb hbytes d7)
  have c5 : Steps p.tables e below (s₁.setTop (entryFrame m #[.ref x] 1)) (T4.setTop (mkF m 10 #[.val (.ref x)] [.int cd])) := c3.trans (st4 _ (Steps.refl _))
  have c6 : Steps p.tables e below (s₁.setTop (entryFrame m #[.ref x] 1)) (T4.setTop (mkF m 18 #[.val (.ref x)] [.int (1 - cd)])) := by
    rcases hc with rfl | rfl
    · exact c5.trans (by
        refine XS.ifNo X4.here hexec rfl (hb hbytes d10) rfl (i0_ne_f rfl) ?_
        refine iconstV X4.here hexec rfl 1 (hb hbytes d13) (by decide) ?_
        refine XS.goto X4.here hexec rfl (pc0 := 14) rfl (hb hbytes d14) (by decide) rfl ?_
        exact Steps.refl _)
    · exact c5.trans (by
        refine XS.ifYes X4.here hexec rfl (pc0 := 10) rfl (hb hbytes d10) rfl (i0_ne_t (by decide)) (by decide) rfl ?_
        refine iconstV X4.here hexec rfl 0 (hb hbytes d17) (by decide) ?_
        exact Steps.refl _)
  exact ⟨T4, some (.int (1 - cd)), _, _, _, X4, rfl, rfl, rfl, (fun h => by cases h), ⟨rfl, q4.trans hh2⟩, fun fs hl => c6.trans (X4.ireturnOut hexec hret (by rcases hc with rfl | rfl <;> rfl) (Or.inr (Or.inl rfl)) (hb hbytes d18) hl)⟩
end IsL
namespace LChA
def yN : MethodName := ⟨"java/lang/StringLatin1", "charAt", "([BI)C"⟩
abbrev yB : ByteArray := jdk_43_method_2_code
theorem d0 : decode yB 0 = .ok (.iload_n 1, 1) := by decide +kernel
theorem d1 : decode yB 1 = .ok (.aload_n 0, 1) := by decide +kernel
theorem d2 : decode yB 2 = .ok (.arraylength, 1) := by decide +kernel
theorem d3 : decode yB 3 = .ok (.invokestatic 9, 3) := by decide +kernel
theorem d6 : decode yB 6 = .ok (.aload_n 0, 1) := by decide +kernel
theorem d7 : decode yB 7 = .ok (.iload_n 1, 1) := by decide +kernel
theorem d8 : decode yB 8 = .ok (.baload, 1) := by decide +kernel
theorem d9 : decode yB 9 = .ok (.sipush 255, 3) := by decide +kernel
theorem d12 : decode yB 12 = .ok (.iand, 1) := by decide +kernel
theorem d13 : decode yB 13 = .ok (.i2c, 1) := by decide +kernel
theorem d14 : decode yB 14 = .ok (.ireturn, 1) := by decide +kernel
def site : List Cond := [JO.Str_checkIndex.tab] ++ staticW "java/lang/StringLatin1" 9 JO.Str_checkIndex.yN
def tab : Cond := tabOf yN yB 2 (some .char) site
def P (t : Addr) (V : Cell) (i : Nat) (u : Int32) (fm : Value) (args : Array Value) (s : State) : Prop := args = #[.ref t, .int (Int32.ofNat i)] ∧ XT.Arr .byte t V s ∧ V.slots[i]? = some (.int u) ∧ (StaticIs s "jdk/internal/util/Preconditions" "SIOOBE_FORMATTER" "Ljava/util/function/BiFunction;" fm ∧ fm.isRef = true)
def E (u : Int32) (r : Option Value) (s w : State) : Prop := XT.PureE (some (.int (chr8 u))) r s w
theorem law (l : Launch) (t : Addr) (V : Cell) (i : Nat) (u : Int32) (fm : Value) : Law l yN 2 2 2 27 yB 2 (some .char) site (P t V i u fm) (E u) [] 0 0 := by
  refine Law.of_walk (plainFor_of_name (by decide +kernel)) (by decide +kernel) (by decide +kernel) (by decide) (fun _ _ h => by rw [h.1]; rfl) (fun _ U U' hal hh h => ⟨h.1, h.2.1.mv hal hh, h.2.2.1, h.2.2.2.1.there hal hh, h.2.2.2.2⟩) (fun r U U' V V' h1 hal h2 h => XT.PureE.mv r U U' V V' h1 hal h2 h) ?_
  intro p e s m args below meth c s₁ X0 hexec hbytes hml hret hlk hnm hown hh0 W hP
  obtain ⟨rfl, hV, hu, s1, rf⟩ := hP
  have v31 := hV.2.2.2
  have hi : i < V.slots.size := (Array.getElem?_eq_some_iff.mp hu).1
  have c1 : Steps p.tables e below (s₁.setTop (entryFrame m #[.ref t, .int (Int32.ofNat i)] 2)) (s₁.setTop (mkF m 0 #[.val (.ref t), .val (.int (Int32.ofNat i))] [])) := entry rfl
  have c2 : Steps p.tables e below (s₁.setTop (entryFrame m #[.ref t, .int (Int32.ofNat i)] 2)) (s₁.setTop (mkF m 3 #[.val (.ref t), .val (.int (Int32.ofNat i))] [.int (Int32.ofNat V.slots.size), .int (Int32.ofNat i)])) := c1.trans (by
    refine XS.iloadN X0.here hexec rfl (hb hbytes d0) rfl ?_
    refine XS.aloadN X0.here hexec rfl (hb hbytes d1) rfl rfl ?_
    refine X0.alen hexec (hV.mv X0.warmed.alike hh0) rfl rfl (hb hbytes d2) ?_
    exact Steps.refl _)
  obtain ⟨v3, T3, X3, E3, g3⟩ := X0.callS hexec (JO.Str_checkIndex.law l (Int32.ofNat i) (Int32.ofNat V.slots.size) fm) hown (wks W (staticW "java/lang/StringLatin1" 9 JO.Str_checkIndex.yN)) (wk W JO.Str_checkIndex.tab) (W := 0) (Nat.le_of_ble_eq_true rfl) (Nat.le_of_ble_eq_true rfl) (Nat.le_refl _) (Nat.le_refl _) (g := (mkF m 3 #[.val (.ref t), .val (.int (Int32.ofNat i))] [.int (Int32.ofNat V.slots.size), .int (Int32.ofNat i)])) rfl (by rw [hml]; rfl) c2 (argsL := [.int (Int32.ofNat i), .int (Int32.ofNat V.slots.size)]) (rest := []) rfl rfl (by show 2 * 0 + 0 ≤ _; decide) (hb hbytes d3) (⟨rfl, rf, s1.there X0.warmed.alike hh0, Int32.ofNat_not_neg (by omega), lt32 v31 hi⟩)
  obtain ⟨rfl, q3⟩ := E3
  have hh3 := q3.trans hh0
  have c4 : Steps p.tables e below (s₁.setTop (entryFrame m #[.ref t, .int (Int32.ofNat i)] 2)) (T3.setTop (mkF m 14 #[.val (.ref t), .val (.int (Int32.ofNat i))] [.int (chr8 u)])) := Steps.trans g3 (by
    refine XS.aloadN X3.here hexec rfl (hb hbytes d6) rfl rfl ?_
    refine XS.iloadN X3.here hexec rfl (hb hbytes d7) rfl ?_
    refine X3.aget hexec (hV.mv X3.warmed.alike hh3) rfl hu rfl rfl (hb hbytes d8) ?_
    refine sipushV X3.here hexec rfl 255 (hb hbytes d9) (by decide) ?_
    refine XS.iand X3.here hexec rfl (hb hbytes d12) rfl ?_
    refine i2c X3.here hexec rfl (hb hbytes d13) rfl ?_
    exact Steps.refl _)
  exact ⟨T3, some (.int (chr8 u)), _, _, _, X3, rfl, rfl, rfl, (fun h => by cases h), ⟨rfl, hh3⟩, fun fs hl => c4.trans (X3.ireturnOut hexec hret (narrow_c _) (Or.inr (Or.inr (Or.inr (Or.inl rfl)))) (hb hbytes d14) hl)⟩
end LChA
end StrChars
namespace StrChars.Road
open Jvm Sem ClassFile Op Lib Jvm.Stand Jvm.Free Jvm.Free.XT
open Jvm.Lib.Cold (StaticIs)
theorem consq {a : Array Value} {s : State} {c : Jvm.Cond} {L : List Jvm.Cond} (h0 : c.before a s = true) (h : ∀ w ∈ L, w.before a s = true) : ∀ w ∈ c :: L, w.before a s = true := fun w hw => (List.mem_cons.mp hw).elim (fun e => e ▸ h0) (h w)
/-- the bytes of the chars cs, low before high -/
def wideBytes : List Int32 → List Value
  | [] => []
  | c :: cs => .int (lo8 c) :: .int (hi8 c) :: wideBytes cs
theorem wide_lo (d : Value) : ∀ (cs : List Int32) (j : Nat), j < cs.length → (wideBytes cs).getD (2 * j) d = .int (lo8 (cs.getD j 0))
  | [], j, h => absurd h (Nat.not_lt_zero j)
  | c :: cs, 0, _ => rfl
  | c :: cs, j + 1, h => by
    have q := wide_lo d cs j (by simpa using h)
    rw [show 2 * (j + 1) = 2 * j + 1 + 1 from by omega]
    simpa [wideBytes] using q
theorem wide_hi (d : Value) : ∀ (cs : List Int32) (j : Nat), j < cs.length → (wideBytes cs).getD (2 * j + 1) d = .int (hi8 (cs.getD j 0))
  | [], j, h => absurd h (Nat.not_lt_zero j)
  | c :: cs, 0, _ => rfl
  | c :: cs, j + 1, h => by
    have q := wide_hi d cs j (by simpa using h)
    rw [show 2 * (j + 1) + 1 = 2 * j + 1 + 1 + 1 from by omega]
    simpa [wideBytes] using q
theorem low_at (d : Value) (cs : List Int32) (j : Nat) (h : j < cs.length) : (cs.map fun c => Value.int (lo8 c)).getD j d = .int (lo8 (cs.getD j 0)) := by
  simp [List.getD_eq_getElem?_getD, h]
/-- an array of N2 bytes vs codes the chars cs by the coder cd -/
def CodA (cs : List Int32) (cd N2 : Int32) (vs : List Value) : Prop := (cd = 0 ∧ N2 = Int32.ofNat cs.length ∧ vs = (cs.map fun c => Value.int (lo8 c)) ∧ ∀ c ∈ cs, ¬ 255 < c) ∨ (cd = 1 ∧ N2 = Int32.ofNat (2 * cs.length) ∧ vs = wideBytes cs ∧ ∃ c ∈ cs, 255 < c)
theorem CodA.cod {cs : List Int32} {cd N2 : Int32} {vs : List Value} {V : Cell} (h : CodA cs cd N2 vs) (hn : 2 * cs.length < 2 ^ 31) (hs : V.slots.size = N2.toNatClampNeg) (hv : RoadKit.Has V vs (.int 0)) : Cod cd cs.length (fun j => cs.getD j 0) V := by
  rcases h with ⟨rfl, rfl, rfl, h⟩ | ⟨rfl, rfl, rfl, c, hc, hw⟩
  · rw [n32 (by omega)] at hs
    exact Or.inl ⟨rfl, hs, fun j hj => ⟨by rw [hv j (by omega), low_at _ _ _ hj], by
      have e : cs.getD j 0 = cs[j] := by simp [List.getD_eq_getElem?_getD, hj]
      show ¬ 255 < cs.getD j 0
      rw [e]; exact h _ (List.getElem_mem _)⟩⟩
  · rw [n32 (by omega)] at hs
    obtain ⟨j, hj, rfl⟩ := List.getElem_of_mem hc
    exact Or.inr ⟨rfl, hs, fun j hj => ⟨by rw [hv _ (by omega), wide_lo _ _ _ hj], by rw [hv _ (by omega), wide_hi _ _ _ hj]⟩, j, hj, by
      have e : cs.getD j 0 = cs[j] := by simp [List.getD_eq_getElem?_getD, hj]
      show 255 < cs.getD j 0
      rw [e]; exact hw⟩
/-- an object of exactly java/lang/String, its two fields found: as the laws ask it -/
theorem strObj {Z U : State} {a0 : Array Value} {kI : Nat} (wi : (Jvm.Cond.instantiable ST kI).before a0 Z = true) (al : Z.vm.Alike U.vm) {x : Addr} {v0 c0 : Value} (E : RoadKit.Exa Z U.heap x ST) (V : RoadKit.Fld Z U.heap x ST "value" "[B" v0) (C : RoadKit.Fld Z U.heap x ST "coder" "B" c0) :
    ∃ (D : Cell) (fV fC : Field), Blank ST x D U ∧ Found ST "value" "[B" fV U ∧ Found ST "coder" "B" fC U ∧ D.slots[fV.slot]? = some v0 ∧ D.slots[fC.slot]? = some c0 ∧ RoadKit.slotOf Z ST "value" "[B" = fV.slot ∧ RoadKit.slotOf Z ST "coder" "B" = fC.slot := by
  obtain ⟨D, cfV, kV, iV, fV, hD, gV, stV, knV, obV, asV, slV⟩ := V
  obtain ⟨D', cfC, kC, iC, fC, hD', gC, stC, -, -, asC, slC⟩ := C
  cases hD.symm.trans hD'
  obtain ⟨D2, kD, e1, e2, e3, e4, e5⟩ := E
  cases hD.symm.trans e1
  obtain ⟨c2, k2, i1, i2, i3, -⟩ := Cond.instantiable_spec wi
  cases e2.symm.trans i1
  cases e3.symm.trans i2
  obtain ⟨kU, u1, u2⟩ := al.2.2 _ _ e3
  exact ⟨D, fV, fC, ⟨hD, ⟨knV, fun q hq => by rw [hq] at obV; cases obV⟩, by rw [al.findClass]; exact e2, kU, u1, by rw [u2]; exact i3, by rw [u2]; exact e5 i3⟩, ⟨SBG.found_only al ⟨cfV, kV, iV, gV⟩, stV⟩, ⟨SBG.found_only al ⟨cfC, kC, iC, gC⟩, stC⟩, slV, slC, by simp [RoadKit.slotOf, gV], by simp [RoadKit.slotOf, gC]⟩
theorem sta_is {Z U : State} (al : Z.vm.Alike U.vm) {C n d : String} {v : Value} (S : RoadKit.Sta Z U.heap C n d v) : StaticIs U C n d v := by
  obtain ⟨cfS, iS, kS, fS, st, cS, t1, t2, t3, t4, t5, t6, t7⟩ := S
  exact StaticIs.there (s := { Z with heap := U.heap }) ⟨cfS, iS, kS, fS, st, cS, t1, t2, t3, t4, t5, (fun q => by rw [q] at t6; cases t6), t7⟩ al rfl
end StrChars.Road
namespace StrChars
open Jvm Sem ClassFile Op Lib Jvm.Stand Jvm.Free.XT Jvm.Free.ALB Jvm.Free.JM Jvm.Free
open Jvm.Lib.Cold (StaticIs)
/-- what place i of a byte[]'s cell holds -/
def yv (A : Cell) (i : Nat) : Int32 := match A.slots[i]? with | some (.int x) => x | _ => 0
theorem yv_get {a : Addr} {A : Cell} {U : State} (h : XT.Arr .byte a A U) (ht : Typed .byte A) {i : Nat} (hi : i < A.slots.size) : A.slots[i]? = some (.int (yv A i)) := by
  have e := Array.getElem?_eq_getElem hi
  have f := ht i _ e
  unfold yv; rw [e]
  generalize A.slots[i] = v at f
  cases v <;> simp [fits] at f ⊢
/-- the two arrays are equal, place for place -/
def EqC (A B : Cell) : Prop := A.slots.size = B.slots.size ∧ ∀ i, i < A.slots.size → yv A i = yv B i
/-- a boolean that says whether p -/
def Says01 (q : Prop) (r : Option Value) (s u : State) : Prop := ∃ v : Int32, r = some (.int v) ∧ u.heap = s.heap ∧ ((v = 1 ∧ q) ∨ (v = 0 ∧ ¬ q))
theorem Says01.mv {q : Prop} : ∀ r (U U' V V' : State), U'.heap = U.heap → V.vm.Alike V'.vm → V'.heap = V.heap → Says01 q r U V → Says01 q r U' V' :=
  fun r U U' V V' h1 _ h2 ⟨v, a, b, c⟩ => ⟨v, a, by rw [h1, h2]; exact b, c⟩
namespace LEq
def yN : MethodName := ⟨"java/lang/StringLatin1", "equals", "([B[B)Z"⟩
abbrev yB : ByteArray := jdk_43_method_13_code
theorem d0 : decode yB 0 = .ok (.aload_n 0, 1) := by decide +kernel
theorem d1 : decode yB 1 = .ok (.arraylength, 1) := by decide +kernel
theorem d2 : decode yB 2 = .ok (.aload_n 1, 1) := by decide +kernel
theorem d3 : decode yB 3 = .ok (.arraylength, 1) := by decide +kernel
theorem d4 : decode yB 4 = .ok (.if_icmp (.ne) 30, 3) := by decide +kernel
theorem d7 : decode yB 7 = .ok (.iconst 0, 1) := by decide +kernel
theorem d8 : decode yB 8 = .ok (.istore_n 2, 1) := by decide +kernel
theorem d9 : decode yB 9 = .ok (.iload_n 2, 1) := by decide +kernel
theorem d10 : decode yB 10 = .ok (.aload_n 0, 1) := by decide +kernel
theorem d11 : decode yB 11 = .ok (.arraylength, 1) := by decide +kernel
theorem d12 : decode yB 12 = .ok (.if_icmp (.ge) 20, 3) := by decide +kernel
theorem d15 : decode yB 15 = .ok (.aload_n 0, 1) := by decide +kernel
theorem d16 : decode yB 16 = .ok (.iload_n 2, 1) := by decide +kernel
theorem d17 : decode yB 17 = .ok (.baload, 1) := by decide +kernel
theorem d18 : decode yB 18 = .ok (.aload_n 1, 1) := by decide +kernel
theorem d19 : decode yB 19 = .ok (.iload_n 2, 1) := by decide +kernel
theorem d20 : decode yB 20 = .ok (.baload, 1) := by decide +kernel
theorem d21 : decode yB 21 = .ok (.if_icmp (.eq) 5, 3) := by decide +kernel
theorem d24 : decode yB 24 = .ok (.iconst 0, 1) := by decide +kernel
theorem d25 : decode yB 25 = .ok (.ireturn, 1) := by decide +kernel
theorem d26 : decode yB 26 = .ok (.iinc 2 1, 3) := by decide +kernel
theorem d29 : decode yB 29 = .ok (.goto (-20), 3) := by decide +kernel
theorem d32 : decode yB 32 = .ok (.iconst 1, 1) := by decide +kernel
theorem d33 : decode yB 33 = .ok (.ireturn, 1) := by decide +kernel
theorem d34 : decode yB 34 = .ok (.iconst 0, 1) := by decide +kernel
theorem d35 : decode yB 35 = .ok (.ireturn, 1) := by decide +kernel
def site : List Cond := []
def tab : Cond := tabOf yN yB 3 (some .boolean) site
def P (a : Addr) (A : Cell) (b : Addr) (B : Cell) (args : Array Value) (s : State) : Prop := args = #[.ref a, .ref b] ∧ XT.Arr .byte a A s ∧ Typed .byte A ∧ XT.Arr .byte b B s ∧ Typed .byte B
/-- whether two byte[] are equal, place for place -/
theorem law (l : Launch) (a : Addr) (A : Cell) (b : Addr) (B : Cell) : Law l yN 2 2 0 0 yB 3 (some .boolean) site (P a A b B) (Says01 (EqC A B)) [] 0 0 := by
  refine Law.of_walk (plainFor_of_name (by decide +kernel)) (by decide +kernel) (by decide +kernel) (by decide) (fun _ _ h => by rw [h.1]; rfl) (fun _ U U' hal hh h => ⟨h.1, h.2.1.mv hal hh, h.2.2.1, h.2.2.2.1.mv hal hh, h.2.2.2.2⟩) (fun r U U' V V' h1 hal h2 h => Says01.mv r U U' V V' h1 hal h2 h) ?_
  intro p e s m args below meth c s₁ X0 hexec hbytes hml hret hlk hnm hown hh0 W hP
  obtain ⟨rfl, hA, tA, hB, tB⟩ := hP
  have a31 := hA.2.2.2
  have b31 := hB.2.2.2
  have hA0 := hA.mv X0.warmed.alike hh0
  have hB0 := hB.mv X0.warmed.alike hh0
  have c1 : Steps p.tables e below (s₁.setTop (entryFrame m #[.ref a, .ref b] 3)) (s₁.setTop (mkF m 0 #[.val (.ref a), .val (.ref b), .unset] [])) := entry rfl
  have c2 : Steps p.tables e below (s₁.setTop (entryFrame m #[.ref a, .ref b] 3)) (s₁.setTop (mkF m 4 #[.val (.ref a), .val (.ref b), .unset] [.int (Int32.ofNat B.slots.size), .int (Int32.ofNat A.slots.size)])) := c1.trans (by
    refine XS.aloadN X0.here hexec rfl (hb hbytes d0) rfl rfl ?_
    refine X0.alen hexec hA0 rfl rfl (hb hbytes d1) ?_
    refine XS.aloadN X0.here hexec rfl (hb hbytes d2) rfl rfl ?_
    refine X0.alen hexec hB0 rfl rfl (hb hbytes d3) ?_
    exact Steps.refl _)
  by_cases hs : A.slots.size = B.slots.size
  · have c3 : Steps p.tables e below (s₁.setTop (entryFrame m #[.ref a, .ref b] 3)) (s₁.setTop (mkF m 9 #[.val (.ref a), .val (.ref b), .val (.int 0)] [])) := c2.trans (by
      refine XS.icmpNo X0.here hexec rfl (hb hbytes d4) rfl (ii_ne_f (by rw [hs])) ?_
      refine iconstV X0.here hexec rfl 0 (hb hbytes d7) (by decide) ?_
      refine XS.istoreN X0.here hexec rfl (hb hbytes d8) rfl rfl ?_
      exact Steps.refl _)
    have loop : ∀ (r i : Nat), i + r = A.slots.size → (∀ j, j < i → yv A j = yv B j) → Steps p.tables e below (s₁.setTop (entryFrame m #[.ref a, .ref b] 3)) (s₁.setTop (mkF m 9 #[.val (.ref a), .val (.ref b), .val (.int (Int32.ofNat i))] [])) → ∃ (pc : Nat) (Ls : Array Slot) (v : Int32), (pc = 25 ∨ pc = 33) ∧ ((v = 1 ∧ EqC A B) ∨ (v = 0 ∧ ¬ EqC A B)) ∧ Steps p.tables e below (s₁.setTop (entryFrame m #[.ref a, .ref b] 3)) (s₁.setTop (mkF m pc Ls [.int v])) := by
      intro r
      induction r with
      | zero =>
        intro i hi he cl
        exact ⟨33, _, 1, Or.inr rfl, Or.inl ⟨rfl, hs, fun j hj => he j (by omega)⟩, cl.trans (by
          refine XS.iloadN X0.here hexec rfl (hb hbytes d9) rfl ?_
          refine XS.aloadN X0.here hexec rfl (hb hbytes d10) rfl rfl ?_
          refine X0.alen hexec hA0 rfl rfl (hb hbytes d11) ?_
          refine XS.icmpYes X0.here hexec rfl (pc0 := 12) rfl (hb hbytes d12) rfl (ii_ge_t (nlt32 (by omega) (by omega))) (by decide) rfl ?_
          refine iconstV X0.here hexec rfl 1 (hb hbytes d32) (by decide) ?_
          exact Steps.refl _)⟩
      | succ r ih =>
        intro i hi he cl
        have c4 : Steps p.tables e below (s₁.setTop (entryFrame m #[.ref a, .ref b] 3)) (s₁.setTop (mkF m 21 #[.val (.ref a), .val (.ref b), .val (.int (Int32.ofNat i))] [.int (yv B i), .int (yv A i)])) := cl.trans (by
          refine XS.iloadN X0.here hexec rfl (hb hbytes d9) rfl ?_
          refine XS.aloadN X0.here hexec rfl (hb hbytes d10) rfl rfl ?_
          refine X0.alen hexec hA0 rfl rfl (hb hbytes d11) ?_
          refine XS.icmpNo X0.here hexec rfl (hb hbytes d12) rfl (ii_ge_f (lt32 (by omega) (by omega))) ?_
          refine XS.aloadN X0.here hexec rfl (hb hbytes d15) rfl rfl ?_
          refine XS.iloadN X0.here hexec rfl (hb hbytes d16) rfl ?_
          refine X0.aget hexec hA0 rfl (yv_get hA tA (i := i) (by omega)) rfl rfl (hb hbytes d17) ?_
          refine XS.aloadN X0.here hexec rfl (hb hbytes d18) rfl rfl ?_
          refine XS.iloadN X0.here hexec rfl (hb hbytes d19) rfl ?_
          refine X0.aget hexec hB0 rfl (yv_get hB tB (i := i) (by omega)) rfl rfl (hb hbytes d20) ?_
          exact Steps.refl _)
        by_cases hv : yv A i = yv B i
        · have c5 : Steps p.tables e below (s₁.setTop (entryFrame m #[.ref a, .ref b] 3)) (s₁.setTop (mkF m 9 #[.val (.ref a), .val (.ref b), .val (.int (Int32.ofNat i + 1))] [])) := c4.trans (by
            refine XS.icmpYes X0.here hexec rfl (pc0 := 21) rfl (hb hbytes d21) rfl (ii_eq_t hv) (by decide) rfl ?_
            refine iincV X0.here hexec rfl 1 (hb hbytes d26) (by decide) rfl rfl ?_
            refine XS.goto X0.here hexec rfl (pc0 := 29) rfl (hb hbytes d29) (by decide) rfl ?_
            exact Steps.refl _)
          rw [succ32] at c5
          exact ih (i + 1) (by omega) (fun j hj => by
            by_cases e : j = i
            · rw [e]; exact hv
            · exact he j (by omega)) c5
        · exact ⟨25, _, 0, Or.inl rfl, Or.inr ⟨rfl, fun q => hv (q.2 i (by omega))⟩, c4.trans (by
            refine XS.icmpNo X0.here hexec rfl (hb hbytes d21) rfl (ii_eq_f hv) ?_
            refine iconstV X0.here hexec rfl 0 (hb hbytes d24) (by decide) ?_
            exact Steps.refl _)⟩
    obtain ⟨pc, Ls, v, hpc, hv, cz⟩ := loop A.slots.size 0 (by omega) (fun j hj => absurd hj (Nat.not_lt_zero j)) c3
    have nv : narrow .boolean (.int v) = .int v := by rcases hv with ⟨rfl, -⟩ | ⟨rfl, -⟩ <;> rfl
    rcases hpc with rfl | rfl
    · exact ⟨s₁, some (.int v), _, _, _, X0, rfl, rfl, rfl, (fun h => by cases h), ⟨v, rfl, hh0, hv⟩, fun fs hl => cz.trans (X0.ireturnOut hexec hret nv (Or.inr (Or.inl rfl)) (hb hbytes d25) hl)⟩
    · exact ⟨s₁, some (.int v), _, _, _, X0, rfl, rfl, rfl, (fun h => by cases h), ⟨v, rfl, hh0, hv⟩, fun fs hl => cz.trans (X0.ireturnOut hexec hret nv (Or.inr (Or.inl rfl)) (hb hbytes d33) hl)⟩
  · have c3 : Steps p.tables e below (s₁.setTop (entryFrame m #[.ref a, .ref b] 3)) (s₁.setTop (mkF m 35 #[.val (.ref a), .val (.ref b), .unset] [.int 0])) := c2.trans (by
      refine XS.icmpYes X0.here hexec rfl (pc0 := 4) rfl (hb hbytes d4) rfl (ii_ne_t (ne32 a31 b31 hs)) (by decide) rfl ?_
      refine iconstV X0.here hexec rfl 0 (hb hbytes d34) (by decide) ?_
      exact Steps.refl _)
    exact ⟨s₁, some (.int 0), _, _, _, X0, rfl, rfl, rfl, (fun h => by cases h), ⟨0, rfl, hh0, Or.inr ⟨rfl, fun q => hs q.1⟩⟩, fun fs hl => c3.trans (X0.ireturnOut hexec hret rfl (Or.inr (Or.inl rfl)) (hb hbytes d35) hl)⟩
end LEq
theorem Cod.ty {cd : Int32} {n : Nat} {f : Nat → Int32} {V : Cell} (h : Cod cd n f V) : Typed .byte V := fun i v hv => by
  have hi : i < V.slots.size := (Array.getElem?_eq_some_iff.mp hv).1
  rcases h with ⟨-, k1, k2⟩ | ⟨-, k1, k2, -⟩
  · rw [(k2 i (by omega)).1] at hv; cases hv; exact fits_lo8 _
  · rcases Nat.mod_two_eq_zero_or_one i with e | e
    · obtain ⟨j, rfl⟩ : ∃ j, i = 2 * j := ⟨i / 2, by omega⟩
      rw [(k2 j (by omega)).1] at hv; cases hv; exact fits_lo8 _
    · obtain ⟨j, rfl⟩ : ∃ j, i = 2 * j + 1 := ⟨i / 2, by omega⟩
      rw [(k2 j (by omega)).2] at hv; cases hv; exact fits_lo8 _
/-- the same text -/
def SameT (n : Nat) (f : Nat → Int32) (k : Nat) (g : Nat → Int32) : Prop := n = k ∧ ∀ j, j < n → f j = g j
theorem lo8_inj {x y : Int32} (h0 : ¬ x < 0) (h1 : ¬ 255 < x) (k0 : ¬ y < 0) (k1 : ¬ 255 < y) (h : lo8 x = lo8 y) : x = y := by
  rw [← lo8_mask h0 h1, ← lo8_mask k0 k1, h]
/-- arrays coded by one coder are equal just where the texts are -/
theorem Cod.eqv {cd : Int32} {n k : Nat} {f g : Nat → Int32} {V V' : Cell} (h : Cod cd n f V) (h' : Cod cd k g V') (hf : ∀ j, j < n → ¬ f j < 0 ∧ ¬ 65535 < f j) (hg : ∀ j, j < k → ¬ g j < 0 ∧ ¬ 65535 < g j) : EqC V V' ↔ SameT n f k g := by
  have yvv : ∀ {W : Cell} {i : Nat} {x : Int32}, W.slots[i]? = some (.int x) → yv W i = x := fun q => by unfold yv; rw [q]
  rcases h with ⟨rfl, k1, k2⟩ | ⟨rfl, k1, k2, -⟩
  · rcases h' with ⟨-, m1, m2⟩ | ⟨e, -⟩
    · constructor
      · rintro ⟨e1, e2⟩
        refine ⟨by omega, fun j hj => ?_⟩
        have q := e2 j (by omega)
        rw [yvv (k2 j hj).1, yvv (m2 j (by omega)).1] at q
        exact lo8_inj (hf j hj).1 (k2 j hj).2 (hg j (by omega)).1 (m2 j (by omega)).2 q
      · rintro ⟨rfl, e2⟩
        refine ⟨by omega, fun j hj => ?_⟩
        rw [yvv (k2 j (by omega)).1, yvv (m2 j (by omega)).1, e2 j (by omega)]
    · exact absurd e (by decide)
  · rcases h' with ⟨e, -⟩ | ⟨-, m1, m2, -⟩
    · exact absurd e (by decide)
    · constructor
      · rintro ⟨e1, e2⟩
        refine ⟨by omega, fun j hj => ?_⟩
        have q1 := e2 (2 * j) (by omega)
        have q2 := e2 (2 * j + 1) (by omega)
        rw [yvv (k2 j hj).1, yvv (m2 j (by omega)).1] at q1
        rw [yvv (k2 j hj).2, yvv (m2 j (by omega)).2] at q2
        rw [← pair_says (hf j hj).1 (hf j hj).2, ← pair_says (hg j (by omega)).1 (hg j (by omega)).2, q1, q2]
      · rintro ⟨rfl, e2⟩
        refine ⟨by omega, fun i hi => ?_⟩
        rcases Nat.mod_two_eq_zero_or_one i with e | e
        · obtain ⟨j, rfl⟩ : ∃ j, i = 2 * j := ⟨i / 2, by omega⟩
          rw [yvv (k2 j (by omega)).1, yvv (m2 j (by omega)).1, e2 j (by omega)]
        · obtain ⟨j, rfl⟩ : ∃ j, i = 2 * j + 1 := ⟨i / 2, by omega⟩
          rw [yvv (k2 j (by omega)).2, yvv (m2 j (by omega)).2, e2 j (by omega)]
/-- two codings differ: so do the texts -/
theorem Cod.dif {cd cd' : Int32} {n k : Nat} {f g : Nat → Int32} {V V' : Cell} (h : Cod cd n f V) (h' : Cod cd' k g V') (hne : ¬ cd = cd') : ¬ SameT n f k g := by
  rintro ⟨rfl, e⟩
  rcases h with ⟨rfl, -, k2⟩ | ⟨rfl, -, -, j, hj, hw⟩
  · rcases h' with ⟨rfl, -⟩ | ⟨-, -, -, j, hj, hw⟩
    · exact hne rfl
    · exact (k2 j hj).2 (by rw [e j hj]; exact hw)
  · rcases h' with ⟨-, -, m2⟩ | ⟨rfl, -⟩
    · exact (m2 j hj).2 (by rw [← e j hj]; exact hw)
    · exact hne rfl
/-- an object of exactly C is an instance of C -/
theorem cinst {p : Program} {l : Launch} {e : Env} {R : Room} {s : State} {m : MethodId} {args : Array Value} {below : List Frame} {meth : Method} {c : Code} {T : State} {locs : List Loc} {cells slots : Nat} (X : Stand p l e R s m args below meth c T locs cells slots) (hexec : p.tables.exec = Jvm.exec) {own C : String} {index : Nat} (hown : s.vm.findClass own = some m.cls) (hlink : (Cond.classLink own index C).before args s = true) {a : Addr} (hE : Exact C a T)
    {g : JFrame} (hg : g.method = m) {rest : List Value} (hstack : g.stack = .ref a :: rest) (hdg : decode c.code g.pc = .ok (.instanceof index, 3)) :
    ∃ T', Stand p l e R s m args below meth c T' locs cells slots ∧ T'.heap = T.heap ∧ ∀ target, Steps p.tables e below (T'.setTop { g with pc := g.pc + 3, stack := .int 1 :: rest }) target → Steps p.tables e below (T.setTop g) target := by
  obtain ⟨cB, h1, D, h2, h3, h4⟩ := hE
  have h1' : s.vm.findClass C = some cB := by rw [← X.warmed.alike.findClass]; exact h1
  obtain ⟨vm', X', st⟩ := X.instanceofYes hexec hown hlink h2 h4 h1' (by rw [h3]; exact Jvm.Free.SB.assignable_self _ _) hg hstack hdg
  exact ⟨_, X', rfl, st⟩
theorem cself {p : Program} {l : Launch} {e : Env} {R : Room} {s : State} {m : MethodId} {args : Array Value} {below : List Frame} {meth : Method} {c : Code} {T : State} {locs : List Loc} {cells slots : Nat} (X : Stand p l e R s m args below meth c T locs cells slots) (hexec : p.tables.exec = Jvm.exec) {own C : String} {index : Nat} (hown : s.vm.findClass own = some m.cls) (hlink : (Cond.classLink own index C).before args s = true) {a : Addr} (hE : Exact C a T)
    {g : JFrame} (hg : g.method = m) {rest : List Value} (hstack : g.stack = .ref a :: rest) (hdg : decode c.code g.pc = .ok (.checkcast index, 3)) :
    ∃ T', Stand p l e R s m args below meth c T' locs cells slots ∧ T'.heap = T.heap ∧ ∀ target, Steps p.tables e below (T'.setTop { g with pc := g.pc + 3, stack := .ref a :: rest }) target → Steps p.tables e below (T.setTop g) target := by
  obtain ⟨cB, h1, D, h2, h3, h4⟩ := hE
  have h1' : s.vm.findClass C = some cB := by rw [← X.warmed.alike.findClass]; exact h1
  obtain ⟨vm', X', st⟩ := X.checkcastYes hexec hown hlink h2 h4 h1' (by rw [h3]; exact Jvm.Free.SB.assignable_self _ _) hg hstack hdg
  exact ⟨_, X', rfl, fun t h => st t (by rw [← hstack] at h; exact h)⟩
namespace SEq
def yN : MethodName := ⟨"java/lang/String", "equals", "(Ljava/lang/Object;)Z"⟩
abbrev yB : ByteArray := jdk_42_method_66_code
theorem d0 : decode yB 0 = .ok (.aload_n 0, 1) := by decide +kernel
theorem d1 : decode yB 1 = .ok (.aload_n 1, 1) := by decide +kernel
theorem d2 : decode yB 2 = .ok (.if_acmp (.ne) 5, 3) := by decide +kernel
theorem d5 : decode yB 5 = .ok (.iconst 1, 1) := by decide +kernel
theorem d6 : decode yB 6 = .ok (.ireturn, 1) := by decide +kernel
theorem d7 : decode yB 7 = .ok (.aload_n 1, 1) := by decide +kernel
theorem d8 : decode yB 8 = .ok (.instanceof 10, 3) := by decide +kernel
theorem d11 : decode yB 11 = .ok (.ifCond (.eq) 43, 3) := by decide +kernel
theorem d14 : decode yB 14 = .ok (.aload_n 1, 1) := by decide +kernel
theorem d15 : decode yB 15 = .ok (.checkcast 10, 3) := by decide +kernel
theorem d18 : decode yB 18 = .ok (.astore_n 2, 1) := by decide +kernel
theorem d19 : decode yB 19 = .ok (.getstatic 38, 3) := by decide +kernel
theorem d22 : decode yB 22 = .ok (.ifCond (.eq) 14, 3) := by decide +kernel
theorem d25 : decode yB 25 = .ok (.aload_n 0, 1) := by decide +kernel
theorem d26 : decode yB 26 = .ok (.getfield 15, 3) := by decide +kernel
theorem d29 : decode yB 29 = .ok (.aload_n 2, 1) := by decide +kernel
theorem d30 : decode yB 30 = .ok (.getfield 15, 3) := by decide +kernel
theorem d33 : decode yB 33 = .ok (.if_icmp (.ne) 21, 3) := by decide +kernel
theorem d36 : decode yB 36 = .ok (.aload_n 0, 1) := by decide +kernel
theorem d37 : decode yB 37 = .ok (.getfield 9, 3) := by decide +kernel
theorem d40 : decode yB 40 = .ok (.aload_n 2, 1) := by decide +kernel
theorem d41 : decode yB 41 = .ok (.getfield 9, 3) := by decide +kernel
theorem d44 : decode yB 44 = .ok (.invokestatic 541, 3) := by decide +kernel
theorem d47 : decode yB 47 = .ok (.ifCond (.eq) 7, 3) := by decide +kernel
theorem d50 : decode yB 50 = .ok (.iconst 1, 1) := by decide +kernel
theorem d51 : decode yB 51 = .ok (.goto 4, 3) := by decide +kernel
theorem d54 : decode yB 54 = .ok (.iconst 0, 1) := by decide +kernel
theorem d55 : decode yB 55 = .ok (.ireturn, 1) := by decide +kernel
def site : List Cond := [.classLink "java/lang/String" 10 "java/lang/String", .fieldLink "java/lang/String" 38 "java/lang/String" "COMPACT_STRINGS" "Z", .fieldLink "java/lang/String" 15 "java/lang/String" "coder" "B", .fieldLink "java/lang/String" 9 "java/lang/String" "value" "[B", LEq.tab] ++ staticW "java/lang/String" 541 LEq.yN
def tab : Cond := tabOf yN yB 3 (some .boolean) site
def P (x t : Addr) (V : Cell) (cd : Int32) (n : Nat) (f : Nat → Int32) (y t' : Addr) (V' : Cell) (cd' : Int32) (k : Nat) (g : Nat → Int32) (z : Int32) (args : Array Value) (s : State) : Prop := args = #[.ref x, .ref y] ∧ Txt x t V cd n f s ∧ Txt y t' V' cd' k g s ∧ StaticIs s "java/lang/String" "COMPACT_STRINGS" "Z" (.int z) ∧ ¬ z = 0
/-- equals(Object) of two Strings: whether the texts are the same -/
theorem law (l : Launch) (x t : Addr) (V : Cell) (cd : Int32) (n : Nat) (f : Nat → Int32) (y t' : Addr) (V' : Cell) (cd' : Int32) (k : Nat) (g : Nat → Int32) (z : Int32) : Law l yN 2 1 1 14 yB 3 (some .boolean) site (P x t V cd n f y t' V' cd' k g z) (Says01 (SameT n f k g)) [] 0 0 := by
  refine Law.of_walk (plainFor_of_name (by decide +kernel)) (by decide +kernel) (by decide +kernel) (by decide) (fun _ _ h => by rw [h.1]; rfl) (fun _ U U' hal hh h => ⟨h.1, h.2.1.mv hal hh, h.2.2.1.mv hal hh, h.2.2.2.1.there hal hh, h.2.2.2.2⟩) (fun r U U' V V' h1 hal h2 h => Says01.mv r U U' V V' h1 hal h2 h) ?_
  intro p e s m args below meth c s₁ X0 hexec hbytes hml hret hlk hnm hown hh0 W hP
  obtain ⟨rfl, hx, hy, s1, hz⟩ := hP
  have c1 : Steps p.tables e below (s₁.setTop (entryFrame m #[.ref x, .ref y] 3)) (s₁.setTop (mkF m 2 #[.val (.ref x), .val (.ref y), .unset] [.ref y, .ref x])) := Steps.trans (entry rfl) (by
    show Steps p.tables e below (s₁.setTop (mkF m 0 #[.val (.ref x), .val (.ref y), .unset] [])) _
    refine XS.aloadN X0.here hexec rfl (hb hbytes d0) rfl rfl ?_
    refine XS.aloadN X0.here hexec rfl (hb hbytes d1) rfl rfl ?_
    exact Steps.refl _)
  by_cases hxy : x = y
  · have c2 : Steps p.tables e below (s₁.setTop (entryFrame m #[.ref x, .ref y] 3)) (s₁.setTop (mkF m 6 #[.val (.ref x), .val (.ref y), .unset] [.int 1])) := c1.trans (by
      refine acmpNo X0.here hexec rfl (hb hbytes d2) rfl rfl rfl (by simp [acmp, hxy]) ?_
      refine iconstV X0.here hexec rfl 1 (hb hbytes d5) (by decide) ?_
      exact Steps.refl _)
    subst hxy
    have ec : cd = cd' := by
      obtain ⟨D, fd, a1, a2, a3⟩ := hx.2.2.1
      obtain ⟨D', fd', b1, b2, b3⟩ := hy.2.2.1
      cases a1.symm.trans b1
      obtain ⟨q1, q2, q3, q4⟩ := a2.1
      obtain ⟨r1, r2, r3, r4⟩ := b2.1
      cases q4.symm.trans r4
      cases a3.symm.trans b3; rfl
    have et : t = t' := by
      obtain ⟨D, fd, a1, a2, a3⟩ := hx.2.1
      obtain ⟨D', fd', b1, b2, b3⟩ := hy.2.1
      cases a1.symm.trans b1
      obtain ⟨q1, q2, q3, q4⟩ := a2.1
      obtain ⟨r1, r2, r3, r4⟩ := b2.1
      cases q4.symm.trans r4
      cases a3.symm.trans b3; rfl
    subst ec et
    have ev : V = V' := by cases hx.2.2.2.1.1.symm.trans hy.2.2.2.1.1; rfl
    subst ev
    have hs : SameT n f k g := (Cod.eqv hx.2.2.2.2.1 hy.2.2.2.2.1 hx.2.2.2.2.2 hy.2.2.2.2.2).mp ⟨rfl, fun _ _ => rfl⟩
    exact ⟨s₁, some (.int 1), _, _, _, X0, rfl, rfl, rfl, (fun h => by cases h), ⟨1, rfl, hh0, Or.inl ⟨rfl, hs⟩⟩, fun fs hl => c2.trans (X0.ireturnOut hexec hret rfl (Or.inr (Or.inl rfl)) (hb hbytes d6) hl)⟩
  · have c2 : Steps p.tables e below (s₁.setTop (entryFrame m #[.ref x, .ref y] 3)) (s₁.setTop (mkF m 8 #[.val (.ref x), .val (.ref y), .unset] [.ref y])) := c1.trans (by
      refine acmpYes X0.here hexec rfl (pc0 := 2) rfl (hb hbytes d2) rfl rfl rfl (by simp [acmp, hxy]) (by decide) rfl ?_
      refine XS.aloadN X0.here hexec rfl (hb hbytes d7) rfl rfl ?_
      exact Steps.refl _)
    obtain ⟨T3, X3, q3, st3⟩ := cinst X0 hexec hown (wk W (.classLink "java/lang/String" 10 "java/lang/String")) (hy.mv X0.warmed.alike hh0).1 (g := (mkF m 8 #[.val (.ref x), .val (.ref y), .unset] [.ref y])) rfl (rest := []) rfl (hb hbytes d8)
    have hh3 := q3.trans hh0
    have c4 : Steps p.tables e below (s₁.setTop (entryFrame m #[.ref x, .ref y] 3)) (T3.setTop (mkF m 15 #[.val (.ref x), .val (.ref y), .unset] [.ref y])) := (c2.trans (st3 _ (Steps.refl _))).trans (by
      refine XS.ifNo X3.here hexec rfl (hb hbytes d11) rfl (i0_eq_f (by decide)) ?_
      refine XS.aloadN X3.here hexec rfl (hb hbytes d14) rfl rfl ?_
      exact Steps.refl _)
    obtain ⟨T5, X5, q5, st5⟩ := cself X3 hexec hown (wk W (.classLink "java/lang/String" 10 "java/lang/String")) (hy.mv X3.warmed.alike hh3).1 (g := (mkF m 15 #[.val (.ref x), .val (.ref y), .unset] [.ref y])) rfl (rest := []) rfl (hb hbytes d15)
    have hh5 := q5.trans hh3
    have c6 : Steps p.tables e below (s₁.setTop (entryFrame m #[.ref x, .ref y] 3)) (T5.setTop (mkF m 19 #[.val (.ref x), .val (.ref y), .val (.ref y)] [])) := (c4.trans (st5 _ (Steps.refl _))).trans (by
      refine XS.astoreN X5.here hexec rfl (hb hbytes d18) rfl rfl rfl ?_
      exact Steps.refl _)
    obtain ⟨T7, X7, q7, st7⟩ := X5.sget hexec hown (wk W (.fieldLink "java/lang/String" 38 "java/lang/String" "COMPACT_STRINGS" "Z")) s1 (fun _ _ h => by rw [hh5]; exact h) (g := (mkF m 19 #[.val (.ref x), .val (.ref y), .val (.ref y)] [])) rfl (hb hbytes d19)
    have hh7 := q7.trans hh5
    have c8 : Steps p.tables e below (s₁.setTop (entryFrame m #[.ref x, .ref y] 3)) (T7.setTop (mkF m 26 #[.val (.ref x), .val (.ref y), .val (.ref y)] [.ref x])) := (c6.trans (st7 _ (Steps.refl _))).trans (by
      refine XS.ifNo X7.here hexec rfl (hb hbytes d22) rfl (i0_eq_f hz) ?_
      refine XS.aloadN X7.here hexec rfl (hb hbytes d25) rfl rfl ?_
      exact Steps.refl _)
    obtain ⟨T9, X9, q9, st9⟩ := X7.hget hexec hown (wk W (.fieldLink "java/lang/String" 15 "java/lang/String" "coder" "B")) (hx.mv X7.warmed.alike hh7).2.2.1 (g := (mkF m 26 #[.val (.ref x), .val (.ref y), .val (.ref y)] [.ref x])) rfl (rest := []) rfl (hb hbytes d26)
    have hh9 := q9.trans hh7
    have c10 : Steps p.tables e below (s₁.setTop (entryFrame m #[.ref x, .ref y] 3)) (T9.setTop (mkF m 30 #[.val (.ref x), .val (.ref y), .val (.ref y)] [.ref y, .int cd])) := (c8.trans (st9 _ (Steps.refl _))).trans (by
      refine XS.aloadN X9.here hexec rfl (hb hbytes d29) rfl rfl ?_
      exact Steps.refl _)
    obtain ⟨T11, X11, q11, st11⟩ := X9.hget hexec hown (wk W (.fieldLink "java/lang/String" 15 "java/lang/String" "coder" "B")) (hy.mv X9.warmed.alike hh9).2.2.1 (g := (mkF m 30 #[.val (.ref x), .val (.ref y), .val (.ref y)] [.ref y, .int cd])) rfl (rest := [.int cd]) rfl (hb hbytes d30)
    have hh11 := q11.trans hh9
    have c12 : Steps p.tables e below (s₁.setTop (entryFrame m #[.ref x, .ref y] 3)) (T11.setTop (mkF m 33 #[.val (.ref x), .val (.ref y), .val (.ref y)] [.int cd', .int cd])) := c10.trans (st11 _ (Steps.refl _))
    by_cases hcd : cd = cd'
    · subst hcd
      have c13 : Steps p.tables e below (s₁.setTop (entryFrame m #[.ref x, .ref y] 3)) (T11.setTop (mkF m 37 #[.val (.ref x), .val (.ref y), .val (.ref y)] [.ref x])) := c12.trans (by
        refine XS.icmpNo X11.here hexec rfl (hb hbytes d33) rfl (ii_ne_f rfl) ?_
        refine XS.aloadN X11.here hexec rfl (hb hbytes d36) rfl rfl ?_
        exact Steps.refl _)
      obtain ⟨T14, X14, q14, st14⟩ := X11.hget hexec hown (wk W (.fieldLink "java/lang/String" 9 "java/lang/String" "value" "[B")) (hx.mv X11.warmed.alike hh11).2.1 (g := (mkF m 37 #[.val (.ref x), .val (.ref y), .val (.ref y)] [.ref x])) rfl (rest := []) rfl (hb hbytes d37)
      have hh14 := q14.trans hh11
      have c15 : Steps p.tables e below (s₁.setTop (entryFrame m #[.ref x, .ref y] 3)) (T14.setTop (mkF m 41 #[.val (.ref x), .val (.ref y), .val (.ref y)] [.ref y, .ref t])) := (c13.trans (st14 _ (Steps.refl _))).trans (by
        refine XS.aloadN X14.here hexec rfl (hb hbytes d40) rfl rfl ?_
        exact Steps.refl _)
      obtain ⟨T16, X16, q16, st16⟩ := X14.hget hexec hown (wk W (.fieldLink "java/lang/String" 9 "java/lang/String" "value" "[B")) (hy.mv X14.warmed.alike hh14).2.1 (g := (mkF m 41 #[.val (.ref x), .val (.ref y), .val (.ref y)] [.ref y, .ref t])) rfl (rest := [.ref t]) rfl (hb hbytes d41)
      have hh16 := q16.trans hh14
      have c17 : Steps p.tables e below (s₁.setTop (entryFrame m #[.ref x, .ref y] 3)) (T16.setTop (mkF m 44 #[.val (.ref x), .val (.ref y), .val (.ref y)] [.ref t', .ref t])) := c15.trans (st16 _ (Steps.refl _))
      obtain ⟨v18, T18, X18, E18, g18⟩ := X16.callS hexec (LEq.law l t V t' V') hown (wks W (staticW "java/lang/String" 541 LEq.yN)) (wk W LEq.tab) (W := 0) (Nat.le_of_ble_eq_true rfl) (Nat.le_of_ble_eq_true rfl) (Nat.le_refl _) (Nat.le_refl _) (g := (mkF m 44 #[.val (.ref x), .val (.ref y), .val (.ref y)] [.ref t', .ref t])) rfl (by rw [hml]; rfl) c17 (argsL := [.ref t, .ref t']) (rest := []) rfl rfl (by show 2 * 0 + 0 ≤ _; decide) (hb hbytes d44) (⟨rfl, hx.2.2.2.1.mv X16.warmed.alike hh16, hx.2.2.2.2.1.ty, hy.2.2.2.1.mv X16.warmed.alike hh16, hy.2.2.2.2.1.ty⟩)
      obtain ⟨v, rfl, q18, hv⟩ := E18
      have iff := Cod.eqv hx.2.2.2.2.1 hy.2.2.2.2.1 hx.2.2.2.2.2 hy.2.2.2.2.2
      rcases hv with ⟨rfl, he⟩ | ⟨rfl, he⟩
      · have c19 : Steps p.tables e below (s₁.setTop (entryFrame m #[.ref x, .ref y] 3)) (T18.setTop (mkF m 55 #[.val (.ref x), .val (.ref y), .val (.ref y)] [.int 1])) := Steps.trans g18 (by
          refine XS.ifNo X18.here hexec rfl (hb hbytes d47) rfl (i0_eq_f (by decide)) ?_
          refine iconstV X18.here hexec rfl 1 (hb hbytes d50) (by decide) ?_
          refine XS.goto X18.here hexec rfl (pc0 := 51) rfl (hb hbytes d51) (by decide) rfl ?_
          exact Steps.refl _)
        exact ⟨T18, some (.int 1), _, _, _, X18, rfl, rfl, rfl, (fun h => by cases h), ⟨1, rfl, q18.trans hh16, Or.inl ⟨rfl, iff.mp he⟩⟩, fun fs hl => c19.trans (X18.ireturnOut hexec hret rfl (Or.inr (Or.inl rfl)) (hb hbytes d55) hl)⟩
      · have c19 : Steps p.tables e below (s₁.setTop (entryFrame m #[.ref x, .ref y] 3)) (T18.setTop (mkF m 55 #[.val (.ref x), .val (.ref y), .val (.ref y)] [.int 0])) := Steps.trans g18 (by
          refine XS.ifYes X18.here hexec rfl (pc0 := 47) rfl (hb hbytes d47) rfl (i0_eq_t rfl) (by decide) rfl ?_
          refine iconstV X18.here hexec rfl 0 (hb hbytes d54) (by decide) ?_
          exact Steps.refl _)
        exact ⟨T18, some (.int 0), _, _, _, X18, rfl, rfl, rfl, (fun h => by cases h), ⟨0, rfl, q18.trans hh16, Or.inr ⟨rfl, fun q => he (iff.mpr q)⟩⟩, fun fs hl => c19.trans (X18.ireturnOut hexec hret rfl (Or.inr (Or.inl rfl)) (hb hbytes d55) hl)⟩
    · have c13 : Steps p.tables e below (s₁.setTop (entryFrame m #[.ref x, .ref y] 3)) (T11.setTop (mkF m 55 #[.val (.ref x), .val (.ref y), .val (.ref y)] [.int 0])) := c12.trans (by
        refine XS.icmpYes X11.here hexec rfl (pc0 := 33) rfl (hb hbytes d33) rfl (ii_ne_t hcd) (by decide) rfl ?_
        refine iconstV X11.here hexec rfl 0 (hb hbytes d54) (by decide) ?_
        exact Steps.refl _)
      exact ⟨T11, some (.int 0), _, _, _, X11, rfl, rfl, rfl, (fun h => by cases h), ⟨0, rfl, hh11, Or.inr ⟨rfl, Cod.dif hx.2.2.2.2.1 hy.2.2.2.2.1 hcd⟩⟩, fun fs hl => c13.trans (X11.ireturnOut hexec hret rfl (Or.inr (Or.inl rfl)) (hb hbytes d55) hl)⟩
theorem pays {l : Launch} {R : Room} {p : Program} {e : Env} {below : List Frame} {s : State} {sargs : Array Value} {len W : Nat} (x t : Addr) (V : Cell) (cd : Int32) (n : Nat) (f : Nat → Int32) (y t' : Addr) (V' : Cell) (cd' : Int32) (k : Nat) (g : Nat → Int32) (z : Int32) (htab : tab.before sargs s = true) (hfr : 2 ≤ R.frames) (hlo : W + 28 ≤ R.locals) :
    Back l R p e below s sargs yN len W (fun A₁ a₁ => A₁.cells + 0 ≤ R.cells ∧ A₁.slots + 0 ≤ R.slots ∧ P x t V cd n f y t' V' cd' k g z a₁ A₁.U) (fun A₁ _ v₁ B₁ => Says01 (SameT n f k g) v₁ A₁.U B₁.U ∧ B₁.locs = A₁.locs ++ [] ∧ B₁.cells = A₁.cells + 0 ∧ B₁.slots = A₁.slots + 0) :=
  (law l x t V cd n f y t' V' cd' k g z).pays htab hfr (by omega)
end SEq
end StrChars
namespace StrChars.Road
open Jvm Sem ClassFile Op Lib Jvm.Stand Jvm.Free Jvm.Free.XT
open Jvm.Lib.Cold (StaticIs)
/-- the words of String.equals(Object) -/
abbrev wordsEq : List Jvm.Cond := [.code SEq.yN SEq.yB 3 (some .boolean), .initialized ST, .classLink ST 10 ST, .fieldLink ST 38 ST "COMPACT_STRINGS" "Z", .fieldLink ST 15 ST "coder" "B", .fieldLink ST 9 ST "value" "[B", .methodLink ST 541 LEq.yN, .static LEq.yN, .code LEq.yN LEq.yB 3 (some .boolean), .initialized "java/lang/StringLatin1"]
theorem tabEq_of {a : Array Value} {s : State} (h : ∀ w ∈ wordsEq, w.before a s = true) : SEq.tab.before a s = true := by
  have hl : LEq.tab.before a s = true := unparts (wk h (.code LEq.yN LEq.yB 3 (some .boolean))) (wks h (.initialized LEq.yN.cls :: LEq.site))
  have q := consq hl h
  exact unparts (wk q (.code SEq.yN SEq.yB 3 (some .boolean))) (wks q (.initialized SEq.yN.cls :: SEq.site))
theorem movedEq {Z s : State} {a0 args : Array Value} (hZ : Z.Warmed39 s.vm) (hw : ∀ d ∈ wordsEq, d.before a0 Z = true) : ∀ d ∈ wordsEq, d.before args s = true := fun d hd => by
  have t : ∀ d ∈ wordsEq, (d.onTables && d.keepsFace) = true := by decide +kernel
  exact RoadKit.mv hZ (hw d hd) (t d hd)
/-- the road's facts of a String, as the laws ask it -/
theorem txt_of {Z U : State} {a0 : Array Value} {kI : Nat} (wi : (Jvm.Cond.instantiable ST kI).before a0 Z = true) (al : Z.vm.Alike U.vm) {x t : Addr} {kb : ClassId} {cs : List Int32} {cd N2 : Int32} {vs : List Value} (E : RoadKit.Exa Z U.heap x ST) (V : RoadKit.Fld Z U.heap x ST "value" "[B" (.ref t)) (C : RoadKit.Fld Z U.heap x ST "coder" "B" (.int cd)) (K : RoadKit.Arv Z U.heap t kb .byte N2 vs (.int 0)) (hc : CodA cs cd N2 vs) (hb : ∀ c ∈ cs, ¬ c < 0 ∧ ¬ (65535 : Int32) < c) (l2 : cs.length ≤ 4000) :
    ∃ A, Txt x t A cd cs.length (fun j => cs.getD j 0) U := by
  obtain ⟨A, K1, K2, K3, K4, K5, K6⟩ := K
  have hcod := hc.cod (by omega) K3 K5
  obtain ⟨D, fV, fC, hB, F1, F2, g1, g2, -, -⟩ := strObj wi al E V C
  exact ⟨A, ⟨_, hB.2.2.1, D, hB.1, rfl, by cases q : D.vm <;> first | rfl | exact absurd q (hB.2.1.2 _)⟩, Has.of hB F1 g1, Has.of hB F2 g2, ⟨K1.1, State.isArrayOf_alike al K1.2.1, K1.2.2, by rcases hcod with ⟨-, q, -⟩ | ⟨-, q, -⟩ <;> omega⟩, hcod, fun j hj => by
    have e : cs.getD j 0 = cs[j] := by simp [List.getD_eq_getElem?_getD, hj]
    show ¬ cs.getD j 0 < 0 ∧ ¬ 65535 < cs.getD j 0
    rw [e]; exact hb _ (List.getElem_mem _)⟩
theorem same_list (cs ds : List Int32) : SameT cs.length (fun j => cs.getD j 0) ds.length (fun j => ds.getD j 0) ↔ cs = ds := by
  constructor
  · rintro ⟨e, q⟩
    refine List.ext_getElem e fun j h1 h2 => ?_
    have := q j h1
    simpa [List.getD_eq_getElem?_getD, h1, h2] using this
  · rintro rfl
    exact ⟨rfl, fun _ _ => rfl⟩
/-- **equals(Object) OF TWO SUCH STRINGS**: 1 just where the chars are the same -/
theorem eqW {p : Program} {l : Launch} {e : Env} {R : Room} {s : State} {args : Array Value} {below : List Frame} {len W : Nat} {Z : State} {a0 : Array Value} {h : Heap} (hZ : Z.Warmed39 s.vm) (hw : ∀ d ∈ wordsEq, d.before a0 Z = true) {kI : Nat} (wi : (Jvm.Cond.instantiable ST kI).before a0 Z = true)
    {x t : Addr} {kb : ClassId} {cs : List Int32} {cd N2 : Int32} {vs : List Value} (E : RoadKit.Exa Z h x ST) (V : RoadKit.Fld Z h x ST "value" "[B" (.ref t)) (C : RoadKit.Fld Z h x ST "coder" "B" (.int cd)) (K : RoadKit.Arv Z h t kb .byte N2 vs (.int 0)) (hc : CodA cs cd N2 vs) (hb : ∀ c ∈ cs, ¬ c < 0 ∧ ¬ (65535 : Int32) < c) (l2 : cs.length ≤ 4000)
    {y t' : Addr} {kb' : ClassId} {ds : List Int32} {cd' N2' : Int32} {vs' : List Value} (E' : RoadKit.Exa Z h y ST) (V' : RoadKit.Fld Z h y ST "value" "[B" (.ref t')) (C' : RoadKit.Fld Z h y ST "coder" "B" (.int cd')) (K' : RoadKit.Arv Z h t' kb' .byte N2' vs' (.int 0)) (hc' : CodA ds cd' N2' vs') (hb' : ∀ c ∈ ds, ¬ c < 0 ∧ ¬ (65535 : Int32) < c) (l2' : ds.length ≤ 4000)
    {z : Int32} (S : RoadKit.Sta Z h ST "COMPACT_STRINGS" "Z" (.int z)) (hz : ¬ z = 0) (hfr : 2 ≤ R.frames) (hlo : W + 28 ≤ R.locals) :
    Back l R p e below s args (⟨"java/lang/String", "equals", "(Ljava/lang/Object;)Z"⟩ : MethodName) len W (fun P a => a = #[.ref x, .ref y] ∧ P.U.heap = h ∧ P.cells + 0 ≤ R.cells ∧ P.slots + 0 ≤ R.slots)
      (fun P _ v B => ∃ L, (((v = some (.int 1) ∧ cs = ds) ∨ (v = some (.int 0) ∧ ¬ cs = ds)) ∧ L = [] ∧ B.U.heap = h) ∧ B.locs = P.locs ++ L ∧ B.cells = P.cells + 0 ∧ B.slots = P.slots + 0) := by
  intro m meth c P g ig mk a X hg hsize hdg hW hn hp'
  obtain ⟨rfl, rfl, r1, r2⟩ := hp'
  have al : Z.vm.Alike P.U.vm := hZ.alike.trans X.warmed.alike
  obtain ⟨A, hx⟩ := txt_of wi al E V C K hc hb l2
  obtain ⟨A', hy⟩ := txt_of wi al E' V' C' K' hc' hb' l2'
  obtain ⟨v, B, X', ⟨⟨w, hv, hh, hq⟩, hl, hk, hs⟩, st⟩ := SEq.pays x t A cd cs.length (fun j => cs.getD j 0) y t' A' cd' ds.length (fun j => ds.getD j 0) z (tabEq_of (movedEq hZ hw)) hfr hlo m meth c P g ig mk _ X hg hsize hdg hW hn ⟨r1, r2, rfl, hx, hy, sta_is al S, hz⟩
  refine ⟨v, B, X', ⟨[], ⟨?_, rfl, hh⟩, hl, hk, hs⟩, st⟩
  rcases hq with ⟨rfl, q⟩ | ⟨rfl, q⟩
  · exact Or.inl ⟨hv, (same_list cs ds).mp q⟩
  · exact Or.inr ⟨hv, fun e => q ((same_list cs ds).mpr e)⟩
end StrChars.Road
namespace StrChars
open Jvm Sem ClassFile Op Lib Jvm.Stand Jvm.Free.XT Jvm.Free.ALB Jvm.Free.JM Jvm.Free
open Jvm.Lib.Cold (StaticIs)
namespace ChN
def yN : MethodName := ⟨"java/lang/String", "charAt", "(I)C"⟩
abbrev yB : ByteArray := jdk_42_method_56_code
theorem d0 : decode yB 0 = .ok (.aload_n 0, 1) := by decide +kernel
theorem d1 : decode yB 1 = .ok (.invokevirtual 492, 3) := by decide +kernel
theorem d4 : decode yB 4 = .ok (.ifCond (.eq) 12, 3) := by decide +kernel
theorem d7 : decode yB 7 = .ok (.aload_n 0, 1) := by decide +kernel
theorem d8 : decode yB 8 = .ok (.getfield 9, 3) := by decide +kernel
theorem d11 : decode yB 11 = .ok (.iload_n 1, 1) := by decide +kernel
theorem d12 : decode yB 12 = .ok (.invokestatic 495, 3) := by decide +kernel
theorem d15 : decode yB 15 = .ok (.ireturn, 1) := by decide +kernel
def site : List Cond := [.fieldLink "java/lang/String" 9 "java/lang/String" "value" "[B", IsL.tab, LChA.tab] ++ virtW "java/lang/String" 492 "java/lang/String" IsL.yN IsL.yN ++ staticW "java/lang/String" 495 LChA.yN
def tab : Cond := tabOf yN yB 2 (some .char) site
def P (x t : Addr) (V : Cell) (n : Nat) (f : Nat → Int32) (z : Int32) (fm : Value) (i : Nat) (args : Array Value) (s : State) : Prop := args = #[.ref x, .int (Int32.ofNat i)] ∧ Txt x t V 0 n f s ∧ i < n ∧ StaticIs s "java/lang/String" "COMPACT_STRINGS" "Z" (.int z) ∧ ¬ z = 0 ∧ StaticIs s "jdk/internal/util/Preconditions" "SIOOBE_FORMATTER" "Ljava/util/function/BiFunction;" fm ∧ fm.isRef = true
def E (f : Nat → Int32) (i : Nat) (r : Option Value) (s u : State) : Prop := XT.PureE (some (.int (f i))) r s u
/-- charAt(i) of a Latin-1 String of n chars, i < n: f i -/
theorem law (l : Launch) (x t : Addr) (V : Cell) (n : Nat) (f : Nat → Int32) (z : Int32) (fm : Value) (i : Nat) : Law l yN 2 1 3 40 yB 2 (some .char) site (P x t V n f z fm i) (E f i) [] 0 0 := by
  refine Law.of_walk (plainFor_of_name (by decide +kernel)) (by decide +kernel) (by decide +kernel) (by decide) (fun _ _ h => by rw [h.1]; rfl) (fun _ U U' hal hh h => ⟨h.1, h.2.1.mv hal hh, h.2.2.1, h.2.2.2.1.there hal hh, h.2.2.2.2.1, h.2.2.2.2.2.1.there hal hh, h.2.2.2.2.2.2⟩) (fun r U U' V V' h1 hal h2 h => XT.PureE.mv r U U' V V' h1 hal h2 h) ?_
  intro p e s m args below meth c s₁ X0 hexec hbytes hml hret hlk hnm hown hh0 W hP
  obtain ⟨rfl, hx, hi, s1, hz, s3, rf⟩ := hP
  have v31 := hx.2.2.2.1.2.2.2
  have hr := hx.2.2.2.2.2 i hi
  have hx0 := hx.mv X0.warmed.alike hh0
  have c1 : Steps p.tables e below (s₁.setTop (entryFrame m #[.ref x, .int (Int32.ofNat i)] 2)) (s₁.setTop (mkF m 1 #[.val (.ref x), .val (.int (Int32.ofNat i))] [.ref x])) := Steps.trans (entry rfl) (by
    show Steps p.tables e below (s₁.setTop (mkF m 0 #[.val (.ref x), .val (.int (Int32.ofNat i))] [])) _
    refine XS.aloadN X0.here hexec rfl (hb hbytes d0) rfl rfl ?_
    exact Steps.refl _)
  obtain ⟨v2, T2, X2, E2, g2⟩ := X0.callV hexec (IsL.law l x 0 z) hown (wks W (virtW "java/lang/String" 492 "java/lang/String" IsL.yN IsL.yN)) rfl (by decide) (wk W IsL.tab) (W := 0) (Nat.le_of_ble_eq_true rfl) (Nat.le_of_ble_eq_true rfl) (Nat.le_refl _) (Nat.le_refl _) (hx0.1.fc X0.warmed.alike) hx0.1.is (g := (mkF m 1 #[.val (.ref x), .val (.int (Int32.ofNat i))] [.ref x])) rfl (by rw [hml]; rfl) c1 (argsL := []) (rest := []) rfl rfl (by show 2 * 0 + 0 ≤ _; decide) (hb hbytes d1) (⟨rfl, hx0.2.2.1, hx.2.2.2.2.1.cd, s1.there X0.warmed.alike hh0, hz⟩)
  obtain ⟨rfl, q2⟩ := E2
  have hh2 := q2.trans hh0
  have hx2 := hx.mv X2.warmed.alike hh2
  obtain ⟨-, k1, k2⟩ | ⟨k0, -⟩ := hx.2.2.2.2.1
  · have c3 : Steps p.tables e below (s₁.setTop (entryFrame m #[.ref x, .int (Int32.ofNat i)] 2)) (T2.setTop (mkF m 8 #[.val (.ref x), .val (.int (Int32.ofNat i))] [.ref x])) := Steps.trans g2 (by
      refine XS.ifNo X2.here hexec rfl (hb hbytes d4) rfl (i0_eq_f (by decide)) ?_
      refine XS.aloadN X2.here hexec rfl (hb hbytes d7) rfl rfl ?_
      exact Steps.refl _)
    obtain ⟨T4, X4, q4, st4⟩ := X2.hget hexec hown (wk W (.fieldLink "java/lang/String" 9 "java/lang/String" "value" "[B")) hx2.2.1 (g := (mkF m 8 #[.val (.ref x), .val (.int (Int32.ofNat i))] [.ref x])) rfl (rest := []) rfl (hb hbytes d8)
    have hh4 := q4.trans hh2
    have c5 : Steps p.tables e below (s₁.setTop (entryFrame m #[.ref x, .int (Int32.ofNat i)] 2)) (T4.setTop (mkF m 12 #[.val (.ref x), .val (.int (Int32.ofNat i))] [.int (Int32.ofNat i), .ref t])) := (c3.trans (st4 _ (Steps.refl _))).trans (by
      refine XS.iloadN X4.here hexec rfl (hb hbytes d11) rfl ?_
      exact Steps.refl _)
    obtain ⟨v6, T6, X6, E6, g6⟩ := X4.callS hexec (LChA.law l t V i (lo8 (f i)) fm) hown (wks W (staticW "java/lang/String" 495 LChA.yN)) (wk W LChA.tab) (W := 0) (Nat.le_of_ble_eq_true rfl) (Nat.le_of_ble_eq_true rfl) (Nat.le_refl _) (Nat.le_refl _) (g := (mkF m 12 #[.val (.ref x), .val (.int (Int32.ofNat i))] [.int (Int32.ofNat i), .ref t])) rfl (by rw [hml]; rfl) c5 (argsL := [.ref t, .int (Int32.ofNat i)]) (rest := []) rfl rfl (by show 2 * 0 + 0 ≤ _; decide) (hb hbytes d12) (⟨rfl, hx.2.2.2.1.mv X4.warmed.alike hh4, (k2 i hi).1, s3.there X4.warmed.alike hh4, rf⟩)
    obtain ⟨rfl, q6⟩ := E6
    rw [chr8_lo8 hr.1 (k2 i hi).2] at g6
    exact ⟨T6, some (.int (f i)), _, _, _, X6, rfl, rfl, rfl, (fun h => by cases h), ⟨rfl, q6.trans hh4⟩, fun fs hl => Steps.trans g6 (X6.ireturnOut hexec hret (narrow_ch hr.1 hr.2) (Or.inr (Or.inr (Or.inr (Or.inl rfl)))) (hb hbytes d15) hl)⟩
  · exact absurd k0 (by decide)
theorem pays {l : Launch} {R : Room} {p : Program} {e : Env} {below : List Frame} {s : State} {sargs : Array Value} {len W : Nat} (x t : Addr) (V : Cell) (n : Nat) (f : Nat → Int32) (z : Int32) (fm : Value) (i : Nat) (htab : tab.before sargs s = true) (hfr : 4 ≤ R.frames) (hlo : W + 53 ≤ R.locals) :
    Back l R p e below s sargs yN len W (fun A₁ a₁ => A₁.cells + 0 ≤ R.cells ∧ A₁.slots + 0 ≤ R.slots ∧ P x t V n f z fm i a₁ A₁.U) (fun A₁ _ v₁ B₁ => E f i v₁ A₁.U B₁.U ∧ B₁.locs = A₁.locs ++ [] ∧ B₁.cells = A₁.cells + 0 ∧ B₁.slots = A₁.slots + 0) :=
  (law l x t V n f z fm i).pays htab hfr (by omega)
end ChN
end StrChars
namespace StrChars.Road
open Jvm Sem ClassFile Op Lib Jvm.Stand Jvm.Free Jvm.Free.XT
open Jvm.Lib.Cold (StaticIs)
/-- the words of String.charAt(int), the Latin-1 road alone -/
abbrev wordsChN : List Jvm.Cond := [.code ChN.yN ChN.yB 2 (some .char), .initialized ST, .fieldLink ST 9 ST "value" "[B", .fieldLink ST 38 ST "COMPACT_STRINGS" "Z", .fieldLink ST 15 ST "coder" "B", .code IsL.yN IsL.yB 1 (some .boolean), .methodLink ST 492 IsL.yN, .declares IsL.yN, .selects ST IsL.yN IsL.yN, .instanceMethod IsL.yN,
  .methodLink ST 495 LChA.yN, .static LChA.yN, .code LChA.yN LChA.yB 2 (some .char), .initialized "java/lang/StringLatin1", .methodLink "java/lang/StringLatin1" 9 JO.Str_checkIndex.yN, .static JO.Str_checkIndex.yN, .code JO.Str_checkIndex.yN JO.Str_checkIndex.yB 2 none,
  .fieldLink ST 1053 "jdk/internal/util/Preconditions" "SIOOBE_FORMATTER" "Ljava/util/function/BiFunction;", .methodLink ST 1059 JC.PreCheck.yN, .static JC.PreCheck.yN, .code JC.PreCheck.yN JC.PreCheck.yB 3 (some .int), .initialized "jdk/internal/util/Preconditions"]
theorem tabChN_of {a : Array Value} {s : State} (h : ∀ w ∈ wordsChN, w.before a s = true) : ChN.tab.before a s = true := by
  have hp : JC.PreCheck.tab.before a s = true := unparts (wk h (.code JC.PreCheck.yN JC.PreCheck.yB 3 (some .int))) (wks h (.initialized JC.PreCheck.yN.cls :: JC.PreCheck.site))
  have qk := consq hp h
  have hk : JO.Str_checkIndex.tab.before a s = true := unparts (wk qk (.code JO.Str_checkIndex.yN JO.Str_checkIndex.yB 2 none)) (wks qk (.initialized JO.Str_checkIndex.yN.cls :: JO.Str_checkIndex.site))
  have ql := consq hk h
  have hl : LChA.tab.before a s = true := unparts (wk ql (.code LChA.yN LChA.yB 2 (some .char))) (wks ql (.initialized LChA.yN.cls :: LChA.site))
  have hi : IsL.tab.before a s = true := unparts (wk h (.code IsL.yN IsL.yB 1 (some .boolean))) (wks h (.initialized IsL.yN.cls :: IsL.site))
  have q := consq hi (consq hl h)
  exact unparts (wk q (.code ChN.yN ChN.yB 2 (some .char))) (wks q (.initialized ChN.yN.cls :: ChN.site))
theorem movedChN {Z s : State} {a0 args : Array Value} (hZ : Z.Warmed39 s.vm) (hw : ∀ d ∈ wordsChN, d.before a0 Z = true) : ∀ d ∈ wordsChN, d.before args s = true := fun d hd => by
  have t : ∀ d ∈ wordsChN, (d.onTables && d.keepsFace) = true := by decide +kernel
  exact RoadKit.mv hZ (hw d hd) (t d hd)
/-- **charAt(i) OF A LATIN-1 STRING**, i < n: the char -/
theorem chN {p : Program} {l : Launch} {e : Env} {R : Room} {s : State} {args : Array Value} {below : List Frame} {len W : Nat} {Z : State} {a0 : Array Value} {h : Heap} (hZ : Z.Warmed39 s.vm) (hw : ∀ d ∈ wordsChN, d.before a0 Z = true) {kI : Nat} (wi : (Jvm.Cond.instantiable ST kI).before a0 Z = true)
    {x t : Addr} {kb : ClassId} {cs : List Int32} {N2 z : Int32} {vs : List Value} {fm : Value} {i : Nat} {j : Int32} (E : RoadKit.Exa Z h x ST) (V : RoadKit.Fld Z h x ST "value" "[B" (.ref t)) (C : RoadKit.Fld Z h x ST "coder" "B" (.int 0)) (K : RoadKit.Arv Z h t kb .byte N2 vs (.int 0)) (hc : CodA cs 0 N2 vs) (hb : ∀ c ∈ cs, ¬ c < 0 ∧ ¬ (65535 : Int32) < c)
    (S : RoadKit.Sta Z h ST "COMPACT_STRINGS" "Z" (.int z)) (hz : ¬ z = 0) (F : RoadKit.Sta Z h "jdk/internal/util/Preconditions" "SIOOBE_FORMATTER" "Ljava/util/function/BiFunction;" fm) (rf : fm.isRef = true) (l2 : cs.length ≤ 4000) (hi : i < cs.length) (hj : j = Int32.ofNat i) (hfr : 4 ≤ R.frames) (hlo : W + 53 ≤ R.locals) :
    Back l R p e below s args (⟨"java/lang/String", "charAt", "(I)C"⟩ : MethodName) len W (fun P a => a = #[.ref x, .int j] ∧ P.U.heap = h ∧ P.cells + 0 ≤ R.cells ∧ P.slots + 0 ≤ R.slots)
      (fun P _ v B => ∃ L, (v = some (.int (cs.getD i 0)) ∧ L = [] ∧ B.U.heap = h) ∧ B.locs = P.locs ++ L ∧ B.cells = P.cells + 0 ∧ B.slots = P.slots + 0) := by
  subst hj
  intro m meth c P g ig mk a X hg hsize hdg hW hn hp'
  obtain ⟨rfl, rfl, r1, r2⟩ := hp'
  have al : Z.vm.Alike P.U.vm := hZ.alike.trans X.warmed.alike
  obtain ⟨A, hx⟩ := txt_of wi al E V C K hc hb l2
  obtain ⟨v, B, X', ⟨⟨hv, hh⟩, hl, hk, hs⟩, st⟩ := ChN.pays x t A cs.length (fun j => cs.getD j 0) z fm i (tabChN_of (movedChN hZ hw)) hfr hlo m meth c P g ig mk _ X hg hsize hdg hW hn ⟨r1, r2, rfl, hx, hi, sta_is al S, hz, sta_is al F, rf⟩
  exact ⟨v, B, X', ⟨[], ⟨hv, rfl, hh⟩, hl, hk, hs⟩, st⟩
end StrChars.Road
end Jvm.Pilot.@@N@@
namespace Jvm.Pilot.@@N@@
open Jvm Jvm.ClassFile Sem Op Lib Jvm.Free Jvm.Stand Jvm.LawKit Jvm.RoadKit Bundle Jvm.Pilot.@@N@@.Jvm.D
namespace Own
theorem hws_of {Z : State} {a0 : Array Value} (hw : ∀ d ∈ tables_1, d.before a0 Z = true) : ∀ d ∈ StrChars.Road.words, d.before a0 Z = true := fun d hd => hw d ((by decide +kernel : ∀ d ∈ StrChars.Road.words, d ∈ tables_1) d hd)
/-- (char) (x & 255) is 0 to 255 -/
theorem and255 (x : Int32) : ¬ nar .char ((x &&& (255 : Int32)).toUInt32.toUInt16.toUInt32.toInt32) < 0 ∧ ¬ (255 : Int32) < nar .char ((x &&& (255 : Int32)).toUInt32.toUInt16.toUInt32.toInt32) := by
  have t : ∀ k : Fin 256, ¬ nar .char ((Int32.ofNat k.val).toUInt32.toUInt16.toUInt32.toInt32) < 0 ∧ ¬ (255 : Int32) < nar .char ((Int32.ofNat k.val).toUInt32.toUInt16.toUInt32.toInt32) := by decide +kernel
  have h : (x &&& 255).toBitVec.toNat < 256 := by
    simp only [Int32.toBitVec_and, BitVec.toNat_and]
    exact Nat.lt_succ_of_le Nat.and_le_right
  have e : (x &&& 255) = Int32.ofNat (x &&& 255).toBitVec.toNat := by
    apply Int32.toBitVec_inj.mp
    show _ = BitVec.ofNat 32 _
    rw [BitVec.ofNat_toNat]; simp
  rw [e]
  exact t ⟨_, h⟩
/-- a String that spells cs -/
def StrIs (Z : State) (h : Heap) (x : Addr) (cs : List Int32) : Prop :=
  (∀ c ∈ cs, ¬ c < 0 ∧ ¬ (255 : Int32) < c) ∧ Exa Z h x "java/lang/String" ∧ Fld Z h x "java/lang/String" "coder" "B" (.int 0) ∧ ∃ (t : Addr) (kb : ClassId), Fld Z h x "java/lang/String" "value" "[B" (.ref t) ∧ Arv Z h t kb .byte (Int32.ofNat cs.length) (cs.map fun c => Value.int (StrChars.lo8 c)) (.int 0)
theorem payStr {wd : Bool} {l : Launch} {R : Room} {p : Program} {e : Env} {below : List Frame} {args : Array Value} {len W : Nat} {Z : State} {a0 : Array Value} (hw : ∀ d ∈ tables_1, d.before a0 Z = true) {n0 : Nat} {h : Heap} {V : Vm → Prop} (hV : VCl V) (wi : (Jvm.Cond.instantiable "java/lang/String" 4).before a0 Z = true)
    {x b : Addr} {kC : ClassId} {cs : List Int32} {d v0 c0 : Value} {z N : Int32} {n : Nat} (hO : Old Z n0 h) (E : Exa Z h x "java/lang/String") (Vl : Fld Z h x "java/lang/String" "value" "[B" v0) (C : Fld Z h x "java/lang/String" "coder" "B" c0) (K : Arv Z h b kC .char N (cs.map Value.int) d) (S : Sta Z Z.heap "java/lang/String" "COMPACT_STRINGS" "Z" (.int z)) (hz : ¬ z = 0)
    (hn : cs.length = n) (hN : N = Int32.ofNat n) (hN' : N.toNatClampNeg = n) (l0 : 0 < n) (l2 : n ≤ 4000) (hp : ∀ c ∈ cs, ¬ c < 0 ∧ ¬ (255 : Int32) < c) (hfr : 4 ≤ R.frames) (hlo : W + 65 ≤ R.locals) :
    Pay wd l R p e below args (⟨"java/lang/String", "<init>", "([C)V"⟩ : MethodName) len W Z h V #[.ref x, .ref b] 1 n [x] (fun v h' vm' => v = none ∧ StrIs Z h' x cs ∧ V vm') := by
  subst hn
  refine Pay.ofBack (Q0 := StrChars.Road.QA Z x N cs h) (fun s' hZ => StrChars.Road.backArv (W := W) hZ (hws_of hw) (kI := 4) wi E Vl C K (S.ext hO.2) hz hN' l0 (by omega) (fun c hc => (hp c hc).2) hfr hlo) hV ?_
  rintro v h' vm' L ⟨q1, q2, q3, q4, q5, q6, q7, ⟨kb, -, q8⟩, -⟩ hv
  subst hN
  exact ⟨⟨q1, ⟨hp, q5, q7, h.size, kb, q6, q8⟩, hv⟩, q3, fun y hy => Or.inl (by rw [q2 y hy]; exact List.mem_singleton.mpr rfl)⟩
end Own
end Jvm.Pilot.@@N@@
namespace Jvm.Pilot.@@N@@
open Jvm Jvm.ClassFile Sem Op Lib Jvm.Free Jvm.Stand Jvm.LawKit Jvm.RoadKit Bundle Jvm.Pilot.@@N@@.Jvm.D
namespace Own
section Held
variable {p : Program} {l : Launch} {e : Env} {R : Room} {s : State} {m : MethodId} {args : Array Value} {below : List Frame} {meth : Method} {c : Code} {own : String} {Z : State} {a0 : Array Value} {n0 : Nat} {h0 : Heap} {ws : List Addr} {vm : Vm} {T : State} {h : Heap} {cells slots : Nat} {EL : List (String × Nat)}
/-- the entry is booked in these tables -/
def LitV (Z : State) (vm : Vm) (own : String) (index : Nat) (a : Addr) : Prop := Lit (Z.setVm vm) own index a
theorem Wk.warm {wd : Bool} (K : Wk wd p l e R s m args below meth c own Z n0 h0 ws vm T h cells slots) : Z.Warmed39 vm := K.2.2.2.2.2.2.2.1
theorem Wk.al {wd : Bool} (K : Wk wd p l e R s m args below meth c own Z n0 h0 ws vm T h cells slots) : Z.vm.Alike vm := K.warm.alike
/-- the constants of EL hold their texts, in these tables and this heap -/
def HV (Z : State) (EL : List (String × Nat)) (h : Heap) : Vm → Prop := fun vm => Z.Warmed39 vm ∧ CHv Z EL vm h
theorem HV.cl (w : EW Z a0 EL) : VCl (HV Z EL h) := fun s vm' q hW => ⟨State.Warmed39.trans q.1 hW.wide, (CHv.later (h' := h) q.1 (show (Wst Z s.vm h).Warmed39 vm' from hW.wide) w ⟨Nat.le_refl _, fun _ _ q => q⟩ (Or.inl hW.interned_eq) q.2).1⟩
/-- a String under construction is no constant's -/
theorem safeNull {x : Addr} (hal : Z.vm.Alike vm) (F : Fld Z h x "java/lang/String" "value" "[B" .null) (E : Exa Z h x "java/lang/String") : Safe Z EL vm h x := fun B => by
  obtain ⟨p, -, u, a, -, q, -, G, rfl | rfl⟩ := B
  · obtain ⟨cS, ⟨⟨s1, s2, s3, ⟨cv, kv, iv, s4, s4'⟩, -, s6, -, s8, -⟩, -⟩, -⟩ := G
    obtain ⟨kv', z4⟩ := ff_back (U := Wst Z vm h) hal s4
    have G' : Fld Z h q.sa "java/lang/String" "value" "[B" (.ref q.sd) := ⟨q.sC, cv, kv', iv, q.fSV, s1, z4, s6, s2, s3, by rw [← hal.assignable]; exact s4', s8⟩
    exact F.ne G' (by simp) rfl
  · obtain ⟨cell, k, e1, e2, -⟩ := E
    cases (show h[q.sd]? = some q.SA from G.hd).symm.trans e1
    obtain ⟨cS, -, -, f, -⟩ := G
    have f' : Z.vm.findClass "[B" = some q.SA.cls := by rw [← hal.findClass]; exact f
    obtain ⟨k1, q1, q2⟩ := Vm.findClass_spec f'
    obtain ⟨k2, q3, q4⟩ := Vm.findClass_spec e2
    cases q1.symm.trans q3
    have := q2.symm.trans q4
    revert this; decide
theorem safeArv {x : Addr} {k : ClassId} {ty : FieldType} {z : Int32} {vs : List Value} {d : Value} (hal : Z.vm.Alike vm) (V : Arv Z h x k ty z vs d) (ht : ty ≠ .byte) : Safe Z EL vm h x := by
  obtain ⟨cl, A, -⟩ := V
  exact Safe.arr hal A ht
/-- ldc of a String constant of EL -/
theorem Wk.ldcH (K : Wk true p l e R s m args below meth c own Z n0 h0 ws vm T h cells slots) {text : String} {index : Nat} (w : (Cond.stringLink own index text).before a0 Z = true) (wS : ∀ a ∈ Bundle.stringAtoms, a.before a0 Z = true) (hEL : EW Z a0 EL) (hmem : (own, index) ∈ EL) (H : CHv Z EL vm h)
    {vs : List Value} {z : Int32} (ht : (∀ c ∈ text.toList, c.toNat < 256) ∧ text.toList.map (fun c => Value.int (Jvm.Lit.byteI c.toNat.toUInt16)) = vs) (hz : ¬ z < 0) (hl : z.toNatClampNeg = vs.length)
    {pc : Nat} {Ls : Array Slot} {rest : List Value} (hd : decode c.code pc = .ok (.ldc index, 2)) {n : Nat} (hn : 4 * text.toList.length ≤ n) (hbig : n ≤ 536870912) (hc : cells + 2 ≤ R.cells) (hl' : slots + (n + 4) ≤ R.slots) :
    ∃ a b kb vm' T' h', Wk true p l e R s m args below meth c own Z n0 h0 ws vm' T' h' (cells + 2) (slots + (n + 4)) ∧ Ext h h' ∧ Exa Z h' a "java/lang/String" ∧ Fld Z h' a "java/lang/String" "coder" "B" (.int 0) ∧ Fld Z h' a "java/lang/String" "value" "[B" (.ref b) ∧ Arv Z h' b kb .byte z vs (.int 0) ∧ CHv Z EL vm' h' ∧ LitV Z vm' own index a ∧
      Go p e below (T.setTop (mkF m pc Ls rest)) (T'.setTop (mkF m (pc + 2) Ls (.ref a :: rest))) := by
  obtain ⟨e1, hx, O, hn0, hw, Kp, hs0, hZ, ho, hv, locs, k, F, X, S, hk⟩ := K
  obtain ⟨a, T', h', k1, b, kb, X', e', E, S', hk', hZ', ho', r1, r2, r3, r4, -, -, r5, r6, -, st⟩ := RoadKit.ldcCH X hx hZ ho w wS e1 S hk hEL hmem H ht hz hl (g := mkF m pc Ls rest) rfl hd hn hbig hc hl'
  exact ⟨a, b, kb, T'.vm, T', h', ⟨e', hx, O.ext E, hn0, hw, Kp.ext E, hs0, hZ', ho', (fun q => nomatch q), locs, k1, F, X', S', hk'⟩, E, r1, r2, r3, r4, r5.1, r6, st⟩
/-- ldc of an entry that is booked -/
theorem Wk.ldcA {wd : Bool} (K : Wk wd p l e R s m args below meth c own Z n0 h0 ws vm T h cells slots) {text : String} {index : Nat} (w : (Cond.stringLink own index text).before a0 Z = true) {a : Addr} (L : LitV Z vm own index a)
    {pc : Nat} {Ls : Array Slot} {rest : List Value} (hd : decode c.code pc = .ok (.ldc index, 2)) : Go p e below (T.setTop (mkF m pc Ls rest)) (T.setTop (mkF m (pc + 2) Ls (.ref a :: rest))) := by
  obtain ⟨e1, hx, O, hn0, hw, Kp, hs0, hZ, ho, hv, locs, k, F, X, S, hk⟩ := K
  exact fun t q => RoadKit.ldcAgain X hx hZ ho w (show Lit (s.setVm vm) own index a from L) (g := mkF m pc Ls rest) rfl hd t q
theorem atoms_in {a0 : Array Value} (hw : ∀ d ∈ tables_1, d.before a0 Z = true) : ∀ d ∈ Bundle.stringAtoms, d.before a0 Z = true := fun d hd => hw d ((by decide +kernel : ∀ d ∈ Bundle.stringAtoms, d ∈ tables_1) d hd)
/-- C is no K: K can be made, so it is no interface, and C's superclasses do not meet it -/
theorem notK {C K : String} {n : Nat} (w : (Cond.superclass C "java/lang/Object").before a0 Z = true) (w0 : (Cond.noSuperclass "java/lang/Object").before a0 Z = true) (wk : (Cond.instantiable K n).before a0 Z = true) (hn : C ≠ K) (h0 : "java/lang/Object" ≠ K) : ∃ c t, Z.vm.findClass C = some c ∧ Z.vm.findClass K = some t ∧ Z.vm.assignable c t = false := by
  obtain ⟨cO, kO, o1, o2, o3, -, -⟩ := Cond.noSuperclass_spec w0
  obtain ⟨t, kt, g1, g2, g3, g4, -, -⟩ := Cond.instantiable_spec wk
  obtain ⟨c, f0⟩ := found_sup w
  obtain ⟨p, k, kp, f1, f2, f3, f4, f5, -, f7⟩ := Cond.superclass_spec f0 w
  cases f1.symm.trans o1
  have ne := ids_ne f0 g1 hn
  have ne0 := ids_ne o1 g1 h0
  have hi : kt.isInterface = false := by cases q : kt.isInterface <;> simp [q] at g4 ⊢
  refine ⟨c, t, f0, g1, ?_⟩
  show Z.vm.assignableAux (255 + 1) c t = false
  have ns : ∀ fuel, Z.vm.isSubclassAux fuel c t = false := fun fuel => by
    cases fuel with
    | zero => rfl
    | succ f =>
      have r : Z.vm.isSubclassAux f cO t = false := by
        cases f with
        | zero => rfl
        | succ f => simp [Vm.isSubclassAux, ne0, o2, o3]
      simp [Vm.isSubclassAux, ne, f2, f4, r]
  simp [Vm.assignableAux, ne, f2, g2, f5, g3, hi, Vm.isSubclass, ns]
/-- what keeps a String's text -/
theorem StrIs.keep {h' : Heap} {x : Addr} {cs : List Int32} (F : StrIs Z h x cs) (K : Keep h h' []) : StrIs Z h' x cs := by
  obtain ⟨f1, f2, f3, t, kb, f4, f5⟩ := F
  exact ⟨f1, f2.keep K, f3.keep K nin0, t, kb, f4.keep K nin0, f5.keep K nin0⟩
theorem StrIs.ext {h' : Heap} {x : Addr} {cs : List Int32} (F : StrIs Z h x cs) (E : Ext h h') : StrIs Z h' x cs := by
  obtain ⟨f1, f2, f3, t, kb, f4, f5⟩ := F
  exact ⟨f1, f2.ext E, f3.ext E, t, kb, f4.ext E, f5.ext E⟩
theorem StrIs.keep1 {h' : Heap} {x o : Addr} {C : String} {n : Nat} {cs : List Int32} (F : StrIs Z h x cs) (K : Keep h h' [o]) (E : Exa Z h o C) (hC : "java/lang/String" ≠ C) (wi : (Cond.instantiable C n).before a0 Z = true) : StrIs Z h' x cs := by
  obtain ⟨f1, f2, f3, t, kb, f4, f5⟩ := F
  have e1 : x ≠ o := f2.ne E hC
  have e2 : t ≠ o := Ne.symm (Exa.neArv E f5 wi)
  exact ⟨f1, f2.keep K, f3.keep K (ninS e1 nin0), t, kb, f4.keep K (ninS e1 nin0), f5.keep K (ninS e2 nin0)⟩
theorem up65535 {x : Int32} (h : ¬ (255 : Int32) < x) : ¬ (65535 : Int32) < x := by
  rw [Int32.lt_iff_toInt_lt] at h ⊢
  have e1 : (255 : Int32).toInt = 255 := rfl
  have e2 : (65535 : Int32).toInt = 65535 := rfl
  omega
end Held
def own_seq (cs ds : List Int32) : Int32 := if cs = ds then 1 else 0
theorem own_seq1 {cs ds : List Int32} (q : cs = ds) : own_seq cs ds = 1 := by simp [own_seq, q]
theorem own_seq0 {cs ds : List Int32} (q : ¬ cs = ds) : own_seq cs ds = 0 := by simp [own_seq, q]
theorem hws_eq {Z : State} {a0 : Array Value} (hw : ∀ d ∈ tables_1, d.before a0 Z = true) : ∀ d ∈ StrChars.Road.wordsEq, d.before a0 Z = true := fun d hd => hw d ((by decide +kernel : ∀ d ∈ StrChars.Road.wordsEq, d ∈ tables_1) d hd)
theorem payEq {wd : Bool} {l : Launch} {R : Room} {p : Program} {e : Env} {below : List Frame} {args : Array Value} {len W : Nat} {Z : State} {a0 : Array Value} (hw : ∀ d ∈ tables_1, d.before a0 Z = true) {n0 : Nat} {h : Heap} {V : Vm → Prop} (hV : VCl V) (wi : (Jvm.Cond.instantiable "java/lang/String" 4).before a0 Z = true)
    {x y : Addr} {cs ds : List Int32} {z : Int32} (hO : Old Z n0 h) (A : StrIs Z h x cs) (la : cs.length ≤ 4000) (B : StrIs Z h y ds) (lb : ds.length ≤ 4000) (S : Sta Z Z.heap "java/lang/String" "COMPACT_STRINGS" "Z" (.int z)) (hz : ¬ z = 0) (hfr : 2 ≤ R.frames) (hlo : W + 28 ≤ R.locals) :
    Pay wd l R p e below args (⟨"java/lang/String", "equals", "(Ljava/lang/Object;)Z"⟩ : MethodName) len W Z h V #[.ref x, .ref y] 0 0 [] (fun v h' vm' => (v = some (.int (own_seq cs ds)) ∧ h' = h) ∧ V vm') := by
  obtain ⟨a1, a2, a3, t, kb, a4, a5⟩ := A
  obtain ⟨b1, b2, b3, t', kb', b4, b5⟩ := B
  refine Pay.ofBack (Q0 := fun v h' L => ((v = some (.int 1) ∧ cs = ds) ∨ (v = some (.int 0) ∧ ¬ cs = ds)) ∧ L = [] ∧ h' = h) (fun s' hZ => StrChars.Road.eqW (W := W) hZ (hws_eq hw) (kI := 4) wi a2 a4 a3 a5 (Or.inl ⟨rfl, rfl, rfl, fun c hc => (a1 c hc).2⟩) (fun c hc => ⟨(a1 c hc).1, up65535 (a1 c hc).2⟩) la b2 b4 b3 b5 (Or.inl ⟨rfl, rfl, rfl, fun c hc => (b1 c hc).2⟩) (fun c hc => ⟨(b1 c hc).1, up65535 (b1 c hc).2⟩) lb (S.ext hO.2) hz hfr hlo) hV ?_
  rintro v h' vm' L ⟨q, rfl, rfl⟩ hv
  refine ⟨⟨⟨?_, rfl⟩, hv⟩, Keep.refl _ _, FrW.nil _ _⟩
  rcases q with ⟨q1, q2⟩ | ⟨q1, q2⟩
  · rw [own_seq1 q2]; exact q1
  · rw [own_seq0 q2]; exact q1
end Own
end Jvm.Pilot.@@N@@
namespace Jvm.Pilot.@@N@@
open Jvm Jvm.ClassFile Sem Op Lib Jvm.Free Jvm.Stand Jvm.LawKit Jvm.RoadKit Bundle Jvm.Pilot.@@N@@.Jvm.D
namespace Own
section Key
variable {wd : Bool} {p : Program} {l : Launch} {e : Env} {R : Room} {s : State} {m : MethodId} {args : Array Value} {below : List Frame} {meth : Method} {c : Code} {own : String} {Z : State} {a0 : Array Value} {n0 : Nat} {h0 : Heap} {ws : List Addr} {vm : Vm} {T : State} {h : Heap} {cells slots : Nat} {EL : List (String × Nat)}
theorem Wk.castNull (K : Wk wd p l e R s m args below meth c own Z n0 h0 ws vm T h cells slots) {index : Nat} {pc : Nat} {Ls : Array Slot} {rest : List Value} (hd : decode c.code pc = .ok (.checkcast index, 3)) :
    Go p e below (T.setTop (mkF m pc Ls (.null :: rest))) (T.setTop (mkF m (pc + 3) Ls (.null :: rest))) := by
  exact K.stand fun _ _ X hx _ _ _ => X.checkcastNull hx (g := mkF m pc Ls (.null :: rest)) rfl rfl hd
theorem Wk.ldc2 (K : Wk wd p l e R s m args below meth c own Z n0 h0 ws vm T h cells slots) {index : Nat} {v : Int64} (w : (Cond.constantLong own index v).before a0 Z = true) {pc : Nat} {Ls : Array Slot} {rest : List Value} (hd : decode c.code pc = .ok (.ldc2_w index, 3)) :
    Go p e below (T.setTop (mkF m pc Ls rest)) (T.setTop (mkF m (pc + 3) Ls (.long v :: rest))) :=
  K.stand fun _ _ X hx hZ ho e1 t k => X.ldc2J hx ho (mvT hZ w) (g := mkF m pc Ls rest) rfl hd k
theorem Wk.clone (K : Wk wd p l e R s m args below meth c own Z n0 h0 ws vm T h cells slots) {ad : String} {index : Nat} (w1 : (Cond.methodLink own index ⟨ad, "clone", "()Ljava/lang/Object;"⟩).before a0 Z = true) (w2 : (Cond.sameMethod ad "java/lang/Object" "clone" "()Ljava/lang/Object;").before a0 Z = true) (w3 : (Cond.native ⟨"java/lang/Object", "clone", "()Ljava/lang/Object;"⟩).before a0 Z = true)
    (w4 : (Cond.instanceMethod ⟨"java/lang/Object", "clone", "()Ljava/lang/Object;"⟩).before a0 Z = true) (w5 : (Cond.selects ad ⟨ad, "clone", "()Ljava/lang/Object;"⟩ ⟨"java/lang/Object", "clone", "()Ljava/lang/Object;"⟩).before a0 Z = true) (w6 : (Cond.castable ad "java/lang/Cloneable").before a0 Z = true)
    {a : Addr} {k : ClassId} {ty : FieldType} {z : Int32} {vs : List Value} {dv : Value} (F : Arv Z h a k ty z vs dv) (E : Exa Z h a ad) {pc : Nat} {Ls : Array Slot} {rest : List Value} (hsz : Ls.size = c.maxLocals) (hd : decode c.code pc = .ok (.invokevirtual index, 3))
    (hf : 1 ≤ R.frames) {W : Nat} (cap : Nat) (hW : (rest.map fun v => v.category).sum ≤ W) (hl : W + 14 ≤ R.locals) (hcap : z.toNatClampNeg ≤ cap) (hc : cells + 1 ≤ R.cells) (hsl : slots + cap ≤ R.slots) :
    ∃ T' h' b, Wk wd p l e R s m args below meth c own Z n0 h0 ws vm T' h' (cells + 1) (slots + cap) ∧ Ext h h' ∧ Arv Z h' b k ty z vs dv ∧ Exa Z h' b ad ∧ Go p e below (T.setTop (mkF m pc Ls (.ref a :: rest))) (T'.setTop (mkF m (pc + 3) Ls (.ref b :: rest))) := by
  obtain ⟨T', h', K', E', -, A, D, st⟩ := K.made (P := fun T' h' => Arv Z h' h.size k ty z vs dv ∧ Exa Z h' h.size ad ∧ Go p e below (T.setTop (mkF m pc Ls (.ref a :: rest))) (T'.setTop (mkF m (pc + 3) Ls (.ref h.size :: rest))))
    fun _ _ X hx hZ ho e1 => by
      obtain ⟨T', h', X', e', E, A, D, st⟩ := RoadKit.cloneH X hx hZ ho w1 w2 w3 w4 w5 w6 e1 (hs := []) F E (g := mkF m pc Ls (.ref a :: rest)) rfl hsz rfl hd hf (W := W) (by show 2 * 0 + _ ≤ _; simpa using hW) hl hcap hc hsl
      exact ⟨T', h', X', e', E, A, D, st⟩
  exact ⟨T', h', h.size, K', E', A, D, st⟩
theorem VCl.and {V W : Vm → Prop} (a : VCl V) (b : VCl W) : VCl (fun vm => V vm ∧ W vm) := fun s vm' q hW => ⟨a s vm' q.1 hW, b s vm' q.2 hW⟩
theorem LitV.stays {vm' : Vm} {index : Nat} {a : Addr} (L : LitV Z vm own index a) {s : State} (e : s.vm = vm) (hW : s.Warmed39 vm') : LitV Z vm' own index a := by
  subst e
  exact State.resolvedAt?_warmed39 (s := s) hW L
theorem LitV.cl {index : Nat} {a : Addr} : VCl (fun vm => LitV Z vm own index a) := fun s vm' L hW => L.stays (s := s) rfl hW.wide
/-- a String constant is booked, and says cs -/
def BK (Z : State) (h : Heap) (own : String) (index : Nat) (cs : List Int32) : Vm → Prop := fun vm => ∃ a, LitV Z vm own index a ∧ StrIs Z h a cs
theorem BK.cl {index : Nat} {cs : List Int32} : VCl (BK Z h own index cs) := fun s vm' q hW => q.imp fun a r => ⟨LitV.cl s vm' r.1 hW, r.2⟩
theorem Arv.neTy {x y : Addr} {k k' : ClassId} {ty ty' : FieldType} {z z' : Int32} {vs vs' : List Value} {d d' : Value} (A : Arv Z h x k ty z vs d) (B : Arv Z h y k' ty' z' vs' d') (hn : ty ≠ ty') : x ≠ y := fun q => by
  subst q
  obtain ⟨c1, ⟨a1, ⟨-, k1, b1, comp1, g1⟩, -⟩, -⟩ := A
  obtain ⟨c2, ⟨a2, ⟨-, k2, b2, comp2, g2⟩, -⟩, -⟩ := B
  cases a1.symm.trans a2
  cases b1.symm.trans b2
  have := g1.symm.trans g2
  injection this with _ q
  exact hn q
theorem StrIs.wrC {h' : Heap} {x a : Addr} {cs : List Int32} {sl : Nat} {v : Value} {k : ClassId} {z : Int32} {vs : List Value} {d : Value} (F : StrIs Z h x cs) (W : Wr h h' a sl v) (A : Arv Z h a k .char z vs d) (wi : (Cond.instantiable "java/lang/String" 4).before a0 Z = true) : StrIs Z h' x cs := by
  obtain ⟨f1, f2, f3, t, kb, f4, f5⟩ := F
  have e1 : x ≠ a := Exa.neArv f2 A wi
  have e2 : t ≠ a := Arv.neTy f5 A (by decide)
  exact ⟨f1, f2.wr W, f3.other W (Or.inl e1), t, kb, f4.other W (Or.inl e1), f5.other W e2⟩
theorem BK.wrC {h' : Heap} {index : Nat} {a : Addr} {cs : List Int32} {sl : Nat} {v : Value} {k : ClassId} {z : Int32} {vs : List Value} {d : Value} (F : BK Z h own index cs vm) (W : Wr h h' a sl v) (A : Arv Z h a k .char z vs d) (wi : (Cond.instantiable "java/lang/String" 4).before a0 Z = true) : BK Z h' own index cs vm := F.imp fun x q => ⟨q.1, q.2.wrC W A wi⟩
theorem BK.step {h' : Heap} {vm' : Vm} {index : Nat} {cs : List Int32} (F : BK Z h own index cs vm) (K : Keep h h' []) {s : State} (e : s.vm = vm) (hW : s.Warmed39 vm') : BK Z h' own index cs vm' := F.imp fun x q => ⟨q.1.stays e hW, q.2.keep K⟩
theorem Pay.ofBackV {y : MethodName} {len W : Nat} {as' : Array Value} {kc ks : Nat} {ws' : List Addr} {V : Vm → Prop} {Q : Option Value → Heap → Vm → Prop} {Q0 : Option Value → Heap → List Loc → Prop}
    (f : ∀ s' : State, Z.Warmed39 s'.vm → V s'.vm → Back l R p e below s' args y len W (fun A a => a = as' ∧ A.U.heap = h ∧ A.cells + kc ≤ R.cells ∧ A.slots + ks ≤ R.slots) (fun A _ v B => ∃ L, Q0 v B.U.heap L ∧ B.locs = A.locs ++ L ∧ B.cells = A.cells + kc ∧ B.slots = A.slots + ks))
    (hV : VCl V) (g : ∀ v h' vm' L, Q0 v h' L → V vm' → Q v h' vm' ∧ Keep h h' ws' ∧ FrW ws' h.size L) : Pay wd l R p e below args y len W Z h V as' kc ks ws' Q := by
  intro s' hZ hv
  have b : Back l R p e below s' args y len W (fun A a => a = as' ∧ A.U.heap = h ∧ A.cells + kc ≤ R.cells ∧ A.slots + ks ≤ R.slots) (fun A _ v B => A.U.heap = h ∧ ∃ L, (Q v B.U.heap B.U.vm ∧ Keep h B.U.heap ws' ∧ FrW ws' h.size L) ∧ B.locs = A.locs ++ L ∧ B.cells = A.cells + kc ∧ B.slots = A.slots + ks) := by
    intro m meth c A gg ig mk a X hg hsize hdg hW hn hp
    obtain ⟨v, B, X', ⟨L, q, r⟩, hst⟩ := f s' hZ hv m meth c A gg ig mk a X hg hsize hdg hW hn hp
    exact ⟨v, B, X', ⟨hp.2.1, L, g _ _ _ _ q (hV _ _ hv X'.warmed), r⟩, hst⟩
  cases wd
  · exact Back.mono b (fun A a hp => hp) (fun A a v B hp q => q.2)
  · have b' := BackS.of_back b (fun A a v B ⟨q, L, ⟨_, k, _⟩, _⟩ => by rw [q]; exact k.1)
    intro m meth c A gg ig mk a X hg hsize hdg hW hn hp
    obtain ⟨v, B, X', hS, hgr, hpost, hst⟩ := b' m meth c A gg ig mk a X hg hsize hdg hW hn hp
    exact ⟨v, B, X', hS, hgr, hpost.2, hst⟩
theorem Ctr.payV {y : MethodName} {bytes : ByteArray} {maxL : Nat} {ret : Option FieldType} {rm : Room} {as' : Array Value} {ws' : List Addr} {V V0 : Vm → Prop} {Q' : Option Value → Heap → Prop} {len W : Nat} (H : Ctr false l y bytes maxL ret rm as' Z h V0 ws' (fun v h _ => Q' v h)) (hV : VCl V) (hV0 : VCl V0) (sub : ∀ vm, V vm → V0 vm)
    (wc : (Cond.code y bytes maxL ret).before a0 Z = true) (wz : (Cond.initialized y.cls).before a0 Z = true) (hf : rm.frames + 1 ≤ R.frames) (hl : W + (maxL + 11) + rm.locals ≤ R.locals) :
    Pay wd l R p e below args y len W Z h V as' rm.cells rm.slots ws' (fun v h vm => Q' v h ∧ V vm) :=
  Pay.ofBackV (Q0 := fun v h' L => Q' v h' ∧ Keep h h' ws' ∧ FrW ws' h.size L) (fun s' hZ hv => Ctr.pay (wd := false) (V := V0) H hV0 wc wz hf hl s' hZ (sub _ hv)) hV (fun v h' vm' L q hv => ⟨⟨q.1, hv⟩, q.2⟩)
/-- a Latin-1 String of the start, read word by word -/
theorem lenAt {t : Term} {v : Value} {x : Addr} {cl : Cell} {args : Array Value} (hl : (Term.length t).eval args Z none [] Z = some v) (ht : t.eval args Z none [] Z = some (.ref x)) (ha : Z.arrayAt? x = some cl) : cl.slots.size < 2 ^ 31 ∧ v = .int cl.slots.size.toInt32 := by
  simp only [Term.eval, ht, ha, Option.bind_eq_bind, Option.bind_some] at hl
  split at hl
  · next q => exact ⟨q, by simpa using hl.symm⟩
  · cases hl
theorem eqv_r {X F : Term} {y : Addr} {args : Array Value} (hF : F.eval args Z none [] Z = some (.ref y)) (hq : (Cond.eq X F).value args Z none Z [] = some true) : X.eval args Z none [] Z = some (.ref y) := by
  cases hX : X.eval args Z none [] Z with
  | none => simp [Cond.value, hX] at hq
  | some w => cases w <;> simp [Cond.value, hX, hF] at hq ⊢; exact hq
theorem elAt {t : Term} {x : Addr} {cl : Cell} {args : Array Value} {j y : Int32} (ht : t.eval args Z none [] Z = some (.ref x)) (ha : Z.arrayAt? x = some cl) (hj : ¬ j < 0) (hq : (Cond.eq (.elem t (.int j)) (.int y)).value args Z none Z [] = some true) : cl.slots[j.toNatClampNeg]? = some (.int y) :=
  (elem_f ht (Term.int_eval j) ha hj).symm.trans (eqv_i (Term.int_eval y) hq)
end Key
theorem hws_ch {Z : State} {a0 : Array Value} (hw : ∀ d ∈ tables_1, d.before a0 Z = true) : ∀ d ∈ StrChars.Road.wordsChN, d.before a0 Z = true := fun d hd => hw d ((by decide +kernel : ∀ d ∈ StrChars.Road.wordsChN, d ∈ tables_1) d hd)
theorem payCh {wd : Bool} {l : Launch} {R : Room} {p : Program} {e : Env} {below : List Frame} {args : Array Value} {len W : Nat} {Z : State} {a0 : Array Value} (hw : ∀ d ∈ tables_1, d.before a0 Z = true) {n0 : Nat} {h : Heap} {V : Vm → Prop} (hV : VCl V) (wi : (Jvm.Cond.instantiable "java/lang/String" 4).before a0 Z = true)
    {x : Addr} {cs : List Int32} {z : Int32} (hO : Old Z n0 h) (A : StrIs Z h x cs) (la : cs.length ≤ 4000) {i : Nat} {j : Int32} (hi : i < cs.length) (hj : j = Int32.ofNat i) (S : Sta Z Z.heap "java/lang/String" "COMPACT_STRINGS" "Z" (.int z)) (hz : ¬ z = 0) {fm : Value} (F : Sta Z Z.heap "jdk/internal/util/Preconditions" "SIOOBE_FORMATTER" "Ljava/util/function/BiFunction;" fm) (rf : fm.isRef = true) (hfr : 4 ≤ R.frames) (hlo : W + 53 ≤ R.locals) :
    Pay wd l R p e below args (⟨"java/lang/String", "charAt", "(I)C"⟩ : MethodName) len W Z h V #[.ref x, .int j] 0 0 [] (fun v h' vm' => (v = some (.int (cs.getD i 0)) ∧ h' = h) ∧ V vm') := by
  obtain ⟨a1, a2, a3, t, kb, a4, a5⟩ := A
  refine Pay.ofBack (Q0 := fun v h' L => v = some (.int (cs.getD i 0)) ∧ L = [] ∧ h' = h) (fun s' hZ => StrChars.Road.chN (W := W) hZ (hws_ch hw) (kI := 4) wi a2 a4 a3 a5 (Or.inl ⟨rfl, rfl, rfl, fun c hc => (a1 c hc).2⟩) (fun c hc => ⟨(a1 c hc).1, up65535 (a1 c hc).2⟩) (S.ext hO.2) hz (F.ext hO.2) rf la hi hj hfr hlo) hV ?_
  rintro v h' vm' L ⟨q, rfl, rfl⟩ hv
  exact ⟨⟨⟨q, rfl⟩, hv⟩, Keep.refl _ _, FrW.nil _ _⟩
theorem StrIs.rng {Z : State} {h : Heap} {x : Addr} {cs : List Int32} (A : StrIs Z h x cs) {i : Nat} (hi : i < cs.length) : ¬ cs.getD i 0 < 0 ∧ ¬ (255 : Int32) < cs.getD i 0 := by
  have e : cs.getD i 0 = cs[i] := by simp [List.getD_eq_getElem?_getD, hi]
  rw [e]; exact A.1 _ (List.getElem_mem _)
end Own
end Jvm.Pilot.@@N@@
namespace Jvm.Pilot.@@N@@
open Jvm Jvm.ClassFile Sem Op Lib Jvm.Free Jvm.Stand Jvm.LawKit Jvm.RoadKit Bundle Own StrChars Jvm.Pilot.@@N@@.Jvm.D
theorem own_nc {x : Int32} (h : ¬ x < 0 ∧ ¬ (255 : Int32) < x) : nar .char x = x := by
  obtain ⟨h0, h1⟩ := h
  show x.toUInt32.toUInt16.toUInt32.toInt32 = x
  obtain ⟨q1, q2, q3⟩ := c_i2c x
  rw [Int32.lt_iff_toInt_lt] at h0 h1
  have e0 : (0 : Int32).toInt = 0 := rfl
  have e1 : (255 : Int32).toInt = 255 := rfl
  apply Int32.toInt_inj.mp
  omega
theorem own_c255 (x : Int32) : ¬ (x &&& (255 : Int32)).toUInt32.toUInt16.toUInt32.toInt32 < 0 ∧ ¬ (255 : Int32) < (x &&& (255 : Int32)).toUInt32.toUInt16.toUInt32.toInt32 := by
  obtain ⟨q1, q2, q3⟩ := c_i2c (x &&& 255)
  have m := c_mask x 255 8 (by decide) (by decide)
  rw [Int32.lt_iff_toInt_lt, Int32.lt_iff_toInt_lt]
  have e0 : (0 : Int32).toInt = 0 := rfl
  have e1 : (255 : Int32).toInt = 255 := rfl
  omega
theorem own_nb (c : Int32) : nar .byte (c.toInt8.toInt32) = lo8 c := by show (c.toInt8.toInt32).toInt8.toInt32 = c.toInt8.toInt32; rw [Int8.toInt8_toInt32]
theorem own_ew {Z : State} {a0 : Array Value} (hw : ∀ d ∈ tables_1, d.before a0 Z = true) : EW Z a0 consts_1 := (EW.cons (hw _ (List.mem_of_getElem? (i := 6) rfl)) (by decide +kernel) (EW.cons (hw _ (List.mem_of_getElem? (i := 119) rfl)) (by decide +kernel) EW.nil))
def own_L7 : List Int32 := [97, 99, 99, 101, 115, 115, 45, 116, 111, 107, 101, 110]
def own_L15 : List Int32 := [100, 105, 97, 108, 111, 103, 45, 116, 111, 107, 101, 110]
theorem own_r7 : ∀ c ∈ own_L7, ¬ c < 0 ∧ ¬ (255 : Int32) < c := by decide +kernel
theorem own_r15 : ∀ c ∈ own_L15, ¬ c < 0 ∧ ¬ (255 : Int32) < c := by decide +kernel
theorem own_cnn {x : Int32} (r : ¬ x < 0 ∧ ¬ (255 : Int32) < x) : narrow .char (.int x) = .int x := by
  have q := XT.narrow_c x
  have e : x.toUInt32.toUInt16.toUInt32.toInt32 = x := own_nc r
  rw [e] at q; exact q
theorem own_cL (x : Int64) : ¬ (x &&& (255 : Int64)).toInt32.toUInt32.toUInt16.toUInt32.toInt32 < 0 ∧ ¬ (255 : Int32) < (x &&& (255 : Int64)).toInt32.toUInt32.toUInt16.toUInt32.toInt32 := by
  obtain ⟨q1, q2, q3⟩ := c_i2c (x &&& 255).toInt32
  have u := c_l2i (x &&& 255)
  have m := c_maskL x 255 8 (by decide) (by decide)
  rw [Int32.lt_iff_toInt_lt, Int32.lt_iff_toInt_lt]
  have e0 : (0 : Int32).toInt = 0 := rfl
  have e1 : (255 : Int32).toInt = 255 := rfl
  omega
/-- which of the two constants the kind kd wants is booked -/
def Two (Z : State) (h : Heap) (kd : Int32) : Vm → Prop := fun vm => (kd = 0 → BK Z h "com/example/samband/samband/identity/KeyPurposeOfPinLaw" 7 own_L7 vm) ∧ (kd = 1 → BK Z h "com/example/samband/samband/identity/KeyPurposeOfPinLaw" 15 own_L15 vm)
theorem Two.cl {Z : State} {h : Heap} {kd : Int32} : VCl (Two Z h kd) := fun s vm' q hW => ⟨fun k => BK.cl s vm' (q.1 k) hW, fun k => BK.cl s vm' (q.2 k) hW⟩
theorem Two.wrC {Z : State} {a0 : Array Value} {h h' : Heap} {kd : Int32} {vm : Vm} {a : Addr} {sl : Nat} {v : Value} {k : ClassId} {z : Int32} {vs : List Value} {d : Value} (F : Two Z h kd vm) (W : Wr h h' a sl v) (A : Arv Z h a k .char z vs d) (wi : (Cond.instantiable "java/lang/String" 4).before a0 Z = true) : Two Z h' kd vm := ⟨fun q => (F.1 q).wrC W A wi, fun q => (F.2 q).wrC W A wi⟩
theorem Two.step {Z : State} {h h' : Heap} {kd : Int32} {vm vm' : Vm} (F : Two Z h kd vm) (K : Keep h h' []) {s : State} (e : s.vm = vm) (hW : s.Warmed39 vm') : Two Z h' kd vm' := ⟨fun q => (F.1 q).step K e hW, fun q => (F.2 q).step K e hW⟩
theorem d_method_2_code_0 : decode method_2_code 0 = .ok (.iload 6, 2) := by decide +kernel
theorem d_method_2_code_2 : decode method_2_code 2 = .ok (.ifCond .eq 17, 3) := by decide +kernel
theorem d_method_2_code_19 : decode method_2_code 19 = .ok (.iload_n 1, 1) := by decide +kernel
theorem d_method_2_code_20 : decode method_2_code 20 = .ok (.ifCond .ne 10, 3) := by decide +kernel
theorem d_method_2_code_23 : decode method_2_code 23 = .ok (.ldc 7, 2) := by decide +kernel
theorem d_method_2_code_25 : decode method_2_code 25 = .ok (.iload_n 0, 1) := by decide +kernel
theorem pd_0 : parseMethodDescriptor "(I)C" = some ⟨[.int], some .char⟩ := by decide +kernel
theorem d_method_2_code_26 : decode method_2_code 26 = .ok (.invokevirtual 9, 3) := by decide +kernel
theorem d_method_2_code_29 : decode method_2_code 29 = .ok (.ireturn, 1) := by decide +kernel
theorem d_method_2_code_30 : decode method_2_code 30 = .ok (.iload_n 1, 1) := by decide +kernel
theorem d_method_2_code_31 : decode method_2_code 31 = .ok (.iconst 1, 1) := by decide +kernel
theorem d_method_2_code_32 : decode method_2_code 32 = .ok (.if_icmp .ne 10, 3) := by decide +kernel
theorem d_method_2_code_35 : decode method_2_code 35 = .ok (.ldc 15, 2) := by decide +kernel
theorem d_method_2_code_37 : decode method_2_code 37 = .ok (.iload_n 0, 1) := by decide +kernel
theorem d_method_2_code_38 : decode method_2_code 38 = .ok (.invokevirtual 9, 3) := by decide +kernel
theorem d_method_2_code_41 : decode method_2_code 41 = .ok (.ireturn, 1) := by decide +kernel
theorem d_method_2_code_42 : decode method_2_code 42 = .ok (.iload_n 0, 1) := by decide +kernel
theorem d_method_2_code_43 : decode method_2_code 43 = .ok (.bipush 8, 2) := by decide +kernel
theorem d_method_2_code_45 : decode method_2_code 45 = .ok (.if_icmp .ge 12, 3) := by decide +kernel
theorem d_method_2_code_48 : decode method_2_code 48 = .ok (.lload_n 2, 1) := by decide +kernel
theorem d_method_2_code_49 : decode method_2_code 49 = .ok (.bipush 8, 2) := by decide +kernel
theorem d_method_2_code_51 : decode method_2_code 51 = .ok (.iload_n 0, 1) := by decide +kernel
theorem d_method_2_code_52 : decode method_2_code 52 = .ok (.imul, 1) := by decide +kernel
theorem d_method_2_code_53 : decode method_2_code 53 = .ok (.lushr, 1) := by decide +kernel
theorem d_method_2_code_54 : decode method_2_code 54 = .ok (.goto 13, 3) := by decide +kernel
theorem d_method_2_code_67 : decode method_2_code 67 = .ok (.lstore 9, 2) := by decide +kernel
theorem d_method_2_code_69 : decode method_2_code 69 = .ok (.lload 9, 2) := by decide +kernel
theorem d_method_2_code_71 : decode method_2_code 71 = .ok (.ldc2_w 17, 3) := by decide +kernel
theorem d_method_2_code_74 : decode method_2_code 74 = .ok (.land, 1) := by decide +kernel
theorem d_method_2_code_75 : decode method_2_code 75 = .ok (.l2i, 1) := by decide +kernel
theorem d_method_2_code_76 : decode method_2_code 76 = .ok (.i2c, 1) := by decide +kernel
theorem d_method_2_code_77 : decode method_2_code 77 = .ok (.ireturn, 1) := by decide +kernel
theorem d_method_2_code_57 : decode method_2_code 57 = .ok (.lload 4, 2) := by decide +kernel
theorem d_method_2_code_59 : decode method_2_code 59 = .ok (.bipush 8, 2) := by decide +kernel
theorem d_method_2_code_61 : decode method_2_code 61 = .ok (.iload_n 0, 1) := by decide +kernel
theorem d_method_2_code_62 : decode method_2_code 62 = .ok (.bipush 8, 2) := by decide +kernel
theorem d_method_2_code_64 : decode method_2_code 64 = .ok (.isub, 1) := by decide +kernel
theorem d_method_2_code_65 : decode method_2_code 65 = .ok (.imul, 1) := by decide +kernel
theorem d_method_2_code_66 : decode method_2_code 66 = .ok (.lushr, 1) := by decide +kernel
theorem d_method_2_code_5 : decode method_2_code 5 = .ok (.iload_n 0, 1) := by decide +kernel
theorem d_method_2_code_6 : decode method_2_code 6 = .ok (.iload 7, 2) := by decide +kernel
theorem d_method_2_code_8 : decode method_2_code 8 = .ok (.if_icmp .ne 11, 3) := by decide +kernel
theorem d_method_2_code_11 : decode method_2_code 11 = .ok (.iload 8, 2) := by decide +kernel
theorem d_method_2_code_13 : decode method_2_code 13 = .ok (.sipush 255, 3) := by decide +kernel
theorem d_method_2_code_16 : decode method_2_code 16 = .ok (.iand, 1) := by decide +kernel
theorem d_method_2_code_17 : decode method_2_code 17 = .ok (.i2c, 1) := by decide +kernel
theorem d_method_2_code_18 : decode method_2_code 18 = .ok (.ireturn, 1) := by decide +kernel
theorem pn_0 : plainName "com/example/samband/samband/identity/KeyPurposeOfPinLaw" = true := by first | (simp [plainName, overriddenIn]; done) | decide +kernel
set_option maxRecDepth 65536 in
set_option maxHeartbeats 40000000 in
theorem c_chB (l : Launch) (Z : State) (a0 : Array Value) (hw : ∀ d ∈ tables_1, d.before a0 Z = true) (n0 : Nat) (h0 : Heap) (O0 : Old Z n0 h0) (i kd fl pos nz : Int32) (q1 q2 : Int64) (ix : Nat) (hi : ix < 12) (hix : i = Int32.ofNat ix) (zc : Int32) (hzc : ¬ zc = 0) (SC : Sta Z Z.heap "java/lang/String" "COMPACT_STRINGS" "Z" (.int zc)) (fm : Value) (rf : fm.isRef = true) (SF : Sta Z Z.heap "jdk/internal/util/Preconditions" "SIOOBE_FORMATTER" "Ljava/util/function/BiFunction;" fm) :
    Own.Ctr false l (⟨"com/example/samband/samband/identity/KeyPurposeOfPinLaw", "ch", "(IIJJZII)C"⟩ : MethodName) method_2_code 11 (some .char) ({ frames := 4, cells := 0, slots := 0, locals := 53 } : Room) #[(.int i), (.int kd), (.long q1), (.long q2), (.int fl), (.int pos), (.int nz)] Z h0 (Two Z h0 kd) [] (fun v h vm => ∃ cv, v = some (.int cv) ∧ (¬ cv < 0 ∧ ¬ (255 : Int32) < cv) ∧ h = h0) := by
  refine Own.body (plainFor_of_name pn_0) O0 (fun _ _ _ _ q => by cases q) (fun _ _ _ _ q _ => q) ?_
  intro p e s m below meth c T0 hby hml0 hret hnm hV0 K0
  change Own.Wk false p l e ({ frames := 4, cells := 0, slots := 0, locals := 53 } : Room) s m #[(.int i), (.int kd), (.long q1), (.long q2), (.int fl), (.int pos), (.int nz)] below meth c "com/example/samband/samband/identity/KeyPurposeOfPinLaw" Z n0 h0 [] s.vm T0 h0 0 0 at K0
  have hml : c.maxLocals = 11 := hml0
  have S0 : Go p e below (T0.setTop (entryFrame m #[(.int i), (.int kd), (.long q1), (.long q2), (.int fl), (.int pos), (.int nz)] 11)) (T0.setTop (mkF m 0 #[.val (.int i), .val (.int kd), .val (.long q1), .second, .val (.long q2), .second, .val (.int fl), .val (.int pos), .val (.int nz), .unset, .unset] [])) := fun t k => castTop (by first | rfl | (simp [entryFrame, mkF, argsToLocals, Value.category]; done)) k
  generalize T0.setTop (entryFrame m #[(.int i), (.int kd), (.long q1), (.long q2), (.int fl), (.int pos), (.int nz)] 11) = A0 at S0 ⊢
  have S1 : Go p e below A0 (T0.setTop (mkF m 2 #[.val (.int i), .val (.int kd), .val (.long q1), .second, .val (.long q2), .second, .val (.int fl), .val (.int pos), .val (.int nz), .unset, .unset] [(.int fl)])) := by
    refine S0.trans ?_
    refine (Own.P.iload K0.here K0.exec (hb hby d_method_2_code_0) rfl).trans ?_
    exact Go.refl _
  by_cases qf : fl = 0
  case pos =>
      have S2 : Go p e below A0 (T0.setTop (mkF m 20 #[.val (.int i), .val (.int kd), .val (.long q1), .second, .val (.long q2), .second, .val (.int fl), .val (.int pos), .val (.int nz), .unset, .unset] [(.int kd)])) := by
        refine S1.trans ?_
        refine (Own.P.ifYes K0.here K0.exec 19 (hb hby d_method_2_code_2) (XT.i0_eq_t qf) (by decide) (by decide)).trans ?_
        refine (Own.P.iloadN K0.here K0.exec (hb hby d_method_2_code_19) rfl).trans ?_
        exact Go.refl _
      by_cases k0 : kd = 0
      case pos =>
          obtain ⟨la, La, SIa⟩ := hV0.1 k0
          have S3 : Go p e below A0 (T0.setTop (mkF m 23 #[.val (.int i), .val (.int kd), .val (.long q1), .second, .val (.long q2), .second, .val (.int fl), .val (.int pos), .val (.int nz), .unset, .unset] [])) := by
            refine S2.trans ?_
            refine (Own.P.ifNo K0.here K0.exec (hb hby d_method_2_code_20) (XT.i0_ne_f k0)).trans ?_
            exact Go.refl _
          have G4 := K0.ldcA (hw _ (List.mem_of_getElem? (i := 6) rfl)) La (pc := 23) (Ls := #[.val (.int i), .val (.int kd), .val (.long q1), .second, .val (.long q2), .second, .val (.int fl), .val (.int pos), .val (.int nz), .unset, .unset]) (rest := []) (hb hby d_method_2_code_23)
          have S4 : Go p e below A0 (T0.setTop (mkF m 25 #[.val (.int i), .val (.int kd), .val (.long q1), .second, .val (.long q2), .second, .val (.int fl), .val (.int pos), .val (.int nz), .unset, .unset] [(.ref la)])) := S3.trans G4
          have S5 : Go p e below A0 (T0.setTop (mkF m 26 #[.val (.int i), .val (.int kd), .val (.long q1), .second, .val (.long q2), .second, .val (.int fl), .val (.int pos), .val (.int nz), .unset, .unset] [(.int i), (.ref la)])) := by
            refine S4.trans ?_
            refine (Own.P.iloadN K0.here K0.exec (hb hby d_method_2_code_25) rfl).trans ?_
            exact Go.refl _
          obtain ⟨v6, vm6, vq6, T6, h6, K6, KK6, ev6, Q6, G6⟩ := K0.callV (C := "java/lang/String") (y := (⟨"java/lang/String", "charAt", "(I)C"⟩ : MethodName)) (z := (⟨"java/lang/String", "charAt", "(I)C"⟩ : MethodName)) (hw _ (List.mem_of_getElem? (i := 14) rfl)) (hw _ (List.mem_of_getElem? (i := 15) rfl)) (hw _ (List.mem_of_getElem? (i := 17) rfl)) (Or.inr (Or.inr rfl)) (hw _ (List.mem_of_getElem? (i := 16) rfl)) (by decide) (W := 0) SIa.2.1 (argsL := [(.int i)]) (rest := []) (Own.payCh (W := 0) hw Own.VT.cl (hw _ (List.mem_of_getElem? (i := 8) rfl)) K0.old SIa (by decide) (i := ix) hi hix SC hzc SF rf (by decide) (by decide)) trivial (pc := 26) (Ls := #[.val (.int i), .val (.int kd), .val (.long q1), .second, .val (.long q2), .second, .val (.int fl), .val (.int pos), .val (.int nz), .unset, .unset]) (st := [(.int i), (.ref la)]) (by rw [hml]; rfl) (lenOf pd_0 rfl) rfl (Nat.le_of_eq rfl) (hb hby d_method_2_code_26) (by decide) (by decide) all0
          obtain ⟨⟨rfl, e6⟩, -⟩ := Q6
          have S6 : Go p e below A0 (T6.setTop (mkF m 29 #[.val (.int i), .val (.int kd), .val (.long q1), .second, .val (.long q2), .second, .val (.int fl), .val (.int pos), .val (.int nz), .unset, .unset] [(.int (own_L7.getD ix 0))])) := S5.trans G6
          subst e6
          exact ⟨vm6, T6, h6, (some (.int (own_L7.getD ix 0))), _, _, K6, by decide, by decide, ⟨_, rfl, (SIa.rng hi), rfl⟩, K6.retW S6 hret (own_cnn (SIa.rng hi)) (Or.inl ⟨rfl, by decide, _, rfl⟩) (hb hby d_method_2_code_29)⟩
      case neg =>
          have S7 : Go p e below A0 (T0.setTop (mkF m 32 #[.val (.int i), .val (.int kd), .val (.long q1), .second, .val (.long q2), .second, .val (.int fl), .val (.int pos), .val (.int nz), .unset, .unset] [(.int (1 : Int32)), (.int kd)])) := by
            refine S2.trans ?_
            refine (Own.P.ifYes K0.here K0.exec 30 (hb hby d_method_2_code_20) (XT.i0_ne_t k0) (by decide) (by decide)).trans ?_
            refine (Own.P.iloadN K0.here K0.exec (hb hby d_method_2_code_30) rfl).trans ?_
            refine (Own.P.iconst K0.here K0.exec (1 : Int32) (hb hby d_method_2_code_31) rfl).trans ?_
            exact Go.refl _
          by_cases k1 : kd = 1
          case pos =>
              obtain ⟨la, La, SIa⟩ := hV0.2 k1
              have S8 : Go p e below A0 (T0.setTop (mkF m 35 #[.val (.int i), .val (.int kd), .val (.long q1), .second, .val (.long q2), .second, .val (.int fl), .val (.int pos), .val (.int nz), .unset, .unset] [])) := by
                refine S7.trans ?_
                refine (Own.P.icmpNo K0.here K0.exec (hb hby d_method_2_code_32) (XT.ii_ne_f k1)).trans ?_
                exact Go.refl _
              have G9 := K0.ldcA (hw _ (List.mem_of_getElem? (i := 119) rfl)) La (pc := 35) (Ls := #[.val (.int i), .val (.int kd), .val (.long q1), .second, .val (.long q2), .second, .val (.int fl), .val (.int pos), .val (.int nz), .unset, .unset]) (rest := []) (hb hby d_method_2_code_35)
              have S9 : Go p e below A0 (T0.setTop (mkF m 37 #[.val (.int i), .val (.int kd), .val (.long q1), .second, .val (.long q2), .second, .val (.int fl), .val (.int pos), .val (.int nz), .unset, .unset] [(.ref la)])) := S8.trans G9
              have S10 : Go p e below A0 (T0.setTop (mkF m 38 #[.val (.int i), .val (.int kd), .val (.long q1), .second, .val (.long q2), .second, .val (.int fl), .val (.int pos), .val (.int nz), .unset, .unset] [(.int i), (.ref la)])) := by
                refine S9.trans ?_
                refine (Own.P.iloadN K0.here K0.exec (hb hby d_method_2_code_37) rfl).trans ?_
                exact Go.refl _
              obtain ⟨v11, vm11, vq11, T11, h11, K11, KK11, ev11, Q11, G11⟩ := K0.callV (C := "java/lang/String") (y := (⟨"java/lang/String", "charAt", "(I)C"⟩ : MethodName)) (z := (⟨"java/lang/String", "charAt", "(I)C"⟩ : MethodName)) (hw _ (List.mem_of_getElem? (i := 14) rfl)) (hw _ (List.mem_of_getElem? (i := 15) rfl)) (hw _ (List.mem_of_getElem? (i := 17) rfl)) (Or.inr (Or.inr rfl)) (hw _ (List.mem_of_getElem? (i := 16) rfl)) (by decide) (W := 0) SIa.2.1 (argsL := [(.int i)]) (rest := []) (Own.payCh (W := 0) hw Own.VT.cl (hw _ (List.mem_of_getElem? (i := 8) rfl)) K0.old SIa (by decide) (i := ix) hi hix SC hzc SF rf (by decide) (by decide)) trivial (pc := 38) (Ls := #[.val (.int i), .val (.int kd), .val (.long q1), .second, .val (.long q2), .second, .val (.int fl), .val (.int pos), .val (.int nz), .unset, .unset]) (st := [(.int i), (.ref la)]) (by rw [hml]; rfl) (lenOf pd_0 rfl) rfl (Nat.le_of_eq rfl) (hb hby d_method_2_code_38) (by decide) (by decide) all0
              obtain ⟨⟨rfl, e11⟩, -⟩ := Q11
              have S11 : Go p e below A0 (T11.setTop (mkF m 41 #[.val (.int i), .val (.int kd), .val (.long q1), .second, .val (.long q2), .second, .val (.int fl), .val (.int pos), .val (.int nz), .unset, .unset] [(.int (own_L15.getD ix 0))])) := S10.trans G11
              subst e11
              exact ⟨vm11, T11, h11, (some (.int (own_L15.getD ix 0))), _, _, K11, by decide, by decide, ⟨_, rfl, (SIa.rng hi), rfl⟩, K11.retW S11 hret (own_cnn (SIa.rng hi)) (Or.inl ⟨rfl, by decide, _, rfl⟩) (hb hby d_method_2_code_41)⟩
          case neg =>
              have S12 : Go p e below A0 (T0.setTop (mkF m 45 #[.val (.int i), .val (.int kd), .val (.long q1), .second, .val (.long q2), .second, .val (.int fl), .val (.int pos), .val (.int nz), .unset, .unset] [(.int (8 : Int32)), (.int i)])) := by
                refine S7.trans ?_
                refine (Own.P.icmpYes K0.here K0.exec 42 (hb hby d_method_2_code_32) (XT.ii_ne_t k1) (by decide) (by decide)).trans ?_
                refine (Own.P.iloadN K0.here K0.exec (hb hby d_method_2_code_42) rfl).trans ?_
                refine (Own.P.bipush K0.here K0.exec (8 : Int32) (hb hby d_method_2_code_43) rfl).trans ?_
                exact Go.refl _
              by_cases k8 : i < 8
              case pos =>
                  have S13 : Go p e below A0 (T0.setTop (mkF m 71 #[.val (.int i), .val (.int kd), .val (.long q1), .second, .val (.long q2), .second, .val (.int fl), .val (.int pos), .val (.int nz), .val (.long (XT.ushrL q1 ((8 : Int32) * i))), .second] [(.long (XT.ushrL q1 ((8 : Int32) * i)))])) := by
                    refine S12.trans ?_
                    refine (Own.P.icmpNo K0.here K0.exec (hb hby d_method_2_code_45) (XT.ii_ge_f k8)).trans ?_
                    refine (Own.P.lloadN K0.here K0.exec (hb hby d_method_2_code_48) rfl).trans ?_
                    refine (Own.P.bipush K0.here K0.exec (8 : Int32) (hb hby d_method_2_code_49) rfl).trans ?_
                    refine (Own.P.iloadN K0.here K0.exec (hb hby d_method_2_code_51) rfl).trans ?_
                    refine (Own.P.imul K0.here K0.exec (hb hby d_method_2_code_52) ).trans ?_
                    refine (Own.P.lushr K0.here K0.exec (hb hby d_method_2_code_53) ).trans ?_
                    refine (Own.P.goto K0.here K0.exec 67 (hb hby d_method_2_code_54) (by decide) (by decide)).trans ?_
                    refine (Own.P.lstore K0.here K0.exec (l' := #[.val (.int i), .val (.int kd), .val (.long q1), .second, .val (.long q2), .second, .val (.int fl), .val (.int pos), .val (.int nz), .val (.long (XT.ushrL q1 ((8 : Int32) * i))), .second]) (hb hby d_method_2_code_67) rfl).trans ?_
                    refine (Own.P.lload K0.here K0.exec (hb hby d_method_2_code_69) rfl).trans ?_
                    exact Go.refl _
                  have G14 := K0.ldc2 (hw _ (List.mem_of_getElem? (i := 118) rfl)) (pc := 71) (Ls := #[.val (.int i), .val (.int kd), .val (.long q1), .second, .val (.long q2), .second, .val (.int fl), .val (.int pos), .val (.int nz), .val (.long (XT.ushrL q1 ((8 : Int32) * i))), .second]) (rest := [(.long (XT.ushrL q1 ((8 : Int32) * i)))]) (hb hby d_method_2_code_71)
                  have S14 : Go p e below A0 (T0.setTop (mkF m 74 #[.val (.int i), .val (.int kd), .val (.long q1), .second, .val (.long q2), .second, .val (.int fl), .val (.int pos), .val (.int nz), .val (.long (XT.ushrL q1 ((8 : Int32) * i))), .second] [(.long (255 : Int64)), (.long (XT.ushrL q1 ((8 : Int32) * i)))])) := S13.trans G14
                  have S15 : Go p e below A0 (T0.setTop (mkF m 77 #[.val (.int i), .val (.int kd), .val (.long q1), .second, .val (.long q2), .second, .val (.int fl), .val (.int pos), .val (.int nz), .val (.long (XT.ushrL q1 ((8 : Int32) * i))), .second] [(.int ((((XT.ushrL q1 ((8 : Int32) * i)) &&& (255 : Int64)).toInt32).toUInt32.toUInt16.toUInt32.toInt32))])) := by
                    refine S14.trans ?_
                    refine (Own.P.land K0.here K0.exec (hb hby d_method_2_code_74) ).trans ?_
                    refine (Own.P.l2i K0.here K0.exec (hb hby d_method_2_code_75) ).trans ?_
                    refine (Own.P.i2c K0.here K0.exec (hb hby d_method_2_code_76) ).trans ?_
                    exact Go.refl _
                  exact ⟨s.vm, T0, h0, (some (.int ((((XT.ushrL q1 ((8 : Int32) * i)) &&& (255 : Int64)).toInt32).toUInt32.toUInt16.toUInt32.toInt32))), _, _, K0, by decide, by decide, ⟨_, rfl, (own_cL _), rfl⟩, K0.retW S15 hret (own_cnn (own_cL _)) (Or.inl ⟨rfl, by decide, _, rfl⟩) (hb hby d_method_2_code_77)⟩
              case neg =>
                  have S16 : Go p e below A0 (T0.setTop (mkF m 71 #[.val (.int i), .val (.int kd), .val (.long q1), .second, .val (.long q2), .second, .val (.int fl), .val (.int pos), .val (.int nz), .val (.long (XT.ushrL q2 ((8 : Int32) * (i - (8 : Int32))))), .second] [(.long (XT.ushrL q2 ((8 : Int32) * (i - (8 : Int32)))))])) := by
                    refine S12.trans ?_
                    refine (Own.P.icmpYes K0.here K0.exec 57 (hb hby d_method_2_code_45) (XT.ii_ge_t k8) (by decide) (by decide)).trans ?_
                    refine (Own.P.lload K0.here K0.exec (hb hby d_method_2_code_57) rfl).trans ?_
                    refine (Own.P.bipush K0.here K0.exec (8 : Int32) (hb hby d_method_2_code_59) rfl).trans ?_
                    refine (Own.P.iloadN K0.here K0.exec (hb hby d_method_2_code_61) rfl).trans ?_
                    refine (Own.P.bipush K0.here K0.exec (8 : Int32) (hb hby d_method_2_code_62) rfl).trans ?_
                    refine (Own.P.isub K0.here K0.exec (hb hby d_method_2_code_64) ).trans ?_
                    refine (Own.P.imul K0.here K0.exec (hb hby d_method_2_code_65) ).trans ?_
                    refine (Own.P.lushr K0.here K0.exec (hb hby d_method_2_code_66) ).trans ?_
                    refine (Own.P.lstore K0.here K0.exec (l' := #[.val (.int i), .val (.int kd), .val (.long q1), .second, .val (.long q2), .second, .val (.int fl), .val (.int pos), .val (.int nz), .val (.long (XT.ushrL q2 ((8 : Int32) * (i - (8 : Int32))))), .second]) (hb hby d_method_2_code_67) rfl).trans ?_
                    refine (Own.P.lload K0.here K0.exec (hb hby d_method_2_code_69) rfl).trans ?_
                    exact Go.refl _
                  have G17 := K0.ldc2 (hw _ (List.mem_of_getElem? (i := 118) rfl)) (pc := 71) (Ls := #[.val (.int i), .val (.int kd), .val (.long q1), .second, .val (.long q2), .second, .val (.int fl), .val (.int pos), .val (.int nz), .val (.long (XT.ushrL q2 ((8 : Int32) * (i - (8 : Int32))))), .second]) (rest := [(.long (XT.ushrL q2 ((8 : Int32) * (i - (8 : Int32)))))]) (hb hby d_method_2_code_71)
                  have S17 : Go p e below A0 (T0.setTop (mkF m 74 #[.val (.int i), .val (.int kd), .val (.long q1), .second, .val (.long q2), .second, .val (.int fl), .val (.int pos), .val (.int nz), .val (.long (XT.ushrL q2 ((8 : Int32) * (i - (8 : Int32))))), .second] [(.long (255 : Int64)), (.long (XT.ushrL q2 ((8 : Int32) * (i - (8 : Int32)))))])) := S16.trans G17
                  have S18 : Go p e below A0 (T0.setTop (mkF m 77 #[.val (.int i), .val (.int kd), .val (.long q1), .second, .val (.long q2), .second, .val (.int fl), .val (.int pos), .val (.int nz), .val (.long (XT.ushrL q2 ((8 : Int32) * (i - (8 : Int32))))), .second] [(.int ((((XT.ushrL q2 ((8 : Int32) * (i - (8 : Int32)))) &&& (255 : Int64)).toInt32).toUInt32.toUInt16.toUInt32.toInt32))])) := by
                    refine S17.trans ?_
                    refine (Own.P.land K0.here K0.exec (hb hby d_method_2_code_74) ).trans ?_
                    refine (Own.P.l2i K0.here K0.exec (hb hby d_method_2_code_75) ).trans ?_
                    refine (Own.P.i2c K0.here K0.exec (hb hby d_method_2_code_76) ).trans ?_
                    exact Go.refl _
                  exact ⟨s.vm, T0, h0, (some (.int ((((XT.ushrL q2 ((8 : Int32) * (i - (8 : Int32)))) &&& (255 : Int64)).toInt32).toUInt32.toUInt16.toUInt32.toInt32))), _, _, K0, by decide, by decide, ⟨_, rfl, (own_cL _), rfl⟩, K0.retW S18 hret (own_cnn (own_cL _)) (Or.inl ⟨rfl, by decide, _, rfl⟩) (hb hby d_method_2_code_77)⟩
  case neg =>
      have S19 : Go p e below A0 (T0.setTop (mkF m 8 #[.val (.int i), .val (.int kd), .val (.long q1), .second, .val (.long q2), .second, .val (.int fl), .val (.int pos), .val (.int nz), .unset, .unset] [(.int pos), (.int i)])) := by
        refine S1.trans ?_
        refine (Own.P.ifNo K0.here K0.exec (hb hby d_method_2_code_2) (XT.i0_eq_f qf)).trans ?_
        refine (Own.P.iloadN K0.here K0.exec (hb hby d_method_2_code_5) rfl).trans ?_
        refine (Own.P.iload K0.here K0.exec (hb hby d_method_2_code_6) rfl).trans ?_
        exact Go.refl _
      by_cases qp : i = pos
      case pos =>
          have S20 : Go p e below A0 (T0.setTop (mkF m 18 #[.val (.int i), .val (.int kd), .val (.long q1), .second, .val (.long q2), .second, .val (.int fl), .val (.int pos), .val (.int nz), .unset, .unset] [(.int ((nz &&& (255 : Int32)).toUInt32.toUInt16.toUInt32.toInt32))])) := by
            refine S19.trans ?_
            refine (Own.P.icmpNo K0.here K0.exec (hb hby d_method_2_code_8) (XT.ii_ne_f qp)).trans ?_
            refine (Own.P.iload K0.here K0.exec (hb hby d_method_2_code_11) rfl).trans ?_
            refine (Own.P.sipush K0.here K0.exec (255 : Int32) (hb hby d_method_2_code_13) rfl).trans ?_
            refine (Own.P.iand K0.here K0.exec (hb hby d_method_2_code_16) ).trans ?_
            refine (Own.P.i2c K0.here K0.exec (hb hby d_method_2_code_17) ).trans ?_
            exact Go.refl _
          exact ⟨s.vm, T0, h0, (some (.int ((nz &&& (255 : Int32)).toUInt32.toUInt16.toUInt32.toInt32))), _, _, K0, by decide, by decide, ⟨_, rfl, (own_c255 _), rfl⟩, K0.retW S20 hret (own_cnn (own_c255 _)) (Or.inl ⟨rfl, by decide, _, rfl⟩) (hb hby d_method_2_code_18)⟩
      case neg =>
          have S21 : Go p e below A0 (T0.setTop (mkF m 20 #[.val (.int i), .val (.int kd), .val (.long q1), .second, .val (.long q2), .second, .val (.int fl), .val (.int pos), .val (.int nz), .unset, .unset] [(.int kd)])) := by
            refine S19.trans ?_
            refine (Own.P.icmpYes K0.here K0.exec 19 (hb hby d_method_2_code_8) (XT.ii_ne_t qp) (by decide) (by decide)).trans ?_
            refine (Own.P.iloadN K0.here K0.exec (hb hby d_method_2_code_19) rfl).trans ?_
            exact Go.refl _
          by_cases k0 : kd = 0
          case pos =>
              obtain ⟨la, La, SIa⟩ := hV0.1 k0
              have S22 : Go p e below A0 (T0.setTop (mkF m 23 #[.val (.int i), .val (.int kd), .val (.long q1), .second, .val (.long q2), .second, .val (.int fl), .val (.int pos), .val (.int nz), .unset, .unset] [])) := by
                refine S21.trans ?_
                refine (Own.P.ifNo K0.here K0.exec (hb hby d_method_2_code_20) (XT.i0_ne_f k0)).trans ?_
                exact Go.refl _
              have G23 := K0.ldcA (hw _ (List.mem_of_getElem? (i := 6) rfl)) La (pc := 23) (Ls := #[.val (.int i), .val (.int kd), .val (.long q1), .second, .val (.long q2), .second, .val (.int fl), .val (.int pos), .val (.int nz), .unset, .unset]) (rest := []) (hb hby d_method_2_code_23)
              have S23 : Go p e below A0 (T0.setTop (mkF m 25 #[.val (.int i), .val (.int kd), .val (.long q1), .second, .val (.long q2), .second, .val (.int fl), .val (.int pos), .val (.int nz), .unset, .unset] [(.ref la)])) := S22.trans G23
              have S24 : Go p e below A0 (T0.setTop (mkF m 26 #[.val (.int i), .val (.int kd), .val (.long q1), .second, .val (.long q2), .second, .val (.int fl), .val (.int pos), .val (.int nz), .unset, .unset] [(.int i), (.ref la)])) := by
                refine S23.trans ?_
                refine (Own.P.iloadN K0.here K0.exec (hb hby d_method_2_code_25) rfl).trans ?_
                exact Go.refl _
              obtain ⟨v25, vm25, vq25, T25, h25, K25, KK25, ev25, Q25, G25⟩ := K0.callV (C := "java/lang/String") (y := (⟨"java/lang/String", "charAt", "(I)C"⟩ : MethodName)) (z := (⟨"java/lang/String", "charAt", "(I)C"⟩ : MethodName)) (hw _ (List.mem_of_getElem? (i := 14) rfl)) (hw _ (List.mem_of_getElem? (i := 15) rfl)) (hw _ (List.mem_of_getElem? (i := 17) rfl)) (Or.inr (Or.inr rfl)) (hw _ (List.mem_of_getElem? (i := 16) rfl)) (by decide) (W := 0) SIa.2.1 (argsL := [(.int i)]) (rest := []) (Own.payCh (W := 0) hw Own.VT.cl (hw _ (List.mem_of_getElem? (i := 8) rfl)) K0.old SIa (by decide) (i := ix) hi hix SC hzc SF rf (by decide) (by decide)) trivial (pc := 26) (Ls := #[.val (.int i), .val (.int kd), .val (.long q1), .second, .val (.long q2), .second, .val (.int fl), .val (.int pos), .val (.int nz), .unset, .unset]) (st := [(.int i), (.ref la)]) (by rw [hml]; rfl) (lenOf pd_0 rfl) rfl (Nat.le_of_eq rfl) (hb hby d_method_2_code_26) (by decide) (by decide) all0
              obtain ⟨⟨rfl, e25⟩, -⟩ := Q25
              have S25 : Go p e below A0 (T25.setTop (mkF m 29 #[.val (.int i), .val (.int kd), .val (.long q1), .second, .val (.long q2), .second, .val (.int fl), .val (.int pos), .val (.int nz), .unset, .unset] [(.int (own_L7.getD ix 0))])) := S24.trans G25
              subst e25
              exact ⟨vm25, T25, h25, (some (.int (own_L7.getD ix 0))), _, _, K25, by decide, by decide, ⟨_, rfl, (SIa.rng hi), rfl⟩, K25.retW S25 hret (own_cnn (SIa.rng hi)) (Or.inl ⟨rfl, by decide, _, rfl⟩) (hb hby d_method_2_code_29)⟩
          case neg =>
              have S26 : Go p e below A0 (T0.setTop (mkF m 32 #[.val (.int i), .val (.int kd), .val (.long q1), .second, .val (.long q2), .second, .val (.int fl), .val (.int pos), .val (.int nz), .unset, .unset] [(.int (1 : Int32)), (.int kd)])) := by
                refine S21.trans ?_
                refine (Own.P.ifYes K0.here K0.exec 30 (hb hby d_method_2_code_20) (XT.i0_ne_t k0) (by decide) (by decide)).trans ?_
                refine (Own.P.iloadN K0.here K0.exec (hb hby d_method_2_code_30) rfl).trans ?_
                refine (Own.P.iconst K0.here K0.exec (1 : Int32) (hb hby d_method_2_code_31) rfl).trans ?_
                exact Go.refl _
              by_cases k1 : kd = 1
              case pos =>
                  obtain ⟨la, La, SIa⟩ := hV0.2 k1
                  have S27 : Go p e below A0 (T0.setTop (mkF m 35 #[.val (.int i), .val (.int kd), .val (.long q1), .second, .val (.long q2), .second, .val (.int fl), .val (.int pos), .val (.int nz), .unset, .unset] [])) := by
                    refine S26.trans ?_
                    refine (Own.P.icmpNo K0.here K0.exec (hb hby d_method_2_code_32) (XT.ii_ne_f k1)).trans ?_
                    exact Go.refl _
                  have G28 := K0.ldcA (hw _ (List.mem_of_getElem? (i := 119) rfl)) La (pc := 35) (Ls := #[.val (.int i), .val (.int kd), .val (.long q1), .second, .val (.long q2), .second, .val (.int fl), .val (.int pos), .val (.int nz), .unset, .unset]) (rest := []) (hb hby d_method_2_code_35)
                  have S28 : Go p e below A0 (T0.setTop (mkF m 37 #[.val (.int i), .val (.int kd), .val (.long q1), .second, .val (.long q2), .second, .val (.int fl), .val (.int pos), .val (.int nz), .unset, .unset] [(.ref la)])) := S27.trans G28
                  have S29 : Go p e below A0 (T0.setTop (mkF m 38 #[.val (.int i), .val (.int kd), .val (.long q1), .second, .val (.long q2), .second, .val (.int fl), .val (.int pos), .val (.int nz), .unset, .unset] [(.int i), (.ref la)])) := by
                    refine S28.trans ?_
                    refine (Own.P.iloadN K0.here K0.exec (hb hby d_method_2_code_37) rfl).trans ?_
                    exact Go.refl _
                  obtain ⟨v30, vm30, vq30, T30, h30, K30, KK30, ev30, Q30, G30⟩ := K0.callV (C := "java/lang/String") (y := (⟨"java/lang/String", "charAt", "(I)C"⟩ : MethodName)) (z := (⟨"java/lang/String", "charAt", "(I)C"⟩ : MethodName)) (hw _ (List.mem_of_getElem? (i := 14) rfl)) (hw _ (List.mem_of_getElem? (i := 15) rfl)) (hw _ (List.mem_of_getElem? (i := 17) rfl)) (Or.inr (Or.inr rfl)) (hw _ (List.mem_of_getElem? (i := 16) rfl)) (by decide) (W := 0) SIa.2.1 (argsL := [(.int i)]) (rest := []) (Own.payCh (W := 0) hw Own.VT.cl (hw _ (List.mem_of_getElem? (i := 8) rfl)) K0.old SIa (by decide) (i := ix) hi hix SC hzc SF rf (by decide) (by decide)) trivial (pc := 38) (Ls := #[.val (.int i), .val (.int kd), .val (.long q1), .second, .val (.long q2), .second, .val (.int fl), .val (.int pos), .val (.int nz), .unset, .unset]) (st := [(.int i), (.ref la)]) (by rw [hml]; rfl) (lenOf pd_0 rfl) rfl (Nat.le_of_eq rfl) (hb hby d_method_2_code_38) (by decide) (by decide) all0
                  obtain ⟨⟨rfl, e30⟩, -⟩ := Q30
                  have S30 : Go p e below A0 (T30.setTop (mkF m 41 #[.val (.int i), .val (.int kd), .val (.long q1), .second, .val (.long q2), .second, .val (.int fl), .val (.int pos), .val (.int nz), .unset, .unset] [(.int (own_L15.getD ix 0))])) := S29.trans G30
                  subst e30
                  exact ⟨vm30, T30, h30, (some (.int (own_L15.getD ix 0))), _, _, K30, by decide, by decide, ⟨_, rfl, (SIa.rng hi), rfl⟩, K30.retW S30 hret (own_cnn (SIa.rng hi)) (Or.inl ⟨rfl, by decide, _, rfl⟩) (hb hby d_method_2_code_41)⟩
              case neg =>
                  have S31 : Go p e below A0 (T0.setTop (mkF m 45 #[.val (.int i), .val (.int kd), .val (.long q1), .second, .val (.long q2), .second, .val (.int fl), .val (.int pos), .val (.int nz), .unset, .unset] [(.int (8 : Int32)), (.int i)])) := by
                    refine S26.trans ?_
                    refine (Own.P.icmpYes K0.here K0.exec 42 (hb hby d_method_2_code_32) (XT.ii_ne_t k1) (by decide) (by decide)).trans ?_
                    refine (Own.P.iloadN K0.here K0.exec (hb hby d_method_2_code_42) rfl).trans ?_
                    refine (Own.P.bipush K0.here K0.exec (8 : Int32) (hb hby d_method_2_code_43) rfl).trans ?_
                    exact Go.refl _
                  by_cases k8 : i < 8
                  case pos =>
                      have S32 : Go p e below A0 (T0.setTop (mkF m 71 #[.val (.int i), .val (.int kd), .val (.long q1), .second, .val (.long q2), .second, .val (.int fl), .val (.int pos), .val (.int nz), .val (.long (XT.ushrL q1 ((8 : Int32) * i))), .second] [(.long (XT.ushrL q1 ((8 : Int32) * i)))])) := by
                        refine S31.trans ?_
                        refine (Own.P.icmpNo K0.here K0.exec (hb hby d_method_2_code_45) (XT.ii_ge_f k8)).trans ?_
                        refine (Own.P.lloadN K0.here K0.exec (hb hby d_method_2_code_48) rfl).trans ?_
                        refine (Own.P.bipush K0.here K0.exec (8 : Int32) (hb hby d_method_2_code_49) rfl).trans ?_
                        refine (Own.P.iloadN K0.here K0.exec (hb hby d_method_2_code_51) rfl).trans ?_
                        refine (Own.P.imul K0.here K0.exec (hb hby d_method_2_code_52) ).trans ?_
                        refine (Own.P.lushr K0.here K0.exec (hb hby d_method_2_code_53) ).trans ?_
                        refine (Own.P.goto K0.here K0.exec 67 (hb hby d_method_2_code_54) (by decide) (by decide)).trans ?_
                        refine (Own.P.lstore K0.here K0.exec (l' := #[.val (.int i), .val (.int kd), .val (.long q1), .second, .val (.long q2), .second, .val (.int fl), .val (.int pos), .val (.int nz), .val (.long (XT.ushrL q1 ((8 : Int32) * i))), .second]) (hb hby d_method_2_code_67) rfl).trans ?_
                        refine (Own.P.lload K0.here K0.exec (hb hby d_method_2_code_69) rfl).trans ?_
                        exact Go.refl _
                      have G33 := K0.ldc2 (hw _ (List.mem_of_getElem? (i := 118) rfl)) (pc := 71) (Ls := #[.val (.int i), .val (.int kd), .val (.long q1), .second, .val (.long q2), .second, .val (.int fl), .val (.int pos), .val (.int nz), .val (.long (XT.ushrL q1 ((8 : Int32) * i))), .second]) (rest := [(.long (XT.ushrL q1 ((8 : Int32) * i)))]) (hb hby d_method_2_code_71)
                      have S33 : Go p e below A0 (T0.setTop (mkF m 74 #[.val (.int i), .val (.int kd), .val (.long q1), .second, .val (.long q2), .second, .val (.int fl), .val (.int pos), .val (.int nz), .val (.long (XT.ushrL q1 ((8 : Int32) * i))), .second] [(.long (255 : Int64)), (.long (XT.ushrL q1 ((8 : Int32) * i)))])) := S32.trans G33
                      have S34 : Go p e below A0 (T0.setTop (mkF m 77 #[.val (.int i), .val (.int kd), .val (.long q1), .second, .val (.long q2), .second, .val (.int fl), .val (.int pos), .val (.int nz), .val (.long (XT.ushrL q1 ((8 : Int32) * i))), .second] [(.int ((((XT.ushrL q1 ((8 : Int32) * i)) &&& (255 : Int64)).toInt32).toUInt32.toUInt16.toUInt32.toInt32))])) := by
                        refine S33.trans ?_
                        refine (Own.P.land K0.here K0.exec (hb hby d_method_2_code_74) ).trans ?_
                        refine (Own.P.l2i K0.here K0.exec (hb hby d_method_2_code_75) ).trans ?_
                        refine (Own.P.i2c K0.here K0.exec (hb hby d_method_2_code_76) ).trans ?_
                        exact Go.refl _
                      exact ⟨s.vm, T0, h0, (some (.int ((((XT.ushrL q1 ((8 : Int32) * i)) &&& (255 : Int64)).toInt32).toUInt32.toUInt16.toUInt32.toInt32))), _, _, K0, by decide, by decide, ⟨_, rfl, (own_cL _), rfl⟩, K0.retW S34 hret (own_cnn (own_cL _)) (Or.inl ⟨rfl, by decide, _, rfl⟩) (hb hby d_method_2_code_77)⟩
                  case neg =>
                      have S35 : Go p e below A0 (T0.setTop (mkF m 71 #[.val (.int i), .val (.int kd), .val (.long q1), .second, .val (.long q2), .second, .val (.int fl), .val (.int pos), .val (.int nz), .val (.long (XT.ushrL q2 ((8 : Int32) * (i - (8 : Int32))))), .second] [(.long (XT.ushrL q2 ((8 : Int32) * (i - (8 : Int32)))))])) := by
                        refine S31.trans ?_
                        refine (Own.P.icmpYes K0.here K0.exec 57 (hb hby d_method_2_code_45) (XT.ii_ge_t k8) (by decide) (by decide)).trans ?_
                        refine (Own.P.lload K0.here K0.exec (hb hby d_method_2_code_57) rfl).trans ?_
                        refine (Own.P.bipush K0.here K0.exec (8 : Int32) (hb hby d_method_2_code_59) rfl).trans ?_
                        refine (Own.P.iloadN K0.here K0.exec (hb hby d_method_2_code_61) rfl).trans ?_
                        refine (Own.P.bipush K0.here K0.exec (8 : Int32) (hb hby d_method_2_code_62) rfl).trans ?_
                        refine (Own.P.isub K0.here K0.exec (hb hby d_method_2_code_64) ).trans ?_
                        refine (Own.P.imul K0.here K0.exec (hb hby d_method_2_code_65) ).trans ?_
                        refine (Own.P.lushr K0.here K0.exec (hb hby d_method_2_code_66) ).trans ?_
                        refine (Own.P.lstore K0.here K0.exec (l' := #[.val (.int i), .val (.int kd), .val (.long q1), .second, .val (.long q2), .second, .val (.int fl), .val (.int pos), .val (.int nz), .val (.long (XT.ushrL q2 ((8 : Int32) * (i - (8 : Int32))))), .second]) (hb hby d_method_2_code_67) rfl).trans ?_
                        refine (Own.P.lload K0.here K0.exec (hb hby d_method_2_code_69) rfl).trans ?_
                        exact Go.refl _
                      have G36 := K0.ldc2 (hw _ (List.mem_of_getElem? (i := 118) rfl)) (pc := 71) (Ls := #[.val (.int i), .val (.int kd), .val (.long q1), .second, .val (.long q2), .second, .val (.int fl), .val (.int pos), .val (.int nz), .val (.long (XT.ushrL q2 ((8 : Int32) * (i - (8 : Int32))))), .second]) (rest := [(.long (XT.ushrL q2 ((8 : Int32) * (i - (8 : Int32)))))]) (hb hby d_method_2_code_71)
                      have S36 : Go p e below A0 (T0.setTop (mkF m 74 #[.val (.int i), .val (.int kd), .val (.long q1), .second, .val (.long q2), .second, .val (.int fl), .val (.int pos), .val (.int nz), .val (.long (XT.ushrL q2 ((8 : Int32) * (i - (8 : Int32))))), .second] [(.long (255 : Int64)), (.long (XT.ushrL q2 ((8 : Int32) * (i - (8 : Int32)))))])) := S35.trans G36
                      have S37 : Go p e below A0 (T0.setTop (mkF m 77 #[.val (.int i), .val (.int kd), .val (.long q1), .second, .val (.long q2), .second, .val (.int fl), .val (.int pos), .val (.int nz), .val (.long (XT.ushrL q2 ((8 : Int32) * (i - (8 : Int32))))), .second] [(.int ((((XT.ushrL q2 ((8 : Int32) * (i - (8 : Int32)))) &&& (255 : Int64)).toInt32).toUInt32.toUInt16.toUInt32.toInt32))])) := by
                        refine S36.trans ?_
                        refine (Own.P.land K0.here K0.exec (hb hby d_method_2_code_74) ).trans ?_
                        refine (Own.P.l2i K0.here K0.exec (hb hby d_method_2_code_75) ).trans ?_
                        refine (Own.P.i2c K0.here K0.exec (hb hby d_method_2_code_76) ).trans ?_
                        exact Go.refl _
                      exact ⟨s.vm, T0, h0, (some (.int ((((XT.ushrL q2 ((8 : Int32) * (i - (8 : Int32)))) &&& (255 : Int64)).toInt32).toUInt32.toUInt16.toUInt32.toInt32))), _, _, K0, by decide, by decide, ⟨_, rfl, (own_cL _), rfl⟩, K0.retW S37 hret (own_cnn (own_cL _)) (Or.inl ⟨rfl, by decide, _, rfl⟩) (hb hby d_method_2_code_77)⟩
set_option maxRecDepth 65536 in
set_option maxHeartbeats 40000000 in
theorem c_chC (l : Launch) (Z : State) (a0 : Array Value) (hw : ∀ d ∈ tables_1, d.before a0 Z = true) (n0 : Nat) (h0 : Heap) (O0 : Old Z n0 h0) (i kd fl pos nz : Int32) (q1 q2 : Int64) (ix : Nat) (hi : ix < 12) (hix : i = Int32.ofNat ix) (zc : Int32) (hzc : ¬ zc = 0) (SC : Sta Z Z.heap "java/lang/String" "COMPACT_STRINGS" "Z" (.int zc)) (fm : Value) (rf : fm.isRef = true) (SF : Sta Z Z.heap "jdk/internal/util/Preconditions" "SIOOBE_FORMATTER" "Ljava/util/function/BiFunction;" fm) :
    Own.Ctr true l (⟨"com/example/samband/samband/identity/KeyPurposeOfPinLaw", "ch", "(IIJJZII)C"⟩ : MethodName) method_2_code 11 (some .char) ({ frames := 4, cells := 2, slots := 52, locals := 53 } : Room) #[(.int i), (.int kd), (.long q1), (.long q2), (.int fl), (.int pos), (.int nz)] Z h0 (Own.HV Z consts_1 h0) [] (fun v h vm => ∃ cv, v = some (.int cv) ∧ (¬ cv < 0 ∧ ¬ (255 : Int32) < cv) ∧ Own.HV Z consts_1 h vm ∧ ((¬ fl = 0 ∧ i = pos) ∨ Two Z h kd vm)) := by
  refine Own.body (plainFor_of_name pn_0) O0 (fun _ _ _ _ q => by cases q) (fun v h s vm' q hW => by obtain ⟨cv, q1, q2, q3, q4⟩ := q; exact ⟨cv, q1, q2, Own.HV.cl (own_ew hw) s vm' q3 hW, q4.imp id fun t => Two.cl s vm' t hW⟩) ?_
  intro p e s m below meth c T0 hby hml0 hret hnm hV0 K0
  change Own.Wk true p l e ({ frames := 4, cells := 2, slots := 52, locals := 53 } : Room) s m #[(.int i), (.int kd), (.long q1), (.long q2), (.int fl), (.int pos), (.int nz)] below meth c "com/example/samband/samband/identity/KeyPurposeOfPinLaw" Z n0 h0 [] s.vm T0 h0 0 0 at K0
  have hml : c.maxLocals = 11 := hml0
  have S0 : Go p e below (T0.setTop (entryFrame m #[(.int i), (.int kd), (.long q1), (.long q2), (.int fl), (.int pos), (.int nz)] 11)) (T0.setTop (mkF m 0 #[.val (.int i), .val (.int kd), .val (.long q1), .second, .val (.long q2), .second, .val (.int fl), .val (.int pos), .val (.int nz), .unset, .unset] [])) := fun t k => castTop (by first | rfl | (simp [entryFrame, mkF, argsToLocals, Value.category]; done)) k
  generalize T0.setTop (entryFrame m #[(.int i), (.int kd), (.long q1), (.long q2), (.int fl), (.int pos), (.int nz)] 11) = A0 at S0 ⊢
  have S1 : Go p e below A0 (T0.setTop (mkF m 2 #[.val (.int i), .val (.int kd), .val (.long q1), .second, .val (.long q2), .second, .val (.int fl), .val (.int pos), .val (.int nz), .unset, .unset] [(.int fl)])) := by
    refine S0.trans ?_
    refine (Own.P.iload K0.here K0.exec (hb hby d_method_2_code_0) rfl).trans ?_
    exact Go.refl _
  by_cases qf : fl = 0
  case pos =>
      have S2 : Go p e below A0 (T0.setTop (mkF m 20 #[.val (.int i), .val (.int kd), .val (.long q1), .second, .val (.long q2), .second, .val (.int fl), .val (.int pos), .val (.int nz), .unset, .unset] [(.int kd)])) := by
        refine S1.trans ?_
        refine (Own.P.ifYes K0.here K0.exec 19 (hb hby d_method_2_code_2) (XT.i0_eq_t qf) (by decide) (by decide)).trans ?_
        refine (Own.P.iloadN K0.here K0.exec (hb hby d_method_2_code_19) rfl).trans ?_
        exact Go.refl _
      by_cases k0 : kd = 0
      case pos =>
          have S3 : Go p e below A0 (T0.setTop (mkF m 23 #[.val (.int i), .val (.int kd), .val (.long q1), .second, .val (.long q2), .second, .val (.int fl), .val (.int pos), .val (.int nz), .unset, .unset] [])) := by
            refine S2.trans ?_
            refine (Own.P.ifNo K0.here K0.exec (hb hby d_method_2_code_20) (XT.i0_ne_f k0)).trans ?_
            exact Go.refl _
          obtain ⟨la, b_la, k_la, vm4, T4, h4, K4, E4, X_la, C_la, F_la, V_la, H_la, L_la, G4⟩ := K0.ldcH (hw _ (List.mem_of_getElem? (i := 6) rfl)) (Own.atoms_in hw) (own_ew hw) (by simp [consts_1]) hV0.2 (vs := (own_L7.map fun c => Value.int (lo8 c))) (z := Int32.ofNat own_L7.length) ⟨by decide +kernel, by decide +kernel⟩ (by decide) (by decide +kernel) (pc := 23) (Ls := #[.val (.int i), .val (.int kd), .val (.long q1), .second, .val (.long q2), .second, .val (.int fl), .val (.int pos), .val (.int nz), .unset, .unset]) (rest := []) (hb hby d_method_2_code_23) (n := 48) (by decide +kernel) (by decide) (by decide) (by decide)
          have S4 : Go p e below A0 (T4.setTop (mkF m 25 #[.val (.int i), .val (.int kd), .val (.long q1), .second, .val (.long q2), .second, .val (.int fl), .val (.int pos), .val (.int nz), .unset, .unset] [(.ref la)])) := S3.trans G4
          have SIa : StrIs Z h4 la own_L7 := ⟨own_r7, X_la, C_la, b_la, k_la, F_la, V_la⟩
          have S5 : Go p e below A0 (T4.setTop (mkF m 26 #[.val (.int i), .val (.int kd), .val (.long q1), .second, .val (.long q2), .second, .val (.int fl), .val (.int pos), .val (.int nz), .unset, .unset] [(.int i), (.ref la)])) := by
            refine S4.trans ?_
            refine (Own.P.iloadN K4.here K4.exec (hb hby d_method_2_code_25) rfl).trans ?_
            exact Go.refl _
          obtain ⟨v6, vm6, vq6, T6, h6, K6, KK6, ev6, Q6, G6⟩ := K4.callV (C := "java/lang/String") (y := (⟨"java/lang/String", "charAt", "(I)C"⟩ : MethodName)) (z := (⟨"java/lang/String", "charAt", "(I)C"⟩ : MethodName)) (hw _ (List.mem_of_getElem? (i := 14) rfl)) (hw _ (List.mem_of_getElem? (i := 15) rfl)) (hw _ (List.mem_of_getElem? (i := 17) rfl)) (Or.inr (Or.inr rfl)) (hw _ (List.mem_of_getElem? (i := 16) rfl)) (by decide) (W := 0) SIa.2.1 (argsL := [(.int i)]) (rest := []) (Own.payCh (W := 0) hw (VCl.and (Own.HV.cl (own_ew hw)) (Own.LitV.cl (own := "com/example/samband/samband/identity/KeyPurposeOfPinLaw") (index := 7) (a := la))) (hw _ (List.mem_of_getElem? (i := 8) rfl)) K4.old SIa (by decide) (i := ix) hi hix SC hzc SF rf (by decide) (by decide)) ⟨⟨K4.warm, H_la⟩, L_la⟩ (pc := 26) (Ls := #[.val (.int i), .val (.int kd), .val (.long q1), .second, .val (.long q2), .second, .val (.int fl), .val (.int pos), .val (.int nz), .unset, .unset]) (st := [(.int i), (.ref la)]) (by rw [hml]; rfl) (lenOf pd_0 rfl) rfl (Nat.le_of_eq rfl) (hb hby d_method_2_code_26) (by decide) (by decide) all0
          obtain ⟨rfl, hW6⟩ := ev6 rfl
          obtain ⟨⟨rfl, e6⟩, hv6⟩ := Q6
          have S6 : Go p e below A0 (T6.setTop (mkF m 29 #[.val (.int i), .val (.int kd), .val (.long q1), .second, .val (.long q2), .second, .val (.int fl), .val (.int pos), .val (.int nz), .unset, .unset] [(.int (own_L7.getD ix 0))])) := S5.trans G6
          subst e6
          exact ⟨vq6, T6, h6, (some (.int (own_L7.getD ix 0))), _, _, K6, by decide, by decide, ⟨_, rfl, (SIa.rng hi), hv6.1, Or.inr ⟨fun _ => ⟨la, hv6.2, SIa⟩, fun k => absurd (k0.symm.trans k) (by decide)⟩⟩, K6.retW S6 hret (own_cnn (SIa.rng hi)) (Or.inl ⟨rfl, by decide, _, rfl⟩) (hb hby d_method_2_code_29)⟩
      case neg =>
          have S7 : Go p e below A0 (T0.setTop (mkF m 32 #[.val (.int i), .val (.int kd), .val (.long q1), .second, .val (.long q2), .second, .val (.int fl), .val (.int pos), .val (.int nz), .unset, .unset] [(.int (1 : Int32)), (.int kd)])) := by
            refine S2.trans ?_
            refine (Own.P.ifYes K0.here K0.exec 30 (hb hby d_method_2_code_20) (XT.i0_ne_t k0) (by decide) (by decide)).trans ?_
            refine (Own.P.iloadN K0.here K0.exec (hb hby d_method_2_code_30) rfl).trans ?_
            refine (Own.P.iconst K0.here K0.exec (1 : Int32) (hb hby d_method_2_code_31) rfl).trans ?_
            exact Go.refl _
          by_cases k1 : kd = 1
          case pos =>
              have S8 : Go p e below A0 (T0.setTop (mkF m 35 #[.val (.int i), .val (.int kd), .val (.long q1), .second, .val (.long q2), .second, .val (.int fl), .val (.int pos), .val (.int nz), .unset, .unset] [])) := by
                refine S7.trans ?_
                refine (Own.P.icmpNo K0.here K0.exec (hb hby d_method_2_code_32) (XT.ii_ne_f k1)).trans ?_
                exact Go.refl _
              obtain ⟨la, b_la, k_la, vm9, T9, h9, K9, E9, X_la, C_la, F_la, V_la, H_la, L_la, G9⟩ := K0.ldcH (hw _ (List.mem_of_getElem? (i := 119) rfl)) (Own.atoms_in hw) (own_ew hw) (by simp [consts_1]) hV0.2 (vs := (own_L15.map fun c => Value.int (lo8 c))) (z := Int32.ofNat own_L15.length) ⟨by decide +kernel, by decide +kernel⟩ (by decide) (by decide +kernel) (pc := 35) (Ls := #[.val (.int i), .val (.int kd), .val (.long q1), .second, .val (.long q2), .second, .val (.int fl), .val (.int pos), .val (.int nz), .unset, .unset]) (rest := []) (hb hby d_method_2_code_35) (n := 48) (by decide +kernel) (by decide) (by decide) (by decide)
              have S9 : Go p e below A0 (T9.setTop (mkF m 37 #[.val (.int i), .val (.int kd), .val (.long q1), .second, .val (.long q2), .second, .val (.int fl), .val (.int pos), .val (.int nz), .unset, .unset] [(.ref la)])) := S8.trans G9
              have SIa : StrIs Z h9 la own_L15 := ⟨own_r15, X_la, C_la, b_la, k_la, F_la, V_la⟩
              have S10 : Go p e below A0 (T9.setTop (mkF m 38 #[.val (.int i), .val (.int kd), .val (.long q1), .second, .val (.long q2), .second, .val (.int fl), .val (.int pos), .val (.int nz), .unset, .unset] [(.int i), (.ref la)])) := by
                refine S9.trans ?_
                refine (Own.P.iloadN K9.here K9.exec (hb hby d_method_2_code_37) rfl).trans ?_
                exact Go.refl _
              obtain ⟨v11, vm11, vq11, T11, h11, K11, KK11, ev11, Q11, G11⟩ := K9.callV (C := "java/lang/String") (y := (⟨"java/lang/String", "charAt", "(I)C"⟩ : MethodName)) (z := (⟨"java/lang/String", "charAt", "(I)C"⟩ : MethodName)) (hw _ (List.mem_of_getElem? (i := 14) rfl)) (hw _ (List.mem_of_getElem? (i := 15) rfl)) (hw _ (List.mem_of_getElem? (i := 17) rfl)) (Or.inr (Or.inr rfl)) (hw _ (List.mem_of_getElem? (i := 16) rfl)) (by decide) (W := 0) SIa.2.1 (argsL := [(.int i)]) (rest := []) (Own.payCh (W := 0) hw (VCl.and (Own.HV.cl (own_ew hw)) (Own.LitV.cl (own := "com/example/samband/samband/identity/KeyPurposeOfPinLaw") (index := 15) (a := la))) (hw _ (List.mem_of_getElem? (i := 8) rfl)) K9.old SIa (by decide) (i := ix) hi hix SC hzc SF rf (by decide) (by decide)) ⟨⟨K9.warm, H_la⟩, L_la⟩ (pc := 38) (Ls := #[.val (.int i), .val (.int kd), .val (.long q1), .second, .val (.long q2), .second, .val (.int fl), .val (.int pos), .val (.int nz), .unset, .unset]) (st := [(.int i), (.ref la)]) (by rw [hml]; rfl) (lenOf pd_0 rfl) rfl (Nat.le_of_eq rfl) (hb hby d_method_2_code_38) (by decide) (by decide) all0
              obtain ⟨rfl, hW11⟩ := ev11 rfl
              obtain ⟨⟨rfl, e11⟩, hv11⟩ := Q11
              have S11 : Go p e below A0 (T11.setTop (mkF m 41 #[.val (.int i), .val (.int kd), .val (.long q1), .second, .val (.long q2), .second, .val (.int fl), .val (.int pos), .val (.int nz), .unset, .unset] [(.int (own_L15.getD ix 0))])) := S10.trans G11
              subst e11
              exact ⟨vq11, T11, h11, (some (.int (own_L15.getD ix 0))), _, _, K11, by decide, by decide, ⟨_, rfl, (SIa.rng hi), hv11.1, Or.inr ⟨fun k => absurd k k0, fun _ => ⟨la, hv11.2, SIa⟩⟩⟩, K11.retW S11 hret (own_cnn (SIa.rng hi)) (Or.inl ⟨rfl, by decide, _, rfl⟩) (hb hby d_method_2_code_41)⟩
          case neg =>
              have S12 : Go p e below A0 (T0.setTop (mkF m 45 #[.val (.int i), .val (.int kd), .val (.long q1), .second, .val (.long q2), .second, .val (.int fl), .val (.int pos), .val (.int nz), .unset, .unset] [(.int (8 : Int32)), (.int i)])) := by
                refine S7.trans ?_
                refine (Own.P.icmpYes K0.here K0.exec 42 (hb hby d_method_2_code_32) (XT.ii_ne_t k1) (by decide) (by decide)).trans ?_
                refine (Own.P.iloadN K0.here K0.exec (hb hby d_method_2_code_42) rfl).trans ?_
                refine (Own.P.bipush K0.here K0.exec (8 : Int32) (hb hby d_method_2_code_43) rfl).trans ?_
                exact Go.refl _
              by_cases k8 : i < 8
              case pos =>
                  have S13 : Go p e below A0 (T0.setTop (mkF m 71 #[.val (.int i), .val (.int kd), .val (.long q1), .second, .val (.long q2), .second, .val (.int fl), .val (.int pos), .val (.int nz), .val (.long (XT.ushrL q1 ((8 : Int32) * i))), .second] [(.long (XT.ushrL q1 ((8 : Int32) * i)))])) := by
                    refine S12.trans ?_
                    refine (Own.P.icmpNo K0.here K0.exec (hb hby d_method_2_code_45) (XT.ii_ge_f k8)).trans ?_
                    refine (Own.P.lloadN K0.here K0.exec (hb hby d_method_2_code_48) rfl).trans ?_
                    refine (Own.P.bipush K0.here K0.exec (8 : Int32) (hb hby d_method_2_code_49) rfl).trans ?_
                    refine (Own.P.iloadN K0.here K0.exec (hb hby d_method_2_code_51) rfl).trans ?_
                    refine (Own.P.imul K0.here K0.exec (hb hby d_method_2_code_52) ).trans ?_
                    refine (Own.P.lushr K0.here K0.exec (hb hby d_method_2_code_53) ).trans ?_
                    refine (Own.P.goto K0.here K0.exec 67 (hb hby d_method_2_code_54) (by decide) (by decide)).trans ?_
                    refine (Own.P.lstore K0.here K0.exec (l' := #[.val (.int i), .val (.int kd), .val (.long q1), .second, .val (.long q2), .second, .val (.int fl), .val (.int pos), .val (.int nz), .val (.long (XT.ushrL q1 ((8 : Int32) * i))), .second]) (hb hby d_method_2_code_67) rfl).trans ?_
                    refine (Own.P.lload K0.here K0.exec (hb hby d_method_2_code_69) rfl).trans ?_
                    exact Go.refl _
                  have G14 := K0.ldc2 (hw _ (List.mem_of_getElem? (i := 118) rfl)) (pc := 71) (Ls := #[.val (.int i), .val (.int kd), .val (.long q1), .second, .val (.long q2), .second, .val (.int fl), .val (.int pos), .val (.int nz), .val (.long (XT.ushrL q1 ((8 : Int32) * i))), .second]) (rest := [(.long (XT.ushrL q1 ((8 : Int32) * i)))]) (hb hby d_method_2_code_71)
                  have S14 : Go p e below A0 (T0.setTop (mkF m 74 #[.val (.int i), .val (.int kd), .val (.long q1), .second, .val (.long q2), .second, .val (.int fl), .val (.int pos), .val (.int nz), .val (.long (XT.ushrL q1 ((8 : Int32) * i))), .second] [(.long (255 : Int64)), (.long (XT.ushrL q1 ((8 : Int32) * i)))])) := S13.trans G14
                  have S15 : Go p e below A0 (T0.setTop (mkF m 77 #[.val (.int i), .val (.int kd), .val (.long q1), .second, .val (.long q2), .second, .val (.int fl), .val (.int pos), .val (.int nz), .val (.long (XT.ushrL q1 ((8 : Int32) * i))), .second] [(.int ((((XT.ushrL q1 ((8 : Int32) * i)) &&& (255 : Int64)).toInt32).toUInt32.toUInt16.toUInt32.toInt32))])) := by
                    refine S14.trans ?_
                    refine (Own.P.land K0.here K0.exec (hb hby d_method_2_code_74) ).trans ?_
                    refine (Own.P.l2i K0.here K0.exec (hb hby d_method_2_code_75) ).trans ?_
                    refine (Own.P.i2c K0.here K0.exec (hb hby d_method_2_code_76) ).trans ?_
                    exact Go.refl _
                  exact ⟨s.vm, T0, h0, (some (.int ((((XT.ushrL q1 ((8 : Int32) * i)) &&& (255 : Int64)).toInt32).toUInt32.toUInt16.toUInt32.toInt32))), _, _, K0, by decide, by decide, ⟨_, rfl, (own_cL _), hV0, Or.inr ⟨fun k => absurd k k0, fun k => absurd k k1⟩⟩, K0.retW S15 hret (own_cnn (own_cL _)) (Or.inl ⟨rfl, by decide, _, rfl⟩) (hb hby d_method_2_code_77)⟩
              case neg =>
                  have S16 : Go p e below A0 (T0.setTop (mkF m 71 #[.val (.int i), .val (.int kd), .val (.long q1), .second, .val (.long q2), .second, .val (.int fl), .val (.int pos), .val (.int nz), .val (.long (XT.ushrL q2 ((8 : Int32) * (i - (8 : Int32))))), .second] [(.long (XT.ushrL q2 ((8 : Int32) * (i - (8 : Int32)))))])) := by
                    refine S12.trans ?_
                    refine (Own.P.icmpYes K0.here K0.exec 57 (hb hby d_method_2_code_45) (XT.ii_ge_t k8) (by decide) (by decide)).trans ?_
                    refine (Own.P.lload K0.here K0.exec (hb hby d_method_2_code_57) rfl).trans ?_
                    refine (Own.P.bipush K0.here K0.exec (8 : Int32) (hb hby d_method_2_code_59) rfl).trans ?_
                    refine (Own.P.iloadN K0.here K0.exec (hb hby d_method_2_code_61) rfl).trans ?_
                    refine (Own.P.bipush K0.here K0.exec (8 : Int32) (hb hby d_method_2_code_62) rfl).trans ?_
                    refine (Own.P.isub K0.here K0.exec (hb hby d_method_2_code_64) ).trans ?_
                    refine (Own.P.imul K0.here K0.exec (hb hby d_method_2_code_65) ).trans ?_
                    refine (Own.P.lushr K0.here K0.exec (hb hby d_method_2_code_66) ).trans ?_
                    refine (Own.P.lstore K0.here K0.exec (l' := #[.val (.int i), .val (.int kd), .val (.long q1), .second, .val (.long q2), .second, .val (.int fl), .val (.int pos), .val (.int nz), .val (.long (XT.ushrL q2 ((8 : Int32) * (i - (8 : Int32))))), .second]) (hb hby d_method_2_code_67) rfl).trans ?_
                    refine (Own.P.lload K0.here K0.exec (hb hby d_method_2_code_69) rfl).trans ?_
                    exact Go.refl _
                  have G17 := K0.ldc2 (hw _ (List.mem_of_getElem? (i := 118) rfl)) (pc := 71) (Ls := #[.val (.int i), .val (.int kd), .val (.long q1), .second, .val (.long q2), .second, .val (.int fl), .val (.int pos), .val (.int nz), .val (.long (XT.ushrL q2 ((8 : Int32) * (i - (8 : Int32))))), .second]) (rest := [(.long (XT.ushrL q2 ((8 : Int32) * (i - (8 : Int32)))))]) (hb hby d_method_2_code_71)
                  have S17 : Go p e below A0 (T0.setTop (mkF m 74 #[.val (.int i), .val (.int kd), .val (.long q1), .second, .val (.long q2), .second, .val (.int fl), .val (.int pos), .val (.int nz), .val (.long (XT.ushrL q2 ((8 : Int32) * (i - (8 : Int32))))), .second] [(.long (255 : Int64)), (.long (XT.ushrL q2 ((8 : Int32) * (i - (8 : Int32)))))])) := S16.trans G17
                  have S18 : Go p e below A0 (T0.setTop (mkF m 77 #[.val (.int i), .val (.int kd), .val (.long q1), .second, .val (.long q2), .second, .val (.int fl), .val (.int pos), .val (.int nz), .val (.long (XT.ushrL q2 ((8 : Int32) * (i - (8 : Int32))))), .second] [(.int ((((XT.ushrL q2 ((8 : Int32) * (i - (8 : Int32)))) &&& (255 : Int64)).toInt32).toUInt32.toUInt16.toUInt32.toInt32))])) := by
                    refine S17.trans ?_
                    refine (Own.P.land K0.here K0.exec (hb hby d_method_2_code_74) ).trans ?_
                    refine (Own.P.l2i K0.here K0.exec (hb hby d_method_2_code_75) ).trans ?_
                    refine (Own.P.i2c K0.here K0.exec (hb hby d_method_2_code_76) ).trans ?_
                    exact Go.refl _
                  exact ⟨s.vm, T0, h0, (some (.int ((((XT.ushrL q2 ((8 : Int32) * (i - (8 : Int32)))) &&& (255 : Int64)).toInt32).toUInt32.toUInt16.toUInt32.toInt32))), _, _, K0, by decide, by decide, ⟨_, rfl, (own_cL _), hV0, Or.inr ⟨fun k => absurd k k0, fun k => absurd k k1⟩⟩, K0.retW S18 hret (own_cnn (own_cL _)) (Or.inl ⟨rfl, by decide, _, rfl⟩) (hb hby d_method_2_code_77)⟩
  case neg =>
      have S19 : Go p e below A0 (T0.setTop (mkF m 8 #[.val (.int i), .val (.int kd), .val (.long q1), .second, .val (.long q2), .second, .val (.int fl), .val (.int pos), .val (.int nz), .unset, .unset] [(.int pos), (.int i)])) := by
        refine S1.trans ?_
        refine (Own.P.ifNo K0.here K0.exec (hb hby d_method_2_code_2) (XT.i0_eq_f qf)).trans ?_
        refine (Own.P.iloadN K0.here K0.exec (hb hby d_method_2_code_5) rfl).trans ?_
        refine (Own.P.iload K0.here K0.exec (hb hby d_method_2_code_6) rfl).trans ?_
        exact Go.refl _
      by_cases qp : i = pos
      case pos =>
          have S20 : Go p e below A0 (T0.setTop (mkF m 18 #[.val (.int i), .val (.int kd), .val (.long q1), .second, .val (.long q2), .second, .val (.int fl), .val (.int pos), .val (.int nz), .unset, .unset] [(.int ((nz &&& (255 : Int32)).toUInt32.toUInt16.toUInt32.toInt32))])) := by
            refine S19.trans ?_
            refine (Own.P.icmpNo K0.here K0.exec (hb hby d_method_2_code_8) (XT.ii_ne_f qp)).trans ?_
            refine (Own.P.iload K0.here K0.exec (hb hby d_method_2_code_11) rfl).trans ?_
            refine (Own.P.sipush K0.here K0.exec (255 : Int32) (hb hby d_method_2_code_13) rfl).trans ?_
            refine (Own.P.iand K0.here K0.exec (hb hby d_method_2_code_16) ).trans ?_
            refine (Own.P.i2c K0.here K0.exec (hb hby d_method_2_code_17) ).trans ?_
            exact Go.refl _
          exact ⟨s.vm, T0, h0, (some (.int ((nz &&& (255 : Int32)).toUInt32.toUInt16.toUInt32.toInt32))), _, _, K0, by decide, by decide, ⟨_, rfl, (own_c255 _), hV0, Or.inl ⟨qf, qp⟩⟩, K0.retW S20 hret (own_cnn (own_c255 _)) (Or.inl ⟨rfl, by decide, _, rfl⟩) (hb hby d_method_2_code_18)⟩
      case neg =>
          have S21 : Go p e below A0 (T0.setTop (mkF m 20 #[.val (.int i), .val (.int kd), .val (.long q1), .second, .val (.long q2), .second, .val (.int fl), .val (.int pos), .val (.int nz), .unset, .unset] [(.int kd)])) := by
            refine S19.trans ?_
            refine (Own.P.icmpYes K0.here K0.exec 19 (hb hby d_method_2_code_8) (XT.ii_ne_t qp) (by decide) (by decide)).trans ?_
            refine (Own.P.iloadN K0.here K0.exec (hb hby d_method_2_code_19) rfl).trans ?_
            exact Go.refl _
          by_cases k0 : kd = 0
          case pos =>
              have S22 : Go p e below A0 (T0.setTop (mkF m 23 #[.val (.int i), .val (.int kd), .val (.long q1), .second, .val (.long q2), .second, .val (.int fl), .val (.int pos), .val (.int nz), .unset, .unset] [])) := by
                refine S21.trans ?_
                refine (Own.P.ifNo K0.here K0.exec (hb hby d_method_2_code_20) (XT.i0_ne_f k0)).trans ?_
                exact Go.refl _
              obtain ⟨la, b_la, k_la, vm23, T23, h23, K23, E23, X_la, C_la, F_la, V_la, H_la, L_la, G23⟩ := K0.ldcH (hw _ (List.mem_of_getElem? (i := 6) rfl)) (Own.atoms_in hw) (own_ew hw) (by simp [consts_1]) hV0.2 (vs := (own_L7.map fun c => Value.int (lo8 c))) (z := Int32.ofNat own_L7.length) ⟨by decide +kernel, by decide +kernel⟩ (by decide) (by decide +kernel) (pc := 23) (Ls := #[.val (.int i), .val (.int kd), .val (.long q1), .second, .val (.long q2), .second, .val (.int fl), .val (.int pos), .val (.int nz), .unset, .unset]) (rest := []) (hb hby d_method_2_code_23) (n := 48) (by decide +kernel) (by decide) (by decide) (by decide)
              have S23 : Go p e below A0 (T23.setTop (mkF m 25 #[.val (.int i), .val (.int kd), .val (.long q1), .second, .val (.long q2), .second, .val (.int fl), .val (.int pos), .val (.int nz), .unset, .unset] [(.ref la)])) := S22.trans G23
              have SIa : StrIs Z h23 la own_L7 := ⟨own_r7, X_la, C_la, b_la, k_la, F_la, V_la⟩
              have S24 : Go p e below A0 (T23.setTop (mkF m 26 #[.val (.int i), .val (.int kd), .val (.long q1), .second, .val (.long q2), .second, .val (.int fl), .val (.int pos), .val (.int nz), .unset, .unset] [(.int i), (.ref la)])) := by
                refine S23.trans ?_
                refine (Own.P.iloadN K23.here K23.exec (hb hby d_method_2_code_25) rfl).trans ?_
                exact Go.refl _
              obtain ⟨v25, vm25, vq25, T25, h25, K25, KK25, ev25, Q25, G25⟩ := K23.callV (C := "java/lang/String") (y := (⟨"java/lang/String", "charAt", "(I)C"⟩ : MethodName)) (z := (⟨"java/lang/String", "charAt", "(I)C"⟩ : MethodName)) (hw _ (List.mem_of_getElem? (i := 14) rfl)) (hw _ (List.mem_of_getElem? (i := 15) rfl)) (hw _ (List.mem_of_getElem? (i := 17) rfl)) (Or.inr (Or.inr rfl)) (hw _ (List.mem_of_getElem? (i := 16) rfl)) (by decide) (W := 0) SIa.2.1 (argsL := [(.int i)]) (rest := []) (Own.payCh (W := 0) hw (VCl.and (Own.HV.cl (own_ew hw)) (Own.LitV.cl (own := "com/example/samband/samband/identity/KeyPurposeOfPinLaw") (index := 7) (a := la))) (hw _ (List.mem_of_getElem? (i := 8) rfl)) K23.old SIa (by decide) (i := ix) hi hix SC hzc SF rf (by decide) (by decide)) ⟨⟨K23.warm, H_la⟩, L_la⟩ (pc := 26) (Ls := #[.val (.int i), .val (.int kd), .val (.long q1), .second, .val (.long q2), .second, .val (.int fl), .val (.int pos), .val (.int nz), .unset, .unset]) (st := [(.int i), (.ref la)]) (by rw [hml]; rfl) (lenOf pd_0 rfl) rfl (Nat.le_of_eq rfl) (hb hby d_method_2_code_26) (by decide) (by decide) all0
              obtain ⟨rfl, hW25⟩ := ev25 rfl
              obtain ⟨⟨rfl, e25⟩, hv25⟩ := Q25
              have S25 : Go p e below A0 (T25.setTop (mkF m 29 #[.val (.int i), .val (.int kd), .val (.long q1), .second, .val (.long q2), .second, .val (.int fl), .val (.int pos), .val (.int nz), .unset, .unset] [(.int (own_L7.getD ix 0))])) := S24.trans G25
              subst e25
              exact ⟨vq25, T25, h25, (some (.int (own_L7.getD ix 0))), _, _, K25, by decide, by decide, ⟨_, rfl, (SIa.rng hi), hv25.1, Or.inr ⟨fun _ => ⟨la, hv25.2, SIa⟩, fun k => absurd (k0.symm.trans k) (by decide)⟩⟩, K25.retW S25 hret (own_cnn (SIa.rng hi)) (Or.inl ⟨rfl, by decide, _, rfl⟩) (hb hby d_method_2_code_29)⟩
          case neg =>
              have S26 : Go p e below A0 (T0.setTop (mkF m 32 #[.val (.int i), .val (.int kd), .val (.long q1), .second, .val (.long q2), .second, .val (.int fl), .val (.int pos), .val (.int nz), .unset, .unset] [(.int (1 : Int32)), (.int kd)])) := by
                refine S21.trans ?_
                refine (Own.P.ifYes K0.here K0.exec 30 (hb hby d_method_2_code_20) (XT.i0_ne_t k0) (by decide) (by decide)).trans ?_
                refine (Own.P.iloadN K0.here K0.exec (hb hby d_method_2_code_30) rfl).trans ?_
                refine (Own.P.iconst K0.here K0.exec (1 : Int32) (hb hby d_method_2_code_31) rfl).trans ?_
                exact Go.refl _
              by_cases k1 : kd = 1
              case pos =>
                  have S27 : Go p e below A0 (T0.setTop (mkF m 35 #[.val (.int i), .val (.int kd), .val (.long q1), .second, .val (.long q2), .second, .val (.int fl), .val (.int pos), .val (.int nz), .unset, .unset] [])) := by
                    refine S26.trans ?_
                    refine (Own.P.icmpNo K0.here K0.exec (hb hby d_method_2_code_32) (XT.ii_ne_f k1)).trans ?_
                    exact Go.refl _
                  obtain ⟨la, b_la, k_la, vm28, T28, h28, K28, E28, X_la, C_la, F_la, V_la, H_la, L_la, G28⟩ := K0.ldcH (hw _ (List.mem_of_getElem? (i := 119) rfl)) (Own.atoms_in hw) (own_ew hw) (by simp [consts_1]) hV0.2 (vs := (own_L15.map fun c => Value.int (lo8 c))) (z := Int32.ofNat own_L15.length) ⟨by decide +kernel, by decide +kernel⟩ (by decide) (by decide +kernel) (pc := 35) (Ls := #[.val (.int i), .val (.int kd), .val (.long q1), .second, .val (.long q2), .second, .val (.int fl), .val (.int pos), .val (.int nz), .unset, .unset]) (rest := []) (hb hby d_method_2_code_35) (n := 48) (by decide +kernel) (by decide) (by decide) (by decide)
                  have S28 : Go p e below A0 (T28.setTop (mkF m 37 #[.val (.int i), .val (.int kd), .val (.long q1), .second, .val (.long q2), .second, .val (.int fl), .val (.int pos), .val (.int nz), .unset, .unset] [(.ref la)])) := S27.trans G28
                  have SIa : StrIs Z h28 la own_L15 := ⟨own_r15, X_la, C_la, b_la, k_la, F_la, V_la⟩
                  have S29 : Go p e below A0 (T28.setTop (mkF m 38 #[.val (.int i), .val (.int kd), .val (.long q1), .second, .val (.long q2), .second, .val (.int fl), .val (.int pos), .val (.int nz), .unset, .unset] [(.int i), (.ref la)])) := by
                    refine S28.trans ?_
                    refine (Own.P.iloadN K28.here K28.exec (hb hby d_method_2_code_37) rfl).trans ?_
                    exact Go.refl _
                  obtain ⟨v30, vm30, vq30, T30, h30, K30, KK30, ev30, Q30, G30⟩ := K28.callV (C := "java/lang/String") (y := (⟨"java/lang/String", "charAt", "(I)C"⟩ : MethodName)) (z := (⟨"java/lang/String", "charAt", "(I)C"⟩ : MethodName)) (hw _ (List.mem_of_getElem? (i := 14) rfl)) (hw _ (List.mem_of_getElem? (i := 15) rfl)) (hw _ (List.mem_of_getElem? (i := 17) rfl)) (Or.inr (Or.inr rfl)) (hw _ (List.mem_of_getElem? (i := 16) rfl)) (by decide) (W := 0) SIa.2.1 (argsL := [(.int i)]) (rest := []) (Own.payCh (W := 0) hw (VCl.and (Own.HV.cl (own_ew hw)) (Own.LitV.cl (own := "com/example/samband/samband/identity/KeyPurposeOfPinLaw") (index := 15) (a := la))) (hw _ (List.mem_of_getElem? (i := 8) rfl)) K28.old SIa (by decide) (i := ix) hi hix SC hzc SF rf (by decide) (by decide)) ⟨⟨K28.warm, H_la⟩, L_la⟩ (pc := 38) (Ls := #[.val (.int i), .val (.int kd), .val (.long q1), .second, .val (.long q2), .second, .val (.int fl), .val (.int pos), .val (.int nz), .unset, .unset]) (st := [(.int i), (.ref la)]) (by rw [hml]; rfl) (lenOf pd_0 rfl) rfl (Nat.le_of_eq rfl) (hb hby d_method_2_code_38) (by decide) (by decide) all0
                  obtain ⟨rfl, hW30⟩ := ev30 rfl
                  obtain ⟨⟨rfl, e30⟩, hv30⟩ := Q30
                  have S30 : Go p e below A0 (T30.setTop (mkF m 41 #[.val (.int i), .val (.int kd), .val (.long q1), .second, .val (.long q2), .second, .val (.int fl), .val (.int pos), .val (.int nz), .unset, .unset] [(.int (own_L15.getD ix 0))])) := S29.trans G30
                  subst e30
                  exact ⟨vq30, T30, h30, (some (.int (own_L15.getD ix 0))), _, _, K30, by decide, by decide, ⟨_, rfl, (SIa.rng hi), hv30.1, Or.inr ⟨fun k => absurd k k0, fun _ => ⟨la, hv30.2, SIa⟩⟩⟩, K30.retW S30 hret (own_cnn (SIa.rng hi)) (Or.inl ⟨rfl, by decide, _, rfl⟩) (hb hby d_method_2_code_41)⟩
              case neg =>
                  have S31 : Go p e below A0 (T0.setTop (mkF m 45 #[.val (.int i), .val (.int kd), .val (.long q1), .second, .val (.long q2), .second, .val (.int fl), .val (.int pos), .val (.int nz), .unset, .unset] [(.int (8 : Int32)), (.int i)])) := by
                    refine S26.trans ?_
                    refine (Own.P.icmpYes K0.here K0.exec 42 (hb hby d_method_2_code_32) (XT.ii_ne_t k1) (by decide) (by decide)).trans ?_
                    refine (Own.P.iloadN K0.here K0.exec (hb hby d_method_2_code_42) rfl).trans ?_
                    refine (Own.P.bipush K0.here K0.exec (8 : Int32) (hb hby d_method_2_code_43) rfl).trans ?_
                    exact Go.refl _
                  by_cases k8 : i < 8
                  case pos =>
                      have S32 : Go p e below A0 (T0.setTop (mkF m 71 #[.val (.int i), .val (.int kd), .val (.long q1), .second, .val (.long q2), .second, .val (.int fl), .val (.int pos), .val (.int nz), .val (.long (XT.ushrL q1 ((8 : Int32) * i))), .second] [(.long (XT.ushrL q1 ((8 : Int32) * i)))])) := by
                        refine S31.trans ?_
                        refine (Own.P.icmpNo K0.here K0.exec (hb hby d_method_2_code_45) (XT.ii_ge_f k8)).trans ?_
                        refine (Own.P.lloadN K0.here K0.exec (hb hby d_method_2_code_48) rfl).trans ?_
                        refine (Own.P.bipush K0.here K0.exec (8 : Int32) (hb hby d_method_2_code_49) rfl).trans ?_
                        refine (Own.P.iloadN K0.here K0.exec (hb hby d_method_2_code_51) rfl).trans ?_
                        refine (Own.P.imul K0.here K0.exec (hb hby d_method_2_code_52) ).trans ?_
                        refine (Own.P.lushr K0.here K0.exec (hb hby d_method_2_code_53) ).trans ?_
                        refine (Own.P.goto K0.here K0.exec 67 (hb hby d_method_2_code_54) (by decide) (by decide)).trans ?_
                        refine (Own.P.lstore K0.here K0.exec (l' := #[.val (.int i), .val (.int kd), .val (.long q1), .second, .val (.long q2), .second, .val (.int fl), .val (.int pos), .val (.int nz), .val (.long (XT.ushrL q1 ((8 : Int32) * i))), .second]) (hb hby d_method_2_code_67) rfl).trans ?_
                        refine (Own.P.lload K0.here K0.exec (hb hby d_method_2_code_69) rfl).trans ?_
                        exact Go.refl _
                      have G33 := K0.ldc2 (hw _ (List.mem_of_getElem? (i := 118) rfl)) (pc := 71) (Ls := #[.val (.int i), .val (.int kd), .val (.long q1), .second, .val (.long q2), .second, .val (.int fl), .val (.int pos), .val (.int nz), .val (.long (XT.ushrL q1 ((8 : Int32) * i))), .second]) (rest := [(.long (XT.ushrL q1 ((8 : Int32) * i)))]) (hb hby d_method_2_code_71)
                      have S33 : Go p e below A0 (T0.setTop (mkF m 74 #[.val (.int i), .val (.int kd), .val (.long q1), .second, .val (.long q2), .second, .val (.int fl), .val (.int pos), .val (.int nz), .val (.long (XT.ushrL q1 ((8 : Int32) * i))), .second] [(.long (255 : Int64)), (.long (XT.ushrL q1 ((8 : Int32) * i)))])) := S32.trans G33
                      have S34 : Go p e below A0 (T0.setTop (mkF m 77 #[.val (.int i), .val (.int kd), .val (.long q1), .second, .val (.long q2), .second, .val (.int fl), .val (.int pos), .val (.int nz), .val (.long (XT.ushrL q1 ((8 : Int32) * i))), .second] [(.int ((((XT.ushrL q1 ((8 : Int32) * i)) &&& (255 : Int64)).toInt32).toUInt32.toUInt16.toUInt32.toInt32))])) := by
                        refine S33.trans ?_
                        refine (Own.P.land K0.here K0.exec (hb hby d_method_2_code_74) ).trans ?_
                        refine (Own.P.l2i K0.here K0.exec (hb hby d_method_2_code_75) ).trans ?_
                        refine (Own.P.i2c K0.here K0.exec (hb hby d_method_2_code_76) ).trans ?_
                        exact Go.refl _
                      exact ⟨s.vm, T0, h0, (some (.int ((((XT.ushrL q1 ((8 : Int32) * i)) &&& (255 : Int64)).toInt32).toUInt32.toUInt16.toUInt32.toInt32))), _, _, K0, by decide, by decide, ⟨_, rfl, (own_cL _), hV0, Or.inr ⟨fun k => absurd k k0, fun k => absurd k k1⟩⟩, K0.retW S34 hret (own_cnn (own_cL _)) (Or.inl ⟨rfl, by decide, _, rfl⟩) (hb hby d_method_2_code_77)⟩
                  case neg =>
                      have S35 : Go p e below A0 (T0.setTop (mkF m 71 #[.val (.int i), .val (.int kd), .val (.long q1), .second, .val (.long q2), .second, .val (.int fl), .val (.int pos), .val (.int nz), .val (.long (XT.ushrL q2 ((8 : Int32) * (i - (8 : Int32))))), .second] [(.long (XT.ushrL q2 ((8 : Int32) * (i - (8 : Int32)))))])) := by
                        refine S31.trans ?_
                        refine (Own.P.icmpYes K0.here K0.exec 57 (hb hby d_method_2_code_45) (XT.ii_ge_t k8) (by decide) (by decide)).trans ?_
                        refine (Own.P.lload K0.here K0.exec (hb hby d_method_2_code_57) rfl).trans ?_
                        refine (Own.P.bipush K0.here K0.exec (8 : Int32) (hb hby d_method_2_code_59) rfl).trans ?_
                        refine (Own.P.iloadN K0.here K0.exec (hb hby d_method_2_code_61) rfl).trans ?_
                        refine (Own.P.bipush K0.here K0.exec (8 : Int32) (hb hby d_method_2_code_62) rfl).trans ?_
                        refine (Own.P.isub K0.here K0.exec (hb hby d_method_2_code_64) ).trans ?_
                        refine (Own.P.imul K0.here K0.exec (hb hby d_method_2_code_65) ).trans ?_
                        refine (Own.P.lushr K0.here K0.exec (hb hby d_method_2_code_66) ).trans ?_
                        refine (Own.P.lstore K0.here K0.exec (l' := #[.val (.int i), .val (.int kd), .val (.long q1), .second, .val (.long q2), .second, .val (.int fl), .val (.int pos), .val (.int nz), .val (.long (XT.ushrL q2 ((8 : Int32) * (i - (8 : Int32))))), .second]) (hb hby d_method_2_code_67) rfl).trans ?_
                        refine (Own.P.lload K0.here K0.exec (hb hby d_method_2_code_69) rfl).trans ?_
                        exact Go.refl _
                      have G36 := K0.ldc2 (hw _ (List.mem_of_getElem? (i := 118) rfl)) (pc := 71) (Ls := #[.val (.int i), .val (.int kd), .val (.long q1), .second, .val (.long q2), .second, .val (.int fl), .val (.int pos), .val (.int nz), .val (.long (XT.ushrL q2 ((8 : Int32) * (i - (8 : Int32))))), .second]) (rest := [(.long (XT.ushrL q2 ((8 : Int32) * (i - (8 : Int32)))))]) (hb hby d_method_2_code_71)
                      have S36 : Go p e below A0 (T0.setTop (mkF m 74 #[.val (.int i), .val (.int kd), .val (.long q1), .second, .val (.long q2), .second, .val (.int fl), .val (.int pos), .val (.int nz), .val (.long (XT.ushrL q2 ((8 : Int32) * (i - (8 : Int32))))), .second] [(.long (255 : Int64)), (.long (XT.ushrL q2 ((8 : Int32) * (i - (8 : Int32)))))])) := S35.trans G36
                      have S37 : Go p e below A0 (T0.setTop (mkF m 77 #[.val (.int i), .val (.int kd), .val (.long q1), .second, .val (.long q2), .second, .val (.int fl), .val (.int pos), .val (.int nz), .val (.long (XT.ushrL q2 ((8 : Int32) * (i - (8 : Int32))))), .second] [(.int ((((XT.ushrL q2 ((8 : Int32) * (i - (8 : Int32)))) &&& (255 : Int64)).toInt32).toUInt32.toUInt16.toUInt32.toInt32))])) := by
                        refine S36.trans ?_
                        refine (Own.P.land K0.here K0.exec (hb hby d_method_2_code_74) ).trans ?_
                        refine (Own.P.l2i K0.here K0.exec (hb hby d_method_2_code_75) ).trans ?_
                        refine (Own.P.i2c K0.here K0.exec (hb hby d_method_2_code_76) ).trans ?_
                        exact Go.refl _
                      exact ⟨s.vm, T0, h0, (some (.int ((((XT.ushrL q2 ((8 : Int32) * (i - (8 : Int32)))) &&& (255 : Int64)).toInt32).toUInt32.toUInt16.toUInt32.toInt32))), _, _, K0, by decide, by decide, ⟨_, rfl, (own_cL _), hV0, Or.inr ⟨fun k => absurd k k0, fun k => absurd k k1⟩⟩, K0.retW S37 hret (own_cnn (own_cL _)) (Or.inl ⟨rfl, by decide, _, rfl⟩) (hb hby d_method_2_code_77)⟩
theorem d_jdk_42_method_66_code_0 : decode jdk_42_method_66_code 0 = .ok (.aload_n 0, 1) := by decide +kernel
theorem d_jdk_42_method_66_code_1 : decode jdk_42_method_66_code 1 = .ok (.aload_n 1, 1) := by decide +kernel
theorem d_jdk_42_method_66_code_2 : decode jdk_42_method_66_code 2 = .ok (.if_acmp .ne 5, 3) := by decide +kernel
theorem d_jdk_42_method_66_code_7 : decode jdk_42_method_66_code 7 = .ok (.aload_n 1, 1) := by decide +kernel
theorem d_jdk_42_method_66_code_8 : decode jdk_42_method_66_code 8 = .ok (.instanceof 10, 3) := by decide +kernel
theorem d_jdk_42_method_66_code_11 : decode jdk_42_method_66_code 11 = .ok (.ifCond .eq 43, 3) := by decide +kernel
theorem d_jdk_42_method_66_code_54 : decode jdk_42_method_66_code 54 = .ok (.iconst 0, 1) := by decide +kernel
theorem d_jdk_42_method_66_code_55 : decode jdk_42_method_66_code 55 = .ok (.ireturn, 1) := by decide +kernel
theorem pn_1 : plainName "java/lang/String" = true := by first | (simp [plainName, overriddenIn]; done) | decide +kernel
set_option maxRecDepth 65536 in
set_option maxHeartbeats 40000000 in
theorem c_eqN (l : Launch) (Z : State) (a0 : Array Value) (hw : ∀ d ∈ tables_1, d.before a0 Z = true) (n0 : Nat) (h0 : Heap) (O0 : Old Z n0 h0) (a1 : Addr) :
    Own.Ctr false l (⟨"java/lang/String", "equals", "(Ljava/lang/Object;)Z"⟩ : MethodName) jdk_42_method_66_code 3 (some .boolean) ({ frames := 0, cells := 0, slots := 0, locals := 0 } : Room) #[(.ref a1), Value.null] Z h0 Own.VT [] (fun v h vm => v = some (.int 0) ∧ h = h0) := by
  refine Own.body (plainFor_of_name pn_1) O0 (fun _ _ _ _ q => by cases q) (fun _ _ _ _ q _ => q) ?_
  intro p e s m below meth c T0 hby hml0 hret hnm hV0 K0
  change Own.Wk false p l e ({ frames := 0, cells := 0, slots := 0, locals := 0 } : Room) s m #[(.ref a1), Value.null] below meth c "java/lang/String" Z n0 h0 [] s.vm T0 h0 0 0 at K0
  have hml : c.maxLocals = 3 := hml0
  have S0 : Go p e below (T0.setTop (entryFrame m #[(.ref a1), Value.null] 3)) (T0.setTop (mkF m 0 #[.val (.ref a1), .val Value.null, .unset] [])) := fun t k => castTop (by first | rfl | (simp [entryFrame, mkF, argsToLocals, Value.category]; done)) k
  generalize T0.setTop (entryFrame m #[(.ref a1), Value.null] 3) = A0 at S0 ⊢
  have S1 : Go p e below A0 (T0.setTop (mkF m 8 #[.val (.ref a1), .val Value.null, .unset] [Value.null])) := by
    refine S0.trans ?_
    refine (Own.P.aloadN K0.here K0.exec (hb hby d_jdk_42_method_66_code_0) rfl rfl).trans ?_
    refine (Own.P.aloadN K0.here K0.exec (hb hby d_jdk_42_method_66_code_1) rfl rfl).trans ?_
    refine (Own.P.acmpYes K0.here K0.exec 7 (hb hby d_jdk_42_method_66_code_2) rfl rfl (by simp [XT.acmp]) (by decide) (by decide)).trans ?_
    refine (Own.P.aloadN K0.here K0.exec (hb hby d_jdk_42_method_66_code_7) rfl rfl).trans ?_
    exact Go.refl _
  have G2 := K0.instNull (pc := 8) (Ls := #[.val (.ref a1), .val Value.null, .unset]) (rest := []) (hb hby d_jdk_42_method_66_code_8)
  have S2 : Go p e below A0 (T0.setTop (mkF m 11 #[.val (.ref a1), .val Value.null, .unset] [(.int (0 : Int32))])) := S1.trans G2
  have S3 : Go p e below A0 (T0.setTop (mkF m 55 #[.val (.ref a1), .val Value.null, .unset] [(.int (0 : Int32))])) := by
    refine S2.trans ?_
    refine (Own.P.ifYes K0.here K0.exec 54 (hb hby d_jdk_42_method_66_code_11) (by decide) (by decide) (by decide)).trans ?_
    refine (Own.P.iconst K0.here K0.exec (0 : Int32) (hb hby d_jdk_42_method_66_code_54) rfl).trans ?_
    exact Go.refl _
  exact ⟨s.vm, T0, h0, (some (.int (0 : Int32))), _, _, K0, by decide, by decide, ⟨rfl, rfl⟩, K0.retW S3 hret rfl (Or.inl ⟨rfl, by decide, _, rfl⟩) (hb hby d_jdk_42_method_66_code_55)⟩
def OpAt (Z : State) (h : Heap) (a : Addr) (vl : Value) : Prop := Exa Z h a "java/util/Optional" ∧ Fld Z h a "java/util/Optional" "value" "Ljava/lang/Object;" (vl)
theorem OpAt.keep {Z : State} {h h' : Heap} {a : Addr} {ws : List Addr} {vl : Value} (F : OpAt Z h a vl) (K : Keep h h' ws) (q : a ∉ ws) : OpAt Z h' a vl := ⟨F.1.keep K, (F.2).keep K q⟩
theorem OpAt.ext {Z : State} {h h' : Heap} {a : Addr} {vl : Value} (F : OpAt Z h a vl) (E : Ext h h') : OpAt Z h' a vl := ⟨F.1.ext E, (F.2).ext E⟩
theorem OpAt.wrO {Z : State} {h h' : Heap} {a b : Addr} {sl : Nat} {w : Value} {vl : Value} (F : OpAt Z h a vl) (W : Wr h h' b sl w) (q : a ≠ b) : OpAt Z h' a vl := ⟨F.1.wr W, (F.2).other W (Or.inl q)⟩
theorem OpAt.set_vl {Z : State} {a0 : Array Value} (hw : ∀ d ∈ tables_1, d.before a0 Z = true) {h h' : Heap} {a : Addr} {vl : Value} {x' : Value} (F : OpAt Z h a vl) (W : Wr h h' a (RoadKit.slotOf Z "java/util/Optional" "value" "Ljava/lang/Object;") (x')) : OpAt Z h' a x' := ⟨F.1.wr W, (F.2).same W⟩
theorem OpAt.new {Z : State} {a0 : Array Value} (hw : ∀ d ∈ tables_1, d.before a0 Z = true) {h : Heap} {a : Addr} (X : Exa Z h a "java/util/Optional") (D : ∀ {O nm d : String} {ty : FieldType}, Laid Z a0 "java/util/Optional" O nm d → parseFieldDescriptor d = some ty → Fld Z h a O nm d (defaultValue ty)) : Exa Z h a "java/util/Optional" ∧ Fld Z h a "java/util/Optional" "value" "Ljava/lang/Object;" (.null) := ⟨X, D (Or.inr (hw _ (List.mem_of_getElem? (i := 110) rfl))) (ty := (.object "java/lang/Object")) (by decide)⟩
theorem d_jdk_31_method_10_code_0 : decode jdk_31_method_10_code 0 = .ok (.aload_n 0, 1) := by decide +kernel
theorem d_jdk_31_method_10_code_1 : decode jdk_31_method_10_code 1 = .ok (.ifnonnull 11, 3) := by decide +kernel
theorem d_jdk_31_method_10_code_12 : decode jdk_31_method_10_code 12 = .ok (.aload_n 0, 1) := by decide +kernel
theorem d_jdk_31_method_10_code_13 : decode jdk_31_method_10_code 13 = .ok (.areturn, 1) := by decide +kernel
set_option maxRecDepth 65536 in
set_option maxHeartbeats 40000000 in
theorem c_rnn (l : Launch) (Z : State) (a0 : Array Value) (hw : ∀ d ∈ tables_1, d.before a0 Z = true) (n0 : Nat) (h0 : Heap) (O0 : Old Z n0 h0) (k1 : Addr) :
    Own.Ctr false l (⟨"java/util/Objects", "requireNonNull", "(Ljava/lang/Object;)Ljava/lang/Object;"⟩ : MethodName) jdk_31_method_10_code 1 (some (.object "java/lang/Object")) ({ frames := 0, cells := 0, slots := 0, locals := 0 } : Room) #[(.ref k1)] Z h0 Own.VT [] (fun v h vm => v = some (.ref k1) ∧ h = h0) := by
  refine Own.body ((by decide +kernel)) O0 (fun _ _ _ _ q => by cases q) (fun _ _ _ _ q _ => q) ?_
  intro p e s m below meth c T0 hby hml0 hret hnm hV0 K0
  change Own.Wk false p l e ({ frames := 0, cells := 0, slots := 0, locals := 0 } : Room) s m #[(.ref k1)] below meth c "java/util/Objects" Z n0 h0 [] s.vm T0 h0 0 0 at K0
  have hml : c.maxLocals = 1 := hml0
  have S0 : Go p e below (T0.setTop (entryFrame m #[(.ref k1)] 1)) (T0.setTop (mkF m 0 #[.val (.ref k1)] [])) := fun t k => castTop (by first | rfl | (simp [entryFrame, mkF, argsToLocals, Value.category]; done)) k
  generalize T0.setTop (entryFrame m #[(.ref k1)] 1) = A0 at S0 ⊢
  have S1 : Go p e below A0 (T0.setTop (mkF m 13 #[.val (.ref k1)] [(.ref k1)])) := by
    refine S0.trans ?_
    refine (Own.P.aloadN K0.here K0.exec (hb hby d_jdk_31_method_10_code_0) rfl rfl).trans ?_
    refine (Own.P.ifnonnullYes K0.here K0.exec 12 (hb hby d_jdk_31_method_10_code_1)  (by decide) (by decide)).trans ?_
    refine (Own.P.aloadN K0.here K0.exec (hb hby d_jdk_31_method_10_code_12) rfl rfl).trans ?_
    exact Go.refl _
  exact ⟨s.vm, T0, h0, (some (.ref k1)), _, _, K0, by decide, by decide, ⟨rfl, rfl⟩, K0.retW S1 hret rfl (Or.inr (Or.inr (Or.inr (Or.inr ⟨rfl, rfl, rfl⟩)))) (hb hby d_jdk_31_method_10_code_13)⟩
theorem d_jdk_32_method_2_code_0 : decode jdk_32_method_2_code 0 = .ok (.aload_n 0, 1) := by decide +kernel
theorem d_jdk_32_method_2_code_1 : decode jdk_32_method_2_code 1 = .ok (.invokespecial 7, 3) := by decide +kernel
theorem d_jdk_32_method_2_code_4 : decode jdk_32_method_2_code 4 = .ok (.aload_n 0, 1) := by decide +kernel
theorem d_jdk_32_method_2_code_5 : decode jdk_32_method_2_code 5 = .ok (.aload_n 1, 1) := by decide +kernel
theorem d_jdk_32_method_2_code_6 : decode jdk_32_method_2_code 6 = .ok (.putfield 13, 3) := by decide +kernel
theorem d_jdk_32_method_2_code_9 : decode jdk_32_method_2_code 9 = .ok (.return_, 1) := by decide +kernel
set_option maxRecDepth 65536 in
set_option maxHeartbeats 40000000 in
theorem c_oinit (l : Launch) (Z : State) (a0 : Array Value) (hw : ∀ d ∈ tables_1, d.before a0 Z = true) (n0 : Nat) (h0 : Heap) (O0 : Old Z n0 h0) (a1 k1 : Addr) (B : OpAt Z h0 a1 .null) (g1 : n0 ≤ a1) :
    Own.Ctr false l (⟨"java/util/Optional", "<init>", "(Ljava/lang/Object;)V"⟩ : MethodName) jdk_32_method_2_code 2 none ({ frames := 1, cells := 0, slots := 0, locals := 12 } : Room) #[(.ref a1), (.ref k1)] Z h0 Own.VT [a1] (fun v h vm => v = none ∧ OpAt Z h a1 (.ref k1)) := by
  refine Own.body ((by decide +kernel)) O0 (fun v h vm q _ => q.1) (fun _ _ _ _ q _ => q) ?_
  intro p e s m below meth c T0 hby hml0 hret hnm hV0 K0
  change Own.Wk false p l e ({ frames := 1, cells := 0, slots := 0, locals := 12 } : Room) s m #[(.ref a1), (.ref k1)] below meth c "java/util/Optional" Z n0 h0 [] s.vm T0 h0 0 0 at K0
  replace K0 := K0.weaken [a1] (allS g1 all0)
  have hml : c.maxLocals = 2 := hml0
  have S0 : Go p e below (T0.setTop (entryFrame m #[(.ref a1), (.ref k1)] 2)) (T0.setTop (mkF m 0 #[.val (.ref a1), .val (.ref k1)] [])) := fun t k => castTop (by first | rfl | (simp [entryFrame, mkF, argsToLocals, Value.category]; done)) k
  generalize T0.setTop (entryFrame m #[(.ref a1), (.ref k1)] 2) = A0 at S0 ⊢
  have S1 : Go p e below A0 (T0.setTop (mkF m 1 #[.val (.ref a1), .val (.ref k1)] [(.ref a1)])) := by
    refine S0.trans ?_
    refine (Own.P.aloadN K0.here K0.exec (hb hby d_jdk_32_method_2_code_0) rfl rfl).trans ?_
    exact Go.refl _
  obtain ⟨T2, K2, G2⟩ := K0.initO (hw _ (List.mem_of_getElem? (i := 108) rfl)) (hw _ (List.mem_of_getElem? (i := 48) rfl)) (hw _ (List.mem_of_getElem? (i := 49) rfl)) (pc := 1) (Ls := #[.val (.ref a1), .val (.ref k1)]) (rest := []) (by rw [hml]; rfl) (hb hby d_jdk_32_method_2_code_1) (by decide) (W := 0) (Nat.le_of_eq rfl) (by decide)
  have S2 : Go p e below A0 (T2.setTop (mkF m 4 #[.val (.ref a1), .val (.ref k1)] [])) := S1.trans G2
  have S3 : Go p e below A0 (T2.setTop (mkF m 6 #[.val (.ref a1), .val (.ref k1)] [(.ref k1), (.ref a1)])) := by
    refine S2.trans ?_
    refine (Own.P.aloadN K2.here K2.exec (hb hby d_jdk_32_method_2_code_4) rfl rfl).trans ?_
    refine (Own.P.aloadN K2.here K2.exec (hb hby d_jdk_32_method_2_code_5) rfl rfl).trans ?_
    exact Go.refl _
  obtain ⟨T4, h4, K4, W4, G4⟩ := K2.putF "" (Or.inl (hw _ (List.mem_of_getElem? (i := 109) rfl))) Via.refl B.2 B.1 (Or.inr ⟨(hw _ (List.mem_of_getElem? (i := 110) rfl)), rfl, hnm⟩) (hw _ (List.mem_of_getElem? (i := 99) rfl)) (ty := (.object "java/lang/Object")) (by decide) (v := (.ref k1)) rfl rfl (Or.inl (List.mem_of_getElem? (i := 0) rfl)) (pc := 6) (Ls := #[.val (.ref a1), .val (.ref k1)]) (rest := []) (hb hby d_jdk_32_method_2_code_6)
  have S4 : Go p e below A0 (T4.setTop (mkF m 9 #[.val (.ref a1), .val (.ref k1)] [])) := S3.trans G4
  exact ⟨s.vm, T4, h4, none, _, _, K4, by decide, by decide, ⟨rfl, B.set_vl hw W4⟩, K4.retV S4 hret (hb hby d_jdk_32_method_2_code_9)⟩
theorem d_jdk_32_method_3_code_0 : decode jdk_32_method_3_code 0 = .ok (.new 2, 3) := by decide +kernel
theorem d_jdk_32_method_3_code_3 : decode jdk_32_method_3_code 3 = .ok (.dup, 1) := by decide +kernel
theorem d_jdk_32_method_3_code_4 : decode jdk_32_method_3_code 4 = .ok (.aload_n 0, 1) := by decide +kernel
theorem pd_1 : parseMethodDescriptor "(Ljava/lang/Object;)Ljava/lang/Object;" = some ⟨[(.object "java/lang/Object")], some (.object "java/lang/Object")⟩ := by decide +kernel
theorem d_jdk_32_method_3_code_5 : decode jdk_32_method_3_code 5 = .ok (.invokestatic 17, 3) := by decide +kernel
theorem pd_2 : parseMethodDescriptor "(Ljava/lang/Object;)V" = some ⟨[(.object "java/lang/Object")], none⟩ := by decide +kernel
theorem d_jdk_32_method_3_code_8 : decode jdk_32_method_3_code 8 = .ok (.invokespecial 23, 3) := by decide +kernel
theorem d_jdk_32_method_3_code_11 : decode jdk_32_method_3_code 11 = .ok (.areturn, 1) := by decide +kernel
set_option maxRecDepth 65536 in
set_option maxHeartbeats 40000000 in
theorem c_oof (l : Launch) (Z : State) (a0 : Array Value) (hw : ∀ d ∈ tables_1, d.before a0 Z = true) (n0 : Nat) (h0 : Heap) (O0 : Old Z n0 h0) (k1 : Addr) :
    Own.Ctr false l (⟨"java/util/Optional", "of", "(Ljava/lang/Object;)Ljava/util/Optional;"⟩ : MethodName) jdk_32_method_3_code 1 (some (.object "java/util/Optional")) ({ frames := 2, cells := 1, slots := 1, locals := 26 } : Room) #[(.ref k1)] Z h0 Own.VT [] (fun v h vm => ∃ o, v = some (.ref o) ∧ OpAt Z h o (.ref k1)) := by
  refine Own.body ((by decide +kernel)) O0 (fun _ _ _ _ q => by cases q) (fun _ _ _ _ q _ => q) ?_
  intro p e s m below meth c T0 hby hml0 hret hnm hV0 K0
  change Own.Wk false p l e ({ frames := 2, cells := 1, slots := 1, locals := 26 } : Room) s m #[(.ref k1)] below meth c "java/util/Optional" Z n0 h0 [] s.vm T0 h0 0 0 at K0
  have hml : c.maxLocals = 1 := hml0
  have S0 : Go p e below (T0.setTop (entryFrame m #[(.ref k1)] 1)) (T0.setTop (mkF m 0 #[.val (.ref k1)] [])) := fun t k => castTop (by first | rfl | (simp [entryFrame, mkF, argsToLocals, Value.category]; done)) k
  generalize T0.setTop (entryFrame m #[(.ref k1)] 1) = A0 at S0 ⊢
  obtain ⟨T1, h1, ob, K1, E1, g_ob, l_ob, ne_ob, X_ob, D_ob, G1⟩ := K0.newO (hw _ (List.mem_of_getElem? (i := 98) rfl)) (hw _ (List.mem_of_getElem? (i := 99) rfl)) (hw _ (List.mem_of_getElem? (i := 96) rfl)) (pc := 0) (Ls := #[.val (.ref k1)]) (rest := []) (hb hby d_jdk_32_method_3_code_0) (by decide) (by decide)
  have S1 : Go p e below A0 (T1.setTop (mkF m 3 #[.val (.ref k1)] [(.ref ob)])) := S0.trans G1
  have B0 := OpAt.new hw X_ob D_ob
  have S2 : Go p e below A0 (T1.setTop (mkF m 5 #[.val (.ref k1)] [(.ref k1), (.ref ob), (.ref ob)])) := by
    refine S1.trans ?_
    refine (Own.P.dup K1.here K1.exec (hb hby d_jdk_32_method_3_code_3) rfl).trans ?_
    refine (Own.P.aloadN K1.here K1.exec (hb hby d_jdk_32_method_3_code_4) rfl rfl).trans ?_
    exact Go.refl _
  obtain ⟨v3, vm3, vq3, T3, h3, K3, KK3, ev3, Q3, G3⟩ := K1.callS (y := (⟨"java/util/Objects", "requireNonNull", "(Ljava/lang/Object;)Ljava/lang/Object;"⟩ : MethodName)) (hw _ (List.mem_of_getElem? (i := 100) rfl)) (hw _ (List.mem_of_getElem? (i := 101) rfl)) (hw _ (List.mem_of_getElem? (i := 102) rfl)) (hw _ (List.mem_of_getElem? (i := 103) rfl)) (by decide) (W := 2) (argsL := [(.ref k1)]) (rest := [(.ref ob), (.ref ob)]) ((c_rnn l Z a0 hw n0 h1 (K1.old) k1).pay Own.VT.cl (hw _ (List.mem_of_getElem? (i := 103) rfl)) (hw _ (List.mem_of_getElem? (i := 102) rfl)) (by decide) (by decide)) trivial (pc := 5) (Ls := #[.val (.ref k1)]) (st := [(.ref k1), (.ref ob), (.ref ob)]) (by rw [hml]; rfl) (lenOf pd_1 rfl) rfl (Nat.le_of_eq rfl) (hb hby d_jdk_32_method_3_code_5) (by decide) (by decide) all0
  obtain ⟨rfl, e3⟩ := Q3
  have S3 : Go p e below A0 (T3.setTop (mkF m 8 #[.val (.ref k1)] [(.ref k1), (.ref ob), (.ref ob)])) := S2.trans G3
  subst e3
  obtain ⟨v4, vm4, vq4, T4, h4, K4, KK4, ev4, Q4, G4⟩ := K3.callI (y := (⟨"java/util/Optional", "<init>", "(Ljava/lang/Object;)V"⟩ : MethodName)) rfl (hw _ (List.mem_of_getElem? (i := 104) rfl)) (hw _ (List.mem_of_getElem? (i := 105) rfl)) (hw _ (List.mem_of_getElem? (i := 107) rfl)) (by decide) (W := 1) (a := ob) (argsL := [(.ref k1)]) (rest := [(.ref ob)]) ((c_oinit l Z a0 hw n0 h3 (K3.old) ob k1 B0 (K3.fresh (Or.inr g_ob))).pay Own.VT.cl (hw _ (List.mem_of_getElem? (i := 107) rfl)) (hw _ (List.mem_of_getElem? (i := 96) rfl)) (by decide) (by decide)) trivial (pc := 8) (Ls := #[.val (.ref k1)]) (st := [(.ref k1), (.ref ob), (.ref ob)]) (by rw [hml]; rfl) (lenOf pd_2 rfl) rfl (Nat.le_of_eq rfl) (hb hby d_jdk_32_method_3_code_8) (by decide) (by decide) (allS (Or.inr g_ob) all0)
  obtain ⟨rfl, B1⟩ := Q4
  have S4 : Go p e below A0 (T4.setTop (mkF m 11 #[.val (.ref k1)] [(.ref ob)])) := S3.trans G4
  exact ⟨vm4, T4, h4, (some (.ref ob)), _, _, K4, by decide, by decide, ⟨ob, rfl, B1⟩, K4.retW S4 hret rfl (Or.inr (Or.inr (Or.inr (Or.inr ⟨rfl, rfl, rfl⟩)))) (hb hby d_jdk_32_method_3_code_11)⟩
theorem d_jdk_32_method_1_code_0 : decode jdk_32_method_1_code 0 = .ok (.getstatic 1, 3) := by decide +kernel
theorem d_jdk_32_method_1_code_3 : decode jdk_32_method_1_code 3 = .ok (.astore_n 0, 1) := by decide +kernel
theorem d_jdk_32_method_1_code_4 : decode jdk_32_method_1_code 4 = .ok (.aload_n 0, 1) := by decide +kernel
theorem d_jdk_32_method_1_code_5 : decode jdk_32_method_1_code 5 = .ok (.areturn, 1) := by decide +kernel
set_option maxRecDepth 65536 in
set_option maxHeartbeats 40000000 in
theorem c_oempty (l : Launch) (Z : State) (a0 : Array Value) (hw : ∀ d ∈ tables_1, d.before a0 Z = true) (n0 : Nat) (h0 : Heap) (O0 : Old Z n0 h0) (em : Addr) (GE : Sta Z Z.heap "java/util/Optional" "EMPTY" "Ljava/util/Optional;" (.ref em)) (BE : OpAt Z Z.heap em .null) :
    Own.Ctr false l (⟨"java/util/Optional", "empty", "()Ljava/util/Optional;"⟩ : MethodName) jdk_32_method_1_code 1 (some (.object "java/util/Optional")) ({ frames := 0, cells := 0, slots := 0, locals := 0 } : Room) #[] Z h0 Own.VT [] (fun v h vm => v = some (.ref em) ∧ h = h0) := by
  refine Own.body ((by decide +kernel)) O0 (fun _ _ _ _ q => by cases q) (fun _ _ _ _ q _ => q) ?_
  intro p e s m below meth c T0 hby hml0 hret hnm hV0 K0
  change Own.Wk false p l e ({ frames := 0, cells := 0, slots := 0, locals := 0 } : Room) s m #[] below meth c "java/util/Optional" Z n0 h0 [] s.vm T0 h0 0 0 at K0
  have hml : c.maxLocals = 1 := hml0
  have S0 : Go p e below (T0.setTop (entryFrame m #[] 1)) (T0.setTop (mkF m 0 #[.unset] [])) := fun t k => castTop (by first | rfl | (simp [entryFrame, mkF, argsToLocals, Value.category]; done)) k
  generalize T0.setTop (entryFrame m #[] 1) = A0 at S0 ⊢
  obtain ⟨T1, K1, G1⟩ := K0.getS "" (Or.inl (hw _ (List.mem_of_getElem? (i := 123) rfl))) Via.refl (GE.ext K0.ext) (pc := 0) (Ls := #[.unset]) (rest := []) (hb hby d_jdk_32_method_1_code_0)
  have S1 : Go p e below A0 (T1.setTop (mkF m 3 #[.unset] [(.ref em)])) := S0.trans G1
  have S2 : Go p e below A0 (T1.setTop (mkF m 5 #[.val (.ref em)] [(.ref em)])) := by
    refine S1.trans ?_
    refine (Own.P.astoreN K1.here K1.exec (l' := #[.val (.ref em)]) (hb hby d_jdk_32_method_1_code_3) rfl rfl).trans ?_
    refine (Own.P.aloadN K1.here K1.exec (hb hby d_jdk_32_method_1_code_4) rfl rfl).trans ?_
    exact Go.refl _
  exact ⟨s.vm, T1, h0, (some (.ref em)), _, _, K1, by decide, by decide, ⟨rfl, rfl⟩, K1.retW S2 hret rfl (Or.inr (Or.inr (Or.inr (Or.inr ⟨rfl, rfl, rfl⟩)))) (hb hby d_jdk_32_method_1_code_5)⟩
theorem d_jdk_32_method_15_code_0 : decode jdk_32_method_15_code 0 = .ok (.aload_n 0, 1) := by decide +kernel
theorem d_jdk_32_method_15_code_1 : decode jdk_32_method_15_code 1 = .ok (.getfield 13, 3) := by decide +kernel
theorem d_jdk_32_method_15_code_4 : decode jdk_32_method_15_code 4 = .ok (.ifnull 10, 3) := by decide +kernel
theorem d_jdk_32_method_15_code_7 : decode jdk_32_method_15_code 7 = .ok (.aload_n 0, 1) := by decide +kernel
theorem d_jdk_32_method_15_code_8 : decode jdk_32_method_15_code 8 = .ok (.getfield 13, 3) := by decide +kernel
theorem d_jdk_32_method_15_code_11 : decode jdk_32_method_15_code 11 = .ok (.goto 4, 3) := by decide +kernel
theorem d_jdk_32_method_15_code_15 : decode jdk_32_method_15_code 15 = .ok (.areturn, 1) := by decide +kernel
set_option maxRecDepth 65536 in
set_option maxHeartbeats 40000000 in
theorem c_orER (l : Launch) (Z : State) (a0 : Array Value) (hw : ∀ d ∈ tables_1, d.before a0 Z = true) (n0 : Nat) (h0 : Heap) (O0 : Old Z n0 h0) (a1 k1 : Addr) (B : OpAt Z h0 a1 (.ref k1)) :
    Own.Ctr false l (⟨"java/util/Optional", "orElse", "(Ljava/lang/Object;)Ljava/lang/Object;"⟩ : MethodName) jdk_32_method_15_code 2 (some (.object "java/lang/Object")) ({ frames := 0, cells := 0, slots := 0, locals := 0 } : Room) #[(.ref a1), Value.null] Z h0 Own.VT [] (fun v h vm => v = some (.ref k1) ∧ h = h0) := by
  refine Own.body ((by decide +kernel)) O0 (fun _ _ _ _ q => by cases q) (fun _ _ _ _ q _ => q) ?_
  intro p e s m below meth c T0 hby hml0 hret hnm hV0 K0
  change Own.Wk false p l e ({ frames := 0, cells := 0, slots := 0, locals := 0 } : Room) s m #[(.ref a1), Value.null] below meth c "java/util/Optional" Z n0 h0 [] s.vm T0 h0 0 0 at K0
  have hml : c.maxLocals = 2 := hml0
  have S0 : Go p e below (T0.setTop (entryFrame m #[(.ref a1), Value.null] 2)) (T0.setTop (mkF m 0 #[.val (.ref a1), .val Value.null] [])) := fun t k => castTop (by first | rfl | (simp [entryFrame, mkF, argsToLocals, Value.category]; done)) k
  generalize T0.setTop (entryFrame m #[(.ref a1), Value.null] 2) = A0 at S0 ⊢
  have S1 : Go p e below A0 (T0.setTop (mkF m 1 #[.val (.ref a1), .val Value.null] [(.ref a1)])) := by
    refine S0.trans ?_
    refine (Own.P.aloadN K0.here K0.exec (hb hby d_jdk_32_method_15_code_0) rfl rfl).trans ?_
    exact Go.refl _
  obtain ⟨T2, K2, G2⟩ := K0.getF "" (Or.inl (hw _ (List.mem_of_getElem? (i := 109) rfl))) Via.refl B.2 (pc := 1) (Ls := #[.val (.ref a1), .val Value.null]) (rest := []) (hb hby d_jdk_32_method_15_code_1)
  have S2 : Go p e below A0 (T2.setTop (mkF m 4 #[.val (.ref a1), .val Value.null] [(.ref k1)])) := S1.trans G2
  have S3 : Go p e below A0 (T2.setTop (mkF m 8 #[.val (.ref a1), .val Value.null] [(.ref a1)])) := by
    refine S2.trans ?_
    refine (Own.P.ifnullNo K2.here K2.exec (hb hby d_jdk_32_method_15_code_4) ).trans ?_
    refine (Own.P.aloadN K2.here K2.exec (hb hby d_jdk_32_method_15_code_7) rfl rfl).trans ?_
    exact Go.refl _
  obtain ⟨T4, K4, G4⟩ := K2.getF "" (Or.inl (hw _ (List.mem_of_getElem? (i := 109) rfl))) Via.refl B.2 (pc := 8) (Ls := #[.val (.ref a1), .val Value.null]) (rest := []) (hb hby d_jdk_32_method_15_code_8)
  have S4 : Go p e below A0 (T4.setTop (mkF m 11 #[.val (.ref a1), .val Value.null] [(.ref k1)])) := S3.trans G4
  have S5 : Go p e below A0 (T4.setTop (mkF m 15 #[.val (.ref a1), .val Value.null] [(.ref k1)])) := by
    refine S4.trans ?_
    refine (Own.P.goto K4.here K4.exec 15 (hb hby d_jdk_32_method_15_code_11) (by decide) (by decide)).trans ?_
    exact Go.refl _
  exact ⟨s.vm, T4, h0, (some (.ref k1)), _, _, K4, by decide, by decide, ⟨rfl, rfl⟩, K4.retW S5 hret rfl (Or.inr (Or.inr (Or.inr (Or.inr ⟨rfl, rfl, rfl⟩)))) (hb hby d_jdk_32_method_15_code_15)⟩
theorem d_jdk_32_method_15_code_14 : decode jdk_32_method_15_code 14 = .ok (.aload_n 1, 1) := by decide +kernel
set_option maxRecDepth 65536 in
set_option maxHeartbeats 40000000 in
theorem c_orEN (l : Launch) (Z : State) (a0 : Array Value) (hw : ∀ d ∈ tables_1, d.before a0 Z = true) (n0 : Nat) (h0 : Heap) (O0 : Old Z n0 h0) (a1 k1 : Addr) (B : OpAt Z h0 a1 .null) :
    Own.Ctr false l (⟨"java/util/Optional", "orElse", "(Ljava/lang/Object;)Ljava/lang/Object;"⟩ : MethodName) jdk_32_method_15_code 2 (some (.object "java/lang/Object")) ({ frames := 0, cells := 0, slots := 0, locals := 0 } : Room) #[(.ref a1), Value.null] Z h0 Own.VT [] (fun v h vm => v = some .null ∧ h = h0) := by
  refine Own.body ((by decide +kernel)) O0 (fun _ _ _ _ q => by cases q) (fun _ _ _ _ q _ => q) ?_
  intro p e s m below meth c T0 hby hml0 hret hnm hV0 K0
  change Own.Wk false p l e ({ frames := 0, cells := 0, slots := 0, locals := 0 } : Room) s m #[(.ref a1), Value.null] below meth c "java/util/Optional" Z n0 h0 [] s.vm T0 h0 0 0 at K0
  have hml : c.maxLocals = 2 := hml0
  have S0 : Go p e below (T0.setTop (entryFrame m #[(.ref a1), Value.null] 2)) (T0.setTop (mkF m 0 #[.val (.ref a1), .val Value.null] [])) := fun t k => castTop (by first | rfl | (simp [entryFrame, mkF, argsToLocals, Value.category]; done)) k
  generalize T0.setTop (entryFrame m #[(.ref a1), Value.null] 2) = A0 at S0 ⊢
  have S1 : Go p e below A0 (T0.setTop (mkF m 1 #[.val (.ref a1), .val Value.null] [(.ref a1)])) := by
    refine S0.trans ?_
    refine (Own.P.aloadN K0.here K0.exec (hb hby d_jdk_32_method_15_code_0) rfl rfl).trans ?_
    exact Go.refl _
  obtain ⟨T2, K2, G2⟩ := K0.getF "" (Or.inl (hw _ (List.mem_of_getElem? (i := 109) rfl))) Via.refl B.2 (pc := 1) (Ls := #[.val (.ref a1), .val Value.null]) (rest := []) (hb hby d_jdk_32_method_15_code_1)
  have S2 : Go p e below A0 (T2.setTop (mkF m 4 #[.val (.ref a1), .val Value.null] [Value.null])) := S1.trans G2
  have S3 : Go p e below A0 (T2.setTop (mkF m 15 #[.val (.ref a1), .val Value.null] [Value.null])) := by
    refine S2.trans ?_
    refine (Own.P.ifnullYes K2.here K2.exec 14 (hb hby d_jdk_32_method_15_code_4)  (by decide) (by decide)).trans ?_
    refine (Own.P.aloadN K2.here K2.exec (hb hby d_jdk_32_method_15_code_14) rfl rfl).trans ?_
    exact Go.refl _
  exact ⟨s.vm, T2, h0, (some Value.null), _, _, K2, by decide, by decide, ⟨rfl, rfl⟩, K2.retW S3 hret rfl (Or.inr (Or.inr (Or.inr (Or.inr ⟨rfl, rfl, rfl⟩)))) (hb hby d_jdk_32_method_15_code_15)⟩
theorem d_prog_12_method_1_code_0 : decode prog_12_method_1_code 0 = .ok (.getstatic 10, 3) := by decide +kernel
theorem d_prog_12_method_1_code_3 : decode prog_12_method_1_code 3 = .ok (.invokevirtual 14, 3) := by decide +kernel
theorem d_prog_12_method_1_code_6 : decode prog_12_method_1_code 6 = .ok (.checkcast 15, 3) := by decide +kernel
theorem d_prog_12_method_1_code_9 : decode prog_12_method_1_code 9 = .ok (.areturn, 1) := by decide +kernel
theorem pn_2 : plainName "com/example/samband/samband/identity/KeyPurpose" = true := by first | (simp [plainName, overriddenIn]; done) | decide +kernel
set_option maxRecDepth 65536 in
set_option maxHeartbeats 40000000 in
theorem c_vals (l : Launch) (Z : State) (a0 : Array Value) (hw : ∀ d ∈ tables_1, d.before a0 Z = true) (n0 : Nat) (h0 : Heap) (O0 : Old Z n0 h0) (ac di sa sb va : Addr) (kv : ClassId) (GV : Sta Z Z.heap "com/example/samband/samband/identity/KeyPurpose" "$VALUES" "[Lcom/example/samband/samband/identity/KeyPurpose;" (.ref va)) (AV : Arv Z Z.heap va kv (.object "com/example/samband/samband/identity/KeyPurpose") 2 [.ref ac, .ref di] .null) (XV : Exa Z Z.heap va "[Lcom/example/samband/samband/identity/KeyPurpose;") (FA : Fld Z Z.heap ac "com/example/samband/samband/identity/KeyPurpose" "value" "Ljava/lang/String;" (.ref sa)) (FD : Fld Z Z.heap di "com/example/samband/samband/identity/KeyPurpose" "value" "Ljava/lang/String;" (.ref sb)) (SA : StrIs Z Z.heap sa own_L7) (SB : StrIs Z Z.heap sb own_L15) :
    Own.Ctr false l (⟨"com/example/samband/samband/identity/KeyPurpose", "values", "()[Lcom/example/samband/samband/identity/KeyPurpose;"⟩ : MethodName) prog_12_method_1_code 0 (some (.array (.object "com/example/samband/samband/identity/KeyPurpose"))) ({ frames := 1, cells := 1, slots := 2, locals := 14 } : Room) #[] Z h0 Own.VT [] (fun v h vm => ∃ t, v = some (.ref t) ∧ Arv Z h t kv (.object "com/example/samband/samband/identity/KeyPurpose") 2 [.ref ac, .ref di] .null) := by
  refine Own.body (plainFor_of_name pn_2) O0 (fun _ _ _ _ q => by cases q) (fun _ _ _ _ q _ => q) ?_
  intro p e s m below meth c T0 hby hml0 hret hnm hV0 K0
  change Own.Wk false p l e ({ frames := 1, cells := 1, slots := 2, locals := 14 } : Room) s m #[] below meth c "com/example/samband/samband/identity/KeyPurpose" Z n0 h0 [] s.vm T0 h0 0 0 at K0
  have hml : c.maxLocals = 0 := hml0
  have S0 : Go p e below (T0.setTop (entryFrame m #[] 0)) (T0.setTop (mkF m 0 #[] [])) := fun t k => castTop (by first | rfl | (simp [entryFrame, mkF, argsToLocals, Value.category]; done)) k
  generalize T0.setTop (entryFrame m #[] 0) = A0 at S0 ⊢
  obtain ⟨T1, K1, G1⟩ := K0.getS "" (Or.inl (hw _ (List.mem_of_getElem? (i := 78) rfl))) Via.refl (GV.ext K0.ext) (pc := 0) (Ls := #[]) (rest := []) (hb hby d_prog_12_method_1_code_0)
  have S1 : Go p e below A0 (T1.setTop (mkF m 3 #[] [(.ref va)])) := S0.trans G1
  obtain ⟨T2, h2, vb, K2, E2, V_vb, X_vb, G2⟩ := K1.clone (ad := "[Lcom/example/samband/samband/identity/KeyPurpose;") (hw _ (List.mem_of_getElem? (i := 80) rfl)) (hw _ (List.mem_of_getElem? (i := 81) rfl)) (hw _ (List.mem_of_getElem? (i := 85) rfl)) (hw _ (List.mem_of_getElem? (i := 83) rfl)) (hw _ (List.mem_of_getElem? (i := 84) rfl)) (hw _ (List.mem_of_getElem? (i := 86) rfl)) (AV.ext K1.ext) (XV.ext K1.ext) (pc := 3) (Ls := #[]) (rest := []) (by rw [hml]; rfl) (hb hby d_prog_12_method_1_code_3) (by decide) (W := 0) 2 (Nat.le_of_eq rfl) (by decide) (by decide) (by decide) (by decide)
  have S2 : Go p e below A0 (T2.setTop (mkF m 6 #[] [(.ref vb)])) := S1.trans G2
  obtain ⟨T3, K3, G3⟩ := K2.castY (hw _ (List.mem_of_getElem? (i := 89) rfl)) (Ins.self X_vb) (pc := 6) (Ls := #[]) (rest := []) (hb hby d_prog_12_method_1_code_6)
  have S3 : Go p e below A0 (T3.setTop (mkF m 9 #[] [(.ref vb)])) := S2.trans G3
  exact ⟨s.vm, T3, h2, (some (.ref vb)), _, _, K3, by decide, by decide, ⟨vb, rfl, V_vb⟩, K3.retW S3 hret rfl (Or.inr (Or.inr (Or.inr (Or.inr ⟨rfl, rfl, rfl⟩)))) (hb hby d_prog_12_method_1_code_9)⟩
def own_kp (ac di : Addr) (cs : List Int32) : Value := if own_L7 = cs then .ref ac else if own_L15 = cs then .ref di else .null
theorem own_kp7 {ac di : Addr} {cs : List Int32} (q : own_L7 = cs) : own_kp ac di cs = .ref ac := by simp [own_kp, q]
theorem own_kp15 {ac di : Addr} {cs : List Int32} (q : ¬ own_L7 = cs) (q' : own_L15 = cs) : own_kp ac di cs = .ref di := by simp [own_kp, q, q']
theorem own_kp0 {ac di : Addr} {cs : List Int32} (q : ¬ own_L7 = cs) (q' : ¬ own_L15 = cs) : own_kp ac di cs = .null := by simp [own_kp, q, q']
theorem pd_3 : parseMethodDescriptor "()[Lcom/example/samband/samband/identity/KeyPurpose;" = some ⟨[], some (.array (.object "com/example/samband/samband/identity/KeyPurpose"))⟩ := by decide +kernel
theorem d_prog_12_method_7_code_0 : decode prog_12_method_7_code 0 = .ok (.invokestatic 44, 3) := by decide +kernel
theorem d_prog_12_method_7_code_3 : decode prog_12_method_7_code 3 = .ok (.astore_n 1, 1) := by decide +kernel
theorem d_prog_12_method_7_code_4 : decode prog_12_method_7_code 4 = .ok (.aload_n 1, 1) := by decide +kernel
theorem d_prog_12_method_7_code_5 : decode prog_12_method_7_code 5 = .ok (.arraylength, 1) := by decide +kernel
theorem d_prog_12_method_7_code_6 : decode prog_12_method_7_code 6 = .ok (.istore_n 2, 1) := by decide +kernel
theorem d_prog_12_method_7_code_7 : decode prog_12_method_7_code 7 = .ok (.iconst 0, 1) := by decide +kernel
theorem d_prog_12_method_7_code_8 : decode prog_12_method_7_code 8 = .ok (.istore_n 3, 1) := by decide +kernel
theorem d_prog_12_method_7_code_9 : decode prog_12_method_7_code 9 = .ok (.iload_n 3, 1) := by decide +kernel
theorem d_prog_12_method_7_code_10 : decode prog_12_method_7_code 10 = .ok (.iload_n 2, 1) := by decide +kernel
theorem d_prog_12_method_7_code_11 : decode prog_12_method_7_code 11 = .ok (.if_icmp .ge 32, 3) := by decide +kernel
theorem d_prog_12_method_7_code_14 : decode prog_12_method_7_code 14 = .ok (.aload_n 1, 1) := by decide +kernel
theorem d_prog_12_method_7_code_15 : decode prog_12_method_7_code 15 = .ok (.iload_n 3, 1) := by decide +kernel
theorem d_prog_12_method_7_code_16 : decode prog_12_method_7_code 16 = .ok (.aaload, 1) := by decide +kernel
theorem d_prog_12_method_7_code_17 : decode prog_12_method_7_code 17 = .ok (.astore 4, 2) := by decide +kernel
theorem d_prog_12_method_7_code_19 : decode prog_12_method_7_code 19 = .ok (.aload 4, 2) := by decide +kernel
theorem d_prog_12_method_7_code_21 : decode prog_12_method_7_code 21 = .ok (.getfield 29, 3) := by decide +kernel
theorem d_prog_12_method_7_code_24 : decode prog_12_method_7_code 24 = .ok (.aload_n 0, 1) := by decide +kernel
theorem pd_4 : parseMethodDescriptor "(Ljava/lang/Object;)Z" = some ⟨[(.object "java/lang/Object")], some .boolean⟩ := by decide +kernel
theorem d_prog_12_method_7_code_25 : decode prog_12_method_7_code 25 = .ok (.invokevirtual 48, 3) := by decide +kernel
theorem d_prog_12_method_7_code_28 : decode prog_12_method_7_code 28 = .ok (.ifCond .eq 9, 3) := by decide +kernel
theorem d_prog_12_method_7_code_37 : decode prog_12_method_7_code 37 = .ok (.iinc 3 1, 3) := by decide +kernel
theorem d_prog_12_method_7_code_40 : decode prog_12_method_7_code 40 = .ok (.goto (-31), 3) := by decide +kernel
theorem pd_5 : parseMethodDescriptor "()Ljava/util/Optional;" = some ⟨[], some (.object "java/util/Optional")⟩ := by decide +kernel
theorem d_prog_12_method_7_code_43 : decode prog_12_method_7_code 43 = .ok (.invokestatic 60, 3) := by decide +kernel
theorem d_prog_12_method_7_code_46 : decode prog_12_method_7_code 46 = .ok (.areturn, 1) := by decide +kernel
set_option maxRecDepth 65536 in
set_option maxHeartbeats 40000000 in
theorem c_ofN (l : Launch) (Z : State) (a0 : Array Value) (hw : ∀ d ∈ tables_1, d.before a0 Z = true) (n0 : Nat) (h0 : Heap) (O0 : Old Z n0 h0) (ac di sa sb va : Addr) (kv : ClassId) (GV : Sta Z Z.heap "com/example/samband/samband/identity/KeyPurpose" "$VALUES" "[Lcom/example/samband/samband/identity/KeyPurpose;" (.ref va)) (AV : Arv Z Z.heap va kv (.object "com/example/samband/samband/identity/KeyPurpose") 2 [.ref ac, .ref di] .null) (XV : Exa Z Z.heap va "[Lcom/example/samband/samband/identity/KeyPurpose;") (FA : Fld Z Z.heap ac "com/example/samband/samband/identity/KeyPurpose" "value" "Ljava/lang/String;" (.ref sa)) (FD : Fld Z Z.heap di "com/example/samband/samband/identity/KeyPurpose" "value" "Ljava/lang/String;" (.ref sb)) (SA : StrIs Z Z.heap sa own_L7) (SB : StrIs Z Z.heap sb own_L15) (em : Addr) (GE : Sta Z Z.heap "java/util/Optional" "EMPTY" "Ljava/util/Optional;" (.ref em)) (BE : OpAt Z Z.heap em .null) (zc : Int32) (hzc : ¬ zc = 0) (SC : Sta Z Z.heap "java/lang/String" "COMPACT_STRINGS" "Z" (.int zc)) :
    Own.Ctr false l (⟨"com/example/samband/samband/identity/KeyPurpose", "of", "(Ljava/lang/String;)Ljava/util/Optional;"⟩ : MethodName) prog_12_method_7_code 5 (some (.object "java/util/Optional")) ({ frames := 2, cells := 1, slots := 2, locals := 25 } : Room) #[Value.null] Z h0 Own.VT [] (fun v h vm => ∃ o, v = some (.ref o) ∧ OpAt Z h o .null) := by
  refine Own.body (plainFor_of_name pn_2) O0 (fun _ _ _ _ q => by cases q) (fun _ _ _ _ q _ => q) ?_
  intro p e s m below meth c T0 hby hml0 hret hnm hV0 K0
  change Own.Wk false p l e ({ frames := 2, cells := 1, slots := 2, locals := 25 } : Room) s m #[Value.null] below meth c "com/example/samband/samband/identity/KeyPurpose" Z n0 h0 [] s.vm T0 h0 0 0 at K0
  have hml : c.maxLocals = 5 := hml0
  have S0 : Go p e below (T0.setTop (entryFrame m #[Value.null] 5)) (T0.setTop (mkF m 0 #[.val Value.null, .unset, .unset, .unset, .unset] [])) := fun t k => castTop (by first | rfl | (simp [entryFrame, mkF, argsToLocals, Value.category]; done)) k
  generalize T0.setTop (entryFrame m #[Value.null] 5) = A0 at S0 ⊢
  obtain ⟨v1, vm1, vq1, T1, h1, K1, KK1, ev1, Q1, G1⟩ := K0.callS (y := (⟨"com/example/samband/samband/identity/KeyPurpose", "values", "()[Lcom/example/samband/samband/identity/KeyPurpose;"⟩ : MethodName)) (hw _ (List.mem_of_getElem? (i := 75) rfl)) (hw _ (List.mem_of_getElem? (i := 76) rfl)) (hw _ (List.mem_of_getElem? (i := 70) rfl)) (hw _ (List.mem_of_getElem? (i := 77) rfl)) (by decide) (W := 0) (argsL := []) (rest := []) ((c_vals l Z a0 hw n0 h0 (K0.old) ac di sa sb va kv GV AV XV FA FD SA SB).pay Own.VT.cl (hw _ (List.mem_of_getElem? (i := 77) rfl)) (hw _ (List.mem_of_getElem? (i := 70) rfl)) (by decide) (by decide)) trivial (pc := 0) (Ls := #[.val Value.null, .unset, .unset, .unset, .unset]) (st := []) (by rw [hml]; rfl) (lenOf pd_3 rfl) rfl (Nat.le_of_eq rfl) (hb hby d_prog_12_method_7_code_0) (by decide) (by decide) all0
  obtain ⟨t, rfl, VT'⟩ := Q1
  have S1 : Go p e below A0 (T1.setTop (mkF m 3 #[.val Value.null, .unset, .unset, .unset, .unset] [(.ref t)])) := S0.trans G1
  have S2 : Go p e below A0 (T1.setTop (mkF m 5 #[.val Value.null, .val (.ref t), .unset, .unset, .unset] [(.ref t)])) := by
    refine S1.trans ?_
    refine (Own.P.astoreN K1.here K1.exec (l' := #[.val Value.null, .val (.ref t), .unset, .unset, .unset]) (hb hby d_prog_12_method_7_code_3) rfl rfl).trans ?_
    refine (Own.P.aloadN K1.here K1.exec (hb hby d_prog_12_method_7_code_4) rfl rfl).trans ?_
    exact Go.refl _
  have G3 := K1.len VT' (pc := 5) (Ls := #[.val Value.null, .val (.ref t), .unset, .unset, .unset]) (rest := []) (hb hby d_prog_12_method_7_code_5)
  have S3 : Go p e below A0 (T1.setTop (mkF m 6 #[.val Value.null, .val (.ref t), .unset, .unset, .unset] [(.int (2 : Int32))])) := S2.trans G3
  have S4 : Go p e below A0 (T1.setTop (mkF m 16 #[.val Value.null, .val (.ref t), .val (.int (2 : Int32)), .val (.int (0 : Int32)), .unset] [(.int (0 : Int32)), (.ref t)])) := by
    refine S3.trans ?_
    refine (Own.P.istoreN K1.here K1.exec (l' := #[.val Value.null, .val (.ref t), .val (.int (2 : Int32)), .unset, .unset]) (hb hby d_prog_12_method_7_code_6) rfl).trans ?_
    refine (Own.P.iconst K1.here K1.exec (0 : Int32) (hb hby d_prog_12_method_7_code_7) rfl).trans ?_
    refine (Own.P.istoreN K1.here K1.exec (l' := #[.val Value.null, .val (.ref t), .val (.int (2 : Int32)), .val (.int (0 : Int32)), .unset]) (hb hby d_prog_12_method_7_code_8) rfl).trans ?_
    refine (Own.P.iloadN K1.here K1.exec (hb hby d_prog_12_method_7_code_9) rfl).trans ?_
    refine (Own.P.iloadN K1.here K1.exec (hb hby d_prog_12_method_7_code_10) rfl).trans ?_
    refine (Own.P.icmpNo K1.here K1.exec (hb hby d_prog_12_method_7_code_11) (by decide)).trans ?_
    refine (Own.P.aloadN K1.here K1.exec (hb hby d_prog_12_method_7_code_14) rfl rfl).trans ?_
    refine (Own.P.iloadN K1.here K1.exec (hb hby d_prog_12_method_7_code_15) rfl).trans ?_
    exact Go.refl _
  have G5 := K1.ldR VT' rfl (j := (0 : Int32)) ⟨by decide, by decide⟩ (v := (.ref ac)) rfl (pc := 16) (Ls := #[.val Value.null, .val (.ref t), .val (.int (2 : Int32)), .val (.int (0 : Int32)), .unset]) (rest := []) (hb hby d_prog_12_method_7_code_16)
  have S5 : Go p e below A0 (T1.setTop (mkF m 17 #[.val Value.null, .val (.ref t), .val (.int (2 : Int32)), .val (.int (0 : Int32)), .unset] [(.ref ac)])) := S4.trans G5
  have S6 : Go p e below A0 (T1.setTop (mkF m 21 #[.val Value.null, .val (.ref t), .val (.int (2 : Int32)), .val (.int (0 : Int32)), .val (.ref ac)] [(.ref ac)])) := by
    refine S5.trans ?_
    refine (Own.P.astore K1.here K1.exec (l' := #[.val Value.null, .val (.ref t), .val (.int (2 : Int32)), .val (.int (0 : Int32)), .val (.ref ac)]) (hb hby d_prog_12_method_7_code_17) rfl rfl).trans ?_
    refine (Own.P.aload K1.here K1.exec (hb hby d_prog_12_method_7_code_19) rfl rfl).trans ?_
    exact Go.refl _
  obtain ⟨T7, K7, G7⟩ := K1.getF "" (Or.inl (hw _ (List.mem_of_getElem? (i := 91) rfl))) Via.refl (FA.ext K1.ext) (pc := 21) (Ls := #[.val Value.null, .val (.ref t), .val (.int (2 : Int32)), .val (.int (0 : Int32)), .val (.ref ac)]) (rest := []) (hb hby d_prog_12_method_7_code_21)
  have S7 : Go p e below A0 (T7.setTop (mkF m 24 #[.val Value.null, .val (.ref t), .val (.int (2 : Int32)), .val (.int (0 : Int32)), .val (.ref ac)] [(.ref sa)])) := S6.trans G7
  have S8 : Go p e below A0 (T7.setTop (mkF m 25 #[.val Value.null, .val (.ref t), .val (.int (2 : Int32)), .val (.int (0 : Int32)), .val (.ref ac)] [Value.null, (.ref sa)])) := by
    refine S7.trans ?_
    refine (Own.P.aloadN K7.here K7.exec (hb hby d_prog_12_method_7_code_24) rfl rfl).trans ?_
    exact Go.refl _
  obtain ⟨v9, vm9, vq9, T9, h9, K9, KK9, ev9, Q9, G9⟩ := K7.callV (C := "java/lang/String") (y := (⟨"java/lang/String", "equals", "(Ljava/lang/Object;)Z"⟩ : MethodName)) (z := (⟨"java/lang/String", "equals", "(Ljava/lang/Object;)Z"⟩ : MethodName)) (hw _ (List.mem_of_getElem? (i := 93) rfl)) (hw _ (List.mem_of_getElem? (i := 61) rfl)) (hw _ (List.mem_of_getElem? (i := 63) rfl)) (Or.inr (Or.inr rfl)) (hw _ (List.mem_of_getElem? (i := 62) rfl)) (by decide) (W := 0) (SA.2.1.ext K7.ext) (argsL := [Value.null]) (rest := []) ((c_eqN l Z a0 hw n0 h1 (K7.old) sa).pay Own.VT.cl (hw _ (List.mem_of_getElem? (i := 64) rfl)) (hw _ (List.mem_of_getElem? (i := 7) rfl)) (by decide) (by decide)) trivial (pc := 25) (Ls := #[.val Value.null, .val (.ref t), .val (.int (2 : Int32)), .val (.int (0 : Int32)), .val (.ref ac)]) (st := [Value.null, (.ref sa)]) (by rw [hml]; rfl) (lenOf pd_4 rfl) rfl (Nat.le_of_eq rfl) (hb hby d_prog_12_method_7_code_25) (by decide) (by decide) all0
  obtain ⟨rfl, e9⟩ := Q9
  have S9 : Go p e below A0 (T9.setTop (mkF m 28 #[.val Value.null, .val (.ref t), .val (.int (2 : Int32)), .val (.int (0 : Int32)), .val (.ref ac)] [(.int (0 : Int32))])) := S8.trans G9
  subst e9
  have S10 : Go p e below A0 (T9.setTop (mkF m 16 #[.val Value.null, .val (.ref t), .val (.int (2 : Int32)), .val (.int (1 : Int32)), .val (.ref ac)] [(.int (1 : Int32)), (.ref t)])) := by
    refine S9.trans ?_
    refine (Own.P.ifYes K9.here K9.exec 37 (hb hby d_prog_12_method_7_code_28) (by decide) (by decide) (by decide)).trans ?_
    refine (Own.P.iinc K9.here K9.exec (v := (1 : Int32)) (l' := #[.val Value.null, .val (.ref t), .val (.int (2 : Int32)), .val (.int (1 : Int32)), .val (.ref ac)]) (hb hby d_prog_12_method_7_code_37) rfl rfl rfl).trans ?_
    refine (Own.P.goto K9.here K9.exec 9 (hb hby d_prog_12_method_7_code_40) (by decide) (by decide)).trans ?_
    refine (Own.P.iloadN K9.here K9.exec (hb hby d_prog_12_method_7_code_9) rfl).trans ?_
    refine (Own.P.iloadN K9.here K9.exec (hb hby d_prog_12_method_7_code_10) rfl).trans ?_
    refine (Own.P.icmpNo K9.here K9.exec (hb hby d_prog_12_method_7_code_11) (by decide)).trans ?_
    refine (Own.P.aloadN K9.here K9.exec (hb hby d_prog_12_method_7_code_14) rfl rfl).trans ?_
    refine (Own.P.iloadN K9.here K9.exec (hb hby d_prog_12_method_7_code_15) rfl).trans ?_
    exact Go.refl _
  have G11 := K9.ldR VT' rfl (j := (1 : Int32)) ⟨by decide, by decide⟩ (v := (.ref di)) rfl (pc := 16) (Ls := #[.val Value.null, .val (.ref t), .val (.int (2 : Int32)), .val (.int (1 : Int32)), .val (.ref ac)]) (rest := []) (hb hby d_prog_12_method_7_code_16)
  have S11 : Go p e below A0 (T9.setTop (mkF m 17 #[.val Value.null, .val (.ref t), .val (.int (2 : Int32)), .val (.int (1 : Int32)), .val (.ref ac)] [(.ref di)])) := S10.trans G11
  have S12 : Go p e below A0 (T9.setTop (mkF m 21 #[.val Value.null, .val (.ref t), .val (.int (2 : Int32)), .val (.int (1 : Int32)), .val (.ref di)] [(.ref di)])) := by
    refine S11.trans ?_
    refine (Own.P.astore K9.here K9.exec (l' := #[.val Value.null, .val (.ref t), .val (.int (2 : Int32)), .val (.int (1 : Int32)), .val (.ref di)]) (hb hby d_prog_12_method_7_code_17) rfl rfl).trans ?_
    refine (Own.P.aload K9.here K9.exec (hb hby d_prog_12_method_7_code_19) rfl rfl).trans ?_
    exact Go.refl _
  obtain ⟨T13, K13, G13⟩ := K9.getF "" (Or.inl (hw _ (List.mem_of_getElem? (i := 91) rfl))) Via.refl (FD.ext K9.ext) (pc := 21) (Ls := #[.val Value.null, .val (.ref t), .val (.int (2 : Int32)), .val (.int (1 : Int32)), .val (.ref di)]) (rest := []) (hb hby d_prog_12_method_7_code_21)
  have S13 : Go p e below A0 (T13.setTop (mkF m 24 #[.val Value.null, .val (.ref t), .val (.int (2 : Int32)), .val (.int (1 : Int32)), .val (.ref di)] [(.ref sb)])) := S12.trans G13
  have S14 : Go p e below A0 (T13.setTop (mkF m 25 #[.val Value.null, .val (.ref t), .val (.int (2 : Int32)), .val (.int (1 : Int32)), .val (.ref di)] [Value.null, (.ref sb)])) := by
    refine S13.trans ?_
    refine (Own.P.aloadN K13.here K13.exec (hb hby d_prog_12_method_7_code_24) rfl rfl).trans ?_
    exact Go.refl _
  obtain ⟨v15, vm15, vq15, T15, h15, K15, KK15, ev15, Q15, G15⟩ := K13.callV (C := "java/lang/String") (y := (⟨"java/lang/String", "equals", "(Ljava/lang/Object;)Z"⟩ : MethodName)) (z := (⟨"java/lang/String", "equals", "(Ljava/lang/Object;)Z"⟩ : MethodName)) (hw _ (List.mem_of_getElem? (i := 93) rfl)) (hw _ (List.mem_of_getElem? (i := 61) rfl)) (hw _ (List.mem_of_getElem? (i := 63) rfl)) (Or.inr (Or.inr rfl)) (hw _ (List.mem_of_getElem? (i := 62) rfl)) (by decide) (W := 0) (SB.2.1.ext K13.ext) (argsL := [Value.null]) (rest := []) ((c_eqN l Z a0 hw n0 h9 (K13.old) sb).pay Own.VT.cl (hw _ (List.mem_of_getElem? (i := 64) rfl)) (hw _ (List.mem_of_getElem? (i := 7) rfl)) (by decide) (by decide)) trivial (pc := 25) (Ls := #[.val Value.null, .val (.ref t), .val (.int (2 : Int32)), .val (.int (1 : Int32)), .val (.ref di)]) (st := [Value.null, (.ref sb)]) (by rw [hml]; rfl) (lenOf pd_4 rfl) rfl (Nat.le_of_eq rfl) (hb hby d_prog_12_method_7_code_25) (by decide) (by decide) all0
  obtain ⟨rfl, e15⟩ := Q15
  have S15 : Go p e below A0 (T15.setTop (mkF m 28 #[.val Value.null, .val (.ref t), .val (.int (2 : Int32)), .val (.int (1 : Int32)), .val (.ref di)] [(.int (0 : Int32))])) := S14.trans G15
  subst e15
  have S16 : Go p e below A0 (T15.setTop (mkF m 43 #[.val Value.null, .val (.ref t), .val (.int (2 : Int32)), .val (.int (2 : Int32)), .val (.ref di)] [])) := by
    refine S15.trans ?_
    refine (Own.P.ifYes K15.here K15.exec 37 (hb hby d_prog_12_method_7_code_28) (by decide) (by decide) (by decide)).trans ?_
    refine (Own.P.iinc K15.here K15.exec (v := (2 : Int32)) (l' := #[.val Value.null, .val (.ref t), .val (.int (2 : Int32)), .val (.int (2 : Int32)), .val (.ref di)]) (hb hby d_prog_12_method_7_code_37) rfl rfl rfl).trans ?_
    refine (Own.P.goto K15.here K15.exec 9 (hb hby d_prog_12_method_7_code_40) (by decide) (by decide)).trans ?_
    refine (Own.P.iloadN K15.here K15.exec (hb hby d_prog_12_method_7_code_9) rfl).trans ?_
    refine (Own.P.iloadN K15.here K15.exec (hb hby d_prog_12_method_7_code_10) rfl).trans ?_
    refine (Own.P.icmpYes K15.here K15.exec 43 (hb hby d_prog_12_method_7_code_11) (by decide) (by decide) (by decide)).trans ?_
    exact Go.refl _
  obtain ⟨v17, vm17, vq17, T17, h17, K17, KK17, ev17, Q17, G17⟩ := K15.callS (y := (⟨"java/util/Optional", "empty", "()Ljava/util/Optional;"⟩ : MethodName)) (hw _ (List.mem_of_getElem? (i := 120) rfl)) (hw _ (List.mem_of_getElem? (i := 121) rfl)) (hw _ (List.mem_of_getElem? (i := 96) rfl)) (hw _ (List.mem_of_getElem? (i := 122) rfl)) (by decide) (W := 0) (argsL := []) (rest := []) ((c_oempty l Z a0 hw n0 h15 (K15.old) em GE BE).pay Own.VT.cl (hw _ (List.mem_of_getElem? (i := 122) rfl)) (hw _ (List.mem_of_getElem? (i := 96) rfl)) (by decide) (by decide)) trivial (pc := 43) (Ls := #[.val Value.null, .val (.ref t), .val (.int (2 : Int32)), .val (.int (2 : Int32)), .val (.ref di)]) (st := []) (by rw [hml]; rfl) (lenOf pd_5 rfl) rfl (Nat.le_of_eq rfl) (hb hby d_prog_12_method_7_code_43) (by decide) (by decide) all0
  obtain ⟨rfl, e17⟩ := Q17
  have S17 : Go p e below A0 (T17.setTop (mkF m 46 #[.val Value.null, .val (.ref t), .val (.int (2 : Int32)), .val (.int (2 : Int32)), .val (.ref di)] [(.ref em)])) := S16.trans G17
  subst e17
  exact ⟨vm17, T17, h17, (some (.ref em)), _, _, K17, by decide, by decide, ⟨em, rfl, OpAt.ext (vl := .null) BE K17.ext⟩, K17.retW S17 hret rfl (Or.inr (Or.inr (Or.inr (Or.inr ⟨rfl, rfl, rfl⟩)))) (hb hby d_prog_12_method_7_code_46)⟩
theorem d_prog_12_method_7_code_31 : decode prog_12_method_7_code 31 = .ok (.aload 4, 2) := by decide +kernel
theorem pd_6 : parseMethodDescriptor "(Ljava/lang/Object;)Ljava/util/Optional;" = some ⟨[(.object "java/lang/Object")], some (.object "java/util/Optional")⟩ := by decide +kernel
theorem d_prog_12_method_7_code_33 : decode prog_12_method_7_code 33 = .ok (.invokestatic 54, 3) := by decide +kernel
theorem d_prog_12_method_7_code_36 : decode prog_12_method_7_code 36 = .ok (.areturn, 1) := by decide +kernel
set_option maxRecDepth 65536 in
set_option maxHeartbeats 40000000 in
theorem c_ofS (l : Launch) (Z : State) (a0 : Array Value) (hw : ∀ d ∈ tables_1, d.before a0 Z = true) (n0 : Nat) (h0 : Heap) (O0 : Old Z n0 h0) (ac di sa sb va : Addr) (kv : ClassId) (GV : Sta Z Z.heap "com/example/samband/samband/identity/KeyPurpose" "$VALUES" "[Lcom/example/samband/samband/identity/KeyPurpose;" (.ref va)) (AV : Arv Z Z.heap va kv (.object "com/example/samband/samband/identity/KeyPurpose") 2 [.ref ac, .ref di] .null) (XV : Exa Z Z.heap va "[Lcom/example/samband/samband/identity/KeyPurpose;") (FA : Fld Z Z.heap ac "com/example/samband/samband/identity/KeyPurpose" "value" "Ljava/lang/String;" (.ref sa)) (FD : Fld Z Z.heap di "com/example/samband/samband/identity/KeyPurpose" "value" "Ljava/lang/String;" (.ref sb)) (SA : StrIs Z Z.heap sa own_L7) (SB : StrIs Z Z.heap sb own_L15) (em : Addr) (GE : Sta Z Z.heap "java/util/Optional" "EMPTY" "Ljava/util/Optional;" (.ref em)) (BE : OpAt Z Z.heap em .null) (zc : Int32) (hzc : ¬ zc = 0) (SC : Sta Z Z.heap "java/lang/String" "COMPACT_STRINGS" "Z" (.int zc)) (x' : Addr) (cs : List Int32) (SX : StrIs Z h0 x' cs) (lx : cs.length ≤ 4000) :
    Own.Ctr false l (⟨"com/example/samband/samband/identity/KeyPurpose", "of", "(Ljava/lang/String;)Ljava/util/Optional;"⟩ : MethodName) prog_12_method_7_code 5 (some (.object "java/util/Optional")) ({ frames := 3, cells := 2, slots := 3, locals := 38 } : Room) #[(.ref x')] Z h0 Own.VT [] (fun v h vm => ∃ o, v = some (.ref o) ∧ OpAt Z h o (own_kp ac di cs)) := by
  refine Own.body (plainFor_of_name pn_2) O0 (fun _ _ _ _ q => by cases q) (fun _ _ _ _ q _ => q) ?_
  intro p e s m below meth c T0 hby hml0 hret hnm hV0 K0
  change Own.Wk false p l e ({ frames := 3, cells := 2, slots := 3, locals := 38 } : Room) s m #[(.ref x')] below meth c "com/example/samband/samband/identity/KeyPurpose" Z n0 h0 [] s.vm T0 h0 0 0 at K0
  have hml : c.maxLocals = 5 := hml0
  have S0 : Go p e below (T0.setTop (entryFrame m #[(.ref x')] 5)) (T0.setTop (mkF m 0 #[.val (.ref x'), .unset, .unset, .unset, .unset] [])) := fun t k => castTop (by first | rfl | (simp [entryFrame, mkF, argsToLocals, Value.category]; done)) k
  generalize T0.setTop (entryFrame m #[(.ref x')] 5) = A0 at S0 ⊢
  obtain ⟨v1, vm1, vq1, T1, h1, K1, KK1, ev1, Q1, G1⟩ := K0.callS (y := (⟨"com/example/samband/samband/identity/KeyPurpose", "values", "()[Lcom/example/samband/samband/identity/KeyPurpose;"⟩ : MethodName)) (hw _ (List.mem_of_getElem? (i := 75) rfl)) (hw _ (List.mem_of_getElem? (i := 76) rfl)) (hw _ (List.mem_of_getElem? (i := 70) rfl)) (hw _ (List.mem_of_getElem? (i := 77) rfl)) (by decide) (W := 0) (argsL := []) (rest := []) ((c_vals l Z a0 hw n0 h0 (K0.old) ac di sa sb va kv GV AV XV FA FD SA SB).pay Own.VT.cl (hw _ (List.mem_of_getElem? (i := 77) rfl)) (hw _ (List.mem_of_getElem? (i := 70) rfl)) (by decide) (by decide)) trivial (pc := 0) (Ls := #[.val (.ref x'), .unset, .unset, .unset, .unset]) (st := []) (by rw [hml]; rfl) (lenOf pd_3 rfl) rfl (Nat.le_of_eq rfl) (hb hby d_prog_12_method_7_code_0) (by decide) (by decide) all0
  obtain ⟨t, rfl, VT'⟩ := Q1
  have S1 : Go p e below A0 (T1.setTop (mkF m 3 #[.val (.ref x'), .unset, .unset, .unset, .unset] [(.ref t)])) := S0.trans G1
  have SX' := SX.keep KK1
  have S2 : Go p e below A0 (T1.setTop (mkF m 5 #[.val (.ref x'), .val (.ref t), .unset, .unset, .unset] [(.ref t)])) := by
    refine S1.trans ?_
    refine (Own.P.astoreN K1.here K1.exec (l' := #[.val (.ref x'), .val (.ref t), .unset, .unset, .unset]) (hb hby d_prog_12_method_7_code_3) rfl rfl).trans ?_
    refine (Own.P.aloadN K1.here K1.exec (hb hby d_prog_12_method_7_code_4) rfl rfl).trans ?_
    exact Go.refl _
  have G3 := K1.len VT' (pc := 5) (Ls := #[.val (.ref x'), .val (.ref t), .unset, .unset, .unset]) (rest := []) (hb hby d_prog_12_method_7_code_5)
  have S3 : Go p e below A0 (T1.setTop (mkF m 6 #[.val (.ref x'), .val (.ref t), .unset, .unset, .unset] [(.int (2 : Int32))])) := S2.trans G3
  have S4 : Go p e below A0 (T1.setTop (mkF m 16 #[.val (.ref x'), .val (.ref t), .val (.int (2 : Int32)), .val (.int (0 : Int32)), .unset] [(.int (0 : Int32)), (.ref t)])) := by
    refine S3.trans ?_
    refine (Own.P.istoreN K1.here K1.exec (l' := #[.val (.ref x'), .val (.ref t), .val (.int (2 : Int32)), .unset, .unset]) (hb hby d_prog_12_method_7_code_6) rfl).trans ?_
    refine (Own.P.iconst K1.here K1.exec (0 : Int32) (hb hby d_prog_12_method_7_code_7) rfl).trans ?_
    refine (Own.P.istoreN K1.here K1.exec (l' := #[.val (.ref x'), .val (.ref t), .val (.int (2 : Int32)), .val (.int (0 : Int32)), .unset]) (hb hby d_prog_12_method_7_code_8) rfl).trans ?_
    refine (Own.P.iloadN K1.here K1.exec (hb hby d_prog_12_method_7_code_9) rfl).trans ?_
    refine (Own.P.iloadN K1.here K1.exec (hb hby d_prog_12_method_7_code_10) rfl).trans ?_
    refine (Own.P.icmpNo K1.here K1.exec (hb hby d_prog_12_method_7_code_11) (by decide)).trans ?_
    refine (Own.P.aloadN K1.here K1.exec (hb hby d_prog_12_method_7_code_14) rfl rfl).trans ?_
    refine (Own.P.iloadN K1.here K1.exec (hb hby d_prog_12_method_7_code_15) rfl).trans ?_
    exact Go.refl _
  have G5 := K1.ldR VT' rfl (j := (0 : Int32)) ⟨by decide, by decide⟩ (v := (.ref ac)) rfl (pc := 16) (Ls := #[.val (.ref x'), .val (.ref t), .val (.int (2 : Int32)), .val (.int (0 : Int32)), .unset]) (rest := []) (hb hby d_prog_12_method_7_code_16)
  have S5 : Go p e below A0 (T1.setTop (mkF m 17 #[.val (.ref x'), .val (.ref t), .val (.int (2 : Int32)), .val (.int (0 : Int32)), .unset] [(.ref ac)])) := S4.trans G5
  have S6 : Go p e below A0 (T1.setTop (mkF m 21 #[.val (.ref x'), .val (.ref t), .val (.int (2 : Int32)), .val (.int (0 : Int32)), .val (.ref ac)] [(.ref ac)])) := by
    refine S5.trans ?_
    refine (Own.P.astore K1.here K1.exec (l' := #[.val (.ref x'), .val (.ref t), .val (.int (2 : Int32)), .val (.int (0 : Int32)), .val (.ref ac)]) (hb hby d_prog_12_method_7_code_17) rfl rfl).trans ?_
    refine (Own.P.aload K1.here K1.exec (hb hby d_prog_12_method_7_code_19) rfl rfl).trans ?_
    exact Go.refl _
  obtain ⟨T7, K7, G7⟩ := K1.getF "" (Or.inl (hw _ (List.mem_of_getElem? (i := 91) rfl))) Via.refl (FA.ext K1.ext) (pc := 21) (Ls := #[.val (.ref x'), .val (.ref t), .val (.int (2 : Int32)), .val (.int (0 : Int32)), .val (.ref ac)]) (rest := []) (hb hby d_prog_12_method_7_code_21)
  have S7 : Go p e below A0 (T7.setTop (mkF m 24 #[.val (.ref x'), .val (.ref t), .val (.int (2 : Int32)), .val (.int (0 : Int32)), .val (.ref ac)] [(.ref sa)])) := S6.trans G7
  have S8 : Go p e below A0 (T7.setTop (mkF m 25 #[.val (.ref x'), .val (.ref t), .val (.int (2 : Int32)), .val (.int (0 : Int32)), .val (.ref ac)] [(.ref x'), (.ref sa)])) := by
    refine S7.trans ?_
    refine (Own.P.aloadN K7.here K7.exec (hb hby d_prog_12_method_7_code_24) rfl rfl).trans ?_
    exact Go.refl _
  obtain ⟨v9, vm9, vq9, T9, h9, K9, KK9, ev9, Q9, G9⟩ := K7.callV (C := "java/lang/String") (y := (⟨"java/lang/String", "equals", "(Ljava/lang/Object;)Z"⟩ : MethodName)) (z := (⟨"java/lang/String", "equals", "(Ljava/lang/Object;)Z"⟩ : MethodName)) (hw _ (List.mem_of_getElem? (i := 93) rfl)) (hw _ (List.mem_of_getElem? (i := 61) rfl)) (hw _ (List.mem_of_getElem? (i := 63) rfl)) (Or.inr (Or.inr rfl)) (hw _ (List.mem_of_getElem? (i := 62) rfl)) (by decide) (W := 0) (SA.2.1.ext K7.ext) (argsL := [(.ref x')]) (rest := []) (Own.payEq (W := 0) hw Own.VT.cl (hw _ (List.mem_of_getElem? (i := 8) rfl)) K7.old (SA.ext K7.ext) (by decide) SX' lx SC hzc (by decide) (by decide)) trivial (pc := 25) (Ls := #[.val (.ref x'), .val (.ref t), .val (.int (2 : Int32)), .val (.int (0 : Int32)), .val (.ref ac)]) (st := [(.ref x'), (.ref sa)]) (by rw [hml]; rfl) (lenOf pd_4 rfl) rfl (Nat.le_of_eq rfl) (hb hby d_prog_12_method_7_code_25) (by decide) (by decide) all0
  obtain ⟨⟨rfl, e9⟩, -⟩ := Q9
  have S9 : Go p e below A0 (T9.setTop (mkF m 28 #[.val (.ref x'), .val (.ref t), .val (.int (2 : Int32)), .val (.int (0 : Int32)), .val (.ref ac)] [(.int (own_seq own_L7 cs))])) := S8.trans G9
  subst e9
  by_cases q0 : own_L7 = cs
  case pos =>
      rw [own_seq1 q0] at S9
      have S10 : Go p e below A0 (T9.setTop (mkF m 33 #[.val (.ref x'), .val (.ref t), .val (.int (2 : Int32)), .val (.int (0 : Int32)), .val (.ref ac)] [(.ref ac)])) := by
        refine S9.trans ?_
        refine (Own.P.ifNo K9.here K9.exec (hb hby d_prog_12_method_7_code_28) (by decide)).trans ?_
        refine (Own.P.aload K9.here K9.exec (hb hby d_prog_12_method_7_code_31) rfl rfl).trans ?_
        exact Go.refl _
      obtain ⟨v11, vm11, vq11, T11, h11, K11, KK11, ev11, Q11, G11⟩ := K9.callS (y := (⟨"java/util/Optional", "of", "(Ljava/lang/Object;)Ljava/util/Optional;"⟩ : MethodName)) (hw _ (List.mem_of_getElem? (i := 94) rfl)) (hw _ (List.mem_of_getElem? (i := 95) rfl)) (hw _ (List.mem_of_getElem? (i := 96) rfl)) (hw _ (List.mem_of_getElem? (i := 97) rfl)) (by decide) (W := 0) (argsL := [(.ref ac)]) (rest := []) ((c_oof l Z a0 hw n0 h9 (K9.old) ac).pay Own.VT.cl (hw _ (List.mem_of_getElem? (i := 97) rfl)) (hw _ (List.mem_of_getElem? (i := 96) rfl)) (by decide) (by decide)) trivial (pc := 33) (Ls := #[.val (.ref x'), .val (.ref t), .val (.int (2 : Int32)), .val (.int (0 : Int32)), .val (.ref ac)]) (st := [(.ref ac)]) (by rw [hml]; rfl) (lenOf pd_6 rfl) rfl (Nat.le_of_eq rfl) (hb hby d_prog_12_method_7_code_33) (by decide) (by decide) all0
      obtain ⟨o', rfl, BO⟩ := Q11
      have S11 : Go p e below A0 (T11.setTop (mkF m 36 #[.val (.ref x'), .val (.ref t), .val (.int (2 : Int32)), .val (.int (0 : Int32)), .val (.ref ac)] [(.ref o')])) := S10.trans G11
      rw [own_kp7 q0]
      exact ⟨vm11, T11, h11, (some (.ref o')), _, _, K11, by decide, by decide, ⟨o', rfl, BO⟩, K11.retW S11 hret rfl (Or.inr (Or.inr (Or.inr (Or.inr ⟨rfl, rfl, rfl⟩)))) (hb hby d_prog_12_method_7_code_36)⟩
  case neg =>
      rw [own_seq0 q0] at S9
      have S12 : Go p e below A0 (T9.setTop (mkF m 16 #[.val (.ref x'), .val (.ref t), .val (.int (2 : Int32)), .val (.int (1 : Int32)), .val (.ref ac)] [(.int (1 : Int32)), (.ref t)])) := by
        refine S9.trans ?_
        refine (Own.P.ifYes K9.here K9.exec 37 (hb hby d_prog_12_method_7_code_28) (by decide) (by decide) (by decide)).trans ?_
        refine (Own.P.iinc K9.here K9.exec (v := (1 : Int32)) (l' := #[.val (.ref x'), .val (.ref t), .val (.int (2 : Int32)), .val (.int (1 : Int32)), .val (.ref ac)]) (hb hby d_prog_12_method_7_code_37) rfl rfl rfl).trans ?_
        refine (Own.P.goto K9.here K9.exec 9 (hb hby d_prog_12_method_7_code_40) (by decide) (by decide)).trans ?_
        refine (Own.P.iloadN K9.here K9.exec (hb hby d_prog_12_method_7_code_9) rfl).trans ?_
        refine (Own.P.iloadN K9.here K9.exec (hb hby d_prog_12_method_7_code_10) rfl).trans ?_
        refine (Own.P.icmpNo K9.here K9.exec (hb hby d_prog_12_method_7_code_11) (by decide)).trans ?_
        refine (Own.P.aloadN K9.here K9.exec (hb hby d_prog_12_method_7_code_14) rfl rfl).trans ?_
        refine (Own.P.iloadN K9.here K9.exec (hb hby d_prog_12_method_7_code_15) rfl).trans ?_
        exact Go.refl _
      have G13 := K9.ldR VT' rfl (j := (1 : Int32)) ⟨by decide, by decide⟩ (v := (.ref di)) rfl (pc := 16) (Ls := #[.val (.ref x'), .val (.ref t), .val (.int (2 : Int32)), .val (.int (1 : Int32)), .val (.ref ac)]) (rest := []) (hb hby d_prog_12_method_7_code_16)
      have S13 : Go p e below A0 (T9.setTop (mkF m 17 #[.val (.ref x'), .val (.ref t), .val (.int (2 : Int32)), .val (.int (1 : Int32)), .val (.ref ac)] [(.ref di)])) := S12.trans G13
      have S14 : Go p e below A0 (T9.setTop (mkF m 21 #[.val (.ref x'), .val (.ref t), .val (.int (2 : Int32)), .val (.int (1 : Int32)), .val (.ref di)] [(.ref di)])) := by
        refine S13.trans ?_
        refine (Own.P.astore K9.here K9.exec (l' := #[.val (.ref x'), .val (.ref t), .val (.int (2 : Int32)), .val (.int (1 : Int32)), .val (.ref di)]) (hb hby d_prog_12_method_7_code_17) rfl rfl).trans ?_
        refine (Own.P.aload K9.here K9.exec (hb hby d_prog_12_method_7_code_19) rfl rfl).trans ?_
        exact Go.refl _
      obtain ⟨T15, K15, G15⟩ := K9.getF "" (Or.inl (hw _ (List.mem_of_getElem? (i := 91) rfl))) Via.refl (FD.ext K9.ext) (pc := 21) (Ls := #[.val (.ref x'), .val (.ref t), .val (.int (2 : Int32)), .val (.int (1 : Int32)), .val (.ref di)]) (rest := []) (hb hby d_prog_12_method_7_code_21)
      have S15 : Go p e below A0 (T15.setTop (mkF m 24 #[.val (.ref x'), .val (.ref t), .val (.int (2 : Int32)), .val (.int (1 : Int32)), .val (.ref di)] [(.ref sb)])) := S14.trans G15
      have S16 : Go p e below A0 (T15.setTop (mkF m 25 #[.val (.ref x'), .val (.ref t), .val (.int (2 : Int32)), .val (.int (1 : Int32)), .val (.ref di)] [(.ref x'), (.ref sb)])) := by
        refine S15.trans ?_
        refine (Own.P.aloadN K15.here K15.exec (hb hby d_prog_12_method_7_code_24) rfl rfl).trans ?_
        exact Go.refl _
      obtain ⟨v17, vm17, vq17, T17, h17, K17, KK17, ev17, Q17, G17⟩ := K15.callV (C := "java/lang/String") (y := (⟨"java/lang/String", "equals", "(Ljava/lang/Object;)Z"⟩ : MethodName)) (z := (⟨"java/lang/String", "equals", "(Ljava/lang/Object;)Z"⟩ : MethodName)) (hw _ (List.mem_of_getElem? (i := 93) rfl)) (hw _ (List.mem_of_getElem? (i := 61) rfl)) (hw _ (List.mem_of_getElem? (i := 63) rfl)) (Or.inr (Or.inr rfl)) (hw _ (List.mem_of_getElem? (i := 62) rfl)) (by decide) (W := 0) (SB.2.1.ext K15.ext) (argsL := [(.ref x')]) (rest := []) (Own.payEq (W := 0) hw Own.VT.cl (hw _ (List.mem_of_getElem? (i := 8) rfl)) K15.old (SB.ext K15.ext) (by decide) SX' lx SC hzc (by decide) (by decide)) trivial (pc := 25) (Ls := #[.val (.ref x'), .val (.ref t), .val (.int (2 : Int32)), .val (.int (1 : Int32)), .val (.ref di)]) (st := [(.ref x'), (.ref sb)]) (by rw [hml]; rfl) (lenOf pd_4 rfl) rfl (Nat.le_of_eq rfl) (hb hby d_prog_12_method_7_code_25) (by decide) (by decide) all0
      obtain ⟨⟨rfl, e17⟩, -⟩ := Q17
      have S17 : Go p e below A0 (T17.setTop (mkF m 28 #[.val (.ref x'), .val (.ref t), .val (.int (2 : Int32)), .val (.int (1 : Int32)), .val (.ref di)] [(.int (own_seq own_L15 cs))])) := S16.trans G17
      subst e17
      by_cases q1 : own_L15 = cs
      case pos =>
          rw [own_seq1 q1] at S17
          have S18 : Go p e below A0 (T17.setTop (mkF m 33 #[.val (.ref x'), .val (.ref t), .val (.int (2 : Int32)), .val (.int (1 : Int32)), .val (.ref di)] [(.ref di)])) := by
            refine S17.trans ?_
            refine (Own.P.ifNo K17.here K17.exec (hb hby d_prog_12_method_7_code_28) (by decide)).trans ?_
            refine (Own.P.aload K17.here K17.exec (hb hby d_prog_12_method_7_code_31) rfl rfl).trans ?_
            exact Go.refl _
          obtain ⟨v19, vm19, vq19, T19, h19, K19, KK19, ev19, Q19, G19⟩ := K17.callS (y := (⟨"java/util/Optional", "of", "(Ljava/lang/Object;)Ljava/util/Optional;"⟩ : MethodName)) (hw _ (List.mem_of_getElem? (i := 94) rfl)) (hw _ (List.mem_of_getElem? (i := 95) rfl)) (hw _ (List.mem_of_getElem? (i := 96) rfl)) (hw _ (List.mem_of_getElem? (i := 97) rfl)) (by decide) (W := 0) (argsL := [(.ref di)]) (rest := []) ((c_oof l Z a0 hw n0 h17 (K17.old) di).pay Own.VT.cl (hw _ (List.mem_of_getElem? (i := 97) rfl)) (hw _ (List.mem_of_getElem? (i := 96) rfl)) (by decide) (by decide)) trivial (pc := 33) (Ls := #[.val (.ref x'), .val (.ref t), .val (.int (2 : Int32)), .val (.int (1 : Int32)), .val (.ref di)]) (st := [(.ref di)]) (by rw [hml]; rfl) (lenOf pd_6 rfl) rfl (Nat.le_of_eq rfl) (hb hby d_prog_12_method_7_code_33) (by decide) (by decide) all0
          obtain ⟨o', rfl, BO⟩ := Q19
          have S19 : Go p e below A0 (T19.setTop (mkF m 36 #[.val (.ref x'), .val (.ref t), .val (.int (2 : Int32)), .val (.int (1 : Int32)), .val (.ref di)] [(.ref o')])) := S18.trans G19
          rw [own_kp15 q0 q1]
          exact ⟨vm19, T19, h19, (some (.ref o')), _, _, K19, by decide, by decide, ⟨o', rfl, BO⟩, K19.retW S19 hret rfl (Or.inr (Or.inr (Or.inr (Or.inr ⟨rfl, rfl, rfl⟩)))) (hb hby d_prog_12_method_7_code_36)⟩
      case neg =>
          rw [own_seq0 q1] at S17
          have S20 : Go p e below A0 (T17.setTop (mkF m 43 #[.val (.ref x'), .val (.ref t), .val (.int (2 : Int32)), .val (.int (2 : Int32)), .val (.ref di)] [])) := by
            refine S17.trans ?_
            refine (Own.P.ifYes K17.here K17.exec 37 (hb hby d_prog_12_method_7_code_28) (by decide) (by decide) (by decide)).trans ?_
            refine (Own.P.iinc K17.here K17.exec (v := (2 : Int32)) (l' := #[.val (.ref x'), .val (.ref t), .val (.int (2 : Int32)), .val (.int (2 : Int32)), .val (.ref di)]) (hb hby d_prog_12_method_7_code_37) rfl rfl rfl).trans ?_
            refine (Own.P.goto K17.here K17.exec 9 (hb hby d_prog_12_method_7_code_40) (by decide) (by decide)).trans ?_
            refine (Own.P.iloadN K17.here K17.exec (hb hby d_prog_12_method_7_code_9) rfl).trans ?_
            refine (Own.P.iloadN K17.here K17.exec (hb hby d_prog_12_method_7_code_10) rfl).trans ?_
            refine (Own.P.icmpYes K17.here K17.exec 43 (hb hby d_prog_12_method_7_code_11) (by decide) (by decide) (by decide)).trans ?_
            exact Go.refl _
          obtain ⟨v21, vm21, vq21, T21, h21, K21, KK21, ev21, Q21, G21⟩ := K17.callS (y := (⟨"java/util/Optional", "empty", "()Ljava/util/Optional;"⟩ : MethodName)) (hw _ (List.mem_of_getElem? (i := 120) rfl)) (hw _ (List.mem_of_getElem? (i := 121) rfl)) (hw _ (List.mem_of_getElem? (i := 96) rfl)) (hw _ (List.mem_of_getElem? (i := 122) rfl)) (by decide) (W := 0) (argsL := []) (rest := []) ((c_oempty l Z a0 hw n0 h17 (K17.old) em GE BE).pay Own.VT.cl (hw _ (List.mem_of_getElem? (i := 122) rfl)) (hw _ (List.mem_of_getElem? (i := 96) rfl)) (by decide) (by decide)) trivial (pc := 43) (Ls := #[.val (.ref x'), .val (.ref t), .val (.int (2 : Int32)), .val (.int (2 : Int32)), .val (.ref di)]) (st := []) (by rw [hml]; rfl) (lenOf pd_5 rfl) rfl (Nat.le_of_eq rfl) (hb hby d_prog_12_method_7_code_43) (by decide) (by decide) all0
          obtain ⟨rfl, e21⟩ := Q21
          have S21 : Go p e below A0 (T21.setTop (mkF m 46 #[.val (.ref x'), .val (.ref t), .val (.int (2 : Int32)), .val (.int (2 : Int32)), .val (.ref di)] [(.ref em)])) := S20.trans G21
          subst e21
          rw [own_kp0 q0 q1]
          exact ⟨vm21, T21, h21, (some (.ref em)), _, _, K21, by decide, by decide, ⟨em, rfl, OpAt.ext (vl := .null) BE K21.ext⟩, K21.retW S21 hret rfl (Or.inr (Or.inr (Or.inr (Or.inr ⟨rfl, rfl, rfl⟩)))) (hb hby d_prog_12_method_7_code_46)⟩
theorem pd_7 : parseMethodDescriptor "(IIJJZII)C" = some ⟨[.int, .int, .long, .long, .boolean, .int, .int], some .char⟩ := by decide +kernel
theorem pd_8 : parseMethodDescriptor "(Ljava/lang/String;)Ljava/util/Optional;" = some ⟨[(.object "java/lang/String")], some (.object "java/util/Optional")⟩ := by decide +kernel
theorem pd_9 : parseMethodDescriptor "([C)V" = some ⟨[(.array .char)], none⟩ := by decide +kernel
set_option maxRecDepth 65536 in
set_option maxHeartbeats 40000000 in
theorem c_law (l : Launch) (Z : State) (a0 : Array Value) (hw : ∀ d ∈ tables_1, d.before a0 Z = true) (n0 : Nat) (h0 : Heap) (O0 : Old Z n0 h0) (a p5 p6 p7 : Int32) (l1 l2 : Int64) (ac di sa sb va : Addr) (kv : ClassId) (GV : Sta Z Z.heap "com/example/samband/samband/identity/KeyPurpose" "$VALUES" "[Lcom/example/samband/samband/identity/KeyPurpose;" (.ref va)) (AV : Arv Z Z.heap va kv (.object "com/example/samband/samband/identity/KeyPurpose") 2 [.ref ac, .ref di] .null) (XV : Exa Z Z.heap va "[Lcom/example/samband/samband/identity/KeyPurpose;") (FA : Fld Z Z.heap ac "com/example/samband/samband/identity/KeyPurpose" "value" "Ljava/lang/String;" (.ref sa)) (FD : Fld Z Z.heap di "com/example/samband/samband/identity/KeyPurpose" "value" "Ljava/lang/String;" (.ref sb)) (SA : StrIs Z Z.heap sa own_L7) (SB : StrIs Z Z.heap sb own_L15) (XA : Exa Z Z.heap ac "com/example/samband/samband/identity/KeyPurpose") (XD : Exa Z Z.heap di "com/example/samband/samband/identity/KeyPurpose") (GA : Sta Z Z.heap "com/example/samband/samband/identity/KeyPurpose" "ACCESS_TOKEN" "Lcom/example/samband/samband/identity/KeyPurpose;" (.ref ac)) (GD : Sta Z Z.heap "com/example/samband/samband/identity/KeyPurpose" "DIALOG_TOKEN" "Lcom/example/samband/samband/identity/KeyPurpose;" (.ref di)) (em : Addr) (GE : Sta Z Z.heap "java/util/Optional" "EMPTY" "Ljava/util/Optional;" (.ref em)) (BE : OpAt Z Z.heap em .null) (zc : Int32) (hzc : ¬ zc = 0) (SC : Sta Z Z.heap "java/lang/String" "COMPACT_STRINGS" "Z" (.int zc)) (fm : Value) (rf : fm.isRef = true) (SF : Sta Z Z.heap "jdk/internal/util/Preconditions" "SIOOBE_FORMATTER" "Ljava/util/function/BiFunction;" fm) :
    Own.Ctr true l x code maxLocals ret room_1 #[(.int a), (.long l1), (.long l2), (.int p5), (.int p6), (.int p7)] Z h0 (Own.HV Z consts_1 h0) [] (fun v h vm => v = some (.int 1) ∧ True) := by
  refine Own.body (plainFor_of_name pn_0) O0 (fun _ _ _ _ q => by cases q) (fun _ _ _ _ q _ => q) ?_
  intro p e s m below meth c T0 hby hml0 hret hnm hV0 K0
  change Own.Wk true p l e room_1 s m #[(.int a), (.long l1), (.long l2), (.int p5), (.int p6), (.int p7)] below meth c "com/example/samband/samband/identity/KeyPurposeOfPinLaw" Z n0 h0 [] s.vm T0 h0 0 0 at K0
  have hml : c.maxLocals = 19 := hml0
  have S0 : Go p e below (T0.setTop (entryFrame m #[(.int a), (.long l1), (.long l2), (.int p5), (.int p6), (.int p7)] maxLocals)) (T0.setTop (mkF m 0 #[.val (.int a), .val (.long l1), .second, .val (.long l2), .second, .val (.int p5), .val (.int p6), .val (.int p7), .unset, .unset, .unset, .unset, .unset, .unset, .unset, .unset, .unset, .unset, .unset] [])) := fun t k => castTop (by first | rfl | (simp [entryFrame, mkF, argsToLocals, Value.category, maxLocals]; done)) k
  generalize T0.setTop (entryFrame m #[(.int a), (.long l1), (.long l2), (.int p5), (.int p6), (.int p7)] maxLocals) = A0 at S0 ⊢
  have S1 : Go p e below A0 (T0.setTop (mkF m 10 #[.val (.int a), .val (.long l1), .second, .val (.long l2), .second, .val (.int p5), .val (.int p6), .val (.int p7), .val (.int (a &&& (3 : Int32))), .unset, .unset, .unset, .unset, .unset, .unset, .unset, .unset, .unset, .unset] [(.int ((XT.ushr a (2 : Int32)) &&& (1 : Int32)))])) := by
    refine S0.trans ?_
    refine (Own.P.iloadN K0.here K0.exec (hb hby at_0) rfl).trans ?_
    refine (Own.P.iconst K0.here K0.exec (3 : Int32) (hb hby at_1) rfl).trans ?_
    refine (Own.P.iand K0.here K0.exec (hb hby at_2) ).trans ?_
    refine (Own.P.istore K0.here K0.exec (l' := #[.val (.int a), .val (.long l1), .second, .val (.long l2), .second, .val (.int p5), .val (.int p6), .val (.int p7), .val (.int (a &&& (3 : Int32))), .unset, .unset, .unset, .unset, .unset, .unset, .unset, .unset, .unset, .unset]) (hb hby at_3) rfl).trans ?_
    refine (Own.P.iloadN K0.here K0.exec (hb hby at_5) rfl).trans ?_
    refine (Own.P.iconst K0.here K0.exec (2 : Int32) (hb hby at_6) rfl).trans ?_
    refine (Own.P.iushr K0.here K0.exec (hb hby at_7) ).trans ?_
    refine (Own.P.iconst K0.here K0.exec (1 : Int32) (hb hby at_8) rfl).trans ?_
    refine (Own.P.iand K0.here K0.exec (hb hby at_9) ).trans ?_
    exact Go.refl _
  generalize ekd : a &&& 3 = kd at *
  obtain ⟨fl, Sfl⟩ : ∃ fl : Int32, Go p e below A0 (T0.setTop (mkF m 18 #[.val (.int a), .val (.long l1), .second, .val (.long l2), .second, .val (.int p5), .val (.int p6), .val (.int p7), .val (.int kd), .unset, .unset, .unset, .unset, .unset, .unset, .unset, .unset, .unset, .unset] [(.int fl)])) := by
    by_cases q : XT.ushr a 2 &&& 1 = 0
    case pos =>
      have S2 : Go p e below A0 (T0.setTop (mkF m 18 #[.val (.int a), .val (.long l1), .second, .val (.long l2), .second, .val (.int p5), .val (.int p6), .val (.int p7), .val (.int kd), .unset, .unset, .unset, .unset, .unset, .unset, .unset, .unset, .unset, .unset] [(.int (0 : Int32))])) := by
        refine S1.trans ?_
        refine (Own.P.ifYes K0.here K0.exec 17 (hb hby at_10) (XT.i0_eq_t q) (by decide) (by decide)).trans ?_
        refine (Own.P.iconst K0.here K0.exec (0 : Int32) (hb hby at_17) rfl).trans ?_
        exact Go.refl _
      exact ⟨(0 : Int32), S2⟩
    case neg =>
      have S3 : Go p e below A0 (T0.setTop (mkF m 18 #[.val (.int a), .val (.long l1), .second, .val (.long l2), .second, .val (.int p5), .val (.int p6), .val (.int p7), .val (.int kd), .unset, .unset, .unset, .unset, .unset, .unset, .unset, .unset, .unset, .unset] [(.int (1 : Int32))])) := by
        refine S1.trans ?_
        refine (Own.P.ifNo K0.here K0.exec (hb hby at_10) (XT.i0_eq_f q)).trans ?_
        refine (Own.P.iconst K0.here K0.exec (1 : Int32) (hb hby at_13) rfl).trans ?_
        refine (Own.P.goto K0.here K0.exec 18 (hb hby at_14) (by decide) (by decide)).trans ?_
        exact Go.refl _
      exact ⟨(1 : Int32), S3⟩
  have S4 : Go p e below A0 (T0.setTop (mkF m 22 #[.val (.int a), .val (.long l1), .second, .val (.long l2), .second, .val (.int p5), .val (.int p6), .val (.int p7), .val (.int kd), .val (.int fl), .unset, .unset, .unset, .unset, .unset, .unset, .unset, .unset, .unset] [(.int p5)])) := by
    refine Sfl.trans ?_
    refine (Own.P.istore K0.here K0.exec (l' := #[.val (.int a), .val (.long l1), .second, .val (.long l2), .second, .val (.int p5), .val (.int p6), .val (.int p7), .val (.int kd), .val (.int fl), .unset, .unset, .unset, .unset, .unset, .unset, .unset, .unset, .unset]) (hb hby at_18) rfl).trans ?_
    refine (Own.P.iload K0.here K0.exec (hb hby at_20) rfl).trans ?_
    exact Go.refl _
  have G5 := K0.ldcI (v := 2147483647) (hw _ (List.mem_of_getElem? (i := 0) rfl)) (pc := 22) (Ls := #[.val (.int a), .val (.long l1), .second, .val (.long l2), .second, .val (.int p5), .val (.int p6), .val (.int p7), .val (.int kd), .val (.int fl), .unset, .unset, .unset, .unset, .unset, .unset, .unset, .unset, .unset]) (rest := [(.int p5)]) (hb hby at_22)
  have S5 : Go p e below A0 (T0.setTop (mkF m 24 #[.val (.int a), .val (.long l1), .second, .val (.long l2), .second, .val (.int p5), .val (.int p6), .val (.int p7), .val (.int kd), .val (.int fl), .unset, .unset, .unset, .unset, .unset, .unset, .unset, .unset, .unset] [(.int (2147483647 : Int32)), (.int p5)])) := S4.trans G5
  have S6 : Go p e below A0 (T0.setTop (mkF m 27 #[.val (.int a), .val (.long l1), .second, .val (.long l2), .second, .val (.int p5), .val (.int p6), .val (.int p7), .val (.int kd), .val (.int fl), .unset, .unset, .unset, .unset, .unset, .unset, .unset, .unset, .unset] [(.int (12 : Int32)), (.int (p5 &&& (2147483647 : Int32)))])) := by
    refine S5.trans ?_
    refine (Own.P.iand K0.here K0.exec (hb hby at_24) ).trans ?_
    refine (Own.P.bipush K0.here K0.exec (12 : Int32) (hb hby at_25) rfl).trans ?_
    exact Go.refl _
  have S7 : Go p e below A0 (T0.setTop (mkF m 45 #[.val (.int a), .val (.long l1), .second, .val (.long l2), .second, .val (.int p5), .val (.int p6), .val (.int p7), .val (.int kd), .val (.int fl), .val (.int ((p5 &&& (2147483647 : Int32)) % (12 : Int32))), .val (.int ((XT.ushr a (3 : Int32)) &&& (3 : Int32))), .unset, .unset, .unset, .unset, .unset, .unset, .unset] [(.int (7 : Int32)), (.int ((XT.ushr a (5 : Int32)) &&& (7 : Int32)))])) := by
    refine S6.trans ?_
    refine (Own.P.irem K0.here K0.exec (hb hby at_27) (by decide)).trans ?_
    refine (Own.P.istore K0.here K0.exec (l' := #[.val (.int a), .val (.long l1), .second, .val (.long l2), .second, .val (.int p5), .val (.int p6), .val (.int p7), .val (.int kd), .val (.int fl), .val (.int ((p5 &&& (2147483647 : Int32)) % (12 : Int32))), .unset, .unset, .unset, .unset, .unset, .unset, .unset, .unset]) (hb hby at_28) rfl).trans ?_
    refine (Own.P.iloadN K0.here K0.exec (hb hby at_30) rfl).trans ?_
    refine (Own.P.iconst K0.here K0.exec (3 : Int32) (hb hby at_31) rfl).trans ?_
    refine (Own.P.iushr K0.here K0.exec (hb hby at_32) ).trans ?_
    refine (Own.P.iconst K0.here K0.exec (3 : Int32) (hb hby at_33) rfl).trans ?_
    refine (Own.P.iand K0.here K0.exec (hb hby at_34) ).trans ?_
    refine (Own.P.istore K0.here K0.exec (l' := #[.val (.int a), .val (.long l1), .second, .val (.long l2), .second, .val (.int p5), .val (.int p6), .val (.int p7), .val (.int kd), .val (.int fl), .val (.int ((p5 &&& (2147483647 : Int32)) % (12 : Int32))), .val (.int ((XT.ushr a (3 : Int32)) &&& (3 : Int32))), .unset, .unset, .unset, .unset, .unset, .unset, .unset]) (hb hby at_35) rfl).trans ?_
    refine (Own.P.iloadN K0.here K0.exec (hb hby at_37) rfl).trans ?_
    refine (Own.P.iconst K0.here K0.exec (5 : Int32) (hb hby at_38) rfl).trans ?_
    refine (Own.P.iushr K0.here K0.exec (hb hby at_39) ).trans ?_
    refine (Own.P.bipush K0.here K0.exec (7 : Int32) (hb hby at_40) rfl).trans ?_
    refine (Own.P.iand K0.here K0.exec (hb hby at_42) ).trans ?_
    refine (Own.P.bipush K0.here K0.exec (7 : Int32) (hb hby at_43) rfl).trans ?_
    exact Go.refl _
  generalize epos : (p5 &&& 2147483647) % 12 = pos at *
  generalize ek2 : XT.ushr a 3 &&& 3 = k2 at *
  obtain ⟨nul, Snul⟩ : ∃ nul : Int32, Go p e below A0 (T0.setTop (mkF m 53 #[.val (.int a), .val (.long l1), .second, .val (.long l2), .second, .val (.int p5), .val (.int p6), .val (.int p7), .val (.int kd), .val (.int fl), .val (.int pos), .val (.int k2), .unset, .unset, .unset, .unset, .unset, .unset, .unset] [(.int nul)])) := by
    by_cases q : XT.ushr a 5 &&& 7 = 7
    case pos =>
      have S8 : Go p e below A0 (T0.setTop (mkF m 53 #[.val (.int a), .val (.long l1), .second, .val (.long l2), .second, .val (.int p5), .val (.int p6), .val (.int p7), .val (.int kd), .val (.int fl), .val (.int pos), .val (.int k2), .unset, .unset, .unset, .unset, .unset, .unset, .unset] [(.int (1 : Int32))])) := by
        refine S7.trans ?_
        refine (Own.P.icmpNo K0.here K0.exec (hb hby at_45) (XT.ii_ne_f q)).trans ?_
        refine (Own.P.iconst K0.here K0.exec (1 : Int32) (hb hby at_48) rfl).trans ?_
        refine (Own.P.goto K0.here K0.exec 53 (hb hby at_49) (by decide) (by decide)).trans ?_
        exact Go.refl _
      exact ⟨(1 : Int32), S8⟩
    case neg =>
      have S9 : Go p e below A0 (T0.setTop (mkF m 53 #[.val (.int a), .val (.long l1), .second, .val (.long l2), .second, .val (.int p5), .val (.int p6), .val (.int p7), .val (.int kd), .val (.int fl), .val (.int pos), .val (.int k2), .unset, .unset, .unset, .unset, .unset, .unset, .unset] [(.int (0 : Int32))])) := by
        refine S7.trans ?_
        refine (Own.P.icmpYes K0.here K0.exec 52 (hb hby at_45) (XT.ii_ne_t q) (by decide) (by decide)).trans ?_
        refine (Own.P.iconst K0.here K0.exec (0 : Int32) (hb hby at_52) rfl).trans ?_
        exact Go.refl _
      exact ⟨(0 : Int32), S9⟩
  have S10 : Go p e below A0 (T0.setTop (mkF m 57 #[.val (.int a), .val (.long l1), .second, .val (.long l2), .second, .val (.int p5), .val (.int p6), .val (.int p7), .val (.int kd), .val (.int fl), .val (.int pos), .val (.int k2), .val (.int nul), .unset, .unset, .unset, .unset, .unset, .unset] [(.int (12 : Int32))])) := by
    refine Snul.trans ?_
    refine (Own.P.istore K0.here K0.exec (l' := #[.val (.int a), .val (.long l1), .second, .val (.long l2), .second, .val (.int p5), .val (.int p6), .val (.int p7), .val (.int kd), .val (.int fl), .val (.int pos), .val (.int k2), .val (.int nul), .unset, .unset, .unset, .unset, .unset, .unset]) (hb hby at_53) rfl).trans ?_
    refine (Own.P.bipush K0.here K0.exec (12 : Int32) (hb hby at_55) rfl).trans ?_
    exact Go.refl _
  obtain ⟨T11, h11, ca, cA_ca, K11, E11, g_ca, l_ca, ne_ca, V_ca, G11⟩ := K0.newP (aty := .char) (hw _ (List.mem_of_getElem? (i := 1) rfl)) (n := (12 : Int32)) (pc := 57) (Ls := #[.val (.int a), .val (.long l1), .second, .val (.long l2), .second, .val (.int p5), .val (.int p6), .val (.int p7), .val (.int kd), .val (.int fl), .val (.int pos), .val (.int k2), .val (.int nul), .unset, .unset, .unset, .unset, .unset, .unset]) (rest := []) (hb hby at_57) 12 (by decide) (by decide) (by decide) (by decide) (by decide)
  have S11 : Go p e below A0 (T11.setTop (mkF m 59 #[.val (.int a), .val (.long l1), .second, .val (.long l2), .second, .val (.int p5), .val (.int p6), .val (.int p7), .val (.int kd), .val (.int fl), .val (.int pos), .val (.int k2), .val (.int nul), .unset, .unset, .unset, .unset, .unset, .unset] [(.ref ca)])) := S10.trans G11
  have VA : Arv Z h11 ca cA_ca .char 12 [.int 0, .int 0, .int 0, .int 0, .int 0, .int 0, .int 0, .int 0, .int 0, .int 0, .int 0, .int 0] (.int 0) := V_ca.pad (pad_rep [] (.int 0) 12)
  have H0 := CHv.ext E11 hV0.2
  clear V_ca
  have S12 : Go p e below A0 (T11.setTop (mkF m 75 #[.val (.int a), .val (.long l1), .second, .val (.long l2), .second, .val (.int p5), .val (.int p6), .val (.int p7), .val (.int kd), .val (.int fl), .val (.int pos), .val (.int k2), .val (.int nul), .val (.ref ca), .unset, .unset, .unset, .unset, .unset] [(.int p6), (.int pos), (.int fl), (.long l2), (.long l1), (.int kd), (.int (0 : Int32)), (.int (0 : Int32)), (.ref ca)])) := by
    refine S11.trans ?_
    refine (Own.P.astore K11.here K11.exec (l' := #[.val (.int a), .val (.long l1), .second, .val (.long l2), .second, .val (.int p5), .val (.int p6), .val (.int p7), .val (.int kd), .val (.int fl), .val (.int pos), .val (.int k2), .val (.int nul), .val (.ref ca), .unset, .unset, .unset, .unset, .unset]) (hb hby at_59) rfl rfl).trans ?_
    refine (Own.P.aload K11.here K11.exec (hb hby at_61) rfl rfl).trans ?_
    refine (Own.P.iconst K11.here K11.exec (0 : Int32) (hb hby at_63) rfl).trans ?_
    refine (Own.P.iconst K11.here K11.exec (0 : Int32) (hb hby at_64) rfl).trans ?_
    refine (Own.P.iload K11.here K11.exec (hb hby at_65) rfl).trans ?_
    refine (Own.P.lloadN K11.here K11.exec (hb hby at_67) rfl).trans ?_
    refine (Own.P.lloadN K11.here K11.exec (hb hby at_68) rfl).trans ?_
    refine (Own.P.iload K11.here K11.exec (hb hby at_69) rfl).trans ?_
    refine (Own.P.iload K11.here K11.exec (hb hby at_71) rfl).trans ?_
    refine (Own.P.iload K11.here K11.exec (hb hby at_73) rfl).trans ?_
    exact Go.refl _
  obtain ⟨v13, vm13, vq13, T13, h13, K13, KK13, ev13, Q13, G13⟩ := K11.callS (y := (⟨"com/example/samband/samband/identity/KeyPurposeOfPinLaw", "ch", "(IIJJZII)C"⟩ : MethodName)) (hw _ (List.mem_of_getElem? (i := 2) rfl)) (hw _ (List.mem_of_getElem? (i := 3) rfl)) (hw _ (List.mem_of_getElem? (i := 4) rfl)) (hw _ (List.mem_of_getElem? (i := 5) rfl)) (by decide) (W := 2) (argsL := [(.int (0 : Int32)), (.int kd), (.long l1), (.long l2), (.int fl), (.int pos), (.int p6)]) (rest := [(.int (0 : Int32)), (.ref ca)]) ((c_chC l Z a0 hw n0 h11 (K11.old) 0 kd fl pos p6 l1 l2 0 (by decide) rfl zc hzc SC fm rf SF).pay (Own.HV.cl (own_ew hw)) (hw _ (List.mem_of_getElem? (i := 5) rfl)) (hw _ (List.mem_of_getElem? (i := 4) rfl)) (by decide) (by decide)) ⟨K11.warm, H0⟩ (pc := 75) (Ls := #[.val (.int a), .val (.long l1), .second, .val (.long l2), .second, .val (.int p5), .val (.int p6), .val (.int p7), .val (.int kd), .val (.int fl), .val (.int pos), .val (.int k2), .val (.int nul), .val (.ref ca), .unset, .unset, .unset, .unset, .unset]) (st := [(.int p6), (.int pos), (.int fl), (.long l2), (.long l1), (.int kd), (.int (0 : Int32)), (.int (0 : Int32)), (.ref ca)]) (by rw [hml]; rfl) (lenOf pd_7 rfl) rfl (Nat.le_of_eq rfl) (hb hby at_75) (by decide) (by decide) all0
  obtain ⟨rfl, hW13⟩ := ev13 rfl
  obtain ⟨c0, rfl, r0, HS0, D0⟩ := Q13
  have S13 : Go p e below A0 (T13.setTop (mkF m 78 #[.val (.int a), .val (.long l1), .second, .val (.long l2), .second, .val (.int p5), .val (.int p6), .val (.int p7), .val (.int kd), .val (.int fl), .val (.int pos), .val (.int k2), .val (.int nul), .val (.ref ca), .unset, .unset, .unset, .unset, .unset] [(.int c0), (.int (0 : Int32)), (.ref ca)])) := S12.trans G13
  have VK0 := VA.keep KK13 nin0
  obtain ⟨T14, h14, K14, W14, V14, G14⟩ := K13.stC VK0  (j := (0 : Int32)) ⟨by decide, by decide⟩ 0 rfl (Nat.le_of_ble_eq_true rfl) (Or.inr g_ca) (pc := 78) (Ls := #[.val (.int a), .val (.long l1), .second, .val (.long l2), .second, .val (.int p5), .val (.int p6), .val (.int p7), .val (.int kd), .val (.int fl), .val (.int pos), .val (.int k2), .val (.int nul), .val (.ref ca), .unset, .unset, .unset, .unset, .unset]) (rest := []) (hb hby at_78)
  have S14 : Go p e below A0 (T14.setTop (mkF m 79 #[.val (.int a), .val (.long l1), .second, .val (.long l2), .second, .val (.int p5), .val (.int p6), .val (.int p7), .val (.int kd), .val (.int fl), .val (.int pos), .val (.int k2), .val (.int nul), .val (.ref ca), .unset, .unset, .unset, .unset, .unset] [])) := S13.trans G14
  rw [own_nc r0] at V14
  have H0a := CHv.wr W14 (Own.safeArv K14.al VK0 (by decide)) HS0.2
  have D0w : (¬ fl = 0 ∧ (0 : Int32) = pos) ∨ Two Z h14 kd vq13 := D0.imp id fun t => t.wrC W14 VK0 (hw _ (List.mem_of_getElem? (i := 8) rfl))
  have S15 : Go p e below A0 (T14.setTop (mkF m 93 #[.val (.int a), .val (.long l1), .second, .val (.long l2), .second, .val (.int p5), .val (.int p6), .val (.int p7), .val (.int kd), .val (.int fl), .val (.int pos), .val (.int k2), .val (.int nul), .val (.ref ca), .unset, .unset, .unset, .unset, .unset] [(.int p6), (.int pos), (.int fl), (.long l2), (.long l1), (.int kd), (.int (1 : Int32)), (.int (1 : Int32)), (.ref ca)])) := by
    refine S14.trans ?_
    refine (Own.P.aload K14.here K14.exec (hb hby at_79) rfl rfl).trans ?_
    refine (Own.P.iconst K14.here K14.exec (1 : Int32) (hb hby at_81) rfl).trans ?_
    refine (Own.P.iconst K14.here K14.exec (1 : Int32) (hb hby at_82) rfl).trans ?_
    refine (Own.P.iload K14.here K14.exec (hb hby at_83) rfl).trans ?_
    refine (Own.P.lloadN K14.here K14.exec (hb hby at_85) rfl).trans ?_
    refine (Own.P.lloadN K14.here K14.exec (hb hby at_86) rfl).trans ?_
    refine (Own.P.iload K14.here K14.exec (hb hby at_87) rfl).trans ?_
    refine (Own.P.iload K14.here K14.exec (hb hby at_89) rfl).trans ?_
    refine (Own.P.iload K14.here K14.exec (hb hby at_91) rfl).trans ?_
    exact Go.refl _
  obtain ⟨v16, vm16, vq16, T16, h16, K16, KK16, ev16, Q16, G16⟩ := K14.callS (y := (⟨"com/example/samband/samband/identity/KeyPurposeOfPinLaw", "ch", "(IIJJZII)C"⟩ : MethodName)) (hw _ (List.mem_of_getElem? (i := 2) rfl)) (hw _ (List.mem_of_getElem? (i := 3) rfl)) (hw _ (List.mem_of_getElem? (i := 4) rfl)) (hw _ (List.mem_of_getElem? (i := 5) rfl)) (by decide) (W := 2) (argsL := [(.int (1 : Int32)), (.int kd), (.long l1), (.long l2), (.int fl), (.int pos), (.int p6)]) (rest := [(.int (1 : Int32)), (.ref ca)]) ((c_chC l Z a0 hw n0 h14 (K14.old) 1 kd fl pos p6 l1 l2 1 (by decide) rfl zc hzc SC fm rf SF).pay (Own.HV.cl (own_ew hw)) (hw _ (List.mem_of_getElem? (i := 5) rfl)) (hw _ (List.mem_of_getElem? (i := 4) rfl)) (by decide) (by decide)) ⟨K14.warm, H0a⟩ (pc := 93) (Ls := #[.val (.int a), .val (.long l1), .second, .val (.long l2), .second, .val (.int p5), .val (.int p6), .val (.int p7), .val (.int kd), .val (.int fl), .val (.int pos), .val (.int k2), .val (.int nul), .val (.ref ca), .unset, .unset, .unset, .unset, .unset]) (st := [(.int p6), (.int pos), (.int fl), (.long l2), (.long l1), (.int kd), (.int (1 : Int32)), (.int (1 : Int32)), (.ref ca)]) (by rw [hml]; rfl) (lenOf pd_7 rfl) rfl (Nat.le_of_eq rfl) (hb hby at_93) (by decide) (by decide) all0
  obtain ⟨rfl, hW16⟩ := ev16 rfl
  obtain ⟨c1, rfl, r1, HS1, D1⟩ := Q16
  have S16 : Go p e below A0 (T16.setTop (mkF m 96 #[.val (.int a), .val (.long l1), .second, .val (.long l2), .second, .val (.int p5), .val (.int p6), .val (.int p7), .val (.int kd), .val (.int fl), .val (.int pos), .val (.int k2), .val (.int nul), .val (.ref ca), .unset, .unset, .unset, .unset, .unset] [(.int c1), (.int (1 : Int32)), (.ref ca)])) := S15.trans G16
  have VK1 := V14.keep KK16 nin0
  have TW1 : Two Z h16 kd vq16 := by
    rcases D1 with ⟨-, u1⟩ | t
    · rcases D0w with ⟨-, u0⟩ | t0
      · exact absurd (u0.trans u1.symm) (by decide)
      · exact t0.step KK16 (s := s.setVm vq13) rfl hW16
    · exact t
  obtain ⟨T17, h17, K17, W17, V17, G17⟩ := K16.stC VK1  (j := (1 : Int32)) ⟨by decide, by decide⟩ 1 rfl (Nat.le_of_ble_eq_true rfl) (Or.inr g_ca) (pc := 96) (Ls := #[.val (.int a), .val (.long l1), .second, .val (.long l2), .second, .val (.int p5), .val (.int p6), .val (.int p7), .val (.int kd), .val (.int fl), .val (.int pos), .val (.int k2), .val (.int nul), .val (.ref ca), .unset, .unset, .unset, .unset, .unset]) (rest := []) (hb hby at_96)
  have S17 : Go p e below A0 (T17.setTop (mkF m 97 #[.val (.int a), .val (.long l1), .second, .val (.long l2), .second, .val (.int p5), .val (.int p6), .val (.int p7), .val (.int kd), .val (.int fl), .val (.int pos), .val (.int k2), .val (.int nul), .val (.ref ca), .unset, .unset, .unset, .unset, .unset] [])) := S16.trans G17
  rw [own_nc r1] at V17
  have H1a := CHv.wr W17 (Own.safeArv K17.al VK1 (by decide)) HS1.2
  have T1a := TW1.wrC W17 VK1 (hw _ (List.mem_of_getElem? (i := 8) rfl))
  have S18 : Go p e below A0 (T17.setTop (mkF m 111 #[.val (.int a), .val (.long l1), .second, .val (.long l2), .second, .val (.int p5), .val (.int p6), .val (.int p7), .val (.int kd), .val (.int fl), .val (.int pos), .val (.int k2), .val (.int nul), .val (.ref ca), .unset, .unset, .unset, .unset, .unset] [(.int p6), (.int pos), (.int fl), (.long l2), (.long l1), (.int kd), (.int (2 : Int32)), (.int (2 : Int32)), (.ref ca)])) := by
    refine S17.trans ?_
    refine (Own.P.aload K17.here K17.exec (hb hby at_97) rfl rfl).trans ?_
    refine (Own.P.iconst K17.here K17.exec (2 : Int32) (hb hby at_99) rfl).trans ?_
    refine (Own.P.iconst K17.here K17.exec (2 : Int32) (hb hby at_100) rfl).trans ?_
    refine (Own.P.iload K17.here K17.exec (hb hby at_101) rfl).trans ?_
    refine (Own.P.lloadN K17.here K17.exec (hb hby at_103) rfl).trans ?_
    refine (Own.P.lloadN K17.here K17.exec (hb hby at_104) rfl).trans ?_
    refine (Own.P.iload K17.here K17.exec (hb hby at_105) rfl).trans ?_
    refine (Own.P.iload K17.here K17.exec (hb hby at_107) rfl).trans ?_
    refine (Own.P.iload K17.here K17.exec (hb hby at_109) rfl).trans ?_
    exact Go.refl _
  obtain ⟨v19, vm19, vq19, T19, h19, K19, KK19, ev19, Q19, G19⟩ := K17.callS (y := (⟨"com/example/samband/samband/identity/KeyPurposeOfPinLaw", "ch", "(IIJJZII)C"⟩ : MethodName)) (hw _ (List.mem_of_getElem? (i := 2) rfl)) (hw _ (List.mem_of_getElem? (i := 3) rfl)) (hw _ (List.mem_of_getElem? (i := 4) rfl)) (hw _ (List.mem_of_getElem? (i := 5) rfl)) (by decide) (W := 2) (argsL := [(.int (2 : Int32)), (.int kd), (.long l1), (.long l2), (.int fl), (.int pos), (.int p6)]) (rest := [(.int (2 : Int32)), (.ref ca)]) ((c_chB l Z a0 hw n0 h17 (K17.old) 2 kd fl pos p6 l1 l2 2 (by decide) rfl zc hzc SC fm rf SF).payV (VCl.and (Own.HV.cl (own_ew hw)) Two.cl) Two.cl (fun _ q => q.2) (hw _ (List.mem_of_getElem? (i := 5) rfl)) (hw _ (List.mem_of_getElem? (i := 4) rfl)) (by decide) (by decide)) ⟨⟨K17.warm, H1a⟩, T1a⟩ (pc := 111) (Ls := #[.val (.int a), .val (.long l1), .second, .val (.long l2), .second, .val (.int p5), .val (.int p6), .val (.int p7), .val (.int kd), .val (.int fl), .val (.int pos), .val (.int k2), .val (.int nul), .val (.ref ca), .unset, .unset, .unset, .unset, .unset]) (st := [(.int p6), (.int pos), (.int fl), (.long l2), (.long l1), (.int kd), (.int (2 : Int32)), (.int (2 : Int32)), (.ref ca)]) (by rw [hml]; rfl) (lenOf pd_7 rfl) rfl (Nat.le_of_eq rfl) (hb hby at_111) (by decide) (by decide) all0
  obtain ⟨rfl, hW19⟩ := ev19 rfl
  obtain ⟨⟨c2, rfl, r2, e19⟩, hv19⟩ := Q19
  have S19 : Go p e below A0 (T19.setTop (mkF m 114 #[.val (.int a), .val (.long l1), .second, .val (.long l2), .second, .val (.int p5), .val (.int p6), .val (.int p7), .val (.int kd), .val (.int fl), .val (.int pos), .val (.int k2), .val (.int nul), .val (.ref ca), .unset, .unset, .unset, .unset, .unset] [(.int c2), (.int (2 : Int32)), (.ref ca)])) := S18.trans G19
  subst e19
  obtain ⟨T20, h20, K20, W20, V20, G20⟩ := K19.stC V17  (j := (2 : Int32)) ⟨by decide, by decide⟩ 2 rfl (Nat.le_of_ble_eq_true rfl) (Or.inr g_ca) (pc := 114) (Ls := #[.val (.int a), .val (.long l1), .second, .val (.long l2), .second, .val (.int p5), .val (.int p6), .val (.int p7), .val (.int kd), .val (.int fl), .val (.int pos), .val (.int k2), .val (.int nul), .val (.ref ca), .unset, .unset, .unset, .unset, .unset]) (rest := []) (hb hby at_114)
  have S20 : Go p e below A0 (T20.setTop (mkF m 115 #[.val (.int a), .val (.long l1), .second, .val (.long l2), .second, .val (.int p5), .val (.int p6), .val (.int p7), .val (.int kd), .val (.int fl), .val (.int pos), .val (.int k2), .val (.int nul), .val (.ref ca), .unset, .unset, .unset, .unset, .unset] [])) := S19.trans G20
  rw [own_nc r2] at V20
  have H2a := CHv.wr W20 (Own.safeArv K20.al V17 (by decide)) hv19.1.2
  have T2a := hv19.2.wrC W20 V17 (hw _ (List.mem_of_getElem? (i := 8) rfl))
  have S21 : Go p e below A0 (T20.setTop (mkF m 129 #[.val (.int a), .val (.long l1), .second, .val (.long l2), .second, .val (.int p5), .val (.int p6), .val (.int p7), .val (.int kd), .val (.int fl), .val (.int pos), .val (.int k2), .val (.int nul), .val (.ref ca), .unset, .unset, .unset, .unset, .unset] [(.int p6), (.int pos), (.int fl), (.long l2), (.long l1), (.int kd), (.int (3 : Int32)), (.int (3 : Int32)), (.ref ca)])) := by
    refine S20.trans ?_
    refine (Own.P.aload K20.here K20.exec (hb hby at_115) rfl rfl).trans ?_
    refine (Own.P.iconst K20.here K20.exec (3 : Int32) (hb hby at_117) rfl).trans ?_
    refine (Own.P.iconst K20.here K20.exec (3 : Int32) (hb hby at_118) rfl).trans ?_
    refine (Own.P.iload K20.here K20.exec (hb hby at_119) rfl).trans ?_
    refine (Own.P.lloadN K20.here K20.exec (hb hby at_121) rfl).trans ?_
    refine (Own.P.lloadN K20.here K20.exec (hb hby at_122) rfl).trans ?_
    refine (Own.P.iload K20.here K20.exec (hb hby at_123) rfl).trans ?_
    refine (Own.P.iload K20.here K20.exec (hb hby at_125) rfl).trans ?_
    refine (Own.P.iload K20.here K20.exec (hb hby at_127) rfl).trans ?_
    exact Go.refl _
  obtain ⟨v22, vm22, vq22, T22, h22, K22, KK22, ev22, Q22, G22⟩ := K20.callS (y := (⟨"com/example/samband/samband/identity/KeyPurposeOfPinLaw", "ch", "(IIJJZII)C"⟩ : MethodName)) (hw _ (List.mem_of_getElem? (i := 2) rfl)) (hw _ (List.mem_of_getElem? (i := 3) rfl)) (hw _ (List.mem_of_getElem? (i := 4) rfl)) (hw _ (List.mem_of_getElem? (i := 5) rfl)) (by decide) (W := 2) (argsL := [(.int (3 : Int32)), (.int kd), (.long l1), (.long l2), (.int fl), (.int pos), (.int p6)]) (rest := [(.int (3 : Int32)), (.ref ca)]) ((c_chB l Z a0 hw n0 h20 (K20.old) 3 kd fl pos p6 l1 l2 3 (by decide) rfl zc hzc SC fm rf SF).payV (VCl.and (Own.HV.cl (own_ew hw)) Two.cl) Two.cl (fun _ q => q.2) (hw _ (List.mem_of_getElem? (i := 5) rfl)) (hw _ (List.mem_of_getElem? (i := 4) rfl)) (by decide) (by decide)) ⟨⟨K20.warm, H2a⟩, T2a⟩ (pc := 129) (Ls := #[.val (.int a), .val (.long l1), .second, .val (.long l2), .second, .val (.int p5), .val (.int p6), .val (.int p7), .val (.int kd), .val (.int fl), .val (.int pos), .val (.int k2), .val (.int nul), .val (.ref ca), .unset, .unset, .unset, .unset, .unset]) (st := [(.int p6), (.int pos), (.int fl), (.long l2), (.long l1), (.int kd), (.int (3 : Int32)), (.int (3 : Int32)), (.ref ca)]) (by rw [hml]; rfl) (lenOf pd_7 rfl) rfl (Nat.le_of_eq rfl) (hb hby at_129) (by decide) (by decide) all0
  obtain ⟨rfl, hW22⟩ := ev22 rfl
  obtain ⟨⟨c3, rfl, r3, e22⟩, hv22⟩ := Q22
  have S22 : Go p e below A0 (T22.setTop (mkF m 132 #[.val (.int a), .val (.long l1), .second, .val (.long l2), .second, .val (.int p5), .val (.int p6), .val (.int p7), .val (.int kd), .val (.int fl), .val (.int pos), .val (.int k2), .val (.int nul), .val (.ref ca), .unset, .unset, .unset, .unset, .unset] [(.int c3), (.int (3 : Int32)), (.ref ca)])) := S21.trans G22
  subst e22
  obtain ⟨T23, h23, K23, W23, V23, G23⟩ := K22.stC V20  (j := (3 : Int32)) ⟨by decide, by decide⟩ 3 rfl (Nat.le_of_ble_eq_true rfl) (Or.inr g_ca) (pc := 132) (Ls := #[.val (.int a), .val (.long l1), .second, .val (.long l2), .second, .val (.int p5), .val (.int p6), .val (.int p7), .val (.int kd), .val (.int fl), .val (.int pos), .val (.int k2), .val (.int nul), .val (.ref ca), .unset, .unset, .unset, .unset, .unset]) (rest := []) (hb hby at_132)
  have S23 : Go p e below A0 (T23.setTop (mkF m 133 #[.val (.int a), .val (.long l1), .second, .val (.long l2), .second, .val (.int p5), .val (.int p6), .val (.int p7), .val (.int kd), .val (.int fl), .val (.int pos), .val (.int k2), .val (.int nul), .val (.ref ca), .unset, .unset, .unset, .unset, .unset] [])) := S22.trans G23
  rw [own_nc r3] at V23
  have H3a := CHv.wr W23 (Own.safeArv K23.al V20 (by decide)) hv22.1.2
  have T3a := hv22.2.wrC W23 V20 (hw _ (List.mem_of_getElem? (i := 8) rfl))
  have S24 : Go p e below A0 (T23.setTop (mkF m 147 #[.val (.int a), .val (.long l1), .second, .val (.long l2), .second, .val (.int p5), .val (.int p6), .val (.int p7), .val (.int kd), .val (.int fl), .val (.int pos), .val (.int k2), .val (.int nul), .val (.ref ca), .unset, .unset, .unset, .unset, .unset] [(.int p6), (.int pos), (.int fl), (.long l2), (.long l1), (.int kd), (.int (4 : Int32)), (.int (4 : Int32)), (.ref ca)])) := by
    refine S23.trans ?_
    refine (Own.P.aload K23.here K23.exec (hb hby at_133) rfl rfl).trans ?_
    refine (Own.P.iconst K23.here K23.exec (4 : Int32) (hb hby at_135) rfl).trans ?_
    refine (Own.P.iconst K23.here K23.exec (4 : Int32) (hb hby at_136) rfl).trans ?_
    refine (Own.P.iload K23.here K23.exec (hb hby at_137) rfl).trans ?_
    refine (Own.P.lloadN K23.here K23.exec (hb hby at_139) rfl).trans ?_
    refine (Own.P.lloadN K23.here K23.exec (hb hby at_140) rfl).trans ?_
    refine (Own.P.iload K23.here K23.exec (hb hby at_141) rfl).trans ?_
    refine (Own.P.iload K23.here K23.exec (hb hby at_143) rfl).trans ?_
    refine (Own.P.iload K23.here K23.exec (hb hby at_145) rfl).trans ?_
    exact Go.refl _
  obtain ⟨v25, vm25, vq25, T25, h25, K25, KK25, ev25, Q25, G25⟩ := K23.callS (y := (⟨"com/example/samband/samband/identity/KeyPurposeOfPinLaw", "ch", "(IIJJZII)C"⟩ : MethodName)) (hw _ (List.mem_of_getElem? (i := 2) rfl)) (hw _ (List.mem_of_getElem? (i := 3) rfl)) (hw _ (List.mem_of_getElem? (i := 4) rfl)) (hw _ (List.mem_of_getElem? (i := 5) rfl)) (by decide) (W := 2) (argsL := [(.int (4 : Int32)), (.int kd), (.long l1), (.long l2), (.int fl), (.int pos), (.int p6)]) (rest := [(.int (4 : Int32)), (.ref ca)]) ((c_chB l Z a0 hw n0 h23 (K23.old) 4 kd fl pos p6 l1 l2 4 (by decide) rfl zc hzc SC fm rf SF).payV (VCl.and (Own.HV.cl (own_ew hw)) Two.cl) Two.cl (fun _ q => q.2) (hw _ (List.mem_of_getElem? (i := 5) rfl)) (hw _ (List.mem_of_getElem? (i := 4) rfl)) (by decide) (by decide)) ⟨⟨K23.warm, H3a⟩, T3a⟩ (pc := 147) (Ls := #[.val (.int a), .val (.long l1), .second, .val (.long l2), .second, .val (.int p5), .val (.int p6), .val (.int p7), .val (.int kd), .val (.int fl), .val (.int pos), .val (.int k2), .val (.int nul), .val (.ref ca), .unset, .unset, .unset, .unset, .unset]) (st := [(.int p6), (.int pos), (.int fl), (.long l2), (.long l1), (.int kd), (.int (4 : Int32)), (.int (4 : Int32)), (.ref ca)]) (by rw [hml]; rfl) (lenOf pd_7 rfl) rfl (Nat.le_of_eq rfl) (hb hby at_147) (by decide) (by decide) all0
  obtain ⟨rfl, hW25⟩ := ev25 rfl
  obtain ⟨⟨c4, rfl, r4, e25⟩, hv25⟩ := Q25
  have S25 : Go p e below A0 (T25.setTop (mkF m 150 #[.val (.int a), .val (.long l1), .second, .val (.long l2), .second, .val (.int p5), .val (.int p6), .val (.int p7), .val (.int kd), .val (.int fl), .val (.int pos), .val (.int k2), .val (.int nul), .val (.ref ca), .unset, .unset, .unset, .unset, .unset] [(.int c4), (.int (4 : Int32)), (.ref ca)])) := S24.trans G25
  subst e25
  obtain ⟨T26, h26, K26, W26, V26, G26⟩ := K25.stC V23  (j := (4 : Int32)) ⟨by decide, by decide⟩ 4 rfl (Nat.le_of_ble_eq_true rfl) (Or.inr g_ca) (pc := 150) (Ls := #[.val (.int a), .val (.long l1), .second, .val (.long l2), .second, .val (.int p5), .val (.int p6), .val (.int p7), .val (.int kd), .val (.int fl), .val (.int pos), .val (.int k2), .val (.int nul), .val (.ref ca), .unset, .unset, .unset, .unset, .unset]) (rest := []) (hb hby at_150)
  have S26 : Go p e below A0 (T26.setTop (mkF m 151 #[.val (.int a), .val (.long l1), .second, .val (.long l2), .second, .val (.int p5), .val (.int p6), .val (.int p7), .val (.int kd), .val (.int fl), .val (.int pos), .val (.int k2), .val (.int nul), .val (.ref ca), .unset, .unset, .unset, .unset, .unset] [])) := S25.trans G26
  rw [own_nc r4] at V26
  have H4a := CHv.wr W26 (Own.safeArv K26.al V23 (by decide)) hv25.1.2
  have T4a := hv25.2.wrC W26 V23 (hw _ (List.mem_of_getElem? (i := 8) rfl))
  have S27 : Go p e below A0 (T26.setTop (mkF m 165 #[.val (.int a), .val (.long l1), .second, .val (.long l2), .second, .val (.int p5), .val (.int p6), .val (.int p7), .val (.int kd), .val (.int fl), .val (.int pos), .val (.int k2), .val (.int nul), .val (.ref ca), .unset, .unset, .unset, .unset, .unset] [(.int p6), (.int pos), (.int fl), (.long l2), (.long l1), (.int kd), (.int (5 : Int32)), (.int (5 : Int32)), (.ref ca)])) := by
    refine S26.trans ?_
    refine (Own.P.aload K26.here K26.exec (hb hby at_151) rfl rfl).trans ?_
    refine (Own.P.iconst K26.here K26.exec (5 : Int32) (hb hby at_153) rfl).trans ?_
    refine (Own.P.iconst K26.here K26.exec (5 : Int32) (hb hby at_154) rfl).trans ?_
    refine (Own.P.iload K26.here K26.exec (hb hby at_155) rfl).trans ?_
    refine (Own.P.lloadN K26.here K26.exec (hb hby at_157) rfl).trans ?_
    refine (Own.P.lloadN K26.here K26.exec (hb hby at_158) rfl).trans ?_
    refine (Own.P.iload K26.here K26.exec (hb hby at_159) rfl).trans ?_
    refine (Own.P.iload K26.here K26.exec (hb hby at_161) rfl).trans ?_
    refine (Own.P.iload K26.here K26.exec (hb hby at_163) rfl).trans ?_
    exact Go.refl _
  obtain ⟨v28, vm28, vq28, T28, h28, K28, KK28, ev28, Q28, G28⟩ := K26.callS (y := (⟨"com/example/samband/samband/identity/KeyPurposeOfPinLaw", "ch", "(IIJJZII)C"⟩ : MethodName)) (hw _ (List.mem_of_getElem? (i := 2) rfl)) (hw _ (List.mem_of_getElem? (i := 3) rfl)) (hw _ (List.mem_of_getElem? (i := 4) rfl)) (hw _ (List.mem_of_getElem? (i := 5) rfl)) (by decide) (W := 2) (argsL := [(.int (5 : Int32)), (.int kd), (.long l1), (.long l2), (.int fl), (.int pos), (.int p6)]) (rest := [(.int (5 : Int32)), (.ref ca)]) ((c_chB l Z a0 hw n0 h26 (K26.old) 5 kd fl pos p6 l1 l2 5 (by decide) rfl zc hzc SC fm rf SF).payV (VCl.and (Own.HV.cl (own_ew hw)) Two.cl) Two.cl (fun _ q => q.2) (hw _ (List.mem_of_getElem? (i := 5) rfl)) (hw _ (List.mem_of_getElem? (i := 4) rfl)) (by decide) (by decide)) ⟨⟨K26.warm, H4a⟩, T4a⟩ (pc := 165) (Ls := #[.val (.int a), .val (.long l1), .second, .val (.long l2), .second, .val (.int p5), .val (.int p6), .val (.int p7), .val (.int kd), .val (.int fl), .val (.int pos), .val (.int k2), .val (.int nul), .val (.ref ca), .unset, .unset, .unset, .unset, .unset]) (st := [(.int p6), (.int pos), (.int fl), (.long l2), (.long l1), (.int kd), (.int (5 : Int32)), (.int (5 : Int32)), (.ref ca)]) (by rw [hml]; rfl) (lenOf pd_7 rfl) rfl (Nat.le_of_eq rfl) (hb hby at_165) (by decide) (by decide) all0
  obtain ⟨rfl, hW28⟩ := ev28 rfl
  obtain ⟨⟨c5, rfl, r5, e28⟩, hv28⟩ := Q28
  have S28 : Go p e below A0 (T28.setTop (mkF m 168 #[.val (.int a), .val (.long l1), .second, .val (.long l2), .second, .val (.int p5), .val (.int p6), .val (.int p7), .val (.int kd), .val (.int fl), .val (.int pos), .val (.int k2), .val (.int nul), .val (.ref ca), .unset, .unset, .unset, .unset, .unset] [(.int c5), (.int (5 : Int32)), (.ref ca)])) := S27.trans G28
  subst e28
  obtain ⟨T29, h29, K29, W29, V29, G29⟩ := K28.stC V26  (j := (5 : Int32)) ⟨by decide, by decide⟩ 5 rfl (Nat.le_of_ble_eq_true rfl) (Or.inr g_ca) (pc := 168) (Ls := #[.val (.int a), .val (.long l1), .second, .val (.long l2), .second, .val (.int p5), .val (.int p6), .val (.int p7), .val (.int kd), .val (.int fl), .val (.int pos), .val (.int k2), .val (.int nul), .val (.ref ca), .unset, .unset, .unset, .unset, .unset]) (rest := []) (hb hby at_168)
  have S29 : Go p e below A0 (T29.setTop (mkF m 169 #[.val (.int a), .val (.long l1), .second, .val (.long l2), .second, .val (.int p5), .val (.int p6), .val (.int p7), .val (.int kd), .val (.int fl), .val (.int pos), .val (.int k2), .val (.int nul), .val (.ref ca), .unset, .unset, .unset, .unset, .unset] [])) := S28.trans G29
  rw [own_nc r5] at V29
  have H5a := CHv.wr W29 (Own.safeArv K29.al V26 (by decide)) hv28.1.2
  have T5a := hv28.2.wrC W29 V26 (hw _ (List.mem_of_getElem? (i := 8) rfl))
  have S30 : Go p e below A0 (T29.setTop (mkF m 185 #[.val (.int a), .val (.long l1), .second, .val (.long l2), .second, .val (.int p5), .val (.int p6), .val (.int p7), .val (.int kd), .val (.int fl), .val (.int pos), .val (.int k2), .val (.int nul), .val (.ref ca), .unset, .unset, .unset, .unset, .unset] [(.int p6), (.int pos), (.int fl), (.long l2), (.long l1), (.int kd), (.int (6 : Int32)), (.int (6 : Int32)), (.ref ca)])) := by
    refine S29.trans ?_
    refine (Own.P.aload K29.here K29.exec (hb hby at_169) rfl rfl).trans ?_
    refine (Own.P.bipush K29.here K29.exec (6 : Int32) (hb hby at_171) rfl).trans ?_
    refine (Own.P.bipush K29.here K29.exec (6 : Int32) (hb hby at_173) rfl).trans ?_
    refine (Own.P.iload K29.here K29.exec (hb hby at_175) rfl).trans ?_
    refine (Own.P.lloadN K29.here K29.exec (hb hby at_177) rfl).trans ?_
    refine (Own.P.lloadN K29.here K29.exec (hb hby at_178) rfl).trans ?_
    refine (Own.P.iload K29.here K29.exec (hb hby at_179) rfl).trans ?_
    refine (Own.P.iload K29.here K29.exec (hb hby at_181) rfl).trans ?_
    refine (Own.P.iload K29.here K29.exec (hb hby at_183) rfl).trans ?_
    exact Go.refl _
  obtain ⟨v31, vm31, vq31, T31, h31, K31, KK31, ev31, Q31, G31⟩ := K29.callS (y := (⟨"com/example/samband/samband/identity/KeyPurposeOfPinLaw", "ch", "(IIJJZII)C"⟩ : MethodName)) (hw _ (List.mem_of_getElem? (i := 2) rfl)) (hw _ (List.mem_of_getElem? (i := 3) rfl)) (hw _ (List.mem_of_getElem? (i := 4) rfl)) (hw _ (List.mem_of_getElem? (i := 5) rfl)) (by decide) (W := 2) (argsL := [(.int (6 : Int32)), (.int kd), (.long l1), (.long l2), (.int fl), (.int pos), (.int p6)]) (rest := [(.int (6 : Int32)), (.ref ca)]) ((c_chB l Z a0 hw n0 h29 (K29.old) 6 kd fl pos p6 l1 l2 6 (by decide) rfl zc hzc SC fm rf SF).payV (VCl.and (Own.HV.cl (own_ew hw)) Two.cl) Two.cl (fun _ q => q.2) (hw _ (List.mem_of_getElem? (i := 5) rfl)) (hw _ (List.mem_of_getElem? (i := 4) rfl)) (by decide) (by decide)) ⟨⟨K29.warm, H5a⟩, T5a⟩ (pc := 185) (Ls := #[.val (.int a), .val (.long l1), .second, .val (.long l2), .second, .val (.int p5), .val (.int p6), .val (.int p7), .val (.int kd), .val (.int fl), .val (.int pos), .val (.int k2), .val (.int nul), .val (.ref ca), .unset, .unset, .unset, .unset, .unset]) (st := [(.int p6), (.int pos), (.int fl), (.long l2), (.long l1), (.int kd), (.int (6 : Int32)), (.int (6 : Int32)), (.ref ca)]) (by rw [hml]; rfl) (lenOf pd_7 rfl) rfl (Nat.le_of_eq rfl) (hb hby at_185) (by decide) (by decide) all0
  obtain ⟨rfl, hW31⟩ := ev31 rfl
  obtain ⟨⟨c6, rfl, r6, e31⟩, hv31⟩ := Q31
  have S31 : Go p e below A0 (T31.setTop (mkF m 188 #[.val (.int a), .val (.long l1), .second, .val (.long l2), .second, .val (.int p5), .val (.int p6), .val (.int p7), .val (.int kd), .val (.int fl), .val (.int pos), .val (.int k2), .val (.int nul), .val (.ref ca), .unset, .unset, .unset, .unset, .unset] [(.int c6), (.int (6 : Int32)), (.ref ca)])) := S30.trans G31
  subst e31
  obtain ⟨T32, h32, K32, W32, V32, G32⟩ := K31.stC V29  (j := (6 : Int32)) ⟨by decide, by decide⟩ 6 rfl (Nat.le_of_ble_eq_true rfl) (Or.inr g_ca) (pc := 188) (Ls := #[.val (.int a), .val (.long l1), .second, .val (.long l2), .second, .val (.int p5), .val (.int p6), .val (.int p7), .val (.int kd), .val (.int fl), .val (.int pos), .val (.int k2), .val (.int nul), .val (.ref ca), .unset, .unset, .unset, .unset, .unset]) (rest := []) (hb hby at_188)
  have S32 : Go p e below A0 (T32.setTop (mkF m 189 #[.val (.int a), .val (.long l1), .second, .val (.long l2), .second, .val (.int p5), .val (.int p6), .val (.int p7), .val (.int kd), .val (.int fl), .val (.int pos), .val (.int k2), .val (.int nul), .val (.ref ca), .unset, .unset, .unset, .unset, .unset] [])) := S31.trans G32
  rw [own_nc r6] at V32
  have H6a := CHv.wr W32 (Own.safeArv K32.al V29 (by decide)) hv31.1.2
  have T6a := hv31.2.wrC W32 V29 (hw _ (List.mem_of_getElem? (i := 8) rfl))
  have S33 : Go p e below A0 (T32.setTop (mkF m 205 #[.val (.int a), .val (.long l1), .second, .val (.long l2), .second, .val (.int p5), .val (.int p6), .val (.int p7), .val (.int kd), .val (.int fl), .val (.int pos), .val (.int k2), .val (.int nul), .val (.ref ca), .unset, .unset, .unset, .unset, .unset] [(.int p6), (.int pos), (.int fl), (.long l2), (.long l1), (.int kd), (.int (7 : Int32)), (.int (7 : Int32)), (.ref ca)])) := by
    refine S32.trans ?_
    refine (Own.P.aload K32.here K32.exec (hb hby at_189) rfl rfl).trans ?_
    refine (Own.P.bipush K32.here K32.exec (7 : Int32) (hb hby at_191) rfl).trans ?_
    refine (Own.P.bipush K32.here K32.exec (7 : Int32) (hb hby at_193) rfl).trans ?_
    refine (Own.P.iload K32.here K32.exec (hb hby at_195) rfl).trans ?_
    refine (Own.P.lloadN K32.here K32.exec (hb hby at_197) rfl).trans ?_
    refine (Own.P.lloadN K32.here K32.exec (hb hby at_198) rfl).trans ?_
    refine (Own.P.iload K32.here K32.exec (hb hby at_199) rfl).trans ?_
    refine (Own.P.iload K32.here K32.exec (hb hby at_201) rfl).trans ?_
    refine (Own.P.iload K32.here K32.exec (hb hby at_203) rfl).trans ?_
    exact Go.refl _
  obtain ⟨v34, vm34, vq34, T34, h34, K34, KK34, ev34, Q34, G34⟩ := K32.callS (y := (⟨"com/example/samband/samband/identity/KeyPurposeOfPinLaw", "ch", "(IIJJZII)C"⟩ : MethodName)) (hw _ (List.mem_of_getElem? (i := 2) rfl)) (hw _ (List.mem_of_getElem? (i := 3) rfl)) (hw _ (List.mem_of_getElem? (i := 4) rfl)) (hw _ (List.mem_of_getElem? (i := 5) rfl)) (by decide) (W := 2) (argsL := [(.int (7 : Int32)), (.int kd), (.long l1), (.long l2), (.int fl), (.int pos), (.int p6)]) (rest := [(.int (7 : Int32)), (.ref ca)]) ((c_chB l Z a0 hw n0 h32 (K32.old) 7 kd fl pos p6 l1 l2 7 (by decide) rfl zc hzc SC fm rf SF).payV (VCl.and (Own.HV.cl (own_ew hw)) Two.cl) Two.cl (fun _ q => q.2) (hw _ (List.mem_of_getElem? (i := 5) rfl)) (hw _ (List.mem_of_getElem? (i := 4) rfl)) (by decide) (by decide)) ⟨⟨K32.warm, H6a⟩, T6a⟩ (pc := 205) (Ls := #[.val (.int a), .val (.long l1), .second, .val (.long l2), .second, .val (.int p5), .val (.int p6), .val (.int p7), .val (.int kd), .val (.int fl), .val (.int pos), .val (.int k2), .val (.int nul), .val (.ref ca), .unset, .unset, .unset, .unset, .unset]) (st := [(.int p6), (.int pos), (.int fl), (.long l2), (.long l1), (.int kd), (.int (7 : Int32)), (.int (7 : Int32)), (.ref ca)]) (by rw [hml]; rfl) (lenOf pd_7 rfl) rfl (Nat.le_of_eq rfl) (hb hby at_205) (by decide) (by decide) all0
  obtain ⟨rfl, hW34⟩ := ev34 rfl
  obtain ⟨⟨c7, rfl, r7, e34⟩, hv34⟩ := Q34
  have S34 : Go p e below A0 (T34.setTop (mkF m 208 #[.val (.int a), .val (.long l1), .second, .val (.long l2), .second, .val (.int p5), .val (.int p6), .val (.int p7), .val (.int kd), .val (.int fl), .val (.int pos), .val (.int k2), .val (.int nul), .val (.ref ca), .unset, .unset, .unset, .unset, .unset] [(.int c7), (.int (7 : Int32)), (.ref ca)])) := S33.trans G34
  subst e34
  obtain ⟨T35, h35, K35, W35, V35, G35⟩ := K34.stC V32  (j := (7 : Int32)) ⟨by decide, by decide⟩ 7 rfl (Nat.le_of_ble_eq_true rfl) (Or.inr g_ca) (pc := 208) (Ls := #[.val (.int a), .val (.long l1), .second, .val (.long l2), .second, .val (.int p5), .val (.int p6), .val (.int p7), .val (.int kd), .val (.int fl), .val (.int pos), .val (.int k2), .val (.int nul), .val (.ref ca), .unset, .unset, .unset, .unset, .unset]) (rest := []) (hb hby at_208)
  have S35 : Go p e below A0 (T35.setTop (mkF m 209 #[.val (.int a), .val (.long l1), .second, .val (.long l2), .second, .val (.int p5), .val (.int p6), .val (.int p7), .val (.int kd), .val (.int fl), .val (.int pos), .val (.int k2), .val (.int nul), .val (.ref ca), .unset, .unset, .unset, .unset, .unset] [])) := S34.trans G35
  rw [own_nc r7] at V35
  have H7a := CHv.wr W35 (Own.safeArv K35.al V32 (by decide)) hv34.1.2
  have T7a := hv34.2.wrC W35 V32 (hw _ (List.mem_of_getElem? (i := 8) rfl))
  have S36 : Go p e below A0 (T35.setTop (mkF m 225 #[.val (.int a), .val (.long l1), .second, .val (.long l2), .second, .val (.int p5), .val (.int p6), .val (.int p7), .val (.int kd), .val (.int fl), .val (.int pos), .val (.int k2), .val (.int nul), .val (.ref ca), .unset, .unset, .unset, .unset, .unset] [(.int p6), (.int pos), (.int fl), (.long l2), (.long l1), (.int kd), (.int (8 : Int32)), (.int (8 : Int32)), (.ref ca)])) := by
    refine S35.trans ?_
    refine (Own.P.aload K35.here K35.exec (hb hby at_209) rfl rfl).trans ?_
    refine (Own.P.bipush K35.here K35.exec (8 : Int32) (hb hby at_211) rfl).trans ?_
    refine (Own.P.bipush K35.here K35.exec (8 : Int32) (hb hby at_213) rfl).trans ?_
    refine (Own.P.iload K35.here K35.exec (hb hby at_215) rfl).trans ?_
    refine (Own.P.lloadN K35.here K35.exec (hb hby at_217) rfl).trans ?_
    refine (Own.P.lloadN K35.here K35.exec (hb hby at_218) rfl).trans ?_
    refine (Own.P.iload K35.here K35.exec (hb hby at_219) rfl).trans ?_
    refine (Own.P.iload K35.here K35.exec (hb hby at_221) rfl).trans ?_
    refine (Own.P.iload K35.here K35.exec (hb hby at_223) rfl).trans ?_
    exact Go.refl _
  obtain ⟨v37, vm37, vq37, T37, h37, K37, KK37, ev37, Q37, G37⟩ := K35.callS (y := (⟨"com/example/samband/samband/identity/KeyPurposeOfPinLaw", "ch", "(IIJJZII)C"⟩ : MethodName)) (hw _ (List.mem_of_getElem? (i := 2) rfl)) (hw _ (List.mem_of_getElem? (i := 3) rfl)) (hw _ (List.mem_of_getElem? (i := 4) rfl)) (hw _ (List.mem_of_getElem? (i := 5) rfl)) (by decide) (W := 2) (argsL := [(.int (8 : Int32)), (.int kd), (.long l1), (.long l2), (.int fl), (.int pos), (.int p6)]) (rest := [(.int (8 : Int32)), (.ref ca)]) ((c_chB l Z a0 hw n0 h35 (K35.old) 8 kd fl pos p6 l1 l2 8 (by decide) rfl zc hzc SC fm rf SF).payV (VCl.and (Own.HV.cl (own_ew hw)) Two.cl) Two.cl (fun _ q => q.2) (hw _ (List.mem_of_getElem? (i := 5) rfl)) (hw _ (List.mem_of_getElem? (i := 4) rfl)) (by decide) (by decide)) ⟨⟨K35.warm, H7a⟩, T7a⟩ (pc := 225) (Ls := #[.val (.int a), .val (.long l1), .second, .val (.long l2), .second, .val (.int p5), .val (.int p6), .val (.int p7), .val (.int kd), .val (.int fl), .val (.int pos), .val (.int k2), .val (.int nul), .val (.ref ca), .unset, .unset, .unset, .unset, .unset]) (st := [(.int p6), (.int pos), (.int fl), (.long l2), (.long l1), (.int kd), (.int (8 : Int32)), (.int (8 : Int32)), (.ref ca)]) (by rw [hml]; rfl) (lenOf pd_7 rfl) rfl (Nat.le_of_eq rfl) (hb hby at_225) (by decide) (by decide) all0
  obtain ⟨rfl, hW37⟩ := ev37 rfl
  obtain ⟨⟨c8, rfl, r8, e37⟩, hv37⟩ := Q37
  have S37 : Go p e below A0 (T37.setTop (mkF m 228 #[.val (.int a), .val (.long l1), .second, .val (.long l2), .second, .val (.int p5), .val (.int p6), .val (.int p7), .val (.int kd), .val (.int fl), .val (.int pos), .val (.int k2), .val (.int nul), .val (.ref ca), .unset, .unset, .unset, .unset, .unset] [(.int c8), (.int (8 : Int32)), (.ref ca)])) := S36.trans G37
  subst e37
  obtain ⟨T38, h38, K38, W38, V38, G38⟩ := K37.stC V35  (j := (8 : Int32)) ⟨by decide, by decide⟩ 8 rfl (Nat.le_of_ble_eq_true rfl) (Or.inr g_ca) (pc := 228) (Ls := #[.val (.int a), .val (.long l1), .second, .val (.long l2), .second, .val (.int p5), .val (.int p6), .val (.int p7), .val (.int kd), .val (.int fl), .val (.int pos), .val (.int k2), .val (.int nul), .val (.ref ca), .unset, .unset, .unset, .unset, .unset]) (rest := []) (hb hby at_228)
  have S38 : Go p e below A0 (T38.setTop (mkF m 229 #[.val (.int a), .val (.long l1), .second, .val (.long l2), .second, .val (.int p5), .val (.int p6), .val (.int p7), .val (.int kd), .val (.int fl), .val (.int pos), .val (.int k2), .val (.int nul), .val (.ref ca), .unset, .unset, .unset, .unset, .unset] [])) := S37.trans G38
  rw [own_nc r8] at V38
  have H8a := CHv.wr W38 (Own.safeArv K38.al V35 (by decide)) hv37.1.2
  have T8a := hv37.2.wrC W38 V35 (hw _ (List.mem_of_getElem? (i := 8) rfl))
  have S39 : Go p e below A0 (T38.setTop (mkF m 245 #[.val (.int a), .val (.long l1), .second, .val (.long l2), .second, .val (.int p5), .val (.int p6), .val (.int p7), .val (.int kd), .val (.int fl), .val (.int pos), .val (.int k2), .val (.int nul), .val (.ref ca), .unset, .unset, .unset, .unset, .unset] [(.int p6), (.int pos), (.int fl), (.long l2), (.long l1), (.int kd), (.int (9 : Int32)), (.int (9 : Int32)), (.ref ca)])) := by
    refine S38.trans ?_
    refine (Own.P.aload K38.here K38.exec (hb hby at_229) rfl rfl).trans ?_
    refine (Own.P.bipush K38.here K38.exec (9 : Int32) (hb hby at_231) rfl).trans ?_
    refine (Own.P.bipush K38.here K38.exec (9 : Int32) (hb hby at_233) rfl).trans ?_
    refine (Own.P.iload K38.here K38.exec (hb hby at_235) rfl).trans ?_
    refine (Own.P.lloadN K38.here K38.exec (hb hby at_237) rfl).trans ?_
    refine (Own.P.lloadN K38.here K38.exec (hb hby at_238) rfl).trans ?_
    refine (Own.P.iload K38.here K38.exec (hb hby at_239) rfl).trans ?_
    refine (Own.P.iload K38.here K38.exec (hb hby at_241) rfl).trans ?_
    refine (Own.P.iload K38.here K38.exec (hb hby at_243) rfl).trans ?_
    exact Go.refl _
  obtain ⟨v40, vm40, vq40, T40, h40, K40, KK40, ev40, Q40, G40⟩ := K38.callS (y := (⟨"com/example/samband/samband/identity/KeyPurposeOfPinLaw", "ch", "(IIJJZII)C"⟩ : MethodName)) (hw _ (List.mem_of_getElem? (i := 2) rfl)) (hw _ (List.mem_of_getElem? (i := 3) rfl)) (hw _ (List.mem_of_getElem? (i := 4) rfl)) (hw _ (List.mem_of_getElem? (i := 5) rfl)) (by decide) (W := 2) (argsL := [(.int (9 : Int32)), (.int kd), (.long l1), (.long l2), (.int fl), (.int pos), (.int p6)]) (rest := [(.int (9 : Int32)), (.ref ca)]) ((c_chB l Z a0 hw n0 h38 (K38.old) 9 kd fl pos p6 l1 l2 9 (by decide) rfl zc hzc SC fm rf SF).payV (VCl.and (Own.HV.cl (own_ew hw)) Two.cl) Two.cl (fun _ q => q.2) (hw _ (List.mem_of_getElem? (i := 5) rfl)) (hw _ (List.mem_of_getElem? (i := 4) rfl)) (by decide) (by decide)) ⟨⟨K38.warm, H8a⟩, T8a⟩ (pc := 245) (Ls := #[.val (.int a), .val (.long l1), .second, .val (.long l2), .second, .val (.int p5), .val (.int p6), .val (.int p7), .val (.int kd), .val (.int fl), .val (.int pos), .val (.int k2), .val (.int nul), .val (.ref ca), .unset, .unset, .unset, .unset, .unset]) (st := [(.int p6), (.int pos), (.int fl), (.long l2), (.long l1), (.int kd), (.int (9 : Int32)), (.int (9 : Int32)), (.ref ca)]) (by rw [hml]; rfl) (lenOf pd_7 rfl) rfl (Nat.le_of_eq rfl) (hb hby at_245) (by decide) (by decide) all0
  obtain ⟨rfl, hW40⟩ := ev40 rfl
  obtain ⟨⟨c9, rfl, r9, e40⟩, hv40⟩ := Q40
  have S40 : Go p e below A0 (T40.setTop (mkF m 248 #[.val (.int a), .val (.long l1), .second, .val (.long l2), .second, .val (.int p5), .val (.int p6), .val (.int p7), .val (.int kd), .val (.int fl), .val (.int pos), .val (.int k2), .val (.int nul), .val (.ref ca), .unset, .unset, .unset, .unset, .unset] [(.int c9), (.int (9 : Int32)), (.ref ca)])) := S39.trans G40
  subst e40
  obtain ⟨T41, h41, K41, W41, V41, G41⟩ := K40.stC V38  (j := (9 : Int32)) ⟨by decide, by decide⟩ 9 rfl (Nat.le_of_ble_eq_true rfl) (Or.inr g_ca) (pc := 248) (Ls := #[.val (.int a), .val (.long l1), .second, .val (.long l2), .second, .val (.int p5), .val (.int p6), .val (.int p7), .val (.int kd), .val (.int fl), .val (.int pos), .val (.int k2), .val (.int nul), .val (.ref ca), .unset, .unset, .unset, .unset, .unset]) (rest := []) (hb hby at_248)
  have S41 : Go p e below A0 (T41.setTop (mkF m 249 #[.val (.int a), .val (.long l1), .second, .val (.long l2), .second, .val (.int p5), .val (.int p6), .val (.int p7), .val (.int kd), .val (.int fl), .val (.int pos), .val (.int k2), .val (.int nul), .val (.ref ca), .unset, .unset, .unset, .unset, .unset] [])) := S40.trans G41
  rw [own_nc r9] at V41
  have H9a := CHv.wr W41 (Own.safeArv K41.al V38 (by decide)) hv40.1.2
  have T9a := hv40.2.wrC W41 V38 (hw _ (List.mem_of_getElem? (i := 8) rfl))
  have S42 : Go p e below A0 (T41.setTop (mkF m 265 #[.val (.int a), .val (.long l1), .second, .val (.long l2), .second, .val (.int p5), .val (.int p6), .val (.int p7), .val (.int kd), .val (.int fl), .val (.int pos), .val (.int k2), .val (.int nul), .val (.ref ca), .unset, .unset, .unset, .unset, .unset] [(.int p6), (.int pos), (.int fl), (.long l2), (.long l1), (.int kd), (.int (10 : Int32)), (.int (10 : Int32)), (.ref ca)])) := by
    refine S41.trans ?_
    refine (Own.P.aload K41.here K41.exec (hb hby at_249) rfl rfl).trans ?_
    refine (Own.P.bipush K41.here K41.exec (10 : Int32) (hb hby at_251) rfl).trans ?_
    refine (Own.P.bipush K41.here K41.exec (10 : Int32) (hb hby at_253) rfl).trans ?_
    refine (Own.P.iload K41.here K41.exec (hb hby at_255) rfl).trans ?_
    refine (Own.P.lloadN K41.here K41.exec (hb hby at_257) rfl).trans ?_
    refine (Own.P.lloadN K41.here K41.exec (hb hby at_258) rfl).trans ?_
    refine (Own.P.iload K41.here K41.exec (hb hby at_259) rfl).trans ?_
    refine (Own.P.iload K41.here K41.exec (hb hby at_261) rfl).trans ?_
    refine (Own.P.iload K41.here K41.exec (hb hby at_263) rfl).trans ?_
    exact Go.refl _
  obtain ⟨v43, vm43, vq43, T43, h43, K43, KK43, ev43, Q43, G43⟩ := K41.callS (y := (⟨"com/example/samband/samband/identity/KeyPurposeOfPinLaw", "ch", "(IIJJZII)C"⟩ : MethodName)) (hw _ (List.mem_of_getElem? (i := 2) rfl)) (hw _ (List.mem_of_getElem? (i := 3) rfl)) (hw _ (List.mem_of_getElem? (i := 4) rfl)) (hw _ (List.mem_of_getElem? (i := 5) rfl)) (by decide) (W := 2) (argsL := [(.int (10 : Int32)), (.int kd), (.long l1), (.long l2), (.int fl), (.int pos), (.int p6)]) (rest := [(.int (10 : Int32)), (.ref ca)]) ((c_chB l Z a0 hw n0 h41 (K41.old) 10 kd fl pos p6 l1 l2 10 (by decide) rfl zc hzc SC fm rf SF).payV (VCl.and (Own.HV.cl (own_ew hw)) Two.cl) Two.cl (fun _ q => q.2) (hw _ (List.mem_of_getElem? (i := 5) rfl)) (hw _ (List.mem_of_getElem? (i := 4) rfl)) (by decide) (by decide)) ⟨⟨K41.warm, H9a⟩, T9a⟩ (pc := 265) (Ls := #[.val (.int a), .val (.long l1), .second, .val (.long l2), .second, .val (.int p5), .val (.int p6), .val (.int p7), .val (.int kd), .val (.int fl), .val (.int pos), .val (.int k2), .val (.int nul), .val (.ref ca), .unset, .unset, .unset, .unset, .unset]) (st := [(.int p6), (.int pos), (.int fl), (.long l2), (.long l1), (.int kd), (.int (10 : Int32)), (.int (10 : Int32)), (.ref ca)]) (by rw [hml]; rfl) (lenOf pd_7 rfl) rfl (Nat.le_of_eq rfl) (hb hby at_265) (by decide) (by decide) all0
  obtain ⟨rfl, hW43⟩ := ev43 rfl
  obtain ⟨⟨c10, rfl, r10, e43⟩, hv43⟩ := Q43
  have S43 : Go p e below A0 (T43.setTop (mkF m 268 #[.val (.int a), .val (.long l1), .second, .val (.long l2), .second, .val (.int p5), .val (.int p6), .val (.int p7), .val (.int kd), .val (.int fl), .val (.int pos), .val (.int k2), .val (.int nul), .val (.ref ca), .unset, .unset, .unset, .unset, .unset] [(.int c10), (.int (10 : Int32)), (.ref ca)])) := S42.trans G43
  subst e43
  obtain ⟨T44, h44, K44, W44, V44, G44⟩ := K43.stC V41  (j := (10 : Int32)) ⟨by decide, by decide⟩ 10 rfl (Nat.le_of_ble_eq_true rfl) (Or.inr g_ca) (pc := 268) (Ls := #[.val (.int a), .val (.long l1), .second, .val (.long l2), .second, .val (.int p5), .val (.int p6), .val (.int p7), .val (.int kd), .val (.int fl), .val (.int pos), .val (.int k2), .val (.int nul), .val (.ref ca), .unset, .unset, .unset, .unset, .unset]) (rest := []) (hb hby at_268)
  have S44 : Go p e below A0 (T44.setTop (mkF m 269 #[.val (.int a), .val (.long l1), .second, .val (.long l2), .second, .val (.int p5), .val (.int p6), .val (.int p7), .val (.int kd), .val (.int fl), .val (.int pos), .val (.int k2), .val (.int nul), .val (.ref ca), .unset, .unset, .unset, .unset, .unset] [])) := S43.trans G44
  rw [own_nc r10] at V44
  have H10a := CHv.wr W44 (Own.safeArv K44.al V41 (by decide)) hv43.1.2
  have T10a := hv43.2.wrC W44 V41 (hw _ (List.mem_of_getElem? (i := 8) rfl))
  have S45 : Go p e below A0 (T44.setTop (mkF m 285 #[.val (.int a), .val (.long l1), .second, .val (.long l2), .second, .val (.int p5), .val (.int p6), .val (.int p7), .val (.int kd), .val (.int fl), .val (.int pos), .val (.int k2), .val (.int nul), .val (.ref ca), .unset, .unset, .unset, .unset, .unset] [(.int p6), (.int pos), (.int fl), (.long l2), (.long l1), (.int kd), (.int (11 : Int32)), (.int (11 : Int32)), (.ref ca)])) := by
    refine S44.trans ?_
    refine (Own.P.aload K44.here K44.exec (hb hby at_269) rfl rfl).trans ?_
    refine (Own.P.bipush K44.here K44.exec (11 : Int32) (hb hby at_271) rfl).trans ?_
    refine (Own.P.bipush K44.here K44.exec (11 : Int32) (hb hby at_273) rfl).trans ?_
    refine (Own.P.iload K44.here K44.exec (hb hby at_275) rfl).trans ?_
    refine (Own.P.lloadN K44.here K44.exec (hb hby at_277) rfl).trans ?_
    refine (Own.P.lloadN K44.here K44.exec (hb hby at_278) rfl).trans ?_
    refine (Own.P.iload K44.here K44.exec (hb hby at_279) rfl).trans ?_
    refine (Own.P.iload K44.here K44.exec (hb hby at_281) rfl).trans ?_
    refine (Own.P.iload K44.here K44.exec (hb hby at_283) rfl).trans ?_
    exact Go.refl _
  obtain ⟨v46, vm46, vq46, T46, h46, K46, KK46, ev46, Q46, G46⟩ := K44.callS (y := (⟨"com/example/samband/samband/identity/KeyPurposeOfPinLaw", "ch", "(IIJJZII)C"⟩ : MethodName)) (hw _ (List.mem_of_getElem? (i := 2) rfl)) (hw _ (List.mem_of_getElem? (i := 3) rfl)) (hw _ (List.mem_of_getElem? (i := 4) rfl)) (hw _ (List.mem_of_getElem? (i := 5) rfl)) (by decide) (W := 2) (argsL := [(.int (11 : Int32)), (.int kd), (.long l1), (.long l2), (.int fl), (.int pos), (.int p6)]) (rest := [(.int (11 : Int32)), (.ref ca)]) ((c_chB l Z a0 hw n0 h44 (K44.old) 11 kd fl pos p6 l1 l2 11 (by decide) rfl zc hzc SC fm rf SF).payV (VCl.and (Own.HV.cl (own_ew hw)) Two.cl) Two.cl (fun _ q => q.2) (hw _ (List.mem_of_getElem? (i := 5) rfl)) (hw _ (List.mem_of_getElem? (i := 4) rfl)) (by decide) (by decide)) ⟨⟨K44.warm, H10a⟩, T10a⟩ (pc := 285) (Ls := #[.val (.int a), .val (.long l1), .second, .val (.long l2), .second, .val (.int p5), .val (.int p6), .val (.int p7), .val (.int kd), .val (.int fl), .val (.int pos), .val (.int k2), .val (.int nul), .val (.ref ca), .unset, .unset, .unset, .unset, .unset]) (st := [(.int p6), (.int pos), (.int fl), (.long l2), (.long l1), (.int kd), (.int (11 : Int32)), (.int (11 : Int32)), (.ref ca)]) (by rw [hml]; rfl) (lenOf pd_7 rfl) rfl (Nat.le_of_eq rfl) (hb hby at_285) (by decide) (by decide) all0
  obtain ⟨rfl, hW46⟩ := ev46 rfl
  obtain ⟨⟨c11, rfl, r11, e46⟩, hv46⟩ := Q46
  have S46 : Go p e below A0 (T46.setTop (mkF m 288 #[.val (.int a), .val (.long l1), .second, .val (.long l2), .second, .val (.int p5), .val (.int p6), .val (.int p7), .val (.int kd), .val (.int fl), .val (.int pos), .val (.int k2), .val (.int nul), .val (.ref ca), .unset, .unset, .unset, .unset, .unset] [(.int c11), (.int (11 : Int32)), (.ref ca)])) := S45.trans G46
  subst e46
  obtain ⟨T47, h47, K47, W47, V47, G47⟩ := K46.stC V44  (j := (11 : Int32)) ⟨by decide, by decide⟩ 11 rfl (Nat.le_of_ble_eq_true rfl) (Or.inr g_ca) (pc := 288) (Ls := #[.val (.int a), .val (.long l1), .second, .val (.long l2), .second, .val (.int p5), .val (.int p6), .val (.int p7), .val (.int kd), .val (.int fl), .val (.int pos), .val (.int k2), .val (.int nul), .val (.ref ca), .unset, .unset, .unset, .unset, .unset]) (rest := []) (hb hby at_288)
  have S47 : Go p e below A0 (T47.setTop (mkF m 289 #[.val (.int a), .val (.long l1), .second, .val (.long l2), .second, .val (.int p5), .val (.int p6), .val (.int p7), .val (.int kd), .val (.int fl), .val (.int pos), .val (.int k2), .val (.int nul), .val (.ref ca), .unset, .unset, .unset, .unset, .unset] [])) := S46.trans G47
  rw [own_nc r11] at V47
  have H11a := CHv.wr W47 (Own.safeArv K47.al V44 (by decide)) hv46.1.2
  have T11a := hv46.2.wrC W47 V44 (hw _ (List.mem_of_getElem? (i := 8) rfl))
  have S48 : Go p e below A0 (T47.setTop (mkF m 291 #[.val (.int a), .val (.long l1), .second, .val (.long l2), .second, .val (.int p5), .val (.int p6), .val (.int p7), .val (.int kd), .val (.int fl), .val (.int pos), .val (.int k2), .val (.int nul), .val (.ref ca), .unset, .unset, .unset, .unset, .unset] [(.int (11 : Int32))])) := by
    refine S47.trans ?_
    refine (Own.P.bipush K47.here K47.exec (11 : Int32) (hb hby at_289) rfl).trans ?_
    exact Go.refl _
  obtain ⟨T49, h49, cb, cA_cb, K49, E49, g_cb, l_cb, ne_cb, V_cb, G49⟩ := K47.newP (aty := .char) (hw _ (List.mem_of_getElem? (i := 1) rfl)) (n := (11 : Int32)) (pc := 291) (Ls := #[.val (.int a), .val (.long l1), .second, .val (.long l2), .second, .val (.int p5), .val (.int p6), .val (.int p7), .val (.int kd), .val (.int fl), .val (.int pos), .val (.int k2), .val (.int nul), .val (.ref ca), .unset, .unset, .unset, .unset, .unset]) (rest := []) (hb hby at_291) 11 (by decide) (by decide) (by decide) (by decide) (by decide)
  have S49 : Go p e below A0 (T49.setTop (mkF m 293 #[.val (.int a), .val (.long l1), .second, .val (.long l2), .second, .val (.int p5), .val (.int p6), .val (.int p7), .val (.int kd), .val (.int fl), .val (.int pos), .val (.int k2), .val (.int nul), .val (.ref ca), .unset, .unset, .unset, .unset, .unset] [(.ref cb)])) := S48.trans G49
  have Y0_cb : Arv Z h49 cb cA_cb .char 11 [.int 0, .int 0, .int 0, .int 0, .int 0, .int 0, .int 0, .int 0, .int 0, .int 0, .int 0] (.int 0) := V_cb.pad (pad_rep [] (.int 0) 11)
  have ne_acb : ca ≠ cb := ne_cb _ V47.lt
  have VA_cb := V47.ext E49
  have H_cb := CHv.ext E49 H11a
  have S50 : Go p e below A0 (T49.setTop (mkF m 301 #[.val (.int a), .val (.long l1), .second, .val (.long l2), .second, .val (.int p5), .val (.int p6), .val (.int p7), .val (.int kd), .val (.int fl), .val (.int pos), .val (.int k2), .val (.int nul), .val (.ref ca), .val (.ref cb), .unset, .unset, .unset, .unset] [(.int (0 : Int32)), (.ref ca), (.int (0 : Int32)), (.ref cb)])) := by
    refine S49.trans ?_
    refine (Own.P.astore K49.here K49.exec (l' := #[.val (.int a), .val (.long l1), .second, .val (.long l2), .second, .val (.int p5), .val (.int p6), .val (.int p7), .val (.int kd), .val (.int fl), .val (.int pos), .val (.int k2), .val (.int nul), .val (.ref ca), .val (.ref cb), .unset, .unset, .unset, .unset]) (hb hby at_293) rfl rfl).trans ?_
    refine (Own.P.aload K49.here K49.exec (hb hby at_295) rfl rfl).trans ?_
    refine (Own.P.iconst K49.here K49.exec (0 : Int32) (hb hby at_297) rfl).trans ?_
    refine (Own.P.aload K49.here K49.exec (hb hby at_298) rfl rfl).trans ?_
    refine (Own.P.iconst K49.here K49.exec (0 : Int32) (hb hby at_300) rfl).trans ?_
    exact Go.refl _
  have G51 := K49.ldC VA_cb (j := (0 : Int32)) ⟨by decide, by decide⟩ (v := (.int c0)) rfl (pc := 301) (Ls := #[.val (.int a), .val (.long l1), .second, .val (.long l2), .second, .val (.int p5), .val (.int p6), .val (.int p7), .val (.int kd), .val (.int fl), .val (.int pos), .val (.int k2), .val (.int nul), .val (.ref ca), .val (.ref cb), .unset, .unset, .unset, .unset]) (rest := [(.int (0 : Int32)), (.ref cb)]) (hb hby at_301)
  have S51 : Go p e below A0 (T49.setTop (mkF m 302 #[.val (.int a), .val (.long l1), .second, .val (.long l2), .second, .val (.int p5), .val (.int p6), .val (.int p7), .val (.int kd), .val (.int fl), .val (.int pos), .val (.int k2), .val (.int nul), .val (.ref ca), .val (.ref cb), .unset, .unset, .unset, .unset] [(.int c0), (.int (0 : Int32)), (.ref cb)])) := S50.trans G51
  obtain ⟨T52, h52, K52, W52, V52, G52⟩ := K49.stC Y0_cb  (j := (0 : Int32)) ⟨by decide, by decide⟩ 0 rfl (Nat.le_of_ble_eq_true rfl) (Or.inr g_cb) (pc := 302) (Ls := #[.val (.int a), .val (.long l1), .second, .val (.long l2), .second, .val (.int p5), .val (.int p6), .val (.int p7), .val (.int kd), .val (.int fl), .val (.int pos), .val (.int k2), .val (.int nul), .val (.ref ca), .val (.ref cb), .unset, .unset, .unset, .unset]) (rest := []) (hb hby at_302)
  have S52 : Go p e below A0 (T52.setTop (mkF m 303 #[.val (.int a), .val (.long l1), .second, .val (.long l2), .second, .val (.int p5), .val (.int p6), .val (.int p7), .val (.int kd), .val (.int fl), .val (.int pos), .val (.int k2), .val (.int nul), .val (.ref ca), .val (.ref cb), .unset, .unset, .unset, .unset] [])) := S51.trans G52
  rw [own_nc r0] at V52
  have VAcb0 := VA_cb.other W52 ne_acb
  have Hcb0 := CHv.wr W52 (Own.safeArv K52.al Y0_cb (by decide)) H_cb
  have S53 : Go p e below A0 (T52.setTop (mkF m 309 #[.val (.int a), .val (.long l1), .second, .val (.long l2), .second, .val (.int p5), .val (.int p6), .val (.int p7), .val (.int kd), .val (.int fl), .val (.int pos), .val (.int k2), .val (.int nul), .val (.ref ca), .val (.ref cb), .unset, .unset, .unset, .unset] [(.int (1 : Int32)), (.ref ca), (.int (1 : Int32)), (.ref cb)])) := by
    refine S52.trans ?_
    refine (Own.P.aload K52.here K52.exec (hb hby at_303) rfl rfl).trans ?_
    refine (Own.P.iconst K52.here K52.exec (1 : Int32) (hb hby at_305) rfl).trans ?_
    refine (Own.P.aload K52.here K52.exec (hb hby at_306) rfl rfl).trans ?_
    refine (Own.P.iconst K52.here K52.exec (1 : Int32) (hb hby at_308) rfl).trans ?_
    exact Go.refl _
  have G54 := K52.ldC VAcb0 (j := (1 : Int32)) ⟨by decide, by decide⟩ (v := (.int c1)) rfl (pc := 309) (Ls := #[.val (.int a), .val (.long l1), .second, .val (.long l2), .second, .val (.int p5), .val (.int p6), .val (.int p7), .val (.int kd), .val (.int fl), .val (.int pos), .val (.int k2), .val (.int nul), .val (.ref ca), .val (.ref cb), .unset, .unset, .unset, .unset]) (rest := [(.int (1 : Int32)), (.ref cb)]) (hb hby at_309)
  have S54 : Go p e below A0 (T52.setTop (mkF m 310 #[.val (.int a), .val (.long l1), .second, .val (.long l2), .second, .val (.int p5), .val (.int p6), .val (.int p7), .val (.int kd), .val (.int fl), .val (.int pos), .val (.int k2), .val (.int nul), .val (.ref ca), .val (.ref cb), .unset, .unset, .unset, .unset] [(.int c1), (.int (1 : Int32)), (.ref cb)])) := S53.trans G54
  obtain ⟨T55, h55, K55, W55, V55, G55⟩ := K52.stC V52  (j := (1 : Int32)) ⟨by decide, by decide⟩ 1 rfl (Nat.le_of_ble_eq_true rfl) (Or.inr g_cb) (pc := 310) (Ls := #[.val (.int a), .val (.long l1), .second, .val (.long l2), .second, .val (.int p5), .val (.int p6), .val (.int p7), .val (.int kd), .val (.int fl), .val (.int pos), .val (.int k2), .val (.int nul), .val (.ref ca), .val (.ref cb), .unset, .unset, .unset, .unset]) (rest := []) (hb hby at_310)
  have S55 : Go p e below A0 (T55.setTop (mkF m 311 #[.val (.int a), .val (.long l1), .second, .val (.long l2), .second, .val (.int p5), .val (.int p6), .val (.int p7), .val (.int kd), .val (.int fl), .val (.int pos), .val (.int k2), .val (.int nul), .val (.ref ca), .val (.ref cb), .unset, .unset, .unset, .unset] [])) := S54.trans G55
  rw [own_nc r1] at V55
  have VAcb1 := VAcb0.other W55 ne_acb
  have Hcb1 := CHv.wr W55 (Own.safeArv K55.al V52 (by decide)) Hcb0
  have S56 : Go p e below A0 (T55.setTop (mkF m 317 #[.val (.int a), .val (.long l1), .second, .val (.long l2), .second, .val (.int p5), .val (.int p6), .val (.int p7), .val (.int kd), .val (.int fl), .val (.int pos), .val (.int k2), .val (.int nul), .val (.ref ca), .val (.ref cb), .unset, .unset, .unset, .unset] [(.int (2 : Int32)), (.ref ca), (.int (2 : Int32)), (.ref cb)])) := by
    refine S55.trans ?_
    refine (Own.P.aload K55.here K55.exec (hb hby at_311) rfl rfl).trans ?_
    refine (Own.P.iconst K55.here K55.exec (2 : Int32) (hb hby at_313) rfl).trans ?_
    refine (Own.P.aload K55.here K55.exec (hb hby at_314) rfl rfl).trans ?_
    refine (Own.P.iconst K55.here K55.exec (2 : Int32) (hb hby at_316) rfl).trans ?_
    exact Go.refl _
  have G57 := K55.ldC VAcb1 (j := (2 : Int32)) ⟨by decide, by decide⟩ (v := (.int c2)) rfl (pc := 317) (Ls := #[.val (.int a), .val (.long l1), .second, .val (.long l2), .second, .val (.int p5), .val (.int p6), .val (.int p7), .val (.int kd), .val (.int fl), .val (.int pos), .val (.int k2), .val (.int nul), .val (.ref ca), .val (.ref cb), .unset, .unset, .unset, .unset]) (rest := [(.int (2 : Int32)), (.ref cb)]) (hb hby at_317)
  have S57 : Go p e below A0 (T55.setTop (mkF m 318 #[.val (.int a), .val (.long l1), .second, .val (.long l2), .second, .val (.int p5), .val (.int p6), .val (.int p7), .val (.int kd), .val (.int fl), .val (.int pos), .val (.int k2), .val (.int nul), .val (.ref ca), .val (.ref cb), .unset, .unset, .unset, .unset] [(.int c2), (.int (2 : Int32)), (.ref cb)])) := S56.trans G57
  obtain ⟨T58, h58, K58, W58, V58, G58⟩ := K55.stC V55  (j := (2 : Int32)) ⟨by decide, by decide⟩ 2 rfl (Nat.le_of_ble_eq_true rfl) (Or.inr g_cb) (pc := 318) (Ls := #[.val (.int a), .val (.long l1), .second, .val (.long l2), .second, .val (.int p5), .val (.int p6), .val (.int p7), .val (.int kd), .val (.int fl), .val (.int pos), .val (.int k2), .val (.int nul), .val (.ref ca), .val (.ref cb), .unset, .unset, .unset, .unset]) (rest := []) (hb hby at_318)
  have S58 : Go p e below A0 (T58.setTop (mkF m 319 #[.val (.int a), .val (.long l1), .second, .val (.long l2), .second, .val (.int p5), .val (.int p6), .val (.int p7), .val (.int kd), .val (.int fl), .val (.int pos), .val (.int k2), .val (.int nul), .val (.ref ca), .val (.ref cb), .unset, .unset, .unset, .unset] [])) := S57.trans G58
  rw [own_nc r2] at V58
  have VAcb2 := VAcb1.other W58 ne_acb
  have Hcb2 := CHv.wr W58 (Own.safeArv K58.al V55 (by decide)) Hcb1
  have S59 : Go p e below A0 (T58.setTop (mkF m 325 #[.val (.int a), .val (.long l1), .second, .val (.long l2), .second, .val (.int p5), .val (.int p6), .val (.int p7), .val (.int kd), .val (.int fl), .val (.int pos), .val (.int k2), .val (.int nul), .val (.ref ca), .val (.ref cb), .unset, .unset, .unset, .unset] [(.int (3 : Int32)), (.ref ca), (.int (3 : Int32)), (.ref cb)])) := by
    refine S58.trans ?_
    refine (Own.P.aload K58.here K58.exec (hb hby at_319) rfl rfl).trans ?_
    refine (Own.P.iconst K58.here K58.exec (3 : Int32) (hb hby at_321) rfl).trans ?_
    refine (Own.P.aload K58.here K58.exec (hb hby at_322) rfl rfl).trans ?_
    refine (Own.P.iconst K58.here K58.exec (3 : Int32) (hb hby at_324) rfl).trans ?_
    exact Go.refl _
  have G60 := K58.ldC VAcb2 (j := (3 : Int32)) ⟨by decide, by decide⟩ (v := (.int c3)) rfl (pc := 325) (Ls := #[.val (.int a), .val (.long l1), .second, .val (.long l2), .second, .val (.int p5), .val (.int p6), .val (.int p7), .val (.int kd), .val (.int fl), .val (.int pos), .val (.int k2), .val (.int nul), .val (.ref ca), .val (.ref cb), .unset, .unset, .unset, .unset]) (rest := [(.int (3 : Int32)), (.ref cb)]) (hb hby at_325)
  have S60 : Go p e below A0 (T58.setTop (mkF m 326 #[.val (.int a), .val (.long l1), .second, .val (.long l2), .second, .val (.int p5), .val (.int p6), .val (.int p7), .val (.int kd), .val (.int fl), .val (.int pos), .val (.int k2), .val (.int nul), .val (.ref ca), .val (.ref cb), .unset, .unset, .unset, .unset] [(.int c3), (.int (3 : Int32)), (.ref cb)])) := S59.trans G60
  obtain ⟨T61, h61, K61, W61, V61, G61⟩ := K58.stC V58  (j := (3 : Int32)) ⟨by decide, by decide⟩ 3 rfl (Nat.le_of_ble_eq_true rfl) (Or.inr g_cb) (pc := 326) (Ls := #[.val (.int a), .val (.long l1), .second, .val (.long l2), .second, .val (.int p5), .val (.int p6), .val (.int p7), .val (.int kd), .val (.int fl), .val (.int pos), .val (.int k2), .val (.int nul), .val (.ref ca), .val (.ref cb), .unset, .unset, .unset, .unset]) (rest := []) (hb hby at_326)
  have S61 : Go p e below A0 (T61.setTop (mkF m 327 #[.val (.int a), .val (.long l1), .second, .val (.long l2), .second, .val (.int p5), .val (.int p6), .val (.int p7), .val (.int kd), .val (.int fl), .val (.int pos), .val (.int k2), .val (.int nul), .val (.ref ca), .val (.ref cb), .unset, .unset, .unset, .unset] [])) := S60.trans G61
  rw [own_nc r3] at V61
  have VAcb3 := VAcb2.other W61 ne_acb
  have Hcb3 := CHv.wr W61 (Own.safeArv K61.al V58 (by decide)) Hcb2
  have S62 : Go p e below A0 (T61.setTop (mkF m 333 #[.val (.int a), .val (.long l1), .second, .val (.long l2), .second, .val (.int p5), .val (.int p6), .val (.int p7), .val (.int kd), .val (.int fl), .val (.int pos), .val (.int k2), .val (.int nul), .val (.ref ca), .val (.ref cb), .unset, .unset, .unset, .unset] [(.int (4 : Int32)), (.ref ca), (.int (4 : Int32)), (.ref cb)])) := by
    refine S61.trans ?_
    refine (Own.P.aload K61.here K61.exec (hb hby at_327) rfl rfl).trans ?_
    refine (Own.P.iconst K61.here K61.exec (4 : Int32) (hb hby at_329) rfl).trans ?_
    refine (Own.P.aload K61.here K61.exec (hb hby at_330) rfl rfl).trans ?_
    refine (Own.P.iconst K61.here K61.exec (4 : Int32) (hb hby at_332) rfl).trans ?_
    exact Go.refl _
  have G63 := K61.ldC VAcb3 (j := (4 : Int32)) ⟨by decide, by decide⟩ (v := (.int c4)) rfl (pc := 333) (Ls := #[.val (.int a), .val (.long l1), .second, .val (.long l2), .second, .val (.int p5), .val (.int p6), .val (.int p7), .val (.int kd), .val (.int fl), .val (.int pos), .val (.int k2), .val (.int nul), .val (.ref ca), .val (.ref cb), .unset, .unset, .unset, .unset]) (rest := [(.int (4 : Int32)), (.ref cb)]) (hb hby at_333)
  have S63 : Go p e below A0 (T61.setTop (mkF m 334 #[.val (.int a), .val (.long l1), .second, .val (.long l2), .second, .val (.int p5), .val (.int p6), .val (.int p7), .val (.int kd), .val (.int fl), .val (.int pos), .val (.int k2), .val (.int nul), .val (.ref ca), .val (.ref cb), .unset, .unset, .unset, .unset] [(.int c4), (.int (4 : Int32)), (.ref cb)])) := S62.trans G63
  obtain ⟨T64, h64, K64, W64, V64, G64⟩ := K61.stC V61  (j := (4 : Int32)) ⟨by decide, by decide⟩ 4 rfl (Nat.le_of_ble_eq_true rfl) (Or.inr g_cb) (pc := 334) (Ls := #[.val (.int a), .val (.long l1), .second, .val (.long l2), .second, .val (.int p5), .val (.int p6), .val (.int p7), .val (.int kd), .val (.int fl), .val (.int pos), .val (.int k2), .val (.int nul), .val (.ref ca), .val (.ref cb), .unset, .unset, .unset, .unset]) (rest := []) (hb hby at_334)
  have S64 : Go p e below A0 (T64.setTop (mkF m 335 #[.val (.int a), .val (.long l1), .second, .val (.long l2), .second, .val (.int p5), .val (.int p6), .val (.int p7), .val (.int kd), .val (.int fl), .val (.int pos), .val (.int k2), .val (.int nul), .val (.ref ca), .val (.ref cb), .unset, .unset, .unset, .unset] [])) := S63.trans G64
  rw [own_nc r4] at V64
  have VAcb4 := VAcb3.other W64 ne_acb
  have Hcb4 := CHv.wr W64 (Own.safeArv K64.al V61 (by decide)) Hcb3
  have S65 : Go p e below A0 (T64.setTop (mkF m 341 #[.val (.int a), .val (.long l1), .second, .val (.long l2), .second, .val (.int p5), .val (.int p6), .val (.int p7), .val (.int kd), .val (.int fl), .val (.int pos), .val (.int k2), .val (.int nul), .val (.ref ca), .val (.ref cb), .unset, .unset, .unset, .unset] [(.int (5 : Int32)), (.ref ca), (.int (5 : Int32)), (.ref cb)])) := by
    refine S64.trans ?_
    refine (Own.P.aload K64.here K64.exec (hb hby at_335) rfl rfl).trans ?_
    refine (Own.P.iconst K64.here K64.exec (5 : Int32) (hb hby at_337) rfl).trans ?_
    refine (Own.P.aload K64.here K64.exec (hb hby at_338) rfl rfl).trans ?_
    refine (Own.P.iconst K64.here K64.exec (5 : Int32) (hb hby at_340) rfl).trans ?_
    exact Go.refl _
  have G66 := K64.ldC VAcb4 (j := (5 : Int32)) ⟨by decide, by decide⟩ (v := (.int c5)) rfl (pc := 341) (Ls := #[.val (.int a), .val (.long l1), .second, .val (.long l2), .second, .val (.int p5), .val (.int p6), .val (.int p7), .val (.int kd), .val (.int fl), .val (.int pos), .val (.int k2), .val (.int nul), .val (.ref ca), .val (.ref cb), .unset, .unset, .unset, .unset]) (rest := [(.int (5 : Int32)), (.ref cb)]) (hb hby at_341)
  have S66 : Go p e below A0 (T64.setTop (mkF m 342 #[.val (.int a), .val (.long l1), .second, .val (.long l2), .second, .val (.int p5), .val (.int p6), .val (.int p7), .val (.int kd), .val (.int fl), .val (.int pos), .val (.int k2), .val (.int nul), .val (.ref ca), .val (.ref cb), .unset, .unset, .unset, .unset] [(.int c5), (.int (5 : Int32)), (.ref cb)])) := S65.trans G66
  obtain ⟨T67, h67, K67, W67, V67, G67⟩ := K64.stC V64  (j := (5 : Int32)) ⟨by decide, by decide⟩ 5 rfl (Nat.le_of_ble_eq_true rfl) (Or.inr g_cb) (pc := 342) (Ls := #[.val (.int a), .val (.long l1), .second, .val (.long l2), .second, .val (.int p5), .val (.int p6), .val (.int p7), .val (.int kd), .val (.int fl), .val (.int pos), .val (.int k2), .val (.int nul), .val (.ref ca), .val (.ref cb), .unset, .unset, .unset, .unset]) (rest := []) (hb hby at_342)
  have S67 : Go p e below A0 (T67.setTop (mkF m 343 #[.val (.int a), .val (.long l1), .second, .val (.long l2), .second, .val (.int p5), .val (.int p6), .val (.int p7), .val (.int kd), .val (.int fl), .val (.int pos), .val (.int k2), .val (.int nul), .val (.ref ca), .val (.ref cb), .unset, .unset, .unset, .unset] [])) := S66.trans G67
  rw [own_nc r5] at V67
  have VAcb5 := VAcb4.other W67 ne_acb
  have Hcb5 := CHv.wr W67 (Own.safeArv K67.al V64 (by decide)) Hcb4
  have S68 : Go p e below A0 (T67.setTop (mkF m 351 #[.val (.int a), .val (.long l1), .second, .val (.long l2), .second, .val (.int p5), .val (.int p6), .val (.int p7), .val (.int kd), .val (.int fl), .val (.int pos), .val (.int k2), .val (.int nul), .val (.ref ca), .val (.ref cb), .unset, .unset, .unset, .unset] [(.int (6 : Int32)), (.ref ca), (.int (6 : Int32)), (.ref cb)])) := by
    refine S67.trans ?_
    refine (Own.P.aload K67.here K67.exec (hb hby at_343) rfl rfl).trans ?_
    refine (Own.P.bipush K67.here K67.exec (6 : Int32) (hb hby at_345) rfl).trans ?_
    refine (Own.P.aload K67.here K67.exec (hb hby at_347) rfl rfl).trans ?_
    refine (Own.P.bipush K67.here K67.exec (6 : Int32) (hb hby at_349) rfl).trans ?_
    exact Go.refl _
  have G69 := K67.ldC VAcb5 (j := (6 : Int32)) ⟨by decide, by decide⟩ (v := (.int c6)) rfl (pc := 351) (Ls := #[.val (.int a), .val (.long l1), .second, .val (.long l2), .second, .val (.int p5), .val (.int p6), .val (.int p7), .val (.int kd), .val (.int fl), .val (.int pos), .val (.int k2), .val (.int nul), .val (.ref ca), .val (.ref cb), .unset, .unset, .unset, .unset]) (rest := [(.int (6 : Int32)), (.ref cb)]) (hb hby at_351)
  have S69 : Go p e below A0 (T67.setTop (mkF m 352 #[.val (.int a), .val (.long l1), .second, .val (.long l2), .second, .val (.int p5), .val (.int p6), .val (.int p7), .val (.int kd), .val (.int fl), .val (.int pos), .val (.int k2), .val (.int nul), .val (.ref ca), .val (.ref cb), .unset, .unset, .unset, .unset] [(.int c6), (.int (6 : Int32)), (.ref cb)])) := S68.trans G69
  obtain ⟨T70, h70, K70, W70, V70, G70⟩ := K67.stC V67  (j := (6 : Int32)) ⟨by decide, by decide⟩ 6 rfl (Nat.le_of_ble_eq_true rfl) (Or.inr g_cb) (pc := 352) (Ls := #[.val (.int a), .val (.long l1), .second, .val (.long l2), .second, .val (.int p5), .val (.int p6), .val (.int p7), .val (.int kd), .val (.int fl), .val (.int pos), .val (.int k2), .val (.int nul), .val (.ref ca), .val (.ref cb), .unset, .unset, .unset, .unset]) (rest := []) (hb hby at_352)
  have S70 : Go p e below A0 (T70.setTop (mkF m 353 #[.val (.int a), .val (.long l1), .second, .val (.long l2), .second, .val (.int p5), .val (.int p6), .val (.int p7), .val (.int kd), .val (.int fl), .val (.int pos), .val (.int k2), .val (.int nul), .val (.ref ca), .val (.ref cb), .unset, .unset, .unset, .unset] [])) := S69.trans G70
  rw [own_nc r6] at V70
  have VAcb6 := VAcb5.other W70 ne_acb
  have Hcb6 := CHv.wr W70 (Own.safeArv K70.al V67 (by decide)) Hcb5
  have S71 : Go p e below A0 (T70.setTop (mkF m 361 #[.val (.int a), .val (.long l1), .second, .val (.long l2), .second, .val (.int p5), .val (.int p6), .val (.int p7), .val (.int kd), .val (.int fl), .val (.int pos), .val (.int k2), .val (.int nul), .val (.ref ca), .val (.ref cb), .unset, .unset, .unset, .unset] [(.int (7 : Int32)), (.ref ca), (.int (7 : Int32)), (.ref cb)])) := by
    refine S70.trans ?_
    refine (Own.P.aload K70.here K70.exec (hb hby at_353) rfl rfl).trans ?_
    refine (Own.P.bipush K70.here K70.exec (7 : Int32) (hb hby at_355) rfl).trans ?_
    refine (Own.P.aload K70.here K70.exec (hb hby at_357) rfl rfl).trans ?_
    refine (Own.P.bipush K70.here K70.exec (7 : Int32) (hb hby at_359) rfl).trans ?_
    exact Go.refl _
  have G72 := K70.ldC VAcb6 (j := (7 : Int32)) ⟨by decide, by decide⟩ (v := (.int c7)) rfl (pc := 361) (Ls := #[.val (.int a), .val (.long l1), .second, .val (.long l2), .second, .val (.int p5), .val (.int p6), .val (.int p7), .val (.int kd), .val (.int fl), .val (.int pos), .val (.int k2), .val (.int nul), .val (.ref ca), .val (.ref cb), .unset, .unset, .unset, .unset]) (rest := [(.int (7 : Int32)), (.ref cb)]) (hb hby at_361)
  have S72 : Go p e below A0 (T70.setTop (mkF m 362 #[.val (.int a), .val (.long l1), .second, .val (.long l2), .second, .val (.int p5), .val (.int p6), .val (.int p7), .val (.int kd), .val (.int fl), .val (.int pos), .val (.int k2), .val (.int nul), .val (.ref ca), .val (.ref cb), .unset, .unset, .unset, .unset] [(.int c7), (.int (7 : Int32)), (.ref cb)])) := S71.trans G72
  obtain ⟨T73, h73, K73, W73, V73, G73⟩ := K70.stC V70  (j := (7 : Int32)) ⟨by decide, by decide⟩ 7 rfl (Nat.le_of_ble_eq_true rfl) (Or.inr g_cb) (pc := 362) (Ls := #[.val (.int a), .val (.long l1), .second, .val (.long l2), .second, .val (.int p5), .val (.int p6), .val (.int p7), .val (.int kd), .val (.int fl), .val (.int pos), .val (.int k2), .val (.int nul), .val (.ref ca), .val (.ref cb), .unset, .unset, .unset, .unset]) (rest := []) (hb hby at_362)
  have S73 : Go p e below A0 (T73.setTop (mkF m 363 #[.val (.int a), .val (.long l1), .second, .val (.long l2), .second, .val (.int p5), .val (.int p6), .val (.int p7), .val (.int kd), .val (.int fl), .val (.int pos), .val (.int k2), .val (.int nul), .val (.ref ca), .val (.ref cb), .unset, .unset, .unset, .unset] [])) := S72.trans G73
  rw [own_nc r7] at V73
  have VAcb7 := VAcb6.other W73 ne_acb
  have Hcb7 := CHv.wr W73 (Own.safeArv K73.al V70 (by decide)) Hcb6
  have S74 : Go p e below A0 (T73.setTop (mkF m 371 #[.val (.int a), .val (.long l1), .second, .val (.long l2), .second, .val (.int p5), .val (.int p6), .val (.int p7), .val (.int kd), .val (.int fl), .val (.int pos), .val (.int k2), .val (.int nul), .val (.ref ca), .val (.ref cb), .unset, .unset, .unset, .unset] [(.int (8 : Int32)), (.ref ca), (.int (8 : Int32)), (.ref cb)])) := by
    refine S73.trans ?_
    refine (Own.P.aload K73.here K73.exec (hb hby at_363) rfl rfl).trans ?_
    refine (Own.P.bipush K73.here K73.exec (8 : Int32) (hb hby at_365) rfl).trans ?_
    refine (Own.P.aload K73.here K73.exec (hb hby at_367) rfl rfl).trans ?_
    refine (Own.P.bipush K73.here K73.exec (8 : Int32) (hb hby at_369) rfl).trans ?_
    exact Go.refl _
  have G75 := K73.ldC VAcb7 (j := (8 : Int32)) ⟨by decide, by decide⟩ (v := (.int c8)) rfl (pc := 371) (Ls := #[.val (.int a), .val (.long l1), .second, .val (.long l2), .second, .val (.int p5), .val (.int p6), .val (.int p7), .val (.int kd), .val (.int fl), .val (.int pos), .val (.int k2), .val (.int nul), .val (.ref ca), .val (.ref cb), .unset, .unset, .unset, .unset]) (rest := [(.int (8 : Int32)), (.ref cb)]) (hb hby at_371)
  have S75 : Go p e below A0 (T73.setTop (mkF m 372 #[.val (.int a), .val (.long l1), .second, .val (.long l2), .second, .val (.int p5), .val (.int p6), .val (.int p7), .val (.int kd), .val (.int fl), .val (.int pos), .val (.int k2), .val (.int nul), .val (.ref ca), .val (.ref cb), .unset, .unset, .unset, .unset] [(.int c8), (.int (8 : Int32)), (.ref cb)])) := S74.trans G75
  obtain ⟨T76, h76, K76, W76, V76, G76⟩ := K73.stC V73  (j := (8 : Int32)) ⟨by decide, by decide⟩ 8 rfl (Nat.le_of_ble_eq_true rfl) (Or.inr g_cb) (pc := 372) (Ls := #[.val (.int a), .val (.long l1), .second, .val (.long l2), .second, .val (.int p5), .val (.int p6), .val (.int p7), .val (.int kd), .val (.int fl), .val (.int pos), .val (.int k2), .val (.int nul), .val (.ref ca), .val (.ref cb), .unset, .unset, .unset, .unset]) (rest := []) (hb hby at_372)
  have S76 : Go p e below A0 (T76.setTop (mkF m 373 #[.val (.int a), .val (.long l1), .second, .val (.long l2), .second, .val (.int p5), .val (.int p6), .val (.int p7), .val (.int kd), .val (.int fl), .val (.int pos), .val (.int k2), .val (.int nul), .val (.ref ca), .val (.ref cb), .unset, .unset, .unset, .unset] [])) := S75.trans G76
  rw [own_nc r8] at V76
  have VAcb8 := VAcb7.other W76 ne_acb
  have Hcb8 := CHv.wr W76 (Own.safeArv K76.al V73 (by decide)) Hcb7
  have S77 : Go p e below A0 (T76.setTop (mkF m 381 #[.val (.int a), .val (.long l1), .second, .val (.long l2), .second, .val (.int p5), .val (.int p6), .val (.int p7), .val (.int kd), .val (.int fl), .val (.int pos), .val (.int k2), .val (.int nul), .val (.ref ca), .val (.ref cb), .unset, .unset, .unset, .unset] [(.int (9 : Int32)), (.ref ca), (.int (9 : Int32)), (.ref cb)])) := by
    refine S76.trans ?_
    refine (Own.P.aload K76.here K76.exec (hb hby at_373) rfl rfl).trans ?_
    refine (Own.P.bipush K76.here K76.exec (9 : Int32) (hb hby at_375) rfl).trans ?_
    refine (Own.P.aload K76.here K76.exec (hb hby at_377) rfl rfl).trans ?_
    refine (Own.P.bipush K76.here K76.exec (9 : Int32) (hb hby at_379) rfl).trans ?_
    exact Go.refl _
  have G78 := K76.ldC VAcb8 (j := (9 : Int32)) ⟨by decide, by decide⟩ (v := (.int c9)) rfl (pc := 381) (Ls := #[.val (.int a), .val (.long l1), .second, .val (.long l2), .second, .val (.int p5), .val (.int p6), .val (.int p7), .val (.int kd), .val (.int fl), .val (.int pos), .val (.int k2), .val (.int nul), .val (.ref ca), .val (.ref cb), .unset, .unset, .unset, .unset]) (rest := [(.int (9 : Int32)), (.ref cb)]) (hb hby at_381)
  have S78 : Go p e below A0 (T76.setTop (mkF m 382 #[.val (.int a), .val (.long l1), .second, .val (.long l2), .second, .val (.int p5), .val (.int p6), .val (.int p7), .val (.int kd), .val (.int fl), .val (.int pos), .val (.int k2), .val (.int nul), .val (.ref ca), .val (.ref cb), .unset, .unset, .unset, .unset] [(.int c9), (.int (9 : Int32)), (.ref cb)])) := S77.trans G78
  obtain ⟨T79, h79, K79, W79, V79, G79⟩ := K76.stC V76  (j := (9 : Int32)) ⟨by decide, by decide⟩ 9 rfl (Nat.le_of_ble_eq_true rfl) (Or.inr g_cb) (pc := 382) (Ls := #[.val (.int a), .val (.long l1), .second, .val (.long l2), .second, .val (.int p5), .val (.int p6), .val (.int p7), .val (.int kd), .val (.int fl), .val (.int pos), .val (.int k2), .val (.int nul), .val (.ref ca), .val (.ref cb), .unset, .unset, .unset, .unset]) (rest := []) (hb hby at_382)
  have S79 : Go p e below A0 (T79.setTop (mkF m 383 #[.val (.int a), .val (.long l1), .second, .val (.long l2), .second, .val (.int p5), .val (.int p6), .val (.int p7), .val (.int kd), .val (.int fl), .val (.int pos), .val (.int k2), .val (.int nul), .val (.ref ca), .val (.ref cb), .unset, .unset, .unset, .unset] [])) := S78.trans G79
  rw [own_nc r9] at V79
  have VAcb9 := VAcb8.other W79 ne_acb
  have Hcb9 := CHv.wr W79 (Own.safeArv K79.al V76 (by decide)) Hcb8
  have S80 : Go p e below A0 (T79.setTop (mkF m 391 #[.val (.int a), .val (.long l1), .second, .val (.long l2), .second, .val (.int p5), .val (.int p6), .val (.int p7), .val (.int kd), .val (.int fl), .val (.int pos), .val (.int k2), .val (.int nul), .val (.ref ca), .val (.ref cb), .unset, .unset, .unset, .unset] [(.int (10 : Int32)), (.ref ca), (.int (10 : Int32)), (.ref cb)])) := by
    refine S79.trans ?_
    refine (Own.P.aload K79.here K79.exec (hb hby at_383) rfl rfl).trans ?_
    refine (Own.P.bipush K79.here K79.exec (10 : Int32) (hb hby at_385) rfl).trans ?_
    refine (Own.P.aload K79.here K79.exec (hb hby at_387) rfl rfl).trans ?_
    refine (Own.P.bipush K79.here K79.exec (10 : Int32) (hb hby at_389) rfl).trans ?_
    exact Go.refl _
  have G81 := K79.ldC VAcb9 (j := (10 : Int32)) ⟨by decide, by decide⟩ (v := (.int c10)) rfl (pc := 391) (Ls := #[.val (.int a), .val (.long l1), .second, .val (.long l2), .second, .val (.int p5), .val (.int p6), .val (.int p7), .val (.int kd), .val (.int fl), .val (.int pos), .val (.int k2), .val (.int nul), .val (.ref ca), .val (.ref cb), .unset, .unset, .unset, .unset]) (rest := [(.int (10 : Int32)), (.ref cb)]) (hb hby at_391)
  have S81 : Go p e below A0 (T79.setTop (mkF m 392 #[.val (.int a), .val (.long l1), .second, .val (.long l2), .second, .val (.int p5), .val (.int p6), .val (.int p7), .val (.int kd), .val (.int fl), .val (.int pos), .val (.int k2), .val (.int nul), .val (.ref ca), .val (.ref cb), .unset, .unset, .unset, .unset] [(.int c10), (.int (10 : Int32)), (.ref cb)])) := S80.trans G81
  obtain ⟨T82, h82, K82, W82, V82, G82⟩ := K79.stC V79  (j := (10 : Int32)) ⟨by decide, by decide⟩ 10 rfl (Nat.le_of_ble_eq_true rfl) (Or.inr g_cb) (pc := 392) (Ls := #[.val (.int a), .val (.long l1), .second, .val (.long l2), .second, .val (.int p5), .val (.int p6), .val (.int p7), .val (.int kd), .val (.int fl), .val (.int pos), .val (.int k2), .val (.int nul), .val (.ref ca), .val (.ref cb), .unset, .unset, .unset, .unset]) (rest := []) (hb hby at_392)
  have S82 : Go p e below A0 (T82.setTop (mkF m 393 #[.val (.int a), .val (.long l1), .second, .val (.long l2), .second, .val (.int p5), .val (.int p6), .val (.int p7), .val (.int kd), .val (.int fl), .val (.int pos), .val (.int k2), .val (.int nul), .val (.ref ca), .val (.ref cb), .unset, .unset, .unset, .unset] [])) := S81.trans G82
  rw [own_nc r10] at V82
  have VAcb10 := VAcb9.other W82 ne_acb
  have Hcb10 := CHv.wr W82 (Own.safeArv K82.al V79 (by decide)) Hcb9
  have S83 : Go p e below A0 (T82.setTop (mkF m 395 #[.val (.int a), .val (.long l1), .second, .val (.long l2), .second, .val (.int p5), .val (.int p6), .val (.int p7), .val (.int kd), .val (.int fl), .val (.int pos), .val (.int k2), .val (.int nul), .val (.ref ca), .val (.ref cb), .unset, .unset, .unset, .unset] [(.int (13 : Int32))])) := by
    refine S82.trans ?_
    refine (Own.P.bipush K82.here K82.exec (13 : Int32) (hb hby at_393) rfl).trans ?_
    exact Go.refl _
  obtain ⟨T84, h84, cc, cA_cc, K84, E84, g_cc, l_cc, ne_cc, V_cc, G84⟩ := K82.newP (aty := .char) (hw _ (List.mem_of_getElem? (i := 1) rfl)) (n := (13 : Int32)) (pc := 395) (Ls := #[.val (.int a), .val (.long l1), .second, .val (.long l2), .second, .val (.int p5), .val (.int p6), .val (.int p7), .val (.int kd), .val (.int fl), .val (.int pos), .val (.int k2), .val (.int nul), .val (.ref ca), .val (.ref cb), .unset, .unset, .unset, .unset]) (rest := []) (hb hby at_395) 13 (by decide) (by decide) (by decide) (by decide) (by decide)
  have S84 : Go p e below A0 (T84.setTop (mkF m 397 #[.val (.int a), .val (.long l1), .second, .val (.long l2), .second, .val (.int p5), .val (.int p6), .val (.int p7), .val (.int kd), .val (.int fl), .val (.int pos), .val (.int k2), .val (.int nul), .val (.ref ca), .val (.ref cb), .unset, .unset, .unset, .unset] [(.ref cc)])) := S83.trans G84
  have Y0_cc : Arv Z h84 cc cA_cc .char 13 [.int 0, .int 0, .int 0, .int 0, .int 0, .int 0, .int 0, .int 0, .int 0, .int 0, .int 0, .int 0, .int 0] (.int 0) := V_cc.pad (pad_rep [] (.int 0) 13)
  have ne_acc : ca ≠ cc := ne_cc _ VAcb10.lt
  have ne_bcc : cb ≠ cc := ne_cc _ V82.lt
  have VA_cc := VAcb10.ext E84
  have VB_cc := V82.ext E84
  have H_cc := CHv.ext E84 Hcb10
  have S85 : Go p e below A0 (T84.setTop (mkF m 405 #[.val (.int a), .val (.long l1), .second, .val (.long l2), .second, .val (.int p5), .val (.int p6), .val (.int p7), .val (.int kd), .val (.int fl), .val (.int pos), .val (.int k2), .val (.int nul), .val (.ref ca), .val (.ref cb), .val (.ref cc), .unset, .unset, .unset] [(.int (0 : Int32)), (.ref ca), (.int (0 : Int32)), (.ref cc)])) := by
    refine S84.trans ?_
    refine (Own.P.astore K84.here K84.exec (l' := #[.val (.int a), .val (.long l1), .second, .val (.long l2), .second, .val (.int p5), .val (.int p6), .val (.int p7), .val (.int kd), .val (.int fl), .val (.int pos), .val (.int k2), .val (.int nul), .val (.ref ca), .val (.ref cb), .val (.ref cc), .unset, .unset, .unset]) (hb hby at_397) rfl rfl).trans ?_
    refine (Own.P.aload K84.here K84.exec (hb hby at_399) rfl rfl).trans ?_
    refine (Own.P.iconst K84.here K84.exec (0 : Int32) (hb hby at_401) rfl).trans ?_
    refine (Own.P.aload K84.here K84.exec (hb hby at_402) rfl rfl).trans ?_
    refine (Own.P.iconst K84.here K84.exec (0 : Int32) (hb hby at_404) rfl).trans ?_
    exact Go.refl _
  have G86 := K84.ldC VA_cc (j := (0 : Int32)) ⟨by decide, by decide⟩ (v := (.int c0)) rfl (pc := 405) (Ls := #[.val (.int a), .val (.long l1), .second, .val (.long l2), .second, .val (.int p5), .val (.int p6), .val (.int p7), .val (.int kd), .val (.int fl), .val (.int pos), .val (.int k2), .val (.int nul), .val (.ref ca), .val (.ref cb), .val (.ref cc), .unset, .unset, .unset]) (rest := [(.int (0 : Int32)), (.ref cc)]) (hb hby at_405)
  have S86 : Go p e below A0 (T84.setTop (mkF m 406 #[.val (.int a), .val (.long l1), .second, .val (.long l2), .second, .val (.int p5), .val (.int p6), .val (.int p7), .val (.int kd), .val (.int fl), .val (.int pos), .val (.int k2), .val (.int nul), .val (.ref ca), .val (.ref cb), .val (.ref cc), .unset, .unset, .unset] [(.int c0), (.int (0 : Int32)), (.ref cc)])) := S85.trans G86
  obtain ⟨T87, h87, K87, W87, V87, G87⟩ := K84.stC Y0_cc  (j := (0 : Int32)) ⟨by decide, by decide⟩ 0 rfl (Nat.le_of_ble_eq_true rfl) (Or.inr g_cc) (pc := 406) (Ls := #[.val (.int a), .val (.long l1), .second, .val (.long l2), .second, .val (.int p5), .val (.int p6), .val (.int p7), .val (.int kd), .val (.int fl), .val (.int pos), .val (.int k2), .val (.int nul), .val (.ref ca), .val (.ref cb), .val (.ref cc), .unset, .unset, .unset]) (rest := []) (hb hby at_406)
  have S87 : Go p e below A0 (T87.setTop (mkF m 407 #[.val (.int a), .val (.long l1), .second, .val (.long l2), .second, .val (.int p5), .val (.int p6), .val (.int p7), .val (.int kd), .val (.int fl), .val (.int pos), .val (.int k2), .val (.int nul), .val (.ref ca), .val (.ref cb), .val (.ref cc), .unset, .unset, .unset] [])) := S86.trans G87
  rw [own_nc r0] at V87
  have VAcc0 := VA_cc.other W87 ne_acc
  have VBcc0 := VB_cc.other W87 ne_bcc
  have Hcc0 := CHv.wr W87 (Own.safeArv K87.al Y0_cc (by decide)) H_cc
  have S88 : Go p e below A0 (T87.setTop (mkF m 413 #[.val (.int a), .val (.long l1), .second, .val (.long l2), .second, .val (.int p5), .val (.int p6), .val (.int p7), .val (.int kd), .val (.int fl), .val (.int pos), .val (.int k2), .val (.int nul), .val (.ref ca), .val (.ref cb), .val (.ref cc), .unset, .unset, .unset] [(.int (1 : Int32)), (.ref ca), (.int (1 : Int32)), (.ref cc)])) := by
    refine S87.trans ?_
    refine (Own.P.aload K87.here K87.exec (hb hby at_407) rfl rfl).trans ?_
    refine (Own.P.iconst K87.here K87.exec (1 : Int32) (hb hby at_409) rfl).trans ?_
    refine (Own.P.aload K87.here K87.exec (hb hby at_410) rfl rfl).trans ?_
    refine (Own.P.iconst K87.here K87.exec (1 : Int32) (hb hby at_412) rfl).trans ?_
    exact Go.refl _
  have G89 := K87.ldC VAcc0 (j := (1 : Int32)) ⟨by decide, by decide⟩ (v := (.int c1)) rfl (pc := 413) (Ls := #[.val (.int a), .val (.long l1), .second, .val (.long l2), .second, .val (.int p5), .val (.int p6), .val (.int p7), .val (.int kd), .val (.int fl), .val (.int pos), .val (.int k2), .val (.int nul), .val (.ref ca), .val (.ref cb), .val (.ref cc), .unset, .unset, .unset]) (rest := [(.int (1 : Int32)), (.ref cc)]) (hb hby at_413)
  have S89 : Go p e below A0 (T87.setTop (mkF m 414 #[.val (.int a), .val (.long l1), .second, .val (.long l2), .second, .val (.int p5), .val (.int p6), .val (.int p7), .val (.int kd), .val (.int fl), .val (.int pos), .val (.int k2), .val (.int nul), .val (.ref ca), .val (.ref cb), .val (.ref cc), .unset, .unset, .unset] [(.int c1), (.int (1 : Int32)), (.ref cc)])) := S88.trans G89
  obtain ⟨T90, h90, K90, W90, V90, G90⟩ := K87.stC V87  (j := (1 : Int32)) ⟨by decide, by decide⟩ 1 rfl (Nat.le_of_ble_eq_true rfl) (Or.inr g_cc) (pc := 414) (Ls := #[.val (.int a), .val (.long l1), .second, .val (.long l2), .second, .val (.int p5), .val (.int p6), .val (.int p7), .val (.int kd), .val (.int fl), .val (.int pos), .val (.int k2), .val (.int nul), .val (.ref ca), .val (.ref cb), .val (.ref cc), .unset, .unset, .unset]) (rest := []) (hb hby at_414)
  have S90 : Go p e below A0 (T90.setTop (mkF m 415 #[.val (.int a), .val (.long l1), .second, .val (.long l2), .second, .val (.int p5), .val (.int p6), .val (.int p7), .val (.int kd), .val (.int fl), .val (.int pos), .val (.int k2), .val (.int nul), .val (.ref ca), .val (.ref cb), .val (.ref cc), .unset, .unset, .unset] [])) := S89.trans G90
  rw [own_nc r1] at V90
  have VAcc1 := VAcc0.other W90 ne_acc
  have VBcc1 := VBcc0.other W90 ne_bcc
  have Hcc1 := CHv.wr W90 (Own.safeArv K90.al V87 (by decide)) Hcc0
  have S91 : Go p e below A0 (T90.setTop (mkF m 421 #[.val (.int a), .val (.long l1), .second, .val (.long l2), .second, .val (.int p5), .val (.int p6), .val (.int p7), .val (.int kd), .val (.int fl), .val (.int pos), .val (.int k2), .val (.int nul), .val (.ref ca), .val (.ref cb), .val (.ref cc), .unset, .unset, .unset] [(.int (2 : Int32)), (.ref ca), (.int (2 : Int32)), (.ref cc)])) := by
    refine S90.trans ?_
    refine (Own.P.aload K90.here K90.exec (hb hby at_415) rfl rfl).trans ?_
    refine (Own.P.iconst K90.here K90.exec (2 : Int32) (hb hby at_417) rfl).trans ?_
    refine (Own.P.aload K90.here K90.exec (hb hby at_418) rfl rfl).trans ?_
    refine (Own.P.iconst K90.here K90.exec (2 : Int32) (hb hby at_420) rfl).trans ?_
    exact Go.refl _
  have G92 := K90.ldC VAcc1 (j := (2 : Int32)) ⟨by decide, by decide⟩ (v := (.int c2)) rfl (pc := 421) (Ls := #[.val (.int a), .val (.long l1), .second, .val (.long l2), .second, .val (.int p5), .val (.int p6), .val (.int p7), .val (.int kd), .val (.int fl), .val (.int pos), .val (.int k2), .val (.int nul), .val (.ref ca), .val (.ref cb), .val (.ref cc), .unset, .unset, .unset]) (rest := [(.int (2 : Int32)), (.ref cc)]) (hb hby at_421)
  have S92 : Go p e below A0 (T90.setTop (mkF m 422 #[.val (.int a), .val (.long l1), .second, .val (.long l2), .second, .val (.int p5), .val (.int p6), .val (.int p7), .val (.int kd), .val (.int fl), .val (.int pos), .val (.int k2), .val (.int nul), .val (.ref ca), .val (.ref cb), .val (.ref cc), .unset, .unset, .unset] [(.int c2), (.int (2 : Int32)), (.ref cc)])) := S91.trans G92
  obtain ⟨T93, h93, K93, W93, V93, G93⟩ := K90.stC V90  (j := (2 : Int32)) ⟨by decide, by decide⟩ 2 rfl (Nat.le_of_ble_eq_true rfl) (Or.inr g_cc) (pc := 422) (Ls := #[.val (.int a), .val (.long l1), .second, .val (.long l2), .second, .val (.int p5), .val (.int p6), .val (.int p7), .val (.int kd), .val (.int fl), .val (.int pos), .val (.int k2), .val (.int nul), .val (.ref ca), .val (.ref cb), .val (.ref cc), .unset, .unset, .unset]) (rest := []) (hb hby at_422)
  have S93 : Go p e below A0 (T93.setTop (mkF m 423 #[.val (.int a), .val (.long l1), .second, .val (.long l2), .second, .val (.int p5), .val (.int p6), .val (.int p7), .val (.int kd), .val (.int fl), .val (.int pos), .val (.int k2), .val (.int nul), .val (.ref ca), .val (.ref cb), .val (.ref cc), .unset, .unset, .unset] [])) := S92.trans G93
  rw [own_nc r2] at V93
  have VAcc2 := VAcc1.other W93 ne_acc
  have VBcc2 := VBcc1.other W93 ne_bcc
  have Hcc2 := CHv.wr W93 (Own.safeArv K93.al V90 (by decide)) Hcc1
  have S94 : Go p e below A0 (T93.setTop (mkF m 429 #[.val (.int a), .val (.long l1), .second, .val (.long l2), .second, .val (.int p5), .val (.int p6), .val (.int p7), .val (.int kd), .val (.int fl), .val (.int pos), .val (.int k2), .val (.int nul), .val (.ref ca), .val (.ref cb), .val (.ref cc), .unset, .unset, .unset] [(.int (3 : Int32)), (.ref ca), (.int (3 : Int32)), (.ref cc)])) := by
    refine S93.trans ?_
    refine (Own.P.aload K93.here K93.exec (hb hby at_423) rfl rfl).trans ?_
    refine (Own.P.iconst K93.here K93.exec (3 : Int32) (hb hby at_425) rfl).trans ?_
    refine (Own.P.aload K93.here K93.exec (hb hby at_426) rfl rfl).trans ?_
    refine (Own.P.iconst K93.here K93.exec (3 : Int32) (hb hby at_428) rfl).trans ?_
    exact Go.refl _
  have G95 := K93.ldC VAcc2 (j := (3 : Int32)) ⟨by decide, by decide⟩ (v := (.int c3)) rfl (pc := 429) (Ls := #[.val (.int a), .val (.long l1), .second, .val (.long l2), .second, .val (.int p5), .val (.int p6), .val (.int p7), .val (.int kd), .val (.int fl), .val (.int pos), .val (.int k2), .val (.int nul), .val (.ref ca), .val (.ref cb), .val (.ref cc), .unset, .unset, .unset]) (rest := [(.int (3 : Int32)), (.ref cc)]) (hb hby at_429)
  have S95 : Go p e below A0 (T93.setTop (mkF m 430 #[.val (.int a), .val (.long l1), .second, .val (.long l2), .second, .val (.int p5), .val (.int p6), .val (.int p7), .val (.int kd), .val (.int fl), .val (.int pos), .val (.int k2), .val (.int nul), .val (.ref ca), .val (.ref cb), .val (.ref cc), .unset, .unset, .unset] [(.int c3), (.int (3 : Int32)), (.ref cc)])) := S94.trans G95
  obtain ⟨T96, h96, K96, W96, V96, G96⟩ := K93.stC V93  (j := (3 : Int32)) ⟨by decide, by decide⟩ 3 rfl (Nat.le_of_ble_eq_true rfl) (Or.inr g_cc) (pc := 430) (Ls := #[.val (.int a), .val (.long l1), .second, .val (.long l2), .second, .val (.int p5), .val (.int p6), .val (.int p7), .val (.int kd), .val (.int fl), .val (.int pos), .val (.int k2), .val (.int nul), .val (.ref ca), .val (.ref cb), .val (.ref cc), .unset, .unset, .unset]) (rest := []) (hb hby at_430)
  have S96 : Go p e below A0 (T96.setTop (mkF m 431 #[.val (.int a), .val (.long l1), .second, .val (.long l2), .second, .val (.int p5), .val (.int p6), .val (.int p7), .val (.int kd), .val (.int fl), .val (.int pos), .val (.int k2), .val (.int nul), .val (.ref ca), .val (.ref cb), .val (.ref cc), .unset, .unset, .unset] [])) := S95.trans G96
  rw [own_nc r3] at V96
  have VAcc3 := VAcc2.other W96 ne_acc
  have VBcc3 := VBcc2.other W96 ne_bcc
  have Hcc3 := CHv.wr W96 (Own.safeArv K96.al V93 (by decide)) Hcc2
  have S97 : Go p e below A0 (T96.setTop (mkF m 437 #[.val (.int a), .val (.long l1), .second, .val (.long l2), .second, .val (.int p5), .val (.int p6), .val (.int p7), .val (.int kd), .val (.int fl), .val (.int pos), .val (.int k2), .val (.int nul), .val (.ref ca), .val (.ref cb), .val (.ref cc), .unset, .unset, .unset] [(.int (4 : Int32)), (.ref ca), (.int (4 : Int32)), (.ref cc)])) := by
    refine S96.trans ?_
    refine (Own.P.aload K96.here K96.exec (hb hby at_431) rfl rfl).trans ?_
    refine (Own.P.iconst K96.here K96.exec (4 : Int32) (hb hby at_433) rfl).trans ?_
    refine (Own.P.aload K96.here K96.exec (hb hby at_434) rfl rfl).trans ?_
    refine (Own.P.iconst K96.here K96.exec (4 : Int32) (hb hby at_436) rfl).trans ?_
    exact Go.refl _
  have G98 := K96.ldC VAcc3 (j := (4 : Int32)) ⟨by decide, by decide⟩ (v := (.int c4)) rfl (pc := 437) (Ls := #[.val (.int a), .val (.long l1), .second, .val (.long l2), .second, .val (.int p5), .val (.int p6), .val (.int p7), .val (.int kd), .val (.int fl), .val (.int pos), .val (.int k2), .val (.int nul), .val (.ref ca), .val (.ref cb), .val (.ref cc), .unset, .unset, .unset]) (rest := [(.int (4 : Int32)), (.ref cc)]) (hb hby at_437)
  have S98 : Go p e below A0 (T96.setTop (mkF m 438 #[.val (.int a), .val (.long l1), .second, .val (.long l2), .second, .val (.int p5), .val (.int p6), .val (.int p7), .val (.int kd), .val (.int fl), .val (.int pos), .val (.int k2), .val (.int nul), .val (.ref ca), .val (.ref cb), .val (.ref cc), .unset, .unset, .unset] [(.int c4), (.int (4 : Int32)), (.ref cc)])) := S97.trans G98
  obtain ⟨T99, h99, K99, W99, V99, G99⟩ := K96.stC V96  (j := (4 : Int32)) ⟨by decide, by decide⟩ 4 rfl (Nat.le_of_ble_eq_true rfl) (Or.inr g_cc) (pc := 438) (Ls := #[.val (.int a), .val (.long l1), .second, .val (.long l2), .second, .val (.int p5), .val (.int p6), .val (.int p7), .val (.int kd), .val (.int fl), .val (.int pos), .val (.int k2), .val (.int nul), .val (.ref ca), .val (.ref cb), .val (.ref cc), .unset, .unset, .unset]) (rest := []) (hb hby at_438)
  have S99 : Go p e below A0 (T99.setTop (mkF m 439 #[.val (.int a), .val (.long l1), .second, .val (.long l2), .second, .val (.int p5), .val (.int p6), .val (.int p7), .val (.int kd), .val (.int fl), .val (.int pos), .val (.int k2), .val (.int nul), .val (.ref ca), .val (.ref cb), .val (.ref cc), .unset, .unset, .unset] [])) := S98.trans G99
  rw [own_nc r4] at V99
  have VAcc4 := VAcc3.other W99 ne_acc
  have VBcc4 := VBcc3.other W99 ne_bcc
  have Hcc4 := CHv.wr W99 (Own.safeArv K99.al V96 (by decide)) Hcc3
  have S100 : Go p e below A0 (T99.setTop (mkF m 445 #[.val (.int a), .val (.long l1), .second, .val (.long l2), .second, .val (.int p5), .val (.int p6), .val (.int p7), .val (.int kd), .val (.int fl), .val (.int pos), .val (.int k2), .val (.int nul), .val (.ref ca), .val (.ref cb), .val (.ref cc), .unset, .unset, .unset] [(.int (5 : Int32)), (.ref ca), (.int (5 : Int32)), (.ref cc)])) := by
    refine S99.trans ?_
    refine (Own.P.aload K99.here K99.exec (hb hby at_439) rfl rfl).trans ?_
    refine (Own.P.iconst K99.here K99.exec (5 : Int32) (hb hby at_441) rfl).trans ?_
    refine (Own.P.aload K99.here K99.exec (hb hby at_442) rfl rfl).trans ?_
    refine (Own.P.iconst K99.here K99.exec (5 : Int32) (hb hby at_444) rfl).trans ?_
    exact Go.refl _
  have G101 := K99.ldC VAcc4 (j := (5 : Int32)) ⟨by decide, by decide⟩ (v := (.int c5)) rfl (pc := 445) (Ls := #[.val (.int a), .val (.long l1), .second, .val (.long l2), .second, .val (.int p5), .val (.int p6), .val (.int p7), .val (.int kd), .val (.int fl), .val (.int pos), .val (.int k2), .val (.int nul), .val (.ref ca), .val (.ref cb), .val (.ref cc), .unset, .unset, .unset]) (rest := [(.int (5 : Int32)), (.ref cc)]) (hb hby at_445)
  have S101 : Go p e below A0 (T99.setTop (mkF m 446 #[.val (.int a), .val (.long l1), .second, .val (.long l2), .second, .val (.int p5), .val (.int p6), .val (.int p7), .val (.int kd), .val (.int fl), .val (.int pos), .val (.int k2), .val (.int nul), .val (.ref ca), .val (.ref cb), .val (.ref cc), .unset, .unset, .unset] [(.int c5), (.int (5 : Int32)), (.ref cc)])) := S100.trans G101
  obtain ⟨T102, h102, K102, W102, V102, G102⟩ := K99.stC V99  (j := (5 : Int32)) ⟨by decide, by decide⟩ 5 rfl (Nat.le_of_ble_eq_true rfl) (Or.inr g_cc) (pc := 446) (Ls := #[.val (.int a), .val (.long l1), .second, .val (.long l2), .second, .val (.int p5), .val (.int p6), .val (.int p7), .val (.int kd), .val (.int fl), .val (.int pos), .val (.int k2), .val (.int nul), .val (.ref ca), .val (.ref cb), .val (.ref cc), .unset, .unset, .unset]) (rest := []) (hb hby at_446)
  have S102 : Go p e below A0 (T102.setTop (mkF m 447 #[.val (.int a), .val (.long l1), .second, .val (.long l2), .second, .val (.int p5), .val (.int p6), .val (.int p7), .val (.int kd), .val (.int fl), .val (.int pos), .val (.int k2), .val (.int nul), .val (.ref ca), .val (.ref cb), .val (.ref cc), .unset, .unset, .unset] [])) := S101.trans G102
  rw [own_nc r5] at V102
  have VAcc5 := VAcc4.other W102 ne_acc
  have VBcc5 := VBcc4.other W102 ne_bcc
  have Hcc5 := CHv.wr W102 (Own.safeArv K102.al V99 (by decide)) Hcc4
  have S103 : Go p e below A0 (T102.setTop (mkF m 455 #[.val (.int a), .val (.long l1), .second, .val (.long l2), .second, .val (.int p5), .val (.int p6), .val (.int p7), .val (.int kd), .val (.int fl), .val (.int pos), .val (.int k2), .val (.int nul), .val (.ref ca), .val (.ref cb), .val (.ref cc), .unset, .unset, .unset] [(.int (6 : Int32)), (.ref ca), (.int (6 : Int32)), (.ref cc)])) := by
    refine S102.trans ?_
    refine (Own.P.aload K102.here K102.exec (hb hby at_447) rfl rfl).trans ?_
    refine (Own.P.bipush K102.here K102.exec (6 : Int32) (hb hby at_449) rfl).trans ?_
    refine (Own.P.aload K102.here K102.exec (hb hby at_451) rfl rfl).trans ?_
    refine (Own.P.bipush K102.here K102.exec (6 : Int32) (hb hby at_453) rfl).trans ?_
    exact Go.refl _
  have G104 := K102.ldC VAcc5 (j := (6 : Int32)) ⟨by decide, by decide⟩ (v := (.int c6)) rfl (pc := 455) (Ls := #[.val (.int a), .val (.long l1), .second, .val (.long l2), .second, .val (.int p5), .val (.int p6), .val (.int p7), .val (.int kd), .val (.int fl), .val (.int pos), .val (.int k2), .val (.int nul), .val (.ref ca), .val (.ref cb), .val (.ref cc), .unset, .unset, .unset]) (rest := [(.int (6 : Int32)), (.ref cc)]) (hb hby at_455)
  have S104 : Go p e below A0 (T102.setTop (mkF m 456 #[.val (.int a), .val (.long l1), .second, .val (.long l2), .second, .val (.int p5), .val (.int p6), .val (.int p7), .val (.int kd), .val (.int fl), .val (.int pos), .val (.int k2), .val (.int nul), .val (.ref ca), .val (.ref cb), .val (.ref cc), .unset, .unset, .unset] [(.int c6), (.int (6 : Int32)), (.ref cc)])) := S103.trans G104
  obtain ⟨T105, h105, K105, W105, V105, G105⟩ := K102.stC V102  (j := (6 : Int32)) ⟨by decide, by decide⟩ 6 rfl (Nat.le_of_ble_eq_true rfl) (Or.inr g_cc) (pc := 456) (Ls := #[.val (.int a), .val (.long l1), .second, .val (.long l2), .second, .val (.int p5), .val (.int p6), .val (.int p7), .val (.int kd), .val (.int fl), .val (.int pos), .val (.int k2), .val (.int nul), .val (.ref ca), .val (.ref cb), .val (.ref cc), .unset, .unset, .unset]) (rest := []) (hb hby at_456)
  have S105 : Go p e below A0 (T105.setTop (mkF m 457 #[.val (.int a), .val (.long l1), .second, .val (.long l2), .second, .val (.int p5), .val (.int p6), .val (.int p7), .val (.int kd), .val (.int fl), .val (.int pos), .val (.int k2), .val (.int nul), .val (.ref ca), .val (.ref cb), .val (.ref cc), .unset, .unset, .unset] [])) := S104.trans G105
  rw [own_nc r6] at V105
  have VAcc6 := VAcc5.other W105 ne_acc
  have VBcc6 := VBcc5.other W105 ne_bcc
  have Hcc6 := CHv.wr W105 (Own.safeArv K105.al V102 (by decide)) Hcc5
  have S106 : Go p e below A0 (T105.setTop (mkF m 465 #[.val (.int a), .val (.long l1), .second, .val (.long l2), .second, .val (.int p5), .val (.int p6), .val (.int p7), .val (.int kd), .val (.int fl), .val (.int pos), .val (.int k2), .val (.int nul), .val (.ref ca), .val (.ref cb), .val (.ref cc), .unset, .unset, .unset] [(.int (7 : Int32)), (.ref ca), (.int (7 : Int32)), (.ref cc)])) := by
    refine S105.trans ?_
    refine (Own.P.aload K105.here K105.exec (hb hby at_457) rfl rfl).trans ?_
    refine (Own.P.bipush K105.here K105.exec (7 : Int32) (hb hby at_459) rfl).trans ?_
    refine (Own.P.aload K105.here K105.exec (hb hby at_461) rfl rfl).trans ?_
    refine (Own.P.bipush K105.here K105.exec (7 : Int32) (hb hby at_463) rfl).trans ?_
    exact Go.refl _
  have G107 := K105.ldC VAcc6 (j := (7 : Int32)) ⟨by decide, by decide⟩ (v := (.int c7)) rfl (pc := 465) (Ls := #[.val (.int a), .val (.long l1), .second, .val (.long l2), .second, .val (.int p5), .val (.int p6), .val (.int p7), .val (.int kd), .val (.int fl), .val (.int pos), .val (.int k2), .val (.int nul), .val (.ref ca), .val (.ref cb), .val (.ref cc), .unset, .unset, .unset]) (rest := [(.int (7 : Int32)), (.ref cc)]) (hb hby at_465)
  have S107 : Go p e below A0 (T105.setTop (mkF m 466 #[.val (.int a), .val (.long l1), .second, .val (.long l2), .second, .val (.int p5), .val (.int p6), .val (.int p7), .val (.int kd), .val (.int fl), .val (.int pos), .val (.int k2), .val (.int nul), .val (.ref ca), .val (.ref cb), .val (.ref cc), .unset, .unset, .unset] [(.int c7), (.int (7 : Int32)), (.ref cc)])) := S106.trans G107
  obtain ⟨T108, h108, K108, W108, V108, G108⟩ := K105.stC V105  (j := (7 : Int32)) ⟨by decide, by decide⟩ 7 rfl (Nat.le_of_ble_eq_true rfl) (Or.inr g_cc) (pc := 466) (Ls := #[.val (.int a), .val (.long l1), .second, .val (.long l2), .second, .val (.int p5), .val (.int p6), .val (.int p7), .val (.int kd), .val (.int fl), .val (.int pos), .val (.int k2), .val (.int nul), .val (.ref ca), .val (.ref cb), .val (.ref cc), .unset, .unset, .unset]) (rest := []) (hb hby at_466)
  have S108 : Go p e below A0 (T108.setTop (mkF m 467 #[.val (.int a), .val (.long l1), .second, .val (.long l2), .second, .val (.int p5), .val (.int p6), .val (.int p7), .val (.int kd), .val (.int fl), .val (.int pos), .val (.int k2), .val (.int nul), .val (.ref ca), .val (.ref cb), .val (.ref cc), .unset, .unset, .unset] [])) := S107.trans G108
  rw [own_nc r7] at V108
  have VAcc7 := VAcc6.other W108 ne_acc
  have VBcc7 := VBcc6.other W108 ne_bcc
  have Hcc7 := CHv.wr W108 (Own.safeArv K108.al V105 (by decide)) Hcc6
  have S109 : Go p e below A0 (T108.setTop (mkF m 475 #[.val (.int a), .val (.long l1), .second, .val (.long l2), .second, .val (.int p5), .val (.int p6), .val (.int p7), .val (.int kd), .val (.int fl), .val (.int pos), .val (.int k2), .val (.int nul), .val (.ref ca), .val (.ref cb), .val (.ref cc), .unset, .unset, .unset] [(.int (8 : Int32)), (.ref ca), (.int (8 : Int32)), (.ref cc)])) := by
    refine S108.trans ?_
    refine (Own.P.aload K108.here K108.exec (hb hby at_467) rfl rfl).trans ?_
    refine (Own.P.bipush K108.here K108.exec (8 : Int32) (hb hby at_469) rfl).trans ?_
    refine (Own.P.aload K108.here K108.exec (hb hby at_471) rfl rfl).trans ?_
    refine (Own.P.bipush K108.here K108.exec (8 : Int32) (hb hby at_473) rfl).trans ?_
    exact Go.refl _
  have G110 := K108.ldC VAcc7 (j := (8 : Int32)) ⟨by decide, by decide⟩ (v := (.int c8)) rfl (pc := 475) (Ls := #[.val (.int a), .val (.long l1), .second, .val (.long l2), .second, .val (.int p5), .val (.int p6), .val (.int p7), .val (.int kd), .val (.int fl), .val (.int pos), .val (.int k2), .val (.int nul), .val (.ref ca), .val (.ref cb), .val (.ref cc), .unset, .unset, .unset]) (rest := [(.int (8 : Int32)), (.ref cc)]) (hb hby at_475)
  have S110 : Go p e below A0 (T108.setTop (mkF m 476 #[.val (.int a), .val (.long l1), .second, .val (.long l2), .second, .val (.int p5), .val (.int p6), .val (.int p7), .val (.int kd), .val (.int fl), .val (.int pos), .val (.int k2), .val (.int nul), .val (.ref ca), .val (.ref cb), .val (.ref cc), .unset, .unset, .unset] [(.int c8), (.int (8 : Int32)), (.ref cc)])) := S109.trans G110
  obtain ⟨T111, h111, K111, W111, V111, G111⟩ := K108.stC V108  (j := (8 : Int32)) ⟨by decide, by decide⟩ 8 rfl (Nat.le_of_ble_eq_true rfl) (Or.inr g_cc) (pc := 476) (Ls := #[.val (.int a), .val (.long l1), .second, .val (.long l2), .second, .val (.int p5), .val (.int p6), .val (.int p7), .val (.int kd), .val (.int fl), .val (.int pos), .val (.int k2), .val (.int nul), .val (.ref ca), .val (.ref cb), .val (.ref cc), .unset, .unset, .unset]) (rest := []) (hb hby at_476)
  have S111 : Go p e below A0 (T111.setTop (mkF m 477 #[.val (.int a), .val (.long l1), .second, .val (.long l2), .second, .val (.int p5), .val (.int p6), .val (.int p7), .val (.int kd), .val (.int fl), .val (.int pos), .val (.int k2), .val (.int nul), .val (.ref ca), .val (.ref cb), .val (.ref cc), .unset, .unset, .unset] [])) := S110.trans G111
  rw [own_nc r8] at V111
  have VAcc8 := VAcc7.other W111 ne_acc
  have VBcc8 := VBcc7.other W111 ne_bcc
  have Hcc8 := CHv.wr W111 (Own.safeArv K111.al V108 (by decide)) Hcc7
  have S112 : Go p e below A0 (T111.setTop (mkF m 485 #[.val (.int a), .val (.long l1), .second, .val (.long l2), .second, .val (.int p5), .val (.int p6), .val (.int p7), .val (.int kd), .val (.int fl), .val (.int pos), .val (.int k2), .val (.int nul), .val (.ref ca), .val (.ref cb), .val (.ref cc), .unset, .unset, .unset] [(.int (9 : Int32)), (.ref ca), (.int (9 : Int32)), (.ref cc)])) := by
    refine S111.trans ?_
    refine (Own.P.aload K111.here K111.exec (hb hby at_477) rfl rfl).trans ?_
    refine (Own.P.bipush K111.here K111.exec (9 : Int32) (hb hby at_479) rfl).trans ?_
    refine (Own.P.aload K111.here K111.exec (hb hby at_481) rfl rfl).trans ?_
    refine (Own.P.bipush K111.here K111.exec (9 : Int32) (hb hby at_483) rfl).trans ?_
    exact Go.refl _
  have G113 := K111.ldC VAcc8 (j := (9 : Int32)) ⟨by decide, by decide⟩ (v := (.int c9)) rfl (pc := 485) (Ls := #[.val (.int a), .val (.long l1), .second, .val (.long l2), .second, .val (.int p5), .val (.int p6), .val (.int p7), .val (.int kd), .val (.int fl), .val (.int pos), .val (.int k2), .val (.int nul), .val (.ref ca), .val (.ref cb), .val (.ref cc), .unset, .unset, .unset]) (rest := [(.int (9 : Int32)), (.ref cc)]) (hb hby at_485)
  have S113 : Go p e below A0 (T111.setTop (mkF m 486 #[.val (.int a), .val (.long l1), .second, .val (.long l2), .second, .val (.int p5), .val (.int p6), .val (.int p7), .val (.int kd), .val (.int fl), .val (.int pos), .val (.int k2), .val (.int nul), .val (.ref ca), .val (.ref cb), .val (.ref cc), .unset, .unset, .unset] [(.int c9), (.int (9 : Int32)), (.ref cc)])) := S112.trans G113
  obtain ⟨T114, h114, K114, W114, V114, G114⟩ := K111.stC V111  (j := (9 : Int32)) ⟨by decide, by decide⟩ 9 rfl (Nat.le_of_ble_eq_true rfl) (Or.inr g_cc) (pc := 486) (Ls := #[.val (.int a), .val (.long l1), .second, .val (.long l2), .second, .val (.int p5), .val (.int p6), .val (.int p7), .val (.int kd), .val (.int fl), .val (.int pos), .val (.int k2), .val (.int nul), .val (.ref ca), .val (.ref cb), .val (.ref cc), .unset, .unset, .unset]) (rest := []) (hb hby at_486)
  have S114 : Go p e below A0 (T114.setTop (mkF m 487 #[.val (.int a), .val (.long l1), .second, .val (.long l2), .second, .val (.int p5), .val (.int p6), .val (.int p7), .val (.int kd), .val (.int fl), .val (.int pos), .val (.int k2), .val (.int nul), .val (.ref ca), .val (.ref cb), .val (.ref cc), .unset, .unset, .unset] [])) := S113.trans G114
  rw [own_nc r9] at V114
  have VAcc9 := VAcc8.other W114 ne_acc
  have VBcc9 := VBcc8.other W114 ne_bcc
  have Hcc9 := CHv.wr W114 (Own.safeArv K114.al V111 (by decide)) Hcc8
  have S115 : Go p e below A0 (T114.setTop (mkF m 495 #[.val (.int a), .val (.long l1), .second, .val (.long l2), .second, .val (.int p5), .val (.int p6), .val (.int p7), .val (.int kd), .val (.int fl), .val (.int pos), .val (.int k2), .val (.int nul), .val (.ref ca), .val (.ref cb), .val (.ref cc), .unset, .unset, .unset] [(.int (10 : Int32)), (.ref ca), (.int (10 : Int32)), (.ref cc)])) := by
    refine S114.trans ?_
    refine (Own.P.aload K114.here K114.exec (hb hby at_487) rfl rfl).trans ?_
    refine (Own.P.bipush K114.here K114.exec (10 : Int32) (hb hby at_489) rfl).trans ?_
    refine (Own.P.aload K114.here K114.exec (hb hby at_491) rfl rfl).trans ?_
    refine (Own.P.bipush K114.here K114.exec (10 : Int32) (hb hby at_493) rfl).trans ?_
    exact Go.refl _
  have G116 := K114.ldC VAcc9 (j := (10 : Int32)) ⟨by decide, by decide⟩ (v := (.int c10)) rfl (pc := 495) (Ls := #[.val (.int a), .val (.long l1), .second, .val (.long l2), .second, .val (.int p5), .val (.int p6), .val (.int p7), .val (.int kd), .val (.int fl), .val (.int pos), .val (.int k2), .val (.int nul), .val (.ref ca), .val (.ref cb), .val (.ref cc), .unset, .unset, .unset]) (rest := [(.int (10 : Int32)), (.ref cc)]) (hb hby at_495)
  have S116 : Go p e below A0 (T114.setTop (mkF m 496 #[.val (.int a), .val (.long l1), .second, .val (.long l2), .second, .val (.int p5), .val (.int p6), .val (.int p7), .val (.int kd), .val (.int fl), .val (.int pos), .val (.int k2), .val (.int nul), .val (.ref ca), .val (.ref cb), .val (.ref cc), .unset, .unset, .unset] [(.int c10), (.int (10 : Int32)), (.ref cc)])) := S115.trans G116
  obtain ⟨T117, h117, K117, W117, V117, G117⟩ := K114.stC V114  (j := (10 : Int32)) ⟨by decide, by decide⟩ 10 rfl (Nat.le_of_ble_eq_true rfl) (Or.inr g_cc) (pc := 496) (Ls := #[.val (.int a), .val (.long l1), .second, .val (.long l2), .second, .val (.int p5), .val (.int p6), .val (.int p7), .val (.int kd), .val (.int fl), .val (.int pos), .val (.int k2), .val (.int nul), .val (.ref ca), .val (.ref cb), .val (.ref cc), .unset, .unset, .unset]) (rest := []) (hb hby at_496)
  have S117 : Go p e below A0 (T117.setTop (mkF m 497 #[.val (.int a), .val (.long l1), .second, .val (.long l2), .second, .val (.int p5), .val (.int p6), .val (.int p7), .val (.int kd), .val (.int fl), .val (.int pos), .val (.int k2), .val (.int nul), .val (.ref ca), .val (.ref cb), .val (.ref cc), .unset, .unset, .unset] [])) := S116.trans G117
  rw [own_nc r10] at V117
  have VAcc10 := VAcc9.other W117 ne_acc
  have VBcc10 := VBcc9.other W117 ne_bcc
  have Hcc10 := CHv.wr W117 (Own.safeArv K117.al V114 (by decide)) Hcc9
  have S118 : Go p e below A0 (T117.setTop (mkF m 505 #[.val (.int a), .val (.long l1), .second, .val (.long l2), .second, .val (.int p5), .val (.int p6), .val (.int p7), .val (.int kd), .val (.int fl), .val (.int pos), .val (.int k2), .val (.int nul), .val (.ref ca), .val (.ref cb), .val (.ref cc), .unset, .unset, .unset] [(.int (11 : Int32)), (.ref ca), (.int (11 : Int32)), (.ref cc)])) := by
    refine S117.trans ?_
    refine (Own.P.aload K117.here K117.exec (hb hby at_497) rfl rfl).trans ?_
    refine (Own.P.bipush K117.here K117.exec (11 : Int32) (hb hby at_499) rfl).trans ?_
    refine (Own.P.aload K117.here K117.exec (hb hby at_501) rfl rfl).trans ?_
    refine (Own.P.bipush K117.here K117.exec (11 : Int32) (hb hby at_503) rfl).trans ?_
    exact Go.refl _
  have G119 := K117.ldC VAcc10 (j := (11 : Int32)) ⟨by decide, by decide⟩ (v := (.int c11)) rfl (pc := 505) (Ls := #[.val (.int a), .val (.long l1), .second, .val (.long l2), .second, .val (.int p5), .val (.int p6), .val (.int p7), .val (.int kd), .val (.int fl), .val (.int pos), .val (.int k2), .val (.int nul), .val (.ref ca), .val (.ref cb), .val (.ref cc), .unset, .unset, .unset]) (rest := [(.int (11 : Int32)), (.ref cc)]) (hb hby at_505)
  have S119 : Go p e below A0 (T117.setTop (mkF m 506 #[.val (.int a), .val (.long l1), .second, .val (.long l2), .second, .val (.int p5), .val (.int p6), .val (.int p7), .val (.int kd), .val (.int fl), .val (.int pos), .val (.int k2), .val (.int nul), .val (.ref ca), .val (.ref cb), .val (.ref cc), .unset, .unset, .unset] [(.int c11), (.int (11 : Int32)), (.ref cc)])) := S118.trans G119
  obtain ⟨T120, h120, K120, W120, V120, G120⟩ := K117.stC V117  (j := (11 : Int32)) ⟨by decide, by decide⟩ 11 rfl (Nat.le_of_ble_eq_true rfl) (Or.inr g_cc) (pc := 506) (Ls := #[.val (.int a), .val (.long l1), .second, .val (.long l2), .second, .val (.int p5), .val (.int p6), .val (.int p7), .val (.int kd), .val (.int fl), .val (.int pos), .val (.int k2), .val (.int nul), .val (.ref ca), .val (.ref cb), .val (.ref cc), .unset, .unset, .unset]) (rest := []) (hb hby at_506)
  have S120 : Go p e below A0 (T120.setTop (mkF m 507 #[.val (.int a), .val (.long l1), .second, .val (.long l2), .second, .val (.int p5), .val (.int p6), .val (.int p7), .val (.int kd), .val (.int fl), .val (.int pos), .val (.int k2), .val (.int nul), .val (.ref ca), .val (.ref cb), .val (.ref cc), .unset, .unset, .unset] [])) := S119.trans G120
  rw [own_nc r11] at V120
  have VAcc11 := VAcc10.other W120 ne_acc
  have VBcc11 := VBcc10.other W120 ne_bcc
  have Hcc11 := CHv.wr W120 (Own.safeArv K120.al V117 (by decide)) Hcc10
  have S121 : Go p e below A0 (T120.setTop (mkF m 518 #[.val (.int a), .val (.long l1), .second, .val (.long l2), .second, .val (.int p5), .val (.int p6), .val (.int p7), .val (.int kd), .val (.int fl), .val (.int pos), .val (.int k2), .val (.int nul), .val (.ref ca), .val (.ref cb), .val (.ref cc), .unset, .unset, .unset] [(.int ((p7 &&& (255 : Int32)).toUInt32.toUInt16.toUInt32.toInt32)), (.int (12 : Int32)), (.ref cc)])) := by
    refine S120.trans ?_
    refine (Own.P.aload K120.here K120.exec (hb hby at_507) rfl rfl).trans ?_
    refine (Own.P.bipush K120.here K120.exec (12 : Int32) (hb hby at_509) rfl).trans ?_
    refine (Own.P.iload K120.here K120.exec (hb hby at_511) rfl).trans ?_
    refine (Own.P.sipush K120.here K120.exec (255 : Int32) (hb hby at_513) rfl).trans ?_
    refine (Own.P.iand K120.here K120.exec (hb hby at_516) ).trans ?_
    refine (Own.P.i2c K120.here K120.exec (hb hby at_517) ).trans ?_
    exact Go.refl _
  obtain ⟨T122, h122, K122, W122, V122, G122⟩ := K120.stC V120  (j := (12 : Int32)) ⟨by decide, by decide⟩ 12 rfl (Nat.le_of_ble_eq_true rfl) (Or.inr g_cc) (pc := 518) (Ls := #[.val (.int a), .val (.long l1), .second, .val (.long l2), .second, .val (.int p5), .val (.int p6), .val (.int p7), .val (.int kd), .val (.int fl), .val (.int pos), .val (.int k2), .val (.int nul), .val (.ref ca), .val (.ref cb), .val (.ref cc), .unset, .unset, .unset]) (rest := []) (hb hby at_518)
  have S122 : Go p e below A0 (T122.setTop (mkF m 519 #[.val (.int a), .val (.long l1), .second, .val (.long l2), .second, .val (.int p5), .val (.int p6), .val (.int p7), .val (.int kd), .val (.int fl), .val (.int pos), .val (.int k2), .val (.int nul), .val (.ref ca), .val (.ref cb), .val (.ref cc), .unset, .unset, .unset] [])) := S121.trans G122
  rw [own_nc (own_c255 p7)] at V122
  have VAcc12 := VAcc11.other W122 ne_acc
  have VBcc12 := VBcc11.other W122 ne_bcc
  have Hcc12 := CHv.wr W122 (Own.safeArv K122.al V120 (by decide)) Hcc11
  have r12 := own_c255 p7
  have S123 : Go p e below A0 (T122.setTop (mkF m 521 #[.val (.int a), .val (.long l1), .second, .val (.long l2), .second, .val (.int p5), .val (.int p6), .val (.int p7), .val (.int kd), .val (.int fl), .val (.int pos), .val (.int k2), .val (.int nul), .val (.ref ca), .val (.ref cb), .val (.ref cc), .unset, .unset, .unset] [(.int nul)])) := by
    refine S122.trans ?_
    refine (Own.P.iload K122.here K122.exec (hb hby at_519) rfl).trans ?_
    exact Go.refl _
  by_cases qn : nul = 0
  case neg =>
      have S124 : Go p e below A0 (T122.setTop (mkF m 624 #[.val (.int a), .val (.long l1), .second, .val (.long l2), .second, .val (.int p5), .val (.int p6), .val (.int p7), .val (.int kd), .val (.int fl), .val (.int pos), .val (.int k2), .val (.int nul), .val (.ref ca), .val (.ref cb), .val (.ref cc), .val Value.null, .val Value.null, .unset] [Value.null])) := by
        refine S123.trans ?_
        refine (Own.P.ifNo K122.here K122.exec (hb hby at_521) (XT.i0_eq_f qn)).trans ?_
        refine (Own.P.null K122.here K122.exec (hb hby at_524) ).trans ?_
        refine (Own.P.astore K122.here K122.exec (l' := #[.val (.int a), .val (.long l1), .second, .val (.long l2), .second, .val (.int p5), .val (.int p6), .val (.int p7), .val (.int kd), .val (.int fl), .val (.int pos), .val (.int k2), .val (.int nul), .val (.ref ca), .val (.ref cb), .val (.ref cc), .val Value.null, .unset, .unset]) (hb hby at_525) rfl rfl).trans ?_
        refine (Own.P.goto K122.here K122.exec 581 (hb hby at_527) (by decide) (by decide)).trans ?_
        refine (Own.P.null K122.here K122.exec (hb hby at_581) ).trans ?_
        refine (Own.P.astore K122.here K122.exec (l' := #[.val (.int a), .val (.long l1), .second, .val (.long l2), .second, .val (.int p5), .val (.int p6), .val (.int p7), .val (.int kd), .val (.int fl), .val (.int pos), .val (.int k2), .val (.int nul), .val (.ref ca), .val (.ref cb), .val (.ref cc), .val Value.null, .val Value.null, .unset]) (hb hby at_582) rfl rfl).trans ?_
        refine (Own.P.aload K122.here K122.exec (hb hby at_584) rfl rfl).trans ?_
        refine (Own.P.ifnullYes K122.here K122.exec 622 (hb hby at_586)  (by decide) (by decide)).trans ?_
        refine (Own.P.aload K122.here K122.exec (hb hby at_622) rfl rfl).trans ?_
        exact Go.refl _
      obtain ⟨v125, vm125, vq125, T125, h125, K125, KK125, ev125, Q125, G125⟩ := K122.callS (y := (⟨"com/example/samband/samband/identity/KeyPurpose", "of", "(Ljava/lang/String;)Ljava/util/Optional;"⟩ : MethodName)) (hw _ (List.mem_of_getElem? (i := 72) rfl)) (hw _ (List.mem_of_getElem? (i := 73) rfl)) (hw _ (List.mem_of_getElem? (i := 70) rfl)) (hw _ (List.mem_of_getElem? (i := 74) rfl)) (by decide) (W := 0) (argsL := [Value.null]) (rest := []) ((c_ofN l Z a0 hw n0 h122 (K122.old) ac di sa sb va kv GV AV XV FA FD SA SB em GE BE zc hzc SC).payW Own.VT.cl (hw _ (List.mem_of_getElem? (i := 74) rfl)) (hw _ (List.mem_of_getElem? (i := 70) rfl)) (by decide) (by decide)) trivial (pc := 624) (Ls := #[.val (.int a), .val (.long l1), .second, .val (.long l2), .second, .val (.int p5), .val (.int p6), .val (.int p7), .val (.int kd), .val (.int fl), .val (.int pos), .val (.int k2), .val (.int nul), .val (.ref ca), .val (.ref cb), .val (.ref cc), .val Value.null, .val Value.null, .unset]) (st := [Value.null]) (by rw [hml]; rfl) (lenOf pd_8 rfl) rfl (Nat.le_of_eq rfl) (hb hby at_624) (by decide) (by decide) all0
      obtain ⟨rfl, hW125⟩ := ev125 rfl
      obtain ⟨⟨o', rfl, BO⟩, hv125⟩ := Q125
      have S125 : Go p e below A0 (T125.setTop (mkF m 627 #[.val (.int a), .val (.long l1), .second, .val (.long l2), .second, .val (.int p5), .val (.int p6), .val (.int p7), .val (.int kd), .val (.int fl), .val (.int pos), .val (.int k2), .val (.int nul), .val (.ref ca), .val (.ref cb), .val (.ref cc), .val Value.null, .val Value.null, .unset] [(.ref o')])) := S124.trans G125
      have S126 : Go p e below A0 (T125.setTop (mkF m 628 #[.val (.int a), .val (.long l1), .second, .val (.long l2), .second, .val (.int p5), .val (.int p6), .val (.int p7), .val (.int kd), .val (.int fl), .val (.int pos), .val (.int k2), .val (.int nul), .val (.ref ca), .val (.ref cb), .val (.ref cc), .val Value.null, .val Value.null, .unset] [Value.null, (.ref o')])) := by
        refine S125.trans ?_
        refine (Own.P.null K125.here K125.exec (hb hby at_627) ).trans ?_
        exact Go.refl _
      obtain ⟨v127, vm127, vq127, T127, h127, K127, KK127, ev127, Q127, G127⟩ := K125.callV (C := "java/util/Optional") (y := (⟨"java/util/Optional", "orElse", "(Ljava/lang/Object;)Ljava/lang/Object;"⟩ : MethodName)) (z := (⟨"java/util/Optional", "orElse", "(Ljava/lang/Object;)Ljava/lang/Object;"⟩ : MethodName)) (hw _ (List.mem_of_getElem? (i := 111) rfl)) (hw _ (List.mem_of_getElem? (i := 112) rfl)) (hw _ (List.mem_of_getElem? (i := 114) rfl)) (Or.inr (Or.inr rfl)) (hw _ (List.mem_of_getElem? (i := 113) rfl)) (by decide) (W := 0) BO.1 (argsL := [Value.null]) (rest := []) ((c_orEN l Z a0 hw n0 h125 (K125.old) o' em BO).payW Own.VT.cl (hw _ (List.mem_of_getElem? (i := 115) rfl)) (hw _ (List.mem_of_getElem? (i := 96) rfl)) (by decide) (by decide)) trivial (pc := 628) (Ls := #[.val (.int a), .val (.long l1), .second, .val (.long l2), .second, .val (.int p5), .val (.int p6), .val (.int p7), .val (.int kd), .val (.int fl), .val (.int pos), .val (.int k2), .val (.int nul), .val (.ref ca), .val (.ref cb), .val (.ref cc), .val Value.null, .val Value.null, .unset]) (st := [Value.null, (.ref o')]) (by rw [hml]; rfl) (lenOf pd_1 rfl) rfl (Nat.le_of_eq rfl) (hb hby at_628) (by decide) (by decide) all0
      obtain ⟨rfl, hW127⟩ := ev127 rfl
      obtain ⟨⟨rfl, e127⟩, hv127⟩ := Q127
      have S127 : Go p e below A0 (T127.setTop (mkF m 631 #[.val (.int a), .val (.long l1), .second, .val (.long l2), .second, .val (.int p5), .val (.int p6), .val (.int p7), .val (.int kd), .val (.int fl), .val (.int pos), .val (.int k2), .val (.int nul), .val (.ref ca), .val (.ref cb), .val (.ref cc), .val Value.null, .val Value.null, .unset] [Value.null])) := S126.trans G127
      subst e127
      have G128 := K127.castNull  (pc := 631) (Ls := #[.val (.int a), .val (.long l1), .second, .val (.long l2), .second, .val (.int p5), .val (.int p6), .val (.int p7), .val (.int kd), .val (.int fl), .val (.int pos), .val (.int k2), .val (.int nul), .val (.ref ca), .val (.ref cb), .val (.ref cc), .val Value.null, .val Value.null, .unset]) (rest := []) (hb hby at_631)
      have S128 : Go p e below A0 (T127.setTop (mkF m 634 #[.val (.int a), .val (.long l1), .second, .val (.long l2), .second, .val (.int p5), .val (.int p6), .val (.int p7), .val (.int kd), .val (.int fl), .val (.int pos), .val (.int k2), .val (.int nul), .val (.ref ca), .val (.ref cb), .val (.ref cc), .val Value.null, .val Value.null, .unset] [Value.null])) := S127.trans G128
      have S129 : Go p e below A0 (T127.setTop (mkF m 648 #[.val (.int a), .val (.long l1), .second, .val (.long l2), .second, .val (.int p5), .val (.int p6), .val (.int p7), .val (.int kd), .val (.int fl), .val (.int pos), .val (.int k2), .val (.int nul), .val (.ref ca), .val (.ref cb), .val (.ref cc), .val Value.null, .val Value.null, .val Value.null] [(.int (1 : Int32))])) := by
        refine S128.trans ?_
        refine (Own.P.astore K127.here K127.exec (l' := #[.val (.int a), .val (.long l1), .second, .val (.long l2), .second, .val (.int p5), .val (.int p6), .val (.int p7), .val (.int kd), .val (.int fl), .val (.int pos), .val (.int k2), .val (.int nul), .val (.ref ca), .val (.ref cb), .val (.ref cc), .val Value.null, .val Value.null, .val Value.null]) (hb hby at_634) rfl rfl).trans ?_
        refine (Own.P.aload K127.here K127.exec (hb hby at_636) rfl rfl).trans ?_
        refine (Own.P.aload K127.here K127.exec (hb hby at_638) rfl rfl).trans ?_
        refine (Own.P.acmpNo K127.here K127.exec (hb hby at_640) rfl rfl (by simp [XT.acmp])).trans ?_
        refine (Own.P.iconst K127.here K127.exec (1 : Int32) (hb hby at_643) rfl).trans ?_
        refine (Own.P.goto K127.here K127.exec 648 (hb hby at_644) (by decide) (by decide)).trans ?_
        exact Go.refl _
      exact ⟨vq127, T127, h127, (some (.int (1 : Int32))), _, _, K127, by decide, by decide, ⟨rfl, trivial⟩, K127.retW S129 hret rfl (Or.inl ⟨rfl, by decide, _, rfl⟩) (hb hby at_648)⟩
  case pos =>
      have S130 : Go p e below A0 (T122.setTop (mkF m 533 #[.val (.int a), .val (.long l1), .second, .val (.long l2), .second, .val (.int p5), .val (.int p6), .val (.int p7), .val (.int kd), .val (.int fl), .val (.int pos), .val (.int k2), .val (.int nul), .val (.ref ca), .val (.ref cb), .val (.ref cc), .unset, .unset, .unset] [(.int (1 : Int32)), (.int k2)])) := by
        refine S123.trans ?_
        refine (Own.P.ifYes K122.here K122.exec 530 (hb hby at_521) (XT.i0_eq_t qn) (by decide) (by decide)).trans ?_
        refine (Own.P.iload K122.here K122.exec (hb hby at_530) rfl).trans ?_
        refine (Own.P.iconst K122.here K122.exec (1 : Int32) (hb hby at_532) rfl).trans ?_
        exact Go.refl _
      obtain ⟨vmJ, TJ, hJ, x', cs, KJ, SX, lx, HJ, SJ⟩ : ∃ (vm' : Vm) (T' : State) (h' : Heap) (x' : Nat) (cs : List Int32), Own.Wk true p l e room_1 s m #[(.int a), (.long l1), (.long l2), (.int p5), (.int p6), (.int p7)] below meth c "com/example/samband/samband/identity/KeyPurposeOfPinLaw" Z n0 h0 [] vm' T' h' 9 157 ∧ StrIs Z h' x' cs ∧ cs.length ≤ 4000 ∧ CHv Z consts_1 vm' h' ∧ Go p e below A0 (T'.setTop (mkF m 581 #[.val (.int a), .val (.long l1), .second, .val (.long l2), .second, .val (.int p5), .val (.int p6), .val (.int p7), .val (.int kd), .val (.int fl), .val (.int pos), .val (.int k2), .val (.int nul), .val (.ref ca), .val (.ref cb), .val (.ref cc), .val (.ref x'), .unset, .unset] [])) := by
        by_cases k1 : k2 = 1
        case pos =>
            have S131 : Go p e below A0 (T122.setTop (mkF m 536 #[.val (.int a), .val (.long l1), .second, .val (.long l2), .second, .val (.int p5), .val (.int p6), .val (.int p7), .val (.int kd), .val (.int fl), .val (.int pos), .val (.int k2), .val (.int nul), .val (.ref ca), .val (.ref cb), .val (.ref cc), .unset, .unset, .unset] [])) := by
              refine S130.trans ?_
              refine (Own.P.icmpNo K122.here K122.exec (hb hby at_533) (XT.ii_ne_f k1)).trans ?_
              exact Go.refl _
            obtain ⟨T132, h132, sq, K132, E132, g_sq, l_sq, ne_sq, X_sq, D_sq, G132⟩ := K122.newO (hw _ (List.mem_of_getElem? (i := 39) rfl)) (hw _ (List.mem_of_getElem? (i := 8) rfl)) (hw _ (List.mem_of_getElem? (i := 7) rfl)) (pc := 536) (Ls := #[.val (.int a), .val (.long l1), .second, .val (.long l2), .second, .val (.int p5), .val (.int p6), .val (.int p7), .val (.int kd), .val (.int fl), .val (.int pos), .val (.int k2), .val (.int nul), .val (.ref ca), .val (.ref cb), .val (.ref cc), .unset, .unset, .unset]) (rest := []) (hb hby at_536) (by decide) (by decide)
            have S132 : Go p e below A0 (T132.setTop (mkF m 539 #[.val (.int a), .val (.long l1), .second, .val (.long l2), .second, .val (.int p5), .val (.int p6), .val (.int p7), .val (.int kd), .val (.int fl), .val (.int pos), .val (.int k2), .val (.int nul), .val (.ref ca), .val (.ref cb), .val (.ref cc), .unset, .unset, .unset] [(.ref sq)])) := S131.trans G132
            have V3 := VBcc12.ext E132
            have hp : ∀ c ∈ [c0, c1, c2, c3, c4, c5, c6, c7, c8, c9, c10], ¬ c < 0 ∧ ¬ (255 : Int32) < c := by intro c hc; simp only [List.mem_cons, List.not_mem_nil, or_false] at hc; rcases hc with rfl | rfl | rfl | rfl | rfl | rfl | rfl | rfl | rfl | rfl | rfl <;> assumption
            have X0s := X_sq
            have D0s := D_sq (Or.inr (hw _ (List.mem_of_getElem? (i := 10) rfl))) (ty := .array .byte) (by decide)
            have HC := CHv.ext E132 Hcc12
            have S133 : Go p e below A0 (T132.setTop (mkF m 542 #[.val (.int a), .val (.long l1), .second, .val (.long l2), .second, .val (.int p5), .val (.int p6), .val (.int p7), .val (.int kd), .val (.int fl), .val (.int pos), .val (.int k2), .val (.int nul), .val (.ref ca), .val (.ref cb), .val (.ref cc), .unset, .unset, .unset] [(.ref cb), (.ref sq), (.ref sq)])) := by
              refine S132.trans ?_
              refine (Own.P.dup K132.here K132.exec (hb hby at_539) rfl).trans ?_
              refine (Own.P.aload K132.here K132.exec (hb hby at_540) rfl rfl).trans ?_
              exact Go.refl _
            obtain ⟨v134, vm134, vq134, T134, h134, K134, KK134, ev134, Q134, G134⟩ := K132.callI (y := (⟨"java/lang/String", "<init>", "([C)V"⟩ : MethodName)) rfl (hw _ (List.mem_of_getElem? (i := 40) rfl)) (hw _ (List.mem_of_getElem? (i := 41) rfl)) (hw _ (List.mem_of_getElem? (i := 42) rfl)) (by decide) (W := 1) (a := sq) (argsL := [(.ref cb)]) (rest := [(.ref sq)]) (Own.payStr (W := 1) hw (Own.HV.cl (own_ew hw)) (hw _ (List.mem_of_getElem? (i := 8) rfl)) (cs := [c0, c1, c2, c3, c4, c5, c6, c7, c8, c9, c10]) (n := 11) K132.old X_sq (D_sq (Or.inr (hw _ (List.mem_of_getElem? (i := 10) rfl))) (ty := .array .byte) (by decide)) (D_sq (Or.inr (hw _ (List.mem_of_getElem? (i := 11) rfl))) (ty := .byte) (by decide)) V3 SC hzc rfl rfl rfl (by decide) (by decide) hp (by decide) (by decide)) ⟨K132.warm, HC⟩ (pc := 542) (Ls := #[.val (.int a), .val (.long l1), .second, .val (.long l2), .second, .val (.int p5), .val (.int p6), .val (.int p7), .val (.int kd), .val (.int fl), .val (.int pos), .val (.int k2), .val (.int nul), .val (.ref ca), .val (.ref cb), .val (.ref cc), .unset, .unset, .unset]) (st := [(.ref cb), (.ref sq), (.ref sq)]) (by rw [hml]; rfl) (lenOf pd_9 rfl) rfl (Nat.le_of_eq rfl) (hb hby at_542) (by decide) (by decide) (allS (Or.inr g_sq) all0)
            obtain ⟨rfl, hW134⟩ := ev134 rfl
            obtain ⟨rfl, SI, HH⟩ := Q134
            have S134 : Go p e below A0 (T134.setTop (mkF m 545 #[.val (.int a), .val (.long l1), .second, .val (.long l2), .second, .val (.int p5), .val (.int p6), .val (.int p7), .val (.int kd), .val (.int fl), .val (.int pos), .val (.int k2), .val (.int nul), .val (.ref ca), .val (.ref cb), .val (.ref cc), .unset, .unset, .unset] [(.ref sq)])) := S133.trans G134
            have S135 : Go p e below A0 (T134.setTop (mkF m 581 #[.val (.int a), .val (.long l1), .second, .val (.long l2), .second, .val (.int p5), .val (.int p6), .val (.int p7), .val (.int kd), .val (.int fl), .val (.int pos), .val (.int k2), .val (.int nul), .val (.ref ca), .val (.ref cb), .val (.ref cc), .val (.ref sq), .unset, .unset] [])) := by
              refine S134.trans ?_
              refine (Own.P.astore K134.here K134.exec (l' := #[.val (.int a), .val (.long l1), .second, .val (.long l2), .second, .val (.int p5), .val (.int p6), .val (.int p7), .val (.int kd), .val (.int fl), .val (.int pos), .val (.int k2), .val (.int nul), .val (.ref ca), .val (.ref cb), .val (.ref cc), .val (.ref sq), .unset, .unset]) (hb hby at_545) rfl rfl).trans ?_
              refine (Own.P.goto K134.here K134.exec 581 (hb hby at_547) (by decide) (by decide)).trans ?_
              exact Go.refl _
            have K136 := K134.more (cells' := 9) (slots' := 157) (by decide) (by decide)
            exact ⟨_, _, _, sq, [c0, c1, c2, c3, c4, c5, c6, c7, c8, c9, c10], K136, SI, Nat.le_of_ble_eq_true rfl, CHv.keep KK134 (allS (Own.safeNull HH.1.alike D0s X0s) (fun _ q => nomatch q)) HH.2, S135⟩
        case neg =>
            have S137 : Go p e below A0 (T122.setTop (mkF m 553 #[.val (.int a), .val (.long l1), .second, .val (.long l2), .second, .val (.int p5), .val (.int p6), .val (.int p7), .val (.int kd), .val (.int fl), .val (.int pos), .val (.int k2), .val (.int nul), .val (.ref ca), .val (.ref cb), .val (.ref cc), .unset, .unset, .unset] [(.int (2 : Int32)), (.int k2)])) := by
              refine S130.trans ?_
              refine (Own.P.icmpYes K122.here K122.exec 550 (hb hby at_533) (XT.ii_ne_t k1) (by decide) (by decide)).trans ?_
              refine (Own.P.iload K122.here K122.exec (hb hby at_550) rfl).trans ?_
              refine (Own.P.iconst K122.here K122.exec (2 : Int32) (hb hby at_552) rfl).trans ?_
              exact Go.refl _
            by_cases k2' : k2 = 2
            case pos =>
                have S138 : Go p e below A0 (T122.setTop (mkF m 556 #[.val (.int a), .val (.long l1), .second, .val (.long l2), .second, .val (.int p5), .val (.int p6), .val (.int p7), .val (.int kd), .val (.int fl), .val (.int pos), .val (.int k2), .val (.int nul), .val (.ref ca), .val (.ref cb), .val (.ref cc), .unset, .unset, .unset] [])) := by
                  refine S137.trans ?_
                  refine (Own.P.icmpNo K122.here K122.exec (hb hby at_553) (XT.ii_ne_f k2')).trans ?_
                  exact Go.refl _
                obtain ⟨T139, h139, sq, K139, E139, g_sq, l_sq, ne_sq, X_sq, D_sq, G139⟩ := K122.newO (hw _ (List.mem_of_getElem? (i := 39) rfl)) (hw _ (List.mem_of_getElem? (i := 8) rfl)) (hw _ (List.mem_of_getElem? (i := 7) rfl)) (pc := 556) (Ls := #[.val (.int a), .val (.long l1), .second, .val (.long l2), .second, .val (.int p5), .val (.int p6), .val (.int p7), .val (.int kd), .val (.int fl), .val (.int pos), .val (.int k2), .val (.int nul), .val (.ref ca), .val (.ref cb), .val (.ref cc), .unset, .unset, .unset]) (rest := []) (hb hby at_556) (by decide) (by decide)
                have S139 : Go p e below A0 (T139.setTop (mkF m 559 #[.val (.int a), .val (.long l1), .second, .val (.long l2), .second, .val (.int p5), .val (.int p6), .val (.int p7), .val (.int kd), .val (.int fl), .val (.int pos), .val (.int k2), .val (.int nul), .val (.ref ca), .val (.ref cb), .val (.ref cc), .unset, .unset, .unset] [(.ref sq)])) := S138.trans G139
                have V3 := V122.ext E139
                have hp : ∀ c ∈ [c0, c1, c2, c3, c4, c5, c6, c7, c8, c9, c10, c11, ((p7 &&& (255 : Int32)).toUInt32.toUInt16.toUInt32.toInt32)], ¬ c < 0 ∧ ¬ (255 : Int32) < c := by intro c hc; simp only [List.mem_cons, List.not_mem_nil, or_false] at hc; rcases hc with rfl | rfl | rfl | rfl | rfl | rfl | rfl | rfl | rfl | rfl | rfl | rfl | rfl <;> assumption
                have X0s := X_sq
                have D0s := D_sq (Or.inr (hw _ (List.mem_of_getElem? (i := 10) rfl))) (ty := .array .byte) (by decide)
                have HC := CHv.ext E139 Hcc12
                have S140 : Go p e below A0 (T139.setTop (mkF m 562 #[.val (.int a), .val (.long l1), .second, .val (.long l2), .second, .val (.int p5), .val (.int p6), .val (.int p7), .val (.int kd), .val (.int fl), .val (.int pos), .val (.int k2), .val (.int nul), .val (.ref ca), .val (.ref cb), .val (.ref cc), .unset, .unset, .unset] [(.ref cc), (.ref sq), (.ref sq)])) := by
                  refine S139.trans ?_
                  refine (Own.P.dup K139.here K139.exec (hb hby at_559) rfl).trans ?_
                  refine (Own.P.aload K139.here K139.exec (hb hby at_560) rfl rfl).trans ?_
                  exact Go.refl _
                obtain ⟨v141, vm141, vq141, T141, h141, K141, KK141, ev141, Q141, G141⟩ := K139.callI (y := (⟨"java/lang/String", "<init>", "([C)V"⟩ : MethodName)) rfl (hw _ (List.mem_of_getElem? (i := 40) rfl)) (hw _ (List.mem_of_getElem? (i := 41) rfl)) (hw _ (List.mem_of_getElem? (i := 42) rfl)) (by decide) (W := 1) (a := sq) (argsL := [(.ref cc)]) (rest := [(.ref sq)]) (Own.payStr (W := 1) hw (Own.HV.cl (own_ew hw)) (hw _ (List.mem_of_getElem? (i := 8) rfl)) (cs := [c0, c1, c2, c3, c4, c5, c6, c7, c8, c9, c10, c11, ((p7 &&& (255 : Int32)).toUInt32.toUInt16.toUInt32.toInt32)]) (n := 13) K139.old X_sq (D_sq (Or.inr (hw _ (List.mem_of_getElem? (i := 10) rfl))) (ty := .array .byte) (by decide)) (D_sq (Or.inr (hw _ (List.mem_of_getElem? (i := 11) rfl))) (ty := .byte) (by decide)) V3 SC hzc rfl rfl rfl (by decide) (by decide) hp (by decide) (by decide)) ⟨K139.warm, HC⟩ (pc := 562) (Ls := #[.val (.int a), .val (.long l1), .second, .val (.long l2), .second, .val (.int p5), .val (.int p6), .val (.int p7), .val (.int kd), .val (.int fl), .val (.int pos), .val (.int k2), .val (.int nul), .val (.ref ca), .val (.ref cb), .val (.ref cc), .unset, .unset, .unset]) (st := [(.ref cc), (.ref sq), (.ref sq)]) (by rw [hml]; rfl) (lenOf pd_9 rfl) rfl (Nat.le_of_eq rfl) (hb hby at_562) (by decide) (by decide) (allS (Or.inr g_sq) all0)
                obtain ⟨rfl, hW141⟩ := ev141 rfl
                obtain ⟨rfl, SI, HH⟩ := Q141
                have S141 : Go p e below A0 (T141.setTop (mkF m 565 #[.val (.int a), .val (.long l1), .second, .val (.long l2), .second, .val (.int p5), .val (.int p6), .val (.int p7), .val (.int kd), .val (.int fl), .val (.int pos), .val (.int k2), .val (.int nul), .val (.ref ca), .val (.ref cb), .val (.ref cc), .unset, .unset, .unset] [(.ref sq)])) := S140.trans G141
                have S142 : Go p e below A0 (T141.setTop (mkF m 581 #[.val (.int a), .val (.long l1), .second, .val (.long l2), .second, .val (.int p5), .val (.int p6), .val (.int p7), .val (.int kd), .val (.int fl), .val (.int pos), .val (.int k2), .val (.int nul), .val (.ref ca), .val (.ref cb), .val (.ref cc), .val (.ref sq), .unset, .unset] [])) := by
                  refine S141.trans ?_
                  refine (Own.P.astore K141.here K141.exec (l' := #[.val (.int a), .val (.long l1), .second, .val (.long l2), .second, .val (.int p5), .val (.int p6), .val (.int p7), .val (.int kd), .val (.int fl), .val (.int pos), .val (.int k2), .val (.int nul), .val (.ref ca), .val (.ref cb), .val (.ref cc), .val (.ref sq), .unset, .unset]) (hb hby at_565) rfl rfl).trans ?_
                  refine (Own.P.goto K141.here K141.exec 581 (hb hby at_567) (by decide) (by decide)).trans ?_
                  exact Go.refl _
                exact ⟨_, _, _, sq, [c0, c1, c2, c3, c4, c5, c6, c7, c8, c9, c10, c11, ((p7 &&& (255 : Int32)).toUInt32.toUInt16.toUInt32.toInt32)], K141, SI, Nat.le_of_ble_eq_true rfl, CHv.keep KK141 (allS (Own.safeNull HH.1.alike D0s X0s) (fun _ q => nomatch q)) HH.2, S142⟩
            case neg =>
                have S143 : Go p e below A0 (T122.setTop (mkF m 570 #[.val (.int a), .val (.long l1), .second, .val (.long l2), .second, .val (.int p5), .val (.int p6), .val (.int p7), .val (.int kd), .val (.int fl), .val (.int pos), .val (.int k2), .val (.int nul), .val (.ref ca), .val (.ref cb), .val (.ref cc), .unset, .unset, .unset] [])) := by
                  refine S137.trans ?_
                  refine (Own.P.icmpYes K122.here K122.exec 570 (hb hby at_553) (XT.ii_ne_t k2') (by decide) (by decide)).trans ?_
                  exact Go.refl _
                obtain ⟨T144, h144, sq, K144, E144, g_sq, l_sq, ne_sq, X_sq, D_sq, G144⟩ := K122.newO (hw _ (List.mem_of_getElem? (i := 39) rfl)) (hw _ (List.mem_of_getElem? (i := 8) rfl)) (hw _ (List.mem_of_getElem? (i := 7) rfl)) (pc := 570) (Ls := #[.val (.int a), .val (.long l1), .second, .val (.long l2), .second, .val (.int p5), .val (.int p6), .val (.int p7), .val (.int kd), .val (.int fl), .val (.int pos), .val (.int k2), .val (.int nul), .val (.ref ca), .val (.ref cb), .val (.ref cc), .unset, .unset, .unset]) (rest := []) (hb hby at_570) (by decide) (by decide)
                have S144 : Go p e below A0 (T144.setTop (mkF m 573 #[.val (.int a), .val (.long l1), .second, .val (.long l2), .second, .val (.int p5), .val (.int p6), .val (.int p7), .val (.int kd), .val (.int fl), .val (.int pos), .val (.int k2), .val (.int nul), .val (.ref ca), .val (.ref cb), .val (.ref cc), .unset, .unset, .unset] [(.ref sq)])) := S143.trans G144
                have V3 := VAcc12.ext E144
                have hp : ∀ c ∈ [c0, c1, c2, c3, c4, c5, c6, c7, c8, c9, c10, c11], ¬ c < 0 ∧ ¬ (255 : Int32) < c := by intro c hc; simp only [List.mem_cons, List.not_mem_nil, or_false] at hc; rcases hc with rfl | rfl | rfl | rfl | rfl | rfl | rfl | rfl | rfl | rfl | rfl | rfl <;> assumption
                have X0s := X_sq
                have D0s := D_sq (Or.inr (hw _ (List.mem_of_getElem? (i := 10) rfl))) (ty := .array .byte) (by decide)
                have HC := CHv.ext E144 Hcc12
                have S145 : Go p e below A0 (T144.setTop (mkF m 576 #[.val (.int a), .val (.long l1), .second, .val (.long l2), .second, .val (.int p5), .val (.int p6), .val (.int p7), .val (.int kd), .val (.int fl), .val (.int pos), .val (.int k2), .val (.int nul), .val (.ref ca), .val (.ref cb), .val (.ref cc), .unset, .unset, .unset] [(.ref ca), (.ref sq), (.ref sq)])) := by
                  refine S144.trans ?_
                  refine (Own.P.dup K144.here K144.exec (hb hby at_573) rfl).trans ?_
                  refine (Own.P.aload K144.here K144.exec (hb hby at_574) rfl rfl).trans ?_
                  exact Go.refl _
                obtain ⟨v146, vm146, vq146, T146, h146, K146, KK146, ev146, Q146, G146⟩ := K144.callI (y := (⟨"java/lang/String", "<init>", "([C)V"⟩ : MethodName)) rfl (hw _ (List.mem_of_getElem? (i := 40) rfl)) (hw _ (List.mem_of_getElem? (i := 41) rfl)) (hw _ (List.mem_of_getElem? (i := 42) rfl)) (by decide) (W := 1) (a := sq) (argsL := [(.ref ca)]) (rest := [(.ref sq)]) (Own.payStr (W := 1) hw (Own.HV.cl (own_ew hw)) (hw _ (List.mem_of_getElem? (i := 8) rfl)) (cs := [c0, c1, c2, c3, c4, c5, c6, c7, c8, c9, c10, c11]) (n := 12) K144.old X_sq (D_sq (Or.inr (hw _ (List.mem_of_getElem? (i := 10) rfl))) (ty := .array .byte) (by decide)) (D_sq (Or.inr (hw _ (List.mem_of_getElem? (i := 11) rfl))) (ty := .byte) (by decide)) V3 SC hzc rfl rfl rfl (by decide) (by decide) hp (by decide) (by decide)) ⟨K144.warm, HC⟩ (pc := 576) (Ls := #[.val (.int a), .val (.long l1), .second, .val (.long l2), .second, .val (.int p5), .val (.int p6), .val (.int p7), .val (.int kd), .val (.int fl), .val (.int pos), .val (.int k2), .val (.int nul), .val (.ref ca), .val (.ref cb), .val (.ref cc), .unset, .unset, .unset]) (st := [(.ref ca), (.ref sq), (.ref sq)]) (by rw [hml]; rfl) (lenOf pd_9 rfl) rfl (Nat.le_of_eq rfl) (hb hby at_576) (by decide) (by decide) (allS (Or.inr g_sq) all0)
                obtain ⟨rfl, hW146⟩ := ev146 rfl
                obtain ⟨rfl, SI, HH⟩ := Q146
                have S146 : Go p e below A0 (T146.setTop (mkF m 579 #[.val (.int a), .val (.long l1), .second, .val (.long l2), .second, .val (.int p5), .val (.int p6), .val (.int p7), .val (.int kd), .val (.int fl), .val (.int pos), .val (.int k2), .val (.int nul), .val (.ref ca), .val (.ref cb), .val (.ref cc), .unset, .unset, .unset] [(.ref sq)])) := S145.trans G146
                have S147 : Go p e below A0 (T146.setTop (mkF m 581 #[.val (.int a), .val (.long l1), .second, .val (.long l2), .second, .val (.int p5), .val (.int p6), .val (.int p7), .val (.int kd), .val (.int fl), .val (.int pos), .val (.int k2), .val (.int nul), .val (.ref ca), .val (.ref cb), .val (.ref cc), .val (.ref sq), .unset, .unset] [])) := by
                  refine S146.trans ?_
                  refine (Own.P.astore K146.here K146.exec (l' := #[.val (.int a), .val (.long l1), .second, .val (.long l2), .second, .val (.int p5), .val (.int p6), .val (.int p7), .val (.int kd), .val (.int fl), .val (.int pos), .val (.int k2), .val (.int nul), .val (.ref ca), .val (.ref cb), .val (.ref cc), .val (.ref sq), .unset, .unset]) (hb hby at_579) rfl rfl).trans ?_
                  exact Go.refl _
                have K148 := K146.more (cells' := 9) (slots' := 157) (by decide) (by decide)
                exact ⟨_, _, _, sq, [c0, c1, c2, c3, c4, c5, c6, c7, c8, c9, c10, c11], K148, SI, Nat.le_of_ble_eq_true rfl, CHv.keep KK146 (allS (Own.safeNull HH.1.alike D0s X0s) (fun _ q => nomatch q)) HH.2, S147⟩
      have S149 : Go p e below A0 (TJ.setTop (mkF m 591 #[.val (.int a), .val (.long l1), .second, .val (.long l2), .second, .val (.int p5), .val (.int p6), .val (.int p7), .val (.int kd), .val (.int fl), .val (.int pos), .val (.int k2), .val (.int nul), .val (.ref ca), .val (.ref cb), .val (.ref cc), .val (.ref x'), .val Value.null, .unset] [(.ref x')])) := by
        refine SJ.trans ?_
        refine (Own.P.null KJ.here KJ.exec (hb hby at_581) ).trans ?_
        refine (Own.P.astore KJ.here KJ.exec (l' := #[.val (.int a), .val (.long l1), .second, .val (.long l2), .second, .val (.int p5), .val (.int p6), .val (.int p7), .val (.int kd), .val (.int fl), .val (.int pos), .val (.int k2), .val (.int nul), .val (.ref ca), .val (.ref cb), .val (.ref cc), .val (.ref x'), .val Value.null, .unset]) (hb hby at_582) rfl rfl).trans ?_
        refine (Own.P.aload KJ.here KJ.exec (hb hby at_584) rfl rfl).trans ?_
        refine (Own.P.ifnullNo KJ.here KJ.exec (hb hby at_586) ).trans ?_
        refine (Own.P.aload KJ.here KJ.exec (hb hby at_589) rfl rfl).trans ?_
        exact Go.refl _
      obtain ⟨la, b_la, k_la, vm150, T150, h150, K150, E150, X_la, C_la, F_la, V_la, H_la, L_la, G150⟩ := KJ.ldcH (hw _ (List.mem_of_getElem? (i := 6) rfl)) (Own.atoms_in hw) (own_ew hw) (by simp [consts_1]) HJ (vs := (own_L7.map fun c => Value.int (lo8 c))) (z := Int32.ofNat own_L7.length) ⟨by decide +kernel, by decide +kernel⟩ (by decide) (by decide +kernel) (pc := 591) (Ls := #[.val (.int a), .val (.long l1), .second, .val (.long l2), .second, .val (.int p5), .val (.int p6), .val (.int p7), .val (.int kd), .val (.int fl), .val (.int pos), .val (.int k2), .val (.int nul), .val (.ref ca), .val (.ref cb), .val (.ref cc), .val (.ref x'), .val Value.null, .unset]) (rest := [(.ref x')]) (hb hby at_591) (n := 48) (by decide +kernel) (by decide) (by decide) (by decide)
      have S150 : Go p e below A0 (T150.setTop (mkF m 593 #[.val (.int a), .val (.long l1), .second, .val (.long l2), .second, .val (.int p5), .val (.int p6), .val (.int p7), .val (.int kd), .val (.int fl), .val (.int pos), .val (.int k2), .val (.int nul), .val (.ref ca), .val (.ref cb), .val (.ref cc), .val (.ref x'), .val Value.null, .unset] [(.ref la), (.ref x')])) := S149.trans G150
      have SXa := SX.ext E150
      have SIa : StrIs Z h150 la own_L7 := ⟨own_r7, X_la, C_la, b_la, k_la, F_la, V_la⟩
      obtain ⟨v151, vm151, vq151, T151, h151, K151, KK151, ev151, Q151, G151⟩ := K150.callV (C := "java/lang/String") (y := (⟨"java/lang/String", "equals", "(Ljava/lang/Object;)Z"⟩ : MethodName)) (z := (⟨"java/lang/String", "equals", "(Ljava/lang/Object;)Z"⟩ : MethodName)) (hw _ (List.mem_of_getElem? (i := 60) rfl)) (hw _ (List.mem_of_getElem? (i := 61) rfl)) (hw _ (List.mem_of_getElem? (i := 63) rfl)) (Or.inr (Or.inr rfl)) (hw _ (List.mem_of_getElem? (i := 62) rfl)) (by decide) (W := 0) SXa.2.1 (argsL := [(.ref la)]) (rest := []) (Own.payEq (W := 0) hw (Own.HV.cl (own_ew hw)) (hw _ (List.mem_of_getElem? (i := 8) rfl)) K150.old SXa lx SIa (by decide) SC hzc (by decide) (by decide)) ⟨K150.warm, H_la⟩ (pc := 593) (Ls := #[.val (.int a), .val (.long l1), .second, .val (.long l2), .second, .val (.int p5), .val (.int p6), .val (.int p7), .val (.int kd), .val (.int fl), .val (.int pos), .val (.int k2), .val (.int nul), .val (.ref ca), .val (.ref cb), .val (.ref cc), .val (.ref x'), .val Value.null, .unset]) (st := [(.ref la), (.ref x')]) (by rw [hml]; rfl) (lenOf pd_4 rfl) rfl (Nat.le_of_eq rfl) (hb hby at_593) (by decide) (by decide) all0
      obtain ⟨rfl, hW151⟩ := ev151 rfl
      obtain ⟨⟨rfl, e151⟩, hv151⟩ := Q151
      have S151 : Go p e below A0 (T151.setTop (mkF m 596 #[.val (.int a), .val (.long l1), .second, .val (.long l2), .second, .val (.int p5), .val (.int p6), .val (.int p7), .val (.int kd), .val (.int fl), .val (.int pos), .val (.int k2), .val (.int nul), .val (.ref ca), .val (.ref cb), .val (.ref cc), .val (.ref x'), .val Value.null, .unset] [(.int (own_seq cs own_L7))])) := S150.trans G151
      subst e151
      by_cases q7 : cs = own_L7
      case pos =>
          rw [own_seq1 q7] at S151
          have S152 : Go p e below A0 (T151.setTop (mkF m 599 #[.val (.int a), .val (.long l1), .second, .val (.long l2), .second, .val (.int p5), .val (.int p6), .val (.int p7), .val (.int kd), .val (.int fl), .val (.int pos), .val (.int k2), .val (.int nul), .val (.ref ca), .val (.ref cb), .val (.ref cc), .val (.ref x'), .val Value.null, .unset] [])) := by
            refine S151.trans ?_
            refine (Own.P.ifNo K151.here K151.exec (hb hby at_596) (by decide)).trans ?_
            exact Go.refl _
          obtain ⟨T153, K153, G153⟩ := K151.getS "" (Or.inl (hw _ (List.mem_of_getElem? (i := 69) rfl))) Via.refl (GA.ext K151.ext) (pc := 599) (Ls := #[.val (.int a), .val (.long l1), .second, .val (.long l2), .second, .val (.int p5), .val (.int p6), .val (.int p7), .val (.int kd), .val (.int fl), .val (.int pos), .val (.int k2), .val (.int nul), .val (.ref ca), .val (.ref cb), .val (.ref cc), .val (.ref x'), .val Value.null, .unset]) (rest := []) (hb hby at_599)
          have S153 : Go p e below A0 (T153.setTop (mkF m 602 #[.val (.int a), .val (.long l1), .second, .val (.long l2), .second, .val (.int p5), .val (.int p6), .val (.int p7), .val (.int kd), .val (.int fl), .val (.int pos), .val (.int k2), .val (.int nul), .val (.ref ca), .val (.ref cb), .val (.ref cc), .val (.ref x'), .val Value.null, .unset] [(.ref ac)])) := S152.trans G153
          have S154 : Go p e below A0 (T153.setTop (mkF m 624 #[.val (.int a), .val (.long l1), .second, .val (.long l2), .second, .val (.int p5), .val (.int p6), .val (.int p7), .val (.int kd), .val (.int fl), .val (.int pos), .val (.int k2), .val (.int nul), .val (.ref ca), .val (.ref cb), .val (.ref cc), .val (.ref x'), .val (.ref ac), .unset] [(.ref x')])) := by
            refine S153.trans ?_
            refine (Own.P.astore K153.here K153.exec (l' := #[.val (.int a), .val (.long l1), .second, .val (.long l2), .second, .val (.int p5), .val (.int p6), .val (.int p7), .val (.int kd), .val (.int fl), .val (.int pos), .val (.int k2), .val (.int nul), .val (.ref ca), .val (.ref cb), .val (.ref cc), .val (.ref x'), .val (.ref ac), .unset]) (hb hby at_602) rfl rfl).trans ?_
            refine (Own.P.goto K153.here K153.exec 622 (hb hby at_604) (by decide) (by decide)).trans ?_
            refine (Own.P.aload K153.here K153.exec (hb hby at_622) rfl rfl).trans ?_
            exact Go.refl _
          obtain ⟨v155, vm155, vq155, T155, h155, K155, KK155, ev155, Q155, G155⟩ := K153.callS (y := (⟨"com/example/samband/samband/identity/KeyPurpose", "of", "(Ljava/lang/String;)Ljava/util/Optional;"⟩ : MethodName)) (hw _ (List.mem_of_getElem? (i := 72) rfl)) (hw _ (List.mem_of_getElem? (i := 73) rfl)) (hw _ (List.mem_of_getElem? (i := 70) rfl)) (hw _ (List.mem_of_getElem? (i := 74) rfl)) (by decide) (W := 0) (argsL := [(.ref x')]) (rest := []) ((c_ofS l Z a0 hw n0 h151 (K153.old) ac di sa sb va kv GV AV XV FA FD SA SB em GE BE zc hzc SC x' cs SXa lx).payW Own.VT.cl (hw _ (List.mem_of_getElem? (i := 74) rfl)) (hw _ (List.mem_of_getElem? (i := 70) rfl)) (by decide) (by decide)) trivial (pc := 624) (Ls := #[.val (.int a), .val (.long l1), .second, .val (.long l2), .second, .val (.int p5), .val (.int p6), .val (.int p7), .val (.int kd), .val (.int fl), .val (.int pos), .val (.int k2), .val (.int nul), .val (.ref ca), .val (.ref cb), .val (.ref cc), .val (.ref x'), .val (.ref ac), .unset]) (st := [(.ref x')]) (by rw [hml]; rfl) (lenOf pd_8 rfl) rfl (Nat.le_of_eq rfl) (hb hby at_624) (by decide) (by decide) all0
          obtain ⟨rfl, hW155⟩ := ev155 rfl
          obtain ⟨⟨o', rfl, BO⟩, hv155⟩ := Q155
          have S155 : Go p e below A0 (T155.setTop (mkF m 627 #[.val (.int a), .val (.long l1), .second, .val (.long l2), .second, .val (.int p5), .val (.int p6), .val (.int p7), .val (.int kd), .val (.int fl), .val (.int pos), .val (.int k2), .val (.int nul), .val (.ref ca), .val (.ref cb), .val (.ref cc), .val (.ref x'), .val (.ref ac), .unset] [(.ref o')])) := S154.trans G155
          rw [own_kp7 q7.symm] at BO
          have S156 : Go p e below A0 (T155.setTop (mkF m 628 #[.val (.int a), .val (.long l1), .second, .val (.long l2), .second, .val (.int p5), .val (.int p6), .val (.int p7), .val (.int kd), .val (.int fl), .val (.int pos), .val (.int k2), .val (.int nul), .val (.ref ca), .val (.ref cb), .val (.ref cc), .val (.ref x'), .val (.ref ac), .unset] [Value.null, (.ref o')])) := by
            refine S155.trans ?_
            refine (Own.P.null K155.here K155.exec (hb hby at_627) ).trans ?_
            exact Go.refl _
          obtain ⟨v157, vm157, vq157, T157, h157, K157, KK157, ev157, Q157, G157⟩ := K155.callV (C := "java/util/Optional") (y := (⟨"java/util/Optional", "orElse", "(Ljava/lang/Object;)Ljava/lang/Object;"⟩ : MethodName)) (z := (⟨"java/util/Optional", "orElse", "(Ljava/lang/Object;)Ljava/lang/Object;"⟩ : MethodName)) (hw _ (List.mem_of_getElem? (i := 111) rfl)) (hw _ (List.mem_of_getElem? (i := 112) rfl)) (hw _ (List.mem_of_getElem? (i := 114) rfl)) (Or.inr (Or.inr rfl)) (hw _ (List.mem_of_getElem? (i := 113) rfl)) (by decide) (W := 0) BO.1 (argsL := [Value.null]) (rest := []) ((c_orER l Z a0 hw n0 h155 (K155.old) o' ac BO).payW Own.VT.cl (hw _ (List.mem_of_getElem? (i := 115) rfl)) (hw _ (List.mem_of_getElem? (i := 96) rfl)) (by decide) (by decide)) trivial (pc := 628) (Ls := #[.val (.int a), .val (.long l1), .second, .val (.long l2), .second, .val (.int p5), .val (.int p6), .val (.int p7), .val (.int kd), .val (.int fl), .val (.int pos), .val (.int k2), .val (.int nul), .val (.ref ca), .val (.ref cb), .val (.ref cc), .val (.ref x'), .val (.ref ac), .unset]) (st := [Value.null, (.ref o')]) (by rw [hml]; rfl) (lenOf pd_1 rfl) rfl (Nat.le_of_eq rfl) (hb hby at_628) (by decide) (by decide) all0
          obtain ⟨rfl, hW157⟩ := ev157 rfl
          obtain ⟨⟨rfl, e157⟩, hv157⟩ := Q157
          have S157 : Go p e below A0 (T157.setTop (mkF m 631 #[.val (.int a), .val (.long l1), .second, .val (.long l2), .second, .val (.int p5), .val (.int p6), .val (.int p7), .val (.int kd), .val (.int fl), .val (.int pos), .val (.int k2), .val (.int nul), .val (.ref ca), .val (.ref cb), .val (.ref cc), .val (.ref x'), .val (.ref ac), .unset] [(.ref ac)])) := S156.trans G157
          subst e157
          obtain ⟨T158, K158, G158⟩ := K157.castY (hw _ (List.mem_of_getElem? (i := 116) rfl)) (Ins.self (XA.ext K157.ext)) (pc := 631) (Ls := #[.val (.int a), .val (.long l1), .second, .val (.long l2), .second, .val (.int p5), .val (.int p6), .val (.int p7), .val (.int kd), .val (.int fl), .val (.int pos), .val (.int k2), .val (.int nul), .val (.ref ca), .val (.ref cb), .val (.ref cc), .val (.ref x'), .val (.ref ac), .unset]) (rest := []) (hb hby at_631)
          have S158 : Go p e below A0 (T158.setTop (mkF m 634 #[.val (.int a), .val (.long l1), .second, .val (.long l2), .second, .val (.int p5), .val (.int p6), .val (.int p7), .val (.int kd), .val (.int fl), .val (.int pos), .val (.int k2), .val (.int nul), .val (.ref ca), .val (.ref cb), .val (.ref cc), .val (.ref x'), .val (.ref ac), .unset] [(.ref ac)])) := S157.trans G158
          have S159 : Go p e below A0 (T158.setTop (mkF m 648 #[.val (.int a), .val (.long l1), .second, .val (.long l2), .second, .val (.int p5), .val (.int p6), .val (.int p7), .val (.int kd), .val (.int fl), .val (.int pos), .val (.int k2), .val (.int nul), .val (.ref ca), .val (.ref cb), .val (.ref cc), .val (.ref x'), .val (.ref ac), .val (.ref ac)] [(.int (1 : Int32))])) := by
            refine S158.trans ?_
            refine (Own.P.astore K158.here K158.exec (l' := #[.val (.int a), .val (.long l1), .second, .val (.long l2), .second, .val (.int p5), .val (.int p6), .val (.int p7), .val (.int kd), .val (.int fl), .val (.int pos), .val (.int k2), .val (.int nul), .val (.ref ca), .val (.ref cb), .val (.ref cc), .val (.ref x'), .val (.ref ac), .val (.ref ac)]) (hb hby at_634) rfl rfl).trans ?_
            refine (Own.P.aload K158.here K158.exec (hb hby at_636) rfl rfl).trans ?_
            refine (Own.P.aload K158.here K158.exec (hb hby at_638) rfl rfl).trans ?_
            refine (Own.P.acmpNo K158.here K158.exec (hb hby at_640) rfl rfl (by simp [XT.acmp])).trans ?_
            refine (Own.P.iconst K158.here K158.exec (1 : Int32) (hb hby at_643) rfl).trans ?_
            refine (Own.P.goto K158.here K158.exec 648 (hb hby at_644) (by decide) (by decide)).trans ?_
            exact Go.refl _
          exact ⟨vq157, T158, h157, (some (.int (1 : Int32))), _, _, K158, by decide, by decide, ⟨rfl, trivial⟩, K158.retW S159 hret rfl (Or.inl ⟨rfl, by decide, _, rfl⟩) (hb hby at_648)⟩
      case neg =>
          rw [own_seq0 q7] at S151
          have S160 : Go p e below A0 (T151.setTop (mkF m 609 #[.val (.int a), .val (.long l1), .second, .val (.long l2), .second, .val (.int p5), .val (.int p6), .val (.int p7), .val (.int kd), .val (.int fl), .val (.int pos), .val (.int k2), .val (.int nul), .val (.ref ca), .val (.ref cb), .val (.ref cc), .val (.ref x'), .val Value.null, .unset] [(.ref x')])) := by
            refine S151.trans ?_
            refine (Own.P.ifYes K151.here K151.exec 607 (hb hby at_596) (by decide) (by decide) (by decide)).trans ?_
            refine (Own.P.aload K151.here K151.exec (hb hby at_607) rfl rfl).trans ?_
            exact Go.refl _
          obtain ⟨lb, b_lb, k_lb, vm161, T161, h161, K161, E161, X_lb, C_lb, F_lb, V_lb, H_lb, L_lb, G161⟩ := K151.ldcH (hw _ (List.mem_of_getElem? (i := 119) rfl)) (Own.atoms_in hw) (own_ew hw) (by simp [consts_1]) hv151.2 (vs := (own_L15.map fun c => Value.int (lo8 c))) (z := Int32.ofNat own_L15.length) ⟨by decide +kernel, by decide +kernel⟩ (by decide) (by decide +kernel) (pc := 609) (Ls := #[.val (.int a), .val (.long l1), .second, .val (.long l2), .second, .val (.int p5), .val (.int p6), .val (.int p7), .val (.int kd), .val (.int fl), .val (.int pos), .val (.int k2), .val (.int nul), .val (.ref ca), .val (.ref cb), .val (.ref cc), .val (.ref x'), .val Value.null, .unset]) (rest := [(.ref x')]) (hb hby at_609) (n := 48) (by decide +kernel) (by decide) (by decide) (by decide)
          have S161 : Go p e below A0 (T161.setTop (mkF m 611 #[.val (.int a), .val (.long l1), .second, .val (.long l2), .second, .val (.int p5), .val (.int p6), .val (.int p7), .val (.int kd), .val (.int fl), .val (.int pos), .val (.int k2), .val (.int nul), .val (.ref ca), .val (.ref cb), .val (.ref cc), .val (.ref x'), .val Value.null, .unset] [(.ref lb), (.ref x')])) := S160.trans G161
          have SXb := SXa.ext E161
          have SIb : StrIs Z h161 lb own_L15 := ⟨own_r15, X_lb, C_lb, b_lb, k_lb, F_lb, V_lb⟩
          obtain ⟨v162, vm162, vq162, T162, h162, K162, KK162, ev162, Q162, G162⟩ := K161.callV (C := "java/lang/String") (y := (⟨"java/lang/String", "equals", "(Ljava/lang/Object;)Z"⟩ : MethodName)) (z := (⟨"java/lang/String", "equals", "(Ljava/lang/Object;)Z"⟩ : MethodName)) (hw _ (List.mem_of_getElem? (i := 60) rfl)) (hw _ (List.mem_of_getElem? (i := 61) rfl)) (hw _ (List.mem_of_getElem? (i := 63) rfl)) (Or.inr (Or.inr rfl)) (hw _ (List.mem_of_getElem? (i := 62) rfl)) (by decide) (W := 0) SXb.2.1 (argsL := [(.ref lb)]) (rest := []) (Own.payEq (W := 0) hw Own.VT.cl (hw _ (List.mem_of_getElem? (i := 8) rfl)) K161.old SXb lx SIb (by decide) SC hzc (by decide) (by decide)) trivial (pc := 611) (Ls := #[.val (.int a), .val (.long l1), .second, .val (.long l2), .second, .val (.int p5), .val (.int p6), .val (.int p7), .val (.int kd), .val (.int fl), .val (.int pos), .val (.int k2), .val (.int nul), .val (.ref ca), .val (.ref cb), .val (.ref cc), .val (.ref x'), .val Value.null, .unset]) (st := [(.ref lb), (.ref x')]) (by rw [hml]; rfl) (lenOf pd_4 rfl) rfl (Nat.le_of_eq rfl) (hb hby at_611) (by decide) (by decide) all0
          obtain ⟨rfl, hW162⟩ := ev162 rfl
          obtain ⟨⟨rfl, e162⟩, -⟩ := Q162
          have S162 : Go p e below A0 (T162.setTop (mkF m 614 #[.val (.int a), .val (.long l1), .second, .val (.long l2), .second, .val (.int p5), .val (.int p6), .val (.int p7), .val (.int kd), .val (.int fl), .val (.int pos), .val (.int k2), .val (.int nul), .val (.ref ca), .val (.ref cb), .val (.ref cc), .val (.ref x'), .val Value.null, .unset] [(.int (own_seq cs own_L15))])) := S161.trans G162
          subst e162
          have q7' : ¬ own_L7 = cs := fun q => q7 q.symm
          by_cases q15 : cs = own_L15
          case pos =>
              rw [own_seq1 q15] at S162
              have S163 : Go p e below A0 (T162.setTop (mkF m 617 #[.val (.int a), .val (.long l1), .second, .val (.long l2), .second, .val (.int p5), .val (.int p6), .val (.int p7), .val (.int kd), .val (.int fl), .val (.int pos), .val (.int k2), .val (.int nul), .val (.ref ca), .val (.ref cb), .val (.ref cc), .val (.ref x'), .val Value.null, .unset] [])) := by
                refine S162.trans ?_
                refine (Own.P.ifNo K162.here K162.exec (hb hby at_614) (by decide)).trans ?_
                exact Go.refl _
              obtain ⟨T164, K164, G164⟩ := K162.getS "" (Or.inl (hw _ (List.mem_of_getElem? (i := 124) rfl))) Via.refl (GD.ext K162.ext) (pc := 617) (Ls := #[.val (.int a), .val (.long l1), .second, .val (.long l2), .second, .val (.int p5), .val (.int p6), .val (.int p7), .val (.int kd), .val (.int fl), .val (.int pos), .val (.int k2), .val (.int nul), .val (.ref ca), .val (.ref cb), .val (.ref cc), .val (.ref x'), .val Value.null, .unset]) (rest := []) (hb hby at_617)
              have S164 : Go p e below A0 (T164.setTop (mkF m 620 #[.val (.int a), .val (.long l1), .second, .val (.long l2), .second, .val (.int p5), .val (.int p6), .val (.int p7), .val (.int kd), .val (.int fl), .val (.int pos), .val (.int k2), .val (.int nul), .val (.ref ca), .val (.ref cb), .val (.ref cc), .val (.ref x'), .val Value.null, .unset] [(.ref di)])) := S163.trans G164
              have S165 : Go p e below A0 (T164.setTop (mkF m 624 #[.val (.int a), .val (.long l1), .second, .val (.long l2), .second, .val (.int p5), .val (.int p6), .val (.int p7), .val (.int kd), .val (.int fl), .val (.int pos), .val (.int k2), .val (.int nul), .val (.ref ca), .val (.ref cb), .val (.ref cc), .val (.ref x'), .val (.ref di), .unset] [(.ref x')])) := by
                refine S164.trans ?_
                refine (Own.P.astore K164.here K164.exec (l' := #[.val (.int a), .val (.long l1), .second, .val (.long l2), .second, .val (.int p5), .val (.int p6), .val (.int p7), .val (.int kd), .val (.int fl), .val (.int pos), .val (.int k2), .val (.int nul), .val (.ref ca), .val (.ref cb), .val (.ref cc), .val (.ref x'), .val (.ref di), .unset]) (hb hby at_620) rfl rfl).trans ?_
                refine (Own.P.aload K164.here K164.exec (hb hby at_622) rfl rfl).trans ?_
                exact Go.refl _
              obtain ⟨v166, vm166, vq166, T166, h166, K166, KK166, ev166, Q166, G166⟩ := K164.callS (y := (⟨"com/example/samband/samband/identity/KeyPurpose", "of", "(Ljava/lang/String;)Ljava/util/Optional;"⟩ : MethodName)) (hw _ (List.mem_of_getElem? (i := 72) rfl)) (hw _ (List.mem_of_getElem? (i := 73) rfl)) (hw _ (List.mem_of_getElem? (i := 70) rfl)) (hw _ (List.mem_of_getElem? (i := 74) rfl)) (by decide) (W := 0) (argsL := [(.ref x')]) (rest := []) ((c_ofS l Z a0 hw n0 h162 (K164.old) ac di sa sb va kv GV AV XV FA FD SA SB em GE BE zc hzc SC x' cs SXb lx).payW Own.VT.cl (hw _ (List.mem_of_getElem? (i := 74) rfl)) (hw _ (List.mem_of_getElem? (i := 70) rfl)) (by decide) (by decide)) trivial (pc := 624) (Ls := #[.val (.int a), .val (.long l1), .second, .val (.long l2), .second, .val (.int p5), .val (.int p6), .val (.int p7), .val (.int kd), .val (.int fl), .val (.int pos), .val (.int k2), .val (.int nul), .val (.ref ca), .val (.ref cb), .val (.ref cc), .val (.ref x'), .val (.ref di), .unset]) (st := [(.ref x')]) (by rw [hml]; rfl) (lenOf pd_8 rfl) rfl (Nat.le_of_eq rfl) (hb hby at_624) (by decide) (by decide) all0
              obtain ⟨rfl, hW166⟩ := ev166 rfl
              obtain ⟨⟨o', rfl, BO⟩, hv166⟩ := Q166
              have S166 : Go p e below A0 (T166.setTop (mkF m 627 #[.val (.int a), .val (.long l1), .second, .val (.long l2), .second, .val (.int p5), .val (.int p6), .val (.int p7), .val (.int kd), .val (.int fl), .val (.int pos), .val (.int k2), .val (.int nul), .val (.ref ca), .val (.ref cb), .val (.ref cc), .val (.ref x'), .val (.ref di), .unset] [(.ref o')])) := S165.trans G166
              rw [own_kp15 q7' q15.symm] at BO
              have S167 : Go p e below A0 (T166.setTop (mkF m 628 #[.val (.int a), .val (.long l1), .second, .val (.long l2), .second, .val (.int p5), .val (.int p6), .val (.int p7), .val (.int kd), .val (.int fl), .val (.int pos), .val (.int k2), .val (.int nul), .val (.ref ca), .val (.ref cb), .val (.ref cc), .val (.ref x'), .val (.ref di), .unset] [Value.null, (.ref o')])) := by
                refine S166.trans ?_
                refine (Own.P.null K166.here K166.exec (hb hby at_627) ).trans ?_
                exact Go.refl _
              obtain ⟨v168, vm168, vq168, T168, h168, K168, KK168, ev168, Q168, G168⟩ := K166.callV (C := "java/util/Optional") (y := (⟨"java/util/Optional", "orElse", "(Ljava/lang/Object;)Ljava/lang/Object;"⟩ : MethodName)) (z := (⟨"java/util/Optional", "orElse", "(Ljava/lang/Object;)Ljava/lang/Object;"⟩ : MethodName)) (hw _ (List.mem_of_getElem? (i := 111) rfl)) (hw _ (List.mem_of_getElem? (i := 112) rfl)) (hw _ (List.mem_of_getElem? (i := 114) rfl)) (Or.inr (Or.inr rfl)) (hw _ (List.mem_of_getElem? (i := 113) rfl)) (by decide) (W := 0) BO.1 (argsL := [Value.null]) (rest := []) ((c_orER l Z a0 hw n0 h166 (K166.old) o' di BO).payW Own.VT.cl (hw _ (List.mem_of_getElem? (i := 115) rfl)) (hw _ (List.mem_of_getElem? (i := 96) rfl)) (by decide) (by decide)) trivial (pc := 628) (Ls := #[.val (.int a), .val (.long l1), .second, .val (.long l2), .second, .val (.int p5), .val (.int p6), .val (.int p7), .val (.int kd), .val (.int fl), .val (.int pos), .val (.int k2), .val (.int nul), .val (.ref ca), .val (.ref cb), .val (.ref cc), .val (.ref x'), .val (.ref di), .unset]) (st := [Value.null, (.ref o')]) (by rw [hml]; rfl) (lenOf pd_1 rfl) rfl (Nat.le_of_eq rfl) (hb hby at_628) (by decide) (by decide) all0
              obtain ⟨rfl, hW168⟩ := ev168 rfl
              obtain ⟨⟨rfl, e168⟩, hv168⟩ := Q168
              have S168 : Go p e below A0 (T168.setTop (mkF m 631 #[.val (.int a), .val (.long l1), .second, .val (.long l2), .second, .val (.int p5), .val (.int p6), .val (.int p7), .val (.int kd), .val (.int fl), .val (.int pos), .val (.int k2), .val (.int nul), .val (.ref ca), .val (.ref cb), .val (.ref cc), .val (.ref x'), .val (.ref di), .unset] [(.ref di)])) := S167.trans G168
              subst e168
              obtain ⟨T169, K169, G169⟩ := K168.castY (hw _ (List.mem_of_getElem? (i := 116) rfl)) (Ins.self (XD.ext K168.ext)) (pc := 631) (Ls := #[.val (.int a), .val (.long l1), .second, .val (.long l2), .second, .val (.int p5), .val (.int p6), .val (.int p7), .val (.int kd), .val (.int fl), .val (.int pos), .val (.int k2), .val (.int nul), .val (.ref ca), .val (.ref cb), .val (.ref cc), .val (.ref x'), .val (.ref di), .unset]) (rest := []) (hb hby at_631)
              have S169 : Go p e below A0 (T169.setTop (mkF m 634 #[.val (.int a), .val (.long l1), .second, .val (.long l2), .second, .val (.int p5), .val (.int p6), .val (.int p7), .val (.int kd), .val (.int fl), .val (.int pos), .val (.int k2), .val (.int nul), .val (.ref ca), .val (.ref cb), .val (.ref cc), .val (.ref x'), .val (.ref di), .unset] [(.ref di)])) := S168.trans G169
              have S170 : Go p e below A0 (T169.setTop (mkF m 648 #[.val (.int a), .val (.long l1), .second, .val (.long l2), .second, .val (.int p5), .val (.int p6), .val (.int p7), .val (.int kd), .val (.int fl), .val (.int pos), .val (.int k2), .val (.int nul), .val (.ref ca), .val (.ref cb), .val (.ref cc), .val (.ref x'), .val (.ref di), .val (.ref di)] [(.int (1 : Int32))])) := by
                refine S169.trans ?_
                refine (Own.P.astore K169.here K169.exec (l' := #[.val (.int a), .val (.long l1), .second, .val (.long l2), .second, .val (.int p5), .val (.int p6), .val (.int p7), .val (.int kd), .val (.int fl), .val (.int pos), .val (.int k2), .val (.int nul), .val (.ref ca), .val (.ref cb), .val (.ref cc), .val (.ref x'), .val (.ref di), .val (.ref di)]) (hb hby at_634) rfl rfl).trans ?_
                refine (Own.P.aload K169.here K169.exec (hb hby at_636) rfl rfl).trans ?_
                refine (Own.P.aload K169.here K169.exec (hb hby at_638) rfl rfl).trans ?_
                refine (Own.P.acmpNo K169.here K169.exec (hb hby at_640) rfl rfl (by simp [XT.acmp])).trans ?_
                refine (Own.P.iconst K169.here K169.exec (1 : Int32) (hb hby at_643) rfl).trans ?_
                refine (Own.P.goto K169.here K169.exec 648 (hb hby at_644) (by decide) (by decide)).trans ?_
                exact Go.refl _
              exact ⟨vq168, T169, h168, (some (.int (1 : Int32))), _, _, K169, by decide, by decide, ⟨rfl, trivial⟩, K169.retW S170 hret rfl (Or.inl ⟨rfl, by decide, _, rfl⟩) (hb hby at_648)⟩
          case neg =>
              rw [own_seq0 q15] at S162
              have S171 : Go p e below A0 (T162.setTop (mkF m 624 #[.val (.int a), .val (.long l1), .second, .val (.long l2), .second, .val (.int p5), .val (.int p6), .val (.int p7), .val (.int kd), .val (.int fl), .val (.int pos), .val (.int k2), .val (.int nul), .val (.ref ca), .val (.ref cb), .val (.ref cc), .val (.ref x'), .val Value.null, .unset] [(.ref x')])) := by
                refine S162.trans ?_
                refine (Own.P.ifYes K162.here K162.exec 622 (hb hby at_614) (by decide) (by decide) (by decide)).trans ?_
                refine (Own.P.aload K162.here K162.exec (hb hby at_622) rfl rfl).trans ?_
                exact Go.refl _
              obtain ⟨v172, vm172, vq172, T172, h172, K172, KK172, ev172, Q172, G172⟩ := K162.callS (y := (⟨"com/example/samband/samband/identity/KeyPurpose", "of", "(Ljava/lang/String;)Ljava/util/Optional;"⟩ : MethodName)) (hw _ (List.mem_of_getElem? (i := 72) rfl)) (hw _ (List.mem_of_getElem? (i := 73) rfl)) (hw _ (List.mem_of_getElem? (i := 70) rfl)) (hw _ (List.mem_of_getElem? (i := 74) rfl)) (by decide) (W := 0) (argsL := [(.ref x')]) (rest := []) ((c_ofS l Z a0 hw n0 h162 (K162.old) ac di sa sb va kv GV AV XV FA FD SA SB em GE BE zc hzc SC x' cs SXb lx).payW Own.VT.cl (hw _ (List.mem_of_getElem? (i := 74) rfl)) (hw _ (List.mem_of_getElem? (i := 70) rfl)) (by decide) (by decide)) trivial (pc := 624) (Ls := #[.val (.int a), .val (.long l1), .second, .val (.long l2), .second, .val (.int p5), .val (.int p6), .val (.int p7), .val (.int kd), .val (.int fl), .val (.int pos), .val (.int k2), .val (.int nul), .val (.ref ca), .val (.ref cb), .val (.ref cc), .val (.ref x'), .val Value.null, .unset]) (st := [(.ref x')]) (by rw [hml]; rfl) (lenOf pd_8 rfl) rfl (Nat.le_of_eq rfl) (hb hby at_624) (by decide) (by decide) all0
              obtain ⟨rfl, hW172⟩ := ev172 rfl
              obtain ⟨⟨o', rfl, BO⟩, hv172⟩ := Q172
              have S172 : Go p e below A0 (T172.setTop (mkF m 627 #[.val (.int a), .val (.long l1), .second, .val (.long l2), .second, .val (.int p5), .val (.int p6), .val (.int p7), .val (.int kd), .val (.int fl), .val (.int pos), .val (.int k2), .val (.int nul), .val (.ref ca), .val (.ref cb), .val (.ref cc), .val (.ref x'), .val Value.null, .unset] [(.ref o')])) := S171.trans G172
              rw [own_kp0 q7' (fun q => q15 q.symm)] at BO
              have S173 : Go p e below A0 (T172.setTop (mkF m 628 #[.val (.int a), .val (.long l1), .second, .val (.long l2), .second, .val (.int p5), .val (.int p6), .val (.int p7), .val (.int kd), .val (.int fl), .val (.int pos), .val (.int k2), .val (.int nul), .val (.ref ca), .val (.ref cb), .val (.ref cc), .val (.ref x'), .val Value.null, .unset] [Value.null, (.ref o')])) := by
                refine S172.trans ?_
                refine (Own.P.null K172.here K172.exec (hb hby at_627) ).trans ?_
                exact Go.refl _
              obtain ⟨v174, vm174, vq174, T174, h174, K174, KK174, ev174, Q174, G174⟩ := K172.callV (C := "java/util/Optional") (y := (⟨"java/util/Optional", "orElse", "(Ljava/lang/Object;)Ljava/lang/Object;"⟩ : MethodName)) (z := (⟨"java/util/Optional", "orElse", "(Ljava/lang/Object;)Ljava/lang/Object;"⟩ : MethodName)) (hw _ (List.mem_of_getElem? (i := 111) rfl)) (hw _ (List.mem_of_getElem? (i := 112) rfl)) (hw _ (List.mem_of_getElem? (i := 114) rfl)) (Or.inr (Or.inr rfl)) (hw _ (List.mem_of_getElem? (i := 113) rfl)) (by decide) (W := 0) BO.1 (argsL := [Value.null]) (rest := []) ((c_orEN l Z a0 hw n0 h172 (K172.old) o' em BO).payW Own.VT.cl (hw _ (List.mem_of_getElem? (i := 115) rfl)) (hw _ (List.mem_of_getElem? (i := 96) rfl)) (by decide) (by decide)) trivial (pc := 628) (Ls := #[.val (.int a), .val (.long l1), .second, .val (.long l2), .second, .val (.int p5), .val (.int p6), .val (.int p7), .val (.int kd), .val (.int fl), .val (.int pos), .val (.int k2), .val (.int nul), .val (.ref ca), .val (.ref cb), .val (.ref cc), .val (.ref x'), .val Value.null, .unset]) (st := [Value.null, (.ref o')]) (by rw [hml]; rfl) (lenOf pd_1 rfl) rfl (Nat.le_of_eq rfl) (hb hby at_628) (by decide) (by decide) all0
              obtain ⟨rfl, hW174⟩ := ev174 rfl
              obtain ⟨⟨rfl, e174⟩, hv174⟩ := Q174
              have S174 : Go p e below A0 (T174.setTop (mkF m 631 #[.val (.int a), .val (.long l1), .second, .val (.long l2), .second, .val (.int p5), .val (.int p6), .val (.int p7), .val (.int kd), .val (.int fl), .val (.int pos), .val (.int k2), .val (.int nul), .val (.ref ca), .val (.ref cb), .val (.ref cc), .val (.ref x'), .val Value.null, .unset] [Value.null])) := S173.trans G174
              subst e174
              have G175 := K174.castNull  (pc := 631) (Ls := #[.val (.int a), .val (.long l1), .second, .val (.long l2), .second, .val (.int p5), .val (.int p6), .val (.int p7), .val (.int kd), .val (.int fl), .val (.int pos), .val (.int k2), .val (.int nul), .val (.ref ca), .val (.ref cb), .val (.ref cc), .val (.ref x'), .val Value.null, .unset]) (rest := []) (hb hby at_631)
              have S175 : Go p e below A0 (T174.setTop (mkF m 634 #[.val (.int a), .val (.long l1), .second, .val (.long l2), .second, .val (.int p5), .val (.int p6), .val (.int p7), .val (.int kd), .val (.int fl), .val (.int pos), .val (.int k2), .val (.int nul), .val (.ref ca), .val (.ref cb), .val (.ref cc), .val (.ref x'), .val Value.null, .unset] [Value.null])) := S174.trans G175
              have S176 : Go p e below A0 (T174.setTop (mkF m 648 #[.val (.int a), .val (.long l1), .second, .val (.long l2), .second, .val (.int p5), .val (.int p6), .val (.int p7), .val (.int kd), .val (.int fl), .val (.int pos), .val (.int k2), .val (.int nul), .val (.ref ca), .val (.ref cb), .val (.ref cc), .val (.ref x'), .val Value.null, .val Value.null] [(.int (1 : Int32))])) := by
                refine S175.trans ?_
                refine (Own.P.astore K174.here K174.exec (l' := #[.val (.int a), .val (.long l1), .second, .val (.long l2), .second, .val (.int p5), .val (.int p6), .val (.int p7), .val (.int kd), .val (.int fl), .val (.int pos), .val (.int k2), .val (.int nul), .val (.ref ca), .val (.ref cb), .val (.ref cc), .val (.ref x'), .val Value.null, .val Value.null]) (hb hby at_634) rfl rfl).trans ?_
                refine (Own.P.aload K174.here K174.exec (hb hby at_636) rfl rfl).trans ?_
                refine (Own.P.aload K174.here K174.exec (hb hby at_638) rfl rfl).trans ?_
                refine (Own.P.acmpNo K174.here K174.exec (hb hby at_640) rfl rfl (by simp [XT.acmp])).trans ?_
                refine (Own.P.iconst K174.here K174.exec (1 : Int32) (hb hby at_643) rfl).trans ?_
                refine (Own.P.goto K174.here K174.exec 648 (hb hby at_644) (by decide) (by decide)).trans ?_
                exact Go.refl _
              exact ⟨vq174, T174, h174, (some (.int (1 : Int32))), _, _, K174, by decide, by decide, ⟨rfl, trivial⟩, K174.retW S176 hret rfl (Or.inl ⟨rfl, by decide, _, rfl⟩) (hb hby at_648)⟩
set_option maxRecDepth 65536 in
set_option maxHeartbeats 40000000 in
theorem comes_1 {Post : Tables → Env → Array Value → State → Outcome → State → Prop} (hpost : ∀ tb e args s v u, (limb_1_1.after args s (.returned v) u = true ∧ limb_1_2.after args s (.returned v) u = true ∧ True) → FramedW s (.returned v) u (Jvm.fieldLocs frame_1_writes args s ++ Jvm.arrayLocs frame_1_arrays args s ++ Jvm.staticLocs frame_1_statics s) 32 2240 → Post tb e args s (.returned v) u) :
    ArmFor flags0 classFile x code maxLocals ret World_1 tables_1 room_1 Calls_1 rest_1 Pre_1 Post := by
  intro l hfl _ _ p e ha hc hk s m args below hf hA hF happ hP
  obtain ⟨hcalls, hrest, hpre⟩ := hP
  obtain ⟨-, -, -, hnamed, -, -, -, hat⟩ := (Spec.applies_iff hf).mp happ
  obtain ⟨hg, hn⟩ := and_e (Cond.before_iff.mp (show (Jvm.Cond.and given_1 narrow_1).before args s = true from hpre))
  obtain ⟨h1, g1⟩ := and_e hg
  obtain ⟨u0, g2⟩ := and_e g1
  obtain ⟨u1, g3⟩ := and_e g2
  obtain ⟨u2, g4⟩ := and_e g3
  obtain ⟨u3, g5⟩ := and_e g4
  obtain ⟨u4, u5⟩ := and_e g5
  obtain ⟨w0, w1, w2, w3, w4, w5, rfl⟩ : ∃ w0 w1 w2 w3 w4 w5 : Value, args = #[w0, w1, w2, w3, w4, w5] := by
    have hs : args.size = 6 := by simpa [Cond.value, given_1] using h1
    obtain ⟨L⟩ := args
    match L, hs with
    | [w0, w1, w2, w3, w4, w5], _ => exact ⟨w0, w1, w2, w3, w4, w5, rfl⟩
  have hw := fun d (hd : d ∈ tables_1) => atoms_spec (ws := Jvm.Cond.code x code maxLocals ret :: tables_1) hat d (List.mem_cons_of_mem _ hd)
  obtain ⟨hsets, hown0⟩ := atoms_of _ (rest_1_c_eq ▸ (show rest_1_c.before _ s = true from hrest))
  have hfit : Fit s := fun {y c} hc i hi => by
    obtain ⟨ha, rfl⟩ := Array.getElem?_eq_some_iff.mp hc
    have q := List.all_eq_true.mp ((Array.all_eq_true_iff_forall_mem.mp hF) _ (Array.getElem_mem ha)) i (List.mem_range.mpr hi)
    simpa [Array.getElem?_eq_getElem hi] using q
  have n5 := not_v (Cond.before_iff.mp (hsets _ (List.mem_of_getElem? (i := 2) rfl)))
  obtain ⟨i0, e0⟩ := is_v u0
  obtain rfl : w0 = (.int i0) := Option.some.inj e0
  obtain ⟨i1, e1⟩ := isL_v u1
  obtain rfl : w1 = (.long i1) := Option.some.inj e1
  obtain ⟨i2, e2⟩ := isL_v u2
  obtain rfl : w2 = (.long i2) := Option.some.inj e2
  obtain ⟨i3, e3⟩ := is_v u3
  obtain rfl : w3 = (.int i3) := Option.some.inj e3
  obtain ⟨i4, e4⟩ := is_v u4
  obtain rfl : w4 = (.int i4) := Option.some.inj e4
  obtain ⟨i5, e5⟩ := is_v u5
  obtain rfl : w5 = (.int i5) := Option.some.inj e5
  obtain ⟨i11, e10⟩ := is_v (Cond.before_iff.mp (hsets _ (List.mem_of_getElem? (i := 1) rfl)))
  have S12 : Sta s s.heap "java/lang/String" "COMPACT_STRINGS" "Z" (.int i11) := Sta.start e10 (Or.inl (hsets _ (List.mem_of_getElem? (i := 0) rfl)))
  have c17 : ¬ (i11 = (0 : Int32)) := gotF (Cond.eq_ints e10 (Term.int_eval (0))) n5
  obtain ⟨v13, e14, r15⟩ := isR_v (Cond.before_iff.mp (hsets _ (List.mem_of_getElem? (i := 8) rfl)))
  have S16 : Sta s s.heap "jdk/internal/util/Preconditions" "SIOOBE_FORMATTER" "Ljava/util/function/BiFunction;" v13 := Sta.start e14 (Or.inl (hsets _ (List.mem_of_getElem? (i := 7) rfl)))
  have HC : CHv s consts_1 s.vm s.heap := CHv.start (own_ew hw) (fun q hq => hcalls.1 q hq) (hsets _ (List.mem_of_getElem? (i := 2) rfl)) (hw _ (List.mem_of_getElem? (i := 9) rfl)) (hw _ (List.mem_of_getElem? (i := 8) rfl))
  obtain ⟨n_0, t_0⟩ := and_e hn
  obtain ⟨n_1, t_1⟩ := and_e t_0
  obtain ⟨n_2, t_2⟩ := and_e t_1
  obtain ⟨n_3, t_3⟩ := and_e t_2
  obtain ⟨n_4, t_4⟩ := and_e t_3
  obtain ⟨n_5, t_5⟩ := and_e t_4
  obtain ⟨n_6, t_6⟩ := and_e t_5
  obtain ⟨n_7, t_7⟩ := and_e t_6
  obtain ⟨n_8, t_8⟩ := and_e t_7
  obtain ⟨n_9, t_9⟩ := and_e t_8
  obtain ⟨n_10, t_10⟩ := and_e t_9
  obtain ⟨n_11, t_11⟩ := and_e t_10
  obtain ⟨n_12, t_12⟩ := and_e t_11
  obtain ⟨n_13, t_13⟩ := and_e t_12
  obtain ⟨n_14, t_14⟩ := and_e t_13
  obtain ⟨n_15, t_15⟩ := and_e t_14
  obtain ⟨n_16, t_16⟩ := and_e t_15
  obtain ⟨n_17, t_17⟩ := and_e t_16
  obtain ⟨n_18, t_18⟩ := and_e t_17
  obtain ⟨n_19, t_19⟩ := and_e t_18
  obtain ⟨n_20, t_20⟩ := and_e t_19
  obtain ⟨n_21, t_21⟩ := and_e t_20
  obtain ⟨n_22, t_22⟩ := and_e t_21
  obtain ⟨n_23, t_23⟩ := and_e t_22
  obtain ⟨n_24, t_24⟩ := and_e t_23
  obtain ⟨n_25, t_25⟩ := and_e t_24
  obtain ⟨n_26, t_26⟩ := and_e t_25
  obtain ⟨n_27, t_27⟩ := and_e t_26
  obtain ⟨n_28, t_28⟩ := and_e t_27
  obtain ⟨n_29, t_29⟩ := and_e t_28
  obtain ⟨n_30, t_30⟩ := and_e t_29
  obtain ⟨n_31, t_31⟩ := and_e t_30
  obtain ⟨n_32, t_32⟩ := and_e t_31
  obtain ⟨n_33, t_33⟩ := and_e t_32
  obtain ⟨n_34, t_34⟩ := and_e t_33
  obtain ⟨n_35, t_35⟩ := and_e t_34
  obtain ⟨n_36, t_36⟩ := and_e t_35
  obtain ⟨n_37, t_37⟩ := and_e t_36
  obtain ⟨em, eE⟩ := exa_v (Cond.before_iff.mp (hsets _ (List.mem_of_getElem? (i := 11) rfl)))
  have GE := Sta.start eE (Or.inl (hsets _ (List.mem_of_getElem? (i := 10) rfl)))
  have BE : OpAt s s.heap em .null := ⟨exa_at eE (Cond.before_iff.mp (hsets _ (List.mem_of_getElem? (i := 11) rfl))), Fld.start ((fld_at eE).symm.trans (null_v (Cond.before_iff.mp (hsets _ (List.mem_of_getElem? (i := 12) rfl)))))⟩
  obtain ⟨ac, eA⟩ := exa_v n_0
  have GA := Sta.start eA (Or.inr ⟨(hw _ (List.mem_of_getElem? (i := 70) rfl)), (hw _ (List.mem_of_getElem? (i := 71) rfl))⟩)
  obtain ⟨di, eD⟩ := exa_v n_5
  have GD := Sta.start eD (Or.inr ⟨(hw _ (List.mem_of_getElem? (i := 70) rfl)), (hw _ (List.mem_of_getElem? (i := 87) rfl))⟩)
  obtain ⟨va, eV⟩ := exa_v n_2
  have GV := Sta.start eV (Or.inl (hw _ (List.mem_of_getElem? (i := 88) rfl)))
  obtain ⟨cV, aV⟩ := Arr.start eV n_1
  have kV := aV.fin (Vm.Alike.refl _)
  have sV := lenAt (eqv_i (Term.int_eval 2) n_3) eV kV
  have AV := Arv.start (dv := .null) hfit aV sV.1 (Value.int.inj sV.2.symm) (by decide) (vs := [.ref ac, .ref di]) rfl ⟨(elem_f eV (Term.int_eval 0) kV (by decide)).symm.trans (eqv_r eA n_4), (elem_f eV (Term.int_eval 1) kV (by decide)).symm.trans (eqv_r eD n_6), trivial⟩
  obtain ⟨sa, fa⟩ := exa_v n_7
  have FA := Fld.start ((fld_at eA).symm.trans fa)
  obtain ⟨sd, fd⟩ := exa_v n_11
  have FD := Fld.start ((fld_at eD).symm.trans fd)
  obtain ⟨ba, eba⟩ := arr_v n_9
  obtain ⟨cla, ala⟩ := Arr.start eba n_9
  have kla := ala.fin (Vm.Alike.refl _)
  have sla := lenAt (eqv_i (Term.int_eval 12) n_10) eba kla
  have ABa := Arv.start (dv := .int 0) hfit ala sla.1 (Value.int.inj sla.2.symm) (by decide) (vs := [.int 97, .int 99, .int 99, .int 101, .int 115, .int 115, .int 45, .int 116, .int 111, .int 107, .int 101, .int 110]) (by decide) ⟨elAt eba kla (by decide) n_15, elAt eba kla (by decide) n_16, elAt eba kla (by decide) n_17, elAt eba kla (by decide) n_18, elAt eba kla (by decide) n_19, elAt eba kla (by decide) n_20, elAt eba kla (by decide) n_21, elAt eba kla (by decide) n_22, elAt eba kla (by decide) n_23, elAt eba kla (by decide) n_24, elAt eba kla (by decide) n_25, elAt eba kla (by decide) n_26, trivial⟩
  have Sa : StrIs s s.heap sa own_L7 := ⟨own_r7, exa_at fa n_7, Fld.start ((fld_at fa).symm.trans (eqv_i (Term.int_eval 0) n_8)), ba, cla.cls, Fld.start ((fld_at fa).symm.trans eba), ABa⟩
  obtain ⟨bd, ebd⟩ := arr_v n_13
  obtain ⟨cld, ald⟩ := Arr.start ebd n_13
  have kld := ald.fin (Vm.Alike.refl _)
  have sld := lenAt (eqv_i (Term.int_eval 12) n_14) ebd kld
  have ABd := Arv.start (dv := .int 0) hfit ald sld.1 (Value.int.inj sld.2.symm) (by decide) (vs := [.int 100, .int 105, .int 97, .int 108, .int 111, .int 103, .int 45, .int 116, .int 111, .int 107, .int 101, .int 110]) (by decide) ⟨elAt ebd kld (by decide) n_27, elAt ebd kld (by decide) n_28, elAt ebd kld (by decide) n_29, elAt ebd kld (by decide) n_30, elAt ebd kld (by decide) n_31, elAt ebd kld (by decide) n_32, elAt ebd kld (by decide) n_33, elAt ebd kld (by decide) n_34, elAt ebd kld (by decide) n_35, elAt ebd kld (by decide) n_36, elAt ebd kld (by decide) n_37, elAt ebd kld (by decide) t_37, trivial⟩
  have Sd : StrIs s s.heap sd own_L15 := ⟨own_r15, exa_at fd n_11, Fld.start ((fld_at fd).symm.trans (eqv_i (Term.int_eval 0) n_12)), bd, cld.cls, Fld.start ((fld_at fd).symm.trans ebd), ABd⟩
  obtain ⟨n, o, h1, h2, h3, v, L, rfl, ⟨⟨rfl, -⟩, -, NW⟩, hq⟩ := c_law l s _ hw s.heap.size s.heap (Old.start s) i0 i3 i4 i5 i1 i2 ac di sa sd va _ GV AV (exa_at eV n_2) FA FD Sa Sd (exa_at eA n_0) (exa_at eD n_5) GA GD em GE BE i11 c17 S12 v13 r15 S16 tables_1 p e ha hc hk s m _ below hf ((Spec.applies_iff_loose hf).mp happ).1 ⟨rfl, State.Warmed39.refl s, rfl, State.Warmed39.refl s, HC⟩ trivial
  have N := NW.fr all0 (Nat.le_refl _)
  refine ⟨n, _, h1, h2, h3, hpost _ _ _ _ _ _ ⟨Cond.after_iff.mpr rfl, Cond.after_iff.mpr (eq_i res_at (Term.int_eval (1)) rfl), trivial⟩ ⟨hq.1, hq.2.1, hq.2.2.1, (hq.2.2.2.sift fun y hy => Or.inr (N y hy)).mono (by decide) (by decide)⟩⟩
theorem main_1_1 : Claimed_1_1 := comes_1 fun _ _ _ _ _ _ h hF => ⟨h.1, hF⟩
theorem main_1_2 : Claimed_1_2 := comes_1 fun _ _ _ _ _ _ h hF => ⟨h.2.1, hF⟩
end Jvm.Pilot.@@N@@
namespace Jvm.Pilot.@@N@@
open Jvm Jvm.ClassFile Sem Op Lib Jvm.Free Jvm.Stand Jvm.Pilot.@@N@@.Jvm.D
/-! MADE BY PROGRAM (witnessworld.py) out of the Statement's table words and the real class files: 24 classes; the members and pool entries that the words name. The judged class is class 1, her method 2. -/
namespace start1
open Jvm.ClassFile
def u (s : String) : CpInfo := .utf8 (stringToUtf16 s)
/-- a pool by its gaps: so many unusable entries, then the entry; so many at the end -/
def gap : Nat → List CpInfo → List CpInfo
  | 0, r => r
  | n + 1, r => .unusable :: gap n r
def poolList (es : List (Nat × CpInfo)) (last : Nat) : List CpInfo := es.foldr (fun e r => gap e.1 (e.2 :: r)) (gap last [])
def pool (es : List (Nat × CpInfo)) (last : Nat) : Array CpInfo := ⟨poolList es last⟩
def fileOf (pool : Array CpInfo) (this : Nat) (attrs : Array Attribute := #[]) (ms : Array MethodInfo := #[]) (fl : Nat := 33) (sup : Nat := 0) (ifs : Array Nat := #[]) (fds : Array FieldInfo := #[]) : ClassFile where
  minorVersion := 0
  majorVersion := 65
  constantPool := pool
  accessFlags := fl
  thisClass := this
  superClass := sup
  interfaces := ifs
  fields := fds
  methods := ms
  attributes := attrs
def plain (name : String) (sup : Option ClassId) : Class where
  name := name
  kind := .ordinary
  loader := none
  accessFlags := 33
  super := sup
  interfaces := #[]
  cf := none
  fields := #[]
  methods := #[]
  instanceTypes := #[]
  staticTypes := #[]
  resolved := #[]
  callSites := []
  init := .initialized
  statics := none
  mirror := none

def pool0 : Array CpInfo := pool [(5, u "<init>"), (0, u "()V"), (1, .class_ 10), (1, u "java/lang/Object"), (85, u "clone"), (0, u "()Ljava/lang/Object;")] 26

def k0c0 : Code := { maxStack := 0, maxLocals := 1, code := object_method_1_code, exceptionTable := #[], attributes := #[] }
def k0m0 : Method := { name := "<init>", desc := "()V", sig := { parameters := [], returnType := none }, accessFlags := 1, code := some k0c0 }
def k0m1 : Method := { name := "clone", desc := "()Ljava/lang/Object;", sig := { parameters := [], returnType := some (.object "java/lang/Object") }, accessFlags := 260, code := none }
/-- java/lang/Object -/
def k0 : Class := { plain "java/lang/Object" none with
  accessFlags := 33
  interfaces := #[]
  cf := some (fileOf pool0 8 #[] #[{ accessFlags := 1, nameIndex := 5, descriptorIndex := 6, attributes := #[] }, { accessFlags := 260, nameIndex := 96, descriptorIndex := 97, attributes := #[] }] 33 0 #[] #[])
  fields := #[]
  methods := #[k0m0, k0m1]
  instanceTypes := #[]
  staticTypes := #[]
  resolved := Array.replicate 124 none
  statics := none }

def pool1 : Array CpInfo := pool [(2, .class_ 4), (1, u "java/lang/Object"), (0, u "<init>"), (0, u "()V"), (0, .string 8), (0, u "access-token"), (0, .methodref 10 11), (0, .class_ 12), (0, .nameAndType 13 14), (0, u "java/lang/String"), (0, u "charAt"), (0, u "(I)C"), (0, .string 16), (0, u "dialog-token"), (0, .long 255), (1, .integer 2147483647), (0, .methodref 21 22), (0, .class_ 23), (0, .nameAndType 24 25), (0, u "com/example/samband/samband/identity/KeyPurposeOfPinLaw"), (0, u "ch"), (0, u "(IIJJZII)C"), (0, .methodref 10 27), (0, .nameAndType 5 28), (0, u "([C)V"), (0, .methodref 10 30), (0, .nameAndType 31 32), (0, u "equals"), (0, u "(Ljava/lang/Object;)Z"), (0, .fieldref 34 35), (0, .class_ 36), (0, .nameAndType 37 38), (0, u "com/example/samband/samband/identity/KeyPurpose"), (0, u "ACCESS_TOKEN"), (0, u "Lcom/example/samband/samband/identity/KeyPurpose;"), (0, .fieldref 34 40), (0, .nameAndType 41 38), (0, u "DIALOG_TOKEN"), (0, .methodref 34 43), (0, .nameAndType 44 45), (0, u "of"), (0, u "(Ljava/lang/String;)Ljava/util/Optional;"), (0, .methodref 47 48), (0, .class_ 49), (0, .nameAndType 50 51), (0, u "java/util/Optional"), (0, u "orElse"), (0, u "(Ljava/lang/Object;)Ljava/lang/Object;"), (3, u "law"), (0, u "(IJJIII)Z")] 4

def k1m0 : Method := { name := "<init>", desc := "()V", sig := { parameters := [], returnType := none }, accessFlags := 1, code := none }
def k1c1 : Code := { maxStack := 5, maxLocals := 11, code := method_2_code, exceptionTable := #[], attributes := #[] }
def k1m1 : Method := { name := "ch", desc := "(IIJJZII)C", sig := { parameters := [.int, .int, .long, .long, .boolean, .int, .int], returnType := some .char }, accessFlags := 10, code := some k1c1 }
def k1c2 : Code := { maxStack := 11, maxLocals := 19, code := code, exceptionTable := #[], attributes := #[] }
def k1m2 : Method := { name := "law", desc := "(IJJIII)Z", sig := { parameters := [.int, .long, .long, .int, .int, .int], returnType := some .boolean }, accessFlags := 9, code := some k1c2 }
/-- com/example/samband/samband/identity/KeyPurposeOfPinLaw -/
def k1 : Class := { plain "com/example/samband/samband/identity/KeyPurposeOfPinLaw" (some 0) with
  accessFlags := 49
  interfaces := #[]
  cf := some (fileOf pool1 21 #[] #[{ accessFlags := 1, nameIndex := 5, descriptorIndex := 6, attributes := #[] }, { accessFlags := 10, nameIndex := 24, descriptorIndex := 25, attributes := #[] }, { accessFlags := 9, nameIndex := 55, descriptorIndex := 56, attributes := #[] }] 49 2 #[] #[])
  fields := #[]
  methods := #[k1m0, k1m1, k1m2]
  instanceTypes := #[]
  staticTypes := #[]
  resolved := Array.replicate 61 none
  statics := none }

def pool2 : Array CpInfo := pool [(1, .class_ 2), (0, u "java/io/Serializable"), (0, .class_ 4), (0, u "java/lang/Object")] 2

/-- java/io/Serializable -/
def k2 : Class := { plain "java/io/Serializable" (some 0) with
  accessFlags := 1537
  interfaces := #[]
  cf := some (fileOf pool2 1 #[] #[] 1537 3 #[] #[])
  fields := #[]
  methods := #[]
  instanceTypes := #[]
  staticTypes := #[]
  resolved := Array.replicate 7 none
  statics := none }

def pool3 : Array CpInfo := pool [(1, .class_ 2), (0, u "java/lang/Comparable"), (0, .class_ 4), (0, u "java/lang/Object")] 7

/-- java/lang/Comparable -/
def k3 : Class := { plain "java/lang/Comparable" (some 0) with
  accessFlags := 1537
  interfaces := #[]
  cf := some (fileOf pool3 1 #[] #[] 1537 3 #[] #[])
  fields := #[]
  methods := #[]
  instanceTypes := #[]
  staticTypes := #[]
  resolved := Array.replicate 12 none
  statics := none }

def pool4 : Array CpInfo := pool [(2, .class_ 4), (1, u "java/lang/CharSequence"), (42, .class_ 48), (0, u "java/lang/CharSequence$1CodePointIterator"), (10, .class_ 60), (0, u "java/lang/CharSequence$1CharIterator"), (5, .class_ 67), (0, u "java/lang/Object")] 63

/-- java/lang/CharSequence -/
def k4 : Class := { plain "java/lang/CharSequence" (some 0) with
  accessFlags := 1537
  interfaces := #[]
  cf := some (fileOf pool4 2 #[.nestMembers #[47, 59]] #[] 1537 66 #[] #[])
  fields := #[]
  methods := #[]
  instanceTypes := #[]
  staticTypes := #[]
  resolved := Array.replicate 131 none
  statics := none }

def pool5 : Array CpInfo := pool [(1, .class_ 2), (0, u "java/lang/constant/Constable"), (0, .class_ 4), (0, u "java/lang/Object")] 6

/-- java/lang/constant/Constable -/
def k5 : Class := { plain "java/lang/constant/Constable" (some 0) with
  accessFlags := 1537
  interfaces := #[]
  cf := some (fileOf pool5 1 #[] #[] 1537 3 #[] #[])
  fields := #[]
  methods := #[]
  instanceTypes := #[]
  staticTypes := #[]
  resolved := Array.replicate 11 none
  statics := none }

def pool6 : Array CpInfo := pool [(1, .class_ 2), (0, u "java/lang/constant/ConstantDesc"), (0, .class_ 4), (0, u "java/lang/Object")] 32

/-- java/lang/constant/ConstantDesc -/
def k6 : Class := { plain "java/lang/constant/ConstantDesc" (some 0) with
  accessFlags := 1537
  interfaces := #[]
  cf := some (fileOf pool6 1 #[] #[] 1537 3 #[] #[])
  fields := #[]
  methods := #[]
  instanceTypes := #[]
  staticTypes := #[]
  resolved := Array.replicate 37 none
  statics := none }

def pool7 : Array CpInfo := pool [(1, .methodref 2 3), (0, .class_ 4), (0, .nameAndType 5 6), (0, u "java/lang/Object"), (0, u "<init>"), (0, u "()V"), (2, .fieldref 10 11), (0, .class_ 12), (0, .nameAndType 13 14), (0, u "java/lang/String"), (0, u "value"), (0, u "[B"), (0, .fieldref 10 16), (0, .nameAndType 17 18), (0, u "coder"), (0, u "B"), (2, u "hash"), (0, u "I"), (2, u "hashIsZero"), (0, u "Z"), (0, .methodref 10 28), (0, .nameAndType 5 29), (0, u "([CIILjava/lang/Void;)V"), (8, .fieldref 10 39), (0, .nameAndType 40 26), (0, u "COMPACT_STRINGS"), (1, .class_ 44), (1, u "java/lang/StringUTF16"), (0, u "compress"), (1, .methodref 42 48), (0, .nameAndType 49 50), (0, u "coderFromArrayLen"), (0, u "([BI)B"), (56, .class_ 109), (1, u "java/lang/StringLatin1"), (32, u "()Z"), (34, .methodref 42 178), (0, .nameAndType 45 179), (0, u "([CII)[B"), (183, u "([BI)C"), (27, u "(II)V"), (35, u "(I)C"), (64, .methodref 10 493), (0, .nameAndType 494 142), (0, u "isLatin1"), (0, .methodref 107 496), (0, .nameAndType 497 363), (0, u "charAt"), (3, u "checkIndex"), (39, .methodref 107 542), (0, .nameAndType 543 544), (0, u "equals"), (0, u "([B[B)Z"), (28, u "(Ljava/lang/Object;)Z"), (1, .class_ 576), (0, u "java/lang/CharSequence"), (22, u "CASE_INSENSITIVE_ORDER"), (0, u "Ljava/util/Comparator;"), (409, u "([C)V"), (42, .fieldref 1054 1055), (0, .class_ 1056), (0, .nameAndType 1057 1058), (0, u "jdk/internal/util/Preconditions"), (0, u "SIOOBE_FORMATTER"), (0, u "Ljava/util/function/BiFunction;"), (0, .methodref 1054 1060), (0, .nameAndType 501 1061), (0, u "(IILjava/util/function/BiFunction;)I"), (39, u "serialPersistentFields"), (0, u "[Ljava/io/ObjectStreamField;"), (0, .class_ 1104), (0, u "java/lang/String$CaseInsensitiveComparator"), (1, .class_ 1107), (0, u "java/io/Serializable"), (0, .class_ 1109), (0, u "java/lang/Comparable"), (0, .class_ 1111), (0, u "java/lang/constant/Constable"), (0, .class_ 1113), (0, u "java/lang/constant/ConstantDesc"), (2, u "serialVersionUID"), (0, u "J"), (3, u "REPL"), (0, u "C"), (2, u "LATIN1"), (1, u "UTF16")] 323

def k7m0 : Method := { name := "<init>", desc := "()V", sig := { parameters := [], returnType := none }, accessFlags := 1, code := none }
def k7c1 : Code := { maxStack := 5, maxLocals := 2, code := jdk_42_method_3_code, exceptionTable := #[], attributes := #[] }
def k7m1 : Method := { name := "<init>", desc := "([C)V", sig := { parameters := [(.array .char)], returnType := none }, accessFlags := 1, code := some k7c1 }
def k7c2 : Code := { maxStack := 2, maxLocals := 2, code := jdk_42_method_56_code, exceptionTable := #[], attributes := #[] }
def k7m2 : Method := { name := "charAt", desc := "(I)C", sig := { parameters := [.int], returnType := some .char }, accessFlags := 1, code := some k7c2 }
def k7c3 : Code := { maxStack := 2, maxLocals := 3, code := jdk_42_method_66_code, exceptionTable := #[], attributes := #[] }
def k7m3 : Method := { name := "equals", desc := "(Ljava/lang/Object;)Z", sig := { parameters := [(.object "java/lang/Object")], returnType := some .boolean }, accessFlags := 1, code := some k7c3 }
def k7c4 : Code := { maxStack := 4, maxLocals := 6, code := jdk_42_method_149_code, exceptionTable := #[], attributes := #[] }
def k7m4 : Method := { name := "<init>", desc := "([CIILjava/lang/Void;)V", sig := { parameters := [(.array .char), .int, .int, (.object "java/lang/Void")], returnType := none }, accessFlags := 2, code := some k7c4 }
def k7c5 : Code := { maxStack := 1, maxLocals := 1, code := jdk_42_method_154_code, exceptionTable := #[], attributes := #[] }
def k7m5 : Method := { name := "isLatin1", desc := "()Z", sig := { parameters := [], returnType := some .boolean }, accessFlags := 0, code := some k7c5 }
def k7c6 : Code := { maxStack := 3, maxLocals := 2, code := jdk_42_method_155_code, exceptionTable := #[], attributes := #[] }
def k7m6 : Method := { name := "checkIndex", desc := "(II)V", sig := { parameters := [.int, .int], returnType := none }, accessFlags := 8, code := some k7c6 }
/-- java/lang/String -/
def k7 : Class := { plain "java/lang/String" (some 0) with
  accessFlags := 49
  interfaces := #[2, 3, 4, 5, 6]
  cf := some (fileOf pool7 10 #[.nestMembers #[1103]] #[{ accessFlags := 1, nameIndex := 5, descriptorIndex := 6, attributes := #[] }, { accessFlags := 1, nameIndex := 5, descriptorIndex := 1010, attributes := #[] }, { accessFlags := 1, nameIndex := 497, descriptorIndex := 427, attributes := #[] }, { accessFlags := 1, nameIndex := 543, descriptorIndex := 573, attributes := #[] }, { accessFlags := 2, nameIndex := 5, descriptorIndex := 29, attributes := #[] }, { accessFlags := 0, nameIndex := 494, descriptorIndex := 142, attributes := #[] }, { accessFlags := 8, nameIndex := 501, descriptorIndex := 391, attributes := #[] }] 49 2 #[1106, 1108, 575, 1110, 1112] #[{ accessFlags := 18, nameIndex := 13, descriptorIndex := 14, attributes := #[] }, { accessFlags := 18, nameIndex := 17, descriptorIndex := 18, attributes := #[] }, { accessFlags := 2, nameIndex := 21, descriptorIndex := 22, attributes := #[] }, { accessFlags := 2, nameIndex := 25, descriptorIndex := 26, attributes := #[] }, { accessFlags := 26, nameIndex := 1116, descriptorIndex := 1117, attributes := #[] }, { accessFlags := 24, nameIndex := 40, descriptorIndex := 26, attributes := #[] }, { accessFlags := 26, nameIndex := 1101, descriptorIndex := 1102, attributes := #[] }, { accessFlags := 26, nameIndex := 1121, descriptorIndex := 1122, attributes := #[] }, { accessFlags := 25, nameIndex := 599, descriptorIndex := 600, attributes := #[] }, { accessFlags := 24, nameIndex := 1125, descriptorIndex := 18, attributes := #[] }, { accessFlags := 24, nameIndex := 1127, descriptorIndex := 18, attributes := #[] }])
  fields := #[{ name := "value", type := (.array .byte), accessFlags := 18, slot := 0, constantValue := 0 }, { name := "coder", type := .byte, accessFlags := 18, slot := 1, constantValue := 0 }, { name := "hash", type := .int, accessFlags := 2, slot := 2, constantValue := 0 }, { name := "hashIsZero", type := .boolean, accessFlags := 2, slot := 3, constantValue := 0 }, { name := "serialVersionUID", type := .long, accessFlags := 26, slot := 0, constantValue := 0 }, { name := "COMPACT_STRINGS", type := .boolean, accessFlags := 24, slot := 1, constantValue := 0 }, { name := "serialPersistentFields", type := (.array (.object "java/io/ObjectStreamField")), accessFlags := 26, slot := 2, constantValue := 0 }, { name := "REPL", type := .char, accessFlags := 26, slot := 3, constantValue := 0 }, { name := "CASE_INSENSITIVE_ORDER", type := (.object "java/util/Comparator"), accessFlags := 25, slot := 4, constantValue := 0 }, { name := "LATIN1", type := .byte, accessFlags := 24, slot := 5, constantValue := 0 }, { name := "UTF16", type := .byte, accessFlags := 24, slot := 6, constantValue := 0 }]
  methods := #[k7m0, k7m1, k7m2, k7m3, k7m4, k7m5, k7m6]
  instanceTypes := #[(.array .byte), .byte, .int, .boolean]
  staticTypes := #[.long, .boolean, (.array (.object "java/io/ObjectStreamField")), .char, (.object "java/util/Comparator"), .byte, .byte]
  resolved := Array.replicate 1451 none
  statics := some 0 }

def pool8 : Array CpInfo := pool [(1, .class_ 2), (0, u "java/lang/String"), (1, .class_ 6), (1, u "java/lang/Object"), (0, u "<init>"), (0, u "()V"), (0, .methodref 1 10), (0, .nameAndType 11 12), (0, u "checkIndex"), (0, u "(II)V"), (1, .class_ 16), (1, u "java/lang/StringLatin1"), (36, u "([BI)C"), (67, u "$assertionsDisabled"), (0, u "Z"), (98, .class_ 223), (1, u "java/lang/StringLatin1$LinesSpliterator"), (28, u "charAt"), (28, u "equals"), (0, u "([B[B)Z"), (107, .class_ 391), (0, u "java/lang/StringLatin1$CharsSpliterator")] 3

def k8m0 : Method := { name := "<init>", desc := "()V", sig := { parameters := [], returnType := none }, accessFlags := 0, code := none }
def k8c1 : Code := { maxStack := 2, maxLocals := 2, code := jdk_43_method_2_code, exceptionTable := #[], attributes := #[] }
def k8m1 : Method := { name := "charAt", desc := "([BI)C", sig := { parameters := [(.array .byte), .int], returnType := some .char }, accessFlags := 9, code := some k8c1 }
def k8c2 : Code := { maxStack := 3, maxLocals := 3, code := jdk_43_method_13_code, exceptionTable := #[], attributes := #[] }
def k8m2 : Method := { name := "equals", desc := "([B[B)Z", sig := { parameters := [(.array .byte), (.array .byte)], returnType := some .boolean }, accessFlags := 9, code := some k8c2 }
/-- java/lang/StringLatin1 -/
def k8 : Class := { plain "java/lang/StringLatin1" (some 0) with
  accessFlags := 48
  interfaces := #[]
  cf := some (fileOf pool8 14 #[.nestMembers #[390, 221]] #[{ accessFlags := 0, nameIndex := 7, descriptorIndex := 8, attributes := #[] }, { accessFlags := 9, nameIndex := 252, descriptorIndex := 53, attributes := #[] }, { accessFlags := 9, nameIndex := 281, descriptorIndex := 282, attributes := #[] }] 48 4 #[] #[{ accessFlags := 4120, nameIndex := 121, descriptorIndex := 122, attributes := #[] }])
  fields := #[{ name := "$assertionsDisabled", type := .boolean, accessFlags := 4120, slot := 0, constantValue := 0 }]
  methods := #[k8m0, k8m1, k8m2]
  instanceTypes := #[]
  staticTypes := #[.boolean]
  resolved := Array.replicate 395 none
  statics := none }

def pool9 : Array CpInfo := pool [(2, .class_ 4), (1, u "java/lang/Object"), (0, u "<init>"), (0, u "()V"), (17, .class_ 26), (1, u "jdk/internal/util/Preconditions"), (6, u "checkIndex"), (21, .class_ 56), (0, u "jdk/internal/util/Preconditions$4"), (57, .class_ 115), (0, u "jdk/internal/util/Preconditions$1"), (7, u "SIOOBE_FORMATTER"), (0, u "Ljava/util/function/BiFunction;"), (0, .class_ 126), (0, u "jdk/internal/util/Preconditions$2"), (3, u "AIOOBE_FORMATTER"), (0, .class_ 132), (0, u "jdk/internal/util/Preconditions$3"), (3, u "IOOBE_FORMATTER"), (41, u "(IILjava/util/function/BiFunction;)I")] 15

def k9m0 : Method := { name := "<init>", desc := "()V", sig := { parameters := [], returnType := none }, accessFlags := 1, code := none }
def k9c1 : Code := { maxStack := 3, maxLocals := 3, code := jdk_41_method_11_code, exceptionTable := #[], attributes := #[] }
def k9m1 : Method := { name := "checkIndex", desc := "(IILjava/util/function/BiFunction;)I", sig := { parameters := [.int, .int, (.object "java/util/function/BiFunction")], returnType := some .int }, accessFlags := 9, code := some k9c1 }
/-- jdk/internal/util/Preconditions -/
def k9 : Class := { plain "jdk/internal/util/Preconditions" (some 0) with
  accessFlags := 33
  interfaces := #[]
  cf := some (fileOf pool9 24 #[.nestMembers #[55, 131, 125, 114]] #[{ accessFlags := 1, nameIndex := 5, descriptorIndex := 6, attributes := #[] }, { accessFlags := 9, nameIndex := 33, descriptorIndex := 178, attributes := #[] }] 33 2 #[] #[{ accessFlags := 25, nameIndex := 123, descriptorIndex := 124, attributes := #[] }, { accessFlags := 25, nameIndex := 130, descriptorIndex := 124, attributes := #[] }, { accessFlags := 25, nameIndex := 136, descriptorIndex := 124, attributes := #[] }])
  fields := #[{ name := "SIOOBE_FORMATTER", type := (.object "java/util/function/BiFunction"), accessFlags := 25, slot := 0, constantValue := 0 }, { name := "AIOOBE_FORMATTER", type := (.object "java/util/function/BiFunction"), accessFlags := 25, slot := 1, constantValue := 0 }, { name := "IOOBE_FORMATTER", type := (.object "java/util/function/BiFunction"), accessFlags := 25, slot := 2, constantValue := 0 }]
  methods := #[k9m0, k9m1]
  instanceTypes := #[]
  staticTypes := #[(.object "java/util/function/BiFunction"), (.object "java/util/function/BiFunction"), (.object "java/util/function/BiFunction")]
  resolved := Array.replicate 194 none
  statics := some 1 }

def pool10 : Array CpInfo := pool [(6, .class_ 8), (1, u "java/lang/Object"), (0, u "<init>"), (0, u "()V"), (1, .class_ 14), (1, u "java/lang/StringUTF16"), (31, u "$assertionsDisabled"), (0, u "Z"), (13, u "HI_BYTE_SHIFT"), (0, u "I"), (2, u "LO_BYTE_SHIFT"), (49, .methodref 12 116), (0, .nameAndType 117 118), (0, u "compress"), (0, u "([CI[BII)I"), (3, u "([CII)[B"), (138, u "coderFromArrayLen"), (0, u "([BI)B"), (106, .class_ 371), (1, u "java/lang/StringUTF16$LinesSpliterator"), (58, u "MAX_LENGTH"), (196, .class_ 628), (0, u "java/lang/StringUTF16$CodePointsSpliterator"), (0, .class_ 630), (0, u "java/lang/StringUTF16$CharsSpliterator")] 4

def k10m0 : Method := { name := "<init>", desc := "()V", sig := { parameters := [], returnType := none }, accessFlags := 0, code := none }
def k10c1 : Code := { maxStack := 2, maxLocals := 2, code := jdk_52_method_15_code, exceptionTable := #[], attributes := #[] }
def k10m1 : Method := { name := "coderFromArrayLen", desc := "([BI)B", sig := { parameters := [(.array .byte), .int], returnType := some .byte }, accessFlags := 8, code := some k10c1 }
def k10c2 : Code := { maxStack := 5, maxLocals := 6, code := jdk_52_method_16_code, exceptionTable := #[], attributes := #[] }
def k10m2 : Method := { name := "compress", desc := "([CII)[B", sig := { parameters := [(.array .char), .int, .int], returnType := some (.array .byte) }, accessFlags := 9, code := some k10c2 }
def k10c3 : Code := { maxStack := 3, maxLocals := 7, code := jdk_52_method_21_code, exceptionTable := #[], attributes := #[] }
def k10m3 : Method := { name := "compress", desc := "([CI[BII)I", sig := { parameters := [(.array .char), .int, (.array .byte), .int, .int], returnType := some .int }, accessFlags := 9, code := some k10c3 }
/-- java/lang/StringUTF16 -/
def k10 : Class := { plain "java/lang/StringUTF16" (some 0) with
  accessFlags := 48
  interfaces := #[]
  cf := some (fileOf pool10 12 #[.nestMembers #[627, 629, 369]] #[{ accessFlags := 0, nameIndex := 9, descriptorIndex := 10, attributes := #[] }, { accessFlags := 8, nameIndex := 261, descriptorIndex := 262, attributes := #[] }, { accessFlags := 9, nameIndex := 117, descriptorIndex := 122, attributes := #[] }, { accessFlags := 9, nameIndex := 117, descriptorIndex := 118, attributes := #[] }] 48 6 #[] #[{ accessFlags := 26, nameIndex := 61, descriptorIndex := 62, attributes := #[] }, { accessFlags := 26, nameIndex := 65, descriptorIndex := 62, attributes := #[] }, { accessFlags := 24, nameIndex := 430, descriptorIndex := 62, attributes := #[] }, { accessFlags := 4120, nameIndex := 46, descriptorIndex := 47, attributes := #[] }])
  fields := #[{ name := "HI_BYTE_SHIFT", type := .int, accessFlags := 26, slot := 0, constantValue := 0 }, { name := "LO_BYTE_SHIFT", type := .int, accessFlags := 26, slot := 1, constantValue := 0 }, { name := "MAX_LENGTH", type := .int, accessFlags := 24, slot := 2, constantValue := 0 }, { name := "$assertionsDisabled", type := .boolean, accessFlags := 4120, slot := 3, constantValue := 0 }]
  methods := #[k10m0, k10m1, k10m2, k10m3]
  instanceTypes := #[]
  staticTypes := #[.int, .int, .int, .boolean]
  resolved := Array.replicate 635 none
  statics := none }

def pool11 : Array CpInfo := pool [(2, .class_ 4), (1, u "java/lang/Enum"), (0, u "name"), (0, u "Ljava/lang/String;"), (2, u "ordinal"), (0, u "I"), (1, .class_ 14), (1, u "java/lang/Object"), (4, u "hash"), (86, .class_ 108), (1, u "java/lang/Enum$EnumDesc"), (2, .class_ 112), (0, u "java/lang/constant/Constable"), (0, .class_ 114), (0, u "java/lang/Comparable"), (0, .class_ 116), (0, u "java/io/Serializable")] 87

/-- java/lang/Enum -/
def k11 : Class := { plain "java/lang/Enum" (some 0) with
  accessFlags := 1057
  interfaces := #[5, 3, 2]
  cf := some (fileOf pool11 2 #[.nestMembers #[106]] #[] 1057 12 #[111, 113, 115] #[{ accessFlags := 18, nameIndex := 5, descriptorIndex := 6, attributes := #[] }, { accessFlags := 18, nameIndex := 9, descriptorIndex := 10, attributes := #[] }, { accessFlags := 2, nameIndex := 19, descriptorIndex := 10, attributes := #[] }])
  fields := #[{ name := "name", type := (.object "java/lang/String"), accessFlags := 18, slot := 0, constantValue := 0 }, { name := "ordinal", type := .int, accessFlags := 18, slot := 1, constantValue := 0 }, { name := "hash", type := .int, accessFlags := 2, slot := 2, constantValue := 0 }]
  methods := #[]
  instanceTypes := #[(.object "java/lang/String"), .int, .int]
  staticTypes := #[]
  resolved := Array.replicate 204 none
  statics := none }

def pool12 : Array CpInfo := pool [(1, .class_ 2), (0, u "com/example/samband/samband/identity/KeyPurpose"), (2, u "ACCESS_TOKEN"), (0, u "Lcom/example/samband/samband/identity/KeyPurpose;"), (2, u "DIALOG_TOKEN"), (0, .fieldref 1 11), (0, .nameAndType 12 13), (0, u "$VALUES"), (0, u "[Lcom/example/samband/samband/identity/KeyPurpose;"), (0, .methodref 15 16), (0, .class_ 13), (0, .nameAndType 17 18), (0, u "clone"), (0, u "()Ljava/lang/Object;"), (1, .class_ 22), (1, u "java/lang/Enum"), (6, .fieldref 1 30), (0, .nameAndType 31 32), (0, u "value"), (0, u "Ljava/lang/String;"), (2, u "algorithm"), (2, u "parameters"), (0, u "Ljava/security/spec/AlgorithmParameterSpec;"), (2, u "tokenLifetime"), (0, u "Ljava/time/Duration;"), (0, .methodref 1 45), (0, .nameAndType 46 47), (0, u "values"), (0, u "()[Lcom/example/samband/samband/identity/KeyPurpose;"), (0, .methodref 49 50), (0, .class_ 51), (0, .nameAndType 52 53), (0, u "java/lang/String"), (0, u "equals"), (0, u "(Ljava/lang/Object;)Z"), (0, .methodref 55 56), (0, .class_ 57), (0, .nameAndType 58 59), (0, u "java/util/Optional"), (0, u "of"), (0, u "(Ljava/lang/Object;)Ljava/util/Optional;"), (0, .methodref 55 61), (0, .nameAndType 62 63), (0, u "empty"), (0, u "()Ljava/util/Optional;"), (74, u "(Ljava/lang/String;)Ljava/util/Optional;")] 23

def k12c0 : Code := { maxStack := 1, maxLocals := 0, code := prog_12_method_1_code, exceptionTable := #[], attributes := #[] }
def k12m0 : Method := { name := "values", desc := "()[Lcom/example/samband/samband/identity/KeyPurpose;", sig := { parameters := [], returnType := some (.array (.object "com/example/samband/samband/identity/KeyPurpose")) }, accessFlags := 9, code := some k12c0 }
def k12c1 : Code := { maxStack := 2, maxLocals := 5, code := prog_12_method_7_code, exceptionTable := #[], attributes := #[] }
def k12m1 : Method := { name := "of", desc := "(Ljava/lang/String;)Ljava/util/Optional;", sig := { parameters := [(.object "java/lang/String")], returnType := some (.object "java/util/Optional") }, accessFlags := 9, code := some k12c1 }
/-- com/example/samband/samband/identity/KeyPurpose -/
def k12 : Class := { plain "com/example/samband/samband/identity/KeyPurpose" (some 11) with
  accessFlags := 16433
  interfaces := #[]
  cf := some (fileOf pool12 1 #[] #[{ accessFlags := 9, nameIndex := 46, descriptorIndex := 47, attributes := #[] }, { accessFlags := 9, nameIndex := 58, descriptorIndex := 138, attributes := #[] }] 16433 20 #[] #[{ accessFlags := 16409, nameIndex := 5, descriptorIndex := 6, attributes := #[] }, { accessFlags := 16409, nameIndex := 9, descriptorIndex := 6, attributes := #[] }, { accessFlags := 18, nameIndex := 31, descriptorIndex := 32, attributes := #[] }, { accessFlags := 18, nameIndex := 35, descriptorIndex := 32, attributes := #[] }, { accessFlags := 18, nameIndex := 38, descriptorIndex := 39, attributes := #[] }, { accessFlags := 18, nameIndex := 42, descriptorIndex := 43, attributes := #[] }, { accessFlags := 4122, nameIndex := 12, descriptorIndex := 13, attributes := #[] }])
  fields := #[{ name := "ACCESS_TOKEN", type := (.object "com/example/samband/samband/identity/KeyPurpose"), accessFlags := 16409, slot := 0, constantValue := 0 }, { name := "DIALOG_TOKEN", type := (.object "com/example/samband/samband/identity/KeyPurpose"), accessFlags := 16409, slot := 1, constantValue := 0 }, { name := "value", type := (.object "java/lang/String"), accessFlags := 18, slot := 3, constantValue := 0 }, { name := "algorithm", type := (.object "java/lang/String"), accessFlags := 18, slot := 4, constantValue := 0 }, { name := "parameters", type := (.object "java/security/spec/AlgorithmParameterSpec"), accessFlags := 18, slot := 5, constantValue := 0 }, { name := "tokenLifetime", type := (.object "java/time/Duration"), accessFlags := 18, slot := 6, constantValue := 0 }, { name := "$VALUES", type := (.array (.object "com/example/samband/samband/identity/KeyPurpose")), accessFlags := 4122, slot := 2, constantValue := 0 }]
  methods := #[k12m0, k12m1]
  instanceTypes := #[(.object "java/lang/String"), .int, .int, (.object "java/lang/String"), (.object "java/lang/String"), (.object "java/security/spec/AlgorithmParameterSpec"), (.object "java/time/Duration")]
  staticTypes := #[(.object "com/example/samband/samband/identity/KeyPurpose"), (.object "com/example/samband/samband/identity/KeyPurpose"), (.array (.object "com/example/samband/samband/identity/KeyPurpose"))]
  resolved := Array.replicate 162 none
  statics := some 2 }

def pool13 : Array CpInfo := pool [(1, .class_ 2), (0, u "java/lang/Cloneable"), (0, .class_ 4), (0, u "java/lang/Object")] 2

/-- java/lang/Cloneable -/
def k13 : Class := { plain "java/lang/Cloneable" (some 0) with
  accessFlags := 1537
  interfaces := #[]
  cf := some (fileOf pool13 1 #[] #[] 1537 3 #[] #[])
  fields := #[]
  methods := #[]
  instanceTypes := #[]
  staticTypes := #[]
  resolved := Array.replicate 7 none
  statics := none }

def pool14 : Array CpInfo := pool [(1, .fieldref 2 3), (0, .class_ 4), (0, .nameAndType 5 6), (0, u "java/util/Optional"), (0, u "EMPTY"), (0, u "Ljava/util/Optional;"), (0, .methodref 8 9), (0, .class_ 10), (0, .nameAndType 11 12), (0, u "java/lang/Object"), (0, u "<init>"), (0, u "()V"), (0, .fieldref 2 14), (0, .nameAndType 15 16), (0, u "value"), (0, u "Ljava/lang/Object;"), (0, .methodref 18 19), (0, .class_ 20), (0, .nameAndType 21 22), (0, u "java/util/Objects"), (0, u "requireNonNull"), (0, u "(Ljava/lang/Object;)Ljava/lang/Object;"), (0, .methodref 2 24), (0, .nameAndType 11 25), (0, u "(Ljava/lang/Object;)V"), (29, u "empty"), (0, u "()Ljava/util/Optional;"), (8, u "(Ljava/lang/Object;)Ljava/util/Optional;"), (16, u "of"), (82, u "orElse")] 21

def k14c0 : Code := { maxStack := 1, maxLocals := 1, code := jdk_32_method_1_code, exceptionTable := #[], attributes := #[] }
def k14m0 : Method := { name := "empty", desc := "()Ljava/util/Optional;", sig := { parameters := [], returnType := some (.object "java/util/Optional") }, accessFlags := 9, code := some k14c0 }
def k14c1 : Code := { maxStack := 2, maxLocals := 2, code := jdk_32_method_2_code, exceptionTable := #[], attributes := #[] }
def k14m1 : Method := { name := "<init>", desc := "(Ljava/lang/Object;)V", sig := { parameters := [(.object "java/lang/Object")], returnType := none }, accessFlags := 2, code := some k14c1 }
def k14c2 : Code := { maxStack := 3, maxLocals := 1, code := jdk_32_method_3_code, exceptionTable := #[], attributes := #[] }
def k14m2 : Method := { name := "of", desc := "(Ljava/lang/Object;)Ljava/util/Optional;", sig := { parameters := [(.object "java/lang/Object")], returnType := some (.object "java/util/Optional") }, accessFlags := 9, code := some k14c2 }
def k14c3 : Code := { maxStack := 1, maxLocals := 2, code := jdk_32_method_15_code, exceptionTable := #[], attributes := #[] }
def k14m3 : Method := { name := "orElse", desc := "(Ljava/lang/Object;)Ljava/lang/Object;", sig := { parameters := [(.object "java/lang/Object")], returnType := some (.object "java/lang/Object") }, accessFlags := 1, code := some k14c3 }
/-- java/util/Optional -/
def k14 : Class := { plain "java/util/Optional" (some 0) with
  accessFlags := 49
  interfaces := #[]
  cf := some (fileOf pool14 2 #[] #[{ accessFlags := 9, nameIndex := 55, descriptorIndex := 56, attributes := #[] }, { accessFlags := 2, nameIndex := 11, descriptorIndex := 25, attributes := #[] }, { accessFlags := 9, nameIndex := 82, descriptorIndex := 65, attributes := #[] }, { accessFlags := 1, nameIndex := 165, descriptorIndex := 22, attributes := #[] }] 49 8 #[] #[{ accessFlags := 26, nameIndex := 5, descriptorIndex := 6, attributes := #[] }, { accessFlags := 18, nameIndex := 15, descriptorIndex := 16, attributes := #[] }])
  fields := #[{ name := "EMPTY", type := (.object "java/util/Optional"), accessFlags := 26, slot := 0, constantValue := 0 }, { name := "value", type := (.object "java/lang/Object"), accessFlags := 18, slot := 0, constantValue := 0 }]
  methods := #[k14m0, k14m1, k14m2, k14m3]
  instanceTypes := #[(.object "java/lang/Object")]
  staticTypes := #[(.object "java/util/Optional")]
  resolved := Array.replicate 187 none
  statics := some 3 }

def pool15 : Array CpInfo := pool [(2, .class_ 4), (1, u "java/lang/Object"), (0, u "<init>"), (0, u "()V"), (35, .class_ 44), (1, u "java/util/Objects"), (0, u "requireNonNull"), (0, u "(Ljava/lang/Object;)Ljava/lang/Object;")] 137

def k15m0 : Method := { name := "<init>", desc := "()V", sig := { parameters := [], returnType := none }, accessFlags := 2, code := none }
def k15c1 : Code := { maxStack := 2, maxLocals := 1, code := jdk_31_method_10_code, exceptionTable := #[], attributes := #[] }
def k15m1 : Method := { name := "requireNonNull", desc := "(Ljava/lang/Object;)Ljava/lang/Object;", sig := { parameters := [(.object "java/lang/Object")], returnType := some (.object "java/lang/Object") }, accessFlags := 9, code := some k15c1 }
/-- java/util/Objects -/
def k15 : Class := { plain "java/util/Objects" (some 0) with
  accessFlags := 49
  interfaces := #[]
  cf := some (fileOf pool15 42 #[] #[{ accessFlags := 2, nameIndex := 5, descriptorIndex := 6, attributes := #[] }, { accessFlags := 9, nameIndex := 45, descriptorIndex := 46, attributes := #[] }] 49 2 #[] #[])
  fields := #[]
  methods := #[k15m0, k15m1]
  instanceTypes := #[]
  staticTypes := #[]
  resolved := Array.replicate 184 none
  statics := none }

def pool16 : Array CpInfo := pool [(9, u "<init>"), (6, .class_ 18), (1, u "java/lang/Object"), (0, u "()V"), (1, .class_ 23), (1, u "jdk/internal/util/ArraysSupport"), (0, u "LOG2_ARRAY_LONG_INDEX_SCALE"), (0, u "I"), (2, u "U"), (0, u "Ljdk/internal/misc/Unsafe;"), (8, u "BIG_ENDIAN"), (0, u "Z"), (8, u "LOG2_BYTE_BIT_SIZE"), (4, u "LOG2_ARRAY_INT_INDEX_SCALE"), (54, u "JLA"), (0, u "Ljdk/internal/access/JavaLangAccess;"), (11, u "LOG2_ARRAY_BOOLEAN_INDEX_SCALE"), (9, u "LOG2_ARRAY_BYTE_INDEX_SCALE"), (5, u "LOG2_ARRAY_CHAR_INDEX_SCALE"), (5, u "LOG2_ARRAY_SHORT_INDEX_SCALE"), (18, u "LOG2_ARRAY_FLOAT_INDEX_SCALE"), (24, u "LOG2_ARRAY_DOUBLE_INDEX_SCALE"), (89, u "T_BOOLEAN"), (2, u "T_CHAR"), (1, u "T_FLOAT"), (1, u "T_DOUBLE"), (1, u "T_BYTE"), (1, u "T_SHORT"), (1, u "T_INT"), (1, u "T_LONG"), (1, u "SOFT_MAX_ARRAY_LENGTH")] 83

def k16m0 : Method := { name := "<init>", desc := "()V", sig := { parameters := [], returnType := none }, accessFlags := 2, code := none }
/-- jdk/internal/util/ArraysSupport -/
def k16 : Class := { plain "jdk/internal/util/ArraysSupport" (some 0) with
  accessFlags := 33
  interfaces := #[]
  cf := some (fileOf pool16 21 #[] #[{ accessFlags := 2, nameIndex := 9, descriptorIndex := 19, attributes := #[] }] 33 16 #[] #[{ accessFlags := 24, nameIndex := 28, descriptorIndex := 29, attributes := #[] }, { accessFlags := 26, nameIndex := 38, descriptorIndex := 39, attributes := #[] }, { accessFlags := 25, nameIndex := 121, descriptorIndex := 25, attributes := #[] }, { accessFlags := 25, nameIndex := 131, descriptorIndex := 25, attributes := #[] }, { accessFlags := 25, nameIndex := 137, descriptorIndex := 25, attributes := #[] }, { accessFlags := 25, nameIndex := 143, descriptorIndex := 25, attributes := #[] }, { accessFlags := 25, nameIndex := 53, descriptorIndex := 25, attributes := #[] }, { accessFlags := 25, nameIndex := 24, descriptorIndex := 25, attributes := #[] }, { accessFlags := 25, nameIndex := 162, descriptorIndex := 25, attributes := #[] }, { accessFlags := 25, nameIndex := 187, descriptorIndex := 25, attributes := #[] }, { accessFlags := 26, nameIndex := 48, descriptorIndex := 25, attributes := #[] }, { accessFlags := 25, nameIndex := 277, descriptorIndex := 25, attributes := #[] }, { accessFlags := 25, nameIndex := 280, descriptorIndex := 25, attributes := #[] }, { accessFlags := 25, nameIndex := 282, descriptorIndex := 25, attributes := #[] }, { accessFlags := 25, nameIndex := 284, descriptorIndex := 25, attributes := #[] }, { accessFlags := 25, nameIndex := 286, descriptorIndex := 25, attributes := #[] }, { accessFlags := 25, nameIndex := 288, descriptorIndex := 25, attributes := #[] }, { accessFlags := 25, nameIndex := 290, descriptorIndex := 25, attributes := #[] }, { accessFlags := 25, nameIndex := 292, descriptorIndex := 25, attributes := #[] }, { accessFlags := 26, nameIndex := 108, descriptorIndex := 109, attributes := #[] }, { accessFlags := 25, nameIndex := 294, descriptorIndex := 25, attributes := #[] }])
  fields := #[{ name := "U", type := (.object "jdk/internal/misc/Unsafe"), accessFlags := 24, slot := 0, constantValue := 0 }, { name := "BIG_ENDIAN", type := .boolean, accessFlags := 26, slot := 1, constantValue := 0 }, { name := "LOG2_ARRAY_BOOLEAN_INDEX_SCALE", type := .int, accessFlags := 25, slot := 2, constantValue := 0 }, { name := "LOG2_ARRAY_BYTE_INDEX_SCALE", type := .int, accessFlags := 25, slot := 3, constantValue := 0 }, { name := "LOG2_ARRAY_CHAR_INDEX_SCALE", type := .int, accessFlags := 25, slot := 4, constantValue := 0 }, { name := "LOG2_ARRAY_SHORT_INDEX_SCALE", type := .int, accessFlags := 25, slot := 5, constantValue := 0 }, { name := "LOG2_ARRAY_INT_INDEX_SCALE", type := .int, accessFlags := 25, slot := 6, constantValue := 0 }, { name := "LOG2_ARRAY_LONG_INDEX_SCALE", type := .int, accessFlags := 25, slot := 7, constantValue := 0 }, { name := "LOG2_ARRAY_FLOAT_INDEX_SCALE", type := .int, accessFlags := 25, slot := 8, constantValue := 0 }, { name := "LOG2_ARRAY_DOUBLE_INDEX_SCALE", type := .int, accessFlags := 25, slot := 9, constantValue := 0 }, { name := "LOG2_BYTE_BIT_SIZE", type := .int, accessFlags := 26, slot := 10, constantValue := 0 }, { name := "T_BOOLEAN", type := .int, accessFlags := 25, slot := 11, constantValue := 0 }, { name := "T_CHAR", type := .int, accessFlags := 25, slot := 12, constantValue := 0 }, { name := "T_FLOAT", type := .int, accessFlags := 25, slot := 13, constantValue := 0 }, { name := "T_DOUBLE", type := .int, accessFlags := 25, slot := 14, constantValue := 0 }, { name := "T_BYTE", type := .int, accessFlags := 25, slot := 15, constantValue := 0 }, { name := "T_SHORT", type := .int, accessFlags := 25, slot := 16, constantValue := 0 }, { name := "T_INT", type := .int, accessFlags := 25, slot := 17, constantValue := 0 }, { name := "T_LONG", type := .int, accessFlags := 25, slot := 18, constantValue := 0 }, { name := "JLA", type := (.object "jdk/internal/access/JavaLangAccess"), accessFlags := 26, slot := 19, constantValue := 0 }, { name := "SOFT_MAX_ARRAY_LENGTH", type := .int, accessFlags := 25, slot := 20, constantValue := 0 }]
  methods := #[k16m0]
  instanceTypes := #[]
  staticTypes := #[(.object "jdk/internal/misc/Unsafe"), .boolean, .int, .int, .int, .int, .int, .int, .int, .int, .int, .int, .int, .int, .int, .int, .int, .int, .int, (.object "jdk/internal/access/JavaLangAccess"), .int]
  resolved := Array.replicate 378 none
  statics := none }

/-- the primitive byte -/
def k17 : Class := { plain "byte" none with kind := .primitive 'B', accessFlags := 0x411 }
/-- [B -/
def k18 : Class := { plain "[B" (some 0) with kind := .array 17 .byte, interfaces := #[13, 2], accessFlags := 1041 }

/-- the primitive char -/
def k19 : Class := { plain "char" none with kind := .primitive 'C', accessFlags := 0x411 }
/-- [C -/
def k20 : Class := { plain "[C" (some 0) with kind := .array 19 .char, interfaces := #[13, 2], accessFlags := 1041 }

/-- the primitive int -/
def k21 : Class := { plain "int" none with kind := .primitive 'I', accessFlags := 0x411 }
/-- [I -/
def k22 : Class := { plain "[I" (some 0) with kind := .array 21 .int, interfaces := #[13, 2], accessFlags := 1041 }

/-- [Lcom/example/samband/samband/identity/KeyPurpose; -/
def k23 : Class := { plain "[Lcom/example/samband/samband/identity/KeyPurpose;" (some 0) with kind := .array 12 (.object "com/example/samband/samband/identity/KeyPurpose"), interfaces := #[13, 2], accessFlags := 1041 }

def heap : Heap := #[{ cls := 7, slots := #[.long 0, .int 1, .null, .int 0, .null, .int 0, .int 0], vm := .statics 7 },
  { cls := 9, slots := #[.null, .null, .null], vm := .statics 9 },
  { cls := 12, slots := #[.ref 5, .ref 6, .ref 4], vm := .statics 12 },
  { cls := 14, slots := #[.ref 11], vm := .statics 14 },
  { cls := 23, slots := #[.ref 5, .ref 6], vm := .none },
  { cls := 12, slots := #[.null, .int 0, .int 0, .ref 7, .null, .null, .null], vm := .none },
  { cls := 12, slots := #[.null, .int 1, .int 0, .ref 8, .null, .null, .null], vm := .none },
  { cls := 7, slots := #[.ref 9, .int 0, .int 0, .int 0], vm := .none },
  { cls := 7, slots := #[.ref 10, .int 0, .int 0, .int 0], vm := .none },
  { cls := 18, slots := #[.int 97, .int 99, .int 99, .int 101, .int 115, .int 115, .int 45, .int 116, .int 111, .int 107, .int 101, .int 110], vm := .none },
  { cls := 18, slots := #[.int 100, .int 105, .int 97, .int 108, .int 111, .int 103, .int 45, .int 116, .int 111, .int 107, .int 101, .int 110], vm := .none },
  { cls := 14, slots := #[.null], vm := .none }]
def classes : Array Class := #[k0, k1, k2, k3, k4, k5, k6, k7, k8, k9, k10, k11, k12, k13, k14, k15, k16, k17, k18, k19, k20, k21, k22, k23]
def interned : List (Array UInt16 × Addr) := []
def slotsUsed : Nat := 63
def theMethod : MethodId := ⟨1, 2⟩
def args0 : Array Value := #[.int 10, .long 5, .long 6, .int 3, .int 66, .int 67]
def aboutOver (below : List Frame) : State where
  vm := { classes := classes, interned := interned.toArray }
  heap := heap
  slotsUsed := slotsUsed
  threads := #[{ frames := .invoking theMethod args0 :: below }]
def below0 : List Frame := [.native { method := ⟨0, 0⟩, args := #[] }]
def about1 : State := aboutOver below0
def p0 : Program := .bare "" "" ""
def e0 : Env := launch0.env 0 0 0
theorem w_frames : about1.frames = Frame.invoking theMethod args0 :: below0 := rfl
set_option maxRecDepth 65536 in
theorem w_args : argsFit about1.vm theMethod args0 = true := by decide +kernel
set_option maxRecDepth 65536 in
theorem w_heap : heapFits about1 = true := by decide +kernel
set_option maxRecDepth 65536 in
theorem w_runnable : about1.curStatus? = some .runnable := by decide +kernel
set_option maxRecDepth 65536 in
theorem w_alone : about1.alone = true := by decide +kernel
set_option maxRecDepth 65536 in
theorem w_named : about1.methodNamed? x = some theMethod := by decide +kernel
set_option maxRecDepth 65536 in
theorem w_hears : about1.hears theMethod below0 = true := by decide +kernel
set_option maxRecDepth 65536 in
theorem w_ripe : about1.ripe theMethod args0 below0 = true := by decide +kernel
theorem w_running : about1.status = .running := rfl
set_option maxRecDepth 65536 in
theorem w_room : about1.hasRoom e0.platform room_1 = true :=
  launch0.hasRoom_least _ room_1 (by decide +kernel) (by decide +kernel) (by decide +kernel) (by decide +kernel) (by decide +kernel) (by decide +kernel)
theorem allAtoms_all (ts : List Jvm.Cond) (a : Array Jvm.Value) (st : Jvm.State) : (allAtoms ts).before a st = ts.all (fun c => c.before a st) := by
  induction ts with
  | nil => rfl
  | cons c t ih =>
    show (Jvm.Cond.and c (allAtoms t)).before a st = _
    rw [Jvm.Cond.before_and, ih, List.all_cons]
def words1 : List Jvm.Cond := Jvm.Cond.code x code maxLocals ret :: tables_1
/-- a 'code' word, met by the world's own term for the bytes: nothing is compared byte by byte -/
theorem code_word {y : MethodName} {bytes : ByteArray} {mx : Nat} {rt : Option FieldType} {a : Array Value} {s : State} {m : MethodId} {meth : Method} {c : Code} (h1 : s.methodNamed? y = some m) (h2 : s.vm.method? m = some meth) (h3 : meth.code = some c) (h4 : c.code = bytes)
    (h5 : (c.maxLocals == mx && c.exceptionTable.isEmpty && decide (c.maxStack ≤ mostOperands) && decide (meth.sig.returnType = rt) && !meth.locks && decide (parseMethodDescriptor y.desc = some meth.sig)) = true) : (Jvm.Cond.code y bytes mx rt).before a s = true := by
  simp only [Bool.and_eq_true, beq_iff_eq, Bool.not_eq_true', decide_eq_true_eq] at h5
  obtain ⟨⟨⟨⟨⟨g1, g2⟩, g3⟩, g4⟩, g5⟩, g6⟩ := h5
  simp [Cond.before, Cond.holds, Cond.value, h1, h2, h3, h4, g1, g2, g3, g4, g5, g6]
def isCode : Jvm.Cond → Bool
  | .code _ _ _ _ => true
  | _ => false
theorem all_split {L : List Jvm.Cond} {P : Jvm.Cond → Bool} (h1 : L.all (fun c => isCode c || P c) = true) (h2 : ∀ c ∈ L.filter isCode, P c = true) : L.all P = true := by
  refine List.all_eq_true.mpr fun c hc => ?_
  have h := List.all_eq_true.mp h1 c hc
  rcases Bool.eq_false_or_eq_true (isCode c) with hi | hi
  · exact h2 c (List.mem_filter.mpr ⟨hc, hi⟩)
  · simpa [hi] using h
set_option maxRecDepth 65536 in
theorem w_c0 : (Jvm.Cond.code x code maxLocals ret).before args0 about1 = true := code_word (m := ⟨1, 2⟩) (meth := k1m2) (c := k1c2) (by decide +kernel) rfl rfl rfl (by decide +kernel)
set_option maxRecDepth 65536 in
theorem w_c1 : (Jvm.Cond.code ({ cls := "com/example/samband/samband/identity/KeyPurposeOfPinLaw", name := "ch", desc := "(IIJJZII)C" } : Jvm.MethodName) method_2_code (11 : Nat) (Option.some Jvm.ClassFile.FieldType.char)).before args0 about1 = true := code_word (m := ⟨1, 1⟩) (meth := k1m1) (c := k1c1) (by decide +kernel) rfl rfl rfl (by decide +kernel)
set_option maxRecDepth 65536 in
theorem w_c2 : (Jvm.Cond.code ({ cls := "java/lang/String", name := "charAt", desc := "(I)C" } : Jvm.MethodName) jdk_42_method_56_code (2 : Nat) (Option.some Jvm.ClassFile.FieldType.char)).before args0 about1 = true := code_word (m := ⟨7, 2⟩) (meth := k7m2) (c := k7c2) (by decide +kernel) rfl rfl rfl (by decide +kernel)
set_option maxRecDepth 65536 in
theorem w_c3 : (Jvm.Cond.code ({ cls := "java/lang/String", name := "isLatin1", desc := "()Z" } : Jvm.MethodName) jdk_42_method_154_code (1 : Nat) (Option.some Jvm.ClassFile.FieldType.boolean)).before args0 about1 = true := code_word (m := ⟨7, 5⟩) (meth := k7m5) (c := k7c5) (by decide +kernel) rfl rfl rfl (by decide +kernel)
set_option maxRecDepth 65536 in
theorem w_c4 : (Jvm.Cond.code ({ cls := "java/lang/StringLatin1", name := "charAt", desc := "([BI)C" } : Jvm.MethodName) jdk_43_method_2_code (2 : Nat) (Option.some Jvm.ClassFile.FieldType.char)).before args0 about1 = true := code_word (m := ⟨8, 1⟩) (meth := k8m1) (c := k8c1) (by decide +kernel) rfl rfl rfl (by decide +kernel)
set_option maxRecDepth 65536 in
theorem w_c5 : (Jvm.Cond.code ({ cls := "java/lang/String", name := "checkIndex", desc := "(II)V" } : Jvm.MethodName) jdk_42_method_155_code (2 : Nat) (Option.none : Option Jvm.ClassFile.FieldType)).before args0 about1 = true := code_word (m := ⟨7, 6⟩) (meth := k7m6) (c := k7c6) (by decide +kernel) rfl rfl rfl (by decide +kernel)
set_option maxRecDepth 65536 in
theorem w_c6 : (Jvm.Cond.code ({ cls := "jdk/internal/util/Preconditions", name := "checkIndex", desc := "(IILjava/util/function/BiFunction;)I" } : Jvm.MethodName) jdk_41_method_11_code (3 : Nat) (Option.some Jvm.ClassFile.FieldType.int)).before args0 about1 = true := code_word (m := ⟨9, 1⟩) (meth := k9m1) (c := k9c1) (by decide +kernel) rfl rfl rfl (by decide +kernel)
set_option maxRecDepth 65536 in
theorem w_c7 : (Jvm.Cond.code ({ cls := "java/lang/String", name := "<init>", desc := "([C)V" } : Jvm.MethodName) jdk_42_method_3_code (2 : Nat) (Option.none : Option Jvm.ClassFile.FieldType)).before args0 about1 = true := code_word (m := ⟨7, 1⟩) (meth := k7m1) (c := k7c1) (by decide +kernel) rfl rfl rfl (by decide +kernel)
set_option maxRecDepth 65536 in
theorem w_c8 : (Jvm.Cond.code ({ cls := "java/lang/String", name := "<init>", desc := "([CIILjava/lang/Void;)V" } : Jvm.MethodName) jdk_42_method_149_code (6 : Nat) (Option.none : Option Jvm.ClassFile.FieldType)).before args0 about1 = true := code_word (m := ⟨7, 4⟩) (meth := k7m4) (c := k7c4) (by decide +kernel) rfl rfl rfl (by decide +kernel)
set_option maxRecDepth 65536 in
theorem w_c9 : (Jvm.Cond.code ({ cls := "java/lang/Object", name := "<init>", desc := "()V" } : Jvm.MethodName) object_method_1_code (1 : Nat) (Option.none : Option Jvm.ClassFile.FieldType)).before args0 about1 = true := code_word (m := ⟨0, 0⟩) (meth := k0m0) (c := k0c0) (by decide +kernel) rfl rfl rfl (by decide +kernel)
set_option maxRecDepth 65536 in
theorem w_c10 : (Jvm.Cond.code ({ cls := "java/lang/StringUTF16", name := "compress", desc := "([CII)[B" } : Jvm.MethodName) jdk_52_method_16_code (6 : Nat) (Option.some (Jvm.ClassFile.FieldType.array Jvm.ClassFile.FieldType.byte))).before args0 about1 = true := code_word (m := ⟨10, 2⟩) (meth := k10m2) (c := k10c2) (by decide +kernel) rfl rfl rfl (by decide +kernel)
set_option maxRecDepth 65536 in
theorem w_c11 : (Jvm.Cond.code ({ cls := "java/lang/StringUTF16", name := "compress", desc := "([CI[BII)I" } : Jvm.MethodName) jdk_52_method_21_code (7 : Nat) (Option.some Jvm.ClassFile.FieldType.int)).before args0 about1 = true := code_word (m := ⟨10, 3⟩) (meth := k10m3) (c := k10c3) (by decide +kernel) rfl rfl rfl (by decide +kernel)
set_option maxRecDepth 65536 in
theorem w_c12 : (Jvm.Cond.code ({ cls := "java/lang/StringUTF16", name := "coderFromArrayLen", desc := "([BI)B" } : Jvm.MethodName) jdk_52_method_15_code (2 : Nat) (Option.some Jvm.ClassFile.FieldType.byte)).before args0 about1 = true := code_word (m := ⟨10, 1⟩) (meth := k10m1) (c := k10c1) (by decide +kernel) rfl rfl rfl (by decide +kernel)
set_option maxRecDepth 65536 in
theorem w_c13 : (Jvm.Cond.code ({ cls := "java/lang/String", name := "equals", desc := "(Ljava/lang/Object;)Z" } : Jvm.MethodName) jdk_42_method_66_code (3 : Nat) (Option.some Jvm.ClassFile.FieldType.boolean)).before args0 about1 = true := code_word (m := ⟨7, 3⟩) (meth := k7m3) (c := k7c3) (by decide +kernel) rfl rfl rfl (by decide +kernel)
set_option maxRecDepth 65536 in
theorem w_c14 : (Jvm.Cond.code ({ cls := "java/lang/StringLatin1", name := "equals", desc := "([B[B)Z" } : Jvm.MethodName) jdk_43_method_13_code (3 : Nat) (Option.some Jvm.ClassFile.FieldType.boolean)).before args0 about1 = true := code_word (m := ⟨8, 2⟩) (meth := k8m2) (c := k8c2) (by decide +kernel) rfl rfl rfl (by decide +kernel)
set_option maxRecDepth 65536 in
theorem w_c15 : (Jvm.Cond.code ({ cls := "com/example/samband/samband/identity/KeyPurpose", name := "of", desc := "(Ljava/lang/String;)Ljava/util/Optional;" } : Jvm.MethodName) prog_12_method_7_code (5 : Nat) (Option.some (Jvm.ClassFile.FieldType.object "java/util/Optional"))).before args0 about1 = true := code_word (m := ⟨12, 1⟩) (meth := k12m1) (c := k12c1) (by decide +kernel) rfl rfl rfl (by decide +kernel)
set_option maxRecDepth 65536 in
theorem w_c16 : (Jvm.Cond.code ({ cls := "com/example/samband/samband/identity/KeyPurpose", name := "values", desc := "()[Lcom/example/samband/samband/identity/KeyPurpose;" } : Jvm.MethodName) prog_12_method_1_code (0 : Nat) (Option.some (Jvm.ClassFile.FieldType.array (Jvm.ClassFile.FieldType.object "com/example/samband/samband/identity/KeyPurpose")))).before args0 about1 = true := code_word (m := ⟨12, 0⟩) (meth := k12m0) (c := k12c0) (by decide +kernel) rfl rfl rfl (by decide +kernel)
set_option maxRecDepth 65536 in
theorem w_c17 : (Jvm.Cond.code ({ cls := "java/util/Optional", name := "of", desc := "(Ljava/lang/Object;)Ljava/util/Optional;" } : Jvm.MethodName) jdk_32_method_3_code (1 : Nat) (Option.some (Jvm.ClassFile.FieldType.object "java/util/Optional"))).before args0 about1 = true := code_word (m := ⟨14, 2⟩) (meth := k14m2) (c := k14c2) (by decide +kernel) rfl rfl rfl (by decide +kernel)
set_option maxRecDepth 65536 in
theorem w_c18 : (Jvm.Cond.code ({ cls := "java/util/Objects", name := "requireNonNull", desc := "(Ljava/lang/Object;)Ljava/lang/Object;" } : Jvm.MethodName) jdk_31_method_10_code (1 : Nat) (Option.some (Jvm.ClassFile.FieldType.object "java/lang/Object"))).before args0 about1 = true := code_word (m := ⟨15, 1⟩) (meth := k15m1) (c := k15c1) (by decide +kernel) rfl rfl rfl (by decide +kernel)
set_option maxRecDepth 65536 in
theorem w_c19 : (Jvm.Cond.code ({ cls := "java/util/Optional", name := "<init>", desc := "(Ljava/lang/Object;)V" } : Jvm.MethodName) jdk_32_method_2_code (2 : Nat) (Option.none : Option Jvm.ClassFile.FieldType)).before args0 about1 = true := code_word (m := ⟨14, 1⟩) (meth := k14m1) (c := k14c1) (by decide +kernel) rfl rfl rfl (by decide +kernel)
set_option maxRecDepth 65536 in
theorem w_c20 : (Jvm.Cond.code ({ cls := "java/util/Optional", name := "orElse", desc := "(Ljava/lang/Object;)Ljava/lang/Object;" } : Jvm.MethodName) jdk_32_method_15_code (2 : Nat) (Option.some (Jvm.ClassFile.FieldType.object "java/lang/Object"))).before args0 about1 = true := code_word (m := ⟨14, 3⟩) (meth := k14m3) (c := k14c3) (by decide +kernel) rfl rfl rfl (by decide +kernel)
set_option maxRecDepth 65536 in
theorem w_c21 : (Jvm.Cond.code ({ cls := "java/util/Optional", name := "empty", desc := "()Ljava/util/Optional;" } : Jvm.MethodName) jdk_32_method_1_code (1 : Nat) (Option.some (Jvm.ClassFile.FieldType.object "java/util/Optional"))).before args0 about1 = true := code_word (m := ⟨14, 0⟩) (meth := k14m0) (c := k14c0) (by decide +kernel) rfl rfl rfl (by decide +kernel)
def codes1 : List Jvm.Cond := [Jvm.Cond.code x code maxLocals ret, Jvm.Cond.code ({ cls := "com/example/samband/samband/identity/KeyPurposeOfPinLaw", name := "ch", desc := "(IIJJZII)C" } : Jvm.MethodName) method_2_code (11 : Nat) (Option.some Jvm.ClassFile.FieldType.char), Jvm.Cond.code ({ cls := "java/lang/String", name := "charAt", desc := "(I)C" } : Jvm.MethodName) jdk_42_method_56_code (2 : Nat) (Option.some Jvm.ClassFile.FieldType.char), Jvm.Cond.code ({ cls := "java/lang/String", name := "isLatin1", desc := "()Z" } : Jvm.MethodName) jdk_42_method_154_code (1 : Nat) (Option.some Jvm.ClassFile.FieldType.boolean), Jvm.Cond.code ({ cls := "java/lang/StringLatin1", name := "charAt", desc := "([BI)C" } : Jvm.MethodName) jdk_43_method_2_code (2 : Nat) (Option.some Jvm.ClassFile.FieldType.char), Jvm.Cond.code ({ cls := "java/lang/String", name := "checkIndex", desc := "(II)V" } : Jvm.MethodName) jdk_42_method_155_code (2 : Nat) (Option.none : Option Jvm.ClassFile.FieldType), Jvm.Cond.code ({ cls := "jdk/internal/util/Preconditions", name := "checkIndex", desc := "(IILjava/util/function/BiFunction;)I" } : Jvm.MethodName) jdk_41_method_11_code (3 : Nat) (Option.some Jvm.ClassFile.FieldType.int), Jvm.Cond.code ({ cls := "java/lang/String", name := "<init>", desc := "([C)V" } : Jvm.MethodName) jdk_42_method_3_code (2 : Nat) (Option.none : Option Jvm.ClassFile.FieldType), Jvm.Cond.code ({ cls := "java/lang/String", name := "<init>", desc := "([CIILjava/lang/Void;)V" } : Jvm.MethodName) jdk_42_method_149_code (6 : Nat) (Option.none : Option Jvm.ClassFile.FieldType), Jvm.Cond.code ({ cls := "java/lang/Object", name := "<init>", desc := "()V" } : Jvm.MethodName) object_method_1_code (1 : Nat) (Option.none : Option Jvm.ClassFile.FieldType), Jvm.Cond.code ({ cls := "java/lang/StringUTF16", name := "compress", desc := "([CII)[B" } : Jvm.MethodName) jdk_52_method_16_code (6 : Nat) (Option.some (Jvm.ClassFile.FieldType.array Jvm.ClassFile.FieldType.byte)), Jvm.Cond.code ({ cls := "java/lang/StringUTF16", name := "compress", desc := "([CI[BII)I" } : Jvm.MethodName) jdk_52_method_21_code (7 : Nat) (Option.some Jvm.ClassFile.FieldType.int), Jvm.Cond.code ({ cls := "java/lang/StringUTF16", name := "coderFromArrayLen", desc := "([BI)B" } : Jvm.MethodName) jdk_52_method_15_code (2 : Nat) (Option.some Jvm.ClassFile.FieldType.byte), Jvm.Cond.code ({ cls := "java/lang/String", name := "equals", desc := "(Ljava/lang/Object;)Z" } : Jvm.MethodName) jdk_42_method_66_code (3 : Nat) (Option.some Jvm.ClassFile.FieldType.boolean), Jvm.Cond.code ({ cls := "java/lang/StringLatin1", name := "equals", desc := "([B[B)Z" } : Jvm.MethodName) jdk_43_method_13_code (3 : Nat) (Option.some Jvm.ClassFile.FieldType.boolean), Jvm.Cond.code ({ cls := "com/example/samband/samband/identity/KeyPurpose", name := "of", desc := "(Ljava/lang/String;)Ljava/util/Optional;" } : Jvm.MethodName) prog_12_method_7_code (5 : Nat) (Option.some (Jvm.ClassFile.FieldType.object "java/util/Optional")), Jvm.Cond.code ({ cls := "com/example/samband/samband/identity/KeyPurpose", name := "values", desc := "()[Lcom/example/samband/samband/identity/KeyPurpose;" } : Jvm.MethodName) prog_12_method_1_code (0 : Nat) (Option.some (Jvm.ClassFile.FieldType.array (Jvm.ClassFile.FieldType.object "com/example/samband/samband/identity/KeyPurpose"))), Jvm.Cond.code ({ cls := "java/util/Optional", name := "of", desc := "(Ljava/lang/Object;)Ljava/util/Optional;" } : Jvm.MethodName) jdk_32_method_3_code (1 : Nat) (Option.some (Jvm.ClassFile.FieldType.object "java/util/Optional")), Jvm.Cond.code ({ cls := "java/util/Objects", name := "requireNonNull", desc := "(Ljava/lang/Object;)Ljava/lang/Object;" } : Jvm.MethodName) jdk_31_method_10_code (1 : Nat) (Option.some (Jvm.ClassFile.FieldType.object "java/lang/Object")), Jvm.Cond.code ({ cls := "java/util/Optional", name := "<init>", desc := "(Ljava/lang/Object;)V" } : Jvm.MethodName) jdk_32_method_2_code (2 : Nat) (Option.none : Option Jvm.ClassFile.FieldType), Jvm.Cond.code ({ cls := "java/util/Optional", name := "orElse", desc := "(Ljava/lang/Object;)Ljava/lang/Object;" } : Jvm.MethodName) jdk_32_method_15_code (2 : Nat) (Option.some (Jvm.ClassFile.FieldType.object "java/lang/Object")), Jvm.Cond.code ({ cls := "java/util/Optional", name := "empty", desc := "()Ljava/util/Optional;" } : Jvm.MethodName) jdk_32_method_1_code (1 : Nat) (Option.some (Jvm.ClassFile.FieldType.object "java/util/Optional"))]
set_option maxRecDepth 65536 in
theorem codes_eq : words1.filter isCode = codes1 := rfl
theorem w_codes : ∀ c ∈ words1.filter isCode, c.before args0 about1 = true := by
  rw [codes_eq]
  intro c hc
  simp only [codes1, List.mem_cons, List.not_mem_nil, or_false] at hc
  rcases hc with rfl | rfl | rfl | rfl | rfl | rfl | rfl | rfl | rfl | rfl | rfl | rfl | rfl | rfl | rfl | rfl | rfl | rfl | rfl | rfl | rfl | rfl
  · exact w_c0
  · exact w_c1
  · exact w_c2
  · exact w_c3
  · exact w_c4
  · exact w_c5
  · exact w_c6
  · exact w_c7
  · exact w_c8
  · exact w_c9
  · exact w_c10
  · exact w_c11
  · exact w_c12
  · exact w_c13
  · exact w_c14
  · exact w_c15
  · exact w_c16
  · exact w_c17
  · exact w_c18
  · exact w_c19
  · exact w_c20
  · exact w_c21
set_option maxRecDepth 65536 in
theorem w_t1 : (words1.take 24).all (fun c => isCode c || c.before args0 about1) = true := by decide +kernel
set_option maxRecDepth 65536 in
theorem w_t2 : ((words1.drop 24).take 24).all (fun c => isCode c || c.before args0 about1) = true := by decide +kernel
set_option maxRecDepth 65536 in
theorem w_t3 : (((words1.drop 24).drop 24).take 24).all (fun c => isCode c || c.before args0 about1) = true := by decide +kernel
set_option maxRecDepth 65536 in
theorem w_t4 : ((((words1.drop 24).drop 24).drop 24).take 24).all (fun c => isCode c || c.before args0 about1) = true := by decide +kernel
set_option maxRecDepth 65536 in
theorem w_t5 : (((((words1.drop 24).drop 24).drop 24).drop 24).take 24).all (fun c => isCode c || c.before args0 about1) = true := by decide +kernel
set_option maxRecDepth 65536 in
theorem w_t6 : (((((words1.drop 24).drop 24).drop 24).drop 24).drop 24).all (fun c => isCode c || c.before args0 about1) = true := by decide +kernel
theorem w_tables : (allAtoms (Jvm.Cond.code x code maxLocals ret :: tables_1)).before args0 about1 = true := by
  rw [allAtoms_all]
  show words1.all (fun c => c.before args0 about1) = true
  refine all_split ?_ w_codes
  rw [← List.take_append_drop 24 words1, List.all_append, w_t1, ← List.take_append_drop 24 (words1.drop 24), List.all_append, w_t2, ← List.take_append_drop 24 ((words1.drop 24).drop 24), List.all_append, w_t3, ← List.take_append_drop 24 (((words1.drop 24).drop 24).drop 24), List.all_append, w_t4, ← List.take_append_drop 24 ((((words1.drop 24).drop 24).drop 24).drop 24), List.all_append, w_t5, w_t6]
  rfl
set_option maxRecDepth 65536 in
theorem w_rest : rest_1_c.before args0 about1 = true := by decide +kernel
set_option maxRecDepth 65536 in
theorem w_case : (Jvm.Cond.and given_1 narrow_1).before args0 about1 = true := by decide +kernel
set_option maxRecDepth 65536 in
theorem w_consts : constsHeld consts_1 about1 := Jvm.Lit.constsHeldB_iff.mp (by decide +kernel)
theorem w_applies : (headSpec (Jvm.Cond.code x code maxLocals ret :: tables_1) room_1).applies x e0.platform about1 = true :=
  (Spec.applies_iff w_frames).mpr ⟨w_running, w_runnable, w_alone, w_named, w_hears, w_ripe, w_room, w_tables⟩
theorem atStart : AtStart classFile x code maxLocals ret World_1 tables_1 room_1 Calls_1 rest_1 Pre_1 launch0 p0 e0 about1 theMethod args0 below0 :=
  ⟨lists_1, trivial, launch0.admits_env _ _ _, launch0.least_env, fairChoices_fair.cas, fairChoices_fair.clock, w_frames, w_args, w_heap, w_applies, ⟨w_consts, trivial⟩, w_rest, w_case⟩
end start1
theorem witness_1 : WitnessClaimed_1 := ⟨start1.p0, start1.e0, start1.about1, start1.theMethod, start1.args0, start1.below0, start1.atStart⟩
end Jvm.Pilot.@@N@@
