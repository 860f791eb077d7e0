import JvmDerived
import JvmDerived.Pilot.@@N@@Statement
import JvmDerived.Pilot.@@N@@Code
set_option linter.unusedVariables false
set_option linter.unusedSimpArgs false
namespace Jvm.Pilot.@@N@@
open Jvm Jvm.ClassFile Sem Op Lib Jvm.Free Jvm.Stand Jvm.LawKit Jvm.RoadKit Bundle Jvm.Pilot.@@N@@.Jvm.D
namespace Own
section Kit
variable {wd : Bool} {p : Program} {l : Launch} {e : Env} {R : Room} {s : State} {m : MethodId} {args : Array Value} {below : List Frame} {meth : Method} {c : Code} {own : String} {Z : State} {a0 : Array Value} {n0 : Nat} {h0 : Heap} {ws : List Addr} {vm : Vm} {T : State} {h : Heap} {cells slots : Nat}
/-- from A the run comes to B -/
def Go (p : Program) (e : Env) (below : List Frame) (A B : State) : Prop := ∀ t, Steps p.tables e below B t → Steps p.tables e below A t
theorem Go.refl (A : State) : Go p e below A A := fun _ k => k
theorem Go.trans {A B C : State} (x : Go p e below A B) (y : Go p e below B C) : Go p e below A C := fun t k => x t (y t k)
/-- the places in L lie in cells of ws, or in cells made since (at or above k) -/
def FrW (ws : List Addr) (k : Nat) (L : List Loc) : Prop := ∀ y ∈ L, y.base ∈ ws ∨ k ≤ y.base
theorem FrW.nil (ws : List Addr) (k : Nat) : FrW ws k [] := fun _ q => nomatch q
theorem FrW.app {ws : List Addr} {k : Nat} {L L' : List Loc} (N : FrW ws k L) (N' : FrW ws k L') : FrW ws k (L ++ L') := fun y q => (List.mem_append.mp q).elim (N y) (N' y)
theorem FrW.one {ws : List Addr} {k : Nat} {a : Addr} {sl : Nat} (q : a ∈ ws ∨ k ≤ a) : FrW ws k [⟨a, sl⟩] := fun y hy => by cases List.mem_singleton.mp hy; exact q
theorem FrW.fr {ws : List Addr} {k n : Nat} {L : List Loc} (N : FrW ws k L) (h1 : ∀ x ∈ ws, n ≤ x) (h2 : n ≤ k) : Fr n L := fun y hy => (N y hy).elim (h1 _) (Nat.le_trans h2)
/-- where a walk stands: wd = true: it may have interned. h0: the heap at the method's start; ws: the cells of h0 that it may have written; n0: the heap's size at the law's start; vm: the tables of the last step that may have interned -/
def Wk (wd : Bool) (p : Program) (l : Launch) (e : Env) (R : Room) (s : State) (m : MethodId) (args : Array Value) (below : List Frame) (meth : Method) (c : Code) (own : String) (Z : State) (n0 : Nat) (h0 : Heap) (ws : List Addr) (vm : Vm) (T : State) (h : Heap) (cells slots : Nat) : Prop :=
  T.heap = h ∧ p.tables.exec = Jvm.exec ∧ Old Z n0 h ∧ n0 ≤ h0.size ∧ (∀ x ∈ ws, n0 ≤ x) ∧ Keep h0 h ws ∧ s.heap = h0 ∧ Z.Warmed39 vm ∧ vm.findClass own = some m.cls ∧ (wd = false → vm = s.vm) ∧
  ∃ (locs : List Loc) (k : Nat), FrW ws h0.size locs ∧ Stand p l e R (s.setVm vm) m args below meth c T locs cells slots ∧ s.Since vm k ∧ k ≤ h.size
theorem Wk.stand (K : Wk wd p l e R s m args below meth c own Z n0 h0 ws vm T h cells slots) {P : Prop} (f : ∀ (locs : List Loc) (s' : State), Stand p l e R s' m args below meth c T locs cells slots → p.tables.exec = Jvm.exec → Z.Warmed39 s'.vm → s'.vm.findClass own = some m.cls → T.heap = h → P) : P := by
  obtain ⟨e1, hx, O, hn, hw, Kp, hs0, hZ, ho, hv, locs, k, F, X, S, hk⟩ := K
  exact f locs (s.setVm vm) X hx hZ ho e1
theorem Wk.here (K : Wk wd p l e R s m args below meth c own Z n0 h0 ws vm T h cells slots) : At T m c below := K.stand fun _ _ X _ _ _ _ => X.here
theorem Wk.exec (K : Wk wd p l e R s m args below meth c own Z n0 h0 ws vm T h cells slots) : p.tables.exec = Jvm.exec := K.2.1
theorem Wk.old (K : Wk wd p l e R s m args below meth c own Z n0 h0 ws vm T h cells slots) : Old Z n0 h := K.2.2.1
theorem Wk.ext (K : Wk wd p l e R s m args below meth c own Z n0 h0 ws vm T h cells slots) : Ext Z.heap h := K.2.2.1.2
theorem Wk.keep (K : Wk wd p l e R s m args below meth c own Z n0 h0 ws vm T h cells slots) : Keep h0 h ws := K.2.2.2.2.2.1
theorem Wk.fresh (K : Wk wd p l e R s m args below meth c own Z n0 h0 ws vm T h cells slots) {x : Addr} (q : x ∈ ws ∨ h0.size ≤ x) : n0 ≤ x := q.elim (K.2.2.2.2.1 x) (Nat.le_trans K.2.2.2.1)
theorem Wk.more (K : Wk wd p l e R s m args below meth c own Z n0 h0 ws vm T h cells slots) {cells' slots' : Nat} (hc : cells ≤ cells') (hs : slots ≤ slots') : Wk wd p l e R s m args below meth c own Z n0 h0 ws vm T h cells' slots' := by
  obtain ⟨e1, hx, O, hn, hw, Kp, hs0, hZ, ho, hv, locs, k, F, X, S, hk⟩ := K
  exact ⟨e1, hx, O, hn, hw, Kp, hs0, hZ, ho, hv, locs, k, F, X.more hc hs, S, hk⟩
theorem Wk.weaken (K : Wk wd p l e R s m args below meth c own Z n0 h0 [] vm T h cells slots) (ws' : List Addr) (q : ∀ x ∈ ws', n0 ≤ x) : Wk wd p l e R s m args below meth c own Z n0 h0 ws' vm T h cells slots := by
  obtain ⟨e1, hx, O, hn, hw, Kp, hs0, hZ, ho, hv, locs, k, F, X, S, hk⟩ := K
  exact ⟨e1, hx, O, hn, q, ⟨Kp.1, fun x c u _ => Kp.2.1 x c u nin0, Kp.2.2⟩, hs0, hZ, ho, hv, locs, k, fun y hy => (F y hy).elim (fun u => nomatch u) Or.inr, X, S, hk⟩
/-- a step that writes and makes nothing in the heap -/
theorem Wk.pure (K : Wk wd p l e R s m args below meth c own Z n0 h0 ws vm T h cells slots) {P : State → Prop}
    (f : ∀ (locs : List Loc) (s' : State), Stand p l e R s' m args below meth c T locs cells slots → p.tables.exec = Jvm.exec → Z.Warmed39 s'.vm → s'.vm.findClass own = some m.cls → T.heap = h → ∃ T', Stand p l e R s' m args below meth c T' locs cells slots ∧ T'.heap = h ∧ P T') :
    ∃ T', Wk wd p l e R s m args below meth c own Z n0 h0 ws vm T' h cells slots ∧ P T' := by
  obtain ⟨e1, hx, O, hn, hw, Kp, hs0, hZ, ho, hv, locs, k, F, X, S, hk⟩ := K
  obtain ⟨T', X', e', q⟩ := f locs (s.setVm vm) X hx hZ ho e1
  exact ⟨T', ⟨e', hx, O, hn, hw, Kp, hs0, hZ, ho, hv, locs, k, F, X', S, hk⟩, q⟩
/-- a step that makes a cell -/
theorem Wk.made (K : Wk wd p l e R s m args below meth c own Z n0 h0 ws vm T h cells slots) {cells' slots' : Nat} {P : State → Heap → Prop}
    (f : ∀ (locs : List Loc) (s' : State), Stand p l e R s' m args below meth c T locs cells slots → p.tables.exec = Jvm.exec → Z.Warmed39 s'.vm → s'.vm.findClass own = some m.cls → T.heap = h → ∃ T' h', Stand p l e R s' m args below meth c T' locs cells' slots' ∧ T'.heap = h' ∧ Ext h h' ∧ P T' h') :
    ∃ T' h', Wk wd p l e R s m args below meth c own Z n0 h0 ws vm T' h' cells' slots' ∧ Ext h h' ∧ h0.size ≤ h.size ∧ P T' h' := by
  obtain ⟨e1, hx, O, hn, hw, Kp, hs0, hZ, ho, hv, locs, k, F, X, S, hk⟩ := K
  obtain ⟨T', h', X', e', E, q⟩ := f locs (s.setVm vm) X hx hZ ho e1
  exact ⟨T', h', ⟨e', hx, O.ext E, hn, hw, Kp.ext E, hs0, hZ, ho, hv, locs, k, F, X', S, Nat.le_trans hk E.1⟩, E, Kp.1, q⟩
/-- a step that writes one place -/
theorem Wk.wrote (K : Wk wd p l e R s m args below meth c own Z n0 h0 ws vm T h cells slots) {a : Addr} {sl : Nat} {v : Value} (q : a ∈ ws ∨ h0.size ≤ a) {P : State → Heap → Prop}
    (f : ∀ (locs : List Loc) (s' : State), Stand p l e R s' m args below meth c T locs cells slots → p.tables.exec = Jvm.exec → Z.Warmed39 s'.vm → s'.vm.findClass own = some m.cls → T.heap = h → ∃ T' h', Stand p l e R s' m args below meth c T' (locs ++ [⟨a, sl⟩]) cells slots ∧ T'.heap = h' ∧ Wr h h' a sl v ∧ P T' h') :
    ∃ T' h', Wk wd p l e R s m args below meth c own Z n0 h0 ws vm T' h' cells slots ∧ Wr h h' a sl v ∧ P T' h' := by
  have g := K.fresh q
  obtain ⟨e1, hx, O, hn, hw, Kp, hs0, hZ, ho, hv, locs, k, F, X, S, hk⟩ := K
  obtain ⟨T', h', X', e', W, u⟩ := f locs (s.setVm vm) X hx hZ ho e1
  exact ⟨T', h', ⟨e', hx, O.wr W g, hn, hw, Kp.wr W q, hs0, hZ, ho, hv, _, k, F.app (FrW.one q), X', S, by rw [W.size]; exact hk⟩, W, u⟩
theorem Wk.getF (K : Wk wd p l e R s m args below meth c own Z n0 h0 ws vm T h cells slots) {R0 O n d : String} (host : String) {index : Nat} (w : (Cond.fieldLink own index R0 n d).before a0 Z = true ∨ (Cond.fieldLinkNest own index R0 n d host).before a0 Z = true) (via : Via Z R0 O n d) {a : Addr} {v : Value} (F : Fld Z h a O n d v)
    {pc : Nat} {Ls : Array Slot} {rest : List Value} (hd : decode c.code pc = .ok (.getfield index, 3)) :
    ∃ T', Wk wd p l e R s m args below meth c own Z n0 h0 ws vm T' h cells slots ∧ Go p e below (T.setTop (mkF m pc Ls (.ref a :: rest))) (T'.setTop (mkF m (pc + 3) Ls (v :: rest))) :=
  K.pure fun _ _ X hx hZ ho e1 => RoadKit.getF X hx hZ ho w via e1 F (g := mkF m pc Ls (.ref a :: rest)) rfl rfl hd
theorem Wk.getS (K : Wk wd p l e R s m args below meth c own Z n0 h0 ws vm T h cells slots) {R0 O n d : String} (host : String) {index : Nat} (w : (Cond.fieldLink own index R0 n d).before a0 Z = true ∨ (Cond.fieldLinkNest own index R0 n d host).before a0 Z = true) (via : Via Z R0 O n d) {v : Value} (F : Sta Z h O n d v)
    {pc : Nat} {Ls : Array Slot} {rest : List Value} (hd : decode c.code pc = .ok (.getstatic index, 3)) :
    ∃ T', Wk wd p l e R s m args below meth c own Z n0 h0 ws vm T' h cells slots ∧ Go p e below (T.setTop (mkF m pc Ls rest)) (T'.setTop (mkF m (pc + 3) Ls (v :: rest))) :=
  K.pure fun _ _ X hx hZ ho e1 => RoadKit.getS2 X hx hZ ho w via e1 F (g := mkF m pc Ls rest) rfl hd
theorem Wk.putF (K : Wk wd p l e R s m args below meth c own Z n0 h0 ws vm T h cells slots) {R0 O n d C : String} (host : String) {index kk : Nat} {ty : FieldType} (w : (Cond.fieldLink own index R0 n d).before a0 Z = true ∨ (Cond.fieldLinkNest own index R0 n d host).before a0 Z = true) (via : Via Z R0 O n d) {a : Addr} {v old : Value} (F : Fld Z h a O n d old) (E : Exa Z h a C)
    (L : (Cond.lays C O n d).before a0 Z = true ∨ ((Cond.laysFinal C O n d).before a0 Z = true ∧ own = O ∧ meth.name = "<init>")) (wi : (Cond.instantiable C kk).before a0 Z = true) (hty : parseFieldDescriptor d = some ty) (hn : narrow ty v = v) (hf : fits ty v = true) (q : a ∈ ws ∨ h0.size ≤ a)
    {pc : Nat} {Ls : Array Slot} {rest : List Value} (hd : decode c.code pc = .ok (.putfield index, 3)) :
    ∃ T' h', Wk wd p l e R s m args below meth c own Z n0 h0 ws vm T' h' cells slots ∧ Wr h h' a (RoadKit.slotOf Z O n d) v ∧ Go p e below (T.setTop (mkF m pc Ls (v :: .ref a :: rest))) (T'.setTop (mkF m (pc + 3) Ls rest)) :=
  K.wrote q fun _ _ X hx hZ ho e1 => RoadKit.putF X hx hZ ho w via e1 F E L wi hty hn hf (g := mkF m pc Ls (v :: .ref a :: rest)) rfl rfl hd
theorem Wk.initO (K : Wk wd p l e R s m args below meth c own Z n0 h0 ws vm T h cells slots) {idx : Nat} (w1 : (Cond.methodLink own idx Lib.objectInit).before a0 Z = true) (w2 : (Cond.instanceMethod Lib.objectInit).before a0 Z = true) (w3 : (Cond.code Lib.objectInit ⟨#[0xb1]⟩ 1 none).before a0 Z = true)
    {a : Addr} {pc : Nat} {Ls : Array Slot} {rest : List Value} (hsz : Ls.size = c.maxLocals) (hd : decode c.code pc = .ok (.invokespecial idx, 3)) (hf : 1 ≤ R.frames) {W : Nat} (hW : (rest.map fun v => v.category).sum ≤ W) (hl : W + 12 ≤ R.locals) :
    ∃ T', Wk wd p l e R s m args below meth c own Z n0 h0 ws vm T' h cells slots ∧ Go p e below (T.setTop (mkF m pc Ls (.ref a :: rest))) (T'.setTop (mkF m (pc + 3) Ls rest)) :=
  K.pure fun _ _ X hx hZ ho e1 => RoadKit.initO X hx hZ ho w1 w2 w3 e1 (g := mkF m pc Ls (.ref a :: rest)) rfl hsz rfl hd hf (W := W) (by show 2 * 0 + _ ≤ _; simpa using hW) hl
theorem Wk.castY (K : Wk wd p l e R s m args below meth c own Z n0 h0 ws vm T h cells slots) {C : String} {index : Nat} (w : (Cond.classLink own index C).before a0 Z = true) {a : Addr} (F : Ins Z h a C true) {pc : Nat} {Ls : Array Slot} {rest : List Value} (hd : decode c.code pc = .ok (.checkcast index, 3)) :
    ∃ T', Wk wd p l e R s m args below meth c own Z n0 h0 ws vm T' h cells slots ∧ Go p e below (T.setTop (mkF m pc Ls (.ref a :: rest))) (T'.setTop (mkF m (pc + 3) Ls (.ref a :: rest))) :=
  K.pure fun _ _ X hx hZ ho e1 => RoadKit.castY X hx hZ ho w e1 F (g := mkF m pc Ls (.ref a :: rest)) rfl rfl hd
theorem Wk.instY (K : Wk wd p l e R s m args below meth c own Z n0 h0 ws vm T h cells slots) {C : String} {index : Nat} (w : (Cond.classLink own index C).before a0 Z = true) {a : Addr} (F : Ins Z h a C true) {pc : Nat} {Ls : Array Slot} {rest : List Value} (hd : decode c.code pc = .ok (.instanceof index, 3)) :
    ∃ T', Wk wd p l e R s m args below meth c own Z n0 h0 ws vm T' h cells slots ∧ Go p e below (T.setTop (mkF m pc Ls (.ref a :: rest))) (T'.setTop (mkF m (pc + 3) Ls (.int 1 :: rest))) :=
  K.pure fun _ _ X hx hZ ho e1 => RoadKit.instY X hx hZ ho w e1 F (g := mkF m pc Ls (.ref a :: rest)) rfl rfl hd
theorem Wk.instNo (K : Wk wd p l e R s m args below meth c own Z n0 h0 ws vm T h cells slots) {C D : String} {index : Nat} (w : (Cond.classLink own index C).before a0 Z = true) {a : Addr} (E : Exa Z h a D) (F : ∃ c t, Z.vm.findClass D = some c ∧ Z.vm.findClass C = some t ∧ Z.vm.assignable c t = false) {pc : Nat} {Ls : Array Slot} {rest : List Value} (hd : decode c.code pc = .ok (.instanceof index, 3)) :
    ∃ T', Wk wd p l e R s m args below meth c own Z n0 h0 ws vm T' h cells slots ∧ Go p e below (T.setTop (mkF m pc Ls (.ref a :: rest))) (T'.setTop (mkF m (pc + 3) Ls (.int 0 :: rest))) :=
  K.pure fun _ _ X hx hZ ho e1 => RoadKit.instNo X hx hZ ho w e1 E F (g := mkF m pc Ls (.ref a :: rest)) rfl rfl hd
theorem Wk.instNull (K : Wk wd p l e R s m args below meth c own Z n0 h0 ws vm T h cells slots) {index : Nat} {pc : Nat} {Ls : Array Slot} {rest : List Value} (hd : decode c.code pc = .ok (.instanceof index, 3)) :
    Go p e below (T.setTop (mkF m pc Ls (.null :: rest))) (T.setTop (mkF m (pc + 3) Ls (.int 0 :: rest))) := by
  exact K.stand fun _ _ X hx _ _ _ => X.instanceofNull hx (g := mkF m pc Ls (.null :: rest)) rfl rfl hd
theorem Wk.newO (K : Wk wd p l e R s m args below meth c own Z n0 h0 ws vm T h cells slots) {C : String} {index n : Nat} (w : (Cond.classLink own index C).before a0 Z = true) (wi : (Cond.instantiable C n).before a0 Z = true) (wz : (Cond.initialized C).before a0 Z = true)
    {pc : Nat} {Ls : Array Slot} {rest : List Value} (hd : decode c.code pc = .ok (.new index, 3)) (hc : cells + 1 ≤ R.cells) (hl : slots + n ≤ R.slots) :
    ∃ T' h' a, Wk wd p l e R s m args below meth c own Z n0 h0 ws vm T' h' (cells + 1) (slots + n) ∧ Ext h h' ∧ h0.size ≤ a ∧ h.size ≤ a ∧ (∀ x, x < h.size → x ≠ a) ∧ Exa Z h' a C ∧
      (∀ {O nm d : String} {ty : FieldType}, Laid Z a0 C O nm d → parseFieldDescriptor d = some ty → Fld Z h' a O nm d (defaultValue ty)) ∧ Go p e below (T.setTop (mkF m pc Ls rest)) (T'.setTop (mkF m (pc + 3) Ls (.ref a :: rest))) := by
  obtain ⟨T', h', K', E, g, A, D, st⟩ := K.made (P := fun T' h' => Exa Z h' h.size C ∧ (∀ {O nm d : String} {ty : FieldType}, Laid Z a0 C O nm d → parseFieldDescriptor d = some ty → Fld Z h' h.size O nm d (defaultValue ty)) ∧ Go p e below (T.setTop (mkF m pc Ls rest)) (T'.setTop (mkF m (pc + 3) Ls (.ref h.size :: rest))))
    fun _ _ X hx hZ ho e1 => by
      obtain ⟨T', h', X', e', E, A, D, -, st⟩ := RoadKit.newO X hx hZ ho w wi wz e1 (g := mkF m pc Ls rest) rfl hd hc hl
      exact ⟨T', h', X', e', E, A, D, st⟩
  exact ⟨T', h', h.size, K', E, g, Nat.le_refl _, fun x q => Nat.ne_of_lt q, A, D, st⟩
theorem Wk.newP (K : Wk wd p l e R s m args below meth c own Z n0 h0 ws vm T h cells slots) {aty : ArrayType} (w : (Cond.arrayClass (newarray.typeOf aty)).before a0 Z = true) {n : Int32} {pc : Nat} {Ls : Array Slot} {rest : List Value} (hd : decode c.code pc = .ok (.newarray aty, 2)) (cap : Nat) (hn : ¬ n < 0) (hcap : n.toNatClampNeg ≤ cap) (hb : cap * 8 ≤ 536870912) (hc : cells + 1 ≤ R.cells) (hl : slots + cap ≤ R.slots) :
    ∃ T' h' a cA, Wk wd p l e R s m args below meth c own Z n0 h0 ws vm T' h' (cells + 1) (slots + cap) ∧ Ext h h' ∧ h0.size ≤ a ∧ h.size ≤ a ∧ (∀ x, x < h.size → x ≠ a) ∧ Arv Z h' a cA (newarray.typeOf aty) n [] (defaultValue (newarray.typeOf aty)) ∧ Go p e below (T.setTop (mkF m pc Ls (.int n :: rest))) (T'.setTop (mkF m (pc + 2) Ls (.ref a :: rest))) := by
  obtain ⟨T', h', K', E, g, cA, A, st⟩ := K.made (P := fun T' h' => ∃ cA, Arr Z h' h.size (newA cA (newarray.typeOf aty) n) (newarray.typeOf aty) ∧ Go p e below (T.setTop (mkF m pc Ls (.int n :: rest))) (T'.setTop (mkF m (pc + 2) Ls (.ref h.size :: rest))))
    fun _ _ X hx hZ ho e1 => by
      obtain ⟨T', h', cA, X', e', E, A, st⟩ := RoadKit.newP X hx hZ w e1 (g := mkF m pc Ls (.int n :: rest)) rfl hd rfl hn hcap hb hc hl
      exact ⟨T', h', X', e', E, cA, A, st⟩
  exact ⟨T', h', h.size, cA, K', E, g, Nat.le_refl _, fun x q => Nat.ne_of_lt q, Arv.new A hn, st⟩
theorem Wk.newR (K : Wk wd p l e R s m args below meth c own Z n0 h0 ws vm T h cells slots) {C : String} {index : Nat} (w1 : (Cond.classLink own index C).before a0 Z = true) (w2 : (Cond.arrayOver (.object C)).before a0 Z = true) {n : Int32} {pc : Nat} {Ls : Array Slot} {rest : List Value} (hd : decode c.code pc = .ok (.anewarray index, 3)) (cap : Nat) (hn : ¬ n < 0) (hcap : n.toNatClampNeg ≤ cap) (hb : cap * 8 ≤ 536870912) (hc : cells + 1 ≤ R.cells) (hl : slots + cap ≤ R.slots) {ad : String} (had : "[" ++ (FieldType.object C).toString = ad) :
    ∃ T' h' a cA, Wk wd p l e R s m args below meth c own Z n0 h0 ws vm T' h' (cells + 1) (slots + cap) ∧ Ext h h' ∧ h0.size ≤ a ∧ h.size ≤ a ∧ (∀ x, x < h.size → x ≠ a) ∧ Arv Z h' a cA (.object C) n [] .null ∧ Exa Z h' a ad ∧ Ovr Z cA C ∧ Go p e below (T.setTop (mkF m pc Ls (.int n :: rest))) (T'.setTop (mkF m (pc + 3) Ls (.ref a :: rest))) := by
  obtain ⟨T', h', K', E, g, cA, A, Ea, O, st⟩ := K.made (P := fun T' h' => ∃ cA, Arr Z h' h.size (newA cA (.object C) n) (.object C) ∧ Exa Z h' h.size ad ∧ Ovr Z cA C ∧ Go p e below (T.setTop (mkF m pc Ls (.int n :: rest))) (T'.setTop (mkF m (pc + 3) Ls (.ref h.size :: rest))))
    fun _ _ X hx hZ ho e1 => by
      obtain ⟨T', h', cA, X', e', E, A, Ea, O, st⟩ := RoadKit.newRE X hx hZ ho w1 w2 e1 (g := mkF m pc Ls (.int n :: rest)) rfl hd rfl hn hcap hb hc hl had
      exact ⟨T', h', X', e', E, cA, A, Ea, O, st⟩
  exact ⟨T', h', h.size, cA, K', E, g, Nat.le_refl _, fun x q => Nat.ne_of_lt q, Arv.new A hn, Ea, O, st⟩
theorem Wk.newRA (K : Wk wd p l e R s m args below meth c own Z n0 h0 ws vm T h cells slots) {C : String} {ty : FieldType} {index : Nat} (hC : (FieldType.array ty).toString = C) (w1 : (Cond.classLink own index C).before a0 Z = true) (w2 : (Cond.arrayOver (.array ty)).before a0 Z = true) {n : Int32} {pc : Nat} {Ls : Array Slot} {rest : List Value} (hd : decode c.code pc = .ok (.anewarray index, 3)) (cap : Nat) (hn : ¬ n < 0) (hcap : n.toNatClampNeg ≤ cap) (hb : cap * 8 ≤ 536870912) (hc : cells + 1 ≤ R.cells) (hl : slots + cap ≤ R.slots) {ad : String} (had : "[" ++ C = ad) :
    ∃ T' h' a cA, Wk wd p l e R s m args below meth c own Z n0 h0 ws vm T' h' (cells + 1) (slots + cap) ∧ Ext h h' ∧ h0.size ≤ a ∧ h.size ≤ a ∧ (∀ x, x < h.size → x ≠ a) ∧ Arv Z h' a cA (.array ty) n [] .null ∧ Exa Z h' a ad ∧ OvrA Z cA ty C ∧ Go p e below (T.setTop (mkF m pc Ls (.int n :: rest))) (T'.setTop (mkF m (pc + 3) Ls (.ref a :: rest))) := by
  obtain ⟨T', h', K', E, g, cA, A, Ea, O, st⟩ := K.made (P := fun T' h' => ∃ cA, Arr Z h' h.size (newA cA (.array ty) n) (.array ty) ∧ Exa Z h' h.size ad ∧ OvrA Z cA ty C ∧ Go p e below (T.setTop (mkF m pc Ls (.int n :: rest))) (T'.setTop (mkF m (pc + 3) Ls (.ref h.size :: rest))))
    fun _ _ X hx hZ ho e1 => by
      obtain ⟨T', h', cA, X', e', E, A, Ea, O, st⟩ := RoadKit.newRA X hx hZ ho hC w1 w2 e1 (g := mkF m pc Ls (.int n :: rest)) rfl hd rfl hn hcap hb hc hl had
      exact ⟨T', h', X', e', E, cA, A, Ea, O, st⟩
  exact ⟨T', h', h.size, cA, K', E, g, Nat.le_refl _, fun x q => Nat.ne_of_lt q, Arv.new A hn, Ea, O, st⟩
/-- stores into an array whose components are all known -/
theorem Wk.stC (K : Wk wd p l e R s m args below meth c own Z n0 h0 ws vm T h cells slots) {a : Addr} {cA : ClassId} {z : Int32} {vs : List Value} {dv : Value} (F : Arv Z h a cA .char z vs dv) {j x : Int32} (hj : ¬ j < 0 ∧ j < z) (i : Nat) (hi : j.toNatClampNeg = i) (hl : i < vs.length) (q : a ∈ ws ∨ h0.size ≤ a) {pc : Nat} {Ls : Array Slot} {rest : List Value} (hd : decode c.code pc = .ok (.castore, 1)) :
    ∃ T' h', Wk wd p l e R s m args below meth c own Z n0 h0 ws vm T' h' cells slots ∧ Wr h h' a j.toNatClampNeg (.int (nar .char x)) ∧ Arv Z h' a cA .char z (vs.set i (.int (nar .char x))) dv ∧ Go p e below (T.setTop (mkF m pc Ls (.int x :: .int j :: .ref a :: rest))) (T'.setTop (mkF m (pc + 1) Ls rest)) := by
  obtain ⟨cl, A, q1, S, q3, H, G⟩ := F
  obtain ⟨T', h', K', W, st⟩ := K.wrote q (P := fun T' h' => Go p e below (T.setTop (mkF m pc Ls (.int x :: .int j :: .ref a :: rest))) (T'.setTop (mkF m (pc + 1) Ls rest))) fun _ _ X hx hZ ho e1 => RoadKit.stC X hx hZ e1 A (inb_of S hj) (g := mkF m pc Ls (.int x :: .int j :: .ref a :: rest)) rfl rfl hd
  exact ⟨T', h', K', W, Arv.set A q1 S q3 H G (fits_nar_char x) W i hi hl, st⟩
theorem Wk.stB (K : Wk wd p l e R s m args below meth c own Z n0 h0 ws vm T h cells slots) {a : Addr} {cA : ClassId} {z : Int32} {vs : List Value} {dv : Value} (F : Arv Z h a cA .byte z vs dv) {j x : Int32} (hj : ¬ j < 0 ∧ j < z) (i : Nat) (hi : j.toNatClampNeg = i) (hl : i < vs.length) (q : a ∈ ws ∨ h0.size ≤ a) {pc : Nat} {Ls : Array Slot} {rest : List Value} (hd : decode c.code pc = .ok (.bastore, 1)) :
    ∃ T' h', Wk wd p l e R s m args below meth c own Z n0 h0 ws vm T' h' cells slots ∧ Wr h h' a j.toNatClampNeg (.int (nar .byte x)) ∧ Arv Z h' a cA .byte z (vs.set i (.int (nar .byte x))) dv ∧ Go p e below (T.setTop (mkF m pc Ls (.int x :: .int j :: .ref a :: rest))) (T'.setTop (mkF m (pc + 1) Ls rest)) := by
  obtain ⟨cl, A, q1, S, q3, H, G⟩ := F
  obtain ⟨T', h', K', W, st⟩ := K.wrote q (P := fun T' h' => Go p e below (T.setTop (mkF m pc Ls (.int x :: .int j :: .ref a :: rest))) (T'.setTop (mkF m (pc + 1) Ls rest))) fun _ _ X hx hZ ho e1 => RoadKit.stB X hx hZ e1 A (inb_of S hj) (g := mkF m pc Ls (.int x :: .int j :: .ref a :: rest)) rfl rfl hd
  exact ⟨T', h', K', W, Arv.set A q1 S q3 H G (fits_nar_byte x) W i hi hl, st⟩
theorem Wk.stI (K : Wk wd p l e R s m args below meth c own Z n0 h0 ws vm T h cells slots) {a : Addr} {cA : ClassId} {z : Int32} {vs : List Value} {dv : Value} (F : Arv Z h a cA .int z vs dv) {j x : Int32} (hj : ¬ j < 0 ∧ j < z) (i : Nat) (hi : j.toNatClampNeg = i) (hl : i < vs.length) (q : a ∈ ws ∨ h0.size ≤ a) {pc : Nat} {Ls : Array Slot} {rest : List Value} (hd : decode c.code pc = .ok (.iastore, 1)) :
    ∃ T' h', Wk wd p l e R s m args below meth c own Z n0 h0 ws vm T' h' cells slots ∧ Wr h h' a j.toNatClampNeg (.int x) ∧ Arv Z h' a cA .int z (vs.set i (.int x)) dv ∧ Go p e below (T.setTop (mkF m pc Ls (.int x :: .int j :: .ref a :: rest))) (T'.setTop (mkF m (pc + 1) Ls rest)) := by
  obtain ⟨cl, A, q1, S, q3, H, G⟩ := F
  obtain ⟨T', h', K', W, st⟩ := K.wrote q (P := fun T' h' => Go p e below (T.setTop (mkF m pc Ls (.int x :: .int j :: .ref a :: rest))) (T'.setTop (mkF m (pc + 1) Ls rest))) fun _ _ X hx hZ ho e1 => RoadKit.stI X hx hZ e1 A (inb_of S hj) (g := mkF m pc Ls (.int x :: .int j :: .ref a :: rest)) rfl rfl hd
  exact ⟨T', h', K', W, Arv.set A q1 S q3 H G rfl W i hi hl, st⟩
theorem Wk.stR (K : Wk wd p l e R s m args below meth c own Z n0 h0 ws vm T h cells slots) {a : Addr} {cA : ClassId} {ty : FieldType} {z : Int32} {vs : List Value} {dv : Value} (F : Arv Z h a cA ty z vs dv) (hty : ty.isReference = true) {j : Int32} {v : Value} (hv : fits ty v = true) (Sv : Sto Z h a v) (hj : ¬ j < 0 ∧ j < z) (i : Nat) (hi : j.toNatClampNeg = i) (hl : i < vs.length) (q : a ∈ ws ∨ h0.size ≤ a) {pc : Nat} {Ls : Array Slot} {rest : List Value} (hd : decode c.code pc = .ok (.aastore, 1)) :
    ∃ T' h', Wk wd p l e R s m args below meth c own Z n0 h0 ws vm T' h' cells slots ∧ Wr h h' a j.toNatClampNeg v ∧ Arv Z h' a cA ty z (vs.set i v) dv ∧ Go p e below (T.setTop (mkF m pc Ls (v :: .int j :: .ref a :: rest))) (T'.setTop (mkF m (pc + 1) Ls rest)) := by
  obtain ⟨cl, A, q1, S, q3, H, G⟩ := F
  obtain ⟨T', h', K', W, st⟩ := K.wrote q (P := fun T' h' => Go p e below (T.setTop (mkF m pc Ls (v :: .int j :: .ref a :: rest))) (T'.setTop (mkF m (pc + 1) Ls rest))) fun _ _ X hx hZ ho e1 => RoadKit.stR X hx hZ e1 A (inb_of S hj) hty Sv (g := mkF m pc Ls (v :: .int j :: .ref a :: rest)) rfl rfl hd
  exact ⟨T', h', K', W, Arv.set A q1 S q3 H G hv W i hi hl, st⟩
theorem Wk.len (K : Wk wd p l e R s m args below meth c own Z n0 h0 ws vm T h cells slots) {a : Addr} {cA : ClassId} {ty : FieldType} {z : Int32} {vs : List Value} {dv : Value} (F : Arv Z h a cA ty z vs dv) {pc : Nat} {Ls : Array Slot} {rest : List Value} (hd : decode c.code pc = .ok (.arraylength, 1)) :
    Go p e below (T.setTop (mkF m pc Ls (.ref a :: rest))) (T.setTop (mkF m (pc + 1) Ls (.int z :: rest))) := by
  obtain ⟨cl, A, q1, S, q3, H, G⟩ := F
  exact K.stand fun _ _ X hx hZ ho e1 t k => X.arraylength hx (by rw [e1]; exact A.1) (State.isArrayOf_alike hZ.alike A.2.1) (g := mkF m pc Ls (.ref a :: rest)) rfl rfl hd t (by rw [len_of S q3]; exact k)
theorem Wk.ldC (K : Wk wd p l e R s m args below meth c own Z n0 h0 ws vm T h cells slots) {a : Addr} {cA : ClassId} {z : Int32} {vs : List Value} {dv v : Value} (F : Arv Z h a cA .char z vs dv) {j : Int32} (hj : ¬ j < 0 ∧ j < z) (hv : vs.getD j.toNatClampNeg dv = v) {pc : Nat} {Ls : Array Slot} {rest : List Value} (hd : decode c.code pc = .ok (.caload, 1)) :
    Go p e below (T.setTop (mkF m pc Ls (.int j :: .ref a :: rest))) (T.setTop (mkF m (pc + 1) Ls (v :: rest))) := by
  obtain ⟨cl, A, q1, S, q3, H, G⟩ := F
  exact K.stand fun _ _ X hx hZ ho e1 t k => X.caload hx (by rw [e1]; exact A.1) (State.isArrayOf_alike hZ.alike A.2.1) A.2.2 (inb_of S hj) (Has.at H (inb_of S hj) hv) (g := mkF m pc Ls (.int j :: .ref a :: rest)) rfl rfl hd t k
theorem Wk.ldB (K : Wk wd p l e R s m args below meth c own Z n0 h0 ws vm T h cells slots) {a : Addr} {cA : ClassId} {z : Int32} {vs : List Value} {dv v : Value} (F : Arv Z h a cA .byte z vs dv) {j : Int32} (hj : ¬ j < 0 ∧ j < z) (hv : vs.getD j.toNatClampNeg dv = v) {pc : Nat} {Ls : Array Slot} {rest : List Value} (hd : decode c.code pc = .ok (.baload, 1)) :
    Go p e below (T.setTop (mkF m pc Ls (.int j :: .ref a :: rest))) (T.setTop (mkF m (pc + 1) Ls (v :: rest))) := by
  obtain ⟨cl, A, q1, S, q3, H, G⟩ := F
  exact K.stand fun _ _ X hx hZ ho e1 t k => X.baloadBytes hx (by rw [e1]; exact A.1) (State.isArrayOf_alike hZ.alike A.2.1) A.2.2 (inb_of S hj) (Has.at H (inb_of S hj) hv) (g := mkF m pc Ls (.int j :: .ref a :: rest)) rfl rfl hd t k
theorem Wk.ldI (K : Wk wd p l e R s m args below meth c own Z n0 h0 ws vm T h cells slots) {a : Addr} {cA : ClassId} {z : Int32} {vs : List Value} {dv v : Value} (F : Arv Z h a cA .int z vs dv) {j : Int32} (hj : ¬ j < 0 ∧ j < z) (hv : vs.getD j.toNatClampNeg dv = v) {pc : Nat} {Ls : Array Slot} {rest : List Value} (hd : decode c.code pc = .ok (.iaload, 1)) :
    Go p e below (T.setTop (mkF m pc Ls (.int j :: .ref a :: rest))) (T.setTop (mkF m (pc + 1) Ls (v :: rest))) := by
  obtain ⟨cl, A, q1, S, q3, H, G⟩ := F
  exact K.stand fun _ _ X hx hZ ho e1 t k => X.iaload hx (by rw [e1]; exact A.1) (State.isArrayOf_alike hZ.alike A.2.1) A.2.2 (inb_of S hj) (Has.at H (inb_of S hj) hv) (g := mkF m pc Ls (.int j :: .ref a :: rest)) rfl rfl hd t k
theorem Wk.ldR (K : Wk wd p l e R s m args below meth c own Z n0 h0 ws vm T h cells slots) {a : Addr} {cA : ClassId} {ty : FieldType} {z : Int32} {vs : List Value} {dv v : Value} (F : Arv Z h a cA ty z vs dv) (hty : ty.isReference = true) {j : Int32} (hj : ¬ j < 0 ∧ j < z) (hv : vs.getD j.toNatClampNeg dv = v) {pc : Nat} {Ls : Array Slot} {rest : List Value} (hd : decode c.code pc = .ok (.aaload, 1)) :
    Go p e below (T.setTop (mkF m pc Ls (.int j :: .ref a :: rest))) (T.setTop (mkF m (pc + 1) Ls (v :: rest))) := by
  obtain ⟨cl, A, q1, S, q3, H, G⟩ := F
  exact K.stand fun _ _ X hx hZ ho e1 t k => X.aaload hx (by rw [e1]; exact A.1) (State.isArrayOf_alike hZ.alike A.2.1) hty A.2.2 (inb_of S hj) (Has.at H (inb_of S hj) hv) (g := mkF m pc Ls (.int j :: .ref a :: rest)) rfl rfl hd t k
theorem Wk.ldcI (K : Wk wd p l e R s m args below meth c own Z n0 h0 ws vm T h cells slots) {index : Nat} {v : Int32} (w : (Cond.constant own index v).before a0 Z = true) {pc : Nat} {Ls : Array Slot} {rest : List Value} (hd : decode c.code pc = .ok (.ldc index, 2)) :
    Go p e below (T.setTop (mkF m pc Ls rest)) (T.setTop (mkF m (pc + 2) Ls (.int v :: rest))) :=
  K.stand fun _ _ X hx hZ ho e1 t k => X.ldcI hx ho (mvT hZ w) (g := mkF m pc Ls rest) rfl hd k
/-- what is said of the tables stays true of warmer ones -/
def VCl (V : Vm → Prop) : Prop := ∀ (s : State) (vm' : Vm), V s.vm → s.WarmedH vm' → V vm'
def VT : Vm → Prop := fun _ => True
theorem VT.cl : VCl VT := fun _ _ _ _ => trivial
/-- what pays a call: of either width; V: what must be known of the tables -/
def Pay (wd : Bool) (l : Launch) (R : Room) (p : Program) (e : Env) (below : List Frame) (args : Array Value) (y : MethodName) (len W : Nat) (Z : State) (h : Heap) (V : Vm → Prop) (as' : Array Value) (kc ks : Nat) (ws' : List Addr) (Q : Option Value → Heap → Vm → Prop) : Prop :=
  ∀ s' : State, Z.Warmed39 s'.vm → V s'.vm → (match wd with
    | false => Back l R p e below s' args y len W (fun A a => a = as' ∧ A.U.heap = h ∧ A.cells + kc ≤ R.cells ∧ A.slots + ks ≤ R.slots) (fun A _ v B => ∃ L, (Q v B.U.heap B.U.vm ∧ Keep h B.U.heap ws' ∧ FrW ws' h.size L) ∧ B.locs = A.locs ++ L ∧ B.cells = A.cells + kc ∧ B.slots = A.slots + ks)
    | true => BackS l R p e below s' args y len W (fun A a => a = as' ∧ A.U.heap = h ∧ A.cells + kc ≤ R.cells ∧ A.slots + ks ≤ R.slots) (fun A _ v B => ∃ L, (Q v B.U.heap B.U.vm ∧ Keep h B.U.heap ws' ∧ FrW ws' h.size L) ∧ B.locs = A.locs ++ L ∧ B.cells = A.cells + kc ∧ B.slots = A.slots + ks))
theorem Pay.ofBack {y : MethodName} {len W : Nat} {as' : Array Value} {kc ks : Nat} {ws' : List Addr} {V : Vm → Prop} {Q : Option Value → Heap → Vm → Prop} {Q0 : Option Value → Heap → List Loc → Prop}
    (f : ∀ s' : State, Z.Warmed39 s'.vm → Back l R p e below s' args y len W (fun A a => a = as' ∧ A.U.heap = h ∧ A.cells + kc ≤ R.cells ∧ A.slots + ks ≤ R.slots) (fun A _ v B => ∃ L, Q0 v B.U.heap L ∧ B.locs = A.locs ++ L ∧ B.cells = A.cells + kc ∧ B.slots = A.slots + ks))
    (hV : VCl V) (g : ∀ v h' vm' L, Q0 v h' L → V vm' → Q v h' vm' ∧ Keep h h' ws' ∧ FrW ws' h.size L) : Pay wd l R p e below args y len W Z h V as' kc ks ws' Q := by
  intro s' hZ hv
  have b : Back l R p e below s' args y len W (fun A a => a = as' ∧ A.U.heap = h ∧ A.cells + kc ≤ R.cells ∧ A.slots + ks ≤ R.slots) (fun A _ v B => A.U.heap = h ∧ ∃ L, (Q v B.U.heap B.U.vm ∧ Keep h B.U.heap ws' ∧ FrW ws' h.size L) ∧ B.locs = A.locs ++ L ∧ B.cells = A.cells + kc ∧ B.slots = A.slots + ks) := by
    intro m meth c A gg ig mk a X hg hsize hdg hW hn hp
    obtain ⟨v, B, X', ⟨L, q, r⟩, hst⟩ := f s' hZ m meth c A gg ig mk a X hg hsize hdg hW hn hp
    exact ⟨v, B, X', ⟨hp.2.1, L, g _ _ _ _ q (hV _ _ hv X'.warmed), r⟩, hst⟩
  cases wd
  · exact Back.mono b (fun A a hp => hp) (fun A a v B hp q => q.2)
  · have b' := BackS.of_back b (fun A a v B ⟨q, L, ⟨_, k, _⟩, _⟩ => by rw [q]; exact k.1)
    intro m meth c A gg ig mk a X hg hsize hdg hW hn hp
    obtain ⟨v, B, X', hS, hgr, hpost, hst⟩ := b' m meth c A gg ig mk a X hg hsize hdg hW hn hp
    exact ⟨v, B, X', hS, hgr, hpost.2, hst⟩
/-- a method's contract -/
def Ctr (wd : Bool) (l : Launch) (y : MethodName) (bytes : ByteArray) (maxL : Nat) (ret : Option FieldType) (rm : Room) (as' : Array Value) (Z : State) (h0 : Heap) (V : Vm → Prop) (ws : List Addr) (Q : Option Value → Heap → Vm → Prop) : Prop :=
  ∀ wds : List Jvm.Cond, MetFree l y (head1 (Cond.code y bytes maxL ret :: wds) rm) (fun a U => a = as' ∧ Z.Warmed39 U.vm ∧ U.heap = h0 ∧ V U.vm) (fun _ _ _ _ _ => True)
    (fun _ U o U' => ∃ v L, o = .returned v ∧ (Q v U'.heap U'.vm ∧ Keep h0 U'.heap ws ∧ FrW ws h0.size L) ∧ (match wd with | false => FrameEnd U o U' L rm.cells rm.slots | true => ReturnedEndW U o U' L rm.cells rm.slots))
theorem Ctr.pay {y : MethodName} {bytes : ByteArray} {maxL : Nat} {ret : Option FieldType} {rm : Room} {as' : Array Value} {ws' : List Addr} {V : Vm → Prop} {Q : Option Value → Heap → Vm → Prop} {len W : Nat} (H : Ctr wd l y bytes maxL ret rm as' Z h V ws' Q) (hV : VCl V)
    (wc : (Cond.code y bytes maxL ret).before a0 Z = true) (wz : (Cond.initialized y.cls).before a0 Z = true) (hf : rm.frames + 1 ≤ R.frames) (hl : W + (maxL + 11) + rm.locals ≤ R.locals) :
    Pay wd l R p e below args y len W Z h V as' rm.cells rm.slots ws' Q := by
  intro s' hZ hv
  have wa : ∀ (m : MethodId) (meth : Method) (c : Code) (A : Pt) (a : Array Value), Stand p l e R s' m args below meth c A.U A.locs A.cells A.slots → (a = as' ∧ A.U.heap = h ∧ A.cells + rm.cells ≤ R.cells ∧ A.slots + rm.slots ≤ R.slots) →
      (head1 [Cond.code y bytes maxL ret] rm).pre.before a A.U = true ∧ (Cond.code y bytes maxL ret).before a A.U = true ∧ (Cond.initialized y.cls).before a A.U = true ∧ A.cells + rm.cells ≤ R.cells ∧ A.slots + rm.slots ≤ R.slots := fun m meth c A a Y hp => by
    have hU : Z.Warmed39 A.U.vm := wtrans hZ Y.warmed
    exact ⟨by show (Cond.and _ .tt).before a A.U = true; rw [Cond.before_and, mv hU wc]; rfl, mv hU wc, mv hU wz, hp.2.2.1, hp.2.2.2⟩
  cases wd
  · exact Back.of_free (bytes := bytes) (maxL := maxL) (ret := ret) (E := fun _ _ o t L k n => k = rm.cells ∧ n = rm.slots ∧ ∃ v, o = .returned v ∧ (Q v t.heap t.vm ∧ Keep h t.heap ws' ∧ FrW ws' h.size L)) (H []) hf hl wa
      (fun m meth c A a g mk Y hp => ⟨hp.1, wtrans hZ Y.warmed, hp.2.1, hV _ _ hv Y.warmed⟩) (fun _ _ _ _ _ _ _ _ _ => trivial)
      (fun _ _ _ _ ⟨v, L, h1, h2, h3⟩ => ⟨L, _, _, h3, rfl, rfl, v, h1, h2⟩)
      (fun m meth c A a g mk v t L k n Y hp _ _ ⟨e1, e2, v', e3, e4⟩ => by cases e3; subst e1 e2; exact ⟨L, e4, rfl, rfl, rfl⟩)
  · exact BackS.of_freeW (bytes := bytes) (maxL := maxL) (ret := ret) (E := fun _ _ o t L k n => k = rm.cells ∧ n = rm.slots ∧ ∃ v, o = .returned v ∧ (Q v t.heap t.vm ∧ Keep h t.heap ws' ∧ FrW ws' h.size L)) (H []) hf hl wa
      (fun m meth c A a g mk Y hp => ⟨hp.1, wtrans hZ Y.warmed, hp.2.1, hV _ _ hv Y.warmed⟩) (fun _ _ _ _ _ _ _ _ _ => trivial)
      (fun _ _ _ _ ⟨v, L, h1, h2, h3⟩ => ⟨L, _, _, h3, rfl, rfl, v, h1, h2⟩)
      (fun m meth c A a g mk v t L k n Y hp _ _ ⟨e1, e2, v', e3, e4⟩ => by cases e3; subst e1 e2; exact ⟨L, e4, rfl, rfl, rfl⟩)
/-- a contract of a method that interns nothing pays in either width, and what is known of the tables stays -/
theorem Ctr.payW {wd' : Bool} {y : MethodName} {bytes : ByteArray} {maxL : Nat} {ret : Option FieldType} {rm : Room} {as' : Array Value} {ws' : List Addr} {V : Vm → Prop} {Q' : Option Value → Heap → Prop} {len W : Nat} (H : Ctr false l y bytes maxL ret rm as' Z h VT ws' (fun v h _ => Q' v h)) (hV : VCl V)
    (wc : (Cond.code y bytes maxL ret).before a0 Z = true) (wz : (Cond.initialized y.cls).before a0 Z = true) (hf : rm.frames + 1 ≤ R.frames) (hl : W + (maxL + 11) + rm.locals ≤ R.locals) :
    Pay wd' l R p e below args y len W Z h V as' rm.cells rm.slots ws' (fun v h vm => Q' v h ∧ V vm) :=
  Pay.ofBack (Q0 := fun v h' L => Q' v h' ∧ Keep h h' ws' ∧ FrW ws' h.size L) (fun s' hZ => Ctr.pay (wd := false) (V := VT) H VT.cl wc wz hf hl s' hZ trivial) hV (fun v h' vm' L q hv => ⟨⟨q.1, hv⟩, q.2⟩)
theorem Wk.behind (K : Wk wd p l e R s m args below meth c own Z n0 h0 ws vm T h cells slots) {kc ks : Nat} {ws' : List Addr} (q : ∀ x ∈ ws', x ∈ ws ∨ h0.size ≤ x) {P : State → Heap → Vm → Prop}
    (fN : wd = false → ∀ (locs : List Loc) (s' : State), s'.vm = vm → Stand p l e R s' m args below meth c T locs cells slots → Z.Warmed39 s'.vm → s'.vm.findClass own = some m.cls → ∃ T' L, Stand p l e R s' m args below meth c T' (locs ++ L) (cells + kc) (slots + ks) ∧ FrW ws' h.size L ∧ Keep h T'.heap ws' ∧ P T' T'.heap T'.vm)
    (fW : wd = true → ∀ (locs : List Loc) (s' : State), s'.vm = vm → Stand p l e R s' m args below meth c T locs cells slots → Z.Warmed39 s'.vm → s'.vm.findClass own = some m.cls → ∃ T' L, Stand p l e R (s'.setVm T'.vm) m args below meth c T' (locs ++ L) (cells + kc) (slots + ks) ∧ s'.Since T'.vm T'.heap.size ∧ T.heap.size ≤ T'.heap.size ∧ FrW ws' h.size L ∧ Keep h T'.heap ws' ∧ P T' T'.heap T'.vm) :
    ∃ vm' vq T' h', Wk wd p l e R s m args below meth c own Z n0 h0 ws vm' T' h' (cells + kc) (slots + ks) ∧ Keep h h' ws' ∧ (wd = true → vq = vm' ∧ (s.setVm vm).Warmed39 vm') ∧ P T' h' vq := by
  have fr := fun x hx => K.fresh (q x hx)
  obtain ⟨e1, hx, O, hn, hw, Kp, hs0, hZ, ho, hv, locs, k, F, X, S, hk⟩ := K
  have fw : ∀ L, FrW ws' h.size L → FrW ws h0.size L := fun L N y hy => (N y hy).elim (q _) fun u => Or.inr (Nat.le_trans Kp.1 u)
  cases wd
  · obtain ⟨T', L, X', FL, KK, u⟩ := fN rfl locs (s.setVm vm) rfl X hZ ho
    exact ⟨vm, T'.vm, T', _, ⟨rfl, hx, O.keep KK fr, hn, hw, Kp.trans KK q, hs0, hZ, ho, hv, _, k, F.app (fw _ FL), X', S, Nat.le_trans hk KK.1⟩, KK, (fun e => by cases e), u⟩
  · obtain ⟨T', L, X', S', gr, FL, KK, u⟩ := fW rfl locs (s.setVm vm) rfl X hZ ho
    refine ⟨T'.vm, T'.vm, T', _, ⟨rfl, hx, O.keep KK fr, hn, hw, Kp.trans KK q, hs0, State.Warmed39.trans (t := s.setVm vm) hZ S'.1, (S'.1.alike.findClass _ _).trans ho, (fun e => by cases e), _, _, F.app (fw _ FL), X', S.trans S' (Nat.le_trans hk ?_), Nat.le_refl _⟩, KK, fun _ => ⟨rfl, S'.1⟩, u⟩
    rw [← e1]; exact gr
theorem Wk.callS (K : Wk wd p l e R s m args below meth c own Z n0 h0 ws vm T h cells slots) {index : Nat} {y : MethodName} {bytes : ByteArray} {maxL : Nat} {ret : Option FieldType} (w1 : (Cond.methodLink own index y).before a0 Z = true) (w2 : (Cond.static y).before a0 Z = true) (w3 : (Cond.initialized y.cls).before a0 Z = true) (w4 : (Cond.code y bytes maxL ret).before a0 Z = true) (hy : y.cls ≠ "java/lang/invoke/MethodHandle" ∧ y.cls ≠ "java/lang/invoke/VarHandle") {W kc ks : Nat} {ws' : List Addr} {V : Vm → Prop} {Q : Option Value → Heap → Vm → Prop} {argsL rest : List Value} (P : Pay wd l R p e below args y 3 W Z h V argsL.toArray kc ks ws' Q) (hV : V vm)
    {pc : Nat} {Ls : Array Slot} {st : List Value} (hsz : Ls.size = c.maxLocals) (hlen : ∀ sig, parseMethodDescriptor y.desc = some sig → argsL.length = sig.parameters.length) (hstack : st = argsL.reverse ++ rest) (hW : (rest.map fun v => v.category).sum ≤ W) (hd : decode c.code pc = .ok (.invokestatic index, 3)) (hc : cells + kc ≤ R.cells) (hl : slots + ks ≤ R.slots) (q : ∀ x ∈ ws', x ∈ ws ∨ h0.size ≤ x) :
    ∃ v vm' vq T' h', Wk wd p l e R s m args below meth c own Z n0 h0 ws vm' T' h' (cells + kc) (slots + ks) ∧ Keep h h' ws' ∧ (wd = true → vq = vm' ∧ (s.setVm vm).Warmed39 vm') ∧ Q v h' vq ∧ Go p e below (T.setTop (mkF m pc Ls st)) (T'.setTop (mkF m (pc + 3) Ls (v.toList ++ rest))) := by
  have e1 := K.1
  have hx := K.2.1
  obtain ⟨vm', vq, T', h', K', KK, ev, v, hq, go⟩ := K.behind (kc := kc) (ks := ks) q (P := fun T' h' vq => ∃ v, Q v h' vq ∧ Go p e below (T.setTop (mkF m pc Ls st)) (T'.setTop (mkF m (pc + 3) Ls (v.toList ++ rest))))
    (fun hwd locs s' es X hZ ho => by
      subst hwd
      have hV' : V s'.vm := by rw [es]; exact hV
      obtain ⟨v, vm₁, ⟨T', L', k', n'⟩, -, X', ⟨L, ⟨hq, kk, fr⟩, l1, l2, l3⟩, st⟩ := Jvm.LawKit.callS X hx ho (mvT hZ w1) (mvT hZ w2) (mvT hZ w3) (mvT hZ w4) hy (P s' hZ hV') (g := mkF m pc Ls st) rfl hsz hlen hstack (by show 2 * 0 + _ ≤ _; simpa using hW) hd (fun _ _ => ⟨rfl, e1, hc, hl⟩)
      dsimp only [Pt.U, Pt.locs, Pt.cells, Pt.slots] at *
      subst l1 l2 l3
      exact ⟨T', L, X', fr, kk, v, hq, st⟩)
    (fun hwd locs s' es X hZ ho => by
      subst hwd
      have hV' : V s'.vm := by rw [es]; exact hV
      obtain ⟨v, vm₁, ⟨T', L', k', n'⟩, -, X', S', gr, ⟨L, ⟨hq, kk, fr⟩, l1, l2, l3⟩, st⟩ := RoadKit.callSS X hx ho (mvT hZ w1) (mvT hZ w2) (mvT hZ w3) (mvT hZ w4) hy (P s' hZ hV') (g := mkF m pc Ls st) rfl hsz hlen hstack (by show 2 * 0 + _ ≤ _; simpa using hW) hd (fun _ _ => ⟨rfl, e1, hc, hl⟩)
      dsimp only [Pt.U, Pt.locs, Pt.cells, Pt.slots] at *
      subst l1 l2 l3
      exact ⟨T', L, X', S', gr, fr, kk, v, hq, fun t k => st.trans k⟩)
  exact ⟨v, vm', vq, T', h', K', KK, ev, hq, go⟩
theorem Wk.callI (K : Wk wd p l e R s m args below meth c own Z n0 h0 ws vm T h cells slots) {index : Nat} {y : MethodName} {bytes : ByteArray} {maxL : Nat} (hy1 : y.name = "<init>") (w1 : (Cond.methodLink own index y).before a0 Z = true) (w2 : (Cond.instanceMethod y).before a0 Z = true) (w4 : (Cond.code y bytes maxL none).before a0 Z = true) (hy : y.cls ≠ "java/lang/invoke/MethodHandle" ∧ y.cls ≠ "java/lang/invoke/VarHandle") {W kc ks : Nat} {ws' : List Addr} {V : Vm → Prop} {Q : Option Value → Heap → Vm → Prop} {a : Addr} {argsL rest : List Value} (P : Pay wd l R p e below args y 3 W Z h V (.ref a :: argsL).toArray kc ks ws' Q) (hV : V vm)
    {pc : Nat} {Ls : Array Slot} {st : List Value} (hsz : Ls.size = c.maxLocals) (hlen : ∀ sig, parseMethodDescriptor y.desc = some sig → argsL.length = sig.parameters.length) (hstack : st = argsL.reverse ++ .ref a :: rest) (hW : (rest.map fun v => v.category).sum ≤ W) (hd : decode c.code pc = .ok (.invokespecial index, 3)) (hc : cells + kc ≤ R.cells) (hl : slots + ks ≤ R.slots) (q : ∀ x ∈ ws', x ∈ ws ∨ h0.size ≤ x) :
    ∃ v vm' vq T' h', Wk wd p l e R s m args below meth c own Z n0 h0 ws vm' T' h' (cells + kc) (slots + ks) ∧ Keep h h' ws' ∧ (wd = true → vq = vm' ∧ (s.setVm vm).Warmed39 vm') ∧ Q v h' vq ∧ Go p e below (T.setTop (mkF m pc Ls st)) (T'.setTop (mkF m (pc + 3) Ls (v.toList ++ rest))) := by
  have e1 := K.1
  have hx := K.2.1
  obtain ⟨vm', vq, T', h', K', KK, ev, v, hq, go⟩ := K.behind (kc := kc) (ks := ks) q (P := fun T' h' vq => ∃ v, Q v h' vq ∧ Go p e below (T.setTop (mkF m pc Ls st)) (T'.setTop (mkF m (pc + 3) Ls (v.toList ++ rest))))
    (fun hwd locs s' es X hZ ho => by
      subst hwd
      have hV' : V s'.vm := by rw [es]; exact hV
      obtain ⟨v, vm₁, ⟨T', L', k', n'⟩, -, X', ⟨L, ⟨hq, kk, fr⟩, l1, l2, l3⟩, st⟩ := X.specialBack hx hy1 ho (mvT hZ w1) (mvT hZ w2) (mvT hZ w4) hy (P s' hZ hV') (g := mkF m pc Ls st) rfl hsz (Steps.refl _) hlen hstack (by show 2 * 0 + _ ≤ _; simpa using hW) hd (fun _ _ => ⟨rfl, e1, hc, hl⟩)
      dsimp only [Pt.U, Pt.locs, Pt.cells, Pt.slots] at *
      subst l1 l2 l3
      exact ⟨T', L, X', fr, kk, v, hq, fun t k => st.trans k⟩)
    (fun hwd locs s' es X hZ ho => by
      subst hwd
      have hV' : V s'.vm := by rw [es]; exact hV
      obtain ⟨v, vm₁, ⟨T', L', k', n'⟩, -, X', S', gr, ⟨L, ⟨hq, kk, fr⟩, l1, l2, l3⟩, st⟩ := X.specialBackS hx hy1 ho (mvT hZ w1) (mvT hZ w2) (mvT hZ w4) hy (P s' hZ hV') (g := mkF m pc Ls st) rfl hsz (Steps.refl _) hlen hstack (by show 2 * 0 + _ ≤ _; simpa using hW) hd (fun _ _ => ⟨rfl, e1, hc, hl⟩)
      dsimp only [Pt.U, Pt.locs, Pt.cells, Pt.slots] at *
      subst l1 l2 l3
      exact ⟨T', L, X', S', gr, fr, kk, v, hq, fun t k => st.trans k⟩)
  exact ⟨v, vm', vq, T', h', K', KK, ev, hq, go⟩
theorem Wk.callV (K : Wk wd p l e R s m args below meth c own Z n0 h0 ws vm T h cells slots) {C : String} {index : Nat} {y z : MethodName} (w1 : (Cond.methodLink own index y).before a0 Z = true) (w2 : (Cond.declares y).before a0 Z = true) (w3 : (Cond.selects C y z).before a0 Z = true) (w5 : (∃ S, (Cond.superclass y.cls S).before a0 Z = true) ∨ (Cond.noSuperclass y.cls).before a0 Z = true ∨ y = z) (w4 : (Cond.instanceMethod z).before a0 Z = true) (hy : y.cls ≠ "java/lang/invoke/MethodHandle" ∧ y.cls ≠ "java/lang/invoke/VarHandle") {W kc ks : Nat} {ws' : List Addr} {V : Vm → Prop} {Q : Option Value → Heap → Vm → Prop} {a : Addr} (E : Exa Z h a C) {argsL rest : List Value} (P : Pay wd l R p e below args z 3 W Z h V (.ref a :: argsL).toArray kc ks ws' Q) (hV : V vm)
    {pc : Nat} {Ls : Array Slot} {st : List Value} (hsz : Ls.size = c.maxLocals) (hlen : ∀ sig, parseMethodDescriptor y.desc = some sig → argsL.length = sig.parameters.length) (hstack : st = argsL.reverse ++ .ref a :: rest) (hW : (rest.map fun v => v.category).sum ≤ W) (hd : decode c.code pc = .ok (.invokevirtual index, 3)) (hc : cells + kc ≤ R.cells) (hl : slots + ks ≤ R.slots) (q : ∀ x ∈ ws', x ∈ ws ∨ h0.size ≤ x) :
    ∃ v vm' vq T' h', Wk wd p l e R s m args below meth c own Z n0 h0 ws vm' T' h' (cells + kc) (slots + ks) ∧ Keep h h' ws' ∧ (wd = true → vq = vm' ∧ (s.setVm vm).Warmed39 vm') ∧ Q v h' vq ∧ Go p e below (T.setTop (mkF m pc Ls st)) (T'.setTop (mkF m (pc + 3) Ls (v.toList ++ rest))) := by
  have e1 := K.1
  have hx := K.2.1
  have nf : ∀ s' : State, Z.Warmed39 s'.vm → NotFace s' y := fun s' hZ => by
    rcases w5 with ⟨S, w5⟩ | w5 | rfl
    · exact nf_super (args := #[]) (mvT hZ w5)
    · exact nf_top (args := #[]) (mvT hZ w5)
    · exact notFace_of_selects (args := #[]) (mvT hZ w3)
  obtain ⟨vm', vq, T', h', K', KK, ev, v, hq, go⟩ := K.behind (kc := kc) (ks := ks) q (P := fun T' h' vq => ∃ v, Q v h' vq ∧ Go p e below (T.setTop (mkF m pc Ls st)) (T'.setTop (mkF m (pc + 3) Ls (v.toList ++ rest))))
    (fun hwd locs s' es X hZ ho => by
      subst hwd
      have hV' : V s'.vm := by rw [es]; exact hV
      obtain ⟨cB, kB, i1, i2, i3⟩ := isOf hZ e1 E
      obtain ⟨v, vm₁, ⟨T', L', k', n'⟩, -, X', ⟨L, ⟨hq, kk, fr⟩, l1, l2, l3⟩, st⟩ := X.virtualBack hx ho (mvT hZ w1) (mvT hZ w2) (nf s' hZ) (mvT hZ w3) (mvT hZ w4) hy (P s' hZ hV') i1 i3 (g := mkF m pc Ls st) rfl hsz (Steps.refl _) hlen hstack (by show 2 * 0 + _ ≤ _; simpa using hW) hd (fun _ _ => ⟨rfl, e1, hc, hl⟩)
      dsimp only [Pt.U, Pt.locs, Pt.cells, Pt.slots] at *
      subst l1 l2 l3
      exact ⟨T', L, X', fr, kk, v, hq, fun t k => st.trans k⟩)
    (fun hwd locs s' es X hZ ho => by
      subst hwd
      have hV' : V s'.vm := by rw [es]; exact hV
      obtain ⟨cB, kB, i1, i2, i3⟩ := isOf hZ e1 E
      obtain ⟨v, vm₁, ⟨T', L', k', n'⟩, -, X', S', gr, ⟨L, ⟨hq, kk, fr⟩, l1, l2, l3⟩, st⟩ := X.virtualBackS hx ho (mvT hZ w1) (mvT hZ w2) (nf s' hZ) (mvT hZ w3) (mvT hZ w4) hy (P s' hZ hV') i1 i3 (g := mkF m pc Ls st) rfl hsz (Steps.refl _) hlen hstack (by show 2 * 0 + _ ≤ _; simpa using hW) hd (fun _ _ => ⟨rfl, e1, hc, hl⟩)
      dsimp only [Pt.U, Pt.locs, Pt.cells, Pt.slots] at *
      subst l1 l2 l3
      exact ⟨T', L, X', S', gr, fr, kk, v, hq, fun t k => st.trans k⟩)
  exact ⟨v, vm', vq, T', h', K', KK, ev, hq, go⟩
theorem Wk.callF (K : Wk wd p l e R s m args below meth c own Z n0 h0 ws vm T h cells slots) {C : String} {index count : Nat} {y z : MethodName} (w1 : (Cond.methodLink own index y).before a0 Z = true) (w2 : (Cond.declares y).before a0 Z = true) (w3 : (Cond.interfaceMethod y.cls y.cls y.name y.desc).before a0 Z = true) (hfa : ((Cond.interfaceMethod y.cls y.cls y.name y.desc).onTables && (Cond.interfaceMethod y.cls y.cls y.name y.desc).keepsFace) = true) (w4 : (Cond.selects C y z).before a0 Z = true) (w5 : (Cond.instanceMethod z).before a0 Z = true) (w6 : (Cond.publicMethod z).before a0 Z = true) (w7 : (Cond.unhidden C y.name y.desc).before a0 Z = true) (w8 : (Cond.castable C y.cls).before a0 Z = true) (hy : y.cls ≠ "java/lang/invoke/MethodHandle" ∧ y.cls ≠ "java/lang/invoke/VarHandle") {W kc ks : Nat} {ws' : List Addr} {V : Vm → Prop} {Q : Option Value → Heap → Vm → Prop} {a : Addr} (E : Exa Z h a C) {argsL rest : List Value} (P : Pay wd l R p e below args z 5 W Z h V (.ref a :: argsL).toArray kc ks ws' Q) (hV : V vm)
    {pc : Nat} {Ls : Array Slot} {st : List Value} (hsz : Ls.size = c.maxLocals) (hlen : ∀ sig, parseMethodDescriptor y.desc = some sig → argsL.length = sig.parameters.length) (hstack : st = argsL.reverse ++ .ref a :: rest) (hW : (rest.map fun v => v.category).sum ≤ W) (hd : decode c.code pc = .ok (.invokeinterface index count, 5)) (hc : cells + kc ≤ R.cells) (hl : slots + ks ≤ R.slots) (q : ∀ x ∈ ws', x ∈ ws ∨ h0.size ≤ x) :
    ∃ v vm' vq T' h', Wk wd p l e R s m args below meth c own Z n0 h0 ws vm' T' h' (cells + kc) (slots + ks) ∧ Keep h h' ws' ∧ (wd = true → vq = vm' ∧ (s.setVm vm).Warmed39 vm') ∧ Q v h' vq ∧ Go p e below (T.setTop (mkF m pc Ls st)) (T'.setTop (mkF m (pc + 5) Ls (v.toList ++ rest))) := by
  have e1 := K.1
  have hx := K.2.1
  obtain ⟨vm', vq, T', h', K', KK, ev, v, hq, go⟩ := K.behind (kc := kc) (ks := ks) q (P := fun T' h' vq => ∃ v, Q v h' vq ∧ Go p e below (T.setTop (mkF m pc Ls st)) (T'.setTop (mkF m (pc + 5) Ls (v.toList ++ rest))))
    (fun hwd locs s' es X hZ ho => by
      subst hwd
      have hV' : V s'.vm := by rw [es]; exact hV
      obtain ⟨cB, kB, i1, i2, i3⟩ := isOf hZ e1 E
      obtain ⟨v, vm₁, ⟨T', L', k', n'⟩, -, X', ⟨L, ⟨hq, kk, fr⟩, l1, l2, l3⟩, st⟩ := X.interfaceBack hx ho (mvT hZ w1) (mvT hZ w2) (mvT hZ w3 hfa) (mvT hZ w4) (mvT hZ w5) (mvT hZ w6) (mvT hZ w7) (mvT hZ w8) hy (P s' hZ hV') i1 i2 i3 (g := mkF m pc Ls st) rfl hsz (Steps.refl _) hlen hstack (by show 2 * 0 + _ ≤ _; simpa using hW) hd (fun _ _ => ⟨rfl, e1, hc, hl⟩)
      dsimp only [Pt.U, Pt.locs, Pt.cells, Pt.slots] at *
      subst l1 l2 l3
      exact ⟨T', L, X', fr, kk, v, hq, fun t k => st.trans k⟩)
    (fun hwd locs s' es X hZ ho => by
      subst hwd
      have hV' : V s'.vm := by rw [es]; exact hV
      obtain ⟨cB, kB, i1, i2, i3⟩ := isOf hZ e1 E
      obtain ⟨v, vm₁, ⟨T', L', k', n'⟩, -, X', S', gr, ⟨L, ⟨hq, kk, fr⟩, l1, l2, l3⟩, st⟩ := X.interfaceBackS hx ho (mvT hZ w1) (mvT hZ w2) (mvT hZ w3 hfa) (mvT hZ w4) (mvT hZ w5) (mvT hZ w6) (mvT hZ w7) (mvT hZ w8) hy (P s' hZ hV') i1 i2 i3 (g := mkF m pc Ls st) rfl hsz (Steps.refl _) hlen hstack (by show 2 * 0 + _ ≤ _; simpa using hW) hd (fun _ _ => ⟨rfl, e1, hc, hl⟩)
      dsimp only [Pt.U, Pt.locs, Pt.cells, Pt.slots] at *
      subst l1 l2 l3
      exact ⟨T', L, X', S', gr, fr, kk, v, hq, fun t k => st.trans k⟩)
  exact ⟨v, vm', vq, T', h', K', KK, ev, hq, go⟩
/-- the method's end: T the last state, v what it returns -/
def Ret (p : Program) (e : Env) (below : List Frame) (m : MethodId) (T : State) (v : Option Value) (A : State) : Prop :=
  ∀ fs, (∀ (f : JFrame) (acts : List Action), f.method = m → f.locked = none → f.entered = [] → (doReturn e (T.setTop f) acts v).1 = T.setFrames fs) → Steps p.tables e below A (T.setFrames fs)
theorem Wk.retV (K : Wk wd p l e R s m args below meth c own Z n0 h0 ws vm T h cells slots) {A : State} {pc : Nat} {Ls : Array Slot} (S : Go p e below A (T.setTop (mkF m pc Ls []))) (hret : meth.sig.returnType = none) (hd : decode c.code pc = .ok (.return_, 1)) : Ret p e below m T none A := by
  intro fs hl
  exact K.stand fun _ _ X hx _ _ _ => S _ (X.returnOut hx hret hd hl)
theorem Wk.retW (K : Wk wd p l e R s m args below meth c own Z n0 h0 ws vm T h cells slots) {A : State} {pc : Nat} {Ls : Array Slot} {w : Value} {t : FieldType} {i : Instr} {rest : List Value} (S : Go p e below A (T.setTop (mkF m pc Ls (w :: rest)))) (hret : meth.sig.returnType = some t) (hn : narrow t w = w)
    (hi : (i = .ireturn ∧ (t = .int ∨ t = .boolean ∨ t = .byte ∨ t = .char ∨ t = .short) ∧ ∃ z, w = .int z) ∨ (i = .lreturn ∧ t = .long ∧ ∃ z, w = .long z) ∨ (i = .dreturn ∧ t = .double ∧ ∃ z, w = .double z) ∨ (i = .freturn ∧ t = .float ∧ ∃ z, w = .float z) ∨ (i = .areturn ∧ t.isReference = true ∧ w.isRef = true))
    (hd : decode c.code pc = .ok (i, 1)) : Ret p e below m T (some w) A := by
  intro fs hl
  exact K.stand fun _ _ X hx _ _ _ => S _ (retOut X hx hret hn hi hd hl)
theorem body {y : MethodName} {bytes : ByteArray} {maxL : Nat} {ret : Option FieldType} {rm : Room} {as' : Array Value} {V : Vm → Prop} {Q : Option Value → Heap → Vm → Prop} (hpl : plainFor y = true) (O0 : Old Z n0 h0) (hvr : ∀ v h vm, Q v h vm → ret = none → v = none) (hQ : ∀ v h, VCl (Q v h))
    (H : ∀ (p : Program) (e : Env) (s : State) (m : MethodId) (below : List Frame) (meth : Method) (c : Code) (T0 : State), c.code = bytes → c.maxLocals = maxL → meth.sig.returnType = ret → meth.name = y.name → V s.vm → Wk wd p l e rm s m as' below meth c y.cls Z n0 h0 [] s.vm T0 h0 0 0 →
      ∃ vm T h v cells slots, Wk wd p l e rm s m as' below meth c y.cls Z n0 h0 ws vm T h cells slots ∧ cells ≤ rm.cells ∧ slots ≤ rm.slots ∧ Q v h vm ∧ Ret p e below m T v (T0.setTop (entryFrame m as' maxL))) :
    Ctr wd l y bytes maxL ret rm as' Z h0 V ws Q := by
  intro wds
  refine MetFree.of_bodySF hpl hisR ?_
  intro p e s m args below meth c s₁ Bd hml0 hP hK
  obtain ⟨rfl, hZ, hh, hV0⟩ := hP
  have hown : s.vm.findClass y.cls = some m.cls := findClass_of_methodNamed Bd.named
  have hnm := (name_of_methodNamed Bd.named Bd.method).1
  have X0 : Stand p l e rm (s.setVm s.vm) m args below meth c s₁ [] 0 0 := Stand.of_body Bd
  have e0 : s₁.heap = h0 := by rw [← hh, Bd.state]; rfl
  have nle : n0 ≤ h0.size := by rw [← O0.1]; exact O0.2.1
  obtain ⟨vm, T, h, v, cells, slots, K, c1, c2, hq, rt⟩ := H p e s m below meth c s₁ Bd.bytes hml0 Bd.returns hnm hV0 ⟨e0, Bd.exec, O0, nle, all0, Keep.refl _ _, hh, hZ, hown, fun _ => rfl, [], 0, FrW.nil _ _, X0, (State.WarmedH.refl s).since _, Nat.zero_le _⟩
  have hv : meth.sig.returnType = none → v = none := fun q => hvr v h vm hq (by rw [← Bd.returns]; exact q)
  have hlk := Bd.notSynchronized
  obtain ⟨e1, hx, O, hn, hw, Kp, hs0, hZ', ho, hvm, locs, k, F, X, S, hk⟩ := K
  subst e1
  have hq' := hQ v T.heap (s.setVm vm) T.vm hq X.warmed
  cases wd
  · obtain rfl := hvm rfl
    obtain ⟨fs, hr, hrun, hended, hW, hsame⟩ := X.leave (v := v) hv
    exact ⟨_, _, rt fs hr, hrun, hended, _, _, rfl, ⟨hq', Kp, F⟩, ⟨_, rfl⟩, hW, hsame.mono c1 c2⟩
  · obtain ⟨fs, hr, hrun, hended, hW⟩ := X.leaveW S hk (v := v) hv
    exact ⟨_, _, rt fs hr, hrun, hended, _, _, rfl, ⟨hq', Kp, F⟩, hW.1, hW.2.1, hW.2.2.1, hW.2.2.2.mono c1 c2⟩
end Kit
end Own
end Jvm.Pilot.@@N@@
namespace Jvm.Pilot.@@N@@
open Jvm Jvm.ClassFile Sem Op Lib Jvm.Free Jvm.Stand Jvm.LawKit Jvm.RoadKit Bundle Jvm.Pilot.@@N@@.Jvm.D
namespace Own.P
section Plain
variable {p : Program} {e : Env} {below : List Frame} {T : State} {m : MethodId} {c : Code} {pc : Nat} {Ls : Array Slot} {st : List Value}
theorem aloadN (H : At T m c below) (hx : p.tables.exec = Jvm.exec) {k : Fin 4} {v : Value} (hd : decode c.code pc = .ok (.aload_n k, 1)) (hl : Ls[k.val]? = some (.val v)) (hv : v.isRef = true) : Go p e below (T.setTop (mkF m pc Ls (st))) (T.setTop (mkF m (pc + 1) Ls (v :: st))) := fun t r => XS.aloadN H hx rfl hd hl hv r
theorem aload (H : At T m c below) (hx : p.tables.exec = Jvm.exec) {k : Nat} {v : Value} (hd : decode c.code pc = .ok (.aload k, 2)) (hl : Ls[k]? = some (.val v)) (hv : v.isRef = true) : Go p e below (T.setTop (mkF m pc Ls (st))) (T.setTop (mkF m (pc + 2) Ls (v :: st))) := fun t r => XS.aload H hx rfl hd hl hv r
theorem iloadN (H : At T m c below) (hx : p.tables.exec = Jvm.exec) {k : Fin 4} {v : Int32} (hd : decode c.code pc = .ok (.iload_n k, 1)) (hl : Ls[k.val]? = some (.val (.int v))) : Go p e below (T.setTop (mkF m pc Ls (st))) (T.setTop (mkF m (pc + 1) Ls (.int v :: st))) := fun t r => XS.iloadN H hx rfl hd hl r
theorem iload (H : At T m c below) (hx : p.tables.exec = Jvm.exec) {k : Nat} {v : Int32} (hd : decode c.code pc = .ok (.iload k, 2)) (hl : Ls[k]? = some (.val (.int v))) : Go p e below (T.setTop (mkF m pc Ls (st))) (T.setTop (mkF m (pc + 2) Ls (.int v :: st))) := fun t r => XS.iload H hx rfl hd hl r
theorem lloadN (H : At T m c below) (hx : p.tables.exec = Jvm.exec) {k : Fin 4} {v : Int64} (hd : decode c.code pc = .ok (.lload_n k, 1)) (hl : Ls[k.val]? = some (.val (.long v))) : Go p e below (T.setTop (mkF m pc Ls (st))) (T.setTop (mkF m (pc + 1) Ls (.long v :: st))) := fun t r => XT.lloadN H hx rfl hd hl r
theorem lload (H : At T m c below) (hx : p.tables.exec = Jvm.exec) {k : Nat} {v : Int64} (hd : decode c.code pc = .ok (.lload k, 2)) (hl : Ls[k]? = some (.val (.long v))) : Go p e below (T.setTop (mkF m pc Ls (st))) (T.setTop (mkF m (pc + 2) Ls (.long v :: st))) := fun t r => XT.lload H hx rfl hd hl r
theorem iconst (H : At T m c below) (hx : p.tables.exec = Jvm.exec) {i : Int} (v : Int32) (hd : decode c.code pc = .ok (.iconst i, 1)) (hv : Int32.ofInt i = v) : Go p e below (T.setTop (mkF m pc Ls (st))) (T.setTop (mkF m (pc + 1) Ls (.int v :: st))) := fun t r => XS.iconst H hx rfl hd (by rw [hv]; exact r)
theorem bipush (H : At T m c below) (hx : p.tables.exec = Jvm.exec) {i : Int} (v : Int32) (hd : decode c.code pc = .ok (.bipush i, 2)) (hv : (Int8.ofInt i).toInt32 = v) : Go p e below (T.setTop (mkF m pc Ls (st))) (T.setTop (mkF m (pc + 2) Ls (.int v :: st))) := fun t r => XS.bipush H hx rfl hd (by rw [hv]; exact r)
theorem sipush (H : At T m c below) (hx : p.tables.exec = Jvm.exec) {i : Int} (v : Int32) (hd : decode c.code pc = .ok (.sipush i, 3)) (hv : (Int16.ofInt i).toInt32 = v) : Go p e below (T.setTop (mkF m pc Ls (st))) (T.setTop (mkF m (pc + 3) Ls (.int v :: st))) := fun t r => XS.sipush H hx rfl hd (by rw [hv]; exact r)
theorem lconst (H : At T m c below) (hx : p.tables.exec = Jvm.exec) {k : Fin 2} (v : Int64) (hd : decode c.code pc = .ok (.lconst k, 1)) (hv : Int64.ofNat k = v) : Go p e below (T.setTop (mkF m pc Ls (st))) (T.setTop (mkF m (pc + 1) Ls (.long v :: st))) := fun t r => XT.lconst H hx rfl hd (by rw [hv]; exact r)
theorem null (H : At T m c below) (hx : p.tables.exec = Jvm.exec)  (hd : decode c.code pc = .ok (.aconst_null, 1))  : Go p e below (T.setTop (mkF m pc Ls (st))) (T.setTop (mkF m (pc + 1) Ls (.null :: st))) := fun t r => XS.aconstNull H hx rfl hd r
theorem dup (H : At T m c below) (hx : p.tables.exec = Jvm.exec) {x : Value} (hd : decode c.code pc = .ok (.dup, 1)) (hc : x.category = 1) : Go p e below (T.setTop (mkF m pc Ls (x :: st))) (T.setTop (mkF m (pc + 1) Ls (x :: x :: st))) := fun t r => XS.dup H hx rfl hd rfl hc r
theorem pop (H : At T m c below) (hx : p.tables.exec = Jvm.exec) {x : Value} (hd : decode c.code pc = .ok (.pop, 1)) (hc : x.category = 1) : Go p e below (T.setTop (mkF m pc Ls (x :: st))) (T.setTop (mkF m (pc + 1) Ls (st))) := fun t r => XT.pop H hx rfl hd rfl hc r
theorem iadd (H : At T m c below) (hx : p.tables.exec = Jvm.exec) {x y : Int32} (hd : decode c.code pc = .ok (.iadd, 1))  : Go p e below (T.setTop (mkF m pc Ls (.int y :: .int x :: st))) (T.setTop (mkF m (pc + 1) Ls (.int (x + y) :: st))) := fun t r => XS.iadd H hx rfl hd rfl r
theorem isub (H : At T m c below) (hx : p.tables.exec = Jvm.exec) {x y : Int32} (hd : decode c.code pc = .ok (.isub, 1))  : Go p e below (T.setTop (mkF m pc Ls (.int y :: .int x :: st))) (T.setTop (mkF m (pc + 1) Ls (.int (x - y) :: st))) := fun t r => XS.isub H hx rfl hd rfl r
theorem iand (H : At T m c below) (hx : p.tables.exec = Jvm.exec) {x y : Int32} (hd : decode c.code pc = .ok (.iand, 1))  : Go p e below (T.setTop (mkF m pc Ls (.int y :: .int x :: st))) (T.setTop (mkF m (pc + 1) Ls (.int (x &&& y) :: st))) := fun t r => XS.iand H hx rfl hd rfl r
theorem imul (H : At T m c below) (hx : p.tables.exec = Jvm.exec) {x y : Int32} (hd : decode c.code pc = .ok (.imul, 1))  : Go p e below (T.setTop (mkF m pc Ls (.int y :: .int x :: st))) (T.setTop (mkF m (pc + 1) Ls (.int (x * y) :: st))) := fun t r => XS.imul H hx rfl hd rfl r
theorem ixor (H : At T m c below) (hx : p.tables.exec = Jvm.exec) {x y : Int32} (hd : decode c.code pc = .ok (.ixor, 1))  : Go p e below (T.setTop (mkF m pc Ls (.int y :: .int x :: st))) (T.setTop (mkF m (pc + 1) Ls (.int (x ^^^ y) :: st))) := fun t r => XT.ixor H hx rfl hd rfl r
theorem ior (H : At T m c below) (hx : p.tables.exec = Jvm.exec) {x y : Int32} (hd : decode c.code pc = .ok (.ior, 1))  : Go p e below (T.setTop (mkF m pc Ls (.int y :: .int x :: st))) (T.setTop (mkF m (pc + 1) Ls (.int (x ||| y) :: st))) := fun t r => XT.ior H hx rfl hd rfl r
theorem ishl (H : At T m c below) (hx : p.tables.exec = Jvm.exec) {x y : Int32} (hd : decode c.code pc = .ok (.ishl, 1))  : Go p e below (T.setTop (mkF m pc Ls (.int y :: .int x :: st))) (T.setTop (mkF m (pc + 1) Ls (.int (x <<< (y &&& 31)) :: st))) := fun t r => XT.ishl H hx rfl hd rfl r
theorem ishr (H : At T m c below) (hx : p.tables.exec = Jvm.exec) {x y : Int32} (hd : decode c.code pc = .ok (.ishr, 1))  : Go p e below (T.setTop (mkF m pc Ls (.int y :: .int x :: st))) (T.setTop (mkF m (pc + 1) Ls (.int (x >>> (y &&& 31)) :: st))) := fun t r => XT.ishr H hx rfl hd rfl r
theorem iushr (H : At T m c below) (hx : p.tables.exec = Jvm.exec) {x y : Int32} (hd : decode c.code pc = .ok (.iushr, 1))  : Go p e below (T.setTop (mkF m pc Ls (.int y :: .int x :: st))) (T.setTop (mkF m (pc + 1) Ls (.int (XT.ushr x y) :: st))) := fun t r => XT.iushr H hx rfl hd rfl r
theorem ladd (H : At T m c below) (hx : p.tables.exec = Jvm.exec) {x y : Int64} (hd : decode c.code pc = .ok (.ladd, 1))  : Go p e below (T.setTop (mkF m pc Ls (.long y :: .long x :: st))) (T.setTop (mkF m (pc + 1) Ls (.long (x + y) :: st))) := fun t r => XT.ladd H hx rfl hd rfl r
theorem land (H : At T m c below) (hx : p.tables.exec = Jvm.exec) {x y : Int64} (hd : decode c.code pc = .ok (.land, 1))  : Go p e below (T.setTop (mkF m pc Ls (.long y :: .long x :: st))) (T.setTop (mkF m (pc + 1) Ls (.long (x &&& y) :: st))) := fun t r => XT.land H hx rfl hd rfl r
theorem lushr (H : At T m c below) (hx : p.tables.exec = Jvm.exec) {x : Int64} {y : Int32} (hd : decode c.code pc = .ok (.lushr, 1))  : Go p e below (T.setTop (mkF m pc Ls (.int y :: .long x :: st))) (T.setTop (mkF m (pc + 1) Ls (.long (XT.ushrL x y) :: st))) := fun t r => XT.lushr H hx rfl hd rfl r
theorem irem (H : At T m c below) (hx : p.tables.exec = Jvm.exec) {x y : Int32} (hd : decode c.code pc = .ok (.irem, 1)) (hy : y ≠ 0) : Go p e below (T.setTop (mkF m pc Ls (.int y :: .int x :: st))) (T.setTop (mkF m (pc + 1) Ls (.int (x % y) :: st))) := fun t r => XS.irem H hx rfl hd rfl hy (by rw [irem_eq_mod]; exact r)
theorem lcmp (H : At T m c below) (hx : p.tables.exec = Jvm.exec) {x y : Int64} (hd : decode c.code pc = .ok (.lcmp, 1))  : Go p e below (T.setTop (mkF m pc Ls (.long y :: .long x :: st))) (T.setTop (mkF m (pc + 1) Ls (.int (XT.cmpL x y) :: st))) := fun t r => XT.lcmp H hx rfl hd rfl r
theorem i2c (H : At T m c below) (hx : p.tables.exec = Jvm.exec) {x : Int32} (hd : decode c.code pc = .ok (.i2c, 1))  : Go p e below (T.setTop (mkF m pc Ls (.int x :: st))) (T.setTop (mkF m (pc + 1) Ls (.int (x.toUInt32.toUInt16.toUInt32.toInt32) :: st))) := fun t r => XT.i2c H hx rfl hd rfl r
theorem i2b (H : At T m c below) (hx : p.tables.exec = Jvm.exec) {x : Int32} (hd : decode c.code pc = .ok (.i2b, 1))  : Go p e below (T.setTop (mkF m pc Ls (.int x :: st))) (T.setTop (mkF m (pc + 1) Ls (.int (x.toInt8.toInt32) :: st))) := fun t r => XT.i2b H hx rfl hd rfl r
theorem i2l (H : At T m c below) (hx : p.tables.exec = Jvm.exec) {x : Int32} (hd : decode c.code pc = .ok (.i2l, 1))  : Go p e below (T.setTop (mkF m pc Ls (.int x :: st))) (T.setTop (mkF m (pc + 1) Ls (.long (x.toInt64) :: st))) := fun t r => XT.i2l H hx rfl hd rfl r
theorem l2i (H : At T m c below) (hx : p.tables.exec = Jvm.exec) {x : Int64} (hd : decode c.code pc = .ok (.l2i, 1))  : Go p e below (T.setTop (mkF m pc Ls (.long x :: st))) (T.setTop (mkF m (pc + 1) Ls (.int (x.toInt32) :: st))) := fun t r => XT.l2i H hx rfl hd rfl r
theorem istoreN (H : At T m c below) (hx : p.tables.exec = Jvm.exec) {k : Fin 4} {x : Int32} (l' : Array Slot) (hd : decode c.code pc = .ok (.istore_n k, 1)) (hl : storeLocals Ls k.val (.int x) = some l') : Go p e below (T.setTop (mkF m pc Ls (.int x :: st))) (T.setTop (mkF m (pc + 1) l' (st))) := fun t r => XS.istoreN H hx rfl hd rfl hl r
theorem istore (H : At T m c below) (hx : p.tables.exec = Jvm.exec) {k : Nat} {x : Int32} (l' : Array Slot) (hd : decode c.code pc = .ok (.istore k, 2)) (hl : storeLocals Ls k (.int x) = some l') : Go p e below (T.setTop (mkF m pc Ls (.int x :: st))) (T.setTop (mkF m (pc + 2) l' (st))) := fun t r => XS.istore H hx rfl hd rfl hl r
theorem astoreN (H : At T m c below) (hx : p.tables.exec = Jvm.exec) {k : Fin 4} {x : Value} (l' : Array Slot) (hd : decode c.code pc = .ok (.astore_n k, 1)) (hv : x.isRef = true) (hl : storeLocals Ls k.val x = some l') : Go p e below (T.setTop (mkF m pc Ls (x :: st))) (T.setTop (mkF m (pc + 1) l' (st))) := fun t r => XS.astoreN H hx rfl hd rfl hv hl r
theorem astore (H : At T m c below) (hx : p.tables.exec = Jvm.exec) {k : Nat} {x : Value} (l' : Array Slot) (hd : decode c.code pc = .ok (.astore k, 2)) (hv : x.isRef = true) (hl : storeLocals Ls k x = some l') : Go p e below (T.setTop (mkF m pc Ls (x :: st))) (T.setTop (mkF m (pc + 2) l' (st))) := fun t r => XS.astore H hx rfl hd rfl hv hl r
theorem lstoreN (H : At T m c below) (hx : p.tables.exec = Jvm.exec) {k : Fin 4} {x : Int64} (l' : Array Slot) (hd : decode c.code pc = .ok (.lstore_n k, 1)) (hl : storeLocals Ls k.val (.long x) = some l') : Go p e below (T.setTop (mkF m pc Ls (.long x :: st))) (T.setTop (mkF m (pc + 1) l' (st))) := fun t r => XT.lstoreN H hx rfl hd rfl hl r
theorem lstore (H : At T m c below) (hx : p.tables.exec = Jvm.exec) {k : Nat} {x : Int64} (l' : Array Slot) (hd : decode c.code pc = .ok (.lstore k, 2)) (hl : storeLocals Ls k (.long x) = some l') : Go p e below (T.setTop (mkF m pc Ls (.long x :: st))) (T.setTop (mkF m (pc + 2) l' (st))) := fun t r => XT.lstore H hx rfl hd rfl hl r
theorem iinc (H : At T m c below) (hx : p.tables.exec = Jvm.exec) {k : Nat} {cst : Int} {x : Int32} (v : Int32) (l' : Array Slot) (hd : decode c.code pc = .ok (.iinc k cst, 3)) (hl : Ls[k]? = some (.val (.int x))) (hv : x + Int32.ofInt cst = v) (hl' : storeLocals Ls k (.int v) = some l') : Go p e below (T.setTop (mkF m pc Ls (st))) (T.setTop (mkF m (pc + 3) l' (st))) := fun t r => XS.iinc H hx rfl hd hl (by rw [hv]; exact hl') r
theorem goto (H : At T m c below) (hx : p.tables.exec = Jvm.exec) {o : Int} (pc' : Nat) (hd : decode c.code pc = .ok (.goto o, 3)) (ho : 0 ≤ (pc : Int) + o) (hp : ((pc : Int) + o).toNat = pc') : Go p e below (T.setTop (mkF m pc Ls (st))) (T.setTop (mkF m (pc') Ls (st))) := fun t r => XS.goto H hx rfl rfl hd ho hp r
theorem ifYes (H : At T m c below) (hx : p.tables.exec = Jvm.exec) {cd : ClassFile.Cond} {x : Int32} {o : Int} (pc' : Nat) (hd : decode c.code pc = .ok (.ifCond cd o, 3)) (hc : ifCond.holds cd x = true) (ho : 0 ≤ (pc : Int) + o) (hp : ((pc : Int) + o).toNat = pc') : Go p e below (T.setTop (mkF m pc Ls (.int x :: st))) (T.setTop (mkF m (pc') Ls (st))) := fun t r => XS.ifYes H hx rfl rfl hd rfl hc ho hp r
theorem ifNo (H : At T m c below) (hx : p.tables.exec = Jvm.exec) {cd : ClassFile.Cond} {x : Int32} {o : Int} (hd : decode c.code pc = .ok (.ifCond cd o, 3)) (hc : ifCond.holds cd x = false) : Go p e below (T.setTop (mkF m pc Ls (.int x :: st))) (T.setTop (mkF m (pc + 3) Ls (st))) := fun t r => XS.ifNo H hx rfl hd rfl hc r
theorem icmpYes (H : At T m c below) (hx : p.tables.exec = Jvm.exec) {cd : ClassFile.Cond} {x y : Int32} {o : Int} (pc' : Nat) (hd : decode c.code pc = .ok (.if_icmp cd o, 3)) (hc : if_icmp.holds cd x y = true) (ho : 0 ≤ (pc : Int) + o) (hp : ((pc : Int) + o).toNat = pc') : Go p e below (T.setTop (mkF m pc Ls (.int y :: .int x :: st))) (T.setTop (mkF m (pc') Ls (st))) := fun t r => XS.icmpYes H hx rfl rfl hd rfl hc ho hp r
theorem icmpNo (H : At T m c below) (hx : p.tables.exec = Jvm.exec) {cd : ClassFile.Cond} {x y : Int32} {o : Int} (hd : decode c.code pc = .ok (.if_icmp cd o, 3)) (hc : if_icmp.holds cd x y = false) : Go p e below (T.setTop (mkF m pc Ls (.int y :: .int x :: st))) (T.setTop (mkF m (pc + 3) Ls (st))) := fun t r => XS.icmpNo H hx rfl hd rfl hc r
theorem acmpYes (H : At T m c below) (hx : p.tables.exec = Jvm.exec) {cd : ClassFile.ACond} {x y : Value} {o : Int} (pc' : Nat) (hd : decode c.code pc = .ok (.if_acmp cd o, 3)) (hx' : x.isRef = true) (hy' : y.isRef = true) (hc : XT.acmp cd x y = true) (ho : 0 ≤ (pc : Int) + o) (hp : ((pc : Int) + o).toNat = pc') : Go p e below (T.setTop (mkF m pc Ls (y :: x :: st))) (T.setTop (mkF m (pc') Ls (st))) := fun t r => XT.acmpYes H hx rfl rfl hd rfl hx' hy' hc ho hp r
theorem acmpNo (H : At T m c below) (hx : p.tables.exec = Jvm.exec) {cd : ClassFile.ACond} {x y : Value} {o : Int} (hd : decode c.code pc = .ok (.if_acmp cd o, 3)) (hx' : x.isRef = true) (hy' : y.isRef = true) (hc : XT.acmp cd x y = false) : Go p e below (T.setTop (mkF m pc Ls (y :: x :: st))) (T.setTop (mkF m (pc + 3) Ls (st))) := fun t r => XT.acmpNo H hx rfl hd rfl hx' hy' hc r
theorem ifnullYes (H : At T m c below) (hx : p.tables.exec = Jvm.exec) {o : Int} (pc' : Nat) (hd : decode c.code pc = .ok (.ifnull o, 3)) (ho : 0 ≤ (pc : Int) + o) (hp : ((pc : Int) + o).toNat = pc') : Go p e below (T.setTop (mkF m pc Ls (.null :: st))) (T.setTop (mkF m (pc') Ls (st))) := fun t r => XS.ifnullYes H hx rfl rfl hd rfl ho hp r
theorem ifnullNo (H : At T m c below) (hx : p.tables.exec = Jvm.exec) {o : Int} {b : Addr} (hd : decode c.code pc = .ok (.ifnull o, 3))  : Go p e below (T.setTop (mkF m pc Ls (.ref b :: st))) (T.setTop (mkF m (pc + 3) Ls (st))) := fun t r => XS.ifnullNo H hx rfl hd rfl r
theorem ifnonnullYes (H : At T m c below) (hx : p.tables.exec = Jvm.exec) {o : Int} {b : Addr} (pc' : Nat) (hd : decode c.code pc = .ok (.ifnonnull o, 3)) (ho : 0 ≤ (pc : Int) + o) (hp : ((pc : Int) + o).toNat = pc') : Go p e below (T.setTop (mkF m pc Ls (.ref b :: st))) (T.setTop (mkF m (pc') Ls (st))) := fun t r => XT.ifnonnullYes H hx rfl rfl hd rfl ho hp r
theorem ifnonnullNo (H : At T m c below) (hx : p.tables.exec = Jvm.exec) {o : Int} (hd : decode c.code pc = .ok (.ifnonnull o, 3))  : Go p e below (T.setTop (mkF m pc Ls (.null :: st))) (T.setTop (mkF m (pc + 3) Ls (st))) := fun t r => XT.ifnonnullNo H hx rfl hd rfl r
end Plain
end Own.P
end Jvm.Pilot.@@N@@
/- laws to paste: Road.backArv (cut by pick.py; bodies as the Statement names them) -/
namespace Jvm.Pilot.@@N@@
namespace StrChars
open Jvm Sem ClassFile Op Lib Jvm.Stand Jvm.Free.XT Jvm.Free.ALB Jvm.Free.JM Jvm.Free
open Jvm.Lib.Cold (StaticIs)
/-- a char array whose places are chars -/
def Ch (a : Addr) (A : Cell) (U : State) : Prop := Arr .char a A U ∧ Typed .char A
theorem Ch.mv {a : Addr} {A : Cell} {U U' : State} (h : Ch a A U) (hal : U.vm.Alike U'.vm) (hh : U'.heap = U.heap) : Ch a A U' := ⟨h.1.mv hal hh, h.2⟩
theorem Ch.keep {a : Addr} {A : Cell} {U U' : State} (h : Ch a A U) (hal : U.vm.Alike U'.vm) (hk : U'.heap[a]? = some A) : Ch a A U' := ⟨h.1.keep hal hk, h.2⟩
/-- what place i of a char[]'s cell holds -/
def cv (A : Cell) (i : Nat) : Int32 := match A.slots[i]? with | some (.int x) => x | _ => 0
theorem Ch.get {a : Addr} {A : Cell} {U : State} (h : Ch a A U) {i : Nat} (hi : i < A.slots.size) : A.slots[i]? = some (.int (cv A i)) := by
  have e := Array.getElem?_eq_getElem hi
  have f := h.2 i _ e
  unfold cv; rw [e]
  generalize A.slots[i] = v at f
  cases v <;> simp [fits] at f ⊢
/-- the byte that i2b leaves of a char -/
def lo8 (x : Int32) : Int32 := x.toInt8.toInt32
theorem fits_lo8 (y : Int32) : fits .byte (.int (lo8 y)) = true := by
  have h1 := y.toInt8.le_toInt
  have h2 := y.toInt8.toInt_lt
  simp only [lo8, fits, Bool.and_eq_true, decide_eq_true_eq, Int32.le_iff_toInt_le, Int8.toInt_toInt32, show (-128 : Int32).toInt = -128 from by decide, show (127 : Int32).toInt = 127 from by decide]
  omega
/-- A' is A but that each place j of lo .. hi - 1 holds f j -/
def Laid (A A' : Cell) (lo hi : Nat) (f : Nat → Value) : Prop := A'.cls = A.cls ∧ A'.vm = A.vm ∧ A'.slots.size = A.slots.size ∧ ∀ i, A'.slots[i]? = if lo ≤ i ∧ i < hi then some (f i) else A.slots[i]?
theorem Laid.zero (A : Cell) (lo : Nat) (f : Nat → Value) : Laid A A lo (lo + 0) f := ⟨rfl, rfl, rfl, fun i => by rw [if_neg (by omega)]⟩
theorem Laid.step {A Ak : Cell} {lo k : Nat} {f : Nat → Value} {v : Value} (h : Laid A Ak lo k f) (hlo : lo ≤ k) (hk : k < Ak.slots.size) (hv : v = f k) : Laid A (Ak.setSlot k v) lo (k + 1) f := by
  refine ⟨h.1, h.2.1, by simpa [Cell.setSlot] using h.2.2.1, fun i => ?_⟩
  by_cases e : k = i
  · subst e; rw [Cell.slots_setSlot_self v hk, if_pos (by omega), hv]
  · rw [Cell.slots_setSlot_ne v e, h.2.2.2 i]
    by_cases q : lo ≤ i ∧ i < k
    · rw [if_pos q, if_pos (by omega)]
    · rw [if_neg q, if_neg (by omega)]
def U16 : String := "java/lang/StringUTF16"
namespace Cmp5
def yN : MethodName := ⟨"java/lang/StringUTF16", "compress", "([CI[BII)I"⟩
abbrev yB : ByteArray := jdk_52_method_21_code
theorem d0 : decode yB 0 = .ok (.iconst 0, 1) := by decide +kernel
theorem d1 : decode yB 1 = .ok (.istore 5, 2) := by decide +kernel
theorem d3 : decode yB 3 = .ok (.iload 5, 2) := by decide +kernel
theorem d5 : decode yB 5 = .ok (.iload 4, 2) := by decide +kernel
theorem d7 : decode yB 7 = .ok (.if_icmp (.ge) 37, 3) := by decide +kernel
theorem d10 : decode yB 10 = .ok (.aload_n 0, 1) := by decide +kernel
theorem d11 : decode yB 11 = .ok (.iload_n 1, 1) := by decide +kernel
theorem d12 : decode yB 12 = .ok (.caload, 1) := by decide +kernel
theorem d13 : decode yB 13 = .ok (.istore 6, 2) := by decide +kernel
theorem d15 : decode yB 15 = .ok (.iload 6, 2) := by decide +kernel
theorem d17 : decode yB 17 = .ok (.sipush 255, 3) := by decide +kernel
theorem d20 : decode yB 20 = .ok (.if_icmp (.le) 6, 3) := by decide +kernel
theorem d26 : decode yB 26 = .ok (.aload_n 2, 1) := by decide +kernel
theorem d27 : decode yB 27 = .ok (.iload_n 3, 1) := by decide +kernel
theorem d28 : decode yB 28 = .ok (.iload 6, 2) := by decide +kernel
theorem d30 : decode yB 30 = .ok (.i2b, 1) := by decide +kernel
theorem d31 : decode yB 31 = .ok (.bastore, 1) := by decide +kernel
theorem d32 : decode yB 32 = .ok (.iinc 1 1, 3) := by decide +kernel
theorem d35 : decode yB 35 = .ok (.iinc 3 1, 3) := by decide +kernel
theorem d38 : decode yB 38 = .ok (.iinc 5 1, 3) := by decide +kernel
theorem d41 : decode yB 41 = .ok (.goto (-38), 3) := by decide +kernel
theorem d44 : decode yB 44 = .ok (.iload 4, 2) := by decide +kernel
theorem d46 : decode yB 46 = .ok (.ireturn, 1) := by decide +kernel
def site : List Cond := []
def tab : Cond := tabOf yN yB 7 (some .int) site
def P (b : Addr) (A : Cell) (d : Addr) (B : Cell) (o q len : Nat) (args : Array Value) (s : State) : Prop := args = #[.ref b, .int (Int32.ofNat o), .ref d, .int (Int32.ofNat q), .int (Int32.ofNat len)] ∧ Ch b A s ∧ Arr .byte d B s ∧ b ≠ d ∧ o + len ≤ A.slots.size ∧ q + len ≤ B.slots.size ∧ ∀ i, i < len → ¬ 255 < cv A (o + i)
def E (b : Addr) (A : Cell) (d : Addr) (B : Cell) (o q len : Nat) (r : Option Value) (s u : State) : Prop := r = some (.int (Int32.ofNat len)) ∧ ∃ B', Put d B' s u ∧ Laid B B' q (q + len) (fun j => Value.int (lo8 (cv A (o + (j - q)))))
/-- no char of the range above 255: len; the places written hold each char's low byte -/
theorem law (l : Launch) (b : Addr) (A : Cell) (d : Addr) (B : Cell) (o q len : Nat) : Law l yN 5 5 0 0 yB 7 (some .int) site (P b A d B o q len) (E b A d B o q len) (copyLocs d q len) 0 0 := by
  refine Law.of_walk (plainFor_of_name (by decide +kernel)) (by decide +kernel) (by decide +kernel) (by decide) (fun _ _ h => by rw [h.1]; rfl) (fun _ U U' hal hh h => ⟨h.1, h.2.1.mv hal hh, h.2.2.1.mv hal hh, h.2.2.2⟩) (fun r U U' V V' h1 hal h2 h => ⟨h.1, h.2.elim fun B' q => ⟨B', q.1.mv h1 h2, q.2⟩⟩) ?_
  intro p e s m args below meth c s₁ X0 hexec hbytes hml hret hlk hnm hown hh0 W hP
  obtain ⟨rfl, hA, hB, hne, l1, l2, hp⟩ := hP
  have c1 : Steps p.tables e below (s₁.setTop (entryFrame m #[.ref b, .int (Int32.ofNat o), .ref d, .int (Int32.ofNat q), .int (Int32.ofNat len)] 7)) (s₁.setTop (mkF m 0 #[.val (.ref b), .val (.int (Int32.ofNat o)), .val (.ref d), .val (.int (Int32.ofNat q)), .val (.int (Int32.ofNat len)), .unset, .unset] [])) := entry rfl
  have hA0 := hA.1.mv X0.warmed.alike hh0
  have hB0 := hB.mv X0.warmed.alike hh0
  have a31 := hA.1.2.2.2
  have c2 : Steps p.tables e below (s₁.setTop (entryFrame m #[.ref b, .int (Int32.ofNat o), .ref d, .int (Int32.ofNat q), .int (Int32.ofNat len)] 7)) (s₁.setTop (mkF m 3 #[.val (.ref b), .val (.int (Int32.ofNat o)), .val (.ref d), .val (.int (Int32.ofNat q)), .val (.int (Int32.ofNat len)), .val (.int 0), .unset] [])) := c1.trans (by
    refine iconstV X0.here hexec rfl 0 (hb hbytes d0) (by decide) ?_
    refine XS.istore X0.here hexec rfl (hb hbytes d1) rfl rfl ?_
    exact Steps.refl _)
  have loop : ∀ (r i : Nat), i + r = len → ∀ (z : Slot), (z = .unset ∨ ∃ w, z = .val w ∧ w.category = 1) → ∀ (Tl : State) (Bk : Cell), Stand p l e { frames := 0, locals := 0, cells := 0, slots := 0 } s m #[.ref b, .int (Int32.ofNat o), .ref d, .int (Int32.ofNat q), .int (Int32.ofNat len)] below meth c Tl ([] ++ copyLocs d q i) 0 0 → Put d Bk s₁ Tl → Laid B Bk q (q + i) (fun j => Value.int (lo8 (cv A (o + (j - q))))) →
      Steps p.tables e below (s₁.setTop (entryFrame m #[.ref b, .int (Int32.ofNat o), .ref d, .int (Int32.ofNat q), .int (Int32.ofNat len)] 7)) (Tl.setTop (mkF m 3 #[.val (.ref b), .val (.int (Int32.ofNat (o + i))), .val (.ref d), .val (.int (Int32.ofNat (q + i))), .val (.int (Int32.ofNat len)), .val (.int (Int32.ofNat i)), z] [])) → ∃ (T' : State) (B' : Cell) (z' : Slot), Stand p l e { frames := 0, locals := 0, cells := 0, slots := 0 } s m #[.ref b, .int (Int32.ofNat o), .ref d, .int (Int32.ofNat q), .int (Int32.ofNat len)] below meth c T' ([] ++ copyLocs d q len) 0 0 ∧ Put d B' s₁ T' ∧ Laid B B' q (q + len) (fun j => Value.int (lo8 (cv A (o + (j - q))))) ∧
      Steps p.tables e below (s₁.setTop (entryFrame m #[.ref b, .int (Int32.ofNat o), .ref d, .int (Int32.ofNat q), .int (Int32.ofNat len)] 7)) (T'.setTop (mkF m 3 #[.val (.ref b), .val (.int (Int32.ofNat (o + len))), .val (.ref d), .val (.int (Int32.ofNat (q + len))), .val (.int (Int32.ofNat len)), .val (.int (Int32.ofNat len)), z'] [])) := by
    intro r
    induction r with
    | zero =>
      intro i hi z hz Tl Bk Xl pl fl cl
      have hil : i = len := by omega
      rw [hil] at Xl fl cl
      exact ⟨Tl, Bk, z, Xl, pl, fl, cl⟩
    | succ r ih =>
      intro i hi z hz Tl Bk Xl pl fl cl
      have all := X0.warmed.alike.symm.trans Xl.warmed.alike
      have hAl := hA0.keep all (pl.other hne hA0.1)
      have hBk := hB0.like all pl.1 fl.1 fl.2.1 fl.2.2.1
      have hlt : q + i < Bk.slots.size := by rw [fl.2.2.1]; omega
      have c3 : Steps p.tables e below (s₁.setTop (entryFrame m #[.ref b, .int (Int32.ofNat o), .ref d, .int (Int32.ofNat q), .int (Int32.ofNat len)] 7)) (Tl.setTop (mkF m 12 #[.val (.ref b), .val (.int (Int32.ofNat (o + i))), .val (.ref d), .val (.int (Int32.ofNat (q + i))), .val (.int (Int32.ofNat len)), .val (.int (Int32.ofNat i)), z] [.int (Int32.ofNat (o + i)), .ref b])) := cl.trans (by
        refine XS.iload Xl.here hexec rfl (hb hbytes d3) rfl ?_
        refine XS.iload Xl.here hexec rfl (hb hbytes d5) rfl ?_
        refine XS.icmpNo Xl.here hexec rfl (hb hbytes d7) rfl (ii_ge_f (lt32 (by omega) (by omega))) ?_
        refine XS.aloadN Xl.here hexec rfl (hb hbytes d10) rfl rfl ?_
        refine XS.iloadN Xl.here hexec rfl (hb hbytes d11) rfl ?_
        exact Steps.refl _)
      have c4 : Steps p.tables e below (s₁.setTop (entryFrame m #[.ref b, .int (Int32.ofNat o), .ref d, .int (Int32.ofNat q), .int (Int32.ofNat len)] 7)) (Tl.setTop (mkF m 13 #[.val (.ref b), .val (.int (Int32.ofNat (o + i))), .val (.ref d), .val (.int (Int32.ofNat (q + i))), .val (.int (Int32.ofNat len)), .val (.int (Int32.ofNat i)), z] [.int (cv A (o + i))])) := c3.trans (by
        refine Xl.aget hexec hAl rfl (hA.get (i := o + i) (by omega)) rfl rfl (hb hbytes d12) ?_
        exact Steps.refl _)
      have c5 : Steps p.tables e below (s₁.setTop (entryFrame m #[.ref b, .int (Int32.ofNat o), .ref d, .int (Int32.ofNat q), .int (Int32.ofNat len)] 7)) (Tl.setTop (mkF m 15 #[.val (.ref b), .val (.int (Int32.ofNat (o + i))), .val (.ref d), .val (.int (Int32.ofNat (q + i))), .val (.int (Int32.ofNat len)), .val (.int (Int32.ofNat i)), .val (.int (cv A (o + i)))] [])) := c4.trans (by
        refine XS.istoreS Xl.here hexec rfl (hb hbytes d13) rfl rfl hz ?_
        exact Steps.refl _)
      have c6 : Steps p.tables e below (s₁.setTop (entryFrame m #[.ref b, .int (Int32.ofNat o), .ref d, .int (Int32.ofNat q), .int (Int32.ofNat len)] 7)) (Tl.setTop (mkF m 31 #[.val (.ref b), .val (.int (Int32.ofNat (o + i))), .val (.ref d), .val (.int (Int32.ofNat (q + i))), .val (.int (Int32.ofNat len)), .val (.int (Int32.ofNat i)), .val (.int (cv A (o + i)))] [.int (lo8 (cv A (o + i))), .int (Int32.ofNat (q + i)), .ref d])) := c5.trans (by
        refine XS.iload Xl.here hexec rfl (hb hbytes d15) rfl ?_
        refine sipushV Xl.here hexec rfl 255 (hb hbytes d17) (by decide) ?_
        refine XS.icmpYes Xl.here hexec rfl (pc0 := 20) rfl (hb hbytes d20) rfl (ii_le_t (hp i (by omega))) (by decide) rfl ?_
        refine XS.aloadN Xl.here hexec rfl (hb hbytes d26) rfl rfl ?_
        refine XS.iloadN Xl.here hexec rfl (hb hbytes d27) rfl ?_
        refine XS.iload Xl.here hexec rfl (hb hbytes d28) rfl ?_
        refine i2b Xl.here hexec rfl (hb hbytes d30) rfl ?_
        exact Steps.refl _)
      obtain ⟨T7, X7, p7, st7⟩ := Xl.aput hexec hBk rfl hlt rfl (fits_lo8 (cv A (o + i))) (g := (mkF m 31 #[.val (.ref b), .val (.int (Int32.ofNat (o + i))), .val (.ref d), .val (.int (Int32.ofNat (q + i))), .val (.int (Int32.ofNat len)), .val (.int (Int32.ofNat i)), .val (.int (cv A (o + i)))] [.int (lo8 (cv A (o + i))), .int (Int32.ofNat (q + i)), .ref d])) rfl (rest := []) rfl (hb hbytes d31)
      have c8 : Steps p.tables e below (s₁.setTop (entryFrame m #[.ref b, .int (Int32.ofNat o), .ref d, .int (Int32.ofNat q), .int (Int32.ofNat len)] 7)) (T7.setTop (mkF m 32 #[.val (.ref b), .val (.int (Int32.ofNat (o + i))), .val (.ref d), .val (.int (Int32.ofNat (q + i))), .val (.int (Int32.ofNat len)), .val (.int (Int32.ofNat i)), .val (.int (cv A (o + i)))] [])) := c6.trans (st7 _ (Steps.refl _))
      have c9 : Steps p.tables e below (s₁.setTop (entryFrame m #[.ref b, .int (Int32.ofNat o), .ref d, .int (Int32.ofNat q), .int (Int32.ofNat len)] 7)) (T7.setTop (mkF m 3 #[.val (.ref b), .val (.int (Int32.ofNat (o + i) + 1)), .val (.ref d), .val (.int (Int32.ofNat (q + i) + 1)), .val (.int (Int32.ofNat len)), .val (.int (Int32.ofNat i + 1)), .val (.int (cv A (o + i)))] [])) := c8.trans (by
        refine iincV X7.here hexec rfl 1 (hb hbytes d32) (by decide) rfl rfl ?_
        refine iincV X7.here hexec rfl 1 (hb hbytes d35) (by decide) rfl rfl ?_
        refine iincV X7.here hexec rfl 1 (hb hbytes d38) (by decide) rfl rfl ?_
        refine XS.goto X7.here hexec rfl (pc0 := 41) rfl (hb hbytes d41) (by decide) rfl ?_
        exact Steps.refl _)
      have c10 : Steps p.tables e below (s₁.setTop (entryFrame m #[.ref b, .int (Int32.ofNat o), .ref d, .int (Int32.ofNat q), .int (Int32.ofNat len)] 7)) (T7.setTop (mkF m 3 #[.val (.ref b), .val (.int (Int32.ofNat (o + (i + 1)))), .val (.ref d), .val (.int (Int32.ofNat (q + (i + 1)))), .val (.int (Int32.ofNat len)), .val (.int (Int32.ofNat (i + 1))), .val (.int (cv A (o + i)))] [])) := by
        have := c9
        rw [succ32, succ32, succ32] at this
        exact this
      exact ih (i + 1) (by omega) _ (Or.inr ⟨_, rfl, rfl⟩) T7 _ (by rw [copyLocs_step, ← List.append_assoc]; exact X7) (pl.trans p7) (fl.step (by omega) hlt (by simp)) c10
  obtain ⟨T9, B9, z9, X9, p9, f9, g9⟩ := loop len 0 (by omega) .unset (Or.inl rfl) s₁ B (by simpa [copyLocs] using X0) ⟨hB0.1, fun _ _ => rfl, rfl⟩ (Laid.zero _ _ _) c2
  have c11 : Steps p.tables e below (s₁.setTop (entryFrame m #[.ref b, .int (Int32.ofNat o), .ref d, .int (Int32.ofNat q), .int (Int32.ofNat len)] 7)) (T9.setTop (mkF m 46 #[.val (.ref b), .val (.int (Int32.ofNat (o + len))), .val (.ref d), .val (.int (Int32.ofNat (q + len))), .val (.int (Int32.ofNat len)), .val (.int (Int32.ofNat len)), z9] [.int (Int32.ofNat len)])) := g9.trans (by
    refine XS.iload X9.here hexec rfl (hb hbytes d3) rfl ?_
    refine XS.iload X9.here hexec rfl (hb hbytes d5) rfl ?_
    refine XS.icmpYes X9.here hexec rfl (pc0 := 7) rfl (hb hbytes d7) rfl (ii_ge_t (nlt32 (by omega) (Nat.le_refl _))) (by decide) rfl ?_
    refine XS.iload X9.here hexec rfl (hb hbytes d44) rfl ?_
    exact Steps.refl _)
  exact ⟨T9, some (.int (Int32.ofNat len)), _, _, _, X9, by simp, rfl, rfl, (fun h => by cases h), ⟨rfl, B9, p9.from hh0, f9⟩, fun fs hl => c11.trans (X9.ireturnOut hexec hret rfl (Or.inl rfl) (hb hbytes d46) hl)⟩
end Cmp5
namespace Cmp3
def yN : MethodName := ⟨"java/lang/StringUTF16", "compress", "([CII)[B"⟩
abbrev yB : ByteArray := jdk_52_method_16_code
theorem d0 : decode yB 0 = .ok (.iload_n 2, 1) := by decide +kernel
theorem d1 : decode yB 1 = .ok (.newarray .byte, 2) := by decide +kernel
theorem d3 : decode yB 3 = .ok (.astore_n 3, 1) := by decide +kernel
theorem d4 : decode yB 4 = .ok (.aload_n 0, 1) := by decide +kernel
theorem d5 : decode yB 5 = .ok (.iload_n 1, 1) := by decide +kernel
theorem d6 : decode yB 6 = .ok (.aload_n 3, 1) := by decide +kernel
theorem d7 : decode yB 7 = .ok (.iconst 0, 1) := by decide +kernel
theorem d8 : decode yB 8 = .ok (.iload_n 2, 1) := by decide +kernel
theorem d9 : decode yB 9 = .ok (.invokestatic 115, 3) := by decide +kernel
theorem d12 : decode yB 12 = .ok (.istore 4, 2) := by decide +kernel
theorem d14 : decode yB 14 = .ok (.iload 4, 2) := by decide +kernel
theorem d16 : decode yB 16 = .ok (.iload_n 2, 1) := by decide +kernel
theorem d17 : decode yB 17 = .ok (.if_icmp (.eq) 40, 3) := by decide +kernel
theorem d57 : decode yB 57 = .ok (.aload_n 3, 1) := by decide +kernel
theorem d58 : decode yB 58 = .ok (.areturn, 1) := by decide +kernel
def site : List Cond := [.arrayClass .byte, Cmp5.tab] ++ staticW U16 115 Cmp5.yN
def tab : Cond := tabOf yN yB 6 (some (.array .byte)) site
def P (b : Addr) (A : Cell) (o len : Nat) (args : Array Value) (s : State) : Prop := args = #[.ref b, .int (Int32.ofNat o), .int (Int32.ofNat len)] ∧ Ch b A s ∧ o + len ≤ A.slots.size ∧ len ≤ 536870912 ∧ ∀ i, i < len → ¬ 255 < cv A (o + i)
def E (b : Addr) (A : Cell) (o len : Nat) (r : Option Value) (s u : State) : Prop := NewArr .byte "[B" len (fun j => .int (lo8 (cv A (o + j)))) r s u ∧ u.heap.size = s.heap.size + 1
/-- no char of the range above 255: a new byte[] of their low bytes -/
theorem law (l : Launch) (b : Addr) (A : Cell) (o len : Nat) : Law l yN 3 3 1 18 yB 6 (some (.array .byte)) site (P b A o len) (E b A o len) [] 1 len := by
  refine Law.of_walk (plainFor_of_name (by decide +kernel)) (by decide +kernel) (by decide +kernel) (by decide) (fun _ _ h => by rw [h.1]; rfl) (fun _ U U' hal hh h => ⟨h.1, h.2.1.mv hal hh, h.2.2⟩) (fun r U U' V V' h1 hal h2 h => ⟨NewArr.mv r U U' V V' h1 hal h2 h.1, by rw [h1, h2]; exact h.2⟩) ?_
  intro p e s m args below meth c s₁ X0 hexec hbytes hml hret hlk hnm hown hh0 W hP
  obtain ⟨rfl, hA, l1, l2, hp⟩ := hP
  have a31 := hA.1.2.2.2
  have c1 : Steps p.tables e below (s₁.setTop (entryFrame m #[.ref b, .int (Int32.ofNat o), .int (Int32.ofNat len)] 6)) (s₁.setTop (mkF m 0 #[.val (.ref b), .val (.int (Int32.ofNat o)), .val (.int (Int32.ofNat len)), .unset, .unset, .unset] [])) := entry rfl
  have c2 : Steps p.tables e below (s₁.setTop (entryFrame m #[.ref b, .int (Int32.ofNat o), .int (Int32.ofNat len)] 6)) (s₁.setTop (mkF m 1 #[.val (.ref b), .val (.int (Int32.ofNat o)), .val (.int (Int32.ofNat len)), .unset, .unset, .unset] [.int (Int32.ofNat len)])) := c1.trans (by
    refine XS.iloadN X0.here hexec rfl (hb hbytes d0) rfl ?_
    exact Steps.refl _)
  obtain ⟨T3, B3, X3, ba3, bs3, bv3, bh3, bf3, st3⟩ := X0.anew hexec (atype := .byte) (wk W (.arrayClass .byte)) rfl (by show len * 1 ≤ _; omega) (by omega) (g := (mkF m 1 #[.val (.ref b), .val (.int (Int32.ofNat o)), .val (.int (Int32.ofNat len)), .unset, .unset, .unset] [.int (Int32.ofNat len)])) rfl (hb hbytes d1) (rest := []) rfl (Nat.le_refl _) (by show 0 + len ≤ len; omega)
  rw [hh0] at ba3 st3
  have kp3 : XT.Kept s T3 := (XT.Kept.of_eq hh0).push bh3
  have hA3 := hA.keep X3.warmed.alike (kp3 _ _ hA.1.1)
  have hne : b ≠ s.heap.size := hA.1.ne
  have c4 : Steps p.tables e below (s₁.setTop (entryFrame m #[.ref b, .int (Int32.ofNat o), .int (Int32.ofNat len)] 6)) (T3.setTop (mkF m 3 #[.val (.ref b), .val (.int (Int32.ofNat o)), .val (.int (Int32.ofNat len)), .unset, .unset, .unset] [.ref s.heap.size])) := c2.trans (st3 _ (Steps.refl _))
  have c5 : Steps p.tables e below (s₁.setTop (entryFrame m #[.ref b, .int (Int32.ofNat o), .int (Int32.ofNat len)] 6)) (T3.setTop (mkF m 9 #[.val (.ref b), .val (.int (Int32.ofNat o)), .val (.int (Int32.ofNat len)), .val (.ref s.heap.size), .unset, .unset] [.int (Int32.ofNat len), .int 0, .ref s.heap.size, .int (Int32.ofNat o), .ref b])) := c4.trans (by
    refine XS.astoreN X3.here hexec rfl (hb hbytes d3) rfl rfl rfl ?_
    refine XS.aloadN X3.here hexec rfl (hb hbytes d4) rfl rfl ?_
    refine XS.iloadN X3.here hexec rfl (hb hbytes d5) rfl ?_
    refine XS.aloadN X3.here hexec rfl (hb hbytes d6) rfl rfl ?_
    refine iconstV X3.here hexec rfl 0 (hb hbytes d7) (by decide) ?_
    refine XS.iloadN X3.here hexec rfl (hb hbytes d8) rfl ?_
    exact Steps.refl _)
  obtain ⟨v6, T6, X6, E6, g6⟩ := X3.callS hexec (Cmp5.law l b A s.heap.size B3 o 0 len) hown (wks W (staticW U16 115 Cmp5.yN)) (wk W Cmp5.tab) (W := 0) (Nat.le_of_ble_eq_true rfl) (Nat.le_of_ble_eq_true rfl) (Nat.le_refl _) (by show 0 + len + 0 ≤ len; omega) (g := (mkF m 9 #[.val (.ref b), .val (.int (Int32.ofNat o)), .val (.int (Int32.ofNat len)), .val (.ref s.heap.size), .unset, .unset] [.int (Int32.ofNat len), .int (Int32.ofNat 0), .ref s.heap.size, .int (Int32.ofNat o), .ref b])) rfl (by rw [hml]; rfl) c5 (argsL := [.ref b, .int (Int32.ofNat o), .ref s.heap.size, .int (Int32.ofNat 0), .int (Int32.ofNat len)]) (rest := []) rfl rfl (by show 2 * 0 + 0 ≤ _; decide) (hb hbytes d9) (⟨rfl, hA3, ba3, hne, l1, by rw [bs3]; simp, hp⟩)
  obtain ⟨rfl, B6, p6, f6⟩ := E6
  have c7 : Steps p.tables e below (s₁.setTop (entryFrame m #[.ref b, .int (Int32.ofNat o), .int (Int32.ofNat len)] 6)) (T6.setTop (mkF m 12 #[.val (.ref b), .val (.int (Int32.ofNat o)), .val (.int (Int32.ofNat len)), .val (.ref s.heap.size), .unset, .unset] [.int (Int32.ofNat len)])) := g6
  have c8 : Steps p.tables e below (s₁.setTop (entryFrame m #[.ref b, .int (Int32.ofNat o), .int (Int32.ofNat len)] 6)) (T6.setTop (mkF m 58 #[.val (.ref b), .val (.int (Int32.ofNat o)), .val (.int (Int32.ofNat len)), .val (.ref s.heap.size), .val (.int (Int32.ofNat len)), .unset] [.ref s.heap.size])) := c7.trans (by
    refine XS.istore X6.here hexec rfl (hb hbytes d12) rfl rfl ?_
    refine XS.iload X6.here hexec rfl (hb hbytes d14) rfl ?_
    refine XS.iloadN X6.here hexec rfl (hb hbytes d16) rfl ?_
    refine XS.icmpYes X6.here hexec rfl (pc0 := 17) rfl (hb hbytes d17) rfl (ii_eq_t rfl) (by decide) rfl ?_
    refine XS.aloadN X6.here hexec rfl (hb hbytes d57) rfl rfl ?_
    exact Steps.refl _)
  have X8 := X6.wide (L' := []) (cells' := 1) (slots' := len) (fun x hx hlt => by
    simp only [List.nil_append, copyLocs, List.mem_map, List.mem_range] at hx
    obtain ⟨i, -, rfl⟩ := hx
    exact absurd hlt (Nat.lt_irrefl _)) (Nat.le_refl _) (by omega)
  exact ⟨T6, some (.ref s.heap.size), _, _, _, X8, rfl, rfl, rfl, (fun h => by cases h), ⟨⟨rfl, B6, ba3.like (X3.warmed.alike.symm.trans X6.warmed.alike) p6.1 f6.1 f6.2.1 f6.2.2.1, f6.2.1.trans bv3, by rw [X6.warmed.alike.findClass, f6.1]; exact bf3, by rw [f6.2.2.1, bs3]; simp, fun j hj => by rw [f6.2.2.2 j, if_pos (by omega)]; rfl, kp3.put p6 (Nat.le_refl _)⟩, by rw [p6.2.2, bh3, hh0]; simp⟩, fun fs hl => c8.trans (X8.areturnOut hexec rfl hret rfl (hb hbytes d58) hl)⟩
end Cmp3
namespace CodL
def yN : MethodName := ⟨"java/lang/StringUTF16", "coderFromArrayLen", "([BI)B"⟩
abbrev yB : ByteArray := jdk_52_method_15_code
theorem d0 : decode yB 0 = .ok (.iload_n 1, 1) := by decide +kernel
theorem d1 : decode yB 1 = .ok (.aload_n 0, 1) := by decide +kernel
theorem d2 : decode yB 2 = .ok (.arraylength, 1) := by decide +kernel
theorem d3 : decode yB 3 = .ok (.isub, 1) := by decide +kernel
theorem d4 : decode yB 4 = .ok (.bipush 31, 2) := by decide +kernel
theorem d6 : decode yB 6 = .ok (.iushr, 1) := by decide +kernel
theorem d7 : decode yB 7 = .ok (.i2b, 1) := by decide +kernel
theorem d8 : decode yB 8 = .ok (.ireturn, 1) := by decide +kernel
def site : List Cond := []
def tab : Cond := tabOf yN yB 2 (some .byte) site
def P (d : Addr) (B : Cell) (args : Array Value) (s : State) : Prop := args = #[.ref d, .int (Int32.ofNat B.slots.size)] ∧ Arr .byte d B s
def E (r : Option Value) (s u : State) : Prop := XT.PureE (some (.int 0)) r s u
/-- an array as long as the number of chars: LATIN1 -/
theorem law (l : Launch) (d : Addr) (B : Cell) : Law l yN 2 2 0 0 yB 2 (some .byte) site (P d B) E [] 0 0 := by
  refine Law.of_walk (plainFor_of_name (by decide +kernel)) (by decide +kernel) (by decide +kernel) (by decide) (fun _ _ h => by rw [h.1]; rfl) (fun _ U U' hal hh h => ⟨h.1, h.2.mv hal hh⟩) (fun r U U' V V' h1 hal h2 h => XT.PureE.mv r U U' V V' h1 hal h2 h) ?_
  intro p e s m args below meth c s₁ X0 hexec hbytes hml hret hlk hnm hown hh0 W hP
  obtain ⟨rfl, hB⟩ := hP
  have hB0 := hB.mv X0.warmed.alike hh0
  have c1 : Steps p.tables e below (s₁.setTop (entryFrame m #[.ref d, .int (Int32.ofNat B.slots.size)] 2)) (s₁.setTop (mkF m 0 #[.val (.ref d), .val (.int (Int32.ofNat B.slots.size))] [])) := entry rfl
  have c2 : Steps p.tables e below (s₁.setTop (entryFrame m #[.ref d, .int (Int32.ofNat B.slots.size)] 2)) (s₁.setTop (mkF m 2 #[.val (.ref d), .val (.int (Int32.ofNat B.slots.size))] [.ref d, .int (Int32.ofNat B.slots.size)])) := c1.trans (by
    refine XS.iloadN X0.here hexec rfl (hb hbytes d0) rfl ?_
    refine XS.aloadN X0.here hexec rfl (hb hbytes d1) rfl rfl ?_
    exact Steps.refl _)
  have c3 : Steps p.tables e below (s₁.setTop (entryFrame m #[.ref d, .int (Int32.ofNat B.slots.size)] 2)) (s₁.setTop (mkF m 8 #[.val (.ref d), .val (.int (Int32.ofNat B.slots.size))] [.int (lo8 (ushr (Int32.ofNat B.slots.size - Int32.ofNat B.slots.size) 31))])) := c2.trans (by
    refine X0.alen hexec hB0 rfl rfl (hb hbytes d2) ?_
    refine XS.isub X0.here hexec rfl (hb hbytes d3) rfl ?_
    refine bipushV X0.here hexec rfl 31 (hb hbytes d4) (by decide) ?_
    refine iushr X0.here hexec rfl (hb hbytes d6) rfl ?_
    refine i2b X0.here hexec rfl (hb hbytes d7) rfl ?_
    exact Steps.refl _)
  have e0 : lo8 (ushr (Int32.ofNat B.slots.size - Int32.ofNat B.slots.size) 31) = 0 := by rw [Int32.sub_self]; decide
  rw [e0] at c3
  exact ⟨s₁, some (.int 0), _, _, _, X0, rfl, rfl, rfl, (fun h => by cases h), ⟨rfl, hh0⟩, fun fs hl => c3.trans (X0.ireturnOut hexec hret rfl (Or.inr (Or.inr (Or.inl rfl))) (hb hbytes d8) hl)⟩
end CodL
/-- the String at a is Latin-1 over a new byte[] (the heap's one new cell): the low bytes of the len chars of A from o on; every cell but a is kept -/
def Got (a : Addr) (D : Cell) (fV fC : Field) (A : Cell) (o len : Nat) (r : Option Value) (s u : State) : Prop := r = none ∧ ∃ D' V : Cell, Blank "java/lang/String" a D' u ∧ Same D D' [fV.slot, fC.slot] ∧ D'.slots[fV.slot]? = some (.ref s.heap.size) ∧ D'.slots[fC.slot]? = some (.int 0) ∧ Arr .byte s.heap.size V u ∧ V.vm = .none ∧ u.vm.findClass "[B" = some V.cls ∧ V.slots.size = len ∧ (∀ j, j < len → V.slots[j]? = some (.int (lo8 (cv A (o + j))))) ∧ (∀ (y : Addr) (c : Cell), y ≠ a → s.heap[y]? = some c → u.heap[y]? = some c) ∧ u.heap.size = s.heap.size + 1
theorem Got.mv {a : Addr} {D A : Cell} {fV fC : Field} {o len : Nat} : ∀ r (U U' V V' : State), U'.heap = U.heap → V.vm.Alike V'.vm → V'.heap = V.heap → Got a D fV fC A o len r U V → Got a D fV fC A o len r U' V' :=
  fun r U U' V V' h1 hal h2 ⟨e0, D', X, a1, a2, a3, a4, a5, a6, a7, a8, a9, a10, a11⟩ => ⟨e0, D', X, a1.mv hal h2, a2, by rw [h1]; exact a3, a4, by rw [h1]; exact a5.mv hal h2, a6, by rw [hal.findClass]; exact a7, a8, a9, by rw [h1, h2]; exact a10, by rw [h1, h2]; exact a11⟩
namespace New4
def yN : MethodName := ⟨"java/lang/String", "<init>", "([CIILjava/lang/Void;)V"⟩
abbrev yB : ByteArray := jdk_42_method_149_code
theorem d0 : decode yB 0 = .ok (.aload_n 0, 1) := by decide +kernel
theorem d1 : decode yB 1 = .ok (.invokespecial 1, 3) := by decide +kernel
theorem d4 : decode yB 4 = .ok (.iload_n 3, 1) := by decide +kernel
theorem d5 : decode yB 5 = .ok (.ifCond (.ne) 22, 3) := by decide +kernel
theorem d27 : decode yB 27 = .ok (.getstatic 38, 3) := by decide +kernel
theorem d30 : decode yB 30 = .ok (.ifCond (.eq) 28, 3) := by decide +kernel
theorem d33 : decode yB 33 = .ok (.aload_n 1, 1) := by decide +kernel
theorem d34 : decode yB 34 = .ok (.iload_n 2, 1) := by decide +kernel
theorem d35 : decode yB 35 = .ok (.iload_n 3, 1) := by decide +kernel
theorem d36 : decode yB 36 = .ok (.invokestatic 177, 3) := by decide +kernel
theorem d39 : decode yB 39 = .ok (.astore 5, 2) := by decide +kernel
theorem d41 : decode yB 41 = .ok (.aload_n 0, 1) := by decide +kernel
theorem d42 : decode yB 42 = .ok (.aload 5, 2) := by decide +kernel
theorem d44 : decode yB 44 = .ok (.iload_n 3, 1) := by decide +kernel
theorem d45 : decode yB 45 = .ok (.invokestatic 47, 3) := by decide +kernel
theorem d48 : decode yB 48 = .ok (.putfield 15, 3) := by decide +kernel
theorem d51 : decode yB 51 = .ok (.aload_n 0, 1) := by decide +kernel
theorem d52 : decode yB 52 = .ok (.aload 5, 2) := by decide +kernel
theorem d54 : decode yB 54 = .ok (.putfield 9, 3) := by decide +kernel
theorem d57 : decode yB 57 = .ok (.return_, 1) := by decide +kernel
def site : List Cond := [.fieldLink "java/lang/String" 38 "java/lang/String" "COMPACT_STRINGS" "Z", Cmp3.tab, CodL.tab, .laysFinal "java/lang/String" "java/lang/String" "value" "[B", .fieldLink "java/lang/String" 9 "java/lang/String" "value" "[B", .laysFinal "java/lang/String" "java/lang/String" "coder" "B", .fieldLink "java/lang/String" 15 "java/lang/String" "coder" "B"] ++ objW "java/lang/String" 1 ++ staticW "java/lang/String" 177 Cmp3.yN ++ staticW "java/lang/String" 47 CodL.yN
def tab : Cond := tabOf yN yB 6 none site
def P (a : Addr) (D : Cell) (fV fC : Field) (b : Addr) (A : Cell) (z : Int32) (o len : Nat) (args : Array Value) (s : State) : Prop := args = #[.ref a, .ref b, .int (Int32.ofNat o), .int (Int32.ofNat len), .null] ∧ Blank "java/lang/String" a D s ∧ Found "java/lang/String" "value" "[B" fV s ∧ Found "java/lang/String" "coder" "B" fC s ∧ Ch b A s ∧ StaticIs s "java/lang/String" "COMPACT_STRINGS" "Z" (.int z) ∧ ¬ z = 0 ∧ 0 < len ∧ o + len ≤ A.slots.size ∧ len ≤ 536870912 ∧ ∀ i, i < len → ¬ 255 < cv A (o + i)
def E (a : Addr) (D : Cell) (fV fC : Field) (A : Cell) (o len : Nat) (r : Option Value) (s u : State) : Prop := Got a D fV fC A o len r s u
/-- len > 0, no char of the range above 255: a Latin-1 String of their low bytes -/
theorem law (l : Launch) (a : Addr) (D : Cell) (fV fC : Field) (b : Addr) (A : Cell) (z : Int32) (o len : Nat) : Law l yN 5 4 2 35 yB 6 none site (P a D fV fC b A z o len) (E a D fV fC A o len) [⟨a, fC.slot⟩, ⟨a, fV.slot⟩] 1 len := by
  refine Law.of_walk (plainFor_of_name (by decide +kernel)) (by decide +kernel) (by decide +kernel) (by decide) (fun _ _ h => by rw [h.1]; rfl) (fun _ U U' hal hh h => ⟨h.1, h.2.1.mv hal hh, h.2.2.1.al hal, h.2.2.2.1.al hal, h.2.2.2.2.1.mv hal hh, h.2.2.2.2.2.1.there hal hh, h.2.2.2.2.2.2⟩) (fun r U U' V V' h1 hal h2 h => Got.mv r U U' V V' h1 hal h2 h) ?_
  intro p e s m args below meth c s₁ X0 hexec hbytes hml hret hlk hnm hown hh0 W hP
  obtain ⟨rfl, hB, f1, f2, hA, s1, hz, l0, l1, l2, hp⟩ := hP
  have a31 := hA.1.2.2.2
  have c1 : Steps p.tables e below (s₁.setTop (entryFrame m #[.ref a, .ref b, .int (Int32.ofNat o), .int (Int32.ofNat len), .null] 6)) (s₁.setTop (mkF m 0 #[.val (.ref a), .val (.ref b), .val (.int (Int32.ofNat o)), .val (.int (Int32.ofNat len)), .val .null, .unset] [])) := entry rfl
  have c2 : Steps p.tables e below (s₁.setTop (entryFrame m #[.ref a, .ref b, .int (Int32.ofNat o), .int (Int32.ofNat len), .null] 6)) (s₁.setTop (mkF m 1 #[.val (.ref a), .val (.ref b), .val (.int (Int32.ofNat o)), .val (.int (Int32.ofNat len)), .val .null, .unset] [.ref a])) := c1.trans (by
    refine XS.aloadN X0.here hexec rfl (hb hbytes d0) rfl rfl ?_
    exact Steps.refl _)
  obtain ⟨T3, X3, q3, st3⟩ := X0.oinit hexec hown (wks W (objW "java/lang/String" 1)) (g := (mkF m 1 #[.val (.ref a), .val (.ref b), .val (.int (Int32.ofNat o)), .val (.int (Int32.ofNat len)), .val .null, .unset] [.ref a])) rfl (by rw [hml]; rfl) (rest := []) rfl (hb hbytes d1) (W := 0) (by show 2 * 0 + 0 ≤ _; decide) (Nat.le_of_ble_eq_true rfl) (Nat.le_of_ble_eq_true rfl)
  have hh3 := q3.trans hh0
  have c4 : Steps p.tables e below (s₁.setTop (entryFrame m #[.ref a, .ref b, .int (Int32.ofNat o), .int (Int32.ofNat len), .null] 6)) (T3.setTop (mkF m 27 #[.val (.ref a), .val (.ref b), .val (.int (Int32.ofNat o)), .val (.int (Int32.ofNat len)), .val .null, .unset] [])) := (c2.trans (st3 _ (Steps.refl _))).trans (by
    refine XS.iloadN X3.here hexec rfl (hb hbytes d4) rfl ?_
    refine XS.ifYes X3.here hexec rfl (pc0 := 5) rfl (hb hbytes d5) rfl (i0_ne_t (nz32 (by omega) l0)) (by decide) rfl ?_
    exact Steps.refl _)
  obtain ⟨T5, X5, q5, st5⟩ := X3.sget hexec hown (wk W (.fieldLink "java/lang/String" 38 "java/lang/String" "COMPACT_STRINGS" "Z")) s1 (fun _ _ h => by rw [hh3]; exact h) (g := (mkF m 27 #[.val (.ref a), .val (.ref b), .val (.int (Int32.ofNat o)), .val (.int (Int32.ofNat len)), .val .null, .unset] [])) rfl (hb hbytes d27)
  have hh5 := q5.trans hh3
  have c6 : Steps p.tables e below (s₁.setTop (entryFrame m #[.ref a, .ref b, .int (Int32.ofNat o), .int (Int32.ofNat len), .null] 6)) (T5.setTop (mkF m 30 #[.val (.ref a), .val (.ref b), .val (.int (Int32.ofNat o)), .val (.int (Int32.ofNat len)), .val .null, .unset] [.int z])) := c4.trans (st5 _ (Steps.refl _))
  have c7 : Steps p.tables e below (s₁.setTop (entryFrame m #[.ref a, .ref b, .int (Int32.ofNat o), .int (Int32.ofNat len), .null] 6)) (T5.setTop (mkF m 36 #[.val (.ref a), .val (.ref b), .val (.int (Int32.ofNat o)), .val (.int (Int32.ofNat len)), .val .null, .unset] [.int (Int32.ofNat len), .int (Int32.ofNat o), .ref b])) := c6.trans (by
    refine XS.ifNo X5.here hexec rfl (hb hbytes d30) rfl (i0_eq_f hz) ?_
    refine XS.aloadN X5.here hexec rfl (hb hbytes d33) rfl rfl ?_
    refine XS.iloadN X5.here hexec rfl (hb hbytes d34) rfl ?_
    refine XS.iloadN X5.here hexec rfl (hb hbytes d35) rfl ?_
    exact Steps.refl _)
  obtain ⟨v8, T8, X8, E8, g8⟩ := X5.callS hexec (Cmp3.law l b A o len) hown (wks W (staticW "java/lang/String" 177 Cmp3.yN)) (wk W Cmp3.tab) (W := 0) (Nat.le_of_ble_eq_true rfl) (Nat.le_of_ble_eq_true rfl) (Nat.le_refl _) (by show 0 + len ≤ len; omega) (g := (mkF m 36 #[.val (.ref a), .val (.ref b), .val (.int (Int32.ofNat o)), .val (.int (Int32.ofNat len)), .val .null, .unset] [.int (Int32.ofNat len), .int (Int32.ofNat o), .ref b])) rfl (by rw [hml]; rfl) c7 (argsL := [.ref b, .int (Int32.ofNat o), .int (Int32.ofNat len)]) (rest := []) rfl rfl (by show 2 * 0 + 0 ≤ _; decide) (hb hbytes d36) (⟨rfl, hA.mv X5.warmed.alike hh5, l1, l2, hp⟩)
  obtain ⟨e8, z8⟩ := E8
  obtain ⟨rfl, N, n1, n2, n3, n4, n5, n6⟩ := NewArr.mv _ T5 s _ _ hh5.symm (Vm.Alike.refl _) rfl e8
  rw [hh5] at z8
  have hB1 := hB.keep X8.warmed.alike (n6 _ _ hB.1)
  have hne : s.heap.size ≠ a := (Nat.ne_of_lt (Array.getElem?_eq_some_iff.mp hB.1).1).symm
  have c9 : Steps p.tables e below (s₁.setTop (entryFrame m #[.ref a, .ref b, .int (Int32.ofNat o), .int (Int32.ofNat len), .null] 6)) (T8.setTop (mkF m 39 #[.val (.ref a), .val (.ref b), .val (.int (Int32.ofNat o)), .val (.int (Int32.ofNat len)), .val .null, .unset] [.ref s.heap.size])) := g8
  have c10 : Steps p.tables e below (s₁.setTop (entryFrame m #[.ref a, .ref b, .int (Int32.ofNat o), .int (Int32.ofNat len), .null] 6)) (T8.setTop (mkF m 45 #[.val (.ref a), .val (.ref b), .val (.int (Int32.ofNat o)), .val (.int (Int32.ofNat len)), .val .null, .val (.ref s.heap.size)] [.int (Int32.ofNat N.slots.size), .ref s.heap.size, .ref a])) := by
    have hc : Steps p.tables e below (s₁.setTop (entryFrame m #[.ref a, .ref b, .int (Int32.ofNat o), .int (Int32.ofNat len), .null] 6)) (T8.setTop (mkF m 45 #[.val (.ref a), .val (.ref b), .val (.int (Int32.ofNat o)), .val (.int (Int32.ofNat len)), .val .null, .val (.ref s.heap.size)] [.int (Int32.ofNat len), .ref s.heap.size, .ref a])) := c9.trans (by
      refine XS.astore X8.here hexec rfl (hb hbytes d39) rfl rfl rfl ?_
      refine XS.aloadN X8.here hexec rfl (hb hbytes d41) rfl rfl ?_
      refine XS.aload X8.here hexec rfl (hb hbytes d42) rfl rfl ?_
      refine XS.iloadN X8.here hexec rfl (hb hbytes d44) rfl ?_
      exact Steps.refl _)
    rw [n4]; exact hc
  obtain ⟨v11, T11, X11, E11, g11⟩ := X8.callS hexec (CodL.law l s.heap.size N) hown (wks W (staticW "java/lang/String" 47 CodL.yN)) (wk W CodL.tab) (W := 1) (Nat.le_of_ble_eq_true rfl) (Nat.le_of_ble_eq_true rfl) (Nat.le_refl _) (by show 0 + len + 0 ≤ len; omega) (g := (mkF m 45 #[.val (.ref a), .val (.ref b), .val (.int (Int32.ofNat o)), .val (.int (Int32.ofNat len)), .val .null, .val (.ref s.heap.size)] [.int (Int32.ofNat N.slots.size), .ref s.heap.size, .ref a])) rfl (by rw [hml]; rfl) c10 (argsL := [.ref s.heap.size, .int (Int32.ofNat N.slots.size)]) (rest := [.ref a]) rfl rfl (by show 2 * 0 + (1 + 0) ≤ _; decide) (hb hbytes d45) (⟨rfl, n1⟩)
  obtain ⟨rfl, q11⟩ := E11
  have hB11 := hB1.mv (X8.warmed.alike.symm.trans X11.warmed.alike) q11
  have c12 : Steps p.tables e below (s₁.setTop (entryFrame m #[.ref a, .ref b, .int (Int32.ofNat o), .int (Int32.ofNat len), .null] 6)) (T11.setTop (mkF m 48 #[.val (.ref a), .val (.ref b), .val (.int (Int32.ofNat o)), .val (.int (Int32.ofNat len)), .val .null, .val (.ref s.heap.size)] [.int 0, .ref a])) := g11
  obtain ⟨T13, X13, p13, bl13, sl13, st13⟩ := X11.finit hexec hown (wk W (.fieldLink "java/lang/String" 15 "java/lang/String" "coder" "B")) (Or.inr ⟨_, (wk W (.laysFinal "java/lang/String" "java/lang/String" "coder" "B"))⟩) (Or.inl ⟨rfl, hnm⟩) f2 (Or.inl rfl) hB11 (t := .byte) (by decide +kernel) rfl (g := (mkF m 48 #[.val (.ref a), .val (.ref b), .val (.int (Int32.ofNat o)), .val (.int (Int32.ofNat len)), .val .null, .val (.ref s.heap.size)] [.int 0, .ref a])) rfl (rest := []) rfl (hb hbytes d48)
  have c14 : Steps p.tables e below (s₁.setTop (entryFrame m #[.ref a, .ref b, .int (Int32.ofNat o), .int (Int32.ofNat len), .null] 6)) (T13.setTop (mkF m 54 #[.val (.ref a), .val (.ref b), .val (.int (Int32.ofNat o)), .val (.int (Int32.ofNat len)), .val .null, .val (.ref s.heap.size)] [.ref s.heap.size, .ref a])) := (c12.trans (st13 _ (Steps.refl _))).trans (by
    refine XS.aloadN X13.here hexec rfl (hb hbytes d51) rfl rfl ?_
    refine XS.aload X13.here hexec rfl (hb hbytes d52) rfl rfl ?_
    exact Steps.refl _)
  obtain ⟨T15, X15, p15, bl15, sl15, st15⟩ := X13.finit hexec hown (wk W (.fieldLink "java/lang/String" 9 "java/lang/String" "value" "[B")) (Or.inr ⟨_, (wk W (.laysFinal "java/lang/String" "java/lang/String" "value" "[B"))⟩) (Or.inl ⟨rfl, hnm⟩) f1 (Or.inl rfl) bl13 (t := (.array .byte)) (by decide +kernel) rfl (g := (mkF m 54 #[.val (.ref a), .val (.ref b), .val (.int (Int32.ofNat o)), .val (.int (Int32.ofNat len)), .val .null, .val (.ref s.heap.size)] [.ref s.heap.size, .ref a])) rfl (rest := []) rfl (hb hbytes d54)
  have c16 : Steps p.tables e below (s₁.setTop (entryFrame m #[.ref a, .ref b, .int (Int32.ofNat o), .int (Int32.ofNat len), .null] 6)) (T15.setTop (mkF m 57 #[.val (.ref a), .val (.ref b), .val (.int (Int32.ofNat o)), .val (.int (Int32.ofNat len)), .val .null, .val (.ref s.heap.size)] [])) := c14.trans (st15 _ (Steps.refl _))
  have ap := apart (Or.inr ⟨_, (wk W (.laysFinal "java/lang/String" "java/lang/String" "value" "[B"))⟩) (Or.inr ⟨_, (wk W (.laysFinal "java/lang/String" "java/lang/String" "coder" "B"))⟩) f1 f2 (t₁ := .array .byte) (t₂ := .byte) (by decide +kernel) (by decide +kernel) (by decide)
  have al := X8.warmed.alike.symm.trans X15.warmed.alike
  have n7 : T11.heap[s.heap.size]? = some N := by rw [q11]; exact n1.1
  exact ⟨T15, none, _, _, _, X15, by simp, rfl, by omega, (fun _ => rfl), ⟨rfl, _, N, bl15, ((Same.refl D _).set _ (by simp)).set _ (by simp), sl15, (Cell.slots_setSlot_ne _ ap).trans sl13, n1.keep al (p15.other hne (p13.other hne n7)), n2, by rw [al.findClass]; exact n3, n4, n5, fun y c h1 h2 => p15.other h1 (p13.other h1 (by rw [q11]; exact n6 y c h2)), by rw [p15.2.2, p13.2.2, q11]; exact z8⟩, fun fs hl => c16.trans (X15.returnOut hexec hret (hb hbytes d57) hl)⟩
end New4
namespace New1
def yN : MethodName := ⟨"java/lang/String", "<init>", "([C)V"⟩
abbrev yB : ByteArray := jdk_42_method_3_code
theorem d0 : decode yB 0 = .ok (.aload_n 0, 1) := by decide +kernel
theorem d1 : decode yB 1 = .ok (.aload_n 1, 1) := by decide +kernel
theorem d2 : decode yB 2 = .ok (.iconst 0, 1) := by decide +kernel
theorem d3 : decode yB 3 = .ok (.aload_n 1, 1) := by decide +kernel
theorem d4 : decode yB 4 = .ok (.arraylength, 1) := by decide +kernel
theorem d5 : decode yB 5 = .ok (.aconst_null, 1) := by decide +kernel
theorem d6 : decode yB 6 = .ok (.invokespecial 27, 3) := by decide +kernel
theorem d9 : decode yB 9 = .ok (.return_, 1) := by decide +kernel
def site : List Cond := [New4.tab] ++ initW "java/lang/String" 27 New4.yN
def tab : Cond := tabOf yN yB 2 none site
def P (a : Addr) (D : Cell) (fV fC : Field) (b : Addr) (A : Cell) (z : Int32) (args : Array Value) (s : State) : Prop := args = #[.ref a, .ref b] ∧ Blank "java/lang/String" a D s ∧ Found "java/lang/String" "value" "[B" fV s ∧ Found "java/lang/String" "coder" "B" fC s ∧ Ch b A s ∧ StaticIs s "java/lang/String" "COMPACT_STRINGS" "Z" (.int z) ∧ ¬ z = 0 ∧ 0 < A.slots.size ∧ A.slots.size ≤ 536870912 ∧ ∀ i, i < A.slots.size → ¬ 255 < cv A i
def E (a : Addr) (D : Cell) (fV fC : Field) (A : Cell) (r : Option Value) (s u : State) : Prop := Got a D fV fC A 0 A.slots.size r s u
/-- new String(chars), not empty, no char above 255: a Latin-1 String of their low bytes -/
theorem law (l : Launch) (a : Addr) (D : Cell) (fV fC : Field) (b : Addr) (A : Cell) (z : Int32) : Law l yN 2 1 3 52 yB 2 none site (P a D fV fC b A z) (E a D fV fC A) [⟨a, fC.slot⟩, ⟨a, fV.slot⟩] 1 A.slots.size := by
  refine Law.of_walk (plainFor_of_name (by decide +kernel)) (by decide +kernel) (by decide +kernel) (by decide) (fun _ _ h => by rw [h.1]; rfl) (fun _ U U' hal hh h => ⟨h.1, h.2.1.mv hal hh, h.2.2.1.al hal, h.2.2.2.1.al hal, h.2.2.2.2.1.mv hal hh, h.2.2.2.2.2.1.there hal hh, h.2.2.2.2.2.2⟩) (fun r U U' V V' h1 hal h2 h => Got.mv r U U' V V' h1 hal h2 h) ?_
  intro p e s m args below meth c s₁ X0 hexec hbytes hml hret hlk hnm hown hh0 W hP
  obtain ⟨rfl, hB, f1, f2, hA, s1, hz, l0, l2, hp⟩ := hP
  have c1 : Steps p.tables e below (s₁.setTop (entryFrame m #[.ref a, .ref b] 2)) (s₁.setTop (mkF m 0 #[.val (.ref a), .val (.ref b)] [])) := entry rfl
  have c2 : Steps p.tables e below (s₁.setTop (entryFrame m #[.ref a, .ref b] 2)) (s₁.setTop (mkF m 6 #[.val (.ref a), .val (.ref b)] [.null, .int (Int32.ofNat A.slots.size), .int 0, .ref b, .ref a])) := c1.trans (by
    refine XS.aloadN X0.here hexec rfl (hb hbytes d0) rfl rfl ?_
    refine XS.aloadN X0.here hexec rfl (hb hbytes d1) rfl rfl ?_
    refine iconstV X0.here hexec rfl 0 (hb hbytes d2) (by decide) ?_
    refine XS.aloadN X0.here hexec rfl (hb hbytes d3) rfl rfl ?_
    refine X0.alen hexec (hA.1.mv X0.warmed.alike hh0) rfl rfl (hb hbytes d4) ?_
    refine XS.aconstNull X0.here hexec rfl (hb hbytes d5) ?_
    exact Steps.refl _)
  obtain ⟨v3, T3, X3, E3, g3⟩ := X0.callN hexec (New4.law l a D fV fC b A z 0 A.slots.size) rfl hown (wks W (initW "java/lang/String" 27 New4.yN)) (W New4.tab (by simp only [site, List.mem_cons, List.mem_append, true_or, or_true])) (W := 0) (Nat.le_of_ble_eq_true rfl) (Nat.le_of_ble_eq_true rfl) (Nat.le_refl _) (by show 0 + A.slots.size ≤ A.slots.size; omega) (g := (mkF m 6 #[.val (.ref a), .val (.ref b)] [.null, .int (Int32.ofNat A.slots.size), .int (Int32.ofNat 0), .ref b, .ref a])) rfl (by rw [hml]; rfl) c2 (argsL := [.ref b, .int (Int32.ofNat 0), .int (Int32.ofNat A.slots.size), .null]) (rest := []) rfl rfl (by show 2 * 0 + 0 ≤ _; decide) (hb hbytes d6) (⟨rfl, hB.mv X0.warmed.alike hh0, f1.al X0.warmed.alike, f2.al X0.warmed.alike, hA.mv X0.warmed.alike hh0, s1.there X0.warmed.alike hh0, hz, l0, by omega, l2, fun i hi => by rw [Nat.zero_add]; exact hp i hi⟩)
  have e0 := Got.mv _ s₁ s _ _ hh0.symm (Vm.Alike.refl _) rfl E3
  obtain rfl := e0.1
  have c4 : Steps p.tables e below (s₁.setTop (entryFrame m #[.ref a, .ref b] 2)) (T3.setTop (mkF m 9 #[.val (.ref a), .val (.ref b)] [])) := g3
  exact ⟨T3, none, _, _, _, X3, by simp, rfl, by omega, (fun _ => rfl), e0, fun fs hl => c4.trans (X3.returnOut hexec hret (hb hbytes d9) hl)⟩
theorem pays {l : Launch} {R : Room} {p : Program} {e : Env} {below : List Frame} {s : State} {sargs : Array Value} {len W : Nat} (a : Addr) (D : Cell) (fV fC : Field) (b : Addr) (A : Cell) (z : Int32) (htab : tab.before sargs s = true) (hfr : 4 ≤ R.frames) (hlo : W + 65 ≤ R.locals) :
    Back l R p e below s sargs yN len W (fun A₁ a₁ => A₁.cells + 1 ≤ R.cells ∧ A₁.slots + A.slots.size ≤ R.slots ∧ P a D fV fC b A z a₁ A₁.U) (fun A₁ _ v₁ B₁ => E a D fV fC A v₁ A₁.U B₁.U ∧ B₁.locs = A₁.locs ++ [⟨a, fC.slot⟩, ⟨a, fV.slot⟩] ∧ B₁.cells = A₁.cells + 1 ∧ B₁.slots = A₁.slots + A.slots.size) :=
  (law l a D fV fC b A z).pays htab hfr (by omega)
end New1
end StrChars
namespace StrChars.Road
open Jvm Sem ClassFile Op Lib Jvm.Stand Jvm.Free Jvm.Free.XT
open Jvm.Lib.Cold (StaticIs)
abbrev ST : String := "java/lang/String"
/-- every table word that New1's law asks, flat -/
abbrev words : List Jvm.Cond := [.code New1.yN New1.yB 2 none, .initialized ST, .methodLink ST 27 New4.yN, .instanceMethod New4.yN,
  .code New4.yN New4.yB 6 none, .fieldLink ST 38 ST "COMPACT_STRINGS" "Z", .laysFinal ST ST "value" "[B", .fieldLink ST 9 ST "value" "[B", .laysFinal ST ST "coder" "B", .fieldLink ST 15 ST "coder" "B",
  .methodLink ST 1 Lib.objectInit, .instanceMethod Lib.objectInit, .code Lib.objectInit ⟨#[0xb1]⟩ 1 none, .methodLink ST 177 Cmp3.yN, .static Cmp3.yN, .methodLink ST 47 CodL.yN, .static CodL.yN,
  .code Cmp3.yN Cmp3.yB 6 (some (.array .byte)), .initialized U16, .arrayClass .byte, .methodLink U16 115 Cmp5.yN, .static Cmp5.yN, .code Cmp5.yN Cmp5.yB 7 (some .int), .code CodL.yN CodL.yB 2 (some .byte)]
theorem tab_of {a : Array Value} {s : State} (h : ∀ w ∈ words, w.before a s = true) : New1.tab.before a s = true := by
  have h5 : Cmp5.tab.before a s = true := unparts (wk h (.code Cmp5.yN Cmp5.yB 7 (some .int))) (wks h (.initialized Cmp5.yN.cls :: Cmp5.site))
  have hc : CodL.tab.before a s = true := unparts (wk h (.code CodL.yN CodL.yB 2 (some .byte))) (wks h (.initialized CodL.yN.cls :: CodL.site))
  have q5 : ∀ w ∈ Cmp5.tab :: words, w.before a s = true := fun w hw => (List.mem_cons.mp hw).elim (fun e => e ▸ h5) (h w)
  have h3 : Cmp3.tab.before a s = true := unparts (wk q5 (.code Cmp3.yN Cmp3.yB 6 (some (.array .byte)))) (wks q5 (.initialized Cmp3.yN.cls :: Cmp3.site))
  have q3 : ∀ w ∈ Cmp3.tab :: CodL.tab :: words, w.before a s = true := fun w hw => (List.mem_cons.mp hw).elim (fun e => e ▸ h3) fun hw => (List.mem_cons.mp hw).elim (fun e => e ▸ hc) (h w)
  have h4 : New4.tab.before a s = true := unparts (wk q3 (.code New4.yN New4.yB 6 none)) (wks q3 (.initialized New4.yN.cls :: New4.site))
  have q4 : ∀ w ∈ New4.tab :: words, w.before a s = true := fun w hw => (List.mem_cons.mp hw).elim (fun e => e ▸ h4) (h w)
  exact unparts (wk q4 (.code New1.yN New1.yB 2 none)) (wks q4 (.initialized New1.yN.cls :: New1.site))
/-- the words ride from the start Z to the walk's own state -/
theorem moved {Z s : State} {a0 args : Array Value} (hZ : Z.Warmed39 s.vm) (hw : ∀ d ∈ words, d.before a0 Z = true) : ∀ d ∈ words, d.before args s = true := fun d hd => by
  have q := hw d hd
  have t : ∀ d ∈ words, d = .arrayClass .byte ∨ (d.onTables && d.keepsFace) = true := by decide +kernel
  rcases t d hd with rfl | t
  · exact RoadKit.mvA hZ q
  · exact RoadKit.mv hZ q t
/-- WHAT COMES BACK, over the tables of the start Z: h the heap at the call, h' behind it -/
def Q (Z : State) (x : Addr) (A : Cell) (h : Heap) (v : Option Value) (h' : Heap) (L : List Loc) : Prop := v = none ∧ (∀ y ∈ L, y.base = x) ∧ RoadKit.Keep h h' [x] ∧ h'.size = h.size + 1 ∧ RoadKit.Exa Z h' x ST ∧ RoadKit.Fld Z h' x ST "value" "[B" (.ref h.size) ∧ RoadKit.Fld Z h' x ST "coder" "B" (.int 0) ∧
  (∃ V : Cell, RoadKit.Arr Z h' h.size V .byte ∧ V.vm = .none ∧ Z.vm.findClass "[B" = some V.cls ∧ V.slots.size = A.slots.size ∧ ∀ j, j < A.slots.size → V.slots[j]? = some (.int (lo8 (cv A j)))) ∧
  ∀ (O n d : String) (w : Value), RoadKit.Fld Z h x O n d w → RoadKit.slotOf Z O n d ≠ RoadKit.slotOf Z ST "value" "[B" → RoadKit.slotOf Z O n d ≠ RoadKit.slotOf Z ST "coder" "B" → RoadKit.Fld Z h' x O n d w
/-- **new String(chars) AT A CALL, IN THE ROAD'S FORM**: for specialBack behind newO: x the fresh String, b the char[] with the cell A -/
theorem back {p : Program} {l : Launch} {e : Env} {R : Room} {s : State} {args : Array Value} {below : List Frame} {len W : Nat} {Z : State} {a0 : Array Value} {h : Heap} (hZ : Z.Warmed39 s.vm) (hw : ∀ d ∈ words, d.before a0 Z = true) {kI : Nat} (wi : (Jvm.Cond.instantiable ST kI).before a0 Z = true)
    {x b : Addr} {A : Cell} {z : Int32} {v0 c0 : Value} (E : RoadKit.Exa Z h x ST) (V : RoadKit.Fld Z h x ST "value" "[B" v0) (C : RoadKit.Fld Z h x ST "coder" "B" c0) (K : RoadKit.Arr Z h b A .char) (hty : Typed .char A) (S : RoadKit.Sta Z h ST "COMPACT_STRINGS" "Z" (.int z)) (hz : ¬ z = 0)
    (l0 : 0 < A.slots.size) (l2 : A.slots.size ≤ 536870912) (hp : ∀ i, i < A.slots.size → ¬ 255 < cv A i) (hfr : 4 ≤ R.frames) (hlo : W + 65 ≤ R.locals) :
    Back l R p e below s args New1.yN len W (fun P a => a = #[.ref x, .ref b] ∧ P.U.heap = h ∧ P.cells + 1 ≤ R.cells ∧ P.slots + A.slots.size ≤ R.slots)
      (fun P _ v B => ∃ L, Q Z x A h v B.U.heap L ∧ B.locs = P.locs ++ L ∧ B.cells = P.cells + 1 ∧ B.slots = P.slots + A.slots.size) := by
  intro m meth c P g ig mk a X hg hsize hdg hW hn hp'
  obtain ⟨rfl, rfl, r1, r2⟩ := hp'
  have al : Z.vm.Alike P.U.vm := hZ.alike.trans X.warmed.alike
  obtain ⟨D, cfV, kV, iV, fV, hD, gV, stV, knV, obV, asV, slV⟩ := id V
  obtain ⟨D', cfC, kC, iC, fC, hD', gC, stC, -, -, asC, slC⟩ := id C
  cases hD.symm.trans hD'
  obtain ⟨D2, kD, e1, e2, e3, e4, e5⟩ := id E
  cases hD.symm.trans e1
  obtain ⟨c2, k2, i1, i2, i3, -⟩ := Cond.instantiable_spec wi
  cases e2.symm.trans i1
  cases e3.symm.trans i2
  obtain ⟨kU, u1, u2⟩ := al.2.2 _ _ e3
  have hB : Blank ST x D P.U := ⟨hD, ⟨knV, fun q hq => by rw [hq] at obV; cases obV⟩, by rw [al.findClass]; exact e2, kU, u1, by rw [u2]; exact i3, by rw [u2]; exact e5 i3⟩
  have F1 : Found ST "value" "[B" fV P.U := ⟨SBG.found_only al ⟨cfV, kV, iV, gV⟩, stV⟩
  have F2 : Found ST "coder" "B" fC P.U := ⟨SBG.found_only al ⟨cfC, kC, iC, gC⟩, stC⟩
  have hA : Ch b A P.U := ⟨⟨K.1, State.isArrayOf_alike al K.2.1, K.2.2, by omega⟩, hty⟩
  have hS : StaticIs P.U ST "COMPACT_STRINGS" "Z" (.int z) := by
    obtain ⟨cfS, iS, kS, fS, st, cS, t1, t2, t3, t4, t5, t6, t7⟩ := S
    exact StaticIs.there (s := { Z with heap := P.U.heap }) ⟨cfS, iS, kS, fS, st, cS, t1, t2, t3, t4, t5, (fun q => by rw [q] at t6; cases t6), t7⟩ al rfl
  obtain ⟨v, B, X', ⟨⟨hv, E', V', q1, q2, q3, q4, q5, q6, q7, q8, q9, q10, q11⟩, hl, hc, hs⟩, st⟩ := New1.pays x D fV fC b A z (tab_of (moved hZ hw)) hfr hlo m meth c P g ig mk _ X hg hsize hdg hW hn ⟨r1, r2, rfl, hB, F1, F2, hA, hS, hz, l0, l2, hp⟩
  have al' : Z.vm.Alike B.U.vm := hZ.alike.trans X'.warmed.alike
  have hsz : E'.slots.size = D.slots.size := by
    obtain ⟨-, -, -, kB, w1, w2, w3⟩ := q1
    obtain ⟨kB', y1, y2⟩ := al'.2.2 _ _ e3
    rw [q2.2.1] at w1
    cases w1.symm.trans y1
    rw [w3, e5 i3, y2]
  refine ⟨v, B, X', ⟨_, ⟨hv, ?_, ⟨by omega, fun y cy hy hn' => q10 y cy (by simpa using hn') hy, fun y cy hy => ?_⟩, q11, ⟨E', _, q1.1, by rw [q2.2.1]; exact e2, by rw [q2.2.1]; exact e3, by rw [q2.1]; exact obV, fun _ => by rw [hsz]; exact e5 i3⟩,
    ⟨E', cfV, kV, iV, fV, q1.1, gV, stV, by rw [q2.1]; exact knV, by rw [q2.1]; exact obV, by rw [q2.2.1]; exact asV, q3⟩, ⟨E', cfC, kC, iC, fC, q1.1, gC, stC, by rw [q2.1]; exact knV, by rw [q2.1]; exact obV, by rw [q2.2.1]; exact asC, q4⟩,
    ⟨V', ⟨q5.1, State.isArrayOf_alike al'.symm q5.2.1, q5.2.2.1⟩, q6, by rw [← al'.findClass]; exact q7, q8, fun j hj => by have := q9 j hj; rwa [Nat.zero_add] at this⟩, fun O n d w F n1 n2 => ?_⟩, hl, hc, hs⟩, st⟩
  · intro y hy
    simp only [List.mem_cons, List.not_mem_nil, or_false] at hy
    rcases hy with rfl | rfl <;> rfl
  · by_cases q : y = x
    · subst q
      cases hD.symm.trans hy
      exact ⟨E', q1.1, q2.2.1, q2.1, hsz⟩
    · exact ⟨cy, q10 y cy q hy, rfl, rfl, rfl⟩
  · obtain ⟨D3, cf, k, i, f, g1, g2, g3, g4, g5, g6, g7⟩ := F
    cases hD.symm.trans g1
    simp only [RoadKit.slotOf, g2, gV, gC, Option.map_some, Option.getD_some] at n1 n2
    exact ⟨E', cf, k, i, f, q1.1, g2, g3, by rw [q2.1]; exact g4, by rw [q2.1]; exact g5, by rw [q2.2.1]; exact g6, by rw [q2.2.2 f.slot (by simp [n1, n2])]; exact g7⟩
end StrChars.Road
namespace StrChars.Road
open Jvm Sem ClassFile Op Lib Jvm.Stand Jvm.Free Jvm.Free.XT
/-- WHAT COMES BACK, the byte[] as a list of values -/
def QA (Z : State) (x : Addr) (zn : Int32) (cs : List Int32) (h : Heap) (v : Option Value) (h' : Heap) (L : List Loc) : Prop := v = none ∧ (∀ y ∈ L, y.base = x) ∧ RoadKit.Keep h h' [x] ∧ h'.size = h.size + 1 ∧ RoadKit.Exa Z h' x ST ∧ RoadKit.Fld Z h' x ST "value" "[B" (.ref h.size) ∧ RoadKit.Fld Z h' x ST "coder" "B" (.int 0) ∧
  (∃ kb, Z.vm.findClass "[B" = some kb ∧ RoadKit.Arv Z h' h.size kb .byte zn (cs.map fun c => .int (lo8 c)) (.int 0)) ∧
  ∀ (O n d : String) (w : Value), RoadKit.Fld Z h x O n d w → RoadKit.slotOf Z O n d ≠ RoadKit.slotOf Z ST "value" "[B" → RoadKit.slotOf Z O n d ≠ RoadKit.slotOf Z ST "coder" "B" → RoadKit.Fld Z h' x O n d w
/-- **new String(chars) AT A CALL, THE ARRAYS AS LISTS**: the char[] at b holds cs, not empty, no char above 255 -/
theorem backArv {p : Program} {l : Launch} {e : Env} {R : Room} {s : State} {args : Array Value} {below : List Frame} {len W : Nat} {Z : State} {a0 : Array Value} {h : Heap} (hZ : Z.Warmed39 s.vm) (hw : ∀ d ∈ words, d.before a0 Z = true) {kI : Nat} (wi : (Jvm.Cond.instantiable ST kI).before a0 Z = true)
    {x b : Addr} {k : ClassId} {zn z : Int32} {cs : List Int32} {dv v0 c0 : Value} (E : RoadKit.Exa Z h x ST) (V : RoadKit.Fld Z h x ST "value" "[B" v0) (C : RoadKit.Fld Z h x ST "coder" "B" c0) (K : RoadKit.Arv Z h b k .char zn (cs.map Value.int) dv) (S : RoadKit.Sta Z h ST "COMPACT_STRINGS" "Z" (.int z)) (hz : ¬ z = 0)
    (hlen : zn.toNatClampNeg = cs.length) (h0 : 0 < cs.length) (hbig : cs.length ≤ 536870912) (hall : ∀ c ∈ cs, ¬ 255 < c) (hfr : 4 ≤ R.frames) (hlo : W + 65 ≤ R.locals) :
    Back l R p e below s args New1.yN len W (fun P a => a = #[.ref x, .ref b] ∧ P.U.heap = h ∧ P.cells + 1 ≤ R.cells ∧ P.slots + cs.length ≤ R.slots)
      (fun P _ v B => ∃ L, QA Z x zn cs h v B.U.heap L ∧ B.locs = P.locs ++ L ∧ B.cells = P.cells + 1 ∧ B.slots = P.slots + cs.length) := by
  obtain ⟨A, K1, K2, K3, K4, K5, K6⟩ := K
  have e : A.slots.size = cs.length := K3.trans hlen
  have hat : ∀ (i : Nat) (hi : i < cs.length), A.slots[i]? = some (.int cs[i]) := fun i hi => by rw [K5 i (by omega)]; simp [List.getD_eq_getElem?_getD, hi]
  have hcv : ∀ (i : Nat) (hi : i < cs.length), cv A i = cs[i] := fun i hi => by unfold cv; rw [hat i hi]
  have hty : Typed .char A := fun i v hv => by
    have hi : i < A.slots.size := (Array.getElem?_eq_some_iff.mp hv).1
    have q := K5 i hi
    rw [hv] at q
    rw [Option.some.inj q]
    exact K6 i hi
  refine Back.mono (back hZ hw wi E V C K1 hty S hz (by omega) (by omega) (fun i hi => by rw [hcv i (by omega)]; exact hall _ (List.getElem_mem _)) hfr hlo) (fun P a hp => ⟨hp.1, hp.2.1, hp.2.2.1, by rw [e]; exact hp.2.2.2⟩) (fun P a v B hp hq => ?_)
  obtain ⟨L, ⟨q1, q2, q3, q4, q5, q6, q7, ⟨V', v1, v2, v3, v4, v5⟩, q9⟩, hl, hc, hs⟩ := hq
  refine ⟨L, ⟨q1, q2, q3, q4, q5, q6, q7, ⟨V'.cls, v3, V', v1, rfl, by rw [v4, e, hlen], K4, fun i hi => ?_, fun i hi => ?_⟩, q9⟩, hl, hc, by rw [hs, e]⟩
  · have hi' : i < cs.length := by omega
    rw [v5 i (by omega), hcv i hi']; simp [List.getD_eq_getElem?_getD, hi']
  · have hi' : i < cs.length := by omega
    simp only [List.getD_eq_getElem?_getD, List.getElem?_map, List.getElem?_eq_getElem hi', Option.map_some, Option.getD_some]
    exact fits_lo8 _
end StrChars.Road
end Jvm.Pilot.@@N@@
namespace Jvm.Pilot.@@N@@
open Jvm Jvm.ClassFile Sem Op Lib Jvm.Free Jvm.Stand Jvm.LawKit Jvm.RoadKit Bundle Jvm.Pilot.@@N@@.Jvm.D
namespace Own
theorem hws_of {Z : State} {a0 : Array Value} (hw : ∀ d ∈ tables_1, d.before a0 Z = true) : ∀ d ∈ StrChars.Road.words, d.before a0 Z = true := fun d hd => hw d ((by decide +kernel : ∀ d ∈ StrChars.Road.words, d ∈ tables_1) d hd)
/-- (char) (x & 255) is 0 to 255 -/
theorem and255 (x : Int32) : ¬ nar .char ((x &&& (255 : Int32)).toUInt32.toUInt16.toUInt32.toInt32) < 0 ∧ ¬ (255 : Int32) < nar .char ((x &&& (255 : Int32)).toUInt32.toUInt16.toUInt32.toInt32) := by
  have t : ∀ k : Fin 256, ¬ nar .char ((Int32.ofNat k.val).toUInt32.toUInt16.toUInt32.toInt32) < 0 ∧ ¬ (255 : Int32) < nar .char ((Int32.ofNat k.val).toUInt32.toUInt16.toUInt32.toInt32) := by decide +kernel
  have h : (x &&& 255).toBitVec.toNat < 256 := by
    simp only [Int32.toBitVec_and, BitVec.toNat_and]
    exact Nat.lt_succ_of_le Nat.and_le_right
  have e : (x &&& 255) = Int32.ofNat (x &&& 255).toBitVec.toNat := by
    apply Int32.toBitVec_inj.mp
    show _ = BitVec.ofNat 32 _
    rw [BitVec.ofNat_toNat]; simp
  rw [e]
  exact t ⟨_, h⟩
/-- a String that spells cs -/
def StrIs (Z : State) (h : Heap) (x : Addr) (cs : List Int32) : Prop :=
  (∀ c ∈ cs, ¬ c < 0 ∧ ¬ (255 : Int32) < c) ∧ Exa Z h x "java/lang/String" ∧ Fld Z h x "java/lang/String" "coder" "B" (.int 0) ∧ ∃ (t : Addr) (kb : ClassId), Fld Z h x "java/lang/String" "value" "[B" (.ref t) ∧ Arv Z h t kb .byte (Int32.ofNat cs.length) (cs.map fun c => Value.int (StrChars.lo8 c)) (.int 0)
theorem payStr {wd : Bool} {l : Launch} {R : Room} {p : Program} {e : Env} {below : List Frame} {args : Array Value} {len W : Nat} {Z : State} {a0 : Array Value} (hw : ∀ d ∈ tables_1, d.before a0 Z = true) {n0 : Nat} {h : Heap} {V : Vm → Prop} (hV : VCl V) (wi : (Jvm.Cond.instantiable "java/lang/String" 4).before a0 Z = true)
    {x b : Addr} {kC : ClassId} {cs : List Int32} {d v0 c0 : Value} {z N : Int32} {n : Nat} (hO : Old Z n0 h) (E : Exa Z h x "java/lang/String") (Vl : Fld Z h x "java/lang/String" "value" "[B" v0) (C : Fld Z h x "java/lang/String" "coder" "B" c0) (K : Arv Z h b kC .char N (cs.map Value.int) d) (S : Sta Z Z.heap "java/lang/String" "COMPACT_STRINGS" "Z" (.int z)) (hz : ¬ z = 0)
    (hn : cs.length = n) (hN : N = Int32.ofNat n) (hN' : N.toNatClampNeg = n) (l0 : 0 < n) (l2 : n ≤ 4000) (hp : ∀ c ∈ cs, ¬ c < 0 ∧ ¬ (255 : Int32) < c) (hfr : 4 ≤ R.frames) (hlo : W + 65 ≤ R.locals) :
    Pay wd l R p e below args (⟨"java/lang/String", "<init>", "([C)V"⟩ : MethodName) len W Z h V #[.ref x, .ref b] 1 n [x] (fun v h' vm' => v = none ∧ StrIs Z h' x cs ∧ V vm') := by
  subst hn
  refine Pay.ofBack (Q0 := StrChars.Road.QA Z x N cs h) (fun s' hZ => StrChars.Road.backArv (W := W) hZ (hws_of hw) (kI := 4) wi E Vl C K (S.ext hO.2) hz hN' l0 (by omega) (fun c hc => (hp c hc).2) hfr hlo) hV ?_
  rintro v h' vm' L ⟨q1, q2, q3, q4, q5, q6, q7, ⟨kb, -, q8⟩, -⟩ hv
  subst hN
  exact ⟨⟨q1, ⟨hp, q5, q7, h.size, kb, q6, q8⟩, hv⟩, q3, fun y hy => Or.inl (by rw [q2 y hy]; exact List.mem_singleton.mpr rfl)⟩
end Own
end Jvm.Pilot.@@N@@
namespace Jvm.Pilot.@@N@@
open Jvm Jvm.ClassFile Sem Op Lib Jvm.Free Jvm.Stand Jvm.LawKit Jvm.RoadKit Bundle Jvm.Pilot.@@N@@.Jvm.D
namespace Own
section Lits
variable {p : Program} {l : Launch} {e : Env} {R : Room} {s : State} {m : MethodId} {args : Array Value} {below : List Frame} {meth : Method} {c : Code} {own : String} {Z : State} {a0 : Array Value} {n0 : Nat} {h0 : Heap} {ws : List Addr} {vm : Vm} {T : State} {h : Heap} {cells slots : Nat}
/-- the entry is booked in these tables -/
def LitV (Z : State) (vm : Vm) (own : String) (index : Nat) (a : Addr) : Prop := Lit (Z.setVm vm) own index a
theorem LitV.stays {vm' : Vm} {index : Nat} {a : Addr} (L : LitV Z vm own index a) {s : State} (e : s.vm = vm) (hW : s.Warmed39 vm') : LitV Z vm' own index a := by
  subst e
  exact State.resolvedAt?_warmed39 (s := s) hW L
theorem LitV.cl {index : Nat} {a : Addr} : VCl (fun vm => LitV Z vm own index a) := fun s vm' L hW => L.stays (s := s) rfl hW.wide
theorem IB.cl {Ts : List String} : VCl (fun vm => IB Z vm Ts) := fun s vm' I hW => by
  obtain ⟨more, q, r⟩ := I
  exact ⟨more, hW.interned_eq.trans q, r⟩
/-- ldc of a String constant whose text has not been loaded since the law's start -/
theorem Wk.ldcL (K : Wk true p l e R s m args below meth c own Z n0 h0 [] vm T h cells slots) (O0 : Old Z n0 h0) {text : String} {index : Nat} {Ts : List String} (w : (Cond.stringLink own index text).before a0 Z = true) (wS : ∀ a ∈ Bundle.stringAtoms, a.before a0 Z = true) (I : IB Z vm Ts) (hnot : text ∉ Ts) (hh : Jvm.Lit.constHeld Z own index) (hcw : Jvm.Lit.compactW.before a0 Z = true)
    {vs : List Value} {z : Int32} (ht : (∀ c ∈ text.toList, c.toNat < 256) ∧ text.toList.map (fun c => Value.int (Jvm.Lit.byteI c.toNat.toUInt16)) = vs) (hz : ¬ z < 0) (hl : z.toNatClampNeg = vs.length)
    {pc : Nat} {Ls : Array Slot} {rest : List Value} (hd : decode c.code pc = .ok (.ldc index, 2)) {n : Nat} (hn : 4 * text.toList.length ≤ n) (hbig : n ≤ 536870912) (hc : cells + 2 ≤ R.cells) (hl' : slots + (n + 4) ≤ R.slots) :
    ∃ a b kb vm' T' h', Wk true p l e R s m args below meth c own Z n0 h0 [] vm' T' h' (cells + 2) (slots + (n + 4)) ∧ Ext h h' ∧ Exa Z h' a "java/lang/String" ∧ Fld Z h' a "java/lang/String" "coder" "B" (.int 0) ∧ Fld Z h' a "java/lang/String" "value" "[B" (.ref b) ∧ Arv Z h' b kb .byte z vs (.int 0) ∧ IB Z vm' (text :: Ts) ∧ LitV Z vm' own index a ∧
      Go p e below (T.setTop (mkF m pc Ls rest)) (T'.setTop (mkF m (pc + 2) Ls (.ref a :: rest))) := by
  obtain ⟨e1, hx, O, hn0, hw, Kp, hs0, hZ, ho, hv, locs, k, F, X, S, hk⟩ := K
  obtain ⟨a, T', h', k1, b, kb, X', e', E, S', hk', hZ', ho', r1, r2, r3, r4, -, -, r5, r6, st⟩ := RoadKit.ldcSVL X hx hZ ho w wS e1 S hk (F.fr all0 (by rw [hs0]; exact Nat.le_refl _)) (fun b cl q => by rw [hs0]; exact O0.2.2 _ _ q) I hnot hh hcw ht hz hl (g := mkF m pc Ls rest) rfl hd hn hbig hc hl'
  exact ⟨a, b, kb, T'.vm, T', h', ⟨e', hx, O.ext E, hn0, hw, Kp.ext E, hs0, hZ', ho', (fun q => nomatch q), locs, k1, F, X', S', hk'⟩, E, r1, r2, r3, r4, r5, r6, st⟩
/-- ldc of an entry that is booked -/
theorem Wk.ldcA {wd : Bool} (K : Wk wd p l e R s m args below meth c own Z n0 h0 ws vm T h cells slots) {text : String} {index : Nat} (w : (Cond.stringLink own index text).before a0 Z = true) {a : Addr} (L : LitV Z vm own index a)
    {pc : Nat} {Ls : Array Slot} {rest : List Value} (hd : decode c.code pc = .ok (.ldc index, 2)) : Go p e below (T.setTop (mkF m pc Ls rest)) (T.setTop (mkF m (pc + 2) Ls (.ref a :: rest))) := by
  obtain ⟨e1, hx, O, hn0, hw, Kp, hs0, hZ, ho, hv, locs, k, F, X, S, hk⟩ := K
  exact fun t q => RoadKit.ldcAgain X hx hZ ho w (show Lit (s.setVm vm) own index a from L) (g := mkF m pc Ls rest) rfl hd t q
theorem atoms_in {a0 : Array Value} (hw : ∀ d ∈ tables_1, d.before a0 Z = true) : ∀ d ∈ Bundle.stringAtoms, d.before a0 Z = true := fun d hd => hw d ((by decide +kernel : ∀ d ∈ Bundle.stringAtoms, d ∈ tables_1) d hd)
end Lits
end Own
end Jvm.Pilot.@@N@@
namespace Jvm.Pilot.@@N@@
open Jvm Jvm.ClassFile Sem Op Lib Jvm.Free Jvm.Stand Jvm.LawKit Jvm.RoadKit Bundle Own StrChars Jvm.Pilot.@@N@@.Jvm.D
theorem own_nc {x : Int32} (h : ¬ x < 0 ∧ ¬ (255 : Int32) < x) : nar .char x = x := by
  obtain ⟨h0, h1⟩ := h
  show x.toUInt32.toUInt16.toUInt32.toInt32 = x
  obtain ⟨q1, q2, q3⟩ := c_i2c x
  rw [Int32.lt_iff_toInt_lt] at h0 h1
  have e0 : (0 : Int32).toInt = 0 := rfl
  have e1 : (255 : Int32).toInt = 255 := rfl
  apply Int32.toInt_inj.mp
  omega
theorem own_c255 (x : Int32) : ¬ (x &&& (255 : Int32)).toUInt32.toUInt16.toUInt32.toInt32 < 0 ∧ ¬ (255 : Int32) < (x &&& (255 : Int32)).toUInt32.toUInt16.toUInt32.toInt32 := by
  obtain ⟨q1, q2, q3⟩ := c_i2c (x &&& 255)
  have m := c_mask x 255 8 (by decide) (by decide)
  rw [Int32.lt_iff_toInt_lt, Int32.lt_iff_toInt_lt]
  have e0 : (0 : Int32).toInt = 0 := rfl
  have e1 : (255 : Int32).toInt = 255 := rfl
  omega
theorem own_nb (c : Int32) : nar .byte (c.toInt8.toInt32) = lo8 c := by show (c.toInt8.toInt32).toInt8.toInt32 = c.toInt8.toInt32; rw [Int8.toInt8_toInt32]
/-- the empty literal -/
def Emp (Z : State) (h : Heap) (a : Addr) : Prop := StrIs Z h a []
def StAt (Z : State) (h : Heap) (a : Addr) (vl : Value) (cd : Int32) : Prop := Exa Z h a "java/lang/String" ∧ Fld Z h a "java/lang/String" "value" "[B" (vl) ∧ Fld Z h a "java/lang/String" "coder" "B" (.int cd)
theorem StAt.keep {Z : State} {h h' : Heap} {a : Addr} {ws : List Addr} {vl : Value} {cd : Int32} (F : StAt Z h a vl cd) (K : Keep h h' ws) (q : a ∉ ws) : StAt Z h' a vl cd := ⟨F.1.keep K, (F.2.1).keep K q, (F.2.2).keep K q⟩
theorem StAt.ext {Z : State} {h h' : Heap} {a : Addr} {vl : Value} {cd : Int32} (F : StAt Z h a vl cd) (E : Ext h h') : StAt Z h' a vl cd := ⟨F.1.ext E, (F.2.1).ext E, (F.2.2).ext E⟩
theorem StAt.wrO {Z : State} {h h' : Heap} {a b : Addr} {sl : Nat} {w : Value} {vl : Value} {cd : Int32} (F : StAt Z h a vl cd) (W : Wr h h' b sl w) (q : a ≠ b) : StAt Z h' a vl cd := ⟨F.1.wr W, (F.2.1).other W (Or.inl q), (F.2.2).other W (Or.inl q)⟩
theorem StAt.set_vl {Z : State} {a0 : Array Value} (hw : ∀ d ∈ tables_1, d.before a0 Z = true) {h h' : Heap} {a : Addr} {vl : Value} {cd : Int32} {x' : Value} (F : StAt Z h a vl cd) (W : Wr h h' a (RoadKit.slotOf Z "java/lang/String" "value" "[B") (x')) : StAt Z h' a x' cd := ⟨F.1.wr W, (F.2.1).same W, (F.2.2).other W (Or.inr (slot_ne (C := "java/lang/String") (Or.inr (hw _ (List.mem_of_getElem? (i := 21) rfl))) (Or.inr (hw _ (List.mem_of_getElem? (i := 20) rfl))) (by decide) (t := .byte) (t' := (.array .byte)) (by decide) (by decide)))⟩
theorem StAt.set_cd {Z : State} {a0 : Array Value} (hw : ∀ d ∈ tables_1, d.before a0 Z = true) {h h' : Heap} {a : Addr} {vl : Value} {cd : Int32} {x' : Int32} (F : StAt Z h a vl cd) (W : Wr h h' a (RoadKit.slotOf Z "java/lang/String" "coder" "B") (.int x')) : StAt Z h' a vl x' := ⟨F.1.wr W, (F.2.1).other W (Or.inr (slot_ne (C := "java/lang/String") (Or.inr (hw _ (List.mem_of_getElem? (i := 20) rfl))) (Or.inr (hw _ (List.mem_of_getElem? (i := 21) rfl))) (by decide) (t := (.array .byte)) (t' := .byte) (by decide) (by decide))), (F.2.2).same W⟩
theorem StAt.new {Z : State} {a0 : Array Value} (hw : ∀ d ∈ tables_1, d.before a0 Z = true) {h : Heap} {a : Addr} (X : Exa Z h a "java/lang/String") (D : ∀ {O nm d : String} {ty : FieldType}, Laid Z a0 "java/lang/String" O nm d → parseFieldDescriptor d = some ty → Fld Z h a O nm d (defaultValue ty)) : Exa Z h a "java/lang/String" ∧ Fld Z h a "java/lang/String" "value" "[B" (.null) ∧ Fld Z h a "java/lang/String" "coder" "B" (.int 0) := ⟨X, D (Or.inr (hw _ (List.mem_of_getElem? (i := 20) rfl))) (ty := (.array .byte)) (by decide), D (Or.inr (hw _ (List.mem_of_getElem? (i := 21) rfl))) (ty := .byte) (by decide)⟩
theorem d_jdk_42_method_151_code_0 : decode jdk_42_method_151_code 0 = .ok (.aload_n 0, 1) := by decide +kernel
theorem d_jdk_42_method_151_code_1 : decode jdk_42_method_151_code 1 = .ok (.invokespecial 1, 3) := by decide +kernel
theorem d_jdk_42_method_151_code_4 : decode jdk_42_method_151_code 4 = .ok (.aload_n 0, 1) := by decide +kernel
theorem d_jdk_42_method_151_code_5 : decode jdk_42_method_151_code 5 = .ok (.aload_n 1, 1) := by decide +kernel
theorem d_jdk_42_method_151_code_6 : decode jdk_42_method_151_code 6 = .ok (.putfield 9, 3) := by decide +kernel
theorem d_jdk_42_method_151_code_9 : decode jdk_42_method_151_code 9 = .ok (.aload_n 0, 1) := by decide +kernel
theorem d_jdk_42_method_151_code_10 : decode jdk_42_method_151_code 10 = .ok (.iload_n 2, 1) := by decide +kernel
theorem d_jdk_42_method_151_code_11 : decode jdk_42_method_151_code 11 = .ok (.putfield 15, 3) := by decide +kernel
theorem d_jdk_42_method_151_code_14 : decode jdk_42_method_151_code 14 = .ok (.return_, 1) := by decide +kernel
theorem pn_0 : plainName "java/lang/String" = true := by first | (simp [plainName, overriddenIn]; done) | decide +kernel
set_option maxRecDepth 65536 in
set_option maxHeartbeats 40000000 in
theorem c_nbb (l : Launch) (Z : State) (a0 : Array Value) (hw : ∀ d ∈ tables_1, d.before a0 Z = true) (n0 : Nat) (h0 : Heap) (O0 : Old Z n0 h0) (a1 a2 : Addr) (B : StAt Z h0 a1 .null 0) (g1 : n0 ≤ a1) :
    Own.Ctr false l (⟨"java/lang/String", "<init>", "([BB)V"⟩ : MethodName) jdk_42_method_151_code 3 none ({ frames := 1, cells := 0, slots := 0, locals := 12 } : Room) #[(.ref a1), (.ref a2), (.int (0 : Int32))] Z h0 Own.VT [a1] (fun v h vm => v = none ∧ StAt Z h a1 (.ref a2) 0) := by
  refine Own.body (plainFor_of_name pn_0) O0 (fun v h vm q _ => q.1) (fun _ _ _ _ q _ => q) ?_
  intro p e s m below meth c T0 hby hml0 hret hnm hV0 K0
  change Own.Wk false p l e ({ frames := 1, cells := 0, slots := 0, locals := 12 } : Room) s m #[(.ref a1), (.ref a2), (.int (0 : Int32))] below meth c "java/lang/String" Z n0 h0 [] s.vm T0 h0 0 0 at K0
  replace K0 := K0.weaken [a1] (allS g1 all0)
  have hml : c.maxLocals = 3 := hml0
  have S0 : Go p e below (T0.setTop (entryFrame m #[(.ref a1), (.ref a2), (.int (0 : Int32))] 3)) (T0.setTop (mkF m 0 #[.val (.ref a1), .val (.ref a2), .val (.int (0 : Int32))] [])) := fun t k => castTop (by first | rfl | (simp [entryFrame, mkF, argsToLocals, Value.category]; done)) k
  generalize T0.setTop (entryFrame m #[(.ref a1), (.ref a2), (.int (0 : Int32))] 3) = A0 at S0 ⊢
  have S1 : Go p e below A0 (T0.setTop (mkF m 1 #[.val (.ref a1), .val (.ref a2), .val (.int (0 : Int32))] [(.ref a1)])) := by
    refine S0.trans ?_
    refine (Own.P.aloadN K0.here K0.exec (hb hby d_jdk_42_method_151_code_0) rfl rfl).trans ?_
    exact Go.refl _
  obtain ⟨T2, K2, G2⟩ := K0.initO (hw _ (List.mem_of_getElem? (i := 15) rfl)) (hw _ (List.mem_of_getElem? (i := 16) rfl)) (hw _ (List.mem_of_getElem? (i := 17) rfl)) (pc := 1) (Ls := #[.val (.ref a1), .val (.ref a2), .val (.int (0 : Int32))]) (rest := []) (by rw [hml]; rfl) (hb hby d_jdk_42_method_151_code_1) (by decide) (W := 0) (Nat.le_of_eq rfl) (by decide)
  have S2 : Go p e below A0 (T2.setTop (mkF m 4 #[.val (.ref a1), .val (.ref a2), .val (.int (0 : Int32))] [])) := S1.trans G2
  have S3 : Go p e below A0 (T2.setTop (mkF m 6 #[.val (.ref a1), .val (.ref a2), .val (.int (0 : Int32))] [(.ref a2), (.ref a1)])) := by
    refine S2.trans ?_
    refine (Own.P.aloadN K2.here K2.exec (hb hby d_jdk_42_method_151_code_4) rfl rfl).trans ?_
    refine (Own.P.aloadN K2.here K2.exec (hb hby d_jdk_42_method_151_code_5) rfl rfl).trans ?_
    exact Go.refl _
  obtain ⟨T4, h4, K4, W4, G4⟩ := K2.putF "" (Or.inl (hw _ (List.mem_of_getElem? (i := 24) rfl))) Via.refl B.2.1 B.1 (Or.inr ⟨(hw _ (List.mem_of_getElem? (i := 20) rfl)), rfl, hnm⟩) (hw _ (List.mem_of_getElem? (i := 5) rfl)) (ty := (.array .byte)) (by decide) (v := (.ref a2)) rfl rfl (Or.inl (List.mem_of_getElem? (i := 0) rfl)) (pc := 6) (Ls := #[.val (.ref a1), .val (.ref a2), .val (.int (0 : Int32))]) (rest := []) (hb hby d_jdk_42_method_151_code_6)
  have S4 : Go p e below A0 (T4.setTop (mkF m 9 #[.val (.ref a1), .val (.ref a2), .val (.int (0 : Int32))] [])) := S3.trans G4
  have B1 := B.set_vl hw W4
  have S5 : Go p e below A0 (T4.setTop (mkF m 11 #[.val (.ref a1), .val (.ref a2), .val (.int (0 : Int32))] [(.int (0 : Int32)), (.ref a1)])) := by
    refine S4.trans ?_
    refine (Own.P.aloadN K4.here K4.exec (hb hby d_jdk_42_method_151_code_9) rfl rfl).trans ?_
    refine (Own.P.iloadN K4.here K4.exec (hb hby d_jdk_42_method_151_code_10) rfl).trans ?_
    exact Go.refl _
  obtain ⟨T6, h6, K6, W6, G6⟩ := K4.putF "" (Or.inl (hw _ (List.mem_of_getElem? (i := 25) rfl))) Via.refl B1.2.2 B1.1 (Or.inr ⟨(hw _ (List.mem_of_getElem? (i := 21) rfl)), rfl, hnm⟩) (hw _ (List.mem_of_getElem? (i := 5) rfl)) (ty := .byte) (by decide) (v := (.int (0 : Int32))) rfl rfl (Or.inl (List.mem_of_getElem? (i := 0) rfl)) (pc := 11) (Ls := #[.val (.ref a1), .val (.ref a2), .val (.int (0 : Int32))]) (rest := []) (hb hby d_jdk_42_method_151_code_11)
  have S6 : Go p e below A0 (T6.setTop (mkF m 14 #[.val (.ref a1), .val (.ref a2), .val (.int (0 : Int32))] [])) := S5.trans G6
  have B2 := B1.set_cd hw W6
  exact ⟨s.vm, T6, h6, none, _, _, K6, by decide, by decide, ⟨rfl, B2⟩, K6.retV S6 hret (hb hby d_jdk_42_method_151_code_14)⟩
theorem d_jdk_43_method_3_code_0 : decode jdk_43_method_3_code 0 = .ok (.iload_n 0, 1) := by decide +kernel
theorem d_jdk_43_method_3_code_1 : decode jdk_43_method_3_code 1 = .ok (.sipush 255, 3) := by decide +kernel
theorem d_jdk_43_method_3_code_4 : decode jdk_43_method_3_code 4 = .ok (.if_icmp .gt 7, 3) := by decide +kernel
theorem d_jdk_43_method_3_code_7 : decode jdk_43_method_3_code 7 = .ok (.iconst 1, 1) := by decide +kernel
theorem d_jdk_43_method_3_code_8 : decode jdk_43_method_3_code 8 = .ok (.goto 4, 3) := by decide +kernel
theorem d_jdk_43_method_3_code_12 : decode jdk_43_method_3_code 12 = .ok (.ireturn, 1) := by decide +kernel
theorem pn_1 : plainName "java/lang/StringLatin1" = true := by first | (simp [plainName, overriddenIn]; done) | decide +kernel
set_option maxRecDepth 65536 in
set_option maxHeartbeats 40000000 in
theorem c_canEnc (l : Launch) (Z : State) (a0 : Array Value) (hw : ∀ d ∈ tables_1, d.before a0 Z = true) (n0 : Nat) (h0 : Heap) (O0 : Old Z n0 h0) (ch : Int32) (rc : ¬ ch < 0 ∧ ¬ 255 < ch) :
    Own.Ctr false l (⟨"java/lang/StringLatin1", "canEncode", "(C)Z"⟩ : MethodName) jdk_43_method_3_code 1 (some .boolean) ({ frames := 0, cells := 0, slots := 0, locals := 0 } : Room) #[(.int ch)] Z h0 Own.VT [] (fun v h vm => v = some (.int 1) ∧ h = h0) := by
  refine Own.body (plainFor_of_name pn_1) O0 (fun _ _ _ _ q => by cases q) (fun _ _ _ _ q _ => q) ?_
  intro p e s m below meth c T0 hby hml0 hret hnm hV0 K0
  change Own.Wk false p l e ({ frames := 0, cells := 0, slots := 0, locals := 0 } : Room) s m #[(.int ch)] below meth c "java/lang/StringLatin1" Z n0 h0 [] s.vm T0 h0 0 0 at K0
  have hml : c.maxLocals = 1 := hml0
  have S0 : Go p e below (T0.setTop (entryFrame m #[(.int ch)] 1)) (T0.setTop (mkF m 0 #[.val (.int ch)] [])) := fun t k => castTop (by first | rfl | (simp [entryFrame, mkF, argsToLocals, Value.category]; done)) k
  generalize T0.setTop (entryFrame m #[(.int ch)] 1) = A0 at S0 ⊢
  have S1 : Go p e below A0 (T0.setTop (mkF m 12 #[.val (.int ch)] [(.int (1 : Int32))])) := by
    refine S0.trans ?_
    refine (Own.P.iloadN K0.here K0.exec (hb hby d_jdk_43_method_3_code_0) rfl).trans ?_
    refine (Own.P.sipush K0.here K0.exec (255 : Int32) (hb hby d_jdk_43_method_3_code_1) rfl).trans ?_
    refine (Own.P.icmpNo K0.here K0.exec (hb hby d_jdk_43_method_3_code_4) (XT.ii_gt_f rc.2)).trans ?_
    refine (Own.P.iconst K0.here K0.exec (1 : Int32) (hb hby d_jdk_43_method_3_code_7) rfl).trans ?_
    refine (Own.P.goto K0.here K0.exec 12 (hb hby d_jdk_43_method_3_code_8) (by decide) (by decide)).trans ?_
    exact Go.refl _
  exact ⟨s.vm, T0, h0, (some (.int (1 : Int32))), _, _, K0, by decide, by decide, ⟨rfl, rfl⟩, K0.retW S1 hret rfl (Or.inl ⟨rfl, by decide, _, rfl⟩) (hb hby d_jdk_43_method_3_code_12)⟩
theorem d_jdk_43_method_46_code_0 : decode jdk_43_method_46_code 0 = .ok (.iconst 1, 1) := by decide +kernel
theorem d_jdk_43_method_46_code_1 : decode jdk_43_method_46_code 1 = .ok (.newarray .byte, 2) := by decide +kernel
theorem d_jdk_43_method_46_code_3 : decode jdk_43_method_46_code 3 = .ok (.dup, 1) := by decide +kernel
theorem d_jdk_43_method_46_code_4 : decode jdk_43_method_46_code 4 = .ok (.iconst 0, 1) := by decide +kernel
theorem d_jdk_43_method_46_code_5 : decode jdk_43_method_46_code 5 = .ok (.iload_n 0, 1) := by decide +kernel
theorem d_jdk_43_method_46_code_6 : decode jdk_43_method_46_code 6 = .ok (.i2b, 1) := by decide +kernel
theorem d_jdk_43_method_46_code_7 : decode jdk_43_method_46_code 7 = .ok (.bastore, 1) := by decide +kernel
theorem d_jdk_43_method_46_code_8 : decode jdk_43_method_46_code 8 = .ok (.areturn, 1) := by decide +kernel
set_option maxRecDepth 65536 in
set_option maxHeartbeats 40000000 in
theorem c_toB (l : Launch) (Z : State) (a0 : Array Value) (hw : ∀ d ∈ tables_1, d.before a0 Z = true) (n0 : Nat) (h0 : Heap) (O0 : Old Z n0 h0) (ch : Int32) :
    Own.Ctr false l (⟨"java/lang/StringLatin1", "toBytes", "(C)[B"⟩ : MethodName) jdk_43_method_46_code 1 (some (.array .byte)) ({ frames := 0, cells := 1, slots := 1, locals := 0 } : Room) #[(.int ch)] Z h0 Own.VT [] (fun v h vm => ∃ t kb, v = some (.ref t) ∧ Arv Z h t kb .byte 1 [.int (lo8 ch)] (.int 0) ∧ h0.size ≤ t) := by
  refine Own.body (plainFor_of_name pn_1) O0 (fun _ _ _ _ q => by cases q) (fun _ _ _ _ q _ => q) ?_
  intro p e s m below meth c T0 hby hml0 hret hnm hV0 K0
  change Own.Wk false p l e ({ frames := 0, cells := 1, slots := 1, locals := 0 } : Room) s m #[(.int ch)] below meth c "java/lang/StringLatin1" Z n0 h0 [] s.vm T0 h0 0 0 at K0
  have hml : c.maxLocals = 1 := hml0
  have S0 : Go p e below (T0.setTop (entryFrame m #[(.int ch)] 1)) (T0.setTop (mkF m 0 #[.val (.int ch)] [])) := fun t k => castTop (by first | rfl | (simp [entryFrame, mkF, argsToLocals, Value.category]; done)) k
  generalize T0.setTop (entryFrame m #[(.int ch)] 1) = A0 at S0 ⊢
  have S1 : Go p e below A0 (T0.setTop (mkF m 1 #[.val (.int ch)] [(.int (1 : Int32))])) := by
    refine S0.trans ?_
    refine (Own.P.iconst K0.here K0.exec (1 : Int32) (hb hby d_jdk_43_method_46_code_0) rfl).trans ?_
    exact Go.refl _
  obtain ⟨T2, h2, t, cA_t, K2, E2, g_t, l_t, ne_t, V_t, G2⟩ := K0.newP (aty := .byte) (hw _ (List.mem_of_getElem? (i := 19) rfl)) (n := (1 : Int32)) (pc := 1) (Ls := #[.val (.int ch)]) (rest := []) (hb hby d_jdk_43_method_46_code_1) 1 (by decide) (by decide) (by decide) (by decide) (by decide)
  have S2 : Go p e below A0 (T2.setTop (mkF m 3 #[.val (.int ch)] [(.ref t)])) := S1.trans G2
  have Y0 : Arv Z h2 t cA_t .byte 1 [.int 0] (.int 0) := V_t.pad (pad_rep [] (.int 0) 1)
  have S3 : Go p e below A0 (T2.setTop (mkF m 7 #[.val (.int ch)] [(.int (ch.toInt8.toInt32)), (.int (0 : Int32)), (.ref t), (.ref t)])) := by
    refine S2.trans ?_
    refine (Own.P.dup K2.here K2.exec (hb hby d_jdk_43_method_46_code_3) rfl).trans ?_
    refine (Own.P.iconst K2.here K2.exec (0 : Int32) (hb hby d_jdk_43_method_46_code_4) rfl).trans ?_
    refine (Own.P.iloadN K2.here K2.exec (hb hby d_jdk_43_method_46_code_5) rfl).trans ?_
    refine (Own.P.i2b K2.here K2.exec (hb hby d_jdk_43_method_46_code_6) ).trans ?_
    exact Go.refl _
  obtain ⟨T4, h4, K4, W4, V4, G4⟩ := K2.stB Y0  (j := (0 : Int32)) ⟨by decide, by decide⟩ 0 rfl (Nat.le_of_ble_eq_true rfl) (Or.inr g_t) (pc := 7) (Ls := #[.val (.int ch)]) (rest := [(.ref t)]) (hb hby d_jdk_43_method_46_code_7)
  have S4 : Go p e below A0 (T4.setTop (mkF m 8 #[.val (.int ch)] [(.ref t)])) := S3.trans G4
  rw [own_nb] at V4
  exact ⟨s.vm, T4, h4, (some (.ref t)), _, _, K4, by decide, by decide, ⟨t, cA_t, rfl, V4, g_t⟩, K4.retW S4 hret rfl (Or.inr (Or.inr (Or.inr (Or.inr ⟨rfl, rfl, rfl⟩)))) (hb hby d_jdk_43_method_46_code_8)⟩
theorem d_jdk_42_method_139_code_0 : decode jdk_42_method_139_code 0 = .ok (.getstatic 38, 3) := by decide +kernel
theorem d_jdk_42_method_139_code_3 : decode jdk_42_method_139_code 3 = .ok (.ifCond .eq 23, 3) := by decide +kernel
theorem d_jdk_42_method_139_code_6 : decode jdk_42_method_139_code 6 = .ok (.iload_n 0, 1) := by decide +kernel
theorem pd_0 : parseMethodDescriptor "(C)Z" = some ⟨[.char], some .boolean⟩ := by decide +kernel
theorem d_jdk_42_method_139_code_7 : decode jdk_42_method_139_code 7 = .ok (.invokestatic 1015, 3) := by decide +kernel
theorem d_jdk_42_method_139_code_10 : decode jdk_42_method_139_code 10 = .ok (.ifCond .eq 16, 3) := by decide +kernel
theorem d_jdk_42_method_139_code_13 : decode jdk_42_method_139_code 13 = .ok (.new 10, 3) := by decide +kernel
theorem d_jdk_42_method_139_code_16 : decode jdk_42_method_139_code 16 = .ok (.dup, 1) := by decide +kernel
theorem d_jdk_42_method_139_code_17 : decode jdk_42_method_139_code 17 = .ok (.iload_n 0, 1) := by decide +kernel
theorem pd_1 : parseMethodDescriptor "(C)[B" = some ⟨[.char], some (.array .byte)⟩ := by decide +kernel
theorem d_jdk_42_method_139_code_18 : decode jdk_42_method_139_code 18 = .ok (.invokestatic 1018, 3) := by decide +kernel
theorem d_jdk_42_method_139_code_21 : decode jdk_42_method_139_code 21 = .ok (.iconst 0, 1) := by decide +kernel
theorem pd_2 : parseMethodDescriptor "([BB)V" = some ⟨[(.array .byte), .byte], none⟩ := by decide +kernel
theorem d_jdk_42_method_139_code_22 : decode jdk_42_method_139_code 22 = .ok (.invokespecial 209, 3) := by decide +kernel
theorem d_jdk_42_method_139_code_25 : decode jdk_42_method_139_code 25 = .ok (.areturn, 1) := by decide +kernel
set_option maxRecDepth 65536 in
set_option maxHeartbeats 40000000 in
theorem c_valueOf (l : Launch) (Z : State) (a0 : Array Value) (hw : ∀ d ∈ tables_1, d.before a0 Z = true) (n0 : Nat) (h0 : Heap) (O0 : Old Z n0 h0) (ch : Int32) (rc : ¬ ch < 0 ∧ ¬ 255 < ch) (zc : Int32) (hzc : ¬ zc = 0) (SC : Sta Z Z.heap "java/lang/String" "COMPACT_STRINGS" "Z" (.int zc)) :
    Own.Ctr false l (⟨"java/lang/String", "valueOf", "(C)Ljava/lang/String;"⟩ : MethodName) jdk_42_method_139_code 1 (some (.object "java/lang/String")) ({ frames := 2, cells := 2, slots := 5, locals := 27 } : Room) #[(.int ch)] Z h0 Own.VT [] (fun v h vm => ∃ a, v = some (.ref a) ∧ StrIs Z h a [ch] ∧ h0.size ≤ a) := by
  refine Own.body (plainFor_of_name pn_0) O0 (fun _ _ _ _ q => by cases q) (fun _ _ _ _ q _ => q) ?_
  intro p e s m below meth c T0 hby hml0 hret hnm hV0 K0
  change Own.Wk false p l e ({ frames := 2, cells := 2, slots := 5, locals := 27 } : Room) s m #[(.int ch)] below meth c "java/lang/String" Z n0 h0 [] s.vm T0 h0 0 0 at K0
  have hml : c.maxLocals = 1 := hml0
  have S0 : Go p e below (T0.setTop (entryFrame m #[(.int ch)] 1)) (T0.setTop (mkF m 0 #[.val (.int ch)] [])) := fun t k => castTop (by first | rfl | (simp [entryFrame, mkF, argsToLocals, Value.category]; done)) k
  generalize T0.setTop (entryFrame m #[(.int ch)] 1) = A0 at S0 ⊢
  obtain ⟨T1, K1, G1⟩ := K0.getS "" (Or.inl (hw _ (List.mem_of_getElem? (i := 66) rfl))) Via.refl (SC.ext K0.ext) (pc := 0) (Ls := #[.val (.int ch)]) (rest := []) (hb hby d_jdk_42_method_139_code_0)
  have S1 : Go p e below A0 (T1.setTop (mkF m 3 #[.val (.int ch)] [(.int zc)])) := S0.trans G1
  have S2 : Go p e below A0 (T1.setTop (mkF m 7 #[.val (.int ch)] [(.int ch)])) := by
    refine S1.trans ?_
    refine (Own.P.ifNo K1.here K1.exec (hb hby d_jdk_42_method_139_code_3) (XT.i0_eq_f hzc)).trans ?_
    refine (Own.P.iloadN K1.here K1.exec (hb hby d_jdk_42_method_139_code_6) rfl).trans ?_
    exact Go.refl _
  obtain ⟨v3, vm3, vq3, T3, h3, K3, KK3, ev3, Q3, G3⟩ := K1.callS (y := (⟨"java/lang/StringLatin1", "canEncode", "(C)Z"⟩ : MethodName)) (hw _ (List.mem_of_getElem? (i := 80) rfl)) (hw _ (List.mem_of_getElem? (i := 81) rfl)) (hw _ (List.mem_of_getElem? (i := 82) rfl)) (hw _ (List.mem_of_getElem? (i := 83) rfl)) (by decide) (W := 0) (argsL := [(.int ch)]) (rest := []) ((c_canEnc l Z a0 hw n0 h0 (K1.old) ch rc).pay Own.VT.cl (hw _ (List.mem_of_getElem? (i := 83) rfl)) (hw _ (List.mem_of_getElem? (i := 82) rfl)) (by decide) (by decide)) trivial (pc := 7) (Ls := #[.val (.int ch)]) (st := [(.int ch)]) (by rw [hml]; rfl) (lenOf pd_0 rfl) rfl (Nat.le_of_eq rfl) (hb hby d_jdk_42_method_139_code_7) (by decide) (by decide) all0
  obtain ⟨rfl, e3⟩ := Q3
  have S3 : Go p e below A0 (T3.setTop (mkF m 10 #[.val (.int ch)] [(.int (1 : Int32))])) := S2.trans G3
  subst e3
  have S4 : Go p e below A0 (T3.setTop (mkF m 13 #[.val (.int ch)] [])) := by
    refine S3.trans ?_
    refine (Own.P.ifNo K3.here K3.exec (hb hby d_jdk_42_method_139_code_10) (by decide)).trans ?_
    exact Go.refl _
  obtain ⟨T5, h5, sq, K5, E5, g_sq, l_sq, ne_sq, X_sq, D_sq, G5⟩ := K3.newO (hw _ (List.mem_of_getElem? (i := 84) rfl)) (hw _ (List.mem_of_getElem? (i := 5) rfl)) (hw _ (List.mem_of_getElem? (i := 6) rfl)) (pc := 13) (Ls := #[.val (.int ch)]) (rest := []) (hb hby d_jdk_42_method_139_code_13) (by decide) (by decide)
  have S5 : Go p e below A0 (T5.setTop (mkF m 16 #[.val (.int ch)] [(.ref sq)])) := S4.trans G5
  have B0 := StAt.new hw X_sq D_sq
  have S6 : Go p e below A0 (T5.setTop (mkF m 18 #[.val (.int ch)] [(.int ch), (.ref sq), (.ref sq)])) := by
    refine S5.trans ?_
    refine (Own.P.dup K5.here K5.exec (hb hby d_jdk_42_method_139_code_16) rfl).trans ?_
    refine (Own.P.iloadN K5.here K5.exec (hb hby d_jdk_42_method_139_code_17) rfl).trans ?_
    exact Go.refl _
  obtain ⟨v7, vm7, vq7, T7, h7, K7, KK7, ev7, Q7, G7⟩ := K5.callS (y := (⟨"java/lang/StringLatin1", "toBytes", "(C)[B"⟩ : MethodName)) (hw _ (List.mem_of_getElem? (i := 85) rfl)) (hw _ (List.mem_of_getElem? (i := 86) rfl)) (hw _ (List.mem_of_getElem? (i := 82) rfl)) (hw _ (List.mem_of_getElem? (i := 87) rfl)) (by decide) (W := 2) (argsL := [(.int ch)]) (rest := [(.ref sq), (.ref sq)]) ((c_toB l Z a0 hw n0 h5 (K5.old) ch).pay Own.VT.cl (hw _ (List.mem_of_getElem? (i := 87) rfl)) (hw _ (List.mem_of_getElem? (i := 82) rfl)) (by decide) (by decide)) trivial (pc := 18) (Ls := #[.val (.int ch)]) (st := [(.int ch), (.ref sq), (.ref sq)]) (by rw [hml]; rfl) (lenOf pd_1 rfl) rfl (Nat.le_of_eq rfl) (hb hby d_jdk_42_method_139_code_18) (by decide) (by decide) all0
  obtain ⟨t, kb, rfl, Y, gt⟩ := Q7
  have S7 : Go p e below A0 (T7.setTop (mkF m 21 #[.val (.int ch)] [(.ref t), (.ref sq), (.ref sq)])) := S6.trans G7
  have B1 : StAt Z h7 sq .null 0 := StAt.keep (vl := .null) (cd := 0) B0 KK7 nin0
  have S8 : Go p e below A0 (T7.setTop (mkF m 22 #[.val (.int ch)] [(.int (0 : Int32)), (.ref t), (.ref sq), (.ref sq)])) := by
    refine S7.trans ?_
    refine (Own.P.iconst K7.here K7.exec (0 : Int32) (hb hby d_jdk_42_method_139_code_21) rfl).trans ?_
    exact Go.refl _
  obtain ⟨v9, vm9, vq9, T9, h9, K9, KK9, ev9, Q9, G9⟩ := K7.callI (y := (⟨"java/lang/String", "<init>", "([BB)V"⟩ : MethodName)) rfl (hw _ (List.mem_of_getElem? (i := 88) rfl)) (hw _ (List.mem_of_getElem? (i := 89) rfl)) (hw _ (List.mem_of_getElem? (i := 90) rfl)) (by decide) (W := 1) (a := sq) (argsL := [(.ref t), (.int (0 : Int32))]) (rest := [(.ref sq)]) ((c_nbb l Z a0 hw n0 h7 (K7.old) sq t B1 (K7.fresh (Or.inr g_sq))).pay Own.VT.cl (hw _ (List.mem_of_getElem? (i := 90) rfl)) (hw _ (List.mem_of_getElem? (i := 6) rfl)) (by decide) (by decide)) trivial (pc := 22) (Ls := #[.val (.int ch)]) (st := [(.int (0 : Int32)), (.ref t), (.ref sq), (.ref sq)]) (by rw [hml]; rfl) (lenOf pd_2 rfl) rfl (Nat.le_of_eq rfl) (hb hby d_jdk_42_method_139_code_22) (by decide) (by decide) (allS (Or.inr g_sq) all0)
  obtain ⟨rfl, B2⟩ := Q9
  have S9 : Go p e below A0 (T9.setTop (mkF m 25 #[.val (.int ch)] [(.ref sq)])) := S8.trans G9
  have nt : t ≠ sq := Ne.symm (Exa.neArv B1.1 Y (hw _ (List.mem_of_getElem? (i := 5) rfl)))
  have Y1 := Y.keep KK9 (ninS nt nin0)
  exact ⟨vm9, T9, h9, (some (.ref sq)), _, _, K9, by decide, by decide, ⟨sq, rfl, ⟨by intro c hc; rw [List.mem_singleton.mp hc]; exact rc, B2.1, B2.2.2, t, kb, B2.2.1, Y1⟩, g_sq⟩, K9.retW S9 hret rfl (Or.inr (Or.inr (Or.inr (Or.inr ⟨rfl, rfl, rfl⟩)))) (hb hby d_jdk_42_method_139_code_25)⟩
theorem d_jdk_42_method_149_code_0 : decode jdk_42_method_149_code 0 = .ok (.aload_n 0, 1) := by decide +kernel
theorem d_jdk_42_method_149_code_1 : decode jdk_42_method_149_code 1 = .ok (.invokespecial 1, 3) := by decide +kernel
theorem d_jdk_42_method_149_code_4 : decode jdk_42_method_149_code 4 = .ok (.iload_n 3, 1) := by decide +kernel
theorem d_jdk_42_method_149_code_5 : decode jdk_42_method_149_code 5 = .ok (.ifCond .ne 22, 3) := by decide +kernel
theorem d_jdk_42_method_149_code_8 : decode jdk_42_method_149_code 8 = .ok (.aload_n 0, 1) := by decide +kernel
theorem d_jdk_42_method_149_code_9 : decode jdk_42_method_149_code 9 = .ok (.ldc 7, 2) := by decide +kernel
theorem d_jdk_42_method_149_code_11 : decode jdk_42_method_149_code 11 = .ok (.getfield 9, 3) := by decide +kernel
theorem d_jdk_42_method_149_code_14 : decode jdk_42_method_149_code 14 = .ok (.putfield 9, 3) := by decide +kernel
theorem d_jdk_42_method_149_code_17 : decode jdk_42_method_149_code 17 = .ok (.aload_n 0, 1) := by decide +kernel
theorem d_jdk_42_method_149_code_18 : decode jdk_42_method_149_code 18 = .ok (.ldc 7, 2) := by decide +kernel
theorem d_jdk_42_method_149_code_20 : decode jdk_42_method_149_code 20 = .ok (.getfield 15, 3) := by decide +kernel
theorem d_jdk_42_method_149_code_23 : decode jdk_42_method_149_code 23 = .ok (.putfield 15, 3) := by decide +kernel
theorem d_jdk_42_method_149_code_26 : decode jdk_42_method_149_code 26 = .ok (.return_, 1) := by decide +kernel
set_option maxRecDepth 65536 in
set_option maxHeartbeats 40000000 in
theorem c_new40 (l : Launch) (Z : State) (a0 : Array Value) (hw : ∀ d ∈ tables_1, d.before a0 Z = true) (n0 : Nat) (h0 : Heap) (O0 : Old Z n0 h0) (a1 a2 : Addr) (E : Exa Z h0 a1 "java/lang/String") (F1 : Fld Z h0 a1 "java/lang/String" "value" "[B" .null) (F2 : Fld Z h0 a1 "java/lang/String" "coder" "B" (.int 0)) (g1 : n0 ≤ a1) (HH : Jvm.Lit.constHeld Z "java/lang/String" 7) (HC : Jvm.Lit.compactW.before a0 Z = true) :
    Own.Ctr true l (⟨"java/lang/String", "<init>", "([CIILjava/lang/Void;)V"⟩ : MethodName) jdk_42_method_149_code 6 none ({ frames := 1, cells := 2, slots := 4, locals := 12 } : Room) #[(.ref a1), (.ref a2), (.int (0 : Int32)), (.int (0 : Int32)), Value.null] Z h0 (fun vm => IB Z vm []) [a1] (fun v h vm => v = none ∧ StrIs Z h a1 [] ∧ ∃ b, LitV Z vm "java/lang/String" 7 b ∧ Emp Z h b) := by
  refine Own.body (plainFor_of_name pn_0) O0 (fun v h vm q _ => q.1) (fun v h s vm' q hW => ⟨q.1, q.2.1, q.2.2.imp fun b hb => ⟨Own.LitV.cl s vm' hb.1 hW, hb.2⟩⟩) ?_
  intro p e s m below meth c T0 hby hml0 hret hnm hV0 K0
  change Own.Wk true p l e ({ frames := 1, cells := 2, slots := 4, locals := 12 } : Room) s m #[(.ref a1), (.ref a2), (.int (0 : Int32)), (.int (0 : Int32)), Value.null] below meth c "java/lang/String" Z n0 h0 [] s.vm T0 h0 0 0 at K0
  have hml : c.maxLocals = 6 := hml0
  have S0 : Go p e below (T0.setTop (entryFrame m #[(.ref a1), (.ref a2), (.int (0 : Int32)), (.int (0 : Int32)), Value.null] 6)) (T0.setTop (mkF m 0 #[.val (.ref a1), .val (.ref a2), .val (.int (0 : Int32)), .val (.int (0 : Int32)), .val Value.null, .unset] [])) := fun t k => castTop (by first | rfl | (simp [entryFrame, mkF, argsToLocals, Value.category]; done)) k
  generalize T0.setTop (entryFrame m #[(.ref a1), (.ref a2), (.int (0 : Int32)), (.int (0 : Int32)), Value.null] 6) = A0 at S0 ⊢
  have S1 : Go p e below A0 (T0.setTop (mkF m 1 #[.val (.ref a1), .val (.ref a2), .val (.int (0 : Int32)), .val (.int (0 : Int32)), .val Value.null, .unset] [(.ref a1)])) := by
    refine S0.trans ?_
    refine (Own.P.aloadN K0.here K0.exec (hb hby d_jdk_42_method_149_code_0) rfl rfl).trans ?_
    exact Go.refl _
  obtain ⟨T2, K2, G2⟩ := K0.initO (hw _ (List.mem_of_getElem? (i := 15) rfl)) (hw _ (List.mem_of_getElem? (i := 16) rfl)) (hw _ (List.mem_of_getElem? (i := 17) rfl)) (pc := 1) (Ls := #[.val (.ref a1), .val (.ref a2), .val (.int (0 : Int32)), .val (.int (0 : Int32)), .val Value.null, .unset]) (rest := []) (by rw [hml]; rfl) (hb hby d_jdk_42_method_149_code_1) (by decide) (W := 0) (Nat.le_of_eq rfl) (by decide)
  have S2 : Go p e below A0 (T2.setTop (mkF m 4 #[.val (.ref a1), .val (.ref a2), .val (.int (0 : Int32)), .val (.int (0 : Int32)), .val Value.null, .unset] [])) := S1.trans G2
  have S3 : Go p e below A0 (T2.setTop (mkF m 9 #[.val (.ref a1), .val (.ref a2), .val (.int (0 : Int32)), .val (.int (0 : Int32)), .val Value.null, .unset] [(.ref a1)])) := by
    refine S2.trans ?_
    refine (Own.P.iloadN K2.here K2.exec (hb hby d_jdk_42_method_149_code_4) rfl).trans ?_
    refine (Own.P.ifNo K2.here K2.exec (hb hby d_jdk_42_method_149_code_5) (by decide)).trans ?_
    refine (Own.P.aloadN K2.here K2.exec (hb hby d_jdk_42_method_149_code_8) rfl rfl).trans ?_
    exact Go.refl _
  obtain ⟨la, b_la, k_la, vm4, T4, h4, K4, E4, X_la, C_la, F_la, V_la, I_la, L_la, G4⟩ := K2.ldcL O0 (hw _ (List.mem_of_getElem? (i := 18) rfl)) (Own.atoms_in hw) hV0 (by simp) HH HC (z := 0) ⟨by decide +kernel, rfl⟩ (by decide) (by decide +kernel) (pc := 9) (Ls := #[.val (.ref a1), .val (.ref a2), .val (.int (0 : Int32)), .val (.int (0 : Int32)), .val Value.null, .unset]) (rest := [(.ref a1)]) (hb hby d_jdk_42_method_149_code_9) (n := 0) (by decide +kernel) (by decide) (by decide) (by decide)
  have S4 : Go p e below A0 (T4.setTop (mkF m 11 #[.val (.ref a1), .val (.ref a2), .val (.int (0 : Int32)), .val (.int (0 : Int32)), .val Value.null, .unset] [(.ref la), (.ref a1)])) := S3.trans G4
  have K5 := K4.weaken [a1] (allS g1 all0)
  have B0 : StAt Z h4 a1 .null 0 := StAt.ext (vl := .null) (cd := 0) ⟨E, F1, F2⟩ E4
  have nal : la ≠ a1 := F_la.ne B0.2.1 (by simp)
  have nbl : b_la ≠ a1 := Ne.symm (Exa.neArv B0.1 V_la (hw _ (List.mem_of_getElem? (i := 5) rfl)))
  obtain ⟨T6, K6, G6⟩ := K5.getF "" (Or.inl (hw _ (List.mem_of_getElem? (i := 24) rfl))) Via.refl F_la (pc := 11) (Ls := #[.val (.ref a1), .val (.ref a2), .val (.int (0 : Int32)), .val (.int (0 : Int32)), .val Value.null, .unset]) (rest := [(.ref a1)]) (hb hby d_jdk_42_method_149_code_11)
  have S6 : Go p e below A0 (T6.setTop (mkF m 14 #[.val (.ref a1), .val (.ref a2), .val (.int (0 : Int32)), .val (.int (0 : Int32)), .val Value.null, .unset] [(.ref b_la), (.ref a1)])) := S4.trans G6
  obtain ⟨T7, h7, K7, W7, G7⟩ := K6.putF "" (Or.inl (hw _ (List.mem_of_getElem? (i := 24) rfl))) Via.refl B0.2.1 B0.1 (Or.inr ⟨(hw _ (List.mem_of_getElem? (i := 20) rfl)), rfl, hnm⟩) (hw _ (List.mem_of_getElem? (i := 5) rfl)) (ty := (.array .byte)) (by decide) (v := (.ref b_la)) rfl rfl (Or.inl (List.mem_of_getElem? (i := 0) rfl)) (pc := 14) (Ls := #[.val (.ref a1), .val (.ref a2), .val (.int (0 : Int32)), .val (.int (0 : Int32)), .val Value.null, .unset]) (rest := []) (hb hby d_jdk_42_method_149_code_14)
  have S7 : Go p e below A0 (T7.setTop (mkF m 17 #[.val (.ref a1), .val (.ref a2), .val (.int (0 : Int32)), .val (.int (0 : Int32)), .val Value.null, .unset] [])) := S6.trans G7
  have B1 := B0.set_vl hw W7
  have A1 : StAt Z h7 la (.ref b_la) 0 := StAt.wrO (vl := .ref b_la) (cd := 0) ⟨X_la, F_la, C_la⟩ W7 nal
  have Y1 := V_la.other W7 nbl
  have S8 : Go p e below A0 (T7.setTop (mkF m 18 #[.val (.ref a1), .val (.ref a2), .val (.int (0 : Int32)), .val (.int (0 : Int32)), .val Value.null, .unset] [(.ref a1)])) := by
    refine S7.trans ?_
    refine (Own.P.aloadN K7.here K7.exec (hb hby d_jdk_42_method_149_code_17) rfl rfl).trans ?_
    exact Go.refl _
  have G9 := K7.ldcA (hw _ (List.mem_of_getElem? (i := 18) rfl)) L_la (pc := 18) (Ls := #[.val (.ref a1), .val (.ref a2), .val (.int (0 : Int32)), .val (.int (0 : Int32)), .val Value.null, .unset]) (rest := [(.ref a1)]) (hb hby d_jdk_42_method_149_code_18)
  have S9 : Go p e below A0 (T7.setTop (mkF m 20 #[.val (.ref a1), .val (.ref a2), .val (.int (0 : Int32)), .val (.int (0 : Int32)), .val Value.null, .unset] [(.ref la), (.ref a1)])) := S8.trans G9
  obtain ⟨T10, K10, G10⟩ := K7.getF "" (Or.inl (hw _ (List.mem_of_getElem? (i := 25) rfl))) Via.refl A1.2.2 (pc := 20) (Ls := #[.val (.ref a1), .val (.ref a2), .val (.int (0 : Int32)), .val (.int (0 : Int32)), .val Value.null, .unset]) (rest := [(.ref a1)]) (hb hby d_jdk_42_method_149_code_20)
  have S10 : Go p e below A0 (T10.setTop (mkF m 23 #[.val (.ref a1), .val (.ref a2), .val (.int (0 : Int32)), .val (.int (0 : Int32)), .val Value.null, .unset] [(.int (0 : Int32)), (.ref a1)])) := S9.trans G10
  obtain ⟨T11, h11, K11, W11, G11⟩ := K10.putF "" (Or.inl (hw _ (List.mem_of_getElem? (i := 25) rfl))) Via.refl B1.2.2 B1.1 (Or.inr ⟨(hw _ (List.mem_of_getElem? (i := 21) rfl)), rfl, hnm⟩) (hw _ (List.mem_of_getElem? (i := 5) rfl)) (ty := .byte) (by decide) (v := (.int (0 : Int32))) rfl rfl (Or.inl (List.mem_of_getElem? (i := 0) rfl)) (pc := 23) (Ls := #[.val (.ref a1), .val (.ref a2), .val (.int (0 : Int32)), .val (.int (0 : Int32)), .val Value.null, .unset]) (rest := []) (hb hby d_jdk_42_method_149_code_23)
  have S11 : Go p e below A0 (T11.setTop (mkF m 26 #[.val (.ref a1), .val (.ref a2), .val (.int (0 : Int32)), .val (.int (0 : Int32)), .val Value.null, .unset] [])) := S10.trans G11
  have B2 := B1.set_cd hw W11
  have A2 := A1.wrO W11 nal
  have Y2 := Y1.other W11 nbl
  exact ⟨vm4, T11, h11, none, _, _, K11, by decide, by decide, ⟨rfl, ⟨(fun c hc => nomatch hc), B2.1, B2.2.2, b_la, k_la, B2.2.1, Y2⟩, la, L_la, (fun c hc => nomatch hc), A2.1, A2.2.2, b_la, k_la, A2.2.1, Y2⟩, K11.retV S11 hret (hb hby d_jdk_42_method_149_code_26)⟩
theorem d_jdk_42_method_3_code_0 : decode jdk_42_method_3_code 0 = .ok (.aload_n 0, 1) := by decide +kernel
theorem d_jdk_42_method_3_code_1 : decode jdk_42_method_3_code 1 = .ok (.aload_n 1, 1) := by decide +kernel
theorem d_jdk_42_method_3_code_2 : decode jdk_42_method_3_code 2 = .ok (.iconst 0, 1) := by decide +kernel
theorem d_jdk_42_method_3_code_3 : decode jdk_42_method_3_code 3 = .ok (.aload_n 1, 1) := by decide +kernel
theorem d_jdk_42_method_3_code_4 : decode jdk_42_method_3_code 4 = .ok (.arraylength, 1) := by decide +kernel
theorem d_jdk_42_method_3_code_5 : decode jdk_42_method_3_code 5 = .ok (.aconst_null, 1) := by decide +kernel
theorem pd_3 : parseMethodDescriptor "([CIILjava/lang/Void;)V" = some ⟨[(.array .char), .int, .int, (.object "java/lang/Void")], none⟩ := by decide +kernel
theorem d_jdk_42_method_3_code_6 : decode jdk_42_method_3_code 6 = .ok (.invokespecial 27, 3) := by decide +kernel
theorem d_jdk_42_method_3_code_9 : decode jdk_42_method_3_code 9 = .ok (.return_, 1) := by decide +kernel
set_option maxRecDepth 65536 in
set_option maxHeartbeats 40000000 in
theorem c_new10 (l : Launch) (Z : State) (a0 : Array Value) (hw : ∀ d ∈ tables_1, d.before a0 Z = true) (n0 : Nat) (h0 : Heap) (O0 : Old Z n0 h0) (a1 a2 : Addr) (kc : ClassId) (vs : List Value) (dv : Value) (V : Arv Z h0 a2 kc .char 0 vs dv) (E : Exa Z h0 a1 "java/lang/String") (F1 : Fld Z h0 a1 "java/lang/String" "value" "[B" .null) (F2 : Fld Z h0 a1 "java/lang/String" "coder" "B" (.int 0)) (g1 : n0 ≤ a1) (HH : Jvm.Lit.constHeld Z "java/lang/String" 7) (HC : Jvm.Lit.compactW.before a0 Z = true) :
    Own.Ctr true l (⟨"java/lang/String", "<init>", "([C)V"⟩ : MethodName) jdk_42_method_3_code 2 none ({ frames := 2, cells := 2, slots := 4, locals := 29 } : Room) #[(.ref a1), (.ref a2)] Z h0 (fun vm => IB Z vm []) [a1] (fun v h vm => v = none ∧ StrIs Z h a1 [] ∧ ∃ b, LitV Z vm "java/lang/String" 7 b ∧ Emp Z h b) := by
  refine Own.body (plainFor_of_name pn_0) O0 (fun v h vm q _ => q.1) (fun v h s vm' q hW => ⟨q.1, q.2.1, q.2.2.imp fun b hb => ⟨Own.LitV.cl s vm' hb.1 hW, hb.2⟩⟩) ?_
  intro p e s m below meth c T0 hby hml0 hret hnm hV0 K0
  change Own.Wk true p l e ({ frames := 2, cells := 2, slots := 4, locals := 29 } : Room) s m #[(.ref a1), (.ref a2)] below meth c "java/lang/String" Z n0 h0 [] s.vm T0 h0 0 0 at K0
  replace K0 := K0.weaken [a1] (allS g1 all0)
  have hml : c.maxLocals = 2 := hml0
  have S0 : Go p e below (T0.setTop (entryFrame m #[(.ref a1), (.ref a2)] 2)) (T0.setTop (mkF m 0 #[.val (.ref a1), .val (.ref a2)] [])) := fun t k => castTop (by first | rfl | (simp [entryFrame, mkF, argsToLocals, Value.category]; done)) k
  generalize T0.setTop (entryFrame m #[(.ref a1), (.ref a2)] 2) = A0 at S0 ⊢
  have S1 : Go p e below A0 (T0.setTop (mkF m 4 #[.val (.ref a1), .val (.ref a2)] [(.ref a2), (.int (0 : Int32)), (.ref a2), (.ref a1)])) := by
    refine S0.trans ?_
    refine (Own.P.aloadN K0.here K0.exec (hb hby d_jdk_42_method_3_code_0) rfl rfl).trans ?_
    refine (Own.P.aloadN K0.here K0.exec (hb hby d_jdk_42_method_3_code_1) rfl rfl).trans ?_
    refine (Own.P.iconst K0.here K0.exec (0 : Int32) (hb hby d_jdk_42_method_3_code_2) rfl).trans ?_
    refine (Own.P.aloadN K0.here K0.exec (hb hby d_jdk_42_method_3_code_3) rfl rfl).trans ?_
    exact Go.refl _
  have G2 := K0.len V (pc := 4) (Ls := #[.val (.ref a1), .val (.ref a2)]) (rest := [(.int (0 : Int32)), (.ref a2), (.ref a1)]) (hb hby d_jdk_42_method_3_code_4)
  have S2 : Go p e below A0 (T0.setTop (mkF m 5 #[.val (.ref a1), .val (.ref a2)] [(.int (0 : Int32)), (.int (0 : Int32)), (.ref a2), (.ref a1)])) := S1.trans G2
  have S3 : Go p e below A0 (T0.setTop (mkF m 6 #[.val (.ref a1), .val (.ref a2)] [Value.null, (.int (0 : Int32)), (.int (0 : Int32)), (.ref a2), (.ref a1)])) := by
    refine S2.trans ?_
    refine (Own.P.null K0.here K0.exec (hb hby d_jdk_42_method_3_code_5) ).trans ?_
    exact Go.refl _
  obtain ⟨v4, vm4, vq4, T4, h4, K4, KK4, ev4, Q4, G4⟩ := K0.callI (y := (⟨"java/lang/String", "<init>", "([CIILjava/lang/Void;)V"⟩ : MethodName)) rfl (hw _ (List.mem_of_getElem? (i := 11) rfl)) (hw _ (List.mem_of_getElem? (i := 12) rfl)) (hw _ (List.mem_of_getElem? (i := 14) rfl)) (by decide) (W := 0) (a := a1) (argsL := [(.ref a2), (.int (0 : Int32)), (.int (0 : Int32)), Value.null]) (rest := []) ((c_new40 l Z a0 hw n0 h0 (K0.old) a1 a2 E F1 F2 g1 HH HC).pay Own.IB.cl (hw _ (List.mem_of_getElem? (i := 14) rfl)) (hw _ (List.mem_of_getElem? (i := 6) rfl)) (by decide) (by decide)) hV0 (pc := 6) (Ls := #[.val (.ref a1), .val (.ref a2)]) (st := [Value.null, (.int (0 : Int32)), (.int (0 : Int32)), (.ref a2), (.ref a1)]) (by rw [hml]; rfl) (lenOf pd_3 rfl) rfl (Nat.le_of_eq rfl) (hb hby d_jdk_42_method_3_code_6) (by decide) (by decide) (allS (Or.inl (List.mem_of_getElem? (i := 0) rfl)) all0)
  obtain ⟨rfl, hW4⟩ := ev4 rfl
  obtain ⟨rfl, SI⟩ := Q4
  have S4 : Go p e below A0 (T4.setTop (mkF m 9 #[.val (.ref a1), .val (.ref a2)] [])) := S3.trans G4
  exact ⟨vq4, T4, h4, none, _, _, K4, by decide, by decide, ⟨rfl, SI⟩, K4.retV S4 hret (hb hby d_jdk_42_method_3_code_9)⟩
theorem d_method_3_code_0 : decode method_3_code 0 = .ok (.iload_n 0, 1) := by decide +kernel
theorem d_method_3_code_1 : decode method_3_code 1 = .ok (.ifCond .ne 14, 3) := by decide +kernel
theorem d_method_3_code_4 : decode method_3_code 4 = .ok (.new 34, 3) := by decide +kernel
theorem d_method_3_code_7 : decode method_3_code 7 = .ok (.dup, 1) := by decide +kernel
theorem d_method_3_code_8 : decode method_3_code 8 = .ok (.iconst 0, 1) := by decide +kernel
theorem d_method_3_code_9 : decode method_3_code 9 = .ok (.newarray .char, 2) := by decide +kernel
theorem pd_4 : parseMethodDescriptor "([C)V" = some ⟨[(.array .char)], none⟩ := by decide +kernel
theorem d_method_3_code_11 : decode method_3_code 11 = .ok (.invokespecial 42, 3) := by decide +kernel
theorem d_method_3_code_14 : decode method_3_code 14 = .ok (.areturn, 1) := by decide +kernel
theorem d_method_3_code_15 : decode method_3_code 15 = .ok (.iload_n 0, 1) := by decide +kernel
theorem d_method_3_code_16 : decode method_3_code 16 = .ok (.iconst 1, 1) := by decide +kernel
theorem d_method_3_code_17 : decode method_3_code 17 = .ok (.if_icmp .ne 8, 3) := by decide +kernel
theorem d_method_3_code_20 : decode method_3_code 20 = .ok (.iload_n 1, 1) := by decide +kernel
theorem pd_5 : parseMethodDescriptor "(C)Ljava/lang/String;" = some ⟨[.char], some (.object "java/lang/String")⟩ := by decide +kernel
theorem d_method_3_code_21 : decode method_3_code 21 = .ok (.invokestatic 45, 3) := by decide +kernel
theorem d_method_3_code_24 : decode method_3_code 24 = .ok (.areturn, 1) := by decide +kernel
theorem d_method_3_code_25 : decode method_3_code 25 = .ok (.iload_n 0, 1) := by decide +kernel
theorem d_method_3_code_26 : decode method_3_code 26 = .ok (.iconst 2, 1) := by decide +kernel
theorem d_method_3_code_27 : decode method_3_code 27 = .ok (.if_icmp .ne 28, 3) := by decide +kernel
theorem d_method_3_code_30 : decode method_3_code 30 = .ok (.iconst 2, 1) := by decide +kernel
theorem d_method_3_code_31 : decode method_3_code 31 = .ok (.newarray .char, 2) := by decide +kernel
theorem d_method_3_code_33 : decode method_3_code 33 = .ok (.astore 4, 2) := by decide +kernel
theorem d_method_3_code_35 : decode method_3_code 35 = .ok (.aload 4, 2) := by decide +kernel
theorem d_method_3_code_37 : decode method_3_code 37 = .ok (.iconst 0, 1) := by decide +kernel
theorem d_method_3_code_38 : decode method_3_code 38 = .ok (.iload_n 1, 1) := by decide +kernel
theorem d_method_3_code_39 : decode method_3_code 39 = .ok (.castore, 1) := by decide +kernel
theorem d_method_3_code_40 : decode method_3_code 40 = .ok (.aload 4, 2) := by decide +kernel
theorem d_method_3_code_42 : decode method_3_code 42 = .ok (.iconst 1, 1) := by decide +kernel
theorem d_method_3_code_43 : decode method_3_code 43 = .ok (.iload_n 2, 1) := by decide +kernel
theorem d_method_3_code_44 : decode method_3_code 44 = .ok (.castore, 1) := by decide +kernel
theorem d_method_3_code_45 : decode method_3_code 45 = .ok (.new 34, 3) := by decide +kernel
theorem d_method_3_code_48 : decode method_3_code 48 = .ok (.dup, 1) := by decide +kernel
theorem d_method_3_code_49 : decode method_3_code 49 = .ok (.aload 4, 2) := by decide +kernel
theorem d_method_3_code_51 : decode method_3_code 51 = .ok (.invokespecial 42, 3) := by decide +kernel
theorem d_method_3_code_54 : decode method_3_code 54 = .ok (.areturn, 1) := by decide +kernel
theorem d_method_3_code_55 : decode method_3_code 55 = .ok (.iconst 3, 1) := by decide +kernel
theorem d_method_3_code_56 : decode method_3_code 56 = .ok (.newarray .char, 2) := by decide +kernel
theorem d_method_3_code_58 : decode method_3_code 58 = .ok (.astore 4, 2) := by decide +kernel
theorem d_method_3_code_60 : decode method_3_code 60 = .ok (.aload 4, 2) := by decide +kernel
theorem d_method_3_code_62 : decode method_3_code 62 = .ok (.iconst 0, 1) := by decide +kernel
theorem d_method_3_code_63 : decode method_3_code 63 = .ok (.iload_n 1, 1) := by decide +kernel
theorem d_method_3_code_64 : decode method_3_code 64 = .ok (.castore, 1) := by decide +kernel
theorem d_method_3_code_65 : decode method_3_code 65 = .ok (.aload 4, 2) := by decide +kernel
theorem d_method_3_code_67 : decode method_3_code 67 = .ok (.iconst 1, 1) := by decide +kernel
theorem d_method_3_code_68 : decode method_3_code 68 = .ok (.iload_n 2, 1) := by decide +kernel
theorem d_method_3_code_69 : decode method_3_code 69 = .ok (.castore, 1) := by decide +kernel
theorem d_method_3_code_70 : decode method_3_code 70 = .ok (.aload 4, 2) := by decide +kernel
theorem d_method_3_code_72 : decode method_3_code 72 = .ok (.iconst 2, 1) := by decide +kernel
theorem d_method_3_code_73 : decode method_3_code 73 = .ok (.iload_n 3, 1) := by decide +kernel
theorem d_method_3_code_74 : decode method_3_code 74 = .ok (.castore, 1) := by decide +kernel
theorem d_method_3_code_75 : decode method_3_code 75 = .ok (.new 34, 3) := by decide +kernel
theorem d_method_3_code_78 : decode method_3_code 78 = .ok (.dup, 1) := by decide +kernel
theorem d_method_3_code_79 : decode method_3_code 79 = .ok (.aload 4, 2) := by decide +kernel
theorem d_method_3_code_81 : decode method_3_code 81 = .ok (.invokespecial 42, 3) := by decide +kernel
theorem d_method_3_code_84 : decode method_3_code 84 = .ok (.areturn, 1) := by decide +kernel
theorem pn_2 : plainName "com/example/pipefish/pipefish/conformance/OutcomeSkipPinLaw" = true := by first | (simp [plainName, overriddenIn]; done) | decide +kernel
set_option maxRecDepth 65536 in
set_option maxHeartbeats 40000000 in
theorem c_draw (l : Launch) (Z : State) (a0 : Array Value) (hw : ∀ d ∈ tables_1, d.before a0 Z = true) (n0 : Nat) (h0 : Heap) (O0 : Old Z n0 h0) (n c1 c2 c3 : Int32) (hn : n = 0 ∨ n = 1 ∨ n = 2 ∨ n = 3) (r1 : ¬ c1 < 0 ∧ ¬ 255 < c1) (r2 : ¬ c2 < 0 ∧ ¬ 255 < c2) (r3 : ¬ c3 < 0 ∧ ¬ 255 < c3) (zc : Int32) (hzc : ¬ zc = 0) (SC : Sta Z Z.heap "java/lang/String" "COMPACT_STRINGS" "Z" (.int zc)) (HH : Jvm.Lit.constHeld Z "java/lang/String" 7) (HC : Jvm.Lit.compactW.before a0 Z = true) :
    Own.Ctr true l (⟨"com/example/pipefish/pipefish/conformance/OutcomeSkipPinLaw", "draw", "(ICCC)Ljava/lang/String;"⟩ : MethodName) method_3_code 5 (some (.object "java/lang/String")) ({ frames := 4, cells := 4, slots := 10, locals := 66 } : Room) #[(.int n), (.int c1), (.int c2), (.int c3)] Z h0 (fun vm => IB Z vm []) [] (fun v h vm => ∃ a, v = some (.ref a) ∧ Exa Z h a "java/lang/String") := by
  refine Own.body (plainFor_of_name pn_2) O0 (fun _ _ _ _ q => by cases q) (fun _ _ _ _ q _ => q) ?_
  intro p e s m below meth c T0 hby hml0 hret hnm hV0 K0
  change Own.Wk true p l e ({ frames := 4, cells := 4, slots := 10, locals := 66 } : Room) s m #[(.int n), (.int c1), (.int c2), (.int c3)] below meth c "com/example/pipefish/pipefish/conformance/OutcomeSkipPinLaw" Z n0 h0 [] s.vm T0 h0 0 0 at K0
  have hml : c.maxLocals = 5 := hml0
  have S0 : Go p e below (T0.setTop (entryFrame m #[(.int n), (.int c1), (.int c2), (.int c3)] 5)) (T0.setTop (mkF m 0 #[.val (.int n), .val (.int c1), .val (.int c2), .val (.int c3), .unset] [])) := fun t k => castTop (by first | rfl | (simp [entryFrame, mkF, argsToLocals, Value.category]; done)) k
  generalize T0.setTop (entryFrame m #[(.int n), (.int c1), (.int c2), (.int c3)] 5) = A0 at S0 ⊢
  rcases hn with rfl | rfl | rfl | rfl
  case inl =>
    have S1 : Go p e below A0 (T0.setTop (mkF m 4 #[.val (.int (0 : Int32)), .val (.int c1), .val (.int c2), .val (.int c3), .unset] [])) := by
      refine S0.trans ?_
      refine (Own.P.iloadN K0.here K0.exec (hb hby d_method_3_code_0) rfl).trans ?_
      refine (Own.P.ifNo K0.here K0.exec (hb hby d_method_3_code_1) (by decide)).trans ?_
      exact Go.refl _
    obtain ⟨T2, h2, sq, K2, E2, g_sq, l_sq, ne_sq, X_sq, D_sq, G2⟩ := K0.newO (hw _ (List.mem_of_getElem? (i := 4) rfl)) (hw _ (List.mem_of_getElem? (i := 5) rfl)) (hw _ (List.mem_of_getElem? (i := 6) rfl)) (pc := 4) (Ls := #[.val (.int (0 : Int32)), .val (.int c1), .val (.int c2), .val (.int c3), .unset]) (rest := []) (hb hby d_method_3_code_4) (by decide) (by decide)
    have S2 : Go p e below A0 (T2.setTop (mkF m 7 #[.val (.int (0 : Int32)), .val (.int c1), .val (.int c2), .val (.int c3), .unset] [(.ref sq)])) := S1.trans G2
    have S3 : Go p e below A0 (T2.setTop (mkF m 9 #[.val (.int (0 : Int32)), .val (.int c1), .val (.int c2), .val (.int c3), .unset] [(.int (0 : Int32)), (.ref sq), (.ref sq)])) := by
      refine S2.trans ?_
      refine (Own.P.dup K2.here K2.exec (hb hby d_method_3_code_7) rfl).trans ?_
      refine (Own.P.iconst K2.here K2.exec (0 : Int32) (hb hby d_method_3_code_8) rfl).trans ?_
      exact Go.refl _
    obtain ⟨T4, h4, ca, cA_ca, K4, E4, g_ca, l_ca, ne_ca, V_ca, G4⟩ := K2.newP (aty := .char) (hw _ (List.mem_of_getElem? (i := 7) rfl)) (n := (0 : Int32)) (pc := 9) (Ls := #[.val (.int (0 : Int32)), .val (.int c1), .val (.int c2), .val (.int c3), .unset]) (rest := [(.ref sq), (.ref sq)]) (hb hby d_method_3_code_9) 0 (by decide) (by decide) (by decide) (by decide) (by decide)
    have S4 : Go p e below A0 (T4.setTop (mkF m 11 #[.val (.int (0 : Int32)), .val (.int c1), .val (.int c2), .val (.int c3), .unset] [(.ref ca), (.ref sq), (.ref sq)])) := S3.trans G4
    have Xs := X_sq.ext E4
    have Fv := (D_sq (Or.inr (hw _ (List.mem_of_getElem? (i := 20) rfl))) (ty := .array .byte) (by decide)).ext E4
    have Fc := (D_sq (Or.inr (hw _ (List.mem_of_getElem? (i := 21) rfl))) (ty := .byte) (by decide)).ext E4
    obtain ⟨v5, vm5, vq5, T5, h5, K5, KK5, ev5, Q5, G5⟩ := K4.callI (y := (⟨"java/lang/String", "<init>", "([C)V"⟩ : MethodName)) rfl (hw _ (List.mem_of_getElem? (i := 8) rfl)) (hw _ (List.mem_of_getElem? (i := 9) rfl)) (hw _ (List.mem_of_getElem? (i := 10) rfl)) (by decide) (W := 1) (a := sq) (argsL := [(.ref ca)]) (rest := [(.ref sq)]) ((c_new10 l Z a0 hw n0 h4 (K4.old) sq ca cA_ca _ _ V_ca Xs Fv Fc (K4.fresh (Or.inr g_sq)) HH HC).pay Own.IB.cl (hw _ (List.mem_of_getElem? (i := 10) rfl)) (hw _ (List.mem_of_getElem? (i := 6) rfl)) (by decide) (by decide)) hV0 (pc := 11) (Ls := #[.val (.int (0 : Int32)), .val (.int c1), .val (.int c2), .val (.int c3), .unset]) (st := [(.ref ca), (.ref sq), (.ref sq)]) (by rw [hml]; rfl) (lenOf pd_4 rfl) rfl (Nat.le_of_eq rfl) (hb hby d_method_3_code_11) (by decide) (by decide) (allS (Or.inr g_sq) all0)
    obtain ⟨rfl, hW5⟩ := ev5 rfl
    obtain ⟨rfl, SI⟩ := Q5
    have S5 : Go p e below A0 (T5.setTop (mkF m 14 #[.val (.int (0 : Int32)), .val (.int c1), .val (.int c2), .val (.int c3), .unset] [(.ref sq)])) := S4.trans G5
    exact ⟨vq5, T5, h5, (some (.ref sq)), _, _, K5, by decide, by decide, ⟨sq, rfl, SI.1.2.1⟩, K5.retW S5 hret rfl (Or.inr (Or.inr (Or.inr (Or.inr ⟨rfl, rfl, rfl⟩)))) (hb hby d_method_3_code_14)⟩
  case inr.inl =>
    have S6 : Go p e below A0 (T0.setTop (mkF m 21 #[.val (.int (1 : Int32)), .val (.int c1), .val (.int c2), .val (.int c3), .unset] [(.int c1)])) := by
      refine S0.trans ?_
      refine (Own.P.iloadN K0.here K0.exec (hb hby d_method_3_code_0) rfl).trans ?_
      refine (Own.P.ifYes K0.here K0.exec 15 (hb hby d_method_3_code_1) (by decide) (by decide) (by decide)).trans ?_
      refine (Own.P.iloadN K0.here K0.exec (hb hby d_method_3_code_15) rfl).trans ?_
      refine (Own.P.iconst K0.here K0.exec (1 : Int32) (hb hby d_method_3_code_16) rfl).trans ?_
      refine (Own.P.icmpNo K0.here K0.exec (hb hby d_method_3_code_17) (by decide)).trans ?_
      refine (Own.P.iloadN K0.here K0.exec (hb hby d_method_3_code_20) rfl).trans ?_
      exact Go.refl _
    obtain ⟨v7, vm7, vq7, T7, h7, K7, KK7, ev7, Q7, G7⟩ := K0.callS (y := (⟨"java/lang/String", "valueOf", "(C)Ljava/lang/String;"⟩ : MethodName)) (hw _ (List.mem_of_getElem? (i := 77) rfl)) (hw _ (List.mem_of_getElem? (i := 78) rfl)) (hw _ (List.mem_of_getElem? (i := 6) rfl)) (hw _ (List.mem_of_getElem? (i := 79) rfl)) (by decide) (W := 0) (argsL := [(.int c1)]) (rest := []) ((c_valueOf l Z a0 hw n0 h0 (K0.old) c1 r1 zc hzc SC).payW Own.VT.cl (hw _ (List.mem_of_getElem? (i := 79) rfl)) (hw _ (List.mem_of_getElem? (i := 6) rfl)) (by decide) (by decide)) trivial (pc := 21) (Ls := #[.val (.int (1 : Int32)), .val (.int c1), .val (.int c2), .val (.int c3), .unset]) (st := [(.int c1)]) (by rw [hml]; rfl) (lenOf pd_5 rfl) rfl (Nat.le_of_eq rfl) (hb hby d_method_3_code_21) (by decide) (by decide) all0
    obtain ⟨rfl, hW7⟩ := ev7 rfl
    obtain ⟨⟨sq, rfl, SI, -⟩, hv7⟩ := Q7
    have S7 : Go p e below A0 (T7.setTop (mkF m 24 #[.val (.int (1 : Int32)), .val (.int c1), .val (.int c2), .val (.int c3), .unset] [(.ref sq)])) := S6.trans G7
    exact ⟨vq7, T7, h7, (some (.ref sq)), _, _, K7, by decide, by decide, ⟨sq, rfl, SI.2.1⟩, K7.retW S7 hret rfl (Or.inr (Or.inr (Or.inr (Or.inr ⟨rfl, rfl, rfl⟩)))) (hb hby d_method_3_code_24)⟩
  case inr.inr.inl =>
    have S8 : Go p e below A0 (T0.setTop (mkF m 31 #[.val (.int (2 : Int32)), .val (.int c1), .val (.int c2), .val (.int c3), .unset] [(.int (2 : Int32))])) := by
      refine S0.trans ?_
      refine (Own.P.iloadN K0.here K0.exec (hb hby d_method_3_code_0) rfl).trans ?_
      refine (Own.P.ifYes K0.here K0.exec 15 (hb hby d_method_3_code_1) (by decide) (by decide) (by decide)).trans ?_
      refine (Own.P.iloadN K0.here K0.exec (hb hby d_method_3_code_15) rfl).trans ?_
      refine (Own.P.iconst K0.here K0.exec (1 : Int32) (hb hby d_method_3_code_16) rfl).trans ?_
      refine (Own.P.icmpYes K0.here K0.exec 25 (hb hby d_method_3_code_17) (by decide) (by decide) (by decide)).trans ?_
      refine (Own.P.iloadN K0.here K0.exec (hb hby d_method_3_code_25) rfl).trans ?_
      refine (Own.P.iconst K0.here K0.exec (2 : Int32) (hb hby d_method_3_code_26) rfl).trans ?_
      refine (Own.P.icmpNo K0.here K0.exec (hb hby d_method_3_code_27) (by decide)).trans ?_
      refine (Own.P.iconst K0.here K0.exec (2 : Int32) (hb hby d_method_3_code_30) rfl).trans ?_
      exact Go.refl _
    obtain ⟨T9, h9, ca, cA_ca, K9, E9, g_ca, l_ca, ne_ca, V_ca, G9⟩ := K0.newP (aty := .char) (hw _ (List.mem_of_getElem? (i := 7) rfl)) (n := (2 : Int32)) (pc := 31) (Ls := #[.val (.int (2 : Int32)), .val (.int c1), .val (.int c2), .val (.int c3), .unset]) (rest := []) (hb hby d_method_3_code_31) 2 (by decide) (by decide) (by decide) (by decide) (by decide)
    have S9 : Go p e below A0 (T9.setTop (mkF m 33 #[.val (.int (2 : Int32)), .val (.int c1), .val (.int c2), .val (.int c3), .unset] [(.ref ca)])) := S8.trans G9
    have V0 : Arv Z h9 ca cA_ca .char 2 [.int 0, .int 0] (.int 0) := V_ca.pad (pad_rep [] (.int 0) 2)
    have S10 : Go p e below A0 (T9.setTop (mkF m 39 #[.val (.int (2 : Int32)), .val (.int c1), .val (.int c2), .val (.int c3), .val (.ref ca)] [(.int c1), (.int (0 : Int32)), (.ref ca)])) := by
      refine S9.trans ?_
      refine (Own.P.astore K9.here K9.exec (l' := #[.val (.int (2 : Int32)), .val (.int c1), .val (.int c2), .val (.int c3), .val (.ref ca)]) (hb hby d_method_3_code_33) rfl rfl).trans ?_
      refine (Own.P.aload K9.here K9.exec (hb hby d_method_3_code_35) rfl rfl).trans ?_
      refine (Own.P.iconst K9.here K9.exec (0 : Int32) (hb hby d_method_3_code_37) rfl).trans ?_
      refine (Own.P.iloadN K9.here K9.exec (hb hby d_method_3_code_38) rfl).trans ?_
      exact Go.refl _
    obtain ⟨T11, h11, K11, W11, V11, G11⟩ := K9.stC V0  (j := (0 : Int32)) ⟨by decide, by decide⟩ 0 rfl (Nat.le_of_ble_eq_true rfl) (Or.inr g_ca) (pc := 39) (Ls := #[.val (.int (2 : Int32)), .val (.int c1), .val (.int c2), .val (.int c3), .val (.ref ca)]) (rest := []) (hb hby d_method_3_code_39)
    have S11 : Go p e below A0 (T11.setTop (mkF m 40 #[.val (.int (2 : Int32)), .val (.int c1), .val (.int c2), .val (.int c3), .val (.ref ca)] [])) := S10.trans G11
    rw [own_nc r1] at V11
    have S12 : Go p e below A0 (T11.setTop (mkF m 44 #[.val (.int (2 : Int32)), .val (.int c1), .val (.int c2), .val (.int c3), .val (.ref ca)] [(.int c2), (.int (1 : Int32)), (.ref ca)])) := by
      refine S11.trans ?_
      refine (Own.P.aload K11.here K11.exec (hb hby d_method_3_code_40) rfl rfl).trans ?_
      refine (Own.P.iconst K11.here K11.exec (1 : Int32) (hb hby d_method_3_code_42) rfl).trans ?_
      refine (Own.P.iloadN K11.here K11.exec (hb hby d_method_3_code_43) rfl).trans ?_
      exact Go.refl _
    obtain ⟨T13, h13, K13, W13, V13, G13⟩ := K11.stC V11  (j := (1 : Int32)) ⟨by decide, by decide⟩ 1 rfl (Nat.le_of_ble_eq_true rfl) (Or.inr g_ca) (pc := 44) (Ls := #[.val (.int (2 : Int32)), .val (.int c1), .val (.int c2), .val (.int c3), .val (.ref ca)]) (rest := []) (hb hby d_method_3_code_44)
    have S13 : Go p e below A0 (T13.setTop (mkF m 45 #[.val (.int (2 : Int32)), .val (.int c1), .val (.int c2), .val (.int c3), .val (.ref ca)] [])) := S12.trans G13
    rw [own_nc r2] at V13
    obtain ⟨T14, h14, sq, K14, E14, g_sq, l_sq, ne_sq, X_sq, D_sq, G14⟩ := K13.newO (hw _ (List.mem_of_getElem? (i := 4) rfl)) (hw _ (List.mem_of_getElem? (i := 5) rfl)) (hw _ (List.mem_of_getElem? (i := 6) rfl)) (pc := 45) (Ls := #[.val (.int (2 : Int32)), .val (.int c1), .val (.int c2), .val (.int c3), .val (.ref ca)]) (rest := []) (hb hby d_method_3_code_45) (by decide) (by decide)
    have S14 : Go p e below A0 (T14.setTop (mkF m 48 #[.val (.int (2 : Int32)), .val (.int c1), .val (.int c2), .val (.int c3), .val (.ref ca)] [(.ref sq)])) := S13.trans G14
    have V3 := V13.ext E14
    have hp : ∀ c ∈ [c1, c2], ¬ c < 0 ∧ ¬ (255 : Int32) < c := by intro c hc; simp only [List.mem_cons, List.not_mem_nil, or_false] at hc; rcases hc with rfl | rfl <;> assumption
    have S15 : Go p e below A0 (T14.setTop (mkF m 51 #[.val (.int (2 : Int32)), .val (.int c1), .val (.int c2), .val (.int c3), .val (.ref ca)] [(.ref ca), (.ref sq), (.ref sq)])) := by
      refine S14.trans ?_
      refine (Own.P.dup K14.here K14.exec (hb hby d_method_3_code_48) rfl).trans ?_
      refine (Own.P.aload K14.here K14.exec (hb hby d_method_3_code_49) rfl rfl).trans ?_
      exact Go.refl _
    obtain ⟨v16, vm16, vq16, T16, h16, K16, KK16, ev16, Q16, G16⟩ := K14.callI (y := (⟨"java/lang/String", "<init>", "([C)V"⟩ : MethodName)) rfl (hw _ (List.mem_of_getElem? (i := 8) rfl)) (hw _ (List.mem_of_getElem? (i := 9) rfl)) (hw _ (List.mem_of_getElem? (i := 10) rfl)) (by decide) (W := 1) (a := sq) (argsL := [(.ref ca)]) (rest := [(.ref sq)]) (Own.payStr (W := 1) hw Own.VT.cl (hw _ (List.mem_of_getElem? (i := 5) rfl)) (cs := [c1, c2]) (n := 2) K14.old X_sq (D_sq (Or.inr (hw _ (List.mem_of_getElem? (i := 20) rfl))) (ty := .array .byte) (by decide)) (D_sq (Or.inr (hw _ (List.mem_of_getElem? (i := 21) rfl))) (ty := .byte) (by decide)) V3 SC hzc rfl rfl rfl (by decide) (by decide) hp (by decide) (by decide)) trivial (pc := 51) (Ls := #[.val (.int (2 : Int32)), .val (.int c1), .val (.int c2), .val (.int c3), .val (.ref ca)]) (st := [(.ref ca), (.ref sq), (.ref sq)]) (by rw [hml]; rfl) (lenOf pd_4 rfl) rfl (Nat.le_of_eq rfl) (hb hby d_method_3_code_51) (by decide) (by decide) (allS (Or.inr g_sq) all0)
    obtain ⟨rfl, hW16⟩ := ev16 rfl
    obtain ⟨rfl, SI, -⟩ := Q16
    have S16 : Go p e below A0 (T16.setTop (mkF m 54 #[.val (.int (2 : Int32)), .val (.int c1), .val (.int c2), .val (.int c3), .val (.ref ca)] [(.ref sq)])) := S15.trans G16
    exact ⟨vq16, T16, h16, (some (.ref sq)), _, _, K16, by decide, by decide, ⟨sq, rfl, SI.2.1⟩, K16.retW S16 hret rfl (Or.inr (Or.inr (Or.inr (Or.inr ⟨rfl, rfl, rfl⟩)))) (hb hby d_method_3_code_54)⟩
  case inr.inr.inr =>
    have S17 : Go p e below A0 (T0.setTop (mkF m 56 #[.val (.int (3 : Int32)), .val (.int c1), .val (.int c2), .val (.int c3), .unset] [(.int (3 : Int32))])) := by
      refine S0.trans ?_
      refine (Own.P.iloadN K0.here K0.exec (hb hby d_method_3_code_0) rfl).trans ?_
      refine (Own.P.ifYes K0.here K0.exec 15 (hb hby d_method_3_code_1) (by decide) (by decide) (by decide)).trans ?_
      refine (Own.P.iloadN K0.here K0.exec (hb hby d_method_3_code_15) rfl).trans ?_
      refine (Own.P.iconst K0.here K0.exec (1 : Int32) (hb hby d_method_3_code_16) rfl).trans ?_
      refine (Own.P.icmpYes K0.here K0.exec 25 (hb hby d_method_3_code_17) (by decide) (by decide) (by decide)).trans ?_
      refine (Own.P.iloadN K0.here K0.exec (hb hby d_method_3_code_25) rfl).trans ?_
      refine (Own.P.iconst K0.here K0.exec (2 : Int32) (hb hby d_method_3_code_26) rfl).trans ?_
      refine (Own.P.icmpYes K0.here K0.exec 55 (hb hby d_method_3_code_27) (by decide) (by decide) (by decide)).trans ?_
      refine (Own.P.iconst K0.here K0.exec (3 : Int32) (hb hby d_method_3_code_55) rfl).trans ?_
      exact Go.refl _
    obtain ⟨T18, h18, ca, cA_ca, K18, E18, g_ca, l_ca, ne_ca, V_ca, G18⟩ := K0.newP (aty := .char) (hw _ (List.mem_of_getElem? (i := 7) rfl)) (n := (3 : Int32)) (pc := 56) (Ls := #[.val (.int (3 : Int32)), .val (.int c1), .val (.int c2), .val (.int c3), .unset]) (rest := []) (hb hby d_method_3_code_56) 3 (by decide) (by decide) (by decide) (by decide) (by decide)
    have S18 : Go p e below A0 (T18.setTop (mkF m 58 #[.val (.int (3 : Int32)), .val (.int c1), .val (.int c2), .val (.int c3), .unset] [(.ref ca)])) := S17.trans G18
    have V0 : Arv Z h18 ca cA_ca .char 3 [.int 0, .int 0, .int 0] (.int 0) := V_ca.pad (pad_rep [] (.int 0) 3)
    have S19 : Go p e below A0 (T18.setTop (mkF m 64 #[.val (.int (3 : Int32)), .val (.int c1), .val (.int c2), .val (.int c3), .val (.ref ca)] [(.int c1), (.int (0 : Int32)), (.ref ca)])) := by
      refine S18.trans ?_
      refine (Own.P.astore K18.here K18.exec (l' := #[.val (.int (3 : Int32)), .val (.int c1), .val (.int c2), .val (.int c3), .val (.ref ca)]) (hb hby d_method_3_code_58) rfl rfl).trans ?_
      refine (Own.P.aload K18.here K18.exec (hb hby d_method_3_code_60) rfl rfl).trans ?_
      refine (Own.P.iconst K18.here K18.exec (0 : Int32) (hb hby d_method_3_code_62) rfl).trans ?_
      refine (Own.P.iloadN K18.here K18.exec (hb hby d_method_3_code_63) rfl).trans ?_
      exact Go.refl _
    obtain ⟨T20, h20, K20, W20, V20, G20⟩ := K18.stC V0  (j := (0 : Int32)) ⟨by decide, by decide⟩ 0 rfl (Nat.le_of_ble_eq_true rfl) (Or.inr g_ca) (pc := 64) (Ls := #[.val (.int (3 : Int32)), .val (.int c1), .val (.int c2), .val (.int c3), .val (.ref ca)]) (rest := []) (hb hby d_method_3_code_64)
    have S20 : Go p e below A0 (T20.setTop (mkF m 65 #[.val (.int (3 : Int32)), .val (.int c1), .val (.int c2), .val (.int c3), .val (.ref ca)] [])) := S19.trans G20
    rw [own_nc r1] at V20
    have S21 : Go p e below A0 (T20.setTop (mkF m 69 #[.val (.int (3 : Int32)), .val (.int c1), .val (.int c2), .val (.int c3), .val (.ref ca)] [(.int c2), (.int (1 : Int32)), (.ref ca)])) := by
      refine S20.trans ?_
      refine (Own.P.aload K20.here K20.exec (hb hby d_method_3_code_65) rfl rfl).trans ?_
      refine (Own.P.iconst K20.here K20.exec (1 : Int32) (hb hby d_method_3_code_67) rfl).trans ?_
      refine (Own.P.iloadN K20.here K20.exec (hb hby d_method_3_code_68) rfl).trans ?_
      exact Go.refl _
    obtain ⟨T22, h22, K22, W22, V22, G22⟩ := K20.stC V20  (j := (1 : Int32)) ⟨by decide, by decide⟩ 1 rfl (Nat.le_of_ble_eq_true rfl) (Or.inr g_ca) (pc := 69) (Ls := #[.val (.int (3 : Int32)), .val (.int c1), .val (.int c2), .val (.int c3), .val (.ref ca)]) (rest := []) (hb hby d_method_3_code_69)
    have S22 : Go p e below A0 (T22.setTop (mkF m 70 #[.val (.int (3 : Int32)), .val (.int c1), .val (.int c2), .val (.int c3), .val (.ref ca)] [])) := S21.trans G22
    rw [own_nc r2] at V22
    have S23 : Go p e below A0 (T22.setTop (mkF m 74 #[.val (.int (3 : Int32)), .val (.int c1), .val (.int c2), .val (.int c3), .val (.ref ca)] [(.int c3), (.int (2 : Int32)), (.ref ca)])) := by
      refine S22.trans ?_
      refine (Own.P.aload K22.here K22.exec (hb hby d_method_3_code_70) rfl rfl).trans ?_
      refine (Own.P.iconst K22.here K22.exec (2 : Int32) (hb hby d_method_3_code_72) rfl).trans ?_
      refine (Own.P.iloadN K22.here K22.exec (hb hby d_method_3_code_73) rfl).trans ?_
      exact Go.refl _
    obtain ⟨T24, h24, K24, W24, V24, G24⟩ := K22.stC V22  (j := (2 : Int32)) ⟨by decide, by decide⟩ 2 rfl (Nat.le_of_ble_eq_true rfl) (Or.inr g_ca) (pc := 74) (Ls := #[.val (.int (3 : Int32)), .val (.int c1), .val (.int c2), .val (.int c3), .val (.ref ca)]) (rest := []) (hb hby d_method_3_code_74)
    have S24 : Go p e below A0 (T24.setTop (mkF m 75 #[.val (.int (3 : Int32)), .val (.int c1), .val (.int c2), .val (.int c3), .val (.ref ca)] [])) := S23.trans G24
    rw [own_nc r3] at V24
    obtain ⟨T25, h25, sq, K25, E25, g_sq, l_sq, ne_sq, X_sq, D_sq, G25⟩ := K24.newO (hw _ (List.mem_of_getElem? (i := 4) rfl)) (hw _ (List.mem_of_getElem? (i := 5) rfl)) (hw _ (List.mem_of_getElem? (i := 6) rfl)) (pc := 75) (Ls := #[.val (.int (3 : Int32)), .val (.int c1), .val (.int c2), .val (.int c3), .val (.ref ca)]) (rest := []) (hb hby d_method_3_code_75) (by decide) (by decide)
    have S25 : Go p e below A0 (T25.setTop (mkF m 78 #[.val (.int (3 : Int32)), .val (.int c1), .val (.int c2), .val (.int c3), .val (.ref ca)] [(.ref sq)])) := S24.trans G25
    have V3 := V24.ext E25
    have hp : ∀ c ∈ [c1, c2, c3], ¬ c < 0 ∧ ¬ (255 : Int32) < c := by intro c hc; simp only [List.mem_cons, List.not_mem_nil, or_false] at hc; rcases hc with rfl | rfl | rfl <;> assumption
    have S26 : Go p e below A0 (T25.setTop (mkF m 81 #[.val (.int (3 : Int32)), .val (.int c1), .val (.int c2), .val (.int c3), .val (.ref ca)] [(.ref ca), (.ref sq), (.ref sq)])) := by
      refine S25.trans ?_
      refine (Own.P.dup K25.here K25.exec (hb hby d_method_3_code_78) rfl).trans ?_
      refine (Own.P.aload K25.here K25.exec (hb hby d_method_3_code_79) rfl rfl).trans ?_
      exact Go.refl _
    obtain ⟨v27, vm27, vq27, T27, h27, K27, KK27, ev27, Q27, G27⟩ := K25.callI (y := (⟨"java/lang/String", "<init>", "([C)V"⟩ : MethodName)) rfl (hw _ (List.mem_of_getElem? (i := 8) rfl)) (hw _ (List.mem_of_getElem? (i := 9) rfl)) (hw _ (List.mem_of_getElem? (i := 10) rfl)) (by decide) (W := 1) (a := sq) (argsL := [(.ref ca)]) (rest := [(.ref sq)]) (Own.payStr (W := 1) hw Own.VT.cl (hw _ (List.mem_of_getElem? (i := 5) rfl)) (cs := [c1, c2, c3]) (n := 3) K25.old X_sq (D_sq (Or.inr (hw _ (List.mem_of_getElem? (i := 20) rfl))) (ty := .array .byte) (by decide)) (D_sq (Or.inr (hw _ (List.mem_of_getElem? (i := 21) rfl))) (ty := .byte) (by decide)) V3 SC hzc rfl rfl rfl (by decide) (by decide) hp (by decide) (by decide)) trivial (pc := 81) (Ls := #[.val (.int (3 : Int32)), .val (.int c1), .val (.int c2), .val (.int c3), .val (.ref ca)]) (st := [(.ref ca), (.ref sq), (.ref sq)]) (by rw [hml]; rfl) (lenOf pd_4 rfl) rfl (Nat.le_of_eq rfl) (hb hby d_method_3_code_81) (by decide) (by decide) (allS (Or.inr g_sq) all0)
    obtain ⟨rfl, hW27⟩ := ev27 rfl
    obtain ⟨rfl, SI, -⟩ := Q27
    have S27 : Go p e below A0 (T27.setTop (mkF m 84 #[.val (.int (3 : Int32)), .val (.int c1), .val (.int c2), .val (.int c3), .val (.ref ca)] [(.ref sq)])) := S26.trans G27
    exact ⟨vq27, T27, h27, (some (.ref sq)), _, _, K27, by decide, by decide, ⟨sq, rfl, SI.2.1⟩, K27.retW S27 hret rfl (Or.inr (Or.inr (Or.inr (Or.inr ⟨rfl, rfl, rfl⟩)))) (hb hby d_method_3_code_84)⟩
def OcAt (Z : State) (h : Heap) (a : Addr) (st : Value) (rs : Value) (dt : Value) : Prop := Exa Z h a "com/example/pipefish/pipefish/conformance/Outcome" ∧ Fld Z h a "com/example/pipefish/pipefish/conformance/Outcome" "status" "Lcom/example/pipefish/pipefish/conformance/Outcome$Status;" (st) ∧ Fld Z h a "com/example/pipefish/pipefish/conformance/Outcome" "reason" "Ljava/lang/String;" (rs) ∧ Fld Z h a "com/example/pipefish/pipefish/conformance/Outcome" "detail" "Ljava/lang/String;" (dt)
theorem OcAt.keep {Z : State} {h h' : Heap} {a : Addr} {ws : List Addr} {st : Value} {rs : Value} {dt : Value} (F : OcAt Z h a st rs dt) (K : Keep h h' ws) (q : a ∉ ws) : OcAt Z h' a st rs dt := ⟨F.1.keep K, (F.2.1).keep K q, (F.2.2.1).keep K q, (F.2.2.2).keep K q⟩
theorem OcAt.ext {Z : State} {h h' : Heap} {a : Addr} {st : Value} {rs : Value} {dt : Value} (F : OcAt Z h a st rs dt) (E : Ext h h') : OcAt Z h' a st rs dt := ⟨F.1.ext E, (F.2.1).ext E, (F.2.2.1).ext E, (F.2.2.2).ext E⟩
theorem OcAt.wrO {Z : State} {h h' : Heap} {a b : Addr} {sl : Nat} {w : Value} {st : Value} {rs : Value} {dt : Value} (F : OcAt Z h a st rs dt) (W : Wr h h' b sl w) (q : a ≠ b) : OcAt Z h' a st rs dt := ⟨F.1.wr W, (F.2.1).other W (Or.inl q), (F.2.2.1).other W (Or.inl q), (F.2.2.2).other W (Or.inl q)⟩
theorem OcAt.set_st {Z : State} {a0 : Array Value} (hw : ∀ d ∈ tables_1, d.before a0 Z = true) {h h' : Heap} {a : Addr} {st : Value} {rs : Value} {dt : Value} {x' : Value} (F : OcAt Z h a st rs dt) (W : Wr h h' a (RoadKit.slotOf Z "com/example/pipefish/pipefish/conformance/Outcome" "status" "Lcom/example/pipefish/pipefish/conformance/Outcome$Status;") (x')) : OcAt Z h' a x' rs dt := ⟨F.1.wr W, (F.2.1).same W, (F.2.2.1).other W (Or.inr (slot_ne (C := "com/example/pipefish/pipefish/conformance/Outcome") (Or.inr (hw _ (List.mem_of_getElem? (i := 42) rfl))) (Or.inr (hw _ (List.mem_of_getElem? (i := 40) rfl))) (by decide) (t := (.object "java/lang/String")) (t' := (.object "com/example/pipefish/pipefish/conformance/Outcome$Status")) (by decide) (by decide))), (F.2.2.2).other W (Or.inr (slot_ne (C := "com/example/pipefish/pipefish/conformance/Outcome") (Or.inr (hw _ (List.mem_of_getElem? (i := 44) rfl))) (Or.inr (hw _ (List.mem_of_getElem? (i := 40) rfl))) (by decide) (t := (.object "java/lang/String")) (t' := (.object "com/example/pipefish/pipefish/conformance/Outcome$Status")) (by decide) (by decide)))⟩
theorem OcAt.set_rs {Z : State} {a0 : Array Value} (hw : ∀ d ∈ tables_1, d.before a0 Z = true) {h h' : Heap} {a : Addr} {st : Value} {rs : Value} {dt : Value} {x' : Value} (F : OcAt Z h a st rs dt) (W : Wr h h' a (RoadKit.slotOf Z "com/example/pipefish/pipefish/conformance/Outcome" "reason" "Ljava/lang/String;") (x')) : OcAt Z h' a st x' dt := ⟨F.1.wr W, (F.2.1).other W (Or.inr (slot_ne (C := "com/example/pipefish/pipefish/conformance/Outcome") (Or.inr (hw _ (List.mem_of_getElem? (i := 40) rfl))) (Or.inr (hw _ (List.mem_of_getElem? (i := 42) rfl))) (by decide) (t := (.object "com/example/pipefish/pipefish/conformance/Outcome$Status")) (t' := (.object "java/lang/String")) (by decide) (by decide))), (F.2.2.1).same W, (F.2.2.2).other W (Or.inr (slot_ne (C := "com/example/pipefish/pipefish/conformance/Outcome") (Or.inr (hw _ (List.mem_of_getElem? (i := 44) rfl))) (Or.inr (hw _ (List.mem_of_getElem? (i := 42) rfl))) (by decide) (t := (.object "java/lang/String")) (t' := (.object "java/lang/String")) (by decide) (by decide)))⟩
theorem OcAt.set_dt {Z : State} {a0 : Array Value} (hw : ∀ d ∈ tables_1, d.before a0 Z = true) {h h' : Heap} {a : Addr} {st : Value} {rs : Value} {dt : Value} {x' : Value} (F : OcAt Z h a st rs dt) (W : Wr h h' a (RoadKit.slotOf Z "com/example/pipefish/pipefish/conformance/Outcome" "detail" "Ljava/lang/String;") (x')) : OcAt Z h' a st rs x' := ⟨F.1.wr W, (F.2.1).other W (Or.inr (slot_ne (C := "com/example/pipefish/pipefish/conformance/Outcome") (Or.inr (hw _ (List.mem_of_getElem? (i := 40) rfl))) (Or.inr (hw _ (List.mem_of_getElem? (i := 44) rfl))) (by decide) (t := (.object "com/example/pipefish/pipefish/conformance/Outcome$Status")) (t' := (.object "java/lang/String")) (by decide) (by decide))), (F.2.2.1).other W (Or.inr (slot_ne (C := "com/example/pipefish/pipefish/conformance/Outcome") (Or.inr (hw _ (List.mem_of_getElem? (i := 42) rfl))) (Or.inr (hw _ (List.mem_of_getElem? (i := 44) rfl))) (by decide) (t := (.object "java/lang/String")) (t' := (.object "java/lang/String")) (by decide) (by decide))), (F.2.2.2).same W⟩
theorem OcAt.new {Z : State} {a0 : Array Value} (hw : ∀ d ∈ tables_1, d.before a0 Z = true) {h : Heap} {a : Addr} (X : Exa Z h a "com/example/pipefish/pipefish/conformance/Outcome") (D : ∀ {O nm d : String} {ty : FieldType}, Laid Z a0 "com/example/pipefish/pipefish/conformance/Outcome" O nm d → parseFieldDescriptor d = some ty → Fld Z h a O nm d (defaultValue ty)) : Exa Z h a "com/example/pipefish/pipefish/conformance/Outcome" ∧ Fld Z h a "com/example/pipefish/pipefish/conformance/Outcome" "status" "Lcom/example/pipefish/pipefish/conformance/Outcome$Status;" (.null) ∧ Fld Z h a "com/example/pipefish/pipefish/conformance/Outcome" "reason" "Ljava/lang/String;" (.null) ∧ Fld Z h a "com/example/pipefish/pipefish/conformance/Outcome" "detail" "Ljava/lang/String;" (.null) := ⟨X, D (Or.inr (hw _ (List.mem_of_getElem? (i := 40) rfl))) (ty := (.object "com/example/pipefish/pipefish/conformance/Outcome$Status")) (by decide), D (Or.inr (hw _ (List.mem_of_getElem? (i := 42) rfl))) (ty := (.object "java/lang/String")) (by decide), D (Or.inr (hw _ (List.mem_of_getElem? (i := 44) rfl))) (ty := (.object "java/lang/String")) (by decide)⟩
theorem d_prog_12_method_1_code_0 : decode prog_12_method_1_code 0 = .ok (.aload_n 0, 1) := by decide +kernel
theorem d_prog_12_method_1_code_1 : decode prog_12_method_1_code 1 = .ok (.invokespecial 1, 3) := by decide +kernel
theorem d_prog_12_method_1_code_4 : decode prog_12_method_1_code 4 = .ok (.aload_n 0, 1) := by decide +kernel
theorem d_prog_12_method_1_code_5 : decode prog_12_method_1_code 5 = .ok (.aload_n 1, 1) := by decide +kernel
theorem d_prog_12_method_1_code_6 : decode prog_12_method_1_code 6 = .ok (.putfield 7, 3) := by decide +kernel
theorem d_prog_12_method_1_code_9 : decode prog_12_method_1_code 9 = .ok (.aload_n 0, 1) := by decide +kernel
theorem d_prog_12_method_1_code_10 : decode prog_12_method_1_code 10 = .ok (.aload_n 2, 1) := by decide +kernel
theorem d_prog_12_method_1_code_11 : decode prog_12_method_1_code 11 = .ok (.putfield 13, 3) := by decide +kernel
theorem d_prog_12_method_1_code_14 : decode prog_12_method_1_code 14 = .ok (.aload_n 0, 1) := by decide +kernel
theorem d_prog_12_method_1_code_15 : decode prog_12_method_1_code 15 = .ok (.aload_n 3, 1) := by decide +kernel
theorem d_prog_12_method_1_code_16 : decode prog_12_method_1_code 16 = .ok (.putfield 17, 3) := by decide +kernel
theorem d_prog_12_method_1_code_19 : decode prog_12_method_1_code 19 = .ok (.return_, 1) := by decide +kernel
theorem pn_3 : plainName "com/example/pipefish/pipefish/conformance/Outcome" = true := by first | (simp [plainName, overriddenIn]; done) | decide +kernel
set_option maxRecDepth 65536 in
set_option maxHeartbeats 40000000 in
theorem c_oinit (l : Launch) (Z : State) (a0 : Array Value) (hw : ∀ d ∈ tables_1, d.before a0 Z = true) (n0 : Nat) (h0 : Heap) (O0 : Old Z n0 h0) (a1 k1 k2 : Addr) (B : OcAt Z h0 a1 .null .null .null) (g1 : n0 ≤ a1) :
    Own.Ctr false l (⟨"com/example/pipefish/pipefish/conformance/Outcome", "<init>", "(Lcom/example/pipefish/pipefish/conformance/Outcome$Status;Ljava/lang/String;Ljava/lang/String;)V"⟩ : MethodName) prog_12_method_1_code 4 none ({ frames := 1, cells := 0, slots := 0, locals := 12 } : Room) #[(.ref a1), (.ref k1), (.ref k2), (.ref k2)] Z h0 Own.VT [a1] (fun v h vm => v = none ∧ OcAt Z h a1 (.ref k1) (.ref k2) (.ref k2)) := by
  refine Own.body (plainFor_of_name pn_3) O0 (fun v h vm q _ => q.1) (fun _ _ _ _ q _ => q) ?_
  intro p e s m below meth c T0 hby hml0 hret hnm hV0 K0
  change Own.Wk false p l e ({ frames := 1, cells := 0, slots := 0, locals := 12 } : Room) s m #[(.ref a1), (.ref k1), (.ref k2), (.ref k2)] below meth c "com/example/pipefish/pipefish/conformance/Outcome" Z n0 h0 [] s.vm T0 h0 0 0 at K0
  replace K0 := K0.weaken [a1] (allS g1 all0)
  have hml : c.maxLocals = 4 := hml0
  have S0 : Go p e below (T0.setTop (entryFrame m #[(.ref a1), (.ref k1), (.ref k2), (.ref k2)] 4)) (T0.setTop (mkF m 0 #[.val (.ref a1), .val (.ref k1), .val (.ref k2), .val (.ref k2)] [])) := fun t k => castTop (by first | rfl | (simp [entryFrame, mkF, argsToLocals, Value.category]; done)) k
  generalize T0.setTop (entryFrame m #[(.ref a1), (.ref k1), (.ref k2), (.ref k2)] 4) = A0 at S0 ⊢
  have S1 : Go p e below A0 (T0.setTop (mkF m 1 #[.val (.ref a1), .val (.ref k1), .val (.ref k2), .val (.ref k2)] [(.ref a1)])) := by
    refine S0.trans ?_
    refine (Own.P.aloadN K0.here K0.exec (hb hby d_prog_12_method_1_code_0) rfl rfl).trans ?_
    exact Go.refl _
  obtain ⟨T2, K2, G2⟩ := K0.initO (hw _ (List.mem_of_getElem? (i := 38) rfl)) (hw _ (List.mem_of_getElem? (i := 16) rfl)) (hw _ (List.mem_of_getElem? (i := 17) rfl)) (pc := 1) (Ls := #[.val (.ref a1), .val (.ref k1), .val (.ref k2), .val (.ref k2)]) (rest := []) (by rw [hml]; rfl) (hb hby d_prog_12_method_1_code_1) (by decide) (W := 0) (Nat.le_of_eq rfl) (by decide)
  have S2 : Go p e below A0 (T2.setTop (mkF m 4 #[.val (.ref a1), .val (.ref k1), .val (.ref k2), .val (.ref k2)] [])) := S1.trans G2
  have S3 : Go p e below A0 (T2.setTop (mkF m 6 #[.val (.ref a1), .val (.ref k1), .val (.ref k2), .val (.ref k2)] [(.ref k1), (.ref a1)])) := by
    refine S2.trans ?_
    refine (Own.P.aloadN K2.here K2.exec (hb hby d_prog_12_method_1_code_4) rfl rfl).trans ?_
    refine (Own.P.aloadN K2.here K2.exec (hb hby d_prog_12_method_1_code_5) rfl rfl).trans ?_
    exact Go.refl _
  obtain ⟨T4, h4, K4, W4, G4⟩ := K2.putF "" (Or.inl (hw _ (List.mem_of_getElem? (i := 39) rfl))) Via.refl B.2.1 B.1 (Or.inr ⟨(hw _ (List.mem_of_getElem? (i := 40) rfl)), rfl, hnm⟩) (hw _ (List.mem_of_getElem? (i := 31) rfl)) (ty := (.object "com/example/pipefish/pipefish/conformance/Outcome$Status")) (by decide) (v := (.ref k1)) rfl rfl (Or.inl (List.mem_of_getElem? (i := 0) rfl)) (pc := 6) (Ls := #[.val (.ref a1), .val (.ref k1), .val (.ref k2), .val (.ref k2)]) (rest := []) (hb hby d_prog_12_method_1_code_6)
  have S4 : Go p e below A0 (T4.setTop (mkF m 9 #[.val (.ref a1), .val (.ref k1), .val (.ref k2), .val (.ref k2)] [])) := S3.trans G4
  have B1 := B.set_st hw W4
  have S5 : Go p e below A0 (T4.setTop (mkF m 11 #[.val (.ref a1), .val (.ref k1), .val (.ref k2), .val (.ref k2)] [(.ref k2), (.ref a1)])) := by
    refine S4.trans ?_
    refine (Own.P.aloadN K4.here K4.exec (hb hby d_prog_12_method_1_code_9) rfl rfl).trans ?_
    refine (Own.P.aloadN K4.here K4.exec (hb hby d_prog_12_method_1_code_10) rfl rfl).trans ?_
    exact Go.refl _
  obtain ⟨T6, h6, K6, W6, G6⟩ := K4.putF "" (Or.inl (hw _ (List.mem_of_getElem? (i := 41) rfl))) Via.refl B1.2.2.1 B1.1 (Or.inr ⟨(hw _ (List.mem_of_getElem? (i := 42) rfl)), rfl, hnm⟩) (hw _ (List.mem_of_getElem? (i := 31) rfl)) (ty := (.object "java/lang/String")) (by decide) (v := (.ref k2)) rfl rfl (Or.inl (List.mem_of_getElem? (i := 0) rfl)) (pc := 11) (Ls := #[.val (.ref a1), .val (.ref k1), .val (.ref k2), .val (.ref k2)]) (rest := []) (hb hby d_prog_12_method_1_code_11)
  have S6 : Go p e below A0 (T6.setTop (mkF m 14 #[.val (.ref a1), .val (.ref k1), .val (.ref k2), .val (.ref k2)] [])) := S5.trans G6
  have B2 := B1.set_rs hw W6
  have S7 : Go p e below A0 (T6.setTop (mkF m 16 #[.val (.ref a1), .val (.ref k1), .val (.ref k2), .val (.ref k2)] [(.ref k2), (.ref a1)])) := by
    refine S6.trans ?_
    refine (Own.P.aloadN K6.here K6.exec (hb hby d_prog_12_method_1_code_14) rfl rfl).trans ?_
    refine (Own.P.aloadN K6.here K6.exec (hb hby d_prog_12_method_1_code_15) rfl rfl).trans ?_
    exact Go.refl _
  obtain ⟨T8, h8, K8, W8, G8⟩ := K6.putF "" (Or.inl (hw _ (List.mem_of_getElem? (i := 43) rfl))) Via.refl B2.2.2.2 B2.1 (Or.inr ⟨(hw _ (List.mem_of_getElem? (i := 44) rfl)), rfl, hnm⟩) (hw _ (List.mem_of_getElem? (i := 31) rfl)) (ty := (.object "java/lang/String")) (by decide) (v := (.ref k2)) rfl rfl (Or.inl (List.mem_of_getElem? (i := 0) rfl)) (pc := 16) (Ls := #[.val (.ref a1), .val (.ref k1), .val (.ref k2), .val (.ref k2)]) (rest := []) (hb hby d_prog_12_method_1_code_16)
  have S8 : Go p e below A0 (T8.setTop (mkF m 19 #[.val (.ref a1), .val (.ref k1), .val (.ref k2), .val (.ref k2)] [])) := S7.trans G8
  have B3 := B2.set_dt hw W8
  exact ⟨s.vm, T8, h8, none, _, _, K8, by decide, by decide, ⟨rfl, B3⟩, K8.retV S8 hret (hb hby d_prog_12_method_1_code_19)⟩
theorem d_prog_12_method_5_code_0 : decode prog_12_method_5_code 0 = .ok (.new 8, 3) := by decide +kernel
theorem d_prog_12_method_5_code_3 : decode prog_12_method_5_code 3 = .ok (.dup, 1) := by decide +kernel
theorem d_prog_12_method_5_code_4 : decode prog_12_method_5_code 4 = .ok (.getstatic 36, 3) := by decide +kernel
theorem d_prog_12_method_5_code_7 : decode prog_12_method_5_code 7 = .ok (.aload_n 0, 1) := by decide +kernel
theorem d_prog_12_method_5_code_8 : decode prog_12_method_5_code 8 = .ok (.aload_n 0, 1) := by decide +kernel
theorem pd_6 : parseMethodDescriptor "(Lcom/example/pipefish/pipefish/conformance/Outcome$Status;Ljava/lang/String;Ljava/lang/String;)V" = some ⟨[(.object "com/example/pipefish/pipefish/conformance/Outcome$Status"), (.object "java/lang/String"), (.object "java/lang/String")], none⟩ := by decide +kernel
theorem d_prog_12_method_5_code_9 : decode prog_12_method_5_code 9 = .ok (.invokespecial 29, 3) := by decide +kernel
theorem d_prog_12_method_5_code_12 : decode prog_12_method_5_code 12 = .ok (.areturn, 1) := by decide +kernel
set_option maxRecDepth 65536 in
set_option maxHeartbeats 40000000 in
theorem c_skip (l : Launch) (Z : State) (a0 : Array Value) (hw : ∀ d ∈ tables_1, d.before a0 Z = true) (n0 : Nat) (h0 : Heap) (O0 : Old Z n0 h0) (k2 : Addr) (sk : Addr) (SK : Sta Z Z.heap "com/example/pipefish/pipefish/conformance/Outcome$Status" "SKIP" "Lcom/example/pipefish/pipefish/conformance/Outcome$Status;" (.ref sk)) :
    Own.Ctr false l (⟨"com/example/pipefish/pipefish/conformance/Outcome", "skip", "(Ljava/lang/String;)Lcom/example/pipefish/pipefish/conformance/Outcome;"⟩ : MethodName) prog_12_method_5_code 1 (some (.object "com/example/pipefish/pipefish/conformance/Outcome")) ({ frames := 2, cells := 1, slots := 3, locals := 28 } : Room) #[(.ref k2)] Z h0 Own.VT [] (fun v h vm => ∃ o, v = some (.ref o) ∧ OcAt Z h o (.ref sk) (.ref k2) (.ref k2)) := by
  refine Own.body (plainFor_of_name pn_3) O0 (fun _ _ _ _ q => by cases q) (fun _ _ _ _ q _ => q) ?_
  intro p e s m below meth c T0 hby hml0 hret hnm hV0 K0
  change Own.Wk false p l e ({ frames := 2, cells := 1, slots := 3, locals := 28 } : Room) s m #[(.ref k2)] below meth c "com/example/pipefish/pipefish/conformance/Outcome" Z n0 h0 [] s.vm T0 h0 0 0 at K0
  have hml : c.maxLocals = 1 := hml0
  have S0 : Go p e below (T0.setTop (entryFrame m #[(.ref k2)] 1)) (T0.setTop (mkF m 0 #[.val (.ref k2)] [])) := fun t k => castTop (by first | rfl | (simp [entryFrame, mkF, argsToLocals, Value.category]; done)) k
  generalize T0.setTop (entryFrame m #[(.ref k2)] 1) = A0 at S0 ⊢
  obtain ⟨T1, h1, ob, K1, E1, g_ob, l_ob, ne_ob, X_ob, D_ob, G1⟩ := K0.newO (hw _ (List.mem_of_getElem? (i := 30) rfl)) (hw _ (List.mem_of_getElem? (i := 31) rfl)) (hw _ (List.mem_of_getElem? (i := 28) rfl)) (pc := 0) (Ls := #[.val (.ref k2)]) (rest := []) (hb hby d_prog_12_method_5_code_0) (by decide) (by decide)
  have S1 : Go p e below A0 (T1.setTop (mkF m 3 #[.val (.ref k2)] [(.ref ob)])) := S0.trans G1
  have S2 : Go p e below A0 (T1.setTop (mkF m 4 #[.val (.ref k2)] [(.ref ob), (.ref ob)])) := by
    refine S1.trans ?_
    refine (Own.P.dup K1.here K1.exec (hb hby d_prog_12_method_5_code_3) rfl).trans ?_
    exact Go.refl _
  obtain ⟨T3, K3, G3⟩ := K1.getS "" (Or.inl (hw _ (List.mem_of_getElem? (i := 32) rfl))) Via.refl (SK.ext K1.ext) (pc := 4) (Ls := #[.val (.ref k2)]) (rest := [(.ref ob), (.ref ob)]) (hb hby d_prog_12_method_5_code_4)
  have S3 : Go p e below A0 (T3.setTop (mkF m 7 #[.val (.ref k2)] [(.ref sk), (.ref ob), (.ref ob)])) := S2.trans G3
  have S4 : Go p e below A0 (T3.setTop (mkF m 9 #[.val (.ref k2)] [(.ref k2), (.ref k2), (.ref sk), (.ref ob), (.ref ob)])) := by
    refine S3.trans ?_
    refine (Own.P.aloadN K3.here K3.exec (hb hby d_prog_12_method_5_code_7) rfl rfl).trans ?_
    refine (Own.P.aloadN K3.here K3.exec (hb hby d_prog_12_method_5_code_8) rfl rfl).trans ?_
    exact Go.refl _
  obtain ⟨v5, vm5, vq5, T5, h5, K5, KK5, ev5, Q5, G5⟩ := K3.callI (y := (⟨"com/example/pipefish/pipefish/conformance/Outcome", "<init>", "(Lcom/example/pipefish/pipefish/conformance/Outcome$Status;Ljava/lang/String;Ljava/lang/String;)V"⟩ : MethodName)) rfl (hw _ (List.mem_of_getElem? (i := 35) rfl)) (hw _ (List.mem_of_getElem? (i := 36) rfl)) (hw _ (List.mem_of_getElem? (i := 37) rfl)) (by decide) (W := 1) (a := ob) (argsL := [(.ref sk), (.ref k2), (.ref k2)]) (rest := [(.ref ob)]) ((c_oinit l Z a0 hw n0 h1 (K3.old) ob sk k2 (OcAt.new hw X_ob D_ob) (K3.fresh (Or.inr g_ob))).pay Own.VT.cl (hw _ (List.mem_of_getElem? (i := 37) rfl)) (hw _ (List.mem_of_getElem? (i := 28) rfl)) (by decide) (by decide)) trivial (pc := 9) (Ls := #[.val (.ref k2)]) (st := [(.ref k2), (.ref k2), (.ref sk), (.ref ob), (.ref ob)]) (by rw [hml]; rfl) (lenOf pd_6 rfl) rfl (Nat.le_of_eq rfl) (hb hby d_prog_12_method_5_code_9) (by decide) (by decide) (allS (Or.inr g_ob) all0)
  obtain ⟨rfl, B⟩ := Q5
  have S5 : Go p e below A0 (T5.setTop (mkF m 12 #[.val (.ref k2)] [(.ref ob)])) := S4.trans G5
  exact ⟨vm5, T5, h5, (some (.ref ob)), _, _, K5, by decide, by decide, ⟨ob, rfl, B⟩, K5.retW S5 hret rfl (Or.inr (Or.inr (Or.inr (Or.inr ⟨rfl, rfl, rfl⟩)))) (hb hby d_prog_12_method_5_code_12)⟩
theorem d_prog_12_method_6_code_0 : decode prog_12_method_6_code 0 = .ok (.aload_n 0, 1) := by decide +kernel
theorem d_prog_12_method_6_code_1 : decode prog_12_method_6_code 1 = .ok (.getfield 7, 3) := by decide +kernel
theorem d_prog_12_method_6_code_4 : decode prog_12_method_6_code 4 = .ok (.areturn, 1) := by decide +kernel
set_option maxRecDepth 65536 in
set_option maxHeartbeats 40000000 in
theorem c_getStatus (l : Launch) (Z : State) (a0 : Array Value) (hw : ∀ d ∈ tables_1, d.before a0 Z = true) (n0 : Nat) (h0 : Heap) (O0 : Old Z n0 h0) (a1 k1 k2 : Addr) (B : OcAt Z h0 a1 (.ref k1) (.ref k2) (.ref k2)) :
    Own.Ctr false l (⟨"com/example/pipefish/pipefish/conformance/Outcome", "getStatus", "()Lcom/example/pipefish/pipefish/conformance/Outcome$Status;"⟩ : MethodName) prog_12_method_6_code 1 (some (.object "com/example/pipefish/pipefish/conformance/Outcome$Status")) ({ frames := 0, cells := 0, slots := 0, locals := 0 } : Room) #[(.ref a1)] Z h0 Own.VT [] (fun v h vm => v = some (.ref k1) ∧ h = h0) := by
  refine Own.body (plainFor_of_name pn_3) O0 (fun _ _ _ _ q => by cases q) (fun _ _ _ _ q _ => q) ?_
  intro p e s m below meth c T0 hby hml0 hret hnm hV0 K0
  change Own.Wk false p l e ({ frames := 0, cells := 0, slots := 0, locals := 0 } : Room) s m #[(.ref a1)] below meth c "com/example/pipefish/pipefish/conformance/Outcome" Z n0 h0 [] s.vm T0 h0 0 0 at K0
  have hml : c.maxLocals = 1 := hml0
  have S0 : Go p e below (T0.setTop (entryFrame m #[(.ref a1)] 1)) (T0.setTop (mkF m 0 #[.val (.ref a1)] [])) := fun t k => castTop (by first | rfl | (simp [entryFrame, mkF, argsToLocals, Value.category]; done)) k
  generalize T0.setTop (entryFrame m #[(.ref a1)] 1) = A0 at S0 ⊢
  have S1 : Go p e below A0 (T0.setTop (mkF m 1 #[.val (.ref a1)] [(.ref a1)])) := by
    refine S0.trans ?_
    refine (Own.P.aloadN K0.here K0.exec (hb hby d_prog_12_method_6_code_0) rfl rfl).trans ?_
    exact Go.refl _
  obtain ⟨T2, K2, G2⟩ := K0.getF "" (Or.inl (hw _ (List.mem_of_getElem? (i := 39) rfl))) Via.refl B.2.1 (pc := 1) (Ls := #[.val (.ref a1)]) (rest := []) (hb hby d_prog_12_method_6_code_1)
  have S2 : Go p e below A0 (T2.setTop (mkF m 4 #[.val (.ref a1)] [(.ref k1)])) := S1.trans G2
  exact ⟨s.vm, T2, h0, (some (.ref k1)), _, _, K2, by decide, by decide, ⟨rfl, rfl⟩, K2.retW S2 hret rfl (Or.inr (Or.inr (Or.inr (Or.inr ⟨rfl, rfl, rfl⟩)))) (hb hby d_prog_12_method_6_code_4)⟩
theorem d_prog_12_method_7_code_0 : decode prog_12_method_7_code 0 = .ok (.aload_n 0, 1) := by decide +kernel
theorem d_prog_12_method_7_code_1 : decode prog_12_method_7_code 1 = .ok (.getfield 13, 3) := by decide +kernel
theorem d_prog_12_method_7_code_4 : decode prog_12_method_7_code 4 = .ok (.areturn, 1) := by decide +kernel
set_option maxRecDepth 65536 in
set_option maxHeartbeats 40000000 in
theorem c_getReason (l : Launch) (Z : State) (a0 : Array Value) (hw : ∀ d ∈ tables_1, d.before a0 Z = true) (n0 : Nat) (h0 : Heap) (O0 : Old Z n0 h0) (a1 k1 k2 : Addr) (B : OcAt Z h0 a1 (.ref k1) (.ref k2) (.ref k2)) :
    Own.Ctr false l (⟨"com/example/pipefish/pipefish/conformance/Outcome", "getReason", "()Ljava/lang/String;"⟩ : MethodName) prog_12_method_7_code 1 (some (.object "java/lang/String")) ({ frames := 0, cells := 0, slots := 0, locals := 0 } : Room) #[(.ref a1)] Z h0 Own.VT [] (fun v h vm => v = some (.ref k2) ∧ h = h0) := by
  refine Own.body (plainFor_of_name pn_3) O0 (fun _ _ _ _ q => by cases q) (fun _ _ _ _ q _ => q) ?_
  intro p e s m below meth c T0 hby hml0 hret hnm hV0 K0
  change Own.Wk false p l e ({ frames := 0, cells := 0, slots := 0, locals := 0 } : Room) s m #[(.ref a1)] below meth c "com/example/pipefish/pipefish/conformance/Outcome" Z n0 h0 [] s.vm T0 h0 0 0 at K0
  have hml : c.maxLocals = 1 := hml0
  have S0 : Go p e below (T0.setTop (entryFrame m #[(.ref a1)] 1)) (T0.setTop (mkF m 0 #[.val (.ref a1)] [])) := fun t k => castTop (by first | rfl | (simp [entryFrame, mkF, argsToLocals, Value.category]; done)) k
  generalize T0.setTop (entryFrame m #[(.ref a1)] 1) = A0 at S0 ⊢
  have S1 : Go p e below A0 (T0.setTop (mkF m 1 #[.val (.ref a1)] [(.ref a1)])) := by
    refine S0.trans ?_
    refine (Own.P.aloadN K0.here K0.exec (hb hby d_prog_12_method_7_code_0) rfl rfl).trans ?_
    exact Go.refl _
  obtain ⟨T2, K2, G2⟩ := K0.getF "" (Or.inl (hw _ (List.mem_of_getElem? (i := 41) rfl))) Via.refl B.2.2.1 (pc := 1) (Ls := #[.val (.ref a1)]) (rest := []) (hb hby d_prog_12_method_7_code_1)
  have S2 : Go p e below A0 (T2.setTop (mkF m 4 #[.val (.ref a1)] [(.ref k2)])) := S1.trans G2
  exact ⟨s.vm, T2, h0, (some (.ref k2)), _, _, K2, by decide, by decide, ⟨rfl, rfl⟩, K2.retW S2 hret rfl (Or.inr (Or.inr (Or.inr (Or.inr ⟨rfl, rfl, rfl⟩)))) (hb hby d_prog_12_method_7_code_4)⟩
theorem d_prog_12_method_8_code_0 : decode prog_12_method_8_code 0 = .ok (.aload_n 0, 1) := by decide +kernel
theorem d_prog_12_method_8_code_1 : decode prog_12_method_8_code 1 = .ok (.getfield 17, 3) := by decide +kernel
theorem d_prog_12_method_8_code_4 : decode prog_12_method_8_code 4 = .ok (.areturn, 1) := by decide +kernel
set_option maxRecDepth 65536 in
set_option maxHeartbeats 40000000 in
theorem c_getDetail (l : Launch) (Z : State) (a0 : Array Value) (hw : ∀ d ∈ tables_1, d.before a0 Z = true) (n0 : Nat) (h0 : Heap) (O0 : Old Z n0 h0) (a1 k1 k2 : Addr) (B : OcAt Z h0 a1 (.ref k1) (.ref k2) (.ref k2)) :
    Own.Ctr false l (⟨"com/example/pipefish/pipefish/conformance/Outcome", "getDetail", "()Ljava/lang/String;"⟩ : MethodName) prog_12_method_8_code 1 (some (.object "java/lang/String")) ({ frames := 0, cells := 0, slots := 0, locals := 0 } : Room) #[(.ref a1)] Z h0 Own.VT [] (fun v h vm => v = some (.ref k2) ∧ h = h0) := by
  refine Own.body (plainFor_of_name pn_3) O0 (fun _ _ _ _ q => by cases q) (fun _ _ _ _ q _ => q) ?_
  intro p e s m below meth c T0 hby hml0 hret hnm hV0 K0
  change Own.Wk false p l e ({ frames := 0, cells := 0, slots := 0, locals := 0 } : Room) s m #[(.ref a1)] below meth c "com/example/pipefish/pipefish/conformance/Outcome" Z n0 h0 [] s.vm T0 h0 0 0 at K0
  have hml : c.maxLocals = 1 := hml0
  have S0 : Go p e below (T0.setTop (entryFrame m #[(.ref a1)] 1)) (T0.setTop (mkF m 0 #[.val (.ref a1)] [])) := fun t k => castTop (by first | rfl | (simp [entryFrame, mkF, argsToLocals, Value.category]; done)) k
  generalize T0.setTop (entryFrame m #[(.ref a1)] 1) = A0 at S0 ⊢
  have S1 : Go p e below A0 (T0.setTop (mkF m 1 #[.val (.ref a1)] [(.ref a1)])) := by
    refine S0.trans ?_
    refine (Own.P.aloadN K0.here K0.exec (hb hby d_prog_12_method_8_code_0) rfl rfl).trans ?_
    exact Go.refl _
  obtain ⟨T2, K2, G2⟩ := K0.getF "" (Or.inl (hw _ (List.mem_of_getElem? (i := 43) rfl))) Via.refl B.2.2.2 (pc := 1) (Ls := #[.val (.ref a1)]) (rest := []) (hb hby d_prog_12_method_8_code_1)
  have S2 : Go p e below A0 (T2.setTop (mkF m 4 #[.val (.ref a1)] [(.ref k2)])) := S1.trans G2
  exact ⟨s.vm, T2, h0, (some (.ref k2)), _, _, K2, by decide, by decide, ⟨rfl, rfl⟩, K2.retW S2 hret rfl (Or.inr (Or.inr (Or.inr (Or.inr ⟨rfl, rfl, rfl⟩)))) (hb hby d_prog_12_method_8_code_4)⟩
theorem d_jdk_42_method_66_code_0 : decode jdk_42_method_66_code 0 = .ok (.aload_n 0, 1) := by decide +kernel
theorem d_jdk_42_method_66_code_1 : decode jdk_42_method_66_code 1 = .ok (.aload_n 1, 1) := by decide +kernel
theorem d_jdk_42_method_66_code_2 : decode jdk_42_method_66_code 2 = .ok (.if_acmp .ne 5, 3) := by decide +kernel
theorem d_jdk_42_method_66_code_5 : decode jdk_42_method_66_code 5 = .ok (.iconst 1, 1) := by decide +kernel
theorem d_jdk_42_method_66_code_6 : decode jdk_42_method_66_code 6 = .ok (.ireturn, 1) := by decide +kernel
set_option maxRecDepth 65536 in
set_option maxHeartbeats 40000000 in
theorem c_eqSame (l : Launch) (Z : State) (a0 : Array Value) (hw : ∀ d ∈ tables_1, d.before a0 Z = true) (n0 : Nat) (h0 : Heap) (O0 : Old Z n0 h0) (a1 : Addr) :
    Own.Ctr false l (⟨"java/lang/String", "equals", "(Ljava/lang/Object;)Z"⟩ : MethodName) jdk_42_method_66_code 3 (some .boolean) ({ frames := 0, cells := 0, slots := 0, locals := 0 } : Room) #[(.ref a1), (.ref a1)] Z h0 Own.VT [] (fun v h vm => v = some (.int 1) ∧ h = h0) := by
  refine Own.body (plainFor_of_name pn_0) O0 (fun _ _ _ _ q => by cases q) (fun _ _ _ _ q _ => q) ?_
  intro p e s m below meth c T0 hby hml0 hret hnm hV0 K0
  change Own.Wk false p l e ({ frames := 0, cells := 0, slots := 0, locals := 0 } : Room) s m #[(.ref a1), (.ref a1)] below meth c "java/lang/String" Z n0 h0 [] s.vm T0 h0 0 0 at K0
  have hml : c.maxLocals = 3 := hml0
  have S0 : Go p e below (T0.setTop (entryFrame m #[(.ref a1), (.ref a1)] 3)) (T0.setTop (mkF m 0 #[.val (.ref a1), .val (.ref a1), .unset] [])) := fun t k => castTop (by first | rfl | (simp [entryFrame, mkF, argsToLocals, Value.category]; done)) k
  generalize T0.setTop (entryFrame m #[(.ref a1), (.ref a1)] 3) = A0 at S0 ⊢
  have S1 : Go p e below A0 (T0.setTop (mkF m 6 #[.val (.ref a1), .val (.ref a1), .unset] [(.int (1 : Int32))])) := by
    refine S0.trans ?_
    refine (Own.P.aloadN K0.here K0.exec (hb hby d_jdk_42_method_66_code_0) rfl rfl).trans ?_
    refine (Own.P.aloadN K0.here K0.exec (hb hby d_jdk_42_method_66_code_1) rfl rfl).trans ?_
    refine (Own.P.acmpNo K0.here K0.exec (hb hby d_jdk_42_method_66_code_2) rfl rfl (by simp [XT.acmp])).trans ?_
    refine (Own.P.iconst K0.here K0.exec (1 : Int32) (hb hby d_jdk_42_method_66_code_5) rfl).trans ?_
    exact Go.refl _
  exact ⟨s.vm, T0, h0, (some (.int (1 : Int32))), _, _, K0, by decide, by decide, ⟨rfl, rfl⟩, K0.retW S1 hret rfl (Or.inl ⟨rfl, by decide, _, rfl⟩) (hb hby d_jdk_42_method_66_code_6)⟩
theorem own_and3 (x : Int32) : x &&& 3 = 0 ∨ x &&& 3 = 1 ∨ x &&& 3 = 2 ∨ x &&& 3 = 3 := by
  have m := c_mask x 3 2 (by decide) (by decide)
  have h : (x &&& 3).toInt = 0 ∨ (x &&& 3).toInt = 1 ∨ (x &&& 3).toInt = 2 ∨ (x &&& 3).toInt = 3 := by rw [m]; omega
  rcases h with h | h | h | h
  · exact Or.inl (Int32.toInt_inj.mp h)
  · exact Or.inr (Or.inl (Int32.toInt_inj.mp h))
  · exact Or.inr (Or.inr (Or.inl (Int32.toInt_inj.mp h)))
  · exact Or.inr (Or.inr (Or.inr (Int32.toInt_inj.mp h)))
theorem pd_7 : parseMethodDescriptor "(ICCC)Ljava/lang/String;" = some ⟨[.int, .char, .char, .char], some (.object "java/lang/String")⟩ := by decide +kernel
theorem pd_8 : parseMethodDescriptor "(Ljava/lang/String;)Lcom/example/pipefish/pipefish/conformance/Outcome;" = some ⟨[(.object "java/lang/String")], some (.object "com/example/pipefish/pipefish/conformance/Outcome")⟩ := by decide +kernel
theorem pd_9 : parseMethodDescriptor "()Lcom/example/pipefish/pipefish/conformance/Outcome$Status;" = some ⟨[], some (.object "com/example/pipefish/pipefish/conformance/Outcome$Status")⟩ := by decide +kernel
theorem pd_10 : parseMethodDescriptor "()Ljava/lang/String;" = some ⟨[], some (.object "java/lang/String")⟩ := by decide +kernel
theorem pd_11 : parseMethodDescriptor "(Ljava/lang/Object;)Z" = some ⟨[(.object "java/lang/Object")], some .boolean⟩ := by decide +kernel
set_option maxRecDepth 65536 in
set_option maxHeartbeats 40000000 in
theorem c_law (l : Launch) (Z : State) (a0 : Array Value) (hw : ∀ d ∈ tables_1, d.before a0 Z = true) (n0 : Nat) (h0 : Heap) (O0 : Old Z n0 h0) (n x1 x2 x3 : Int32) (zc : Int32) (hzc : ¬ zc = 0) (SC : Sta Z Z.heap "java/lang/String" "COMPACT_STRINGS" "Z" (.int zc)) (HH : Jvm.Lit.constHeld Z "java/lang/String" 7) (HC : Jvm.Lit.compactW.before a0 Z = true) (sk : Addr) (SK : Sta Z Z.heap "com/example/pipefish/pipefish/conformance/Outcome$Status" "SKIP" "Lcom/example/pipefish/pipefish/conformance/Outcome$Status;" (.ref sk)) :
    Own.Ctr true l x code maxLocals ret room_1 #[(.int n), (.int x1), (.int x2), (.int x3)] Z h0 (fun vm => IB Z vm []) [] (fun v h vm => v = some (.int 1) ∧ True) := by
  refine Own.body (plainFor_of_name pn_2) O0 (fun _ _ _ _ q => by cases q) (fun _ _ _ _ q _ => q) ?_
  intro p e s m below meth c T0 hby hml0 hret hnm hV0 K0
  change Own.Wk true p l e room_1 s m #[(.int n), (.int x1), (.int x2), (.int x3)] below meth c "com/example/pipefish/pipefish/conformance/OutcomeSkipPinLaw" Z n0 h0 [] s.vm T0 h0 0 0 at K0
  have hml : c.maxLocals = 6 := hml0
  have S0 : Go p e below (T0.setTop (entryFrame m #[(.int n), (.int x1), (.int x2), (.int x3)] maxLocals)) (T0.setTop (mkF m 0 #[.val (.int n), .val (.int x1), .val (.int x2), .val (.int x3), .unset, .unset] [])) := fun t k => castTop (by first | rfl | (simp [entryFrame, mkF, argsToLocals, Value.category, maxLocals]; done)) k
  generalize T0.setTop (entryFrame m #[(.int n), (.int x1), (.int x2), (.int x3)] maxLocals) = A0 at S0 ⊢
  have S1 : Go p e below A0 (T0.setTop (mkF m 21 #[.val (.int n), .val (.int x1), .val (.int x2), .val (.int x3), .unset, .unset] [(.int ((x3 &&& (255 : Int32)).toUInt32.toUInt16.toUInt32.toInt32)), (.int ((x2 &&& (255 : Int32)).toUInt32.toUInt16.toUInt32.toInt32)), (.int ((x1 &&& (255 : Int32)).toUInt32.toUInt16.toUInt32.toInt32)), (.int (n &&& (3 : Int32)))])) := by
    refine S0.trans ?_
    refine (Own.P.iloadN K0.here K0.exec (hb hby at_0) rfl).trans ?_
    refine (Own.P.iconst K0.here K0.exec (3 : Int32) (hb hby at_1) rfl).trans ?_
    refine (Own.P.iand K0.here K0.exec (hb hby at_2) ).trans ?_
    refine (Own.P.iloadN K0.here K0.exec (hb hby at_3) rfl).trans ?_
    refine (Own.P.sipush K0.here K0.exec (255 : Int32) (hb hby at_4) rfl).trans ?_
    refine (Own.P.iand K0.here K0.exec (hb hby at_7) ).trans ?_
    refine (Own.P.i2c K0.here K0.exec (hb hby at_8) ).trans ?_
    refine (Own.P.iloadN K0.here K0.exec (hb hby at_9) rfl).trans ?_
    refine (Own.P.sipush K0.here K0.exec (255 : Int32) (hb hby at_10) rfl).trans ?_
    refine (Own.P.iand K0.here K0.exec (hb hby at_13) ).trans ?_
    refine (Own.P.i2c K0.here K0.exec (hb hby at_14) ).trans ?_
    refine (Own.P.iloadN K0.here K0.exec (hb hby at_15) rfl).trans ?_
    refine (Own.P.sipush K0.here K0.exec (255 : Int32) (hb hby at_16) rfl).trans ?_
    refine (Own.P.iand K0.here K0.exec (hb hby at_19) ).trans ?_
    refine (Own.P.i2c K0.here K0.exec (hb hby at_20) ).trans ?_
    exact Go.refl _
  have hn := own_and3 n
  have r1 := Own.and255 x1
  have r2 := Own.and255 x2
  have r3 := Own.and255 x3
  obtain ⟨v2, vm2, vq2, T2, h2, K2, KK2, ev2, Q2, G2⟩ := K0.callS (y := (⟨"com/example/pipefish/pipefish/conformance/OutcomeSkipPinLaw", "draw", "(ICCC)Ljava/lang/String;"⟩ : MethodName)) (hw _ (List.mem_of_getElem? (i := 0) rfl)) (hw _ (List.mem_of_getElem? (i := 1) rfl)) (hw _ (List.mem_of_getElem? (i := 2) rfl)) (hw _ (List.mem_of_getElem? (i := 3) rfl)) (by decide) (W := 0) (argsL := [(.int (n &&& (3 : Int32))), (.int ((x1 &&& (255 : Int32)).toUInt32.toUInt16.toUInt32.toInt32)), (.int ((x2 &&& (255 : Int32)).toUInt32.toUInt16.toUInt32.toInt32)), (.int ((x3 &&& (255 : Int32)).toUInt32.toUInt16.toUInt32.toInt32))]) (rest := []) ((c_draw l Z a0 hw n0 h0 (K0.old) _ _ _ _ hn (own_c255 x1) (own_c255 x2) (own_c255 x3) zc hzc SC HH HC).pay Own.IB.cl (hw _ (List.mem_of_getElem? (i := 3) rfl)) (hw _ (List.mem_of_getElem? (i := 2) rfl)) (by decide) (by decide)) hV0 (pc := 21) (Ls := #[.val (.int n), .val (.int x1), .val (.int x2), .val (.int x3), .unset, .unset]) (st := [(.int ((x3 &&& (255 : Int32)).toUInt32.toUInt16.toUInt32.toInt32)), (.int ((x2 &&& (255 : Int32)).toUInt32.toUInt16.toUInt32.toInt32)), (.int ((x1 &&& (255 : Int32)).toUInt32.toUInt16.toUInt32.toInt32)), (.int (n &&& (3 : Int32)))]) (by rw [hml]; rfl) (lenOf pd_7 rfl) rfl (Nat.le_of_eq rfl) (hb hby at_21) (by decide) (by decide) all0
  obtain ⟨rfl, hW2⟩ := ev2 rfl
  obtain ⟨sq, rfl, XS⟩ := Q2
  have S2 : Go p e below A0 (T2.setTop (mkF m 24 #[.val (.int n), .val (.int x1), .val (.int x2), .val (.int x3), .unset, .unset] [(.ref sq)])) := S1.trans G2
  have S3 : Go p e below A0 (T2.setTop (mkF m 28 #[.val (.int n), .val (.int x1), .val (.int x2), .val (.int x3), .val (.ref sq), .unset] [(.ref sq)])) := by
    refine S2.trans ?_
    refine (Own.P.astore K2.here K2.exec (l' := #[.val (.int n), .val (.int x1), .val (.int x2), .val (.int x3), .val (.ref sq), .unset]) (hb hby at_24) rfl rfl).trans ?_
    refine (Own.P.aload K2.here K2.exec (hb hby at_26) rfl rfl).trans ?_
    exact Go.refl _
  obtain ⟨v4, vm4, vq4, T4, h4, K4, KK4, ev4, Q4, G4⟩ := K2.callS (y := (⟨"com/example/pipefish/pipefish/conformance/Outcome", "skip", "(Ljava/lang/String;)Lcom/example/pipefish/pipefish/conformance/Outcome;"⟩ : MethodName)) (hw _ (List.mem_of_getElem? (i := 26) rfl)) (hw _ (List.mem_of_getElem? (i := 27) rfl)) (hw _ (List.mem_of_getElem? (i := 28) rfl)) (hw _ (List.mem_of_getElem? (i := 29) rfl)) (by decide) (W := 0) (argsL := [(.ref sq)]) (rest := []) ((c_skip l Z a0 hw n0 h2 (K2.old) sq sk SK).payW Own.VT.cl (hw _ (List.mem_of_getElem? (i := 29) rfl)) (hw _ (List.mem_of_getElem? (i := 28) rfl)) (by decide) (by decide)) trivial (pc := 28) (Ls := #[.val (.int n), .val (.int x1), .val (.int x2), .val (.int x3), .val (.ref sq), .unset]) (st := [(.ref sq)]) (by rw [hml]; rfl) (lenOf pd_8 rfl) rfl (Nat.le_of_eq rfl) (hb hby at_28) (by decide) (by decide) all0
  obtain ⟨rfl, hW4⟩ := ev4 rfl
  obtain ⟨⟨o, rfl, B⟩, hv4⟩ := Q4
  have S4 : Go p e below A0 (T4.setTop (mkF m 31 #[.val (.int n), .val (.int x1), .val (.int x2), .val (.int x3), .val (.ref sq), .unset] [(.ref o)])) := S3.trans G4
  have XS1 := XS.keep KK4
  have S5 : Go p e below A0 (T4.setTop (mkF m 35 #[.val (.int n), .val (.int x1), .val (.int x2), .val (.int x3), .val (.ref sq), .val (.ref o)] [(.ref o)])) := by
    refine S4.trans ?_
    refine (Own.P.astore K4.here K4.exec (l' := #[.val (.int n), .val (.int x1), .val (.int x2), .val (.int x3), .val (.ref sq), .val (.ref o)]) (hb hby at_31) rfl rfl).trans ?_
    refine (Own.P.aload K4.here K4.exec (hb hby at_33) rfl rfl).trans ?_
    exact Go.refl _
  obtain ⟨v6, vm6, vq6, T6, h6, K6, KK6, ev6, Q6, G6⟩ := K4.callV (C := "com/example/pipefish/pipefish/conformance/Outcome") (y := (⟨"com/example/pipefish/pipefish/conformance/Outcome", "getStatus", "()Lcom/example/pipefish/pipefish/conformance/Outcome$Status;"⟩ : MethodName)) (z := (⟨"com/example/pipefish/pipefish/conformance/Outcome", "getStatus", "()Lcom/example/pipefish/pipefish/conformance/Outcome$Status;"⟩ : MethodName)) (hw _ (List.mem_of_getElem? (i := 45) rfl)) (hw _ (List.mem_of_getElem? (i := 46) rfl)) (hw _ (List.mem_of_getElem? (i := 48) rfl)) (Or.inr (Or.inr rfl)) (hw _ (List.mem_of_getElem? (i := 47) rfl)) (by decide) (W := 0) B.1 (argsL := []) (rest := []) ((c_getStatus l Z a0 hw n0 h4 (K4.old) o sk sq B).payW Own.VT.cl (hw _ (List.mem_of_getElem? (i := 49) rfl)) (hw _ (List.mem_of_getElem? (i := 28) rfl)) (by decide) (by decide)) trivial (pc := 35) (Ls := #[.val (.int n), .val (.int x1), .val (.int x2), .val (.int x3), .val (.ref sq), .val (.ref o)]) (st := [(.ref o)]) (by rw [hml]; rfl) (lenOf pd_9 rfl) rfl (Nat.le_of_eq rfl) (hb hby at_35) (by decide) (by decide) all0
  obtain ⟨rfl, hW6⟩ := ev6 rfl
  obtain ⟨⟨rfl, e6⟩, hv6⟩ := Q6
  have S6 : Go p e below A0 (T6.setTop (mkF m 38 #[.val (.int n), .val (.int x1), .val (.int x2), .val (.int x3), .val (.ref sq), .val (.ref o)] [(.ref sk)])) := S5.trans G6
  subst e6
  obtain ⟨T7, K7, G7⟩ := K6.getS "" (Or.inl (hw _ (List.mem_of_getElem? (i := 50) rfl))) Via.refl (SK.ext K6.ext) (pc := 38) (Ls := #[.val (.int n), .val (.int x1), .val (.int x2), .val (.int x3), .val (.ref sq), .val (.ref o)]) (rest := [(.ref sk)]) (hb hby at_38)
  have S7 : Go p e below A0 (T7.setTop (mkF m 41 #[.val (.int n), .val (.int x1), .val (.int x2), .val (.int x3), .val (.ref sq), .val (.ref o)] [(.ref sk), (.ref sk)])) := S6.trans G7
  have S8 : Go p e below A0 (T7.setTop (mkF m 48 #[.val (.int n), .val (.int x1), .val (.int x2), .val (.int x3), .val (.ref sq), .val (.ref o)] [(.ref o), (.ref sq)])) := by
    refine S7.trans ?_
    refine (Own.P.acmpNo K7.here K7.exec (hb hby at_41) rfl rfl (by simp [XT.acmp])).trans ?_
    refine (Own.P.aload K7.here K7.exec (hb hby at_44) rfl rfl).trans ?_
    refine (Own.P.aload K7.here K7.exec (hb hby at_46) rfl rfl).trans ?_
    exact Go.refl _
  obtain ⟨v9, vm9, vq9, T9, h9, K9, KK9, ev9, Q9, G9⟩ := K7.callV (C := "com/example/pipefish/pipefish/conformance/Outcome") (y := (⟨"com/example/pipefish/pipefish/conformance/Outcome", "getReason", "()Ljava/lang/String;"⟩ : MethodName)) (z := (⟨"com/example/pipefish/pipefish/conformance/Outcome", "getReason", "()Ljava/lang/String;"⟩ : MethodName)) (hw _ (List.mem_of_getElem? (i := 51) rfl)) (hw _ (List.mem_of_getElem? (i := 52) rfl)) (hw _ (List.mem_of_getElem? (i := 54) rfl)) (Or.inr (Or.inr rfl)) (hw _ (List.mem_of_getElem? (i := 53) rfl)) (by decide) (W := 1) B.1 (argsL := []) (rest := [(.ref sq)]) ((c_getReason l Z a0 hw n0 h6 (K7.old) o sk sq B).payW Own.VT.cl (hw _ (List.mem_of_getElem? (i := 55) rfl)) (hw _ (List.mem_of_getElem? (i := 28) rfl)) (by decide) (by decide)) trivial (pc := 48) (Ls := #[.val (.int n), .val (.int x1), .val (.int x2), .val (.int x3), .val (.ref sq), .val (.ref o)]) (st := [(.ref o), (.ref sq)]) (by rw [hml]; rfl) (lenOf pd_10 rfl) rfl (Nat.le_of_eq rfl) (hb hby at_48) (by decide) (by decide) all0
  obtain ⟨rfl, hW9⟩ := ev9 rfl
  obtain ⟨⟨rfl, e9⟩, hv9⟩ := Q9
  have S9 : Go p e below A0 (T9.setTop (mkF m 51 #[.val (.int n), .val (.int x1), .val (.int x2), .val (.int x3), .val (.ref sq), .val (.ref o)] [(.ref sq), (.ref sq)])) := S8.trans G9
  subst e9
  obtain ⟨v10, vm10, vq10, T10, h10, K10, KK10, ev10, Q10, G10⟩ := K9.callV (C := "java/lang/String") (y := (⟨"java/lang/String", "equals", "(Ljava/lang/Object;)Z"⟩ : MethodName)) (z := (⟨"java/lang/String", "equals", "(Ljava/lang/Object;)Z"⟩ : MethodName)) (hw _ (List.mem_of_getElem? (i := 56) rfl)) (hw _ (List.mem_of_getElem? (i := 57) rfl)) (hw _ (List.mem_of_getElem? (i := 59) rfl)) (Or.inr (Or.inr rfl)) (hw _ (List.mem_of_getElem? (i := 58) rfl)) (by decide) (W := 0) XS1 (argsL := [(.ref sq)]) (rest := []) ((c_eqSame l Z a0 hw n0 h9 (K9.old) sq).payW Own.VT.cl (hw _ (List.mem_of_getElem? (i := 60) rfl)) (hw _ (List.mem_of_getElem? (i := 6) rfl)) (by decide) (by decide)) trivial (pc := 51) (Ls := #[.val (.int n), .val (.int x1), .val (.int x2), .val (.int x3), .val (.ref sq), .val (.ref o)]) (st := [(.ref sq), (.ref sq)]) (by rw [hml]; rfl) (lenOf pd_11 rfl) rfl (Nat.le_of_eq rfl) (hb hby at_51) (by decide) (by decide) all0
  obtain ⟨rfl, hW10⟩ := ev10 rfl
  obtain ⟨⟨rfl, e10⟩, hv10⟩ := Q10
  have S10 : Go p e below A0 (T10.setTop (mkF m 54 #[.val (.int n), .val (.int x1), .val (.int x2), .val (.int x3), .val (.ref sq), .val (.ref o)] [(.int (1 : Int32))])) := S9.trans G10
  subst e10
  have S11 : Go p e below A0 (T10.setTop (mkF m 61 #[.val (.int n), .val (.int x1), .val (.int x2), .val (.int x3), .val (.ref sq), .val (.ref o)] [(.ref o), (.ref sq)])) := by
    refine S10.trans ?_
    refine (Own.P.ifNo K10.here K10.exec (hb hby at_54) (by decide)).trans ?_
    refine (Own.P.aload K10.here K10.exec (hb hby at_57) rfl rfl).trans ?_
    refine (Own.P.aload K10.here K10.exec (hb hby at_59) rfl rfl).trans ?_
    exact Go.refl _
  obtain ⟨v12, vm12, vq12, T12, h12, K12, KK12, ev12, Q12, G12⟩ := K10.callV (C := "com/example/pipefish/pipefish/conformance/Outcome") (y := (⟨"com/example/pipefish/pipefish/conformance/Outcome", "getDetail", "()Ljava/lang/String;"⟩ : MethodName)) (z := (⟨"com/example/pipefish/pipefish/conformance/Outcome", "getDetail", "()Ljava/lang/String;"⟩ : MethodName)) (hw _ (List.mem_of_getElem? (i := 61) rfl)) (hw _ (List.mem_of_getElem? (i := 62) rfl)) (hw _ (List.mem_of_getElem? (i := 64) rfl)) (Or.inr (Or.inr rfl)) (hw _ (List.mem_of_getElem? (i := 63) rfl)) (by decide) (W := 1) B.1 (argsL := []) (rest := [(.ref sq)]) ((c_getDetail l Z a0 hw n0 h10 (K10.old) o sk sq B).payW Own.VT.cl (hw _ (List.mem_of_getElem? (i := 65) rfl)) (hw _ (List.mem_of_getElem? (i := 28) rfl)) (by decide) (by decide)) trivial (pc := 61) (Ls := #[.val (.int n), .val (.int x1), .val (.int x2), .val (.int x3), .val (.ref sq), .val (.ref o)]) (st := [(.ref o), (.ref sq)]) (by rw [hml]; rfl) (lenOf pd_10 rfl) rfl (Nat.le_of_eq rfl) (hb hby at_61) (by decide) (by decide) all0
  obtain ⟨rfl, hW12⟩ := ev12 rfl
  obtain ⟨⟨rfl, e12⟩, hv12⟩ := Q12
  have S12 : Go p e below A0 (T12.setTop (mkF m 64 #[.val (.int n), .val (.int x1), .val (.int x2), .val (.int x3), .val (.ref sq), .val (.ref o)] [(.ref sq), (.ref sq)])) := S11.trans G12
  subst e12
  obtain ⟨v13, vm13, vq13, T13, h13, K13, KK13, ev13, Q13, G13⟩ := K12.callV (C := "java/lang/String") (y := (⟨"java/lang/String", "equals", "(Ljava/lang/Object;)Z"⟩ : MethodName)) (z := (⟨"java/lang/String", "equals", "(Ljava/lang/Object;)Z"⟩ : MethodName)) (hw _ (List.mem_of_getElem? (i := 56) rfl)) (hw _ (List.mem_of_getElem? (i := 57) rfl)) (hw _ (List.mem_of_getElem? (i := 59) rfl)) (Or.inr (Or.inr rfl)) (hw _ (List.mem_of_getElem? (i := 58) rfl)) (by decide) (W := 0) XS1 (argsL := [(.ref sq)]) (rest := []) ((c_eqSame l Z a0 hw n0 h12 (K12.old) sq).payW Own.VT.cl (hw _ (List.mem_of_getElem? (i := 60) rfl)) (hw _ (List.mem_of_getElem? (i := 6) rfl)) (by decide) (by decide)) trivial (pc := 64) (Ls := #[.val (.int n), .val (.int x1), .val (.int x2), .val (.int x3), .val (.ref sq), .val (.ref o)]) (st := [(.ref sq), (.ref sq)]) (by rw [hml]; rfl) (lenOf pd_11 rfl) rfl (Nat.le_of_eq rfl) (hb hby at_64) (by decide) (by decide) all0
  obtain ⟨rfl, hW13⟩ := ev13 rfl
  obtain ⟨⟨rfl, e13⟩, hv13⟩ := Q13
  have S13 : Go p e below A0 (T13.setTop (mkF m 67 #[.val (.int n), .val (.int x1), .val (.int x2), .val (.int x3), .val (.ref sq), .val (.ref o)] [(.int (1 : Int32))])) := S12.trans G13
  subst e13
  have S14 : Go p e below A0 (T13.setTop (mkF m 75 #[.val (.int n), .val (.int x1), .val (.int x2), .val (.int x3), .val (.ref sq), .val (.ref o)] [(.int (1 : Int32))])) := by
    refine S13.trans ?_
    refine (Own.P.ifNo K13.here K13.exec (hb hby at_67) (by decide)).trans ?_
    refine (Own.P.iconst K13.here K13.exec (1 : Int32) (hb hby at_70) rfl).trans ?_
    refine (Own.P.goto K13.here K13.exec 75 (hb hby at_71) (by decide) (by decide)).trans ?_
    exact Go.refl _
  exact ⟨vq13, T13, h13, (some (.int (1 : Int32))), _, _, K13, by decide, by decide, ⟨rfl, trivial⟩, K13.retW S14 hret rfl (Or.inl ⟨rfl, by decide, _, rfl⟩) (hb hby at_75)⟩
set_option maxRecDepth 65536 in
set_option maxHeartbeats 40000000 in
theorem comes_1 {Post : Tables → Env → Array Value → State → Outcome → State → Prop} (hpost : ∀ tb e args s v u, (limb_1_1.after args s (.returned v) u = true ∧ limb_1_2.after args s (.returned v) u = true ∧ True) → FramedW s (.returned v) u (Jvm.fieldLocs frame_1_writes args s ++ Jvm.arrayLocs frame_1_arrays args s ++ Jvm.staticLocs frame_1_statics s) 24 1152 → Post tb e args s (.returned v) u) :
    ArmFor flags0 classFile x code maxLocals ret World_1 tables_1 room_1 Calls_1 rest_1 Pre_1 Post := by
  intro l hfl _ _ p e ha hc hk s m args below hf hA hF happ hP
  obtain ⟨hcalls, hrest, hpre⟩ := hP
  obtain ⟨-, -, -, hnamed, -, -, -, hat⟩ := (Spec.applies_iff hf).mp happ
  obtain ⟨hg, hn⟩ := and_e (Cond.before_iff.mp (show (Jvm.Cond.and given_1 narrow_1).before args s = true from hpre))
  obtain ⟨h1, g1⟩ := and_e hg
  obtain ⟨u0, g2⟩ := and_e g1
  obtain ⟨u1, g3⟩ := and_e g2
  obtain ⟨u2, u3⟩ := and_e g3
  obtain ⟨w0, w1, w2, w3, rfl⟩ : ∃ w0 w1 w2 w3 : Value, args = #[w0, w1, w2, w3] := by
    have hs : args.size = 4 := by simpa [Cond.value, given_1] using h1
    obtain ⟨L⟩ := args
    match L, hs with
    | [w0, w1, w2, w3], _ => exact ⟨w0, w1, w2, w3, rfl⟩
  have hw := fun d (hd : d ∈ tables_1) => atoms_spec (ws := Jvm.Cond.code x code maxLocals ret :: tables_1) hat d (List.mem_cons_of_mem _ hd)
  obtain ⟨hsets, hown0⟩ := atoms_of _ (rest_1_c_eq ▸ (show rest_1_c.before _ s = true from hrest))
  have n5 := not_v (Cond.before_iff.mp (hsets _ (List.mem_of_getElem? (i := 2) rfl)))
  obtain ⟨i0, e0⟩ := is_v u0
  obtain rfl : w0 = (.int i0) := Option.some.inj e0
  obtain ⟨i1, e1⟩ := is_v u1
  obtain rfl : w1 = (.int i1) := Option.some.inj e1
  obtain ⟨i2, e2⟩ := is_v u2
  obtain rfl : w2 = (.int i2) := Option.some.inj e2
  obtain ⟨i3, e3⟩ := is_v u3
  obtain rfl : w3 = (.int i3) := Option.some.inj e3
  obtain ⟨i11, e10⟩ := is_v (Cond.before_iff.mp (hsets _ (List.mem_of_getElem? (i := 1) rfl)))
  have S12 : Sta s s.heap "java/lang/String" "COMPACT_STRINGS" "Z" (.int i11) := Sta.start e10 (Or.inl (hsets _ (List.mem_of_getElem? (i := 0) rfl)))
  have c17 : ¬ (i11 = (0 : Int32)) := gotF (Cond.eq_ints e10 (Term.int_eval (0))) n5
  obtain ⟨vd, ed⟩ := exa_v hn
  have SK : Sta s s.heap "com/example/pipefish/pipefish/conformance/Outcome$Status" "SKIP" "Lcom/example/pipefish/pipefish/conformance/Outcome$Status;" (.ref vd) := Sta.start ed (Or.inr ⟨hw _ (List.mem_of_getElem? (i := 33) rfl), hw _ (List.mem_of_getElem? (i := 34) rfl)⟩)
  have HH : Jvm.Lit.constHeld s "java/lang/String" 7 := hcalls.1 ("java/lang/String", 7) (List.mem_of_getElem? (i := 0) rfl)
  obtain ⟨n, o, h1, h2, h3, v, L, rfl, ⟨⟨rfl, -⟩, -, NW⟩, hq⟩ := c_law l s _ hw s.heap.size s.heap (Old.start s) i0 i1 i2 i3 i11 c17 S12 HH (hsets _ (List.mem_of_getElem? (i := 2) rfl)) vd SK tables_1 p e ha hc hk s m _ below hf ((Spec.applies_iff_loose hf).mp happ).1 ⟨rfl, State.Warmed39.refl s, rfl, IB.start⟩ trivial
  have N := NW.fr all0 (Nat.le_refl _)
  refine ⟨n, _, h1, h2, h3, hpost _ _ _ _ _ _ ⟨Cond.after_iff.mpr rfl, Cond.after_iff.mpr (eq_i res_at (Term.int_eval (1)) rfl), trivial⟩ ⟨hq.1, hq.2.1, hq.2.2.1, (hq.2.2.2.sift fun y hy => Or.inr (N y hy)).mono (by decide) (by decide)⟩⟩
theorem main_1_1 : Claimed_1_1 := comes_1 fun _ _ _ _ _ _ h hF => ⟨h.1, hF⟩
theorem main_1_2 : Claimed_1_2 := comes_1 fun _ _ _ _ _ _ h hF => ⟨h.2.1, hF⟩
end Jvm.Pilot.@@N@@
namespace Jvm.Pilot.@@N@@
open Jvm Jvm.ClassFile Sem Op Lib Jvm.Free Jvm.Stand Jvm.Pilot.@@N@@.Jvm.D
/-! MADE BY PROGRAM (witnessworld.py) out of the Statement's table words and the real class files: 22 classes; the members and pool entries that the words name. The judged class is class 1, her method 1. -/
namespace start1
open Jvm.ClassFile
def u (s : String) : CpInfo := .utf8 (stringToUtf16 s)
/-- a pool by its gaps: so many unusable entries, then the entry; so many at the end -/
def gap : Nat → List CpInfo → List CpInfo
  | 0, r => r
  | n + 1, r => .unusable :: gap n r
def poolList (es : List (Nat × CpInfo)) (last : Nat) : List CpInfo := es.foldr (fun e r => gap e.1 (e.2 :: r)) (gap last [])
def pool (es : List (Nat × CpInfo)) (last : Nat) : Array CpInfo := ⟨poolList es last⟩
def fileOf (pool : Array CpInfo) (this : Nat) (attrs : Array Attribute := #[]) (ms : Array MethodInfo := #[]) (fl : Nat := 33) (sup : Nat := 0) (ifs : Array Nat := #[]) (fds : Array FieldInfo := #[]) : ClassFile where
  minorVersion := 0
  majorVersion := 65
  constantPool := pool
  accessFlags := fl
  thisClass := this
  superClass := sup
  interfaces := ifs
  fields := fds
  methods := ms
  attributes := attrs
def plain (name : String) (sup : Option ClassId) : Class where
  name := name
  kind := .ordinary
  loader := none
  accessFlags := 33
  super := sup
  interfaces := #[]
  cf := none
  fields := #[]
  methods := #[]
  instanceTypes := #[]
  staticTypes := #[]
  resolved := #[]
  callSites := []
  init := .initialized
  statics := none
  mirror := none

def pool0 : Array CpInfo := pool [(5, u "<init>"), (0, u "()V"), (1, .class_ 10), (1, u "java/lang/Object")] 113

def k0c0 : Code := { maxStack := 0, maxLocals := 1, code := object_method_1_code, exceptionTable := #[], attributes := #[] }
def k0m0 : Method := { name := "<init>", desc := "()V", sig := { parameters := [], returnType := none }, accessFlags := 1, code := some k0c0 }
/-- java/lang/Object -/
def k0 : Class := { plain "java/lang/Object" none with
  accessFlags := 33
  interfaces := #[]
  cf := some (fileOf pool0 8 #[] #[{ accessFlags := 1, nameIndex := 5, descriptorIndex := 6, attributes := #[] }] 33 0 #[] #[])
  fields := #[]
  methods := #[k0m0]
  instanceTypes := #[]
  staticTypes := #[]
  resolved := Array.replicate 124 none
  statics := none }

def pool1 : Array CpInfo := pool [(2, .class_ 4), (1, u "java/lang/Object"), (0, u "<init>"), (0, u "()V"), (0, .methodref 8 9), (0, .class_ 10), (0, .nameAndType 11 12), (0, u "com/example/pipefish/pipefish/conformance/OutcomeSkipPinLaw"), (0, u "draw"), (0, u "(ICCC)Ljava/lang/String;"), (0, .methodref 14 15), (0, .class_ 16), (0, .nameAndType 17 18), (0, u "com/example/pipefish/pipefish/conformance/Outcome"), (0, u "skip"), (0, u "(Ljava/lang/String;)Lcom/example/pipefish/pipefish/conformance/Outcome;"), (0, .methodref 14 20), (0, .nameAndType 21 22), (0, u "getStatus"), (0, u "()Lcom/example/pipefish/pipefish/conformance/Outcome$Status;"), (0, .fieldref 24 25), (0, .class_ 26), (0, .nameAndType 27 28), (0, u "com/example/pipefish/pipefish/conformance/Outcome$Status"), (0, u "SKIP"), (0, u "Lcom/example/pipefish/pipefish/conformance/Outcome$Status;"), (0, .methodref 14 30), (0, .nameAndType 31 32), (0, u "getReason"), (0, u "()Ljava/lang/String;"), (0, .methodref 34 35), (0, .class_ 36), (0, .nameAndType 37 38), (0, u "java/lang/String"), (0, u "equals"), (0, u "(Ljava/lang/Object;)Z"), (0, .methodref 14 40), (0, .nameAndType 41 32), (0, u "getDetail"), (0, .methodref 34 43), (0, .nameAndType 5 44), (0, u "([C)V"), (0, .methodref 34 46), (0, .nameAndType 47 48), (0, u "valueOf"), (0, u "(C)Ljava/lang/String;"), (2, u "law"), (0, u "(IIII)Z")] 5

def k1m0 : Method := { name := "<init>", desc := "()V", sig := { parameters := [], returnType := none }, accessFlags := 1, code := none }
def k1c1 : Code := { maxStack := 5, maxLocals := 6, code := code, exceptionTable := #[], attributes := #[] }
def k1m1 : Method := { name := "law", desc := "(IIII)Z", sig := { parameters := [.int, .int, .int, .int], returnType := some .boolean }, accessFlags := 9, code := some k1c1 }
def k1c2 : Code := { maxStack := 3, maxLocals := 5, code := method_3_code, exceptionTable := #[], attributes := #[] }
def k1m2 : Method := { name := "draw", desc := "(ICCC)Ljava/lang/String;", sig := { parameters := [.int, .char, .char, .char], returnType := some (.object "java/lang/String") }, accessFlags := 10, code := some k1c2 }
/-- com/example/pipefish/pipefish/conformance/OutcomeSkipPinLaw -/
def k1 : Class := { plain "com/example/pipefish/pipefish/conformance/OutcomeSkipPinLaw" (some 0) with
  accessFlags := 49
  interfaces := #[]
  cf := some (fileOf pool1 8 #[] #[{ accessFlags := 1, nameIndex := 5, descriptorIndex := 6, attributes := #[] }, { accessFlags := 9, nameIndex := 51, descriptorIndex := 52, attributes := #[] }, { accessFlags := 10, nameIndex := 11, descriptorIndex := 12, attributes := #[] }] 49 2 #[] #[])
  fields := #[]
  methods := #[k1m0, k1m1, k1m2]
  instanceTypes := #[]
  staticTypes := #[]
  resolved := Array.replicate 58 none
  statics := none }

def pool2 : Array CpInfo := pool [(1, .class_ 2), (0, u "java/io/Serializable"), (0, .class_ 4), (0, u "java/lang/Object")] 2

/-- java/io/Serializable -/
def k2 : Class := { plain "java/io/Serializable" (some 0) with
  accessFlags := 1537
  interfaces := #[]
  cf := some (fileOf pool2 1 #[] #[] 1537 3 #[] #[])
  fields := #[]
  methods := #[]
  instanceTypes := #[]
  staticTypes := #[]
  resolved := Array.replicate 7 none
  statics := none }

def pool3 : Array CpInfo := pool [(1, .class_ 2), (0, u "java/lang/Comparable"), (0, .class_ 4), (0, u "java/lang/Object")] 7

/-- java/lang/Comparable -/
def k3 : Class := { plain "java/lang/Comparable" (some 0) with
  accessFlags := 1537
  interfaces := #[]
  cf := some (fileOf pool3 1 #[] #[] 1537 3 #[] #[])
  fields := #[]
  methods := #[]
  instanceTypes := #[]
  staticTypes := #[]
  resolved := Array.replicate 12 none
  statics := none }

def pool4 : Array CpInfo := pool [(2, .class_ 4), (1, u "java/lang/CharSequence"), (42, .class_ 48), (0, u "java/lang/CharSequence$1CodePointIterator"), (10, .class_ 60), (0, u "java/lang/CharSequence$1CharIterator"), (5, .class_ 67), (0, u "java/lang/Object")] 63

/-- java/lang/CharSequence -/
def k4 : Class := { plain "java/lang/CharSequence" (some 0) with
  accessFlags := 1537
  interfaces := #[]
  cf := some (fileOf pool4 2 #[.nestMembers #[47, 59]] #[] 1537 66 #[] #[])
  fields := #[]
  methods := #[]
  instanceTypes := #[]
  staticTypes := #[]
  resolved := Array.replicate 131 none
  statics := none }

def pool5 : Array CpInfo := pool [(1, .class_ 2), (0, u "java/lang/constant/Constable"), (0, .class_ 4), (0, u "java/lang/Object")] 6

/-- java/lang/constant/Constable -/
def k5 : Class := { plain "java/lang/constant/Constable" (some 0) with
  accessFlags := 1537
  interfaces := #[]
  cf := some (fileOf pool5 1 #[] #[] 1537 3 #[] #[])
  fields := #[]
  methods := #[]
  instanceTypes := #[]
  staticTypes := #[]
  resolved := Array.replicate 11 none
  statics := none }

def pool6 : Array CpInfo := pool [(1, .class_ 2), (0, u "java/lang/constant/ConstantDesc"), (0, .class_ 4), (0, u "java/lang/Object")] 32

/-- java/lang/constant/ConstantDesc -/
def k6 : Class := { plain "java/lang/constant/ConstantDesc" (some 0) with
  accessFlags := 1537
  interfaces := #[]
  cf := some (fileOf pool6 1 #[] #[] 1537 3 #[] #[])
  fields := #[]
  methods := #[]
  instanceTypes := #[]
  staticTypes := #[]
  resolved := Array.replicate 37 none
  statics := none }

def pool7 : Array CpInfo := pool [(1, .methodref 2 3), (0, .class_ 4), (0, .nameAndType 5 6), (0, u "java/lang/Object"), (0, u "<init>"), (0, u "()V"), (0, .string 8), (0, u ""), (0, .fieldref 10 11), (0, .class_ 12), (0, .nameAndType 13 14), (0, u "java/lang/String"), (0, u "value"), (0, u "[B"), (0, .fieldref 10 16), (0, .nameAndType 17 18), (0, u "coder"), (0, u "B"), (2, u "hash"), (0, u "I"), (2, u "hashIsZero"), (0, u "Z"), (0, .methodref 10 28), (0, .nameAndType 5 29), (0, u "([CIILjava/lang/Void;)V"), (8, .fieldref 10 39), (0, .nameAndType 40 26), (0, u "COMPACT_STRINGS"), (1, .class_ 44), (1, u "java/lang/StringUTF16"), (0, u "compress"), (1, .methodref 42 48), (0, .nameAndType 49 50), (0, u "coderFromArrayLen"), (0, u "([BI)B"), (2, u "toBytes"), (53, .class_ 109), (1, u "java/lang/StringLatin1"), (67, .methodref 42 178), (0, .nameAndType 45 179), (0, u "([CII)[B"), (29, .methodref 10 210), (0, .nameAndType 5 211), (0, u "([BB)V"), (157, u "(C)Z"), (173, u "equals"), (29, u "(Ljava/lang/Object;)Z"), (1, .class_ 576), (0, u "java/lang/CharSequence"), (22, u "CASE_INSENSITIVE_ORDER"), (0, u "Ljava/util/Comparator;"), (181, u "valueOf"), (0, u "(C)Ljava/lang/String;"), (226, u "([C)V"), (4, .methodref 107 1016), (0, .nameAndType 1017 369), (0, u "canEncode"), (0, .methodref 107 1019), (0, .nameAndType 53 1020), (0, u "(C)[B"), (80, u "serialPersistentFields"), (0, u "[Ljava/io/ObjectStreamField;"), (0, .class_ 1104), (0, u "java/lang/String$CaseInsensitiveComparator"), (1, .class_ 1107), (0, u "java/io/Serializable"), (0, .class_ 1109), (0, u "java/lang/Comparable"), (0, .class_ 1111), (0, u "java/lang/constant/Constable"), (0, .class_ 1113), (0, u "java/lang/constant/ConstantDesc"), (2, u "serialVersionUID"), (0, u "J"), (3, u "REPL"), (0, u "C"), (2, u "LATIN1"), (1, u "UTF16")] 323

def k7m0 : Method := { name := "<init>", desc := "()V", sig := { parameters := [], returnType := none }, accessFlags := 1, code := none }
def k7c1 : Code := { maxStack := 5, maxLocals := 2, code := jdk_42_method_3_code, exceptionTable := #[], attributes := #[] }
def k7m1 : Method := { name := "<init>", desc := "([C)V", sig := { parameters := [(.array .char)], returnType := none }, accessFlags := 1, code := some k7c1 }
def k7c2 : Code := { maxStack := 2, maxLocals := 3, code := jdk_42_method_66_code, exceptionTable := #[], attributes := #[] }
def k7m2 : Method := { name := "equals", desc := "(Ljava/lang/Object;)Z", sig := { parameters := [(.object "java/lang/Object")], returnType := some .boolean }, accessFlags := 1, code := some k7c2 }
def k7c3 : Code := { maxStack := 4, maxLocals := 1, code := jdk_42_method_139_code, exceptionTable := #[], attributes := #[] }
def k7m3 : Method := { name := "valueOf", desc := "(C)Ljava/lang/String;", sig := { parameters := [.char], returnType := some (.object "java/lang/String") }, accessFlags := 9, code := some k7c3 }
def k7c4 : Code := { maxStack := 4, maxLocals := 6, code := jdk_42_method_149_code, exceptionTable := #[], attributes := #[] }
def k7m4 : Method := { name := "<init>", desc := "([CIILjava/lang/Void;)V", sig := { parameters := [(.array .char), .int, .int, (.object "java/lang/Void")], returnType := none }, accessFlags := 2, code := some k7c4 }
def k7c5 : Code := { maxStack := 2, maxLocals := 3, code := jdk_42_method_151_code, exceptionTable := #[], attributes := #[] }
def k7m5 : Method := { name := "<init>", desc := "([BB)V", sig := { parameters := [(.array .byte), .byte], returnType := none }, accessFlags := 0, code := some k7c5 }
/-- java/lang/String -/
def k7 : Class := { plain "java/lang/String" (some 0) with
  accessFlags := 49
  interfaces := #[2, 3, 4, 5, 6]
  cf := some (fileOf pool7 10 #[.nestMembers #[1103]] #[{ accessFlags := 1, nameIndex := 5, descriptorIndex := 6, attributes := #[] }, { accessFlags := 1, nameIndex := 5, descriptorIndex := 1010, attributes := #[] }, { accessFlags := 1, nameIndex := 543, descriptorIndex := 573, attributes := #[] }, { accessFlags := 9, nameIndex := 782, descriptorIndex := 783, attributes := #[] }, { accessFlags := 2, nameIndex := 5, descriptorIndex := 29, attributes := #[] }, { accessFlags := 0, nameIndex := 5, descriptorIndex := 211, attributes := #[] }] 49 2 #[1106, 1108, 575, 1110, 1112] #[{ accessFlags := 18, nameIndex := 13, descriptorIndex := 14, attributes := #[] }, { accessFlags := 18, nameIndex := 17, descriptorIndex := 18, attributes := #[] }, { accessFlags := 2, nameIndex := 21, descriptorIndex := 22, attributes := #[] }, { accessFlags := 2, nameIndex := 25, descriptorIndex := 26, attributes := #[] }, { accessFlags := 26, nameIndex := 1116, descriptorIndex := 1117, attributes := #[] }, { accessFlags := 24, nameIndex := 40, descriptorIndex := 26, attributes := #[] }, { accessFlags := 26, nameIndex := 1101, descriptorIndex := 1102, attributes := #[] }, { accessFlags := 26, nameIndex := 1121, descriptorIndex := 1122, attributes := #[] }, { accessFlags := 25, nameIndex := 599, descriptorIndex := 600, attributes := #[] }, { accessFlags := 24, nameIndex := 1125, descriptorIndex := 18, attributes := #[] }, { accessFlags := 24, nameIndex := 1127, descriptorIndex := 18, attributes := #[] }])
  fields := #[{ name := "value", type := (.array .byte), accessFlags := 18, slot := 0, constantValue := 0 }, { name := "coder", type := .byte, accessFlags := 18, slot := 1, constantValue := 0 }, { name := "hash", type := .int, accessFlags := 2, slot := 2, constantValue := 0 }, { name := "hashIsZero", type := .boolean, accessFlags := 2, slot := 3, constantValue := 0 }, { name := "serialVersionUID", type := .long, accessFlags := 26, slot := 0, constantValue := 0 }, { name := "COMPACT_STRINGS", type := .boolean, accessFlags := 24, slot := 1, constantValue := 0 }, { name := "serialPersistentFields", type := (.array (.object "java/io/ObjectStreamField")), accessFlags := 26, slot := 2, constantValue := 0 }, { name := "REPL", type := .char, accessFlags := 26, slot := 3, constantValue := 0 }, { name := "CASE_INSENSITIVE_ORDER", type := (.object "java/util/Comparator"), accessFlags := 25, slot := 4, constantValue := 0 }, { name := "LATIN1", type := .byte, accessFlags := 24, slot := 5, constantValue := 0 }, { name := "UTF16", type := .byte, accessFlags := 24, slot := 6, constantValue := 0 }]
  methods := #[k7m0, k7m1, k7m2, k7m3, k7m4, k7m5]
  instanceTypes := #[(.array .byte), .byte, .int, .boolean]
  staticTypes := #[.long, .boolean, (.array (.object "java/io/ObjectStreamField")), .char, (.object "java/util/Comparator"), .byte, .byte]
  resolved := Array.replicate 1451 none
  statics := some 0 }

def pool8 : Array CpInfo := pool [(1, .methodref 2 3), (0, .class_ 4), (0, .nameAndType 5 6), (0, u "java/lang/Object"), (0, u "<init>"), (0, u "()V"), (0, .fieldref 8 9), (0, .class_ 10), (0, .nameAndType 11 12), (0, u "com/example/pipefish/pipefish/conformance/Outcome"), (0, u "status"), (0, u "Lcom/example/pipefish/pipefish/conformance/Outcome$Status;"), (0, .fieldref 8 14), (0, .nameAndType 15 16), (0, u "reason"), (0, u "Ljava/lang/String;"), (0, .fieldref 8 18), (0, .nameAndType 19 16), (0, u "detail"), (2, u "PASSED"), (0, u "Lcom/example/pipefish/pipefish/conformance/Outcome;"), (1, .class_ 27), (1, u "com/example/pipefish/pipefish/conformance/Outcome$Status"), (1, .methodref 8 30), (0, .nameAndType 5 31), (0, u "(Lcom/example/pipefish/pipefish/conformance/Outcome$Status;Ljava/lang/String;Ljava/lang/String;)V"), (4, .fieldref 25 37), (0, .nameAndType 38 12), (0, u "SKIP"), (9, u "(Ljava/lang/String;)Lcom/example/pipefish/pipefish/conformance/Outcome;"), (0, u "skip"), (0, u "getStatus"), (0, u "()Lcom/example/pipefish/pipefish/conformance/Outcome$Status;"), (0, u "getReason"), (0, u "()Ljava/lang/String;"), (0, u "getDetail")] 6

def k8c0 : Code := { maxStack := 2, maxLocals := 4, code := prog_12_method_1_code, exceptionTable := #[], attributes := #[] }
def k8m0 : Method := { name := "<init>", desc := "(Lcom/example/pipefish/pipefish/conformance/Outcome$Status;Ljava/lang/String;Ljava/lang/String;)V", sig := { parameters := [(.object "com/example/pipefish/pipefish/conformance/Outcome$Status"), (.object "java/lang/String"), (.object "java/lang/String")], returnType := none }, accessFlags := 2, code := some k8c0 }
def k8c1 : Code := { maxStack := 5, maxLocals := 1, code := prog_12_method_5_code, exceptionTable := #[], attributes := #[] }
def k8m1 : Method := { name := "skip", desc := "(Ljava/lang/String;)Lcom/example/pipefish/pipefish/conformance/Outcome;", sig := { parameters := [(.object "java/lang/String")], returnType := some (.object "com/example/pipefish/pipefish/conformance/Outcome") }, accessFlags := 8, code := some k8c1 }
def k8c2 : Code := { maxStack := 1, maxLocals := 1, code := prog_12_method_6_code, exceptionTable := #[], attributes := #[] }
def k8m2 : Method := { name := "getStatus", desc := "()Lcom/example/pipefish/pipefish/conformance/Outcome$Status;", sig := { parameters := [], returnType := some (.object "com/example/pipefish/pipefish/conformance/Outcome$Status") }, accessFlags := 0, code := some k8c2 }
def k8c3 : Code := { maxStack := 1, maxLocals := 1, code := prog_12_method_7_code, exceptionTable := #[], attributes := #[] }
def k8m3 : Method := { name := "getReason", desc := "()Ljava/lang/String;", sig := { parameters := [], returnType := some (.object "java/lang/String") }, accessFlags := 0, code := some k8c3 }
def k8c4 : Code := { maxStack := 1, maxLocals := 1, code := prog_12_method_8_code, exceptionTable := #[], attributes := #[] }
def k8m4 : Method := { name := "getDetail", desc := "()Ljava/lang/String;", sig := { parameters := [], returnType := some (.object "java/lang/String") }, accessFlags := 0, code := some k8c4 }
/-- com/example/pipefish/pipefish/conformance/Outcome -/
def k8 : Class := { plain "com/example/pipefish/pipefish/conformance/Outcome" (some 0) with
  accessFlags := 48
  interfaces := #[]
  cf := some (fileOf pool8 8 #[.nestMembers #[25]] #[{ accessFlags := 2, nameIndex := 5, descriptorIndex := 31, attributes := #[] }, { accessFlags := 8, nameIndex := 49, descriptorIndex := 48, attributes := #[] }, { accessFlags := 0, nameIndex := 50, descriptorIndex := 51, attributes := #[] }, { accessFlags := 0, nameIndex := 52, descriptorIndex := 53, attributes := #[] }, { accessFlags := 0, nameIndex := 54, descriptorIndex := 53, attributes := #[] }] 48 2 #[] #[{ accessFlags := 26, nameIndex := 22, descriptorIndex := 23, attributes := #[] }, { accessFlags := 18, nameIndex := 11, descriptorIndex := 12, attributes := #[] }, { accessFlags := 18, nameIndex := 15, descriptorIndex := 16, attributes := #[] }, { accessFlags := 18, nameIndex := 19, descriptorIndex := 16, attributes := #[] }])
  fields := #[{ name := "PASSED", type := (.object "com/example/pipefish/pipefish/conformance/Outcome"), accessFlags := 26, slot := 0, constantValue := 0 }, { name := "status", type := (.object "com/example/pipefish/pipefish/conformance/Outcome$Status"), accessFlags := 18, slot := 0, constantValue := 0 }, { name := "reason", type := (.object "java/lang/String"), accessFlags := 18, slot := 1, constantValue := 0 }, { name := "detail", type := (.object "java/lang/String"), accessFlags := 18, slot := 2, constantValue := 0 }]
  methods := #[k8m0, k8m1, k8m2, k8m3, k8m4]
  instanceTypes := #[(.object "com/example/pipefish/pipefish/conformance/Outcome$Status"), (.object "java/lang/String"), (.object "java/lang/String")]
  staticTypes := #[(.object "com/example/pipefish/pipefish/conformance/Outcome")]
  resolved := Array.replicate 61 none
  statics := none }

def pool9 : Array CpInfo := pool [(2, .class_ 4), (1, u "java/lang/Enum"), (0, u "name"), (0, u "Ljava/lang/String;"), (2, u "ordinal"), (0, u "I"), (1, .class_ 14), (1, u "java/lang/Object"), (4, u "hash"), (86, .class_ 108), (1, u "java/lang/Enum$EnumDesc"), (2, .class_ 112), (0, u "java/lang/constant/Constable"), (0, .class_ 114), (0, u "java/lang/Comparable"), (0, .class_ 116), (0, u "java/io/Serializable")] 87

/-- java/lang/Enum -/
def k9 : Class := { plain "java/lang/Enum" (some 0) with
  accessFlags := 1057
  interfaces := #[5, 3, 2]
  cf := some (fileOf pool9 2 #[.nestMembers #[106]] #[] 1057 12 #[111, 113, 115] #[{ accessFlags := 18, nameIndex := 5, descriptorIndex := 6, attributes := #[] }, { accessFlags := 18, nameIndex := 9, descriptorIndex := 10, attributes := #[] }, { accessFlags := 2, nameIndex := 19, descriptorIndex := 10, attributes := #[] }])
  fields := #[{ name := "name", type := (.object "java/lang/String"), accessFlags := 18, slot := 0, constantValue := 0 }, { name := "ordinal", type := .int, accessFlags := 18, slot := 1, constantValue := 0 }, { name := "hash", type := .int, accessFlags := 2, slot := 2, constantValue := 0 }]
  methods := #[]
  instanceTypes := #[(.object "java/lang/String"), .int, .int]
  staticTypes := #[]
  resolved := Array.replicate 204 none
  statics := none }

def pool10 : Array CpInfo := pool [(1, .class_ 2), (0, u "com/example/pipefish/pipefish/conformance/Outcome$Status"), (2, u "PASS"), (0, u "Lcom/example/pipefish/pipefish/conformance/Outcome$Status;"), (2, u "FAIL"), (2, u "SKIP"), (2, u "$VALUES"), (0, u "[Lcom/example/pipefish/pipefish/conformance/Outcome$Status;"), (6, .class_ 25), (1, u "java/lang/Enum"), (26, .class_ 53), (0, u "com/example/pipefish/pipefish/conformance/Outcome")] 2

/-- com/example/pipefish/pipefish/conformance/Outcome$Status -/
def k10 : Class := { plain "com/example/pipefish/pipefish/conformance/Outcome$Status" (some 9) with
  accessFlags := 16432
  interfaces := #[]
  cf := some (fileOf pool10 1 #[.nestHost 52] #[] 16432 23 #[] #[{ accessFlags := 16409, nameIndex := 5, descriptorIndex := 6, attributes := #[] }, { accessFlags := 16409, nameIndex := 9, descriptorIndex := 6, attributes := #[] }, { accessFlags := 16409, nameIndex := 12, descriptorIndex := 6, attributes := #[] }, { accessFlags := 4122, nameIndex := 15, descriptorIndex := 16, attributes := #[] }])
  fields := #[{ name := "PASS", type := (.object "com/example/pipefish/pipefish/conformance/Outcome$Status"), accessFlags := 16409, slot := 0, constantValue := 0 }, { name := "FAIL", type := (.object "com/example/pipefish/pipefish/conformance/Outcome$Status"), accessFlags := 16409, slot := 1, constantValue := 0 }, { name := "SKIP", type := (.object "com/example/pipefish/pipefish/conformance/Outcome$Status"), accessFlags := 16409, slot := 2, constantValue := 0 }, { name := "$VALUES", type := (.array (.object "com/example/pipefish/pipefish/conformance/Outcome$Status")), accessFlags := 4122, slot := 3, constantValue := 0 }]
  methods := #[]
  instanceTypes := #[(.object "java/lang/String"), .int, .int]
  staticTypes := #[(.object "com/example/pipefish/pipefish/conformance/Outcome$Status"), (.object "com/example/pipefish/pipefish/conformance/Outcome$Status"), (.object "com/example/pipefish/pipefish/conformance/Outcome$Status"), (.array (.object "com/example/pipefish/pipefish/conformance/Outcome$Status"))]
  resolved := Array.replicate 56 none
  statics := some 1 }

def pool11 : Array CpInfo := pool [(6, .class_ 8), (1, u "java/lang/Object"), (0, u "<init>"), (0, u "()V"), (1, .class_ 14), (1, u "java/lang/StringUTF16"), (31, u "$assertionsDisabled"), (0, u "Z"), (13, u "HI_BYTE_SHIFT"), (0, u "I"), (2, u "LO_BYTE_SHIFT"), (49, .methodref 12 116), (0, .nameAndType 117 118), (0, u "compress"), (0, u "([CI[BII)I"), (3, u "([CII)[B"), (138, u "coderFromArrayLen"), (0, u "([BI)B"), (106, .class_ 371), (1, u "java/lang/StringUTF16$LinesSpliterator"), (58, u "MAX_LENGTH"), (196, .class_ 628), (0, u "java/lang/StringUTF16$CodePointsSpliterator"), (0, .class_ 630), (0, u "java/lang/StringUTF16$CharsSpliterator")] 4

def k11m0 : Method := { name := "<init>", desc := "()V", sig := { parameters := [], returnType := none }, accessFlags := 0, code := none }
def k11c1 : Code := { maxStack := 2, maxLocals := 2, code := jdk_52_method_15_code, exceptionTable := #[], attributes := #[] }
def k11m1 : Method := { name := "coderFromArrayLen", desc := "([BI)B", sig := { parameters := [(.array .byte), .int], returnType := some .byte }, accessFlags := 8, code := some k11c1 }
def k11c2 : Code := { maxStack := 5, maxLocals := 6, code := jdk_52_method_16_code, exceptionTable := #[], attributes := #[] }
def k11m2 : Method := { name := "compress", desc := "([CII)[B", sig := { parameters := [(.array .char), .int, .int], returnType := some (.array .byte) }, accessFlags := 9, code := some k11c2 }
def k11c3 : Code := { maxStack := 3, maxLocals := 7, code := jdk_52_method_21_code, exceptionTable := #[], attributes := #[] }
def k11m3 : Method := { name := "compress", desc := "([CI[BII)I", sig := { parameters := [(.array .char), .int, (.array .byte), .int, .int], returnType := some .int }, accessFlags := 9, code := some k11c3 }
/-- java/lang/StringUTF16 -/
def k11 : Class := { plain "java/lang/StringUTF16" (some 0) with
  accessFlags := 48
  interfaces := #[]
  cf := some (fileOf pool11 12 #[.nestMembers #[627, 629, 369]] #[{ accessFlags := 0, nameIndex := 9, descriptorIndex := 10, attributes := #[] }, { accessFlags := 8, nameIndex := 261, descriptorIndex := 262, attributes := #[] }, { accessFlags := 9, nameIndex := 117, descriptorIndex := 122, attributes := #[] }, { accessFlags := 9, nameIndex := 117, descriptorIndex := 118, attributes := #[] }] 48 6 #[] #[{ accessFlags := 26, nameIndex := 61, descriptorIndex := 62, attributes := #[] }, { accessFlags := 26, nameIndex := 65, descriptorIndex := 62, attributes := #[] }, { accessFlags := 24, nameIndex := 430, descriptorIndex := 62, attributes := #[] }, { accessFlags := 4120, nameIndex := 46, descriptorIndex := 47, attributes := #[] }])
  fields := #[{ name := "HI_BYTE_SHIFT", type := .int, accessFlags := 26, slot := 0, constantValue := 0 }, { name := "LO_BYTE_SHIFT", type := .int, accessFlags := 26, slot := 1, constantValue := 0 }, { name := "MAX_LENGTH", type := .int, accessFlags := 24, slot := 2, constantValue := 0 }, { name := "$assertionsDisabled", type := .boolean, accessFlags := 4120, slot := 3, constantValue := 0 }]
  methods := #[k11m0, k11m1, k11m2, k11m3]
  instanceTypes := #[]
  staticTypes := #[.int, .int, .int, .boolean]
  resolved := Array.replicate 635 none
  statics := none }

def pool12 : Array CpInfo := pool [(4, .class_ 6), (1, u "java/lang/Object"), (0, u "<init>"), (0, u "()V"), (5, .class_ 16), (1, u "java/lang/StringLatin1"), (73, u "canEncode"), (14, u "(C)Z"), (15, u "$assertionsDisabled"), (0, u "Z"), (98, .class_ 223), (1, u "java/lang/StringLatin1$LinesSpliterator"), (156, u "toBytes"), (1, u "(C)[B"), (7, .class_ 391), (0, u "java/lang/StringLatin1$CharsSpliterator")] 3

def k12m0 : Method := { name := "<init>", desc := "()V", sig := { parameters := [], returnType := none }, accessFlags := 0, code := none }
def k12c1 : Code := { maxStack := 2, maxLocals := 1, code := jdk_43_method_3_code, exceptionTable := #[], attributes := #[] }
def k12m1 : Method := { name := "canEncode", desc := "(C)Z", sig := { parameters := [.char], returnType := some .boolean }, accessFlags := 9, code := some k12c1 }
def k12c2 : Code := { maxStack := 4, maxLocals := 1, code := jdk_43_method_46_code, exceptionTable := #[], attributes := #[] }
def k12m2 : Method := { name := "toBytes", desc := "(C)[B", sig := { parameters := [.char], returnType := some (.array .byte) }, accessFlags := 9, code := some k12c2 }
/-- java/lang/StringLatin1 -/
def k12 : Class := { plain "java/lang/StringLatin1" (some 0) with
  accessFlags := 48
  interfaces := #[]
  cf := some (fileOf pool12 14 #[.nestMembers #[390, 221]] #[{ accessFlags := 0, nameIndex := 7, descriptorIndex := 8, attributes := #[] }, { accessFlags := 9, nameIndex := 90, descriptorIndex := 105, attributes := #[] }, { accessFlags := 9, nameIndex := 380, descriptorIndex := 382, attributes := #[] }] 48 4 #[] #[{ accessFlags := 4120, nameIndex := 121, descriptorIndex := 122, attributes := #[] }])
  fields := #[{ name := "$assertionsDisabled", type := .boolean, accessFlags := 4120, slot := 0, constantValue := 0 }]
  methods := #[k12m0, k12m1, k12m2]
  instanceTypes := #[]
  staticTypes := #[.boolean]
  resolved := Array.replicate 395 none
  statics := none }

def pool13 : Array CpInfo := pool [(2, .class_ 4), (1, u "java/lang/Object"), (0, u "<init>"), (0, u "()V"), (17, .class_ 26), (1, u "jdk/internal/util/Preconditions"), (28, .class_ 56), (0, u "jdk/internal/util/Preconditions$4"), (57, .class_ 115), (0, u "jdk/internal/util/Preconditions$1"), (7, u "SIOOBE_FORMATTER"), (0, u "Ljava/util/function/BiFunction;"), (0, .class_ 126), (0, u "jdk/internal/util/Preconditions$2"), (3, u "AIOOBE_FORMATTER"), (0, .class_ 132), (0, u "jdk/internal/util/Preconditions$3"), (3, u "IOOBE_FORMATTER")] 57

def k13m0 : Method := { name := "<init>", desc := "()V", sig := { parameters := [], returnType := none }, accessFlags := 1, code := none }
/-- jdk/internal/util/Preconditions -/
def k13 : Class := { plain "jdk/internal/util/Preconditions" (some 0) with
  accessFlags := 33
  interfaces := #[]
  cf := some (fileOf pool13 24 #[.nestMembers #[55, 131, 125, 114]] #[{ accessFlags := 1, nameIndex := 5, descriptorIndex := 6, attributes := #[] }] 33 2 #[] #[{ accessFlags := 25, nameIndex := 123, descriptorIndex := 124, attributes := #[] }, { accessFlags := 25, nameIndex := 130, descriptorIndex := 124, attributes := #[] }, { accessFlags := 25, nameIndex := 136, descriptorIndex := 124, attributes := #[] }])
  fields := #[{ name := "SIOOBE_FORMATTER", type := (.object "java/util/function/BiFunction"), accessFlags := 25, slot := 0, constantValue := 0 }, { name := "AIOOBE_FORMATTER", type := (.object "java/util/function/BiFunction"), accessFlags := 25, slot := 1, constantValue := 0 }, { name := "IOOBE_FORMATTER", type := (.object "java/util/function/BiFunction"), accessFlags := 25, slot := 2, constantValue := 0 }]
  methods := #[k13m0]
  instanceTypes := #[]
  staticTypes := #[(.object "java/util/function/BiFunction"), (.object "java/util/function/BiFunction"), (.object "java/util/function/BiFunction")]
  resolved := Array.replicate 194 none
  statics := some 2 }

def pool14 : Array CpInfo := pool [(9, u "<init>"), (6, .class_ 18), (1, u "java/lang/Object"), (0, u "()V"), (1, .class_ 23), (1, u "jdk/internal/util/ArraysSupport"), (0, u "LOG2_ARRAY_LONG_INDEX_SCALE"), (0, u "I"), (2, u "U"), (0, u "Ljdk/internal/misc/Unsafe;"), (8, u "BIG_ENDIAN"), (0, u "Z"), (8, u "LOG2_BYTE_BIT_SIZE"), (4, u "LOG2_ARRAY_INT_INDEX_SCALE"), (54, u "JLA"), (0, u "Ljdk/internal/access/JavaLangAccess;"), (11, u "LOG2_ARRAY_BOOLEAN_INDEX_SCALE"), (9, u "LOG2_ARRAY_BYTE_INDEX_SCALE"), (5, u "LOG2_ARRAY_CHAR_INDEX_SCALE"), (5, u "LOG2_ARRAY_SHORT_INDEX_SCALE"), (18, u "LOG2_ARRAY_FLOAT_INDEX_SCALE"), (24, u "LOG2_ARRAY_DOUBLE_INDEX_SCALE"), (89, u "T_BOOLEAN"), (2, u "T_CHAR"), (1, u "T_FLOAT"), (1, u "T_DOUBLE"), (1, u "T_BYTE"), (1, u "T_SHORT"), (1, u "T_INT"), (1, u "T_LONG"), (1, u "SOFT_MAX_ARRAY_LENGTH")] 83

def k14m0 : Method := { name := "<init>", desc := "()V", sig := { parameters := [], returnType := none }, accessFlags := 2, code := none }
/-- jdk/internal/util/ArraysSupport -/
def k14 : Class := { plain "jdk/internal/util/ArraysSupport" (some 0) with
  accessFlags := 33
  interfaces := #[]
  cf := some (fileOf pool14 21 #[] #[{ accessFlags := 2, nameIndex := 9, descriptorIndex := 19, attributes := #[] }] 33 16 #[] #[{ accessFlags := 24, nameIndex := 28, descriptorIndex := 29, attributes := #[] }, { accessFlags := 26, nameIndex := 38, descriptorIndex := 39, attributes := #[] }, { accessFlags := 25, nameIndex := 121, descriptorIndex := 25, attributes := #[] }, { accessFlags := 25, nameIndex := 131, descriptorIndex := 25, attributes := #[] }, { accessFlags := 25, nameIndex := 137, descriptorIndex := 25, attributes := #[] }, { accessFlags := 25, nameIndex := 143, descriptorIndex := 25, attributes := #[] }, { accessFlags := 25, nameIndex := 53, descriptorIndex := 25, attributes := #[] }, { accessFlags := 25, nameIndex := 24, descriptorIndex := 25, attributes := #[] }, { accessFlags := 25, nameIndex := 162, descriptorIndex := 25, attributes := #[] }, { accessFlags := 25, nameIndex := 187, descriptorIndex := 25, attributes := #[] }, { accessFlags := 26, nameIndex := 48, descriptorIndex := 25, attributes := #[] }, { accessFlags := 25, nameIndex := 277, descriptorIndex := 25, attributes := #[] }, { accessFlags := 25, nameIndex := 280, descriptorIndex := 25, attributes := #[] }, { accessFlags := 25, nameIndex := 282, descriptorIndex := 25, attributes := #[] }, { accessFlags := 25, nameIndex := 284, descriptorIndex := 25, attributes := #[] }, { accessFlags := 25, nameIndex := 286, descriptorIndex := 25, attributes := #[] }, { accessFlags := 25, nameIndex := 288, descriptorIndex := 25, attributes := #[] }, { accessFlags := 25, nameIndex := 290, descriptorIndex := 25, attributes := #[] }, { accessFlags := 25, nameIndex := 292, descriptorIndex := 25, attributes := #[] }, { accessFlags := 26, nameIndex := 108, descriptorIndex := 109, attributes := #[] }, { accessFlags := 25, nameIndex := 294, descriptorIndex := 25, attributes := #[] }])
  fields := #[{ name := "U", type := (.object "jdk/internal/misc/Unsafe"), accessFlags := 24, slot := 0, constantValue := 0 }, { name := "BIG_ENDIAN", type := .boolean, accessFlags := 26, slot := 1, constantValue := 0 }, { name := "LOG2_ARRAY_BOOLEAN_INDEX_SCALE", type := .int, accessFlags := 25, slot := 2, constantValue := 0 }, { name := "LOG2_ARRAY_BYTE_INDEX_SCALE", type := .int, accessFlags := 25, slot := 3, constantValue := 0 }, { name := "LOG2_ARRAY_CHAR_INDEX_SCALE", type := .int, accessFlags := 25, slot := 4, constantValue := 0 }, { name := "LOG2_ARRAY_SHORT_INDEX_SCALE", type := .int, accessFlags := 25, slot := 5, constantValue := 0 }, { name := "LOG2_ARRAY_INT_INDEX_SCALE", type := .int, accessFlags := 25, slot := 6, constantValue := 0 }, { name := "LOG2_ARRAY_LONG_INDEX_SCALE", type := .int, accessFlags := 25, slot := 7, constantValue := 0 }, { name := "LOG2_ARRAY_FLOAT_INDEX_SCALE", type := .int, accessFlags := 25, slot := 8, constantValue := 0 }, { name := "LOG2_ARRAY_DOUBLE_INDEX_SCALE", type := .int, accessFlags := 25, slot := 9, constantValue := 0 }, { name := "LOG2_BYTE_BIT_SIZE", type := .int, accessFlags := 26, slot := 10, constantValue := 0 }, { name := "T_BOOLEAN", type := .int, accessFlags := 25, slot := 11, constantValue := 0 }, { name := "T_CHAR", type := .int, accessFlags := 25, slot := 12, constantValue := 0 }, { name := "T_FLOAT", type := .int, accessFlags := 25, slot := 13, constantValue := 0 }, { name := "T_DOUBLE", type := .int, accessFlags := 25, slot := 14, constantValue := 0 }, { name := "T_BYTE", type := .int, accessFlags := 25, slot := 15, constantValue := 0 }, { name := "T_SHORT", type := .int, accessFlags := 25, slot := 16, constantValue := 0 }, { name := "T_INT", type := .int, accessFlags := 25, slot := 17, constantValue := 0 }, { name := "T_LONG", type := .int, accessFlags := 25, slot := 18, constantValue := 0 }, { name := "JLA", type := (.object "jdk/internal/access/JavaLangAccess"), accessFlags := 26, slot := 19, constantValue := 0 }, { name := "SOFT_MAX_ARRAY_LENGTH", type := .int, accessFlags := 25, slot := 20, constantValue := 0 }]
  methods := #[k14m0]
  instanceTypes := #[]
  staticTypes := #[(.object "jdk/internal/misc/Unsafe"), .boolean, .int, .int, .int, .int, .int, .int, .int, .int, .int, .int, .int, .int, .int, .int, .int, .int, .int, (.object "jdk/internal/access/JavaLangAccess"), .int]
  resolved := Array.replicate 378 none
  statics := none }

def pool15 : Array CpInfo := pool [(1, u "java/lang/Cloneable"), (0, .class_ 1), (0, u "java/lang/Object"), (0, .class_ 3)] 3

/-- java/lang/Cloneable -/
def k15 : Class := { plain "java/lang/Cloneable" (some 0) with
  accessFlags := 1537
  interfaces := #[]
  cf := some (fileOf pool15 2 #[] #[] 1537 4 #[] #[])
  fields := #[]
  methods := #[]
  instanceTypes := #[]
  staticTypes := #[]
  resolved := Array.replicate 8 none
  statics := none }

/-- the primitive byte -/
def k16 : Class := { plain "byte" none with kind := .primitive 'B', accessFlags := 0x411 }
/-- [B -/
def k17 : Class := { plain "[B" (some 0) with kind := .array 16 .byte, interfaces := #[15, 2], accessFlags := 1041 }

/-- the primitive char -/
def k18 : Class := { plain "char" none with kind := .primitive 'C', accessFlags := 0x411 }
/-- [C -/
def k19 : Class := { plain "[C" (some 0) with kind := .array 18 .char, interfaces := #[15, 2], accessFlags := 1041 }

/-- the primitive int -/
def k20 : Class := { plain "int" none with kind := .primitive 'I', accessFlags := 0x411 }
/-- [I -/
def k21 : Class := { plain "[I" (some 0) with kind := .array 20 .int, interfaces := #[15, 2], accessFlags := 1041 }

def heap : Heap := #[{ cls := 7, slots := #[.long 0, .int 1, .null, .int 0, .null, .int 0, .int 0], vm := .statics 7 },
  { cls := 10, slots := #[.null, .null, .ref 3, .null], vm := .statics 10 },
  { cls := 13, slots := #[.null, .null, .null], vm := .statics 13 },
  { cls := 10, slots := #[.null, .int 2, .int 0], vm := .none }]
def classes : Array Class := #[k0, k1, k2, k3, k4, k5, k6, k7, k8, k9, k10, k11, k12, k13, k14, k15, k16, k17, k18, k19, k20, k21]
def interned : List (Array UInt16 × Addr) := []
def slotsUsed : Nat := 17
def theMethod : MethodId := ⟨1, 1⟩
def args0 : Array Value := #[.int 5, .int 66, .int 67, .int 68]
def aboutOver (below : List Frame) : State where
  vm := { classes := classes, interned := interned.toArray }
  heap := heap
  slotsUsed := slotsUsed
  threads := #[{ frames := .invoking theMethod args0 :: below }]
def below0 : List Frame := [.native { method := ⟨0, 0⟩, args := #[] }]
def about1 : State := aboutOver below0
def p0 : Program := .bare "" "" ""
def e0 : Env := launch0.env 0 0 0
theorem w_frames : about1.frames = Frame.invoking theMethod args0 :: below0 := rfl
set_option maxRecDepth 65536 in
theorem w_args : argsFit about1.vm theMethod args0 = true := by decide +kernel
set_option maxRecDepth 65536 in
theorem w_heap : heapFits about1 = true := by decide +kernel
set_option maxRecDepth 65536 in
theorem w_runnable : about1.curStatus? = some .runnable := by decide +kernel
set_option maxRecDepth 65536 in
theorem w_alone : about1.alone = true := by decide +kernel
set_option maxRecDepth 65536 in
theorem w_named : about1.methodNamed? x = some theMethod := by decide +kernel
set_option maxRecDepth 65536 in
theorem w_hears : about1.hears theMethod below0 = true := by decide +kernel
set_option maxRecDepth 65536 in
theorem w_ripe : about1.ripe theMethod args0 below0 = true := by decide +kernel
theorem w_running : about1.status = .running := rfl
set_option maxRecDepth 65536 in
theorem w_room : about1.hasRoom e0.platform room_1 = true :=
  launch0.hasRoom_least _ room_1 (by decide +kernel) (by decide +kernel) (by decide +kernel) (by decide +kernel) (by decide +kernel) (by decide +kernel)
theorem allAtoms_all (ts : List Jvm.Cond) (a : Array Jvm.Value) (st : Jvm.State) : (allAtoms ts).before a st = ts.all (fun c => c.before a st) := by
  induction ts with
  | nil => rfl
  | cons c t ih =>
    show (Jvm.Cond.and c (allAtoms t)).before a st = _
    rw [Jvm.Cond.before_and, ih, List.all_cons]
def words1 : List Jvm.Cond := Jvm.Cond.code x code maxLocals ret :: tables_1
/-- a 'code' word, met by the world's own term for the bytes: nothing is compared byte by byte -/
theorem code_word {y : MethodName} {bytes : ByteArray} {mx : Nat} {rt : Option FieldType} {a : Array Value} {s : State} {m : MethodId} {meth : Method} {c : Code} (h1 : s.methodNamed? y = some m) (h2 : s.vm.method? m = some meth) (h3 : meth.code = some c) (h4 : c.code = bytes)
    (h5 : (c.maxLocals == mx && c.exceptionTable.isEmpty && decide (c.maxStack ≤ mostOperands) && decide (meth.sig.returnType = rt) && !meth.locks && decide (parseMethodDescriptor y.desc = some meth.sig)) = true) : (Jvm.Cond.code y bytes mx rt).before a s = true := by
  simp only [Bool.and_eq_true, beq_iff_eq, Bool.not_eq_true', decide_eq_true_eq] at h5
  obtain ⟨⟨⟨⟨⟨g1, g2⟩, g3⟩, g4⟩, g5⟩, g6⟩ := h5
  simp [Cond.before, Cond.holds, Cond.value, h1, h2, h3, h4, g1, g2, g3, g4, g5, g6]
def isCode : Jvm.Cond → Bool
  | .code _ _ _ _ => true
  | _ => false
theorem all_split {L : List Jvm.Cond} {P : Jvm.Cond → Bool} (h1 : L.all (fun c => isCode c || P c) = true) (h2 : ∀ c ∈ L.filter isCode, P c = true) : L.all P = true := by
  refine List.all_eq_true.mpr fun c hc => ?_
  have h := List.all_eq_true.mp h1 c hc
  rcases Bool.eq_false_or_eq_true (isCode c) with hi | hi
  · exact h2 c (List.mem_filter.mpr ⟨hc, hi⟩)
  · simpa [hi] using h
set_option maxRecDepth 65536 in
theorem w_c0 : (Jvm.Cond.code x code maxLocals ret).before args0 about1 = true := code_word (m := ⟨1, 1⟩) (meth := k1m1) (c := k1c1) (by decide +kernel) rfl rfl rfl (by decide +kernel)
set_option maxRecDepth 65536 in
theorem w_c1 : (Jvm.Cond.code ({ cls := "com/example/pipefish/pipefish/conformance/OutcomeSkipPinLaw", name := "draw", desc := "(ICCC)Ljava/lang/String;" } : Jvm.MethodName) method_3_code (5 : Nat) (Option.some (Jvm.ClassFile.FieldType.object "java/lang/String"))).before args0 about1 = true := code_word (m := ⟨1, 2⟩) (meth := k1m2) (c := k1c2) (by decide +kernel) rfl rfl rfl (by decide +kernel)
set_option maxRecDepth 65536 in
theorem w_c2 : (Jvm.Cond.code ({ cls := "java/lang/String", name := "<init>", desc := "([C)V" } : Jvm.MethodName) jdk_42_method_3_code (2 : Nat) (Option.none : Option Jvm.ClassFile.FieldType)).before args0 about1 = true := code_word (m := ⟨7, 1⟩) (meth := k7m1) (c := k7c1) (by decide +kernel) rfl rfl rfl (by decide +kernel)
set_option maxRecDepth 65536 in
theorem w_c3 : (Jvm.Cond.code ({ cls := "java/lang/String", name := "<init>", desc := "([CIILjava/lang/Void;)V" } : Jvm.MethodName) jdk_42_method_149_code (6 : Nat) (Option.none : Option Jvm.ClassFile.FieldType)).before args0 about1 = true := code_word (m := ⟨7, 4⟩) (meth := k7m4) (c := k7c4) (by decide +kernel) rfl rfl rfl (by decide +kernel)
set_option maxRecDepth 65536 in
theorem w_c4 : (Jvm.Cond.code ({ cls := "java/lang/Object", name := "<init>", desc := "()V" } : Jvm.MethodName) object_method_1_code (1 : Nat) (Option.none : Option Jvm.ClassFile.FieldType)).before args0 about1 = true := code_word (m := ⟨0, 0⟩) (meth := k0m0) (c := k0c0) (by decide +kernel) rfl rfl rfl (by decide +kernel)
set_option maxRecDepth 65536 in
theorem w_c5 : (Jvm.Cond.code ({ cls := "com/example/pipefish/pipefish/conformance/Outcome", name := "skip", desc := "(Ljava/lang/String;)Lcom/example/pipefish/pipefish/conformance/Outcome;" } : Jvm.MethodName) prog_12_method_5_code (1 : Nat) (Option.some (Jvm.ClassFile.FieldType.object "com/example/pipefish/pipefish/conformance/Outcome"))).before args0 about1 = true := code_word (m := ⟨8, 1⟩) (meth := k8m1) (c := k8c1) (by decide +kernel) rfl rfl rfl (by decide +kernel)
set_option maxRecDepth 65536 in
theorem w_c6 : (Jvm.Cond.code ({ cls := "com/example/pipefish/pipefish/conformance/Outcome", name := "<init>", desc := "(Lcom/example/pipefish/pipefish/conformance/Outcome$Status;Ljava/lang/String;Ljava/lang/String;)V" } : Jvm.MethodName) prog_12_method_1_code (4 : Nat) (Option.none : Option Jvm.ClassFile.FieldType)).before args0 about1 = true := code_word (m := ⟨8, 0⟩) (meth := k8m0) (c := k8c0) (by decide +kernel) rfl rfl rfl (by decide +kernel)
set_option maxRecDepth 65536 in
theorem w_c7 : (Jvm.Cond.code ({ cls := "com/example/pipefish/pipefish/conformance/Outcome", name := "getStatus", desc := "()Lcom/example/pipefish/pipefish/conformance/Outcome$Status;" } : Jvm.MethodName) prog_12_method_6_code (1 : Nat) (Option.some (Jvm.ClassFile.FieldType.object "com/example/pipefish/pipefish/conformance/Outcome$Status"))).before args0 about1 = true := code_word (m := ⟨8, 2⟩) (meth := k8m2) (c := k8c2) (by decide +kernel) rfl rfl rfl (by decide +kernel)
set_option maxRecDepth 65536 in
theorem w_c8 : (Jvm.Cond.code ({ cls := "com/example/pipefish/pipefish/conformance/Outcome", name := "getReason", desc := "()Ljava/lang/String;" } : Jvm.MethodName) prog_12_method_7_code (1 : Nat) (Option.some (Jvm.ClassFile.FieldType.object "java/lang/String"))).before args0 about1 = true := code_word (m := ⟨8, 3⟩) (meth := k8m3) (c := k8c3) (by decide +kernel) rfl rfl rfl (by decide +kernel)
set_option maxRecDepth 65536 in
theorem w_c9 : (Jvm.Cond.code ({ cls := "java/lang/String", name := "equals", desc := "(Ljava/lang/Object;)Z" } : Jvm.MethodName) jdk_42_method_66_code (3 : Nat) (Option.some Jvm.ClassFile.FieldType.boolean)).before args0 about1 = true := code_word (m := ⟨7, 2⟩) (meth := k7m2) (c := k7c2) (by decide +kernel) rfl rfl rfl (by decide +kernel)
set_option maxRecDepth 65536 in
theorem w_c10 : (Jvm.Cond.code ({ cls := "com/example/pipefish/pipefish/conformance/Outcome", name := "getDetail", desc := "()Ljava/lang/String;" } : Jvm.MethodName) prog_12_method_8_code (1 : Nat) (Option.some (Jvm.ClassFile.FieldType.object "java/lang/String"))).before args0 about1 = true := code_word (m := ⟨8, 4⟩) (meth := k8m4) (c := k8c4) (by decide +kernel) rfl rfl rfl (by decide +kernel)
set_option maxRecDepth 65536 in
theorem w_c11 : (Jvm.Cond.code ({ cls := "java/lang/StringUTF16", name := "compress", desc := "([CII)[B" } : Jvm.MethodName) jdk_52_method_16_code (6 : Nat) (Option.some (Jvm.ClassFile.FieldType.array Jvm.ClassFile.FieldType.byte))).before args0 about1 = true := code_word (m := ⟨11, 2⟩) (meth := k11m2) (c := k11c2) (by decide +kernel) rfl rfl rfl (by decide +kernel)
set_option maxRecDepth 65536 in
theorem w_c12 : (Jvm.Cond.code ({ cls := "java/lang/StringUTF16", name := "compress", desc := "([CI[BII)I" } : Jvm.MethodName) jdk_52_method_21_code (7 : Nat) (Option.some Jvm.ClassFile.FieldType.int)).before args0 about1 = true := code_word (m := ⟨11, 3⟩) (meth := k11m3) (c := k11c3) (by decide +kernel) rfl rfl rfl (by decide +kernel)
set_option maxRecDepth 65536 in
theorem w_c13 : (Jvm.Cond.code ({ cls := "java/lang/StringUTF16", name := "coderFromArrayLen", desc := "([BI)B" } : Jvm.MethodName) jdk_52_method_15_code (2 : Nat) (Option.some Jvm.ClassFile.FieldType.byte)).before args0 about1 = true := code_word (m := ⟨11, 1⟩) (meth := k11m1) (c := k11c1) (by decide +kernel) rfl rfl rfl (by decide +kernel)
set_option maxRecDepth 65536 in
theorem w_c14 : (Jvm.Cond.code ({ cls := "java/lang/String", name := "valueOf", desc := "(C)Ljava/lang/String;" } : Jvm.MethodName) jdk_42_method_139_code (1 : Nat) (Option.some (Jvm.ClassFile.FieldType.object "java/lang/String"))).before args0 about1 = true := code_word (m := ⟨7, 3⟩) (meth := k7m3) (c := k7c3) (by decide +kernel) rfl rfl rfl (by decide +kernel)
set_option maxRecDepth 65536 in
theorem w_c15 : (Jvm.Cond.code ({ cls := "java/lang/StringLatin1", name := "canEncode", desc := "(C)Z" } : Jvm.MethodName) jdk_43_method_3_code (1 : Nat) (Option.some Jvm.ClassFile.FieldType.boolean)).before args0 about1 = true := code_word (m := ⟨12, 1⟩) (meth := k12m1) (c := k12c1) (by decide +kernel) rfl rfl rfl (by decide +kernel)
set_option maxRecDepth 65536 in
theorem w_c16 : (Jvm.Cond.code ({ cls := "java/lang/StringLatin1", name := "toBytes", desc := "(C)[B" } : Jvm.MethodName) jdk_43_method_46_code (1 : Nat) (Option.some (Jvm.ClassFile.FieldType.array Jvm.ClassFile.FieldType.byte))).before args0 about1 = true := code_word (m := ⟨12, 2⟩) (meth := k12m2) (c := k12c2) (by decide +kernel) rfl rfl rfl (by decide +kernel)
set_option maxRecDepth 65536 in
theorem w_c17 : (Jvm.Cond.code ({ cls := "java/lang/String", name := "<init>", desc := "([BB)V" } : Jvm.MethodName) jdk_42_method_151_code (3 : Nat) (Option.none : Option Jvm.ClassFile.FieldType)).before args0 about1 = true := code_word (m := ⟨7, 5⟩) (meth := k7m5) (c := k7c5) (by decide +kernel) rfl rfl rfl (by decide +kernel)
def codes1 : List Jvm.Cond := [Jvm.Cond.code x code maxLocals ret, Jvm.Cond.code ({ cls := "com/example/pipefish/pipefish/conformance/OutcomeSkipPinLaw", name := "draw", desc := "(ICCC)Ljava/lang/String;" } : Jvm.MethodName) method_3_code (5 : Nat) (Option.some (Jvm.ClassFile.FieldType.object "java/lang/String")), Jvm.Cond.code ({ cls := "java/lang/String", name := "<init>", desc := "([C)V" } : Jvm.MethodName) jdk_42_method_3_code (2 : Nat) (Option.none : Option Jvm.ClassFile.FieldType), Jvm.Cond.code ({ cls := "java/lang/String", name := "<init>", desc := "([CIILjava/lang/Void;)V" } : Jvm.MethodName) jdk_42_method_149_code (6 : Nat) (Option.none : Option Jvm.ClassFile.FieldType), Jvm.Cond.code ({ cls := "java/lang/Object", name := "<init>", desc := "()V" } : Jvm.MethodName) object_method_1_code (1 : Nat) (Option.none : Option Jvm.ClassFile.FieldType), Jvm.Cond.code ({ cls := "com/example/pipefish/pipefish/conformance/Outcome", name := "skip", desc := "(Ljava/lang/String;)Lcom/example/pipefish/pipefish/conformance/Outcome;" } : Jvm.MethodName) prog_12_method_5_code (1 : Nat) (Option.some (Jvm.ClassFile.FieldType.object "com/example/pipefish/pipefish/conformance/Outcome")), Jvm.Cond.code ({ cls := "com/example/pipefish/pipefish/conformance/Outcome", name := "<init>", desc := "(Lcom/example/pipefish/pipefish/conformance/Outcome$Status;Ljava/lang/String;Ljava/lang/String;)V" } : Jvm.MethodName) prog_12_method_1_code (4 : Nat) (Option.none : Option Jvm.ClassFile.FieldType), Jvm.Cond.code ({ cls := "com/example/pipefish/pipefish/conformance/Outcome", name := "getStatus", desc := "()Lcom/example/pipefish/pipefish/conformance/Outcome$Status;" } : Jvm.MethodName) prog_12_method_6_code (1 : Nat) (Option.some (Jvm.ClassFile.FieldType.object "com/example/pipefish/pipefish/conformance/Outcome$Status")), Jvm.Cond.code ({ cls := "com/example/pipefish/pipefish/conformance/Outcome", name := "getReason", desc := "()Ljava/lang/String;" } : Jvm.MethodName) prog_12_method_7_code (1 : Nat) (Option.some (Jvm.ClassFile.FieldType.object "java/lang/String")), Jvm.Cond.code ({ cls := "java/lang/String", name := "equals", desc := "(Ljava/lang/Object;)Z" } : Jvm.MethodName) jdk_42_method_66_code (3 : Nat) (Option.some Jvm.ClassFile.FieldType.boolean), Jvm.Cond.code ({ cls := "com/example/pipefish/pipefish/conformance/Outcome", name := "getDetail", desc := "()Ljava/lang/String;" } : Jvm.MethodName) prog_12_method_8_code (1 : Nat) (Option.some (Jvm.ClassFile.FieldType.object "java/lang/String")), Jvm.Cond.code ({ cls := "java/lang/StringUTF16", name := "compress", desc := "([CII)[B" } : Jvm.MethodName) jdk_52_method_16_code (6 : Nat) (Option.some (Jvm.ClassFile.FieldType.array Jvm.ClassFile.FieldType.byte)), Jvm.Cond.code ({ cls := "java/lang/StringUTF16", name := "compress", desc := "([CI[BII)I" } : Jvm.MethodName) jdk_52_method_21_code (7 : Nat) (Option.some Jvm.ClassFile.FieldType.int), Jvm.Cond.code ({ cls := "java/lang/StringUTF16", name := "coderFromArrayLen", desc := "([BI)B" } : Jvm.MethodName) jdk_52_method_15_code (2 : Nat) (Option.some Jvm.ClassFile.FieldType.byte), Jvm.Cond.code ({ cls := "java/lang/String", name := "valueOf", desc := "(C)Ljava/lang/String;" } : Jvm.MethodName) jdk_42_method_139_code (1 : Nat) (Option.some (Jvm.ClassFile.FieldType.object "java/lang/String")), Jvm.Cond.code ({ cls := "java/lang/StringLatin1", name := "canEncode", desc := "(C)Z" } : Jvm.MethodName) jdk_43_method_3_code (1 : Nat) (Option.some Jvm.ClassFile.FieldType.boolean), Jvm.Cond.code ({ cls := "java/lang/StringLatin1", name := "toBytes", desc := "(C)[B" } : Jvm.MethodName) jdk_43_method_46_code (1 : Nat) (Option.some (Jvm.ClassFile.FieldType.array Jvm.ClassFile.FieldType.byte)), Jvm.Cond.code ({ cls := "java/lang/String", name := "<init>", desc := "([BB)V" } : Jvm.MethodName) jdk_42_method_151_code (3 : Nat) (Option.none : Option Jvm.ClassFile.FieldType)]
set_option maxRecDepth 65536 in
theorem codes_eq : words1.filter isCode = codes1 := rfl
theorem w_codes : ∀ c ∈ words1.filter isCode, c.before args0 about1 = true := by
  rw [codes_eq]
  intro c hc
  simp only [codes1, List.mem_cons, List.not_mem_nil, or_false] at hc
  rcases hc with rfl | rfl | rfl | rfl | rfl | rfl | rfl | rfl | rfl | rfl | rfl | rfl | rfl | rfl | rfl | rfl | rfl | rfl
  · exact w_c0
  · exact w_c1
  · exact w_c2
  · exact w_c3
  · exact w_c4
  · exact w_c5
  · exact w_c6
  · exact w_c7
  · exact w_c8
  · exact w_c9
  · exact w_c10
  · exact w_c11
  · exact w_c12
  · exact w_c13
  · exact w_c14
  · exact w_c15
  · exact w_c16
  · exact w_c17
set_option maxRecDepth 65536 in
theorem w_t1 : (words1.take 24).all (fun c => isCode c || c.before args0 about1) = true := by decide +kernel
set_option maxRecDepth 65536 in
theorem w_t2 : ((words1.drop 24).take 24).all (fun c => isCode c || c.before args0 about1) = true := by decide +kernel
set_option maxRecDepth 65536 in
theorem w_t3 : (((words1.drop 24).drop 24).take 24).all (fun c => isCode c || c.before args0 about1) = true := by decide +kernel
set_option maxRecDepth 65536 in
theorem w_t4 : (((words1.drop 24).drop 24).drop 24).all (fun c => isCode c || c.before args0 about1) = true := by decide +kernel
theorem w_tables : (allAtoms (Jvm.Cond.code x code maxLocals ret :: tables_1)).before args0 about1 = true := by
  rw [allAtoms_all]
  show words1.all (fun c => c.before args0 about1) = true
  refine all_split ?_ w_codes
  rw [← List.take_append_drop 24 words1, List.all_append, w_t1, ← List.take_append_drop 24 (words1.drop 24), List.all_append, w_t2, ← List.take_append_drop 24 ((words1.drop 24).drop 24), List.all_append, w_t3, w_t4]
  rfl
set_option maxRecDepth 65536 in
theorem w_rest : rest_1_c.before args0 about1 = true := by decide +kernel
set_option maxRecDepth 65536 in
theorem w_case : (Jvm.Cond.and given_1 narrow_1).before args0 about1 = true := by decide +kernel
set_option maxRecDepth 65536 in
theorem w_consts : constsHeld consts_1 about1 := Jvm.Lit.constsHeldB_iff.mp (by decide +kernel)
theorem w_applies : (headSpec (Jvm.Cond.code x code maxLocals ret :: tables_1) room_1).applies x e0.platform about1 = true :=
  (Spec.applies_iff w_frames).mpr ⟨w_running, w_runnable, w_alone, w_named, w_hears, w_ripe, w_room, w_tables⟩
theorem atStart : AtStart classFile x code maxLocals ret World_1 tables_1 room_1 Calls_1 rest_1 Pre_1 launch0 p0 e0 about1 theMethod args0 below0 :=
  ⟨lists_1, trivial, launch0.admits_env _ _ _, launch0.least_env, fairChoices_fair.cas, fairChoices_fair.clock, w_frames, w_args, w_heap, w_applies, ⟨w_consts, trivial⟩, w_rest, w_case⟩
end start1
theorem witness_1 : WitnessClaimed_1 := ⟨start1.p0, start1.e0, start1.about1, start1.theMethod, start1.args0, start1.below0, start1.atStart⟩
end Jvm.Pilot.@@N@@
