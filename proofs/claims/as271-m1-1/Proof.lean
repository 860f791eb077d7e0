import JvmDerived
import JvmDerived.Pilot.@@N@@Statement
import JvmDerived.Pilot.@@N@@Code
set_option linter.unusedVariables false
set_option linter.unusedSimpArgs false
namespace Jvm.Pilot.@@N@@
open Jvm Jvm.ClassFile Sem Op Lib Jvm.Free Jvm.Stand Jvm.LawKit Jvm.RoadKit Bundle Jvm.Pilot.@@N@@.Jvm.D
namespace Own
section Kit
variable {wd : Bool} {p : Program} {l : Launch} {e : Env} {R : Room} {s : State} {m : MethodId} {args : Array Value} {below : List Frame} {meth : Method} {c : Code} {own : String} {Z : State} {a0 : Array Value} {n0 : Nat} {h0 : Heap} {ws : List Addr} {vm : Vm} {T : State} {h : Heap} {cells slots : Nat}
/-- from A the run comes to B -/
def Go (p : Program) (e : Env) (below : List Frame) (A B : State) : Prop := ∀ t, Steps p.tables e below B t → Steps p.tables e below A t
theorem Go.refl (A : State) : Go p e below A A := fun _ k => k
theorem Go.trans {A B C : State} (x : Go p e below A B) (y : Go p e below B C) : Go p e below A C := fun t k => x t (y t k)
/-- the places in L lie in cells of ws, or in cells made since (at or above k) -/
def FrW (ws : List Addr) (k : Nat) (L : List Loc) : Prop := ∀ y ∈ L, y.base ∈ ws ∨ k ≤ y.base
theorem FrW.nil (ws : List Addr) (k : Nat) : FrW ws k [] := fun _ q => nomatch q
theorem FrW.app {ws : List Addr} {k : Nat} {L L' : List Loc} (N : FrW ws k L) (N' : FrW ws k L') : FrW ws k (L ++ L') := fun y q => (List.mem_append.mp q).elim (N y) (N' y)
theorem FrW.one {ws : List Addr} {k : Nat} {a : Addr} {sl : Nat} (q : a ∈ ws ∨ k ≤ a) : FrW ws k [⟨a, sl⟩] := fun y hy => by cases List.mem_singleton.mp hy; exact q
theorem FrW.fr {ws : List Addr} {k n : Nat} {L : List Loc} (N : FrW ws k L) (h1 : ∀ x ∈ ws, n ≤ x) (h2 : n ≤ k) : Fr n L := fun y hy => (N y hy).elim (h1 _) (Nat.le_trans h2)
/-- where a walk stands: wd = true: it may have interned. h0: the heap at the method's start; ws: the cells of h0 that it may have written; n0: the heap's size at the law's start; vm: the tables of the last step that may have interned -/
def Wk (wd : Bool) (p : Program) (l : Launch) (e : Env) (R : Room) (s : State) (m : MethodId) (args : Array Value) (below : List Frame) (meth : Method) (c : Code) (own : String) (Z : State) (n0 : Nat) (h0 : Heap) (ws : List Addr) (vm : Vm) (T : State) (h : Heap) (cells slots : Nat) : Prop :=
  T.heap = h ∧ p.tables.exec = Jvm.exec ∧ Old Z n0 h ∧ n0 ≤ h0.size ∧ (∀ x ∈ ws, n0 ≤ x) ∧ Keep h0 h ws ∧ s.heap = h0 ∧ Z.Warmed39 vm ∧ vm.findClass own = some m.cls ∧ (wd = false → vm = s.vm) ∧
  ∃ (locs : List Loc) (k : Nat), FrW ws h0.size locs ∧ Stand p l e R (s.setVm vm) m args below meth c T locs cells slots ∧ s.Since vm k ∧ k ≤ h.size
theorem Wk.stand (K : Wk wd p l e R s m args below meth c own Z n0 h0 ws vm T h cells slots) {P : Prop} (f : ∀ (locs : List Loc) (s' : State), Stand p l e R s' m args below meth c T locs cells slots → p.tables.exec = Jvm.exec → Z.Warmed39 s'.vm → s'.vm.findClass own = some m.cls → T.heap = h → P) : P := by
  obtain ⟨e1, hx, O, hn, hw, Kp, hs0, hZ, ho, hv, locs, k, F, X, S, hk⟩ := K
  exact f locs (s.setVm vm) X hx hZ ho e1
theorem Wk.here (K : Wk wd p l e R s m args below meth c own Z n0 h0 ws vm T h cells slots) : At T m c below := K.stand fun _ _ X _ _ _ _ => X.here
theorem Wk.exec (K : Wk wd p l e R s m args below meth c own Z n0 h0 ws vm T h cells slots) : p.tables.exec = Jvm.exec := K.2.1
theorem Wk.old (K : Wk wd p l e R s m args below meth c own Z n0 h0 ws vm T h cells slots) : Old Z n0 h := K.2.2.1
theorem Wk.ext (K : Wk wd p l e R s m args below meth c own Z n0 h0 ws vm T h cells slots) : Ext Z.heap h := K.2.2.1.2
theorem Wk.keep (K : Wk wd p l e R s m args below meth c own Z n0 h0 ws vm T h cells slots) : Keep h0 h ws := K.2.2.2.2.2.1
theorem Wk.fresh (K : Wk wd p l e R s m args below meth c own Z n0 h0 ws vm T h cells slots) {x : Addr} (q : x ∈ ws ∨ h0.size ≤ x) : n0 ≤ x := q.elim (K.2.2.2.2.1 x) (Nat.le_trans K.2.2.2.1)
theorem Wk.more (K : Wk wd p l e R s m args below meth c own Z n0 h0 ws vm T h cells slots) {cells' slots' : Nat} (hc : cells ≤ cells') (hs : slots ≤ slots') : Wk wd p l e R s m args below meth c own Z n0 h0 ws vm T h cells' slots' := by
  obtain ⟨e1, hx, O, hn, hw, Kp, hs0, hZ, ho, hv, locs, k, F, X, S, hk⟩ := K
  exact ⟨e1, hx, O, hn, hw, Kp, hs0, hZ, ho, hv, locs, k, F, X.more hc hs, S, hk⟩
theorem Wk.weaken (K : Wk wd p l e R s m args below meth c own Z n0 h0 [] vm T h cells slots) (ws' : List Addr) (q : ∀ x ∈ ws', n0 ≤ x) : Wk wd p l e R s m args below meth c own Z n0 h0 ws' vm T h cells slots := by
  obtain ⟨e1, hx, O, hn, hw, Kp, hs0, hZ, ho, hv, locs, k, F, X, S, hk⟩ := K
  exact ⟨e1, hx, O, hn, q, ⟨Kp.1, fun x c u _ => Kp.2.1 x c u nin0, Kp.2.2⟩, hs0, hZ, ho, hv, locs, k, fun y hy => (F y hy).elim (fun u => nomatch u) Or.inr, X, S, hk⟩
/-- a step that writes and makes nothing in the heap -/
theorem Wk.pure (K : Wk wd p l e R s m args below meth c own Z n0 h0 ws vm T h cells slots) {P : State → Prop}
    (f : ∀ (locs : List Loc) (s' : State), Stand p l e R s' m args below meth c T locs cells slots → p.tables.exec = Jvm.exec → Z.Warmed39 s'.vm → s'.vm.findClass own = some m.cls → T.heap = h → ∃ T', Stand p l e R s' m args below meth c T' locs cells slots ∧ T'.heap = h ∧ P T') :
    ∃ T', Wk wd p l e R s m args below meth c own Z n0 h0 ws vm T' h cells slots ∧ P T' := by
  obtain ⟨e1, hx, O, hn, hw, Kp, hs0, hZ, ho, hv, locs, k, F, X, S, hk⟩ := K
  obtain ⟨T', X', e', q⟩ := f locs (s.setVm vm) X hx hZ ho e1
  exact ⟨T', ⟨e', hx, O, hn, hw, Kp, hs0, hZ, ho, hv, locs, k, F, X', S, hk⟩, q⟩
/-- a step that makes a cell -/
theorem Wk.made (K : Wk wd p l e R s m args below meth c own Z n0 h0 ws vm T h cells slots) {cells' slots' : Nat} {P : State → Heap → Prop}
    (f : ∀ (locs : List Loc) (s' : State), Stand p l e R s' m args below meth c T locs cells slots → p.tables.exec = Jvm.exec → Z.Warmed39 s'.vm → s'.vm.findClass own = some m.cls → T.heap = h → ∃ T' h', Stand p l e R s' m args below meth c T' locs cells' slots' ∧ T'.heap = h' ∧ Ext h h' ∧ P T' h') :
    ∃ T' h', Wk wd p l e R s m args below meth c own Z n0 h0 ws vm T' h' cells' slots' ∧ Ext h h' ∧ h0.size ≤ h.size ∧ P T' h' := by
  obtain ⟨e1, hx, O, hn, hw, Kp, hs0, hZ, ho, hv, locs, k, F, X, S, hk⟩ := K
  obtain ⟨T', h', X', e', E, q⟩ := f locs (s.setVm vm) X hx hZ ho e1
  exact ⟨T', h', ⟨e', hx, O.ext E, hn, hw, Kp.ext E, hs0, hZ, ho, hv, locs, k, F, X', S, Nat.le_trans hk E.1⟩, E, Kp.1, q⟩
/-- a step that writes one place -/
theorem Wk.wrote (K : Wk wd p l e R s m args below meth c own Z n0 h0 ws vm T h cells slots) {a : Addr} {sl : Nat} {v : Value} (q : a ∈ ws ∨ h0.size ≤ a) {P : State → Heap → Prop}
    (f : ∀ (locs : List Loc) (s' : State), Stand p l e R s' m args below meth c T locs cells slots → p.tables.exec = Jvm.exec → Z.Warmed39 s'.vm → s'.vm.findClass own = some m.cls → T.heap = h → ∃ T' h', Stand p l e R s' m args below meth c T' (locs ++ [⟨a, sl⟩]) cells slots ∧ T'.heap = h' ∧ Wr h h' a sl v ∧ P T' h') :
    ∃ T' h', Wk wd p l e R s m args below meth c own Z n0 h0 ws vm T' h' cells slots ∧ Wr h h' a sl v ∧ P T' h' := by
  have g := K.fresh q
  obtain ⟨e1, hx, O, hn, hw, Kp, hs0, hZ, ho, hv, locs, k, F, X, S, hk⟩ := K
  obtain ⟨T', h', X', e', W, u⟩ := f locs (s.setVm vm) X hx hZ ho e1
  exact ⟨T', h', ⟨e', hx, O.wr W g, hn, hw, Kp.wr W q, hs0, hZ, ho, hv, _, k, F.app (FrW.one q), X', S, by rw [W.size]; exact hk⟩, W, u⟩
theorem Wk.getF (K : Wk wd p l e R s m args below meth c own Z n0 h0 ws vm T h cells slots) {R0 O n d : String} (host : String) {index : Nat} (w : (Cond.fieldLink own index R0 n d).before a0 Z = true ∨ (Cond.fieldLinkNest own index R0 n d host).before a0 Z = true) (via : Via Z R0 O n d) {a : Addr} {v : Value} (F : Fld Z h a O n d v)
    {pc : Nat} {Ls : Array Slot} {rest : List Value} (hd : decode c.code pc = .ok (.getfield index, 3)) :
    ∃ T', Wk wd p l e R s m args below meth c own Z n0 h0 ws vm T' h cells slots ∧ Go p e below (T.setTop (mkF m pc Ls (.ref a :: rest))) (T'.setTop (mkF m (pc + 3) Ls (v :: rest))) :=
  K.pure fun _ _ X hx hZ ho e1 => RoadKit.getF X hx hZ ho w via e1 F (g := mkF m pc Ls (.ref a :: rest)) rfl rfl hd
theorem Wk.getS (K : Wk wd p l e R s m args below meth c own Z n0 h0 ws vm T h cells slots) {R0 O n d : String} (host : String) {index : Nat} (w : (Cond.fieldLink own index R0 n d).before a0 Z = true ∨ (Cond.fieldLinkNest own index R0 n d host).before a0 Z = true) (via : Via Z R0 O n d) {v : Value} (F : Sta Z h O n d v)
    {pc : Nat} {Ls : Array Slot} {rest : List Value} (hd : decode c.code pc = .ok (.getstatic index, 3)) :
    ∃ T', Wk wd p l e R s m args below meth c own Z n0 h0 ws vm T' h cells slots ∧ Go p e below (T.setTop (mkF m pc Ls rest)) (T'.setTop (mkF m (pc + 3) Ls (v :: rest))) :=
  K.pure fun _ _ X hx hZ ho e1 => RoadKit.getS2 X hx hZ ho w via e1 F (g := mkF m pc Ls rest) rfl hd
theorem Wk.putF (K : Wk wd p l e R s m args below meth c own Z n0 h0 ws vm T h cells slots) {R0 O n d C : String} (host : String) {index kk : Nat} {ty : FieldType} (w : (Cond.fieldLink own index R0 n d).before a0 Z = true ∨ (Cond.fieldLinkNest own index R0 n d host).before a0 Z = true) (via : Via Z R0 O n d) {a : Addr} {v old : Value} (F : Fld Z h a O n d old) (E : Exa Z h a C)
    (L : (Cond.lays C O n d).before a0 Z = true ∨ ((Cond.laysFinal C O n d).before a0 Z = true ∧ own = O ∧ meth.name = "<init>")) (wi : (Cond.instantiable C kk).before a0 Z = true) (hty : parseFieldDescriptor d = some ty) (hn : narrow ty v = v) (hf : fits ty v = true) (q : a ∈ ws ∨ h0.size ≤ a)
    {pc : Nat} {Ls : Array Slot} {rest : List Value} (hd : decode c.code pc = .ok (.putfield index, 3)) :
    ∃ T' h', Wk wd p l e R s m args below meth c own Z n0 h0 ws vm T' h' cells slots ∧ Wr h h' a (RoadKit.slotOf Z O n d) v ∧ Go p e below (T.setTop (mkF m pc Ls (v :: .ref a :: rest))) (T'.setTop (mkF m (pc + 3) Ls rest)) :=
  K.wrote q fun _ _ X hx hZ ho e1 => RoadKit.putF X hx hZ ho w via e1 F E L wi hty hn hf (g := mkF m pc Ls (v :: .ref a :: rest)) rfl rfl hd
theorem Wk.initO (K : Wk wd p l e R s m args below meth c own Z n0 h0 ws vm T h cells slots) {idx : Nat} (w1 : (Cond.methodLink own idx Lib.objectInit).before a0 Z = true) (w2 : (Cond.instanceMethod Lib.objectInit).before a0 Z = true) (w3 : (Cond.code Lib.objectInit ⟨#[0xb1]⟩ 1 none).before a0 Z = true)
    {a : Addr} {pc : Nat} {Ls : Array Slot} {rest : List Value} (hsz : Ls.size = c.maxLocals) (hd : decode c.code pc = .ok (.invokespecial idx, 3)) (hf : 1 ≤ R.frames) {W : Nat} (hW : (rest.map fun v => v.category).sum ≤ W) (hl : W + 12 ≤ R.locals) :
    ∃ T', Wk wd p l e R s m args below meth c own Z n0 h0 ws vm T' h cells slots ∧ Go p e below (T.setTop (mkF m pc Ls (.ref a :: rest))) (T'.setTop (mkF m (pc + 3) Ls rest)) :=
  K.pure fun _ _ X hx hZ ho e1 => RoadKit.initO X hx hZ ho w1 w2 w3 e1 (g := mkF m pc Ls (.ref a :: rest)) rfl hsz rfl hd hf (W := W) (by show 2 * 0 + _ ≤ _; simpa using hW) hl
theorem Wk.castY (K : Wk wd p l e R s m args below meth c own Z n0 h0 ws vm T h cells slots) {C : String} {index : Nat} (w : (Cond.classLink own index C).before a0 Z = true) {a : Addr} (F : Ins Z h a C true) {pc : Nat} {Ls : Array Slot} {rest : List Value} (hd : decode c.code pc = .ok (.checkcast index, 3)) :
    ∃ T', Wk wd p l e R s m args below meth c own Z n0 h0 ws vm T' h cells slots ∧ Go p e below (T.setTop (mkF m pc Ls (.ref a :: rest))) (T'.setTop (mkF m (pc + 3) Ls (.ref a :: rest))) :=
  K.pure fun _ _ X hx hZ ho e1 => RoadKit.castY X hx hZ ho w e1 F (g := mkF m pc Ls (.ref a :: rest)) rfl rfl hd
theorem Wk.instY (K : Wk wd p l e R s m args below meth c own Z n0 h0 ws vm T h cells slots) {C : String} {index : Nat} (w : (Cond.classLink own index C).before a0 Z = true) {a : Addr} (F : Ins Z h a C true) {pc : Nat} {Ls : Array Slot} {rest : List Value} (hd : decode c.code pc = .ok (.instanceof index, 3)) :
    ∃ T', Wk wd p l e R s m args below meth c own Z n0 h0 ws vm T' h cells slots ∧ Go p e below (T.setTop (mkF m pc Ls (.ref a :: rest))) (T'.setTop (mkF m (pc + 3) Ls (.int 1 :: rest))) :=
  K.pure fun _ _ X hx hZ ho e1 => RoadKit.instY X hx hZ ho w e1 F (g := mkF m pc Ls (.ref a :: rest)) rfl rfl hd
theorem Wk.instNo (K : Wk wd p l e R s m args below meth c own Z n0 h0 ws vm T h cells slots) {C D : String} {index : Nat} (w : (Cond.classLink own index C).before a0 Z = true) {a : Addr} (E : Exa Z h a D) (F : ∃ c t, Z.vm.findClass D = some c ∧ Z.vm.findClass C = some t ∧ Z.vm.assignable c t = false) {pc : Nat} {Ls : Array Slot} {rest : List Value} (hd : decode c.code pc = .ok (.instanceof index, 3)) :
    ∃ T', Wk wd p l e R s m args below meth c own Z n0 h0 ws vm T' h cells slots ∧ Go p e below (T.setTop (mkF m pc Ls (.ref a :: rest))) (T'.setTop (mkF m (pc + 3) Ls (.int 0 :: rest))) :=
  K.pure fun _ _ X hx hZ ho e1 => RoadKit.instNo X hx hZ ho w e1 E F (g := mkF m pc Ls (.ref a :: rest)) rfl rfl hd
theorem Wk.instNull (K : Wk wd p l e R s m args below meth c own Z n0 h0 ws vm T h cells slots) {index : Nat} {pc : Nat} {Ls : Array Slot} {rest : List Value} (hd : decode c.code pc = .ok (.instanceof index, 3)) :
    Go p e below (T.setTop (mkF m pc Ls (.null :: rest))) (T.setTop (mkF m (pc + 3) Ls (.int 0 :: rest))) := by
  exact K.stand fun _ _ X hx _ _ _ => X.instanceofNull hx (g := mkF m pc Ls (.null :: rest)) rfl rfl hd
theorem Wk.newO (K : Wk wd p l e R s m args below meth c own Z n0 h0 ws vm T h cells slots) {C : String} {index n : Nat} (w : (Cond.classLink own index C).before a0 Z = true) (wi : (Cond.instantiable C n).before a0 Z = true) (wz : (Cond.initialized C).before a0 Z = true)
    {pc : Nat} {Ls : Array Slot} {rest : List Value} (hd : decode c.code pc = .ok (.new index, 3)) (hc : cells + 1 ≤ R.cells) (hl : slots + n ≤ R.slots) :
    ∃ T' h' a, Wk wd p l e R s m args below meth c own Z n0 h0 ws vm T' h' (cells + 1) (slots + n) ∧ Ext h h' ∧ h0.size ≤ a ∧ h.size ≤ a ∧ (∀ x, x < h.size → x ≠ a) ∧ Exa Z h' a C ∧
      (∀ {O nm d : String} {ty : FieldType}, Laid Z a0 C O nm d → parseFieldDescriptor d = some ty → Fld Z h' a O nm d (defaultValue ty)) ∧ Go p e below (T.setTop (mkF m pc Ls rest)) (T'.setTop (mkF m (pc + 3) Ls (.ref a :: rest))) := by
  obtain ⟨T', h', K', E, g, A, D, st⟩ := K.made (P := fun T' h' => Exa Z h' h.size C ∧ (∀ {O nm d : String} {ty : FieldType}, Laid Z a0 C O nm d → parseFieldDescriptor d = some ty → Fld Z h' h.size O nm d (defaultValue ty)) ∧ Go p e below (T.setTop (mkF m pc Ls rest)) (T'.setTop (mkF m (pc + 3) Ls (.ref h.size :: rest))))
    fun _ _ X hx hZ ho e1 => by
      obtain ⟨T', h', X', e', E, A, D, -, st⟩ := RoadKit.newO X hx hZ ho w wi wz e1 (g := mkF m pc Ls rest) rfl hd hc hl
      exact ⟨T', h', X', e', E, A, D, st⟩
  exact ⟨T', h', h.size, K', E, g, Nat.le_refl _, fun x q => Nat.ne_of_lt q, A, D, st⟩
theorem Wk.newP (K : Wk wd p l e R s m args below meth c own Z n0 h0 ws vm T h cells slots) {aty : ArrayType} (w : (Cond.arrayClass (newarray.typeOf aty)).before a0 Z = true) {n : Int32} {pc : Nat} {Ls : Array Slot} {rest : List Value} (hd : decode c.code pc = .ok (.newarray aty, 2)) (cap : Nat) (hn : ¬ n < 0) (hcap : n.toNatClampNeg ≤ cap) (hb : cap * 8 ≤ 536870912) (hc : cells + 1 ≤ R.cells) (hl : slots + cap ≤ R.slots) :
    ∃ T' h' a cA, Wk wd p l e R s m args below meth c own Z n0 h0 ws vm T' h' (cells + 1) (slots + cap) ∧ Ext h h' ∧ h0.size ≤ a ∧ h.size ≤ a ∧ (∀ x, x < h.size → x ≠ a) ∧ Arv Z h' a cA (newarray.typeOf aty) n [] (defaultValue (newarray.typeOf aty)) ∧ Go p e below (T.setTop (mkF m pc Ls (.int n :: rest))) (T'.setTop (mkF m (pc + 2) Ls (.ref a :: rest))) := by
  obtain ⟨T', h', K', E, g, cA, A, st⟩ := K.made (P := fun T' h' => ∃ cA, Arr Z h' h.size (newA cA (newarray.typeOf aty) n) (newarray.typeOf aty) ∧ Go p e below (T.setTop (mkF m pc Ls (.int n :: rest))) (T'.setTop (mkF m (pc + 2) Ls (.ref h.size :: rest))))
    fun _ _ X hx hZ ho e1 => by
      obtain ⟨T', h', cA, X', e', E, A, st⟩ := RoadKit.newP X hx hZ w e1 (g := mkF m pc Ls (.int n :: rest)) rfl hd rfl hn hcap hb hc hl
      exact ⟨T', h', X', e', E, cA, A, st⟩
  exact ⟨T', h', h.size, cA, K', E, g, Nat.le_refl _, fun x q => Nat.ne_of_lt q, Arv.new A hn, st⟩
theorem Wk.newR (K : Wk wd p l e R s m args below meth c own Z n0 h0 ws vm T h cells slots) {C : String} {index : Nat} (w1 : (Cond.classLink own index C).before a0 Z = true) (w2 : (Cond.arrayOver (.object C)).before a0 Z = true) {n : Int32} {pc : Nat} {Ls : Array Slot} {rest : List Value} (hd : decode c.code pc = .ok (.anewarray index, 3)) (cap : Nat) (hn : ¬ n < 0) (hcap : n.toNatClampNeg ≤ cap) (hb : cap * 8 ≤ 536870912) (hc : cells + 1 ≤ R.cells) (hl : slots + cap ≤ R.slots) {ad : String} (had : "[" ++ (FieldType.object C).toString = ad) :
    ∃ T' h' a cA, Wk wd p l e R s m args below meth c own Z n0 h0 ws vm T' h' (cells + 1) (slots + cap) ∧ Ext h h' ∧ h0.size ≤ a ∧ h.size ≤ a ∧ (∀ x, x < h.size → x ≠ a) ∧ Arv Z h' a cA (.object C) n [] .null ∧ Exa Z h' a ad ∧ Ovr Z cA C ∧ Go p e below (T.setTop (mkF m pc Ls (.int n :: rest))) (T'.setTop (mkF m (pc + 3) Ls (.ref a :: rest))) := by
  obtain ⟨T', h', K', E, g, cA, A, Ea, O, st⟩ := K.made (P := fun T' h' => ∃ cA, Arr Z h' h.size (newA cA (.object C) n) (.object C) ∧ Exa Z h' h.size ad ∧ Ovr Z cA C ∧ Go p e below (T.setTop (mkF m pc Ls (.int n :: rest))) (T'.setTop (mkF m (pc + 3) Ls (.ref h.size :: rest))))
    fun _ _ X hx hZ ho e1 => by
      obtain ⟨T', h', cA, X', e', E, A, Ea, O, st⟩ := RoadKit.newRE X hx hZ ho w1 w2 e1 (g := mkF m pc Ls (.int n :: rest)) rfl hd rfl hn hcap hb hc hl had
      exact ⟨T', h', X', e', E, cA, A, Ea, O, st⟩
  exact ⟨T', h', h.size, cA, K', E, g, Nat.le_refl _, fun x q => Nat.ne_of_lt q, Arv.new A hn, Ea, O, st⟩
theorem Wk.newRA (K : Wk wd p l e R s m args below meth c own Z n0 h0 ws vm T h cells slots) {C : String} {ty : FieldType} {index : Nat} (hC : (FieldType.array ty).toString = C) (w1 : (Cond.classLink own index C).before a0 Z = true) (w2 : (Cond.arrayOver (.array ty)).before a0 Z = true) {n : Int32} {pc : Nat} {Ls : Array Slot} {rest : List Value} (hd : decode c.code pc = .ok (.anewarray index, 3)) (cap : Nat) (hn : ¬ n < 0) (hcap : n.toNatClampNeg ≤ cap) (hb : cap * 8 ≤ 536870912) (hc : cells + 1 ≤ R.cells) (hl : slots + cap ≤ R.slots) {ad : String} (had : "[" ++ C = ad) :
    ∃ T' h' a cA, Wk wd p l e R s m args below meth c own Z n0 h0 ws vm T' h' (cells + 1) (slots + cap) ∧ Ext h h' ∧ h0.size ≤ a ∧ h.size ≤ a ∧ (∀ x, x < h.size → x ≠ a) ∧ Arv Z h' a cA (.array ty) n [] .null ∧ Exa Z h' a ad ∧ OvrA Z cA ty C ∧ Go p e below (T.setTop (mkF m pc Ls (.int n :: rest))) (T'.setTop (mkF m (pc + 3) Ls (.ref a :: rest))) := by
  obtain ⟨T', h', K', E, g, cA, A, Ea, O, st⟩ := K.made (P := fun T' h' => ∃ cA, Arr Z h' h.size (newA cA (.array ty) n) (.array ty) ∧ Exa Z h' h.size ad ∧ OvrA Z cA ty C ∧ Go p e below (T.setTop (mkF m pc Ls (.int n :: rest))) (T'.setTop (mkF m (pc + 3) Ls (.ref h.size :: rest))))
    fun _ _ X hx hZ ho e1 => by
      obtain ⟨T', h', cA, X', e', E, A, Ea, O, st⟩ := RoadKit.newRA X hx hZ ho hC w1 w2 e1 (g := mkF m pc Ls (.int n :: rest)) rfl hd rfl hn hcap hb hc hl had
      exact ⟨T', h', X', e', E, cA, A, Ea, O, st⟩
  exact ⟨T', h', h.size, cA, K', E, g, Nat.le_refl _, fun x q => Nat.ne_of_lt q, Arv.new A hn, Ea, O, st⟩
/-- stores into an array whose components are all known -/
theorem Wk.stC (K : Wk wd p l e R s m args below meth c own Z n0 h0 ws vm T h cells slots) {a : Addr} {cA : ClassId} {z : Int32} {vs : List Value} {dv : Value} (F : Arv Z h a cA .char z vs dv) {j x : Int32} (hj : ¬ j < 0 ∧ j < z) (i : Nat) (hi : j.toNatClampNeg = i) (hl : i < vs.length) (q : a ∈ ws ∨ h0.size ≤ a) {pc : Nat} {Ls : Array Slot} {rest : List Value} (hd : decode c.code pc = .ok (.castore, 1)) :
    ∃ T' h', Wk wd p l e R s m args below meth c own Z n0 h0 ws vm T' h' cells slots ∧ Wr h h' a j.toNatClampNeg (.int (nar .char x)) ∧ Arv Z h' a cA .char z (vs.set i (.int (nar .char x))) dv ∧ Go p e below (T.setTop (mkF m pc Ls (.int x :: .int j :: .ref a :: rest))) (T'.setTop (mkF m (pc + 1) Ls rest)) := by
  obtain ⟨cl, A, q1, S, q3, H, G⟩ := F
  obtain ⟨T', h', K', W, st⟩ := K.wrote q (P := fun T' h' => Go p e below (T.setTop (mkF m pc Ls (.int x :: .int j :: .ref a :: rest))) (T'.setTop (mkF m (pc + 1) Ls rest))) fun _ _ X hx hZ ho e1 => RoadKit.stC X hx hZ e1 A (inb_of S hj) (g := mkF m pc Ls (.int x :: .int j :: .ref a :: rest)) rfl rfl hd
  exact ⟨T', h', K', W, Arv.set A q1 S q3 H G (fits_nar_char x) W i hi hl, st⟩
theorem Wk.stB (K : Wk wd p l e R s m args below meth c own Z n0 h0 ws vm T h cells slots) {a : Addr} {cA : ClassId} {z : Int32} {vs : List Value} {dv : Value} (F : Arv Z h a cA .byte z vs dv) {j x : Int32} (hj : ¬ j < 0 ∧ j < z) (i : Nat) (hi : j.toNatClampNeg = i) (hl : i < vs.length) (q : a ∈ ws ∨ h0.size ≤ a) {pc : Nat} {Ls : Array Slot} {rest : List Value} (hd : decode c.code pc = .ok (.bastore, 1)) :
    ∃ T' h', Wk wd p l e R s m args below meth c own Z n0 h0 ws vm T' h' cells slots ∧ Wr h h' a j.toNatClampNeg (.int (nar .byte x)) ∧ Arv Z h' a cA .byte z (vs.set i (.int (nar .byte x))) dv ∧ Go p e below (T.setTop (mkF m pc Ls (.int x :: .int j :: .ref a :: rest))) (T'.setTop (mkF m (pc + 1) Ls rest)) := by
  obtain ⟨cl, A, q1, S, q3, H, G⟩ := F
  obtain ⟨T', h', K', W, st⟩ := K.wrote q (P := fun T' h' => Go p e below (T.setTop (mkF m pc Ls (.int x :: .int j :: .ref a :: rest))) (T'.setTop (mkF m (pc + 1) Ls rest))) fun _ _ X hx hZ ho e1 => RoadKit.stB X hx hZ e1 A (inb_of S hj) (g := mkF m pc Ls (.int x :: .int j :: .ref a :: rest)) rfl rfl hd
  exact ⟨T', h', K', W, Arv.set A q1 S q3 H G (fits_nar_byte x) W i hi hl, st⟩
theorem Wk.stI (K : Wk wd p l e R s m args below meth c own Z n0 h0 ws vm T h cells slots) {a : Addr} {cA : ClassId} {z : Int32} {vs : List Value} {dv : Value} (F : Arv Z h a cA .int z vs dv) {j x : Int32} (hj : ¬ j < 0 ∧ j < z) (i : Nat) (hi : j.toNatClampNeg = i) (hl : i < vs.length) (q : a ∈ ws ∨ h0.size ≤ a) {pc : Nat} {Ls : Array Slot} {rest : List Value} (hd : decode c.code pc = .ok (.iastore, 1)) :
    ∃ T' h', Wk wd p l e R s m args below meth c own Z n0 h0 ws vm T' h' cells slots ∧ Wr h h' a j.toNatClampNeg (.int x) ∧ Arv Z h' a cA .int z (vs.set i (.int x)) dv ∧ Go p e below (T.setTop (mkF m pc Ls (.int x :: .int j :: .ref a :: rest))) (T'.setTop (mkF m (pc + 1) Ls rest)) := by
  obtain ⟨cl, A, q1, S, q3, H, G⟩ := F
  obtain ⟨T', h', K', W, st⟩ := K.wrote q (P := fun T' h' => Go p e below (T.setTop (mkF m pc Ls (.int x :: .int j :: .ref a :: rest))) (T'.setTop (mkF m (pc + 1) Ls rest))) fun _ _ X hx hZ ho e1 => RoadKit.stI X hx hZ e1 A (inb_of S hj) (g := mkF m pc Ls (.int x :: .int j :: .ref a :: rest)) rfl rfl hd
  exact ⟨T', h', K', W, Arv.set A q1 S q3 H G rfl W i hi hl, st⟩
theorem Wk.stR (K : Wk wd p l e R s m args below meth c own Z n0 h0 ws vm T h cells slots) {a : Addr} {cA : ClassId} {ty : FieldType} {z : Int32} {vs : List Value} {dv : Value} (F : Arv Z h a cA ty z vs dv) (hty : ty.isReference = true) {j : Int32} {v : Value} (hv : fits ty v = true) (Sv : Sto Z h a v) (hj : ¬ j < 0 ∧ j < z) (i : Nat) (hi : j.toNatClampNeg = i) (hl : i < vs.length) (q : a ∈ ws ∨ h0.size ≤ a) {pc : Nat} {Ls : Array Slot} {rest : List Value} (hd : decode c.code pc = .ok (.aastore, 1)) :
    ∃ T' h', Wk wd p l e R s m args below meth c own Z n0 h0 ws vm T' h' cells slots ∧ Wr h h' a j.toNatClampNeg v ∧ Arv Z h' a cA ty z (vs.set i v) dv ∧ Go p e below (T.setTop (mkF m pc Ls (v :: .int j :: .ref a :: rest))) (T'.setTop (mkF m (pc + 1) Ls rest)) := by
  obtain ⟨cl, A, q1, S, q3, H, G⟩ := F
  obtain ⟨T', h', K', W, st⟩ := K.wrote q (P := fun T' h' => Go p e below (T.setTop (mkF m pc Ls (v :: .int j :: .ref a :: rest))) (T'.setTop (mkF m (pc + 1) Ls rest))) fun _ _ X hx hZ ho e1 => RoadKit.stR X hx hZ e1 A (inb_of S hj) hty Sv (g := mkF m pc Ls (v :: .int j :: .ref a :: rest)) rfl rfl hd
  exact ⟨T', h', K', W, Arv.set A q1 S q3 H G hv W i hi hl, st⟩
theorem Wk.len (K : Wk wd p l e R s m args below meth c own Z n0 h0 ws vm T h cells slots) {a : Addr} {cA : ClassId} {ty : FieldType} {z : Int32} {vs : List Value} {dv : Value} (F : Arv Z h a cA ty z vs dv) {pc : Nat} {Ls : Array Slot} {rest : List Value} (hd : decode c.code pc = .ok (.arraylength, 1)) :
    Go p e below (T.setTop (mkF m pc Ls (.ref a :: rest))) (T.setTop (mkF m (pc + 1) Ls (.int z :: rest))) := by
  obtain ⟨cl, A, q1, S, q3, H, G⟩ := F
  exact K.stand fun _ _ X hx hZ ho e1 t k => X.arraylength hx (by rw [e1]; exact A.1) (State.isArrayOf_alike hZ.alike A.2.1) (g := mkF m pc Ls (.ref a :: rest)) rfl rfl hd t (by rw [len_of S q3]; exact k)
theorem Wk.ldC (K : Wk wd p l e R s m args below meth c own Z n0 h0 ws vm T h cells slots) {a : Addr} {cA : ClassId} {z : Int32} {vs : List Value} {dv v : Value} (F : Arv Z h a cA .char z vs dv) {j : Int32} (hj : ¬ j < 0 ∧ j < z) (hv : vs.getD j.toNatClampNeg dv = v) {pc : Nat} {Ls : Array Slot} {rest : List Value} (hd : decode c.code pc = .ok (.caload, 1)) :
    Go p e below (T.setTop (mkF m pc Ls (.int j :: .ref a :: rest))) (T.setTop (mkF m (pc + 1) Ls (v :: rest))) := by
  obtain ⟨cl, A, q1, S, q3, H, G⟩ := F
  exact K.stand fun _ _ X hx hZ ho e1 t k => X.caload hx (by rw [e1]; exact A.1) (State.isArrayOf_alike hZ.alike A.2.1) A.2.2 (inb_of S hj) (Has.at H (inb_of S hj) hv) (g := mkF m pc Ls (.int j :: .ref a :: rest)) rfl rfl hd t k
theorem Wk.ldB (K : Wk wd p l e R s m args below meth c own Z n0 h0 ws vm T h cells slots) {a : Addr} {cA : ClassId} {z : Int32} {vs : List Value} {dv v : Value} (F : Arv Z h a cA .byte z vs dv) {j : Int32} (hj : ¬ j < 0 ∧ j < z) (hv : vs.getD j.toNatClampNeg dv = v) {pc : Nat} {Ls : Array Slot} {rest : List Value} (hd : decode c.code pc = .ok (.baload, 1)) :
    Go p e below (T.setTop (mkF m pc Ls (.int j :: .ref a :: rest))) (T.setTop (mkF m (pc + 1) Ls (v :: rest))) := by
  obtain ⟨cl, A, q1, S, q3, H, G⟩ := F
  exact K.stand fun _ _ X hx hZ ho e1 t k => X.baloadBytes hx (by rw [e1]; exact A.1) (State.isArrayOf_alike hZ.alike A.2.1) A.2.2 (inb_of S hj) (Has.at H (inb_of S hj) hv) (g := mkF m pc Ls (.int j :: .ref a :: rest)) rfl rfl hd t k
theorem Wk.ldI (K : Wk wd p l e R s m args below meth c own Z n0 h0 ws vm T h cells slots) {a : Addr} {cA : ClassId} {z : Int32} {vs : List Value} {dv v : Value} (F : Arv Z h a cA .int z vs dv) {j : Int32} (hj : ¬ j < 0 ∧ j < z) (hv : vs.getD j.toNatClampNeg dv = v) {pc : Nat} {Ls : Array Slot} {rest : List Value} (hd : decode c.code pc = .ok (.iaload, 1)) :
    Go p e below (T.setTop (mkF m pc Ls (.int j :: .ref a :: rest))) (T.setTop (mkF m (pc + 1) Ls (v :: rest))) := by
  obtain ⟨cl, A, q1, S, q3, H, G⟩ := F
  exact K.stand fun _ _ X hx hZ ho e1 t k => X.iaload hx (by rw [e1]; exact A.1) (State.isArrayOf_alike hZ.alike A.2.1) A.2.2 (inb_of S hj) (Has.at H (inb_of S hj) hv) (g := mkF m pc Ls (.int j :: .ref a :: rest)) rfl rfl hd t k
theorem Wk.ldR (K : Wk wd p l e R s m args below meth c own Z n0 h0 ws vm T h cells slots) {a : Addr} {cA : ClassId} {ty : FieldType} {z : Int32} {vs : List Value} {dv v : Value} (F : Arv Z h a cA ty z vs dv) (hty : ty.isReference = true) {j : Int32} (hj : ¬ j < 0 ∧ j < z) (hv : vs.getD j.toNatClampNeg dv = v) {pc : Nat} {Ls : Array Slot} {rest : List Value} (hd : decode c.code pc = .ok (.aaload, 1)) :
    Go p e below (T.setTop (mkF m pc Ls (.int j :: .ref a :: rest))) (T.setTop (mkF m (pc + 1) Ls (v :: rest))) := by
  obtain ⟨cl, A, q1, S, q3, H, G⟩ := F
  exact K.stand fun _ _ X hx hZ ho e1 t k => X.aaload hx (by rw [e1]; exact A.1) (State.isArrayOf_alike hZ.alike A.2.1) hty A.2.2 (inb_of S hj) (Has.at H (inb_of S hj) hv) (g := mkF m pc Ls (.int j :: .ref a :: rest)) rfl rfl hd t k
theorem Wk.ldcI (K : Wk wd p l e R s m args below meth c own Z n0 h0 ws vm T h cells slots) {index : Nat} {v : Int32} (w : (Cond.constant own index v).before a0 Z = true) {pc : Nat} {Ls : Array Slot} {rest : List Value} (hd : decode c.code pc = .ok (.ldc index, 2)) :
    Go p e below (T.setTop (mkF m pc Ls rest)) (T.setTop (mkF m (pc + 2) Ls (.int v :: rest))) :=
  K.stand fun _ _ X hx hZ ho e1 t k => X.ldcI hx ho (mvT hZ w) (g := mkF m pc Ls rest) rfl hd k
/-- what is said of the tables stays true of warmer ones -/
def VCl (V : Vm → Prop) : Prop := ∀ (s : State) (vm' : Vm), V s.vm → s.WarmedH vm' → V vm'
def VT : Vm → Prop := fun _ => True
theorem VT.cl : VCl VT := fun _ _ _ _ => trivial
/-- what pays a call: of either width; V: what must be known of the tables -/
def Pay (wd : Bool) (l : Launch) (R : Room) (p : Program) (e : Env) (below : List Frame) (args : Array Value) (y : MethodName) (len W : Nat) (Z : State) (h : Heap) (V : Vm → Prop) (as' : Array Value) (kc ks : Nat) (ws' : List Addr) (Q : Option Value → Heap → Vm → Prop) : Prop :=
  ∀ s' : State, Z.Warmed39 s'.vm → V s'.vm → (match wd with
    | false => Back l R p e below s' args y len W (fun A a => a = as' ∧ A.U.heap = h ∧ A.cells + kc ≤ R.cells ∧ A.slots + ks ≤ R.slots) (fun A _ v B => ∃ L, (Q v B.U.heap B.U.vm ∧ Keep h B.U.heap ws' ∧ FrW ws' h.size L) ∧ B.locs = A.locs ++ L ∧ B.cells = A.cells + kc ∧ B.slots = A.slots + ks)
    | true => BackS l R p e below s' args y len W (fun A a => a = as' ∧ A.U.heap = h ∧ A.cells + kc ≤ R.cells ∧ A.slots + ks ≤ R.slots) (fun A _ v B => ∃ L, (Q v B.U.heap B.U.vm ∧ Keep h B.U.heap ws' ∧ FrW ws' h.size L) ∧ B.locs = A.locs ++ L ∧ B.cells = A.cells + kc ∧ B.slots = A.slots + ks))
theorem Pay.ofBack {y : MethodName} {len W : Nat} {as' : Array Value} {kc ks : Nat} {ws' : List Addr} {V : Vm → Prop} {Q : Option Value → Heap → Vm → Prop} {Q0 : Option Value → Heap → List Loc → Prop}
    (f : ∀ s' : State, Z.Warmed39 s'.vm → Back l R p e below s' args y len W (fun A a => a = as' ∧ A.U.heap = h ∧ A.cells + kc ≤ R.cells ∧ A.slots + ks ≤ R.slots) (fun A _ v B => ∃ L, Q0 v B.U.heap L ∧ B.locs = A.locs ++ L ∧ B.cells = A.cells + kc ∧ B.slots = A.slots + ks))
    (hV : VCl V) (g : ∀ v h' vm' L, Q0 v h' L → V vm' → Q v h' vm' ∧ Keep h h' ws' ∧ FrW ws' h.size L) : Pay wd l R p e below args y len W Z h V as' kc ks ws' Q := by
  intro s' hZ hv
  have b : Back l R p e below s' args y len W (fun A a => a = as' ∧ A.U.heap = h ∧ A.cells + kc ≤ R.cells ∧ A.slots + ks ≤ R.slots) (fun A _ v B => A.U.heap = h ∧ ∃ L, (Q v B.U.heap B.U.vm ∧ Keep h B.U.heap ws' ∧ FrW ws' h.size L) ∧ B.locs = A.locs ++ L ∧ B.cells = A.cells + kc ∧ B.slots = A.slots + ks) := by
    intro m meth c A gg ig mk a X hg hsize hdg hW hn hp
    obtain ⟨v, B, X', ⟨L, q, r⟩, hst⟩ := f s' hZ m meth c A gg ig mk a X hg hsize hdg hW hn hp
    exact ⟨v, B, X', ⟨hp.2.1, L, g _ _ _ _ q (hV _ _ hv X'.warmed), r⟩, hst⟩
  cases wd
  · exact Back.mono b (fun A a hp => hp) (fun A a v B hp q => q.2)
  · have b' := BackS.of_back b (fun A a v B ⟨q, L, ⟨_, k, _⟩, _⟩ => by rw [q]; exact k.1)
    intro m meth c A gg ig mk a X hg hsize hdg hW hn hp
    obtain ⟨v, B, X', hS, hgr, hpost, hst⟩ := b' m meth c A gg ig mk a X hg hsize hdg hW hn hp
    exact ⟨v, B, X', hS, hgr, hpost.2, hst⟩
/-- a method's contract -/
def Ctr (wd : Bool) (l : Launch) (y : MethodName) (bytes : ByteArray) (maxL : Nat) (ret : Option FieldType) (rm : Room) (as' : Array Value) (Z : State) (h0 : Heap) (V : Vm → Prop) (ws : List Addr) (Q : Option Value → Heap → Vm → Prop) : Prop :=
  ∀ wds : List Jvm.Cond, MetFree l y (head1 (Cond.code y bytes maxL ret :: wds) rm) (fun a U => a = as' ∧ Z.Warmed39 U.vm ∧ U.heap = h0 ∧ V U.vm) (fun _ _ _ _ _ => True)
    (fun _ U o U' => ∃ v L, o = .returned v ∧ (Q v U'.heap U'.vm ∧ Keep h0 U'.heap ws ∧ FrW ws h0.size L) ∧ (match wd with | false => FrameEnd U o U' L rm.cells rm.slots | true => ReturnedEndW U o U' L rm.cells rm.slots))
theorem Ctr.pay {y : MethodName} {bytes : ByteArray} {maxL : Nat} {ret : Option FieldType} {rm : Room} {as' : Array Value} {ws' : List Addr} {V : Vm → Prop} {Q : Option Value → Heap → Vm → Prop} {len W : Nat} (H : Ctr wd l y bytes maxL ret rm as' Z h V ws' Q) (hV : VCl V)
    (wc : (Cond.code y bytes maxL ret).before a0 Z = true) (wz : (Cond.initialized y.cls).before a0 Z = true) (hf : rm.frames + 1 ≤ R.frames) (hl : W + (maxL + 11) + rm.locals ≤ R.locals) :
    Pay wd l R p e below args y len W Z h V as' rm.cells rm.slots ws' Q := by
  intro s' hZ hv
  have wa : ∀ (m : MethodId) (meth : Method) (c : Code) (A : Pt) (a : Array Value), Stand p l e R s' m args below meth c A.U A.locs A.cells A.slots → (a = as' ∧ A.U.heap = h ∧ A.cells + rm.cells ≤ R.cells ∧ A.slots + rm.slots ≤ R.slots) →
      (head1 [Cond.code y bytes maxL ret] rm).pre.before a A.U = true ∧ (Cond.code y bytes maxL ret).before a A.U = true ∧ (Cond.initialized y.cls).before a A.U = true ∧ A.cells + rm.cells ≤ R.cells ∧ A.slots + rm.slots ≤ R.slots := fun m meth c A a Y hp => by
    have hU : Z.Warmed39 A.U.vm := wtrans hZ Y.warmed
    exact ⟨by show (Cond.and _ .tt).before a A.U = true; rw [Cond.before_and, mv hU wc]; rfl, mv hU wc, mv hU wz, hp.2.2.1, hp.2.2.2⟩
  cases wd
  · exact Back.of_free (bytes := bytes) (maxL := maxL) (ret := ret) (E := fun _ _ o t L k n => k = rm.cells ∧ n = rm.slots ∧ ∃ v, o = .returned v ∧ (Q v t.heap t.vm ∧ Keep h t.heap ws' ∧ FrW ws' h.size L)) (H []) hf hl wa
      (fun m meth c A a g mk Y hp => ⟨hp.1, wtrans hZ Y.warmed, hp.2.1, hV _ _ hv Y.warmed⟩) (fun _ _ _ _ _ _ _ _ _ => trivial)
      (fun _ _ _ _ ⟨v, L, h1, h2, h3⟩ => ⟨L, _, _, h3, rfl, rfl, v, h1, h2⟩)
      (fun m meth c A a g mk v t L k n Y hp _ _ ⟨e1, e2, v', e3, e4⟩ => by cases e3; subst e1 e2; exact ⟨L, e4, rfl, rfl, rfl⟩)
  · exact BackS.of_freeW (bytes := bytes) (maxL := maxL) (ret := ret) (E := fun _ _ o t L k n => k = rm.cells ∧ n = rm.slots ∧ ∃ v, o = .returned v ∧ (Q v t.heap t.vm ∧ Keep h t.heap ws' ∧ FrW ws' h.size L)) (H []) hf hl wa
      (fun m meth c A a g mk Y hp => ⟨hp.1, wtrans hZ Y.warmed, hp.2.1, hV _ _ hv Y.warmed⟩) (fun _ _ _ _ _ _ _ _ _ => trivial)
      (fun _ _ _ _ ⟨v, L, h1, h2, h3⟩ => ⟨L, _, _, h3, rfl, rfl, v, h1, h2⟩)
      (fun m meth c A a g mk v t L k n Y hp _ _ ⟨e1, e2, v', e3, e4⟩ => by cases e3; subst e1 e2; exact ⟨L, e4, rfl, rfl, rfl⟩)
/-- a contract of a method that interns nothing pays in either width, and what is known of the tables stays -/
theorem Ctr.payW {wd' : Bool} {y : MethodName} {bytes : ByteArray} {maxL : Nat} {ret : Option FieldType} {rm : Room} {as' : Array Value} {ws' : List Addr} {V : Vm → Prop} {Q' : Option Value → Heap → Prop} {len W : Nat} (H : Ctr false l y bytes maxL ret rm as' Z h VT ws' (fun v h _ => Q' v h)) (hV : VCl V)
    (wc : (Cond.code y bytes maxL ret).before a0 Z = true) (wz : (Cond.initialized y.cls).before a0 Z = true) (hf : rm.frames + 1 ≤ R.frames) (hl : W + (maxL + 11) + rm.locals ≤ R.locals) :
    Pay wd' l R p e below args y len W Z h V as' rm.cells rm.slots ws' (fun v h vm => Q' v h ∧ V vm) :=
  Pay.ofBack (Q0 := fun v h' L => Q' v h' ∧ Keep h h' ws' ∧ FrW ws' h.size L) (fun s' hZ => Ctr.pay (wd := false) (V := VT) H VT.cl wc wz hf hl s' hZ trivial) hV (fun v h' vm' L q hv => ⟨⟨q.1, hv⟩, q.2⟩)
theorem Wk.behind (K : Wk wd p l e R s m args below meth c own Z n0 h0 ws vm T h cells slots) {kc ks : Nat} {ws' : List Addr} (q : ∀ x ∈ ws', x ∈ ws ∨ h0.size ≤ x) {P : State → Heap → Vm → Prop}
    (fN : wd = false → ∀ (locs : List Loc) (s' : State), s'.vm = vm → Stand p l e R s' m args below meth c T locs cells slots → Z.Warmed39 s'.vm → s'.vm.findClass own = some m.cls → ∃ T' L, Stand p l e R s' m args below meth c T' (locs ++ L) (cells + kc) (slots + ks) ∧ FrW ws' h.size L ∧ Keep h T'.heap ws' ∧ P T' T'.heap T'.vm)
    (fW : wd = true → ∀ (locs : List Loc) (s' : State), s'.vm = vm → Stand p l e R s' m args below meth c T locs cells slots → Z.Warmed39 s'.vm → s'.vm.findClass own = some m.cls → ∃ T' L, Stand p l e R (s'.setVm T'.vm) m args below meth c T' (locs ++ L) (cells + kc) (slots + ks) ∧ s'.Since T'.vm T'.heap.size ∧ T.heap.size ≤ T'.heap.size ∧ FrW ws' h.size L ∧ Keep h T'.heap ws' ∧ P T' T'.heap T'.vm) :
    ∃ vm' vq T' h', Wk wd p l e R s m args below meth c own Z n0 h0 ws vm' T' h' (cells + kc) (slots + ks) ∧ Keep h h' ws' ∧ (wd = true → vq = vm' ∧ (s.setVm vm).Warmed39 vm') ∧ P T' h' vq := by
  have fr := fun x hx => K.fresh (q x hx)
  obtain ⟨e1, hx, O, hn, hw, Kp, hs0, hZ, ho, hv, locs, k, F, X, S, hk⟩ := K
  have fw : ∀ L, FrW ws' h.size L → FrW ws h0.size L := fun L N y hy => (N y hy).elim (q _) fun u => Or.inr (Nat.le_trans Kp.1 u)
  cases wd
  · obtain ⟨T', L, X', FL, KK, u⟩ := fN rfl locs (s.setVm vm) rfl X hZ ho
    exact ⟨vm, T'.vm, T', _, ⟨rfl, hx, O.keep KK fr, hn, hw, Kp.trans KK q, hs0, hZ, ho, hv, _, k, F.app (fw _ FL), X', S, Nat.le_trans hk KK.1⟩, KK, (fun e => by cases e), u⟩
  · obtain ⟨T', L, X', S', gr, FL, KK, u⟩ := fW rfl locs (s.setVm vm) rfl X hZ ho
    refine ⟨T'.vm, T'.vm, T', _, ⟨rfl, hx, O.keep KK fr, hn, hw, Kp.trans KK q, hs0, State.Warmed39.trans (t := s.setVm vm) hZ S'.1, (S'.1.alike.findClass _ _).trans ho, (fun e => by cases e), _, _, F.app (fw _ FL), X', S.trans S' (Nat.le_trans hk ?_), Nat.le_refl _⟩, KK, fun _ => ⟨rfl, S'.1⟩, u⟩
    rw [← e1]; exact gr
theorem Wk.callS (K : Wk wd p l e R s m args below meth c own Z n0 h0 ws vm T h cells slots) {index : Nat} {y : MethodName} {bytes : ByteArray} {maxL : Nat} {ret : Option FieldType} (w1 : (Cond.methodLink own index y).before a0 Z = true) (w2 : (Cond.static y).before a0 Z = true) (w3 : (Cond.initialized y.cls).before a0 Z = true) (w4 : (Cond.code y bytes maxL ret).before a0 Z = true) (hy : y.cls ≠ "java/lang/invoke/MethodHandle" ∧ y.cls ≠ "java/lang/invoke/VarHandle") {W kc ks : Nat} {ws' : List Addr} {V : Vm → Prop} {Q : Option Value → Heap → Vm → Prop} {argsL rest : List Value} (P : Pay wd l R p e below args y 3 W Z h V argsL.toArray kc ks ws' Q) (hV : V vm)
    {pc : Nat} {Ls : Array Slot} {st : List Value} (hsz : Ls.size = c.maxLocals) (hlen : ∀ sig, parseMethodDescriptor y.desc = some sig → argsL.length = sig.parameters.length) (hstack : st = argsL.reverse ++ rest) (hW : (rest.map fun v => v.category).sum ≤ W) (hd : decode c.code pc = .ok (.invokestatic index, 3)) (hc : cells + kc ≤ R.cells) (hl : slots + ks ≤ R.slots) (q : ∀ x ∈ ws', x ∈ ws ∨ h0.size ≤ x) :
    ∃ v vm' vq T' h', Wk wd p l e R s m args below meth c own Z n0 h0 ws vm' T' h' (cells + kc) (slots + ks) ∧ Keep h h' ws' ∧ (wd = true → vq = vm' ∧ (s.setVm vm).Warmed39 vm') ∧ Q v h' vq ∧ Go p e below (T.setTop (mkF m pc Ls st)) (T'.setTop (mkF m (pc + 3) Ls (v.toList ++ rest))) := by
  have e1 := K.1
  have hx := K.2.1
  obtain ⟨vm', vq, T', h', K', KK, ev, v, hq, go⟩ := K.behind (kc := kc) (ks := ks) q (P := fun T' h' vq => ∃ v, Q v h' vq ∧ Go p e below (T.setTop (mkF m pc Ls st)) (T'.setTop (mkF m (pc + 3) Ls (v.toList ++ rest))))
    (fun hwd locs s' es X hZ ho => by
      subst hwd
      have hV' : V s'.vm := by rw [es]; exact hV
      obtain ⟨v, vm₁, ⟨T', L', k', n'⟩, -, X', ⟨L, ⟨hq, kk, fr⟩, l1, l2, l3⟩, st⟩ := Jvm.LawKit.callS X hx ho (mvT hZ w1) (mvT hZ w2) (mvT hZ w3) (mvT hZ w4) hy (P s' hZ hV') (g := mkF m pc Ls st) rfl hsz hlen hstack (by show 2 * 0 + _ ≤ _; simpa using hW) hd (fun _ _ => ⟨rfl, e1, hc, hl⟩)
      dsimp only [Pt.U, Pt.locs, Pt.cells, Pt.slots] at *
      subst l1 l2 l3
      exact ⟨T', L, X', fr, kk, v, hq, st⟩)
    (fun hwd locs s' es X hZ ho => by
      subst hwd
      have hV' : V s'.vm := by rw [es]; exact hV
      obtain ⟨v, vm₁, ⟨T', L', k', n'⟩, -, X', S', gr, ⟨L, ⟨hq, kk, fr⟩, l1, l2, l3⟩, st⟩ := RoadKit.callSS X hx ho (mvT hZ w1) (mvT hZ w2) (mvT hZ w3) (mvT hZ w4) hy (P s' hZ hV') (g := mkF m pc Ls st) rfl hsz hlen hstack (by show 2 * 0 + _ ≤ _; simpa using hW) hd (fun _ _ => ⟨rfl, e1, hc, hl⟩)
      dsimp only [Pt.U, Pt.locs, Pt.cells, Pt.slots] at *
      subst l1 l2 l3
      exact ⟨T', L, X', S', gr, fr, kk, v, hq, fun t k => st.trans k⟩)
  exact ⟨v, vm', vq, T', h', K', KK, ev, hq, go⟩
theorem Wk.callI (K : Wk wd p l e R s m args below meth c own Z n0 h0 ws vm T h cells slots) {index : Nat} {y : MethodName} {bytes : ByteArray} {maxL : Nat} (hy1 : y.name = "<init>") (w1 : (Cond.methodLink own index y).before a0 Z = true) (w2 : (Cond.instanceMethod y).before a0 Z = true) (w4 : (Cond.code y bytes maxL none).before a0 Z = true) (hy : y.cls ≠ "java/lang/invoke/MethodHandle" ∧ y.cls ≠ "java/lang/invoke/VarHandle") {W kc ks : Nat} {ws' : List Addr} {V : Vm → Prop} {Q : Option Value → Heap → Vm → Prop} {a : Addr} {argsL rest : List Value} (P : Pay wd l R p e below args y 3 W Z h V (.ref a :: argsL).toArray kc ks ws' Q) (hV : V vm)
    {pc : Nat} {Ls : Array Slot} {st : List Value} (hsz : Ls.size = c.maxLocals) (hlen : ∀ sig, parseMethodDescriptor y.desc = some sig → argsL.length = sig.parameters.length) (hstack : st = argsL.reverse ++ .ref a :: rest) (hW : (rest.map fun v => v.category).sum ≤ W) (hd : decode c.code pc = .ok (.invokespecial index, 3)) (hc : cells + kc ≤ R.cells) (hl : slots + ks ≤ R.slots) (q : ∀ x ∈ ws', x ∈ ws ∨ h0.size ≤ x) :
    ∃ v vm' vq T' h', Wk wd p l e R s m args below meth c own Z n0 h0 ws vm' T' h' (cells + kc) (slots + ks) ∧ Keep h h' ws' ∧ (wd = true → vq = vm' ∧ (s.setVm vm).Warmed39 vm') ∧ Q v h' vq ∧ Go p e below (T.setTop (mkF m pc Ls st)) (T'.setTop (mkF m (pc + 3) Ls (v.toList ++ rest))) := by
  have e1 := K.1
  have hx := K.2.1
  obtain ⟨vm', vq, T', h', K', KK, ev, v, hq, go⟩ := K.behind (kc := kc) (ks := ks) q (P := fun T' h' vq => ∃ v, Q v h' vq ∧ Go p e below (T.setTop (mkF m pc Ls st)) (T'.setTop (mkF m (pc + 3) Ls (v.toList ++ rest))))
    (fun hwd locs s' es X hZ ho => by
      subst hwd
      have hV' : V s'.vm := by rw [es]; exact hV
      obtain ⟨v, vm₁, ⟨T', L', k', n'⟩, -, X', ⟨L, ⟨hq, kk, fr⟩, l1, l2, l3⟩, st⟩ := X.specialBack hx hy1 ho (mvT hZ w1) (mvT hZ w2) (mvT hZ w4) hy (P s' hZ hV') (g := mkF m pc Ls st) rfl hsz (Steps.refl _) hlen hstack (by show 2 * 0 + _ ≤ _; simpa using hW) hd (fun _ _ => ⟨rfl, e1, hc, hl⟩)
      dsimp only [Pt.U, Pt.locs, Pt.cells, Pt.slots] at *
      subst l1 l2 l3
      exact ⟨T', L, X', fr, kk, v, hq, fun t k => st.trans k⟩)
    (fun hwd locs s' es X hZ ho => by
      subst hwd
      have hV' : V s'.vm := by rw [es]; exact hV
      obtain ⟨v, vm₁, ⟨T', L', k', n'⟩, -, X', S', gr, ⟨L, ⟨hq, kk, fr⟩, l1, l2, l3⟩, st⟩ := X.specialBackS hx hy1 ho (mvT hZ w1) (mvT hZ w2) (mvT hZ w4) hy (P s' hZ hV') (g := mkF m pc Ls st) rfl hsz (Steps.refl _) hlen hstack (by show 2 * 0 + _ ≤ _; simpa using hW) hd (fun _ _ => ⟨rfl, e1, hc, hl⟩)
      dsimp only [Pt.U, Pt.locs, Pt.cells, Pt.slots] at *
      subst l1 l2 l3
      exact ⟨T', L, X', S', gr, fr, kk, v, hq, fun t k => st.trans k⟩)
  exact ⟨v, vm', vq, T', h', K', KK, ev, hq, go⟩
theorem Wk.callV (K : Wk wd p l e R s m args below meth c own Z n0 h0 ws vm T h cells slots) {C : String} {index : Nat} {y z : MethodName} (w1 : (Cond.methodLink own index y).before a0 Z = true) (w2 : (Cond.declares y).before a0 Z = true) (w3 : (Cond.selects C y z).before a0 Z = true) (w5 : (∃ S, (Cond.superclass y.cls S).before a0 Z = true) ∨ (Cond.noSuperclass y.cls).before a0 Z = true ∨ y = z) (w4 : (Cond.instanceMethod z).before a0 Z = true) (hy : y.cls ≠ "java/lang/invoke/MethodHandle" ∧ y.cls ≠ "java/lang/invoke/VarHandle") {W kc ks : Nat} {ws' : List Addr} {V : Vm → Prop} {Q : Option Value → Heap → Vm → Prop} {a : Addr} (E : Exa Z h a C) {argsL rest : List Value} (P : Pay wd l R p e below args z 3 W Z h V (.ref a :: argsL).toArray kc ks ws' Q) (hV : V vm)
    {pc : Nat} {Ls : Array Slot} {st : List Value} (hsz : Ls.size = c.maxLocals) (hlen : ∀ sig, parseMethodDescriptor y.desc = some sig → argsL.length = sig.parameters.length) (hstack : st = argsL.reverse ++ .ref a :: rest) (hW : (rest.map fun v => v.category).sum ≤ W) (hd : decode c.code pc = .ok (.invokevirtual index, 3)) (hc : cells + kc ≤ R.cells) (hl : slots + ks ≤ R.slots) (q : ∀ x ∈ ws', x ∈ ws ∨ h0.size ≤ x) :
    ∃ v vm' vq T' h', Wk wd p l e R s m args below meth c own Z n0 h0 ws vm' T' h' (cells + kc) (slots + ks) ∧ Keep h h' ws' ∧ (wd = true → vq = vm' ∧ (s.setVm vm).Warmed39 vm') ∧ Q v h' vq ∧ Go p e below (T.setTop (mkF m pc Ls st)) (T'.setTop (mkF m (pc + 3) Ls (v.toList ++ rest))) := by
  have e1 := K.1
  have hx := K.2.1
  have nf : ∀ s' : State, Z.Warmed39 s'.vm → NotFace s' y := fun s' hZ => by
    rcases w5 with ⟨S, w5⟩ | w5 | rfl
    · exact nf_super (args := #[]) (mvT hZ w5)
    · exact nf_top (args := #[]) (mvT hZ w5)
    · exact notFace_of_selects (args := #[]) (mvT hZ w3)
  obtain ⟨vm', vq, T', h', K', KK, ev, v, hq, go⟩ := K.behind (kc := kc) (ks := ks) q (P := fun T' h' vq => ∃ v, Q v h' vq ∧ Go p e below (T.setTop (mkF m pc Ls st)) (T'.setTop (mkF m (pc + 3) Ls (v.toList ++ rest))))
    (fun hwd locs s' es X hZ ho => by
      subst hwd
      have hV' : V s'.vm := by rw [es]; exact hV
      obtain ⟨cB, kB, i1, i2, i3⟩ := isOf hZ e1 E
      obtain ⟨v, vm₁, ⟨T', L', k', n'⟩, -, X', ⟨L, ⟨hq, kk, fr⟩, l1, l2, l3⟩, st⟩ := X.virtualBack hx ho (mvT hZ w1) (mvT hZ w2) (nf s' hZ) (mvT hZ w3) (mvT hZ w4) hy (P s' hZ hV') i1 i3 (g := mkF m pc Ls st) rfl hsz (Steps.refl _) hlen hstack (by show 2 * 0 + _ ≤ _; simpa using hW) hd (fun _ _ => ⟨rfl, e1, hc, hl⟩)
      dsimp only [Pt.U, Pt.locs, Pt.cells, Pt.slots] at *
      subst l1 l2 l3
      exact ⟨T', L, X', fr, kk, v, hq, fun t k => st.trans k⟩)
    (fun hwd locs s' es X hZ ho => by
      subst hwd
      have hV' : V s'.vm := by rw [es]; exact hV
      obtain ⟨cB, kB, i1, i2, i3⟩ := isOf hZ e1 E
      obtain ⟨v, vm₁, ⟨T', L', k', n'⟩, -, X', S', gr, ⟨L, ⟨hq, kk, fr⟩, l1, l2, l3⟩, st⟩ := X.virtualBackS hx ho (mvT hZ w1) (mvT hZ w2) (nf s' hZ) (mvT hZ w3) (mvT hZ w4) hy (P s' hZ hV') i1 i3 (g := mkF m pc Ls st) rfl hsz (Steps.refl _) hlen hstack (by show 2 * 0 + _ ≤ _; simpa using hW) hd (fun _ _ => ⟨rfl, e1, hc, hl⟩)
      dsimp only [Pt.U, Pt.locs, Pt.cells, Pt.slots] at *
      subst l1 l2 l3
      exact ⟨T', L, X', S', gr, fr, kk, v, hq, fun t k => st.trans k⟩)
  exact ⟨v, vm', vq, T', h', K', KK, ev, hq, go⟩
theorem Wk.callF (K : Wk wd p l e R s m args below meth c own Z n0 h0 ws vm T h cells slots) {C : String} {index count : Nat} {y z : MethodName} (w1 : (Cond.methodLink own index y).before a0 Z = true) (w2 : (Cond.declares y).before a0 Z = true) (w3 : (Cond.interfaceMethod y.cls y.cls y.name y.desc).before a0 Z = true) (hfa : ((Cond.interfaceMethod y.cls y.cls y.name y.desc).onTables && (Cond.interfaceMethod y.cls y.cls y.name y.desc).keepsFace) = true) (w4 : (Cond.selects C y z).before a0 Z = true) (w5 : (Cond.instanceMethod z).before a0 Z = true) (w6 : (Cond.publicMethod z).before a0 Z = true) (w7 : (Cond.unhidden C y.name y.desc).before a0 Z = true) (w8 : (Cond.castable C y.cls).before a0 Z = true) (hy : y.cls ≠ "java/lang/invoke/MethodHandle" ∧ y.cls ≠ "java/lang/invoke/VarHandle") {W kc ks : Nat} {ws' : List Addr} {V : Vm → Prop} {Q : Option Value → Heap → Vm → Prop} {a : Addr} (E : Exa Z h a C) {argsL rest : List Value} (P : Pay wd l R p e below args z 5 W Z h V (.ref a :: argsL).toArray kc ks ws' Q) (hV : V vm)
    {pc : Nat} {Ls : Array Slot} {st : List Value} (hsz : Ls.size = c.maxLocals) (hlen : ∀ sig, parseMethodDescriptor y.desc = some sig → argsL.length = sig.parameters.length) (hstack : st = argsL.reverse ++ .ref a :: rest) (hW : (rest.map fun v => v.category).sum ≤ W) (hd : decode c.code pc = .ok (.invokeinterface index count, 5)) (hc : cells + kc ≤ R.cells) (hl : slots + ks ≤ R.slots) (q : ∀ x ∈ ws', x ∈ ws ∨ h0.size ≤ x) :
    ∃ v vm' vq T' h', Wk wd p l e R s m args below meth c own Z n0 h0 ws vm' T' h' (cells + kc) (slots + ks) ∧ Keep h h' ws' ∧ (wd = true → vq = vm' ∧ (s.setVm vm).Warmed39 vm') ∧ Q v h' vq ∧ Go p e below (T.setTop (mkF m pc Ls st)) (T'.setTop (mkF m (pc + 5) Ls (v.toList ++ rest))) := by
  have e1 := K.1
  have hx := K.2.1
  obtain ⟨vm', vq, T', h', K', KK, ev, v, hq, go⟩ := K.behind (kc := kc) (ks := ks) q (P := fun T' h' vq => ∃ v, Q v h' vq ∧ Go p e below (T.setTop (mkF m pc Ls st)) (T'.setTop (mkF m (pc + 5) Ls (v.toList ++ rest))))
    (fun hwd locs s' es X hZ ho => by
      subst hwd
      have hV' : V s'.vm := by rw [es]; exact hV
      obtain ⟨cB, kB, i1, i2, i3⟩ := isOf hZ e1 E
      obtain ⟨v, vm₁, ⟨T', L', k', n'⟩, -, X', ⟨L, ⟨hq, kk, fr⟩, l1, l2, l3⟩, st⟩ := X.interfaceBack hx ho (mvT hZ w1) (mvT hZ w2) (mvT hZ w3 hfa) (mvT hZ w4) (mvT hZ w5) (mvT hZ w6) (mvT hZ w7) (mvT hZ w8) hy (P s' hZ hV') i1 i2 i3 (g := mkF m pc Ls st) rfl hsz (Steps.refl _) hlen hstack (by show 2 * 0 + _ ≤ _; simpa using hW) hd (fun _ _ => ⟨rfl, e1, hc, hl⟩)
      dsimp only [Pt.U, Pt.locs, Pt.cells, Pt.slots] at *
      subst l1 l2 l3
      exact ⟨T', L, X', fr, kk, v, hq, fun t k => st.trans k⟩)
    (fun hwd locs s' es X hZ ho => by
      subst hwd
      have hV' : V s'.vm := by rw [es]; exact hV
      obtain ⟨cB, kB, i1, i2, i3⟩ := isOf hZ e1 E
      obtain ⟨v, vm₁, ⟨T', L', k', n'⟩, -, X', S', gr, ⟨L, ⟨hq, kk, fr⟩, l1, l2, l3⟩, st⟩ := X.interfaceBackS hx ho (mvT hZ w1) (mvT hZ w2) (mvT hZ w3 hfa) (mvT hZ w4) (mvT hZ w5) (mvT hZ w6) (mvT hZ w7) (mvT hZ w8) hy (P s' hZ hV') i1 i2 i3 (g := mkF m pc Ls st) rfl hsz (Steps.refl _) hlen hstack (by show 2 * 0 + _ ≤ _; simpa using hW) hd (fun _ _ => ⟨rfl, e1, hc, hl⟩)
      dsimp only [Pt.U, Pt.locs, Pt.cells, Pt.slots] at *
      subst l1 l2 l3
      exact ⟨T', L, X', S', gr, fr, kk, v, hq, fun t k => st.trans k⟩)
  exact ⟨v, vm', vq, T', h', K', KK, ev, hq, go⟩
/-- the method's end: T the last state, v what it returns -/
def Ret (p : Program) (e : Env) (below : List Frame) (m : MethodId) (T : State) (v : Option Value) (A : State) : Prop :=
  ∀ fs, (∀ (f : JFrame) (acts : List Action), f.method = m → f.locked = none → f.entered = [] → (doReturn e (T.setTop f) acts v).1 = T.setFrames fs) → Steps p.tables e below A (T.setFrames fs)
theorem Wk.retV (K : Wk wd p l e R s m args below meth c own Z n0 h0 ws vm T h cells slots) {A : State} {pc : Nat} {Ls : Array Slot} (S : Go p e below A (T.setTop (mkF m pc Ls []))) (hret : meth.sig.returnType = none) (hd : decode c.code pc = .ok (.return_, 1)) : Ret p e below m T none A := by
  intro fs hl
  exact K.stand fun _ _ X hx _ _ _ => S _ (X.returnOut hx hret hd hl)
theorem Wk.retW (K : Wk wd p l e R s m args below meth c own Z n0 h0 ws vm T h cells slots) {A : State} {pc : Nat} {Ls : Array Slot} {w : Value} {t : FieldType} {i : Instr} {rest : List Value} (S : Go p e below A (T.setTop (mkF m pc Ls (w :: rest)))) (hret : meth.sig.returnType = some t) (hn : narrow t w = w)
    (hi : (i = .ireturn ∧ (t = .int ∨ t = .boolean ∨ t = .byte ∨ t = .char ∨ t = .short) ∧ ∃ z, w = .int z) ∨ (i = .lreturn ∧ t = .long ∧ ∃ z, w = .long z) ∨ (i = .dreturn ∧ t = .double ∧ ∃ z, w = .double z) ∨ (i = .freturn ∧ t = .float ∧ ∃ z, w = .float z) ∨ (i = .areturn ∧ t.isReference = true ∧ w.isRef = true))
    (hd : decode c.code pc = .ok (i, 1)) : Ret p e below m T (some w) A := by
  intro fs hl
  exact K.stand fun _ _ X hx _ _ _ => S _ (retOut X hx hret hn hi hd hl)
theorem body {y : MethodName} {bytes : ByteArray} {maxL : Nat} {ret : Option FieldType} {rm : Room} {as' : Array Value} {V : Vm → Prop} {Q : Option Value → Heap → Vm → Prop} (hpl : plainFor y = true) (O0 : Old Z n0 h0) (hvr : ∀ v h vm, Q v h vm → ret = none → v = none) (hQ : ∀ v h, VCl (Q v h))
    (H : ∀ (p : Program) (e : Env) (s : State) (m : MethodId) (below : List Frame) (meth : Method) (c : Code) (T0 : State), c.code = bytes → c.maxLocals = maxL → meth.sig.returnType = ret → meth.name = y.name → V s.vm → Wk wd p l e rm s m as' below meth c y.cls Z n0 h0 [] s.vm T0 h0 0 0 →
      ∃ vm T h v cells slots, Wk wd p l e rm s m as' below meth c y.cls Z n0 h0 ws vm T h cells slots ∧ cells ≤ rm.cells ∧ slots ≤ rm.slots ∧ Q v h vm ∧ Ret p e below m T v (T0.setTop (entryFrame m as' maxL))) :
    Ctr wd l y bytes maxL ret rm as' Z h0 V ws Q := by
  intro wds
  refine MetFree.of_bodySF hpl hisR ?_
  intro p e s m args below meth c s₁ Bd hml0 hP hK
  obtain ⟨rfl, hZ, hh, hV0⟩ := hP
  have hown : s.vm.findClass y.cls = some m.cls := findClass_of_methodNamed Bd.named
  have hnm := (name_of_methodNamed Bd.named Bd.method).1
  have X0 : Stand p l e rm (s.setVm s.vm) m args below meth c s₁ [] 0 0 := Stand.of_body Bd
  have e0 : s₁.heap = h0 := by rw [← hh, Bd.state]; rfl
  have nle : n0 ≤ h0.size := by rw [← O0.1]; exact O0.2.1
  obtain ⟨vm, T, h, v, cells, slots, K, c1, c2, hq, rt⟩ := H p e s m below meth c s₁ Bd.bytes hml0 Bd.returns hnm hV0 ⟨e0, Bd.exec, O0, nle, all0, Keep.refl _ _, hh, hZ, hown, fun _ => rfl, [], 0, FrW.nil _ _, X0, (State.WarmedH.refl s).since _, Nat.zero_le _⟩
  have hv : meth.sig.returnType = none → v = none := fun q => hvr v h vm hq (by rw [← Bd.returns]; exact q)
  have hlk := Bd.notSynchronized
  obtain ⟨e1, hx, O, hn, hw, Kp, hs0, hZ', ho, hvm, locs, k, F, X, S, hk⟩ := K
  subst e1
  have hq' := hQ v T.heap (s.setVm vm) T.vm hq X.warmed
  cases wd
  · obtain rfl := hvm rfl
    obtain ⟨fs, hr, hrun, hended, hW, hsame⟩ := X.leave (v := v) hv
    exact ⟨_, _, rt fs hr, hrun, hended, _, _, rfl, ⟨hq', Kp, F⟩, ⟨_, rfl⟩, hW, hsame.mono c1 c2⟩
  · obtain ⟨fs, hr, hrun, hended, hW⟩ := X.leaveW S hk (v := v) hv
    exact ⟨_, _, rt fs hr, hrun, hended, _, _, rfl, ⟨hq', Kp, F⟩, hW.1, hW.2.1, hW.2.2.1, hW.2.2.2.mono c1 c2⟩
end Kit
end Own
end Jvm.Pilot.@@N@@
namespace Jvm.Pilot.@@N@@
open Jvm Jvm.ClassFile Sem Op Lib Jvm.Free Jvm.Stand Jvm.LawKit Jvm.RoadKit Bundle Jvm.Pilot.@@N@@.Jvm.D
namespace Own.P
section Plain
variable {p : Program} {e : Env} {below : List Frame} {T : State} {m : MethodId} {c : Code} {pc : Nat} {Ls : Array Slot} {st : List Value}
theorem aloadN (H : At T m c below) (hx : p.tables.exec = Jvm.exec) {k : Fin 4} {v : Value} (hd : decode c.code pc = .ok (.aload_n k, 1)) (hl : Ls[k.val]? = some (.val v)) (hv : v.isRef = true) : Go p e below (T.setTop (mkF m pc Ls (st))) (T.setTop (mkF m (pc + 1) Ls (v :: st))) := fun t r => XS.aloadN H hx rfl hd hl hv r
theorem aload (H : At T m c below) (hx : p.tables.exec = Jvm.exec) {k : Nat} {v : Value} (hd : decode c.code pc = .ok (.aload k, 2)) (hl : Ls[k]? = some (.val v)) (hv : v.isRef = true) : Go p e below (T.setTop (mkF m pc Ls (st))) (T.setTop (mkF m (pc + 2) Ls (v :: st))) := fun t r => XS.aload H hx rfl hd hl hv r
theorem iloadN (H : At T m c below) (hx : p.tables.exec = Jvm.exec) {k : Fin 4} {v : Int32} (hd : decode c.code pc = .ok (.iload_n k, 1)) (hl : Ls[k.val]? = some (.val (.int v))) : Go p e below (T.setTop (mkF m pc Ls (st))) (T.setTop (mkF m (pc + 1) Ls (.int v :: st))) := fun t r => XS.iloadN H hx rfl hd hl r
theorem iload (H : At T m c below) (hx : p.tables.exec = Jvm.exec) {k : Nat} {v : Int32} (hd : decode c.code pc = .ok (.iload k, 2)) (hl : Ls[k]? = some (.val (.int v))) : Go p e below (T.setTop (mkF m pc Ls (st))) (T.setTop (mkF m (pc + 2) Ls (.int v :: st))) := fun t r => XS.iload H hx rfl hd hl r
theorem lloadN (H : At T m c below) (hx : p.tables.exec = Jvm.exec) {k : Fin 4} {v : Int64} (hd : decode c.code pc = .ok (.lload_n k, 1)) (hl : Ls[k.val]? = some (.val (.long v))) : Go p e below (T.setTop (mkF m pc Ls (st))) (T.setTop (mkF m (pc + 1) Ls (.long v :: st))) := fun t r => XT.lloadN H hx rfl hd hl r
theorem lload (H : At T m c below) (hx : p.tables.exec = Jvm.exec) {k : Nat} {v : Int64} (hd : decode c.code pc = .ok (.lload k, 2)) (hl : Ls[k]? = some (.val (.long v))) : Go p e below (T.setTop (mkF m pc Ls (st))) (T.setTop (mkF m (pc + 2) Ls (.long v :: st))) := fun t r => XT.lload H hx rfl hd hl r
theorem iconst (H : At T m c below) (hx : p.tables.exec = Jvm.exec) {i : Int} (v : Int32) (hd : decode c.code pc = .ok (.iconst i, 1)) (hv : Int32.ofInt i = v) : Go p e below (T.setTop (mkF m pc Ls (st))) (T.setTop (mkF m (pc + 1) Ls (.int v :: st))) := fun t r => XS.iconst H hx rfl hd (by rw [hv]; exact r)
theorem bipush (H : At T m c below) (hx : p.tables.exec = Jvm.exec) {i : Int} (v : Int32) (hd : decode c.code pc = .ok (.bipush i, 2)) (hv : (Int8.ofInt i).toInt32 = v) : Go p e below (T.setTop (mkF m pc Ls (st))) (T.setTop (mkF m (pc + 2) Ls (.int v :: st))) := fun t r => XS.bipush H hx rfl hd (by rw [hv]; exact r)
theorem sipush (H : At T m c below) (hx : p.tables.exec = Jvm.exec) {i : Int} (v : Int32) (hd : decode c.code pc = .ok (.sipush i, 3)) (hv : (Int16.ofInt i).toInt32 = v) : Go p e below (T.setTop (mkF m pc Ls (st))) (T.setTop (mkF m (pc + 3) Ls (.int v :: st))) := fun t r => XS.sipush H hx rfl hd (by rw [hv]; exact r)
theorem lconst (H : At T m c below) (hx : p.tables.exec = Jvm.exec) {k : Fin 2} (v : Int64) (hd : decode c.code pc = .ok (.lconst k, 1)) (hv : Int64.ofNat k = v) : Go p e below (T.setTop (mkF m pc Ls (st))) (T.setTop (mkF m (pc + 1) Ls (.long v :: st))) := fun t r => XT.lconst H hx rfl hd (by rw [hv]; exact r)
theorem null (H : At T m c below) (hx : p.tables.exec = Jvm.exec)  (hd : decode c.code pc = .ok (.aconst_null, 1))  : Go p e below (T.setTop (mkF m pc Ls (st))) (T.setTop (mkF m (pc + 1) Ls (.null :: st))) := fun t r => XS.aconstNull H hx rfl hd r
theorem dup (H : At T m c below) (hx : p.tables.exec = Jvm.exec) {x : Value} (hd : decode c.code pc = .ok (.dup, 1)) (hc : x.category = 1) : Go p e below (T.setTop (mkF m pc Ls (x :: st))) (T.setTop (mkF m (pc + 1) Ls (x :: x :: st))) := fun t r => XS.dup H hx rfl hd rfl hc r
theorem pop (H : At T m c below) (hx : p.tables.exec = Jvm.exec) {x : Value} (hd : decode c.code pc = .ok (.pop, 1)) (hc : x.category = 1) : Go p e below (T.setTop (mkF m pc Ls (x :: st))) (T.setTop (mkF m (pc + 1) Ls (st))) := fun t r => XT.pop H hx rfl hd rfl hc r
theorem iadd (H : At T m c below) (hx : p.tables.exec = Jvm.exec) {x y : Int32} (hd : decode c.code pc = .ok (.iadd, 1))  : Go p e below (T.setTop (mkF m pc Ls (.int y :: .int x :: st))) (T.setTop (mkF m (pc + 1) Ls (.int (x + y) :: st))) := fun t r => XS.iadd H hx rfl hd rfl r
theorem isub (H : At T m c below) (hx : p.tables.exec = Jvm.exec) {x y : Int32} (hd : decode c.code pc = .ok (.isub, 1))  : Go p e below (T.setTop (mkF m pc Ls (.int y :: .int x :: st))) (T.setTop (mkF m (pc + 1) Ls (.int (x - y) :: st))) := fun t r => XS.isub H hx rfl hd rfl r
theorem iand (H : At T m c below) (hx : p.tables.exec = Jvm.exec) {x y : Int32} (hd : decode c.code pc = .ok (.iand, 1))  : Go p e below (T.setTop (mkF m pc Ls (.int y :: .int x :: st))) (T.setTop (mkF m (pc + 1) Ls (.int (x &&& y) :: st))) := fun t r => XS.iand H hx rfl hd rfl r
theorem imul (H : At T m c below) (hx : p.tables.exec = Jvm.exec) {x y : Int32} (hd : decode c.code pc = .ok (.imul, 1))  : Go p e below (T.setTop (mkF m pc Ls (.int y :: .int x :: st))) (T.setTop (mkF m (pc + 1) Ls (.int (x * y) :: st))) := fun t r => XS.imul H hx rfl hd rfl r
theorem ixor (H : At T m c below) (hx : p.tables.exec = Jvm.exec) {x y : Int32} (hd : decode c.code pc = .ok (.ixor, 1))  : Go p e below (T.setTop (mkF m pc Ls (.int y :: .int x :: st))) (T.setTop (mkF m (pc + 1) Ls (.int (x ^^^ y) :: st))) := fun t r => XT.ixor H hx rfl hd rfl r
theorem ior (H : At T m c below) (hx : p.tables.exec = Jvm.exec) {x y : Int32} (hd : decode c.code pc = .ok (.ior, 1))  : Go p e below (T.setTop (mkF m pc Ls (.int y :: .int x :: st))) (T.setTop (mkF m (pc + 1) Ls (.int (x ||| y) :: st))) := fun t r => XT.ior H hx rfl hd rfl r
theorem ishl (H : At T m c below) (hx : p.tables.exec = Jvm.exec) {x y : Int32} (hd : decode c.code pc = .ok (.ishl, 1))  : Go p e below (T.setTop (mkF m pc Ls (.int y :: .int x :: st))) (T.setTop (mkF m (pc + 1) Ls (.int (x <<< (y &&& 31)) :: st))) := fun t r => XT.ishl H hx rfl hd rfl r
theorem ishr (H : At T m c below) (hx : p.tables.exec = Jvm.exec) {x y : Int32} (hd : decode c.code pc = .ok (.ishr, 1))  : Go p e below (T.setTop (mkF m pc Ls (.int y :: .int x :: st))) (T.setTop (mkF m (pc + 1) Ls (.int (x >>> (y &&& 31)) :: st))) := fun t r => XT.ishr H hx rfl hd rfl r
theorem iushr (H : At T m c below) (hx : p.tables.exec = Jvm.exec) {x y : Int32} (hd : decode c.code pc = .ok (.iushr, 1))  : Go p e below (T.setTop (mkF m pc Ls (.int y :: .int x :: st))) (T.setTop (mkF m (pc + 1) Ls (.int (XT.ushr x y) :: st))) := fun t r => XT.iushr H hx rfl hd rfl r
theorem ladd (H : At T m c below) (hx : p.tables.exec = Jvm.exec) {x y : Int64} (hd : decode c.code pc = .ok (.ladd, 1))  : Go p e below (T.setTop (mkF m pc Ls (.long y :: .long x :: st))) (T.setTop (mkF m (pc + 1) Ls (.long (x + y) :: st))) := fun t r => XT.ladd H hx rfl hd rfl r
theorem land (H : At T m c below) (hx : p.tables.exec = Jvm.exec) {x y : Int64} (hd : decode c.code pc = .ok (.land, 1))  : Go p e below (T.setTop (mkF m pc Ls (.long y :: .long x :: st))) (T.setTop (mkF m (pc + 1) Ls (.long (x &&& y) :: st))) := fun t r => XT.land H hx rfl hd rfl r
theorem lushr (H : At T m c below) (hx : p.tables.exec = Jvm.exec) {x : Int64} {y : Int32} (hd : decode c.code pc = .ok (.lushr, 1))  : Go p e below (T.setTop (mkF m pc Ls (.int y :: .long x :: st))) (T.setTop (mkF m (pc + 1) Ls (.long (XT.ushrL x y) :: st))) := fun t r => XT.lushr H hx rfl hd rfl r
theorem irem (H : At T m c below) (hx : p.tables.exec = Jvm.exec) {x y : Int32} (hd : decode c.code pc = .ok (.irem, 1)) (hy : y ≠ 0) : Go p e below (T.setTop (mkF m pc Ls (.int y :: .int x :: st))) (T.setTop (mkF m (pc + 1) Ls (.int (x % y) :: st))) := fun t r => XS.irem H hx rfl hd rfl hy (by rw [irem_eq_mod]; exact r)
theorem lcmp (H : At T m c below) (hx : p.tables.exec = Jvm.exec) {x y : Int64} (hd : decode c.code pc = .ok (.lcmp, 1))  : Go p e below (T.setTop (mkF m pc Ls (.long y :: .long x :: st))) (T.setTop (mkF m (pc + 1) Ls (.int (XT.cmpL x y) :: st))) := fun t r => XT.lcmp H hx rfl hd rfl r
theorem i2c (H : At T m c below) (hx : p.tables.exec = Jvm.exec) {x : Int32} (hd : decode c.code pc = .ok (.i2c, 1))  : Go p e below (T.setTop (mkF m pc Ls (.int x :: st))) (T.setTop (mkF m (pc + 1) Ls (.int (x.toUInt32.toUInt16.toUInt32.toInt32) :: st))) := fun t r => XT.i2c H hx rfl hd rfl r
theorem i2b (H : At T m c below) (hx : p.tables.exec = Jvm.exec) {x : Int32} (hd : decode c.code pc = .ok (.i2b, 1))  : Go p e below (T.setTop (mkF m pc Ls (.int x :: st))) (T.setTop (mkF m (pc + 1) Ls (.int (x.toInt8.toInt32) :: st))) := fun t r => XT.i2b H hx rfl hd rfl r
theorem i2l (H : At T m c below) (hx : p.tables.exec = Jvm.exec) {x : Int32} (hd : decode c.code pc = .ok (.i2l, 1))  : Go p e below (T.setTop (mkF m pc Ls (.int x :: st))) (T.setTop (mkF m (pc + 1) Ls (.long (x.toInt64) :: st))) := fun t r => XT.i2l H hx rfl hd rfl r
theorem l2i (H : At T m c below) (hx : p.tables.exec = Jvm.exec) {x : Int64} (hd : decode c.code pc = .ok (.l2i, 1))  : Go p e below (T.setTop (mkF m pc Ls (.long x :: st))) (T.setTop (mkF m (pc + 1) Ls (.int (x.toInt32) :: st))) := fun t r => XT.l2i H hx rfl hd rfl r
theorem istoreN (H : At T m c below) (hx : p.tables.exec = Jvm.exec) {k : Fin 4} {x : Int32} (l' : Array Slot) (hd : decode c.code pc = .ok (.istore_n k, 1)) (hl : storeLocals Ls k.val (.int x) = some l') : Go p e below (T.setTop (mkF m pc Ls (.int x :: st))) (T.setTop (mkF m (pc + 1) l' (st))) := fun t r => XS.istoreN H hx rfl hd rfl hl r
theorem istore (H : At T m c below) (hx : p.tables.exec = Jvm.exec) {k : Nat} {x : Int32} (l' : Array Slot) (hd : decode c.code pc = .ok (.istore k, 2)) (hl : storeLocals Ls k (.int x) = some l') : Go p e below (T.setTop (mkF m pc Ls (.int x :: st))) (T.setTop (mkF m (pc + 2) l' (st))) := fun t r => XS.istore H hx rfl hd rfl hl r
theorem astoreN (H : At T m c below) (hx : p.tables.exec = Jvm.exec) {k : Fin 4} {x : Value} (l' : Array Slot) (hd : decode c.code pc = .ok (.astore_n k, 1)) (hv : x.isRef = true) (hl : storeLocals Ls k.val x = some l') : Go p e below (T.setTop (mkF m pc Ls (x :: st))) (T.setTop (mkF m (pc + 1) l' (st))) := fun t r => XS.astoreN H hx rfl hd rfl hv hl r
theorem astore (H : At T m c below) (hx : p.tables.exec = Jvm.exec) {k : Nat} {x : Value} (l' : Array Slot) (hd : decode c.code pc = .ok (.astore k, 2)) (hv : x.isRef = true) (hl : storeLocals Ls k x = some l') : Go p e below (T.setTop (mkF m pc Ls (x :: st))) (T.setTop (mkF m (pc + 2) l' (st))) := fun t r => XS.astore H hx rfl hd rfl hv hl r
theorem lstoreN (H : At T m c below) (hx : p.tables.exec = Jvm.exec) {k : Fin 4} {x : Int64} (l' : Array Slot) (hd : decode c.code pc = .ok (.lstore_n k, 1)) (hl : storeLocals Ls k.val (.long x) = some l') : Go p e below (T.setTop (mkF m pc Ls (.long x :: st))) (T.setTop (mkF m (pc + 1) l' (st))) := fun t r => XT.lstoreN H hx rfl hd rfl hl r
theorem lstore (H : At T m c below) (hx : p.tables.exec = Jvm.exec) {k : Nat} {x : Int64} (l' : Array Slot) (hd : decode c.code pc = .ok (.lstore k, 2)) (hl : storeLocals Ls k (.long x) = some l') : Go p e below (T.setTop (mkF m pc Ls (.long x :: st))) (T.setTop (mkF m (pc + 2) l' (st))) := fun t r => XT.lstore H hx rfl hd rfl hl r
theorem iinc (H : At T m c below) (hx : p.tables.exec = Jvm.exec) {k : Nat} {cst : Int} {x : Int32} (v : Int32) (l' : Array Slot) (hd : decode c.code pc = .ok (.iinc k cst, 3)) (hl : Ls[k]? = some (.val (.int x))) (hv : x + Int32.ofInt cst = v) (hl' : storeLocals Ls k (.int v) = some l') : Go p e below (T.setTop (mkF m pc Ls (st))) (T.setTop (mkF m (pc + 3) l' (st))) := fun t r => XS.iinc H hx rfl hd hl (by rw [hv]; exact hl') r
theorem goto (H : At T m c below) (hx : p.tables.exec = Jvm.exec) {o : Int} (pc' : Nat) (hd : decode c.code pc = .ok (.goto o, 3)) (ho : 0 ≤ (pc : Int) + o) (hp : ((pc : Int) + o).toNat = pc') : Go p e below (T.setTop (mkF m pc Ls (st))) (T.setTop (mkF m (pc') Ls (st))) := fun t r => XS.goto H hx rfl rfl hd ho hp r
theorem ifYes (H : At T m c below) (hx : p.tables.exec = Jvm.exec) {cd : ClassFile.Cond} {x : Int32} {o : Int} (pc' : Nat) (hd : decode c.code pc = .ok (.ifCond cd o, 3)) (hc : ifCond.holds cd x = true) (ho : 0 ≤ (pc : Int) + o) (hp : ((pc : Int) + o).toNat = pc') : Go p e below (T.setTop (mkF m pc Ls (.int x :: st))) (T.setTop (mkF m (pc') Ls (st))) := fun t r => XS.ifYes H hx rfl rfl hd rfl hc ho hp r
theorem ifNo (H : At T m c below) (hx : p.tables.exec = Jvm.exec) {cd : ClassFile.Cond} {x : Int32} {o : Int} (hd : decode c.code pc = .ok (.ifCond cd o, 3)) (hc : ifCond.holds cd x = false) : Go p e below (T.setTop (mkF m pc Ls (.int x :: st))) (T.setTop (mkF m (pc + 3) Ls (st))) := fun t r => XS.ifNo H hx rfl hd rfl hc r
theorem icmpYes (H : At T m c below) (hx : p.tables.exec = Jvm.exec) {cd : ClassFile.Cond} {x y : Int32} {o : Int} (pc' : Nat) (hd : decode c.code pc = .ok (.if_icmp cd o, 3)) (hc : if_icmp.holds cd x y = true) (ho : 0 ≤ (pc : Int) + o) (hp : ((pc : Int) + o).toNat = pc') : Go p e below (T.setTop (mkF m pc Ls (.int y :: .int x :: st))) (T.setTop (mkF m (pc') Ls (st))) := fun t r => XS.icmpYes H hx rfl rfl hd rfl hc ho hp r
theorem icmpNo (H : At T m c below) (hx : p.tables.exec = Jvm.exec) {cd : ClassFile.Cond} {x y : Int32} {o : Int} (hd : decode c.code pc = .ok (.if_icmp cd o, 3)) (hc : if_icmp.holds cd x y = false) : Go p e below (T.setTop (mkF m pc Ls (.int y :: .int x :: st))) (T.setTop (mkF m (pc + 3) Ls (st))) := fun t r => XS.icmpNo H hx rfl hd rfl hc r
theorem acmpYes (H : At T m c below) (hx : p.tables.exec = Jvm.exec) {cd : ClassFile.ACond} {x y : Value} {o : Int} (pc' : Nat) (hd : decode c.code pc = .ok (.if_acmp cd o, 3)) (hx' : x.isRef = true) (hy' : y.isRef = true) (hc : XT.acmp cd x y = true) (ho : 0 ≤ (pc : Int) + o) (hp : ((pc : Int) + o).toNat = pc') : Go p e below (T.setTop (mkF m pc Ls (y :: x :: st))) (T.setTop (mkF m (pc') Ls (st))) := fun t r => XT.acmpYes H hx rfl rfl hd rfl hx' hy' hc ho hp r
theorem acmpNo (H : At T m c below) (hx : p.tables.exec = Jvm.exec) {cd : ClassFile.ACond} {x y : Value} {o : Int} (hd : decode c.code pc = .ok (.if_acmp cd o, 3)) (hx' : x.isRef = true) (hy' : y.isRef = true) (hc : XT.acmp cd x y = false) : Go p e below (T.setTop (mkF m pc Ls (y :: x :: st))) (T.setTop (mkF m (pc + 3) Ls (st))) := fun t r => XT.acmpNo H hx rfl hd rfl hx' hy' hc r
theorem ifnullYes (H : At T m c below) (hx : p.tables.exec = Jvm.exec) {o : Int} (pc' : Nat) (hd : decode c.code pc = .ok (.ifnull o, 3)) (ho : 0 ≤ (pc : Int) + o) (hp : ((pc : Int) + o).toNat = pc') : Go p e below (T.setTop (mkF m pc Ls (.null :: st))) (T.setTop (mkF m (pc') Ls (st))) := fun t r => XS.ifnullYes H hx rfl rfl hd rfl ho hp r
theorem ifnullNo (H : At T m c below) (hx : p.tables.exec = Jvm.exec) {o : Int} {b : Addr} (hd : decode c.code pc = .ok (.ifnull o, 3))  : Go p e below (T.setTop (mkF m pc Ls (.ref b :: st))) (T.setTop (mkF m (pc + 3) Ls (st))) := fun t r => XS.ifnullNo H hx rfl hd rfl r
theorem ifnonnullYes (H : At T m c below) (hx : p.tables.exec = Jvm.exec) {o : Int} {b : Addr} (pc' : Nat) (hd : decode c.code pc = .ok (.ifnonnull o, 3)) (ho : 0 ≤ (pc : Int) + o) (hp : ((pc : Int) + o).toNat = pc') : Go p e below (T.setTop (mkF m pc Ls (.ref b :: st))) (T.setTop (mkF m (pc') Ls (st))) := fun t r => XT.ifnonnullYes H hx rfl rfl hd rfl ho hp r
theorem ifnonnullNo (H : At T m c below) (hx : p.tables.exec = Jvm.exec) {o : Int} (hd : decode c.code pc = .ok (.ifnonnull o, 3))  : Go p e below (T.setTop (mkF m pc Ls (.null :: st))) (T.setTop (mkF m (pc + 3) Ls (st))) := fun t r => XT.ifnonnullNo H hx rfl hd rfl r
end Plain
end Own.P
end Jvm.Pilot.@@N@@
/- laws to paste: Road.backArv, Road.eqW (cut by pick.py; bodies as the Statement names them) -/
namespace Jvm.Pilot.@@N@@
namespace StrChars
open Jvm Sem ClassFile Op Lib Jvm.Stand Jvm.Free.XT Jvm.Free.ALB Jvm.Free.JM Jvm.Free
open Jvm.Lib.Cold (StaticIs)
/-- a char array whose places are chars -/
def Ch (a : Addr) (A : Cell) (U : State) : Prop := Arr .char a A U ∧ Typed .char A
theorem Ch.mv {a : Addr} {A : Cell} {U U' : State} (h : Ch a A U) (hal : U.vm.Alike U'.vm) (hh : U'.heap = U.heap) : Ch a A U' := ⟨h.1.mv hal hh, h.2⟩
theorem Ch.keep {a : Addr} {A : Cell} {U U' : State} (h : Ch a A U) (hal : U.vm.Alike U'.vm) (hk : U'.heap[a]? = some A) : Ch a A U' := ⟨h.1.keep hal hk, h.2⟩
/-- what place i of a char[]'s cell holds -/
def cv (A : Cell) (i : Nat) : Int32 := match A.slots[i]? with | some (.int x) => x | _ => 0
theorem Ch.get {a : Addr} {A : Cell} {U : State} (h : Ch a A U) {i : Nat} (hi : i < A.slots.size) : A.slots[i]? = some (.int (cv A i)) := by
  have e := Array.getElem?_eq_getElem hi
  have f := h.2 i _ e
  unfold cv; rw [e]
  generalize A.slots[i] = v at f
  cases v <;> simp [fits] at f ⊢
/-- the byte that i2b leaves of a char -/
def lo8 (x : Int32) : Int32 := x.toInt8.toInt32
theorem fits_lo8 (y : Int32) : fits .byte (.int (lo8 y)) = true := by
  have h1 := y.toInt8.le_toInt
  have h2 := y.toInt8.toInt_lt
  simp only [lo8, fits, Bool.and_eq_true, decide_eq_true_eq, Int32.le_iff_toInt_le, Int8.toInt_toInt32, show (-128 : Int32).toInt = -128 from by decide, show (127 : Int32).toInt = 127 from by decide]
  omega
/-- A' is A but that each place j of lo .. hi - 1 holds f j -/
def Laid (A A' : Cell) (lo hi : Nat) (f : Nat → Value) : Prop := A'.cls = A.cls ∧ A'.vm = A.vm ∧ A'.slots.size = A.slots.size ∧ ∀ i, A'.slots[i]? = if lo ≤ i ∧ i < hi then some (f i) else A.slots[i]?
theorem Laid.zero (A : Cell) (lo : Nat) (f : Nat → Value) : Laid A A lo (lo + 0) f := ⟨rfl, rfl, rfl, fun i => by rw [if_neg (by omega)]⟩
theorem Laid.step {A Ak : Cell} {lo k : Nat} {f : Nat → Value} {v : Value} (h : Laid A Ak lo k f) (hlo : lo ≤ k) (hk : k < Ak.slots.size) (hv : v = f k) : Laid A (Ak.setSlot k v) lo (k + 1) f := by
  refine ⟨h.1, h.2.1, by simpa [Cell.setSlot] using h.2.2.1, fun i => ?_⟩
  by_cases e : k = i
  · subst e; rw [Cell.slots_setSlot_self v hk, if_pos (by omega), hv]
  · rw [Cell.slots_setSlot_ne v e, h.2.2.2 i]
    by_cases q : lo ≤ i ∧ i < k
    · rw [if_pos q, if_pos (by omega)]
    · rw [if_neg q, if_neg (by omega)]
def U16 : String := "java/lang/StringUTF16"
namespace Cmp5
def yN : MethodName := ⟨"java/lang/StringUTF16", "compress", "([CI[BII)I"⟩
abbrev yB : ByteArray := jdk_52_method_21_code
theorem d0 : decode yB 0 = .ok (.iconst 0, 1) := by decide +kernel
theorem d1 : decode yB 1 = .ok (.istore 5, 2) := by decide +kernel
theorem d3 : decode yB 3 = .ok (.iload 5, 2) := by decide +kernel
theorem d5 : decode yB 5 = .ok (.iload 4, 2) := by decide +kernel
theorem d7 : decode yB 7 = .ok (.if_icmp (.ge) 37, 3) := by decide +kernel
theorem d10 : decode yB 10 = .ok (.aload_n 0, 1) := by decide +kernel
theorem d11 : decode yB 11 = .ok (.iload_n 1, 1) := by decide +kernel
theorem d12 : decode yB 12 = .ok (.caload, 1) := by decide +kernel
theorem d13 : decode yB 13 = .ok (.istore 6, 2) := by decide +kernel
theorem d15 : decode yB 15 = .ok (.iload 6, 2) := by decide +kernel
theorem d17 : decode yB 17 = .ok (.sipush 255, 3) := by decide +kernel
theorem d20 : decode yB 20 = .ok (.if_icmp (.le) 6, 3) := by decide +kernel
theorem d26 : decode yB 26 = .ok (.aload_n 2, 1) := by decide +kernel
theorem d27 : decode yB 27 = .ok (.iload_n 3, 1) := by decide +kernel
theorem d28 : decode yB 28 = .ok (.iload 6, 2) := by decide +kernel
theorem d30 : decode yB 30 = .ok (.i2b, 1) := by decide +kernel
theorem d31 : decode yB 31 = .ok (.bastore, 1) := by decide +kernel
theorem d32 : decode yB 32 = .ok (.iinc 1 1, 3) := by decide +kernel
theorem d35 : decode yB 35 = .ok (.iinc 3 1, 3) := by decide +kernel
theorem d38 : decode yB 38 = .ok (.iinc 5 1, 3) := by decide +kernel
theorem d41 : decode yB 41 = .ok (.goto (-38), 3) := by decide +kernel
theorem d44 : decode yB 44 = .ok (.iload 4, 2) := by decide +kernel
theorem d46 : decode yB 46 = .ok (.ireturn, 1) := by decide +kernel
def site : List Cond := []
def tab : Cond := tabOf yN yB 7 (some .int) site
def P (b : Addr) (A : Cell) (d : Addr) (B : Cell) (o q len : Nat) (args : Array Value) (s : State) : Prop := args = #[.ref b, .int (Int32.ofNat o), .ref d, .int (Int32.ofNat q), .int (Int32.ofNat len)] ∧ Ch b A s ∧ Arr .byte d B s ∧ b ≠ d ∧ o + len ≤ A.slots.size ∧ q + len ≤ B.slots.size ∧ ∀ i, i < len → ¬ 255 < cv A (o + i)
def E (b : Addr) (A : Cell) (d : Addr) (B : Cell) (o q len : Nat) (r : Option Value) (s u : State) : Prop := r = some (.int (Int32.ofNat len)) ∧ ∃ B', Put d B' s u ∧ Laid B B' q (q + len) (fun j => Value.int (lo8 (cv A (o + (j - q)))))
/-- no char of the range above 255: len; the places written hold each char's low byte -/
theorem law (l : Launch) (b : Addr) (A : Cell) (d : Addr) (B : Cell) (o q len : Nat) : Law l yN 5 5 0 0 yB 7 (some .int) site (P b A d B o q len) (E b A d B o q len) (copyLocs d q len) 0 0 := by
  refine Law.of_walk (plainFor_of_name (by decide +kernel)) (by decide +kernel) (by decide +kernel) (by decide) (fun _ _ h => by rw [h.1]; rfl) (fun _ U U' hal hh h => ⟨h.1, h.2.1.mv hal hh, h.2.2.1.mv hal hh, h.2.2.2⟩) (fun r U U' V V' h1 hal h2 h => ⟨h.1, h.2.elim fun B' q => ⟨B', q.1.mv h1 h2, q.2⟩⟩) ?_
  intro p e s m args below meth c s₁ X0 hexec hbytes hml hret hlk hnm hown hh0 W hP
  obtain ⟨rfl, hA, hB, hne, l1, l2, hp⟩ := hP
  have c1 : Steps p.tables e below (s₁.setTop (entryFrame m #[.ref b, .int (Int32.ofNat o), .ref d, .int (Int32.ofNat q), .int (Int32.ofNat len)] 7)) (s₁.setTop (mkF m 0 #[.val (.ref b), .val (.int (Int32.ofNat o)), .val (.ref d), .val (.int (Int32.ofNat q)), .val (.int (Int32.ofNat len)), .unset, .unset] [])) := entry rfl
  have hA0 := hA.1.mv X0.warmed.alike hh0
  have hB0 := hB.mv X0.warmed.alike hh0
  have a31 := hA.1.2.2.2
  have c2 : Steps p.tables e below (s₁.setTop (entryFrame m #[.ref b, .int (Int32.ofNat o), .ref d, .int (Int32.ofNat q), .int (Int32.ofNat len)] 7)) (s₁.setTop (mkF m 3 #[.val (.ref b), .val (.int (Int32.ofNat o)), .val (.ref d), .val (.int (Int32.ofNat q)), .val (.int (Int32.ofNat len)), .val (.int 0), .unset] [])) := c1.trans (by
    refine iconstV X0.here hexec rfl 0 (hb hbytes d0) (by decide) ?_
    refine XS.istore X0.here hexec rfl (hb hbytes d1) rfl rfl ?_
    exact Steps.refl _)
  have loop : ∀ (r i : Nat), i + r = len → ∀ (z : Slot), (z = .unset ∨ ∃ w, z = .val w ∧ w.category = 1) → ∀ (Tl : State) (Bk : Cell), Stand p l e { frames := 0, locals := 0, cells := 0, slots := 0 } s m #[.ref b, .int (Int32.ofNat o), .ref d, .int (Int32.ofNat q), .int (Int32.ofNat len)] below meth c Tl ([] ++ copyLocs d q i) 0 0 → Put d Bk s₁ Tl → Laid B Bk q (q + i) (fun j => Value.int (lo8 (cv A (o + (j - q))))) →
      Steps p.tables e below (s₁.setTop (entryFrame m #[.ref b, .int (Int32.ofNat o), .ref d, .int (Int32.ofNat q), .int (Int32.ofNat len)] 7)) (Tl.setTop (mkF m 3 #[.val (.ref b), .val (.int (Int32.ofNat (o + i))), .val (.ref d), .val (.int (Int32.ofNat (q + i))), .val (.int (Int32.ofNat len)), .val (.int (Int32.ofNat i)), z] [])) → ∃ (T' : State) (B' : Cell) (z' : Slot), Stand p l e { frames := 0, locals := 0, cells := 0, slots := 0 } s m #[.ref b, .int (Int32.ofNat o), .ref d, .int (Int32.ofNat q), .int (Int32.ofNat len)] below meth c T' ([] ++ copyLocs d q len) 0 0 ∧ Put d B' s₁ T' ∧ Laid B B' q (q + len) (fun j => Value.int (lo8 (cv A (o + (j - q))))) ∧
      Steps p.tables e below (s₁.setTop (entryFrame m #[.ref b, .int (Int32.ofNat o), .ref d, .int (Int32.ofNat q), .int (Int32.ofNat len)] 7)) (T'.setTop (mkF m 3 #[.val (.ref b), .val (.int (Int32.ofNat (o + len))), .val (.ref d), .val (.int (Int32.ofNat (q + len))), .val (.int (Int32.ofNat len)), .val (.int (Int32.ofNat len)), z'] [])) := by
    intro r
    induction r with
    | zero =>
      intro i hi z hz Tl Bk Xl pl fl cl
      have hil : i = len := by omega
      rw [hil] at Xl fl cl
      exact ⟨Tl, Bk, z, Xl, pl, fl, cl⟩
    | succ r ih =>
      intro i hi z hz Tl Bk Xl pl fl cl
      have all := X0.warmed.alike.symm.trans Xl.warmed.alike
      have hAl := hA0.keep all (pl.other hne hA0.1)
      have hBk := hB0.like all pl.1 fl.1 fl.2.1 fl.2.2.1
      have hlt : q + i < Bk.slots.size := by rw [fl.2.2.1]; omega
      have c3 : Steps p.tables e below (s₁.setTop (entryFrame m #[.ref b, .int (Int32.ofNat o), .ref d, .int (Int32.ofNat q), .int (Int32.ofNat len)] 7)) (Tl.setTop (mkF m 12 #[.val (.ref b), .val (.int (Int32.ofNat (o + i))), .val (.ref d), .val (.int (Int32.ofNat (q + i))), .val (.int (Int32.ofNat len)), .val (.int (Int32.ofNat i)), z] [.int (Int32.ofNat (o + i)), .ref b])) := cl.trans (by
        refine XS.iload Xl.here hexec rfl (hb hbytes d3) rfl ?_
        refine XS.iload Xl.here hexec rfl (hb hbytes d5) rfl ?_
        refine XS.icmpNo Xl.here hexec rfl (hb hbytes d7) rfl (ii_ge_f (lt32 (by omega) (by omega))) ?_
        refine XS.aloadN Xl.here hexec rfl (hb hbytes d10) rfl rfl ?_
        refine XS.iloadN Xl.here hexec rfl (hb hbytes d11) rfl ?_
        exact Steps.refl _)
      have c4 : Steps p.tables e below (s₁.setTop (entryFrame m #[.ref b, .int (Int32.ofNat o), .ref d, .int (Int32.ofNat q), .int (Int32.ofNat len)] 7)) (Tl.setTop (mkF m 13 #[.val (.ref b), .val (.int (Int32.ofNat (o + i))), .val (.ref d), .val (.int (Int32.ofNat (q + i))), .val (.int (Int32.ofNat len)), .val (.int (Int32.ofNat i)), z] [.int (cv A (o + i))])) := c3.trans (by
        refine Xl.aget hexec hAl rfl (hA.get (i := o + i) (by omega)) rfl rfl (hb hbytes d12) ?_
        exact Steps.refl _)
      have c5 : Steps p.tables e below (s₁.setTop (entryFrame m #[.ref b, .int (Int32.ofNat o), .ref d, .int (Int32.ofNat q), .int (Int32.ofNat len)] 7)) (Tl.setTop (mkF m 15 #[.val (.ref b), .val (.int (Int32.ofNat (o + i))), .val (.ref d), .val (.int (Int32.ofNat (q + i))), .val (.int (Int32.ofNat len)), .val (.int (Int32.ofNat i)), .val (.int (cv A (o + i)))] [])) := c4.trans (by
        refine XS.istoreS Xl.here hexec rfl (hb hbytes d13) rfl rfl hz ?_
        exact Steps.refl _)
      have c6 : Steps p.tables e below (s₁.setTop (entryFrame m #[.ref b, .int (Int32.ofNat o), .ref d, .int (Int32.ofNat q), .int (Int32.ofNat len)] 7)) (Tl.setTop (mkF m 31 #[.val (.ref b), .val (.int (Int32.ofNat (o + i))), .val (.ref d), .val (.int (Int32.ofNat (q + i))), .val (.int (Int32.ofNat len)), .val (.int (Int32.ofNat i)), .val (.int (cv A (o + i)))] [.int (lo8 (cv A (o + i))), .int (Int32.ofNat (q + i)), .ref d])) := c5.trans (by
        refine XS.iload Xl.here hexec rfl (hb hbytes d15) rfl ?_
        refine sipushV Xl.here hexec rfl 255 (hb hbytes d17) (by decide) ?_
        refine XS.icmpYes Xl.here hexec rfl (pc0 := 20) rfl (hb hbytes d20) rfl (ii_le_t (hp i (by omega))) (by decide) rfl ?_
        refine XS.aloadN Xl.here hexec rfl (hb hbytes d26) rfl rfl ?_
        refine XS.iloadN Xl.here hexec rfl (hb hbytes d27) rfl ?_
        refine XS.iload Xl.here hexec rfl (hb hbytes d28) rfl ?_
        refine i2b Xl.here hexec rfl (hb hbytes d30) rfl ?_
        exact Steps.refl _)
      obtain ⟨T7, X7, p7, st7⟩ := Xl.aput hexec hBk rfl hlt rfl (fits_lo8 (cv A (o + i))) (g := (mkF m 31 #[.val (.ref b), .val (.int (Int32.ofNat (o + i))), .val (.ref d), .val (.int (Int32.ofNat (q + i))), .val (.int (Int32.ofNat len)), .val (.int (Int32.ofNat i)), .val (.int (cv A (o + i)))] [.int (lo8 (cv A (o + i))), .int (Int32.ofNat (q + i)), .ref d])) rfl (rest := []) rfl (hb hbytes d31)
      have c8 : Steps p.tables e below (s₁.setTop (entryFrame m #[.ref b, .int (Int32.ofNat o), .ref d, .int (Int32.ofNat q), .int (Int32.ofNat len)] 7)) (T7.setTop (mkF m 32 #[.val (.ref b), .val (.int (Int32.ofNat (o + i))), .val (.ref d), .val (.int (Int32.ofNat (q + i))), .val (.int (Int32.ofNat len)), .val (.int (Int32.ofNat i)), .val (.int (cv A (o + i)))] [])) := c6.trans (st7 _ (Steps.refl _))
      have c9 : Steps p.tables e below (s₁.setTop (entryFrame m #[.ref b, .int (Int32.ofNat o), .ref d, .int (Int32.ofNat q), .int (Int32.ofNat len)] 7)) (T7.setTop (mkF m 3 #[.val (.ref b), .val (.int (Int32.ofNat (o + i) + 1)), .val (.ref d), .val (.int (Int32.ofNat (q + i) + 1)), .val (.int (Int32.ofNat len)), .val (.int (Int32.ofNat i + 1)), .val (.int (cv A (o + i)))] [])) := c8.trans (by
        refine iincV X7.here hexec rfl 1 (hb hbytes d32) (by decide) rfl rfl ?_
        refine iincV X7.here hexec rfl 1 (hb hbytes d35) (by decide) rfl rfl ?_
        refine iincV X7.here hexec rfl 1 (hb hbytes d38) (by decide) rfl rfl ?_
        refine XS.goto X7.here hexec rfl (pc0 := 41) rfl (hb hbytes d41) (by decide) rfl ?_
        exact Steps.refl _)
      have c10 : Steps p.tables e below (s₁.setTop (entryFrame m #[.ref b, .int (Int32.ofNat o), .ref d, .int (Int32.ofNat q), .int (Int32.ofNat len)] 7)) (T7.setTop (mkF m 3 #[.val (.ref b), .val (.int (Int32.ofNat (o + (i + 1)))), .val (.ref d), .val (.int (Int32.ofNat (q + (i + 1)))), .val (.int (Int32.ofNat len)), .val (.int (Int32.ofNat (i + 1))), .val (.int (cv A (o + i)))] [])) := by
        have := c9
        rw [succ32, succ32, succ32] at this
        exact this
      exact ih (i + 1) (by omega) _ (Or.inr ⟨_, rfl, rfl⟩) T7 _ (by rw [copyLocs_step, ← List.append_assoc]; exact X7) (pl.trans p7) (fl.step (by omega) hlt (by simp)) c10
  obtain ⟨T9, B9, z9, X9, p9, f9, g9⟩ := loop len 0 (by omega) .unset (Or.inl rfl) s₁ B (by simpa [copyLocs] using X0) ⟨hB0.1, fun _ _ => rfl, rfl⟩ (Laid.zero _ _ _) c2
  have c11 : Steps p.tables e below (s₁.setTop (entryFrame m #[.ref b, .int (Int32.ofNat o), .ref d, .int (Int32.ofNat q), .int (Int32.ofNat len)] 7)) (T9.setTop (mkF m 46 #[.val (.ref b), .val (.int (Int32.ofNat (o + len))), .val (.ref d), .val (.int (Int32.ofNat (q + len))), .val (.int (Int32.ofNat len)), .val (.int (Int32.ofNat len)), z9] [.int (Int32.ofNat len)])) := g9.trans (by
    refine XS.iload X9.here hexec rfl (hb hbytes d3) rfl ?_
    refine XS.iload X9.here hexec rfl (hb hbytes d5) rfl ?_
    refine XS.icmpYes X9.here hexec rfl (pc0 := 7) rfl (hb hbytes d7) rfl (ii_ge_t (nlt32 (by omega) (Nat.le_refl _))) (by decide) rfl ?_
    refine XS.iload X9.here hexec rfl (hb hbytes d44) rfl ?_
    exact Steps.refl _)
  exact ⟨T9, some (.int (Int32.ofNat len)), _, _, _, X9, by simp, rfl, rfl, (fun h => by cases h), ⟨rfl, B9, p9.from hh0, f9⟩, fun fs hl => c11.trans (X9.ireturnOut hexec hret rfl (Or.inl rfl) (hb hbytes d46) hl)⟩
end Cmp5
namespace Cmp3
def yN : MethodName := ⟨"java/lang/StringUTF16", "compress", "([CII)[B"⟩
abbrev yB : ByteArray := jdk_52_method_16_code
theorem d0 : decode yB 0 = .ok (.iload_n 2, 1) := by decide +kernel
theorem d1 : decode yB 1 = .ok (.newarray .byte, 2) := by decide +kernel
theorem d3 : decode yB 3 = .ok (.astore_n 3, 1) := by decide +kernel
theorem d4 : decode yB 4 = .ok (.aload_n 0, 1) := by decide +kernel
theorem d5 : decode yB 5 = .ok (.iload_n 1, 1) := by decide +kernel
theorem d6 : decode yB 6 = .ok (.aload_n 3, 1) := by decide +kernel
theorem d7 : decode yB 7 = .ok (.iconst 0, 1) := by decide +kernel
theorem d8 : decode yB 8 = .ok (.iload_n 2, 1) := by decide +kernel
theorem d9 : decode yB 9 = .ok (.invokestatic 115, 3) := by decide +kernel
theorem d12 : decode yB 12 = .ok (.istore 4, 2) := by decide +kernel
theorem d14 : decode yB 14 = .ok (.iload 4, 2) := by decide +kernel
theorem d16 : decode yB 16 = .ok (.iload_n 2, 1) := by decide +kernel
theorem d17 : decode yB 17 = .ok (.if_icmp (.eq) 40, 3) := by decide +kernel
theorem d57 : decode yB 57 = .ok (.aload_n 3, 1) := by decide +kernel
theorem d58 : decode yB 58 = .ok (.areturn, 1) := by decide +kernel
def site : List Cond := [.arrayClass .byte, Cmp5.tab] ++ staticW U16 115 Cmp5.yN
def tab : Cond := tabOf yN yB 6 (some (.array .byte)) site
def P (b : Addr) (A : Cell) (o len : Nat) (args : Array Value) (s : State) : Prop := args = #[.ref b, .int (Int32.ofNat o), .int (Int32.ofNat len)] ∧ Ch b A s ∧ o + len ≤ A.slots.size ∧ len ≤ 536870912 ∧ ∀ i, i < len → ¬ 255 < cv A (o + i)
def E (b : Addr) (A : Cell) (o len : Nat) (r : Option Value) (s u : State) : Prop := NewArr .byte "[B" len (fun j => .int (lo8 (cv A (o + j)))) r s u ∧ u.heap.size = s.heap.size + 1
/-- no char of the range above 255: a new byte[] of their low bytes -/
theorem law (l : Launch) (b : Addr) (A : Cell) (o len : Nat) : Law l yN 3 3 1 18 yB 6 (some (.array .byte)) site (P b A o len) (E b A o len) [] 1 len := by
  refine Law.of_walk (plainFor_of_name (by decide +kernel)) (by decide +kernel) (by decide +kernel) (by decide) (fun _ _ h => by rw [h.1]; rfl) (fun _ U U' hal hh h => ⟨h.1, h.2.1.mv hal hh, h.2.2⟩) (fun r U U' V V' h1 hal h2 h => ⟨NewArr.mv r U U' V V' h1 hal h2 h.1, by rw [h1, h2]; exact h.2⟩) ?_
  intro p e s m args below meth c s₁ X0 hexec hbytes hml hret hlk hnm hown hh0 W hP
  obtain ⟨rfl, hA, l1, l2, hp⟩ := hP
  have a31 := hA.1.2.2.2
  have c1 : Steps p.tables e below (s₁.setTop (entryFrame m #[.ref b, .int (Int32.ofNat o), .int (Int32.ofNat len)] 6)) (s₁.setTop (mkF m 0 #[.val (.ref b), .val (.int (Int32.ofNat o)), .val (.int (Int32.ofNat len)), .unset, .unset, .unset] [])) := entry rfl
  have c2 : Steps p.tables e below (s₁.setTop (entryFrame m #[.ref b, .int (Int32.ofNat o), .int (Int32.ofNat len)] 6)) (s₁.setTop (mkF m 1 #[.val (.ref b), .val (.int (Int32.ofNat o)), .val (.int (Int32.ofNat len)), .unset, .unset, .unset] [.int (Int32.ofNat len)])) := c1.trans (by
    refine XS.iloadN X0.here hexec rfl (hb hbytes d0) rfl ?_
    exact Steps.refl _)
  obtain ⟨T3, B3, X3, ba3, bs3, bv3, bh3, bf3, st3⟩ := X0.anew hexec (atype := .byte) (wk W (.arrayClass .byte)) rfl (by show len * 1 ≤ _; omega) (by omega) (g := (mkF m 1 #[.val (.ref b), .val (.int (Int32.ofNat o)), .val (.int (Int32.ofNat len)), .unset, .unset, .unset] [.int (Int32.ofNat len)])) rfl (hb hbytes d1) (rest := []) rfl (Nat.le_refl _) (by show 0 + len ≤ len; omega)
  rw [hh0] at ba3 st3
  have kp3 : XT.Kept s T3 := (XT.Kept.of_eq hh0).push bh3
  have hA3 := hA.keep X3.warmed.alike (kp3 _ _ hA.1.1)
  have hne : b ≠ s.heap.size := hA.1.ne
  have c4 : Steps p.tables e below (s₁.setTop (entryFrame m #[.ref b, .int (Int32.ofNat o), .int (Int32.ofNat len)] 6)) (T3.setTop (mkF m 3 #[.val (.ref b), .val (.int (Int32.ofNat o)), .val (.int (Int32.ofNat len)), .unset, .unset, .unset] [.ref s.heap.size])) := c2.trans (st3 _ (Steps.refl _))
  have c5 : Steps p.tables e below (s₁.setTop (entryFrame m #[.ref b, .int (Int32.ofNat o), .int (Int32.ofNat len)] 6)) (T3.setTop (mkF m 9 #[.val (.ref b), .val (.int (Int32.ofNat o)), .val (.int (Int32.ofNat len)), .val (.ref s.heap.size), .unset, .unset] [.int (Int32.ofNat len), .int 0, .ref s.heap.size, .int (Int32.ofNat o), .ref b])) := c4.trans (by
    refine XS.astoreN X3.here hexec rfl (hb hbytes d3) rfl rfl rfl ?_
    refine XS.aloadN X3.here hexec rfl (hb hbytes d4) rfl rfl ?_
    refine XS.iloadN X3.here hexec rfl (hb hbytes d5) rfl ?_
    refine XS.aloadN X3.here hexec rfl (hb hbytes d6) rfl rfl ?_
    refine iconstV X3.here hexec rfl 0 (hb hbytes d7) (by decide) ?_
    refine XS.iloadN X3.here hexec rfl (hb hbytes d8) rfl ?_
    exact Steps.refl _)
  obtain ⟨v6, T6, X6, E6, g6⟩ := X3.callS hexec (Cmp5.law l b A s.heap.size B3 o 0 len) hown (wks W (staticW U16 115 Cmp5.yN)) (wk W Cmp5.tab) (W := 0) (Nat.le_of_ble_eq_true rfl) (Nat.le_of_ble_eq_true rfl) (Nat.le_refl _) (by show 0 + len + 0 ≤ len; omega) (g := (mkF m 9 #[.val (.ref b), .val (.int (Int32.ofNat o)), .val (.int (Int32.ofNat len)), .val (.ref s.heap.size), .unset, .unset] [.int (Int32.ofNat len), .int (Int32.ofNat 0), .ref s.heap.size, .int (Int32.ofNat o), .ref b])) rfl (by rw [hml]; rfl) c5 (argsL := [.ref b, .int (Int32.ofNat o), .ref s.heap.size, .int (Int32.ofNat 0), .int (Int32.ofNat len)]) (rest := []) rfl rfl (by show 2 * 0 + 0 ≤ _; decide) (hb hbytes d9) (⟨rfl, hA3, ba3, hne, l1, by rw [bs3]; simp, hp⟩)
  obtain ⟨rfl, B6, p6, f6⟩ := E6
  have c7 : Steps p.tables e below (s₁.setTop (entryFrame m #[.ref b, .int (Int32.ofNat o), .int (Int32.ofNat len)] 6)) (T6.setTop (mkF m 12 #[.val (.ref b), .val (.int (Int32.ofNat o)), .val (.int (Int32.ofNat len)), .val (.ref s.heap.size), .unset, .unset] [.int (Int32.ofNat len)])) := g6
  have c8 : Steps p.tables e below (s₁.setTop (entryFrame m #[.ref b, .int (Int32.ofNat o), .int (Int32.ofNat len)] 6)) (T6.setTop (mkF m 58 #[.val (.ref b), .val (.int (Int32.ofNat o)), .val (.int (Int32.ofNat len)), .val (.ref s.heap.size), .val (.int (Int32.ofNat len)), .unset] [.ref s.heap.size])) := c7.trans (by
    refine XS.istore X6.here hexec rfl (hb hbytes d12) rfl rfl ?_
    refine XS.iload X6.here hexec rfl (hb hbytes d14) rfl ?_
    refine XS.iloadN X6.here hexec rfl (hb hbytes d16) rfl ?_
    refine XS.icmpYes X6.here hexec rfl (pc0 := 17) rfl (hb hbytes d17) rfl (ii_eq_t rfl) (by decide) rfl ?_
    refine XS.aloadN X6.here hexec rfl (hb hbytes d57) rfl rfl ?_
    exact Steps.refl _)
  have X8 := X6.wide (L' := []) (cells' := 1) (slots' := len) (fun x hx hlt => by
    simp only [List.nil_append, copyLocs, List.mem_map, List.mem_range] at hx
    obtain ⟨i, -, rfl⟩ := hx
    exact absurd hlt (Nat.lt_irrefl _)) (Nat.le_refl _) (by omega)
  exact ⟨T6, some (.ref s.heap.size), _, _, _, X8, rfl, rfl, rfl, (fun h => by cases h), ⟨⟨rfl, B6, ba3.like (X3.warmed.alike.symm.trans X6.warmed.alike) p6.1 f6.1 f6.2.1 f6.2.2.1, f6.2.1.trans bv3, by rw [X6.warmed.alike.findClass, f6.1]; exact bf3, by rw [f6.2.2.1, bs3]; simp, fun j hj => by rw [f6.2.2.2 j, if_pos (by omega)]; rfl, kp3.put p6 (Nat.le_refl _)⟩, by rw [p6.2.2, bh3, hh0]; simp⟩, fun fs hl => c8.trans (X8.areturnOut hexec rfl hret rfl (hb hbytes d58) hl)⟩
end Cmp3
namespace CodL
def yN : MethodName := ⟨"java/lang/StringUTF16", "coderFromArrayLen", "([BI)B"⟩
abbrev yB : ByteArray := jdk_52_method_15_code
theorem d0 : decode yB 0 = .ok (.iload_n 1, 1) := by decide +kernel
theorem d1 : decode yB 1 = .ok (.aload_n 0, 1) := by decide +kernel
theorem d2 : decode yB 2 = .ok (.arraylength, 1) := by decide +kernel
theorem d3 : decode yB 3 = .ok (.isub, 1) := by decide +kernel
theorem d4 : decode yB 4 = .ok (.bipush 31, 2) := by decide +kernel
theorem d6 : decode yB 6 = .ok (.iushr, 1) := by decide +kernel
theorem d7 : decode yB 7 = .ok (.i2b, 1) := by decide +kernel
theorem d8 : decode yB 8 = .ok (.ireturn, 1) := by decide +kernel
def site : List Cond := []
def tab : Cond := tabOf yN yB 2 (some .byte) site
def P (d : Addr) (B : Cell) (args : Array Value) (s : State) : Prop := args = #[.ref d, .int (Int32.ofNat B.slots.size)] ∧ Arr .byte d B s
def E (r : Option Value) (s u : State) : Prop := XT.PureE (some (.int 0)) r s u
/-- an array as long as the number of chars: LATIN1 -/
theorem law (l : Launch) (d : Addr) (B : Cell) : Law l yN 2 2 0 0 yB 2 (some .byte) site (P d B) E [] 0 0 := by
  refine Law.of_walk (plainFor_of_name (by decide +kernel)) (by decide +kernel) (by decide +kernel) (by decide) (fun _ _ h => by rw [h.1]; rfl) (fun _ U U' hal hh h => ⟨h.1, h.2.mv hal hh⟩) (fun r U U' V V' h1 hal h2 h => XT.PureE.mv r U U' V V' h1 hal h2 h) ?_
  intro p e s m args below meth c s₁ X0 hexec hbytes hml hret hlk hnm hown hh0 W hP
  obtain ⟨rfl, hB⟩ := hP
  have hB0 := hB.mv X0.warmed.alike hh0
  have c1 : Steps p.tables e below (s₁.setTop (entryFrame m #[.ref d, .int (Int32.ofNat B.slots.size)] 2)) (s₁.setTop (mkF m 0 #[.val (.ref d), .val (.int (Int32.ofNat B.slots.size))] [])) := entry rfl
  have c2 : Steps p.tables e below (s₁.setTop (entryFrame m #[.ref d, .int (Int32.ofNat B.slots.size)] 2)) (s₁.setTop (mkF m 2 #[.val (.ref d), .val (.int (Int32.ofNat B.slots.size))] [.ref d, .int (Int32.ofNat B.slots.size)])) := c1.trans (by
    refine XS.iloadN X0.here hexec rfl (hb hbytes d0) rfl ?_
    refine XS.aloadN X0.here hexec rfl (hb hbytes d1) rfl rfl ?_
    exact Steps.refl _)
  have c3 : Steps p.tables e below (s₁.setTop (entryFrame m #[.ref d, .int (Int32.ofNat B.slots.size)] 2)) (s₁.setTop (mkF m 8 #[.val (.ref d), .val (.int (Int32.ofNat B.slots.size))] [.int (lo8 (ushr (Int32.ofNat B.slots.size - Int32.ofNat B.slots.size) 31))])) := c2.trans (by
    refine X0.alen hexec hB0 rfl rfl (hb hbytes d2) ?_
    refine XS.isub X0.here hexec rfl (hb hbytes d3) rfl ?_
    refine bipushV X0.here hexec rfl 31 (hb hbytes d4) (by decide) ?_
    refine iushr X0.here hexec rfl (hb hbytes d6) rfl ?_
    refine i2b X0.here hexec rfl (hb hbytes d7) rfl ?_
    exact Steps.refl _)
  have e0 : lo8 (ushr (Int32.ofNat B.slots.size - Int32.ofNat B.slots.size) 31) = 0 := by rw [Int32.sub_self]; decide
  rw [e0] at c3
  exact ⟨s₁, some (.int 0), _, _, _, X0, rfl, rfl, rfl, (fun h => by cases h), ⟨rfl, hh0⟩, fun fs hl => c3.trans (X0.ireturnOut hexec hret rfl (Or.inr (Or.inr (Or.inl rfl))) (hb hbytes d8) hl)⟩
end CodL
/-- the String at a is Latin-1 over a new byte[] (the heap's one new cell): the low bytes of the len chars of A from o on; every cell but a is kept -/
def Got (a : Addr) (D : Cell) (fV fC : Field) (A : Cell) (o len : Nat) (r : Option Value) (s u : State) : Prop := r = none ∧ ∃ D' V : Cell, Blank "java/lang/String" a D' u ∧ Same D D' [fV.slot, fC.slot] ∧ D'.slots[fV.slot]? = some (.ref s.heap.size) ∧ D'.slots[fC.slot]? = some (.int 0) ∧ Arr .byte s.heap.size V u ∧ V.vm = .none ∧ u.vm.findClass "[B" = some V.cls ∧ V.slots.size = len ∧ (∀ j, j < len → V.slots[j]? = some (.int (lo8 (cv A (o + j))))) ∧ (∀ (y : Addr) (c : Cell), y ≠ a → s.heap[y]? = some c → u.heap[y]? = some c) ∧ u.heap.size = s.heap.size + 1
theorem Got.mv {a : Addr} {D A : Cell} {fV fC : Field} {o len : Nat} : ∀ r (U U' V V' : State), U'.heap = U.heap → V.vm.Alike V'.vm → V'.heap = V.heap → Got a D fV fC A o len r U V → Got a D fV fC A o len r U' V' :=
  fun r U U' V V' h1 hal h2 ⟨e0, D', X, a1, a2, a3, a4, a5, a6, a7, a8, a9, a10, a11⟩ => ⟨e0, D', X, a1.mv hal h2, a2, by rw [h1]; exact a3, a4, by rw [h1]; exact a5.mv hal h2, a6, by rw [hal.findClass]; exact a7, a8, a9, by rw [h1, h2]; exact a10, by rw [h1, h2]; exact a11⟩
namespace New4
def yN : MethodName := ⟨"java/lang/String", "<init>", "([CIILjava/lang/Void;)V"⟩
abbrev yB : ByteArray := jdk_42_method_149_code
theorem d0 : decode yB 0 = .ok (.aload_n 0, 1) := by decide +kernel
theorem d1 : decode yB 1 = .ok (.invokespecial 1, 3) := by decide +kernel
theorem d4 : decode yB 4 = .ok (.iload_n 3, 1) := by decide +kernel
theorem d5 : decode yB 5 = .ok (.ifCond (.ne) 22, 3) := by decide +kernel
theorem d27 : decode yB 27 = .ok (.getstatic 38, 3) := by decide +kernel
theorem d30 : decode yB 30 = .ok (.ifCond (.eq) 28, 3) := by decide +kernel
theorem d33 : decode yB 33 = .ok (.aload_n 1, 1) := by decide +kernel
theorem d34 : decode yB 34 = .ok (.iload_n 2, 1) := by decide +kernel
theorem d35 : decode yB 35 = .ok (.iload_n 3, 1) := by decide +kernel
theorem d36 : decode yB 36 = .ok (.invokestatic 177, 3) := by decide +kernel
theorem d39 : decode yB 39 = .ok (.astore 5, 2) := by decide +kernel
theorem d41 : decode yB 41 = .ok (.aload_n 0, 1) := by decide +kernel
theorem d42 : decode yB 42 = .ok (.aload 5, 2) := by decide +kernel
theorem d44 : decode yB 44 = .ok (.iload_n 3, 1) := by decide +kernel
theorem d45 : decode yB 45 = .ok (.invokestatic 47, 3) := by decide +kernel
theorem d48 : decode yB 48 = .ok (.putfield 15, 3) := by decide +kernel
theorem d51 : decode yB 51 = .ok (.aload_n 0, 1) := by decide +kernel
theorem d52 : decode yB 52 = .ok (.aload 5, 2) := by decide +kernel
theorem d54 : decode yB 54 = .ok (.putfield 9, 3) := by decide +kernel
theorem d57 : decode yB 57 = .ok (.return_, 1) := by decide +kernel
def site : List Cond := [.fieldLink "java/lang/String" 38 "java/lang/String" "COMPACT_STRINGS" "Z", Cmp3.tab, CodL.tab, .laysFinal "java/lang/String" "java/lang/String" "value" "[B", .fieldLink "java/lang/String" 9 "java/lang/String" "value" "[B", .laysFinal "java/lang/String" "java/lang/String" "coder" "B", .fieldLink "java/lang/String" 15 "java/lang/String" "coder" "B"] ++ objW "java/lang/String" 1 ++ staticW "java/lang/String" 177 Cmp3.yN ++ staticW "java/lang/String" 47 CodL.yN
def tab : Cond := tabOf yN yB 6 none site
def P (a : Addr) (D : Cell) (fV fC : Field) (b : Addr) (A : Cell) (z : Int32) (o len : Nat) (args : Array Value) (s : State) : Prop := args = #[.ref a, .ref b, .int (Int32.ofNat o), .int (Int32.ofNat len), .null] ∧ Blank "java/lang/String" a D s ∧ Found "java/lang/String" "value" "[B" fV s ∧ Found "java/lang/String" "coder" "B" fC s ∧ Ch b A s ∧ StaticIs s "java/lang/String" "COMPACT_STRINGS" "Z" (.int z) ∧ ¬ z = 0 ∧ 0 < len ∧ o + len ≤ A.slots.size ∧ len ≤ 536870912 ∧ ∀ i, i < len → ¬ 255 < cv A (o + i)
def E (a : Addr) (D : Cell) (fV fC : Field) (A : Cell) (o len : Nat) (r : Option Value) (s u : State) : Prop := Got a D fV fC A o len r s u
/-- len > 0, no char of the range above 255: a Latin-1 String of their low bytes -/
theorem law (l : Launch) (a : Addr) (D : Cell) (fV fC : Field) (b : Addr) (A : Cell) (z : Int32) (o len : Nat) : Law l yN 5 4 2 35 yB 6 none site (P a D fV fC b A z o len) (E a D fV fC A o len) [⟨a, fC.slot⟩, ⟨a, fV.slot⟩] 1 len := by
  refine Law.of_walk (plainFor_of_name (by decide +kernel)) (by decide +kernel) (by decide +kernel) (by decide) (fun _ _ h => by rw [h.1]; rfl) (fun _ U U' hal hh h => ⟨h.1, h.2.1.mv hal hh, h.2.2.1.al hal, h.2.2.2.1.al hal, h.2.2.2.2.1.mv hal hh, h.2.2.2.2.2.1.there hal hh, h.2.2.2.2.2.2⟩) (fun r U U' V V' h1 hal h2 h => Got.mv r U U' V V' h1 hal h2 h) ?_
  intro p e s m args below meth c s₁ X0 hexec hbytes hml hret hlk hnm hown hh0 W hP
  obtain ⟨rfl, hB, f1, f2, hA, s1, hz, l0, l1, l2, hp⟩ := hP
  have a31 := hA.1.2.2.2
  have c1 : Steps p.tables e below (s₁.setTop (entryFrame m #[.ref a, .ref b, .int (Int32.ofNat o), .int (Int32.ofNat len), .null] 6)) (s₁.setTop (mkF m 0 #[.val (.ref a), .val (.ref b), .val (.int (Int32.ofNat o)), .val (.int (Int32.ofNat len)), .val .null, .unset] [])) := entry rfl
  have c2 : Steps p.tables e below (s₁.setTop (entryFrame m #[.ref a, .ref b, .int (Int32.ofNat o), .int (Int32.ofNat len), .null] 6)) (s₁.setTop (mkF m 1 #[.val (.ref a), .val (.ref b), .val (.int (Int32.ofNat o)), .val (.int (Int32.ofNat len)), .val .null, .unset] [.ref a])) := c1.trans (by
    refine XS.aloadN X0.here hexec rfl (hb hbytes d0) rfl rfl ?_
    exact Steps.refl _)
  obtain ⟨T3, X3, q3, st3⟩ := X0.oinit hexec hown (wks W (objW "java/lang/String" 1)) (g := (mkF m 1 #[.val (.ref a), .val (.ref b), .val (.int (Int32.ofNat o)), .val (.int (Int32.ofNat len)), .val .null, .unset] [.ref a])) rfl (by rw [hml]; rfl) (rest := []) rfl (hb hbytes d1) (W := 0) (by show 2 * 0 + 0 ≤ _; decide) (Nat.le_of_ble_eq_true rfl) (Nat.le_of_ble_eq_true rfl)
  have hh3 := q3.trans hh0
  have c4 : Steps p.tables e below (s₁.setTop (entryFrame m #[.ref a, .ref b, .int (Int32.ofNat o), .int (Int32.ofNat len), .null] 6)) (T3.setTop (mkF m 27 #[.val (.ref a), .val (.ref b), .val (.int (Int32.ofNat o)), .val (.int (Int32.ofNat len)), .val .null, .unset] [])) := (c2.trans (st3 _ (Steps.refl _))).trans (by
    refine XS.iloadN X3.here hexec rfl (hb hbytes d4) rfl ?_
    refine XS.ifYes X3.here hexec rfl (pc0 := 5) rfl (hb hbytes d5) rfl (i0_ne_t (nz32 (by omega) l0)) (by decide) rfl ?_
    exact Steps.refl _)
  obtain ⟨T5, X5, q5, st5⟩ := X3.sget hexec hown (wk W (.fieldLink "java/lang/String" 38 "java/lang/String" "COMPACT_STRINGS" "Z")) s1 (fun _ _ h => by rw [hh3]; exact h) (g := (mkF m 27 #[.val (.ref a), .val (.ref b), .val (.int (Int32.ofNat o)), .val (.int (Int32.ofNat len)), .val .null, .unset] [])) rfl (hb hbytes d27)
  have hh5 := q5.trans hh3
  have c6 : Steps p.tables e below (s₁.setTop (entryFrame m #[.ref a, .ref b, .int (Int32.ofNat o), .int (Int32.ofNat len), .null] 6)) (T5.setTop (mkF m 30 #[.val (.ref a), .val (.ref b), .val (.int (Int32.ofNat o)), .val (.int (Int32.ofNat len)), .val .null, .unset] [.int z])) := c4.trans (st5 _ (Steps.refl _))
  have c7 : Steps p.tables e below (s₁.setTop (entryFrame m #[.ref a, .ref b, .int (Int32.ofNat o), .int (Int32.ofNat len), .null] 6)) (T5.setTop (mkF m 36 #[.val (.ref a), .val (.ref b), .val (.int (Int32.ofNat o)), .val (.int (Int32.ofNat len)), .val .null, .unset] [.int (Int32.ofNat len), .int (Int32.ofNat o), .ref b])) := c6.trans (by
    refine XS.ifNo X5.here hexec rfl (hb hbytes d30) rfl (i0_eq_f hz) ?_
    refine XS.aloadN X5.here hexec rfl (hb hbytes d33) rfl rfl ?_
    refine XS.iloadN X5.here hexec rfl (hb hbytes d34) rfl ?_
    refine XS.iloadN X5.here hexec rfl (hb hbytes d35) rfl ?_
    exact Steps.refl _)
  obtain ⟨v8, T8, X8, E8, g8⟩ := X5.callS hexec (Cmp3.law l b A o len) hown (wks W (staticW "java/lang/String" 177 Cmp3.yN)) (wk W Cmp3.tab) (W := 0) (Nat.le_of_ble_eq_true rfl) (Nat.le_of_ble_eq_true rfl) (Nat.le_refl _) (by show 0 + len ≤ len; omega) (g := (mkF m 36 #[.val (.ref a), .val (.ref b), .val (.int (Int32.ofNat o)), .val (.int (Int32.ofNat len)), .val .null, .unset] [.int (Int32.ofNat len), .int (Int32.ofNat o), .ref b])) rfl (by rw [hml]; rfl) c7 (argsL := [.ref b, .int (Int32.ofNat o), .int (Int32.ofNat len)]) (rest := []) rfl rfl (by show 2 * 0 + 0 ≤ _; decide) (hb hbytes d36) (⟨rfl, hA.mv X5.warmed.alike hh5, l1, l2, hp⟩)
  obtain ⟨e8, z8⟩ := E8
  obtain ⟨rfl, N, n1, n2, n3, n4, n5, n6⟩ := NewArr.mv _ T5 s _ _ hh5.symm (Vm.Alike.refl _) rfl e8
  rw [hh5] at z8
  have hB1 := hB.keep X8.warmed.alike (n6 _ _ hB.1)
  have hne : s.heap.size ≠ a := (Nat.ne_of_lt (Array.getElem?_eq_some_iff.mp hB.1).1).symm
  have c9 : Steps p.tables e below (s₁.setTop (entryFrame m #[.ref a, .ref b, .int (Int32.ofNat o), .int (Int32.ofNat len), .null] 6)) (T8.setTop (mkF m 39 #[.val (.ref a), .val (.ref b), .val (.int (Int32.ofNat o)), .val (.int (Int32.ofNat len)), .val .null, .unset] [.ref s.heap.size])) := g8
  have c10 : Steps p.tables e below (s₁.setTop (entryFrame m #[.ref a, .ref b, .int (Int32.ofNat o), .int (Int32.ofNat len), .null] 6)) (T8.setTop (mkF m 45 #[.val (.ref a), .val (.ref b), .val (.int (Int32.ofNat o)), .val (.int (Int32.ofNat len)), .val .null, .val (.ref s.heap.size)] [.int (Int32.ofNat N.slots.size), .ref s.heap.size, .ref a])) := by
    have hc : Steps p.tables e below (s₁.setTop (entryFrame m #[.ref a, .ref b, .int (Int32.ofNat o), .int (Int32.ofNat len), .null] 6)) (T8.setTop (mkF m 45 #[.val (.ref a), .val (.ref b), .val (.int (Int32.ofNat o)), .val (.int (Int32.ofNat len)), .val .null, .val (.ref s.heap.size)] [.int (Int32.ofNat len), .ref s.heap.size, .ref a])) := c9.trans (by
      refine XS.astore X8.here hexec rfl (hb hbytes d39) rfl rfl rfl ?_
      refine XS.aloadN X8.here hexec rfl (hb hbytes d41) rfl rfl ?_
      refine XS.aload X8.here hexec rfl (hb hbytes d42) rfl rfl ?_
      refine XS.iloadN X8.here hexec rfl (hb hbytes d44) rfl ?_
      exact Steps.refl _)
    rw [n4]; exact hc
  obtain ⟨v11, T11, X11, E11, g11⟩ := X8.callS hexec (CodL.law l s.heap.size N) hown (wks W (staticW "java/lang/String" 47 CodL.yN)) (wk W CodL.tab) (W := 1) (Nat.le_of_ble_eq_true rfl) (Nat.le_of_ble_eq_true rfl) (Nat.le_refl _) (by show 0 + len + 0 ≤ len; omega) (g := (mkF m 45 #[.val (.ref a), .val (.ref b), .val (.int (Int32.ofNat o)), .val (.int (Int32.ofNat len)), .val .null, .val (.ref s.heap.size)] [.int (Int32.ofNat N.slots.size), .ref s.heap.size, .ref a])) rfl (by rw [hml]; rfl) c10 (argsL := [.ref s.heap.size, .int (Int32.ofNat N.slots.size)]) (rest := [.ref a]) rfl rfl (by show 2 * 0 + (1 + 0) ≤ _; decide) (hb hbytes d45) (⟨rfl, n1⟩)
  obtain ⟨rfl, q11⟩ := E11
  have hB11 := hB1.mv (X8.warmed.alike.symm.trans X11.warmed.alike) q11
  have c12 : Steps p.tables e below (s₁.setTop (entryFrame m #[.ref a, .ref b, .int (Int32.ofNat o), .int (Int32.ofNat len), .null] 6)) (T11.setTop (mkF m 48 #[.val (.ref a), .val (.ref b), .val (.int (Int32.ofNat o)), .val (.int (Int32.ofNat len)), .val .null, .val (.ref s.heap.size)] [.int 0, .ref a])) := g11
  obtain ⟨T13, X13, p13, bl13, sl13, st13⟩ := X11.finit hexec hown (wk W (.fieldLink "java/lang/String" 15 "java/lang/String" "coder" "B")) (Or.inr ⟨_, (wk W (.laysFinal "java/lang/String" "java/lang/String" "coder" "B"))⟩) (Or.inl ⟨rfl, hnm⟩) f2 (Or.inl rfl) hB11 (t := .byte) (by decide +kernel) rfl (g := (mkF m 48 #[.val (.ref a), .val (.ref b), .val (.int (Int32.ofNat o)), .val (.int (Int32.ofNat len)), .val .null, .val (.ref s.heap.size)] [.int 0, .ref a])) rfl (rest := []) rfl (hb hbytes d48)
  have c14 : Steps p.tables e below (s₁.setTop (entryFrame m #[.ref a, .ref b, .int (Int32.ofNat o), .int (Int32.ofNat len), .null] 6)) (T13.setTop (mkF m 54 #[.val (.ref a), .val (.ref b), .val (.int (Int32.ofNat o)), .val (.int (Int32.ofNat len)), .val .null, .val (.ref s.heap.size)] [.ref s.heap.size, .ref a])) := (c12.trans (st13 _ (Steps.refl _))).trans (by
    refine XS.aloadN X13.here hexec rfl (hb hbytes d51) rfl rfl ?_
    refine XS.aload X13.here hexec rfl (hb hbytes d52) rfl rfl ?_
    exact Steps.refl _)
  obtain ⟨T15, X15, p15, bl15, sl15, st15⟩ := X13.finit hexec hown (wk W (.fieldLink "java/lang/String" 9 "java/lang/String" "value" "[B")) (Or.inr ⟨_, (wk W (.laysFinal "java/lang/String" "java/lang/String" "value" "[B"))⟩) (Or.inl ⟨rfl, hnm⟩) f1 (Or.inl rfl) bl13 (t := (.array .byte)) (by decide +kernel) rfl (g := (mkF m 54 #[.val (.ref a), .val (.ref b), .val (.int (Int32.ofNat o)), .val (.int (Int32.ofNat len)), .val .null, .val (.ref s.heap.size)] [.ref s.heap.size, .ref a])) rfl (rest := []) rfl (hb hbytes d54)
  have c16 : Steps p.tables e below (s₁.setTop (entryFrame m #[.ref a, .ref b, .int (Int32.ofNat o), .int (Int32.ofNat len), .null] 6)) (T15.setTop (mkF m 57 #[.val (.ref a), .val (.ref b), .val (.int (Int32.ofNat o)), .val (.int (Int32.ofNat len)), .val .null, .val (.ref s.heap.size)] [])) := c14.trans (st15 _ (Steps.refl _))
  have ap := apart (Or.inr ⟨_, (wk W (.laysFinal "java/lang/String" "java/lang/String" "value" "[B"))⟩) (Or.inr ⟨_, (wk W (.laysFinal "java/lang/String" "java/lang/String" "coder" "B"))⟩) f1 f2 (t₁ := .array .byte) (t₂ := .byte) (by decide +kernel) (by decide +kernel) (by decide)
  have al := X8.warmed.alike.symm.trans X15.warmed.alike
  have n7 : T11.heap[s.heap.size]? = some N := by rw [q11]; exact n1.1
  exact ⟨T15, none, _, _, _, X15, by simp, rfl, by omega, (fun _ => rfl), ⟨rfl, _, N, bl15, ((Same.refl D _).set _ (by simp)).set _ (by simp), sl15, (Cell.slots_setSlot_ne _ ap).trans sl13, n1.keep al (p15.other hne (p13.other hne n7)), n2, by rw [al.findClass]; exact n3, n4, n5, fun y c h1 h2 => p15.other h1 (p13.other h1 (by rw [q11]; exact n6 y c h2)), by rw [p15.2.2, p13.2.2, q11]; exact z8⟩, fun fs hl => c16.trans (X15.returnOut hexec hret (hb hbytes d57) hl)⟩
end New4
namespace New1
def yN : MethodName := ⟨"java/lang/String", "<init>", "([C)V"⟩
abbrev yB : ByteArray := jdk_42_method_3_code
theorem d0 : decode yB 0 = .ok (.aload_n 0, 1) := by decide +kernel
theorem d1 : decode yB 1 = .ok (.aload_n 1, 1) := by decide +kernel
theorem d2 : decode yB 2 = .ok (.iconst 0, 1) := by decide +kernel
theorem d3 : decode yB 3 = .ok (.aload_n 1, 1) := by decide +kernel
theorem d4 : decode yB 4 = .ok (.arraylength, 1) := by decide +kernel
theorem d5 : decode yB 5 = .ok (.aconst_null, 1) := by decide +kernel
theorem d6 : decode yB 6 = .ok (.invokespecial 27, 3) := by decide +kernel
theorem d9 : decode yB 9 = .ok (.return_, 1) := by decide +kernel
def site : List Cond := [New4.tab] ++ initW "java/lang/String" 27 New4.yN
def tab : Cond := tabOf yN yB 2 none site
def P (a : Addr) (D : Cell) (fV fC : Field) (b : Addr) (A : Cell) (z : Int32) (args : Array Value) (s : State) : Prop := args = #[.ref a, .ref b] ∧ Blank "java/lang/String" a D s ∧ Found "java/lang/String" "value" "[B" fV s ∧ Found "java/lang/String" "coder" "B" fC s ∧ Ch b A s ∧ StaticIs s "java/lang/String" "COMPACT_STRINGS" "Z" (.int z) ∧ ¬ z = 0 ∧ 0 < A.slots.size ∧ A.slots.size ≤ 536870912 ∧ ∀ i, i < A.slots.size → ¬ 255 < cv A i
def E (a : Addr) (D : Cell) (fV fC : Field) (A : Cell) (r : Option Value) (s u : State) : Prop := Got a D fV fC A 0 A.slots.size r s u
/-- new String(chars), not empty, no char above 255: a Latin-1 String of their low bytes -/
theorem law (l : Launch) (a : Addr) (D : Cell) (fV fC : Field) (b : Addr) (A : Cell) (z : Int32) : Law l yN 2 1 3 52 yB 2 none site (P a D fV fC b A z) (E a D fV fC A) [⟨a, fC.slot⟩, ⟨a, fV.slot⟩] 1 A.slots.size := by
  refine Law.of_walk (plainFor_of_name (by decide +kernel)) (by decide +kernel) (by decide +kernel) (by decide) (fun _ _ h => by rw [h.1]; rfl) (fun _ U U' hal hh h => ⟨h.1, h.2.1.mv hal hh, h.2.2.1.al hal, h.2.2.2.1.al hal, h.2.2.2.2.1.mv hal hh, h.2.2.2.2.2.1.there hal hh, h.2.2.2.2.2.2⟩) (fun r U U' V V' h1 hal h2 h => Got.mv r U U' V V' h1 hal h2 h) ?_
  intro p e s m args below meth c s₁ X0 hexec hbytes hml hret hlk hnm hown hh0 W hP
  obtain ⟨rfl, hB, f1, f2, hA, s1, hz, l0, l2, hp⟩ := hP
  have c1 : Steps p.tables e below (s₁.setTop (entryFrame m #[.ref a, .ref b] 2)) (s₁.setTop (mkF m 0 #[.val (.ref a), .val (.ref b)] [])) := entry rfl
  have c2 : Steps p.tables e below (s₁.setTop (entryFrame m #[.ref a, .ref b] 2)) (s₁.setTop (mkF m 6 #[.val (.ref a), .val (.ref b)] [.null, .int (Int32.ofNat A.slots.size), .int 0, .ref b, .ref a])) := c1.trans (by
    refine XS.aloadN X0.here hexec rfl (hb hbytes d0) rfl rfl ?_
    refine XS.aloadN X0.here hexec rfl (hb hbytes d1) rfl rfl ?_
    refine iconstV X0.here hexec rfl 0 (hb hbytes d2) (by decide) ?_
    refine XS.aloadN X0.here hexec rfl (hb hbytes d3) rfl rfl ?_
    refine X0.alen hexec (hA.1.mv X0.warmed.alike hh0) rfl rfl (hb hbytes d4) ?_
    refine XS.aconstNull X0.here hexec rfl (hb hbytes d5) ?_
    exact Steps.refl _)
  obtain ⟨v3, T3, X3, E3, g3⟩ := X0.callN hexec (New4.law l a D fV fC b A z 0 A.slots.size) rfl hown (wks W (initW "java/lang/String" 27 New4.yN)) (W New4.tab (by simp only [site, List.mem_cons, List.mem_append, true_or, or_true])) (W := 0) (Nat.le_of_ble_eq_true rfl) (Nat.le_of_ble_eq_true rfl) (Nat.le_refl _) (by show 0 + A.slots.size ≤ A.slots.size; omega) (g := (mkF m 6 #[.val (.ref a), .val (.ref b)] [.null, .int (Int32.ofNat A.slots.size), .int (Int32.ofNat 0), .ref b, .ref a])) rfl (by rw [hml]; rfl) c2 (argsL := [.ref b, .int (Int32.ofNat 0), .int (Int32.ofNat A.slots.size), .null]) (rest := []) rfl rfl (by show 2 * 0 + 0 ≤ _; decide) (hb hbytes d6) (⟨rfl, hB.mv X0.warmed.alike hh0, f1.al X0.warmed.alike, f2.al X0.warmed.alike, hA.mv X0.warmed.alike hh0, s1.there X0.warmed.alike hh0, hz, l0, by omega, l2, fun i hi => by rw [Nat.zero_add]; exact hp i hi⟩)
  have e0 := Got.mv _ s₁ s _ _ hh0.symm (Vm.Alike.refl _) rfl E3
  obtain rfl := e0.1
  have c4 : Steps p.tables e below (s₁.setTop (entryFrame m #[.ref a, .ref b] 2)) (T3.setTop (mkF m 9 #[.val (.ref a), .val (.ref b)] [])) := g3
  exact ⟨T3, none, _, _, _, X3, by simp, rfl, by omega, (fun _ => rfl), e0, fun fs hl => c4.trans (X3.returnOut hexec hret (hb hbytes d9) hl)⟩
theorem pays {l : Launch} {R : Room} {p : Program} {e : Env} {below : List Frame} {s : State} {sargs : Array Value} {len W : Nat} (a : Addr) (D : Cell) (fV fC : Field) (b : Addr) (A : Cell) (z : Int32) (htab : tab.before sargs s = true) (hfr : 4 ≤ R.frames) (hlo : W + 65 ≤ R.locals) :
    Back l R p e below s sargs yN len W (fun A₁ a₁ => A₁.cells + 1 ≤ R.cells ∧ A₁.slots + A.slots.size ≤ R.slots ∧ P a D fV fC b A z a₁ A₁.U) (fun A₁ _ v₁ B₁ => E a D fV fC A v₁ A₁.U B₁.U ∧ B₁.locs = A₁.locs ++ [⟨a, fC.slot⟩, ⟨a, fV.slot⟩] ∧ B₁.cells = A₁.cells + 1 ∧ B₁.slots = A₁.slots + A.slots.size) :=
  (law l a D fV fC b A z).pays htab hfr (by omega)
end New1
/-- the byte, read back as charAt reads it, is the char -/
theorem lo8_mask {x : Int32} (h0 : ¬ x < 0) (h1 : ¬ 255 < x) : lo8 x &&& 255 = x := by
  have t : ∀ k : Fin 256, lo8 (Int32.ofNat k.val) &&& 255 = Int32.ofNat k.val := by decide +kernel
  rw [Int32.lt_iff_toInt_lt] at h0 h1
  have e0 : (0 : Int32).toInt = 0 := rfl
  have e1 : (255 : Int32).toInt = 255 := rfl
  obtain ⟨k, hk⟩ : ∃ k : Nat, x.toInt = k := ⟨x.toInt.toNat, by omega⟩
  have hx : x = Int32.ofNat k := Int32.toInt_inj.mp (by rw [hk, Int32.toInt_ofNat_small (by omega)])
  rw [hx]
  exact t ⟨k, by omega⟩
end StrChars
namespace StrChars.Road
open Jvm Sem ClassFile Op Lib Jvm.Stand Jvm.Free Jvm.Free.XT
open Jvm.Lib.Cold (StaticIs)
abbrev ST : String := "java/lang/String"
/-- every table word that New1's law asks, flat -/
abbrev words : List Jvm.Cond := [.code New1.yN New1.yB 2 none, .initialized ST, .methodLink ST 27 New4.yN, .instanceMethod New4.yN,
  .code New4.yN New4.yB 6 none, .fieldLink ST 38 ST "COMPACT_STRINGS" "Z", .laysFinal ST ST "value" "[B", .fieldLink ST 9 ST "value" "[B", .laysFinal ST ST "coder" "B", .fieldLink ST 15 ST "coder" "B",
  .methodLink ST 1 Lib.objectInit, .instanceMethod Lib.objectInit, .code Lib.objectInit ⟨#[0xb1]⟩ 1 none, .methodLink ST 177 Cmp3.yN, .static Cmp3.yN, .methodLink ST 47 CodL.yN, .static CodL.yN,
  .code Cmp3.yN Cmp3.yB 6 (some (.array .byte)), .initialized U16, .arrayClass .byte, .methodLink U16 115 Cmp5.yN, .static Cmp5.yN, .code Cmp5.yN Cmp5.yB 7 (some .int), .code CodL.yN CodL.yB 2 (some .byte)]
theorem tab_of {a : Array Value} {s : State} (h : ∀ w ∈ words, w.before a s = true) : New1.tab.before a s = true := by
  have h5 : Cmp5.tab.before a s = true := unparts (wk h (.code Cmp5.yN Cmp5.yB 7 (some .int))) (wks h (.initialized Cmp5.yN.cls :: Cmp5.site))
  have hc : CodL.tab.before a s = true := unparts (wk h (.code CodL.yN CodL.yB 2 (some .byte))) (wks h (.initialized CodL.yN.cls :: CodL.site))
  have q5 : ∀ w ∈ Cmp5.tab :: words, w.before a s = true := fun w hw => (List.mem_cons.mp hw).elim (fun e => e ▸ h5) (h w)
  have h3 : Cmp3.tab.before a s = true := unparts (wk q5 (.code Cmp3.yN Cmp3.yB 6 (some (.array .byte)))) (wks q5 (.initialized Cmp3.yN.cls :: Cmp3.site))
  have q3 : ∀ w ∈ Cmp3.tab :: CodL.tab :: words, w.before a s = true := fun w hw => (List.mem_cons.mp hw).elim (fun e => e ▸ h3) fun hw => (List.mem_cons.mp hw).elim (fun e => e ▸ hc) (h w)
  have h4 : New4.tab.before a s = true := unparts (wk q3 (.code New4.yN New4.yB 6 none)) (wks q3 (.initialized New4.yN.cls :: New4.site))
  have q4 : ∀ w ∈ New4.tab :: words, w.before a s = true := fun w hw => (List.mem_cons.mp hw).elim (fun e => e ▸ h4) (h w)
  exact unparts (wk q4 (.code New1.yN New1.yB 2 none)) (wks q4 (.initialized New1.yN.cls :: New1.site))
/-- the words ride from the start Z to the walk's own state -/
theorem moved {Z s : State} {a0 args : Array Value} (hZ : Z.Warmed39 s.vm) (hw : ∀ d ∈ words, d.before a0 Z = true) : ∀ d ∈ words, d.before args s = true := fun d hd => by
  have q := hw d hd
  have t : ∀ d ∈ words, d = .arrayClass .byte ∨ (d.onTables && d.keepsFace) = true := by decide +kernel
  rcases t d hd with rfl | t
  · exact RoadKit.mvA hZ q
  · exact RoadKit.mv hZ q t
/-- WHAT COMES BACK, over the tables of the start Z: h the heap at the call, h' behind it -/
def Q (Z : State) (x : Addr) (A : Cell) (h : Heap) (v : Option Value) (h' : Heap) (L : List Loc) : Prop := v = none ∧ (∀ y ∈ L, y.base = x) ∧ RoadKit.Keep h h' [x] ∧ h'.size = h.size + 1 ∧ RoadKit.Exa Z h' x ST ∧ RoadKit.Fld Z h' x ST "value" "[B" (.ref h.size) ∧ RoadKit.Fld Z h' x ST "coder" "B" (.int 0) ∧
  (∃ V : Cell, RoadKit.Arr Z h' h.size V .byte ∧ V.vm = .none ∧ Z.vm.findClass "[B" = some V.cls ∧ V.slots.size = A.slots.size ∧ ∀ j, j < A.slots.size → V.slots[j]? = some (.int (lo8 (cv A j)))) ∧
  ∀ (O n d : String) (w : Value), RoadKit.Fld Z h x O n d w → RoadKit.slotOf Z O n d ≠ RoadKit.slotOf Z ST "value" "[B" → RoadKit.slotOf Z O n d ≠ RoadKit.slotOf Z ST "coder" "B" → RoadKit.Fld Z h' x O n d w
/-- **new String(chars) AT A CALL, IN THE ROAD'S FORM**: for specialBack behind newO: x the fresh String, b the char[] with the cell A -/
theorem back {p : Program} {l : Launch} {e : Env} {R : Room} {s : State} {args : Array Value} {below : List Frame} {len W : Nat} {Z : State} {a0 : Array Value} {h : Heap} (hZ : Z.Warmed39 s.vm) (hw : ∀ d ∈ words, d.before a0 Z = true) {kI : Nat} (wi : (Jvm.Cond.instantiable ST kI).before a0 Z = true)
    {x b : Addr} {A : Cell} {z : Int32} {v0 c0 : Value} (E : RoadKit.Exa Z h x ST) (V : RoadKit.Fld Z h x ST "value" "[B" v0) (C : RoadKit.Fld Z h x ST "coder" "B" c0) (K : RoadKit.Arr Z h b A .char) (hty : Typed .char A) (S : RoadKit.Sta Z h ST "COMPACT_STRINGS" "Z" (.int z)) (hz : ¬ z = 0)
    (l0 : 0 < A.slots.size) (l2 : A.slots.size ≤ 536870912) (hp : ∀ i, i < A.slots.size → ¬ 255 < cv A i) (hfr : 4 ≤ R.frames) (hlo : W + 65 ≤ R.locals) :
    Back l R p e below s args New1.yN len W (fun P a => a = #[.ref x, .ref b] ∧ P.U.heap = h ∧ P.cells + 1 ≤ R.cells ∧ P.slots + A.slots.size ≤ R.slots)
      (fun P _ v B => ∃ L, Q Z x A h v B.U.heap L ∧ B.locs = P.locs ++ L ∧ B.cells = P.cells + 1 ∧ B.slots = P.slots + A.slots.size) := by
  intro m meth c P g ig mk a X hg hsize hdg hW hn hp'
  obtain ⟨rfl, rfl, r1, r2⟩ := hp'
  have al : Z.vm.Alike P.U.vm := hZ.alike.trans X.warmed.alike
  obtain ⟨D, cfV, kV, iV, fV, hD, gV, stV, knV, obV, asV, slV⟩ := id V
  obtain ⟨D', cfC, kC, iC, fC, hD', gC, stC, -, -, asC, slC⟩ := id C
  cases hD.symm.trans hD'
  obtain ⟨D2, kD, e1, e2, e3, e4, e5⟩ := id E
  cases hD.symm.trans e1
  obtain ⟨c2, k2, i1, i2, i3, -⟩ := Cond.instantiable_spec wi
  cases e2.symm.trans i1
  cases e3.symm.trans i2
  obtain ⟨kU, u1, u2⟩ := al.2.2 _ _ e3
  have hB : Blank ST x D P.U := ⟨hD, ⟨knV, fun q hq => by rw [hq] at obV; cases obV⟩, by rw [al.findClass]; exact e2, kU, u1, by rw [u2]; exact i3, by rw [u2]; exact e5 i3⟩
  have F1 : Found ST "value" "[B" fV P.U := ⟨SBG.found_only al ⟨cfV, kV, iV, gV⟩, stV⟩
  have F2 : Found ST "coder" "B" fC P.U := ⟨SBG.found_only al ⟨cfC, kC, iC, gC⟩, stC⟩
  have hA : Ch b A P.U := ⟨⟨K.1, State.isArrayOf_alike al K.2.1, K.2.2, by omega⟩, hty⟩
  have hS : StaticIs P.U ST "COMPACT_STRINGS" "Z" (.int z) := by
    obtain ⟨cfS, iS, kS, fS, st, cS, t1, t2, t3, t4, t5, t6, t7⟩ := S
    exact StaticIs.there (s := { Z with heap := P.U.heap }) ⟨cfS, iS, kS, fS, st, cS, t1, t2, t3, t4, t5, (fun q => by rw [q] at t6; cases t6), t7⟩ al rfl
  obtain ⟨v, B, X', ⟨⟨hv, E', V', q1, q2, q3, q4, q5, q6, q7, q8, q9, q10, q11⟩, hl, hc, hs⟩, st⟩ := New1.pays x D fV fC b A z (tab_of (moved hZ hw)) hfr hlo m meth c P g ig mk _ X hg hsize hdg hW hn ⟨r1, r2, rfl, hB, F1, F2, hA, hS, hz, l0, l2, hp⟩
  have al' : Z.vm.Alike B.U.vm := hZ.alike.trans X'.warmed.alike
  have hsz : E'.slots.size = D.slots.size := by
    obtain ⟨-, -, -, kB, w1, w2, w3⟩ := q1
    obtain ⟨kB', y1, y2⟩ := al'.2.2 _ _ e3
    rw [q2.2.1] at w1
    cases w1.symm.trans y1
    rw [w3, e5 i3, y2]
  refine ⟨v, B, X', ⟨_, ⟨hv, ?_, ⟨by omega, fun y cy hy hn' => q10 y cy (by simpa using hn') hy, fun y cy hy => ?_⟩, q11, ⟨E', _, q1.1, by rw [q2.2.1]; exact e2, by rw [q2.2.1]; exact e3, by rw [q2.1]; exact obV, fun _ => by rw [hsz]; exact e5 i3⟩,
    ⟨E', cfV, kV, iV, fV, q1.1, gV, stV, by rw [q2.1]; exact knV, by rw [q2.1]; exact obV, by rw [q2.2.1]; exact asV, q3⟩, ⟨E', cfC, kC, iC, fC, q1.1, gC, stC, by rw [q2.1]; exact knV, by rw [q2.1]; exact obV, by rw [q2.2.1]; exact asC, q4⟩,
    ⟨V', ⟨q5.1, State.isArrayOf_alike al'.symm q5.2.1, q5.2.2.1⟩, q6, by rw [← al'.findClass]; exact q7, q8, fun j hj => by have := q9 j hj; rwa [Nat.zero_add] at this⟩, fun O n d w F n1 n2 => ?_⟩, hl, hc, hs⟩, st⟩
  · intro y hy
    simp only [List.mem_cons, List.not_mem_nil, or_false] at hy
    rcases hy with rfl | rfl <;> rfl
  · by_cases q : y = x
    · subst q
      cases hD.symm.trans hy
      exact ⟨E', q1.1, q2.2.1, q2.1, hsz⟩
    · exact ⟨cy, q10 y cy q hy, rfl, rfl, rfl⟩
  · obtain ⟨D3, cf, k, i, f, g1, g2, g3, g4, g5, g6, g7⟩ := F
    cases hD.symm.trans g1
    simp only [RoadKit.slotOf, g2, gV, gC, Option.map_some, Option.getD_some] at n1 n2
    exact ⟨E', cf, k, i, f, q1.1, g2, g3, by rw [q2.1]; exact g4, by rw [q2.1]; exact g5, by rw [q2.2.1]; exact g6, by rw [q2.2.2 f.slot (by simp [n1, n2])]; exact g7⟩
end StrChars.Road
namespace StrChars.Road
open Jvm Sem ClassFile Op Lib Jvm.Stand Jvm.Free Jvm.Free.XT
/-- WHAT COMES BACK, the byte[] as a list of values -/
def QA (Z : State) (x : Addr) (zn : Int32) (cs : List Int32) (h : Heap) (v : Option Value) (h' : Heap) (L : List Loc) : Prop := v = none ∧ (∀ y ∈ L, y.base = x) ∧ RoadKit.Keep h h' [x] ∧ h'.size = h.size + 1 ∧ RoadKit.Exa Z h' x ST ∧ RoadKit.Fld Z h' x ST "value" "[B" (.ref h.size) ∧ RoadKit.Fld Z h' x ST "coder" "B" (.int 0) ∧
  (∃ kb, Z.vm.findClass "[B" = some kb ∧ RoadKit.Arv Z h' h.size kb .byte zn (cs.map fun c => .int (lo8 c)) (.int 0)) ∧
  ∀ (O n d : String) (w : Value), RoadKit.Fld Z h x O n d w → RoadKit.slotOf Z O n d ≠ RoadKit.slotOf Z ST "value" "[B" → RoadKit.slotOf Z O n d ≠ RoadKit.slotOf Z ST "coder" "B" → RoadKit.Fld Z h' x O n d w
/-- **new String(chars) AT A CALL, THE ARRAYS AS LISTS**: the char[] at b holds cs, not empty, no char above 255 -/
theorem backArv {p : Program} {l : Launch} {e : Env} {R : Room} {s : State} {args : Array Value} {below : List Frame} {len W : Nat} {Z : State} {a0 : Array Value} {h : Heap} (hZ : Z.Warmed39 s.vm) (hw : ∀ d ∈ words, d.before a0 Z = true) {kI : Nat} (wi : (Jvm.Cond.instantiable ST kI).before a0 Z = true)
    {x b : Addr} {k : ClassId} {zn z : Int32} {cs : List Int32} {dv v0 c0 : Value} (E : RoadKit.Exa Z h x ST) (V : RoadKit.Fld Z h x ST "value" "[B" v0) (C : RoadKit.Fld Z h x ST "coder" "B" c0) (K : RoadKit.Arv Z h b k .char zn (cs.map Value.int) dv) (S : RoadKit.Sta Z h ST "COMPACT_STRINGS" "Z" (.int z)) (hz : ¬ z = 0)
    (hlen : zn.toNatClampNeg = cs.length) (h0 : 0 < cs.length) (hbig : cs.length ≤ 536870912) (hall : ∀ c ∈ cs, ¬ 255 < c) (hfr : 4 ≤ R.frames) (hlo : W + 65 ≤ R.locals) :
    Back l R p e below s args New1.yN len W (fun P a => a = #[.ref x, .ref b] ∧ P.U.heap = h ∧ P.cells + 1 ≤ R.cells ∧ P.slots + cs.length ≤ R.slots)
      (fun P _ v B => ∃ L, QA Z x zn cs h v B.U.heap L ∧ B.locs = P.locs ++ L ∧ B.cells = P.cells + 1 ∧ B.slots = P.slots + cs.length) := by
  obtain ⟨A, K1, K2, K3, K4, K5, K6⟩ := K
  have e : A.slots.size = cs.length := K3.trans hlen
  have hat : ∀ (i : Nat) (hi : i < cs.length), A.slots[i]? = some (.int cs[i]) := fun i hi => by rw [K5 i (by omega)]; simp [List.getD_eq_getElem?_getD, hi]
  have hcv : ∀ (i : Nat) (hi : i < cs.length), cv A i = cs[i] := fun i hi => by unfold cv; rw [hat i hi]
  have hty : Typed .char A := fun i v hv => by
    have hi : i < A.slots.size := (Array.getElem?_eq_some_iff.mp hv).1
    have q := K5 i hi
    rw [hv] at q
    rw [Option.some.inj q]
    exact K6 i hi
  refine Back.mono (back hZ hw wi E V C K1 hty S hz (by omega) (by omega) (fun i hi => by rw [hcv i (by omega)]; exact hall _ (List.getElem_mem _)) hfr hlo) (fun P a hp => ⟨hp.1, hp.2.1, hp.2.2.1, by rw [e]; exact hp.2.2.2⟩) (fun P a v B hp hq => ?_)
  obtain ⟨L, ⟨q1, q2, q3, q4, q5, q6, q7, ⟨V', v1, v2, v3, v4, v5⟩, q9⟩, hl, hc, hs⟩ := hq
  refine ⟨L, ⟨q1, q2, q3, q4, q5, q6, q7, ⟨V'.cls, v3, V', v1, rfl, by rw [v4, e, hlen], K4, fun i hi => ?_, fun i hi => ?_⟩, q9⟩, hl, hc, by rw [hs, e]⟩
  · have hi' : i < cs.length := by omega
    rw [v5 i (by omega), hcv i hi']; simp [List.getD_eq_getElem?_getD, hi']
  · have hi' : i < cs.length := by omega
    simp only [List.getD_eq_getElem?_getD, List.getElem?_map, List.getElem?_eq_getElem hi', Option.map_some, Option.getD_some]
    exact fits_lo8 _
end StrChars.Road
namespace StrChars
open Jvm Sem ClassFile Op Lib Jvm.Stand Jvm.Free.XT Jvm.Free.ALB Jvm.Free.JM Jvm.Free
open Jvm.Lib.Cold (StaticIs)
def hi8 (x : Int32) : Int32 := lo8 (x >>> ((8 : Int32) &&& 31))
/-- what StringUTF16.getChar makes of two bytes -/
def pairCh (u v : Int32) : Int32 := (((u &&& 255) <<< ((0 : Int32) &&& 31)) ||| ((v &&& 255) <<< ((8 : Int32) &&& 31))).toUInt32.toUInt16.toUInt32.toInt32
theorem lo8_and (x : Int32) : (lo8 x &&& 255).toBitVec.toNat = x.toBitVec.toNat % 256 := by
  have h : (lo8 x).toBitVec = (x.toBitVec.signExtend 8).signExtend 32 := by rw [lo8, Int8.toBitVec_toInt32, Int32.toBitVec_toInt8]
  rw [Int32.toBitVec_and, BitVec.toNat_and, h]
  have e : ((x.toBitVec.signExtend 8).signExtend 32).toNat % 256 = x.toBitVec.toNat % 256 := by
    rw [BitVec.toNat_signExtend]
    have hlt := x.toBitVec.isLt
    simp only [BitVec.toNat_setWidth, BitVec.toNat_signExtend]
    split <;> split <;> omega
  rw [← e]
  exact Nat.and_two_pow_sub_one_eq_mod _ 8
theorem pair_says {c : Int32} (h0 : ¬ c < 0) (h1 : ¬ 65535 < c) : pairCh (lo8 c) (hi8 c) = c := by
  rw [Int32.lt_iff_toInt_lt] at h0 h1
  have e0 : (0 : Int32).toInt = 0 := rfl
  have e1 : (65535 : Int32).toInt = 65535 := rfl
  have hc : c.toInt = c.toBitVec.toNat := by
    have := c.toBitVec.isLt
    have e : c.toInt = c.toBitVec.toInt := rfl
    rw [e] at h0 h1
    rw [e]
    rw [BitVec.toInt_eq_toNat_cond] at h0 h1 ⊢
    split at h0 <;> split <;> omega
  have hn : c.toBitVec.toNat < 65536 := by omega
  have a1 := lo8_and c
  have a2 : (hi8 c &&& 255).toBitVec.toNat = c.toBitVec.toNat / 256 := by
    rw [hi8, lo8_and]
    have e : ((8 : Int32) &&& 31) = 8 := by decide
    rw [e, Int32.toBitVec_shiftRight]
    have e2 : ((8 : Int32).toBitVec.smod 32) = 8#32 := by decide
    rw [e2, BitVec.sshiftRight_eq', BitVec.toNat_sshiftRight_of_msb_false (by rw [BitVec.msb_eq_false_iff_two_mul_lt]; omega)]
    show c.toBitVec.toNat >>> 8 % 256 = _
    rw [Nat.shiftRight_eq_div_pow]
    omega
  unfold pairCh
  apply Int32.toBitVec_inj.mp
  apply BitVec.eq_of_toNat_eq
  have f0 : ((0 : Int32) &&& 31) = 0 := by decide
  have f8 : ((8 : Int32) &&& 31) = 8 := by decide
  rw [f0, f8]
  have g : (((lo8 c &&& 255) <<< (0 : Int32)) ||| ((hi8 c &&& 255) <<< (8 : Int32))).toBitVec.toNat = c.toBitVec.toNat := by
    rw [Int32.toBitVec_or, Int32.toBitVec_shiftLeft, Int32.toBitVec_shiftLeft]
    have s0 : ((0 : Int32).toBitVec.smod 32) = 0#32 := by decide
    have s8 : ((8 : Int32).toBitVec.smod 32) = 8#32 := by decide
    rw [s0, s8, BitVec.toNat_or]
    simp only [BitVec.shiftLeft_eq', BitVec.toNat_shiftLeft, a1, a2]
    show (c.toBitVec.toNat % 256) <<< 0 % 2 ^ 32 ||| (c.toBitVec.toNat / 256) <<< 8 % 2 ^ 32 = _
    rw [Nat.shiftLeft_zero, Nat.mod_eq_of_lt (show c.toBitVec.toNat % 256 < 2 ^ 32 by omega), Nat.mod_eq_of_lt (show (c.toBitVec.toNat / 256) <<< 8 < 2 ^ 32 by rw [Nat.shiftLeft_eq]; omega), Nat.or_comm, ← Nat.shiftLeft_add_eq_or_of_lt (by omega), Nat.shiftLeft_eq]
    omega
  show BitVec.toNat (((((lo8 c &&& 255) <<< (0 : Int32)) ||| ((hi8 c &&& 255) <<< (8 : Int32))).toBitVec.setWidth 16).setWidth 32) = _
  rw [BitVec.toNat_setWidth, BitVec.toNat_setWidth, g]
  omega
end StrChars
namespace StrChars
open Jvm Sem ClassFile Op Lib Jvm.Stand Jvm.Free.XT Jvm.Free.ALB Jvm.Free.JM Jvm.Free
open Jvm.Lib.Cold (StaticIs)
/-- the array's cell V codes the n chars f 0 .. f (n - 1) by the coder cd, as the JDK does: coder 1 just where some char is above 255 -/
def Cod (cd : Int32) (n : Nat) (f : Nat → Int32) (V : Cell) : Prop := (cd = 0 ∧ V.slots.size = n ∧ ∀ j, j < n → V.slots[j]? = some (.int (lo8 (f j))) ∧ ¬ 255 < f j) ∨ (cd = 1 ∧ V.slots.size = 2 * n ∧ (∀ j, j < n → V.slots[2 * j]? = some (.int (lo8 (f j))) ∧ V.slots[2 * j + 1]? = some (.int (hi8 (f j)))) ∧ ∃ j, j < n ∧ 255 < f j)
/-- **x is a String of the n chars f 0 .. f (n - 1)**, Latin-1 or UTF-16; its array at t has the cell V -/
def Txt (x t : Addr) (V : Cell) (cd : Int32) (n : Nat) (f : Nat → Int32) (U : State) : Prop := Exact "java/lang/String" x U ∧ Has x "java/lang/String" "value" "[B" (.ref t) U ∧ Has x "java/lang/String" "coder" "B" (.int cd) U ∧ XT.Arr .byte t V U ∧ Cod cd n f V ∧ ∀ j, j < n → ¬ f j < 0 ∧ ¬ 65535 < f j
theorem Txt.mv {x t : Addr} {V : Cell} {cd : Int32} {n : Nat} {f : Nat → Int32} {U U' : State} (h : Txt x t V cd n f U) (hal : U.vm.Alike U'.vm) (hh : U'.heap = U.heap) : Txt x t V cd n f U' := ⟨h.1.mv hal hh, h.2.1.mv hal hh, h.2.2.1.mv hal hh, h.2.2.2.1.mv hal hh, h.2.2.2.2⟩
end StrChars
namespace StrChars.Road
open Jvm Sem ClassFile Op Lib Jvm.Stand Jvm.Free Jvm.Free.XT
open Jvm.Lib.Cold (StaticIs)
theorem consq {a : Array Value} {s : State} {c : Jvm.Cond} {L : List Jvm.Cond} (h0 : c.before a s = true) (h : ∀ w ∈ L, w.before a s = true) : ∀ w ∈ c :: L, w.before a s = true := fun w hw => (List.mem_cons.mp hw).elim (fun e => e ▸ h0) (h w)
/-- the bytes of the chars cs, low before high -/
def wideBytes : List Int32 → List Value
  | [] => []
  | c :: cs => .int (lo8 c) :: .int (hi8 c) :: wideBytes cs
theorem wide_lo (d : Value) : ∀ (cs : List Int32) (j : Nat), j < cs.length → (wideBytes cs).getD (2 * j) d = .int (lo8 (cs.getD j 0))
  | [], j, h => absurd h (Nat.not_lt_zero j)
  | c :: cs, 0, _ => rfl
  | c :: cs, j + 1, h => by
    have q := wide_lo d cs j (by simpa using h)
    rw [show 2 * (j + 1) = 2 * j + 1 + 1 from by omega]
    simpa [wideBytes] using q
theorem wide_hi (d : Value) : ∀ (cs : List Int32) (j : Nat), j < cs.length → (wideBytes cs).getD (2 * j + 1) d = .int (hi8 (cs.getD j 0))
  | [], j, h => absurd h (Nat.not_lt_zero j)
  | c :: cs, 0, _ => rfl
  | c :: cs, j + 1, h => by
    have q := wide_hi d cs j (by simpa using h)
    rw [show 2 * (j + 1) + 1 = 2 * j + 1 + 1 + 1 from by omega]
    simpa [wideBytes] using q
theorem low_at (d : Value) (cs : List Int32) (j : Nat) (h : j < cs.length) : (cs.map fun c => Value.int (lo8 c)).getD j d = .int (lo8 (cs.getD j 0)) := by
  simp [List.getD_eq_getElem?_getD, h]
/-- an array of N2 bytes vs codes the chars cs by the coder cd -/
def CodA (cs : List Int32) (cd N2 : Int32) (vs : List Value) : Prop := (cd = 0 ∧ N2 = Int32.ofNat cs.length ∧ vs = (cs.map fun c => Value.int (lo8 c)) ∧ ∀ c ∈ cs, ¬ 255 < c) ∨ (cd = 1 ∧ N2 = Int32.ofNat (2 * cs.length) ∧ vs = wideBytes cs ∧ ∃ c ∈ cs, 255 < c)
theorem CodA.cod {cs : List Int32} {cd N2 : Int32} {vs : List Value} {V : Cell} (h : CodA cs cd N2 vs) (hn : 2 * cs.length < 2 ^ 31) (hs : V.slots.size = N2.toNatClampNeg) (hv : RoadKit.Has V vs (.int 0)) : Cod cd cs.length (fun j => cs.getD j 0) V := by
  rcases h with ⟨rfl, rfl, rfl, h⟩ | ⟨rfl, rfl, rfl, c, hc, hw⟩
  · rw [n32 (by omega)] at hs
    exact Or.inl ⟨rfl, hs, fun j hj => ⟨by rw [hv j (by omega), low_at _ _ _ hj], by
      have e : cs.getD j 0 = cs[j] := by simp [List.getD_eq_getElem?_getD, hj]
      show ¬ 255 < cs.getD j 0
      rw [e]; exact h _ (List.getElem_mem _)⟩⟩
  · rw [n32 (by omega)] at hs
    obtain ⟨j, hj, rfl⟩ := List.getElem_of_mem hc
    exact Or.inr ⟨rfl, hs, fun j hj => ⟨by rw [hv _ (by omega), wide_lo _ _ _ hj], by rw [hv _ (by omega), wide_hi _ _ _ hj]⟩, j, hj, by
      have e : cs.getD j 0 = cs[j] := by simp [List.getD_eq_getElem?_getD, hj]
      show 255 < cs.getD j 0
      rw [e]; exact hw⟩
/-- an object of exactly java/lang/String, its two fields found: as the laws ask it -/
theorem strObj {Z U : State} {a0 : Array Value} {kI : Nat} (wi : (Jvm.Cond.instantiable ST kI).before a0 Z = true) (al : Z.vm.Alike U.vm) {x : Addr} {v0 c0 : Value} (E : RoadKit.Exa Z U.heap x ST) (V : RoadKit.Fld Z U.heap x ST "value" "[B" v0) (C : RoadKit.Fld Z U.heap x ST "coder" "B" c0) :
    ∃ (D : Cell) (fV fC : Field), Blank ST x D U ∧ Found ST "value" "[B" fV U ∧ Found ST "coder" "B" fC U ∧ D.slots[fV.slot]? = some v0 ∧ D.slots[fC.slot]? = some c0 ∧ RoadKit.slotOf Z ST "value" "[B" = fV.slot ∧ RoadKit.slotOf Z ST "coder" "B" = fC.slot := by
  obtain ⟨D, cfV, kV, iV, fV, hD, gV, stV, knV, obV, asV, slV⟩ := V
  obtain ⟨D', cfC, kC, iC, fC, hD', gC, stC, -, -, asC, slC⟩ := C
  cases hD.symm.trans hD'
  obtain ⟨D2, kD, e1, e2, e3, e4, e5⟩ := E
  cases hD.symm.trans e1
  obtain ⟨c2, k2, i1, i2, i3, -⟩ := Cond.instantiable_spec wi
  cases e2.symm.trans i1
  cases e3.symm.trans i2
  obtain ⟨kU, u1, u2⟩ := al.2.2 _ _ e3
  exact ⟨D, fV, fC, ⟨hD, ⟨knV, fun q hq => by rw [hq] at obV; cases obV⟩, by rw [al.findClass]; exact e2, kU, u1, by rw [u2]; exact i3, by rw [u2]; exact e5 i3⟩, ⟨SBG.found_only al ⟨cfV, kV, iV, gV⟩, stV⟩, ⟨SBG.found_only al ⟨cfC, kC, iC, gC⟩, stC⟩, slV, slC, by simp [RoadKit.slotOf, gV], by simp [RoadKit.slotOf, gC]⟩
theorem sta_is {Z U : State} (al : Z.vm.Alike U.vm) {C n d : String} {v : Value} (S : RoadKit.Sta Z U.heap C n d v) : StaticIs U C n d v := by
  obtain ⟨cfS, iS, kS, fS, st, cS, t1, t2, t3, t4, t5, t6, t7⟩ := S
  exact StaticIs.there (s := { Z with heap := U.heap }) ⟨cfS, iS, kS, fS, st, cS, t1, t2, t3, t4, t5, (fun q => by rw [q] at t6; cases t6), t7⟩ al rfl
end StrChars.Road
namespace StrChars
open Jvm Sem ClassFile Op Lib Jvm.Stand Jvm.Free.XT Jvm.Free.ALB Jvm.Free.JM Jvm.Free
open Jvm.Lib.Cold (StaticIs)
/-- what place i of a byte[]'s cell holds -/
def yv (A : Cell) (i : Nat) : Int32 := match A.slots[i]? with | some (.int x) => x | _ => 0
theorem yv_get {a : Addr} {A : Cell} {U : State} (h : XT.Arr .byte a A U) (ht : Typed .byte A) {i : Nat} (hi : i < A.slots.size) : A.slots[i]? = some (.int (yv A i)) := by
  have e := Array.getElem?_eq_getElem hi
  have f := ht i _ e
  unfold yv; rw [e]
  generalize A.slots[i] = v at f
  cases v <;> simp [fits] at f ⊢
/-- the two arrays are equal, place for place -/
def EqC (A B : Cell) : Prop := A.slots.size = B.slots.size ∧ ∀ i, i < A.slots.size → yv A i = yv B i
/-- a boolean that says whether p -/
def Says01 (q : Prop) (r : Option Value) (s u : State) : Prop := ∃ v : Int32, r = some (.int v) ∧ u.heap = s.heap ∧ ((v = 1 ∧ q) ∨ (v = 0 ∧ ¬ q))
theorem Says01.mv {q : Prop} : ∀ r (U U' V V' : State), U'.heap = U.heap → V.vm.Alike V'.vm → V'.heap = V.heap → Says01 q r U V → Says01 q r U' V' :=
  fun r U U' V V' h1 _ h2 ⟨v, a, b, c⟩ => ⟨v, a, by rw [h1, h2]; exact b, c⟩
namespace LEq
def yN : MethodName := ⟨"java/lang/StringLatin1", "equals", "([B[B)Z"⟩
abbrev yB : ByteArray := jdk_43_method_13_code
theorem d0 : decode yB 0 = .ok (.aload_n 0, 1) := by decide +kernel
theorem d1 : decode yB 1 = .ok (.arraylength, 1) := by decide +kernel
theorem d2 : decode yB 2 = .ok (.aload_n 1, 1) := by decide +kernel
theorem d3 : decode yB 3 = .ok (.arraylength, 1) := by decide +kernel
theorem d4 : decode yB 4 = .ok (.if_icmp (.ne) 30, 3) := by decide +kernel
theorem d7 : decode yB 7 = .ok (.iconst 0, 1) := by decide +kernel
theorem d8 : decode yB 8 = .ok (.istore_n 2, 1) := by decide +kernel
theorem d9 : decode yB 9 = .ok (.iload_n 2, 1) := by decide +kernel
theorem d10 : decode yB 10 = .ok (.aload_n 0, 1) := by decide +kernel
theorem d11 : decode yB 11 = .ok (.arraylength, 1) := by decide +kernel
theorem d12 : decode yB 12 = .ok (.if_icmp (.ge) 20, 3) := by decide +kernel
theorem d15 : decode yB 15 = .ok (.aload_n 0, 1) := by decide +kernel
theorem d16 : decode yB 16 = .ok (.iload_n 2, 1) := by decide +kernel
theorem d17 : decode yB 17 = .ok (.baload, 1) := by decide +kernel
theorem d18 : decode yB 18 = .ok (.aload_n 1, 1) := by decide +kernel
theorem d19 : decode yB 19 = .ok (.iload_n 2, 1) := by decide +kernel
theorem d20 : decode yB 20 = .ok (.baload, 1) := by decide +kernel
theorem d21 : decode yB 21 = .ok (.if_icmp (.eq) 5, 3) := by decide +kernel
theorem d24 : decode yB 24 = .ok (.iconst 0, 1) := by decide +kernel
theorem d25 : decode yB 25 = .ok (.ireturn, 1) := by decide +kernel
theorem d26 : decode yB 26 = .ok (.iinc 2 1, 3) := by decide +kernel
theorem d29 : decode yB 29 = .ok (.goto (-20), 3) := by decide +kernel
theorem d32 : decode yB 32 = .ok (.iconst 1, 1) := by decide +kernel
theorem d33 : decode yB 33 = .ok (.ireturn, 1) := by decide +kernel
theorem d34 : decode yB 34 = .ok (.iconst 0, 1) := by decide +kernel
theorem d35 : decode yB 35 = .ok (.ireturn, 1) := by decide +kernel
def site : List Cond := []
def tab : Cond := tabOf yN yB 3 (some .boolean) site
def P (a : Addr) (A : Cell) (b : Addr) (B : Cell) (args : Array Value) (s : State) : Prop := args = #[.ref a, .ref b] ∧ XT.Arr .byte a A s ∧ Typed .byte A ∧ XT.Arr .byte b B s ∧ Typed .byte B
/-- whether two byte[] are equal, place for place -/
theorem law (l : Launch) (a : Addr) (A : Cell) (b : Addr) (B : Cell) : Law l yN 2 2 0 0 yB 3 (some .boolean) site (P a A b B) (Says01 (EqC A B)) [] 0 0 := by
  refine Law.of_walk (plainFor_of_name (by decide +kernel)) (by decide +kernel) (by decide +kernel) (by decide) (fun _ _ h => by rw [h.1]; rfl) (fun _ U U' hal hh h => ⟨h.1, h.2.1.mv hal hh, h.2.2.1, h.2.2.2.1.mv hal hh, h.2.2.2.2⟩) (fun r U U' V V' h1 hal h2 h => Says01.mv r U U' V V' h1 hal h2 h) ?_
  intro p e s m args below meth c s₁ X0 hexec hbytes hml hret hlk hnm hown hh0 W hP
  obtain ⟨rfl, hA, tA, hB, tB⟩ := hP
  have a31 := hA.2.2.2
  have b31 := hB.2.2.2
  have hA0 := hA.mv X0.warmed.alike hh0
  have hB0 := hB.mv X0.warmed.alike hh0
  have c1 : Steps p.tables e below (s₁.setTop (entryFrame m #[.ref a, .ref b] 3)) (s₁.setTop (mkF m 0 #[.val (.ref a), .val (.ref b), .unset] [])) := entry rfl
  have c2 : Steps p.tables e below (s₁.setTop (entryFrame m #[.ref a, .ref b] 3)) (s₁.setTop (mkF m 4 #[.val (.ref a), .val (.ref b), .unset] [.int (Int32.ofNat B.slots.size), .int (Int32.ofNat A.slots.size)])) := c1.trans (by
    refine XS.aloadN X0.here hexec rfl (hb hbytes d0) rfl rfl ?_
    refine X0.alen hexec hA0 rfl rfl (hb hbytes d1) ?_
    refine XS.aloadN X0.here hexec rfl (hb hbytes d2) rfl rfl ?_
    refine X0.alen hexec hB0 rfl rfl (hb hbytes d3) ?_
    exact Steps.refl _)
  by_cases hs : A.slots.size = B.slots.size
  · have c3 : Steps p.tables e below (s₁.setTop (entryFrame m #[.ref a, .ref b] 3)) (s₁.setTop (mkF m 9 #[.val (.ref a), .val (.ref b), .val (.int 0)] [])) := c2.trans (by
      refine XS.icmpNo X0.here hexec rfl (hb hbytes d4) rfl (ii_ne_f (by rw [hs])) ?_
      refine iconstV X0.here hexec rfl 0 (hb hbytes d7) (by decide) ?_
      refine XS.istoreN X0.here hexec rfl (hb hbytes d8) rfl rfl ?_
      exact Steps.refl _)
    have loop : ∀ (r i : Nat), i + r = A.slots.size → (∀ j, j < i → yv A j = yv B j) → Steps p.tables e below (s₁.setTop (entryFrame m #[.ref a, .ref b] 3)) (s₁.setTop (mkF m 9 #[.val (.ref a), .val (.ref b), .val (.int (Int32.ofNat i))] [])) → ∃ (pc : Nat) (Ls : Array Slot) (v : Int32), (pc = 25 ∨ pc = 33) ∧ ((v = 1 ∧ EqC A B) ∨ (v = 0 ∧ ¬ EqC A B)) ∧ Steps p.tables e below (s₁.setTop (entryFrame m #[.ref a, .ref b] 3)) (s₁.setTop (mkF m pc Ls [.int v])) := by
      intro r
      induction r with
      | zero =>
        intro i hi he cl
        exact ⟨33, _, 1, Or.inr rfl, Or.inl ⟨rfl, hs, fun j hj => he j (by omega)⟩, cl.trans (by
          refine XS.iloadN X0.here hexec rfl (hb hbytes d9) rfl ?_
          refine XS.aloadN X0.here hexec rfl (hb hbytes d10) rfl rfl ?_
          refine X0.alen hexec hA0 rfl rfl (hb hbytes d11) ?_
          refine XS.icmpYes X0.here hexec rfl (pc0 := 12) rfl (hb hbytes d12) rfl (ii_ge_t (nlt32 (by omega) (by omega))) (by decide) rfl ?_
          refine iconstV X0.here hexec rfl 1 (hb hbytes d32) (by decide) ?_
          exact Steps.refl _)⟩
      | succ r ih =>
        intro i hi he cl
        have c4 : Steps p.tables e below (s₁.setTop (entryFrame m #[.ref a, .ref b] 3)) (s₁.setTop (mkF m 21 #[.val (.ref a), .val (.ref b), .val (.int (Int32.ofNat i))] [.int (yv B i), .int (yv A i)])) := cl.trans (by
          refine XS.iloadN X0.here hexec rfl (hb hbytes d9) rfl ?_
          refine XS.aloadN X0.here hexec rfl (hb hbytes d10) rfl rfl ?_
          refine X0.alen hexec hA0 rfl rfl (hb hbytes d11) ?_
          refine XS.icmpNo X0.here hexec rfl (hb hbytes d12) rfl (ii_ge_f (lt32 (by omega) (by omega))) ?_
          refine XS.aloadN X0.here hexec rfl (hb hbytes d15) rfl rfl ?_
          refine XS.iloadN X0.here hexec rfl (hb hbytes d16) rfl ?_
          refine X0.aget hexec hA0 rfl (yv_get hA tA (i := i) (by omega)) rfl rfl (hb hbytes d17) ?_
          refine XS.aloadN X0.here hexec rfl (hb hbytes d18) rfl rfl ?_
          refine XS.iloadN X0.here hexec rfl (hb hbytes d19) rfl ?_
          refine X0.aget hexec hB0 rfl (yv_get hB tB (i := i) (by omega)) rfl rfl (hb hbytes d20) ?_
          exact Steps.refl _)
        by_cases hv : yv A i = yv B i
        · have c5 : Steps p.tables e below (s₁.setTop (entryFrame m #[.ref a, .ref b] 3)) (s₁.setTop (mkF m 9 #[.val (.ref a), .val (.ref b), .val (.int (Int32.ofNat i + 1))] [])) := c4.trans (by
            refine XS.icmpYes X0.here hexec rfl (pc0 := 21) rfl (hb hbytes d21) rfl (ii_eq_t hv) (by decide) rfl ?_
            refine iincV X0.here hexec rfl 1 (hb hbytes d26) (by decide) rfl rfl ?_
            refine XS.goto X0.here hexec rfl (pc0 := 29) rfl (hb hbytes d29) (by decide) rfl ?_
            exact Steps.refl _)
          rw [succ32] at c5
          exact ih (i + 1) (by omega) (fun j hj => by
            by_cases e : j = i
            · rw [e]; exact hv
            · exact he j (by omega)) c5
        · exact ⟨25, _, 0, Or.inl rfl, Or.inr ⟨rfl, fun q => hv (q.2 i (by omega))⟩, c4.trans (by
            refine XS.icmpNo X0.here hexec rfl (hb hbytes d21) rfl (ii_eq_f hv) ?_
            refine iconstV X0.here hexec rfl 0 (hb hbytes d24) (by decide) ?_
            exact Steps.refl _)⟩
    obtain ⟨pc, Ls, v, hpc, hv, cz⟩ := loop A.slots.size 0 (by omega) (fun j hj => absurd hj (Nat.not_lt_zero j)) c3
    have nv : narrow .boolean (.int v) = .int v := by rcases hv with ⟨rfl, -⟩ | ⟨rfl, -⟩ <;> rfl
    rcases hpc with rfl | rfl
    · exact ⟨s₁, some (.int v), _, _, _, X0, rfl, rfl, rfl, (fun h => by cases h), ⟨v, rfl, hh0, hv⟩, fun fs hl => cz.trans (X0.ireturnOut hexec hret nv (Or.inr (Or.inl rfl)) (hb hbytes d25) hl)⟩
    · exact ⟨s₁, some (.int v), _, _, _, X0, rfl, rfl, rfl, (fun h => by cases h), ⟨v, rfl, hh0, hv⟩, fun fs hl => cz.trans (X0.ireturnOut hexec hret nv (Or.inr (Or.inl rfl)) (hb hbytes d33) hl)⟩
  · have c3 : Steps p.tables e below (s₁.setTop (entryFrame m #[.ref a, .ref b] 3)) (s₁.setTop (mkF m 35 #[.val (.ref a), .val (.ref b), .unset] [.int 0])) := c2.trans (by
      refine XS.icmpYes X0.here hexec rfl (pc0 := 4) rfl (hb hbytes d4) rfl (ii_ne_t (ne32 a31 b31 hs)) (by decide) rfl ?_
      refine iconstV X0.here hexec rfl 0 (hb hbytes d34) (by decide) ?_
      exact Steps.refl _)
    exact ⟨s₁, some (.int 0), _, _, _, X0, rfl, rfl, rfl, (fun h => by cases h), ⟨0, rfl, hh0, Or.inr ⟨rfl, fun q => hs q.1⟩⟩, fun fs hl => c3.trans (X0.ireturnOut hexec hret rfl (Or.inr (Or.inl rfl)) (hb hbytes d35) hl)⟩
end LEq
theorem Cod.ty {cd : Int32} {n : Nat} {f : Nat → Int32} {V : Cell} (h : Cod cd n f V) : Typed .byte V := fun i v hv => by
  have hi : i < V.slots.size := (Array.getElem?_eq_some_iff.mp hv).1
  rcases h with ⟨-, k1, k2⟩ | ⟨-, k1, k2, -⟩
  · rw [(k2 i (by omega)).1] at hv; cases hv; exact fits_lo8 _
  · rcases Nat.mod_two_eq_zero_or_one i with e | e
    · obtain ⟨j, rfl⟩ : ∃ j, i = 2 * j := ⟨i / 2, by omega⟩
      rw [(k2 j (by omega)).1] at hv; cases hv; exact fits_lo8 _
    · obtain ⟨j, rfl⟩ : ∃ j, i = 2 * j + 1 := ⟨i / 2, by omega⟩
      rw [(k2 j (by omega)).2] at hv; cases hv; exact fits_lo8 _
/-- the same text -/
def SameT (n : Nat) (f : Nat → Int32) (k : Nat) (g : Nat → Int32) : Prop := n = k ∧ ∀ j, j < n → f j = g j
theorem lo8_inj {x y : Int32} (h0 : ¬ x < 0) (h1 : ¬ 255 < x) (k0 : ¬ y < 0) (k1 : ¬ 255 < y) (h : lo8 x = lo8 y) : x = y := by
  rw [← lo8_mask h0 h1, ← lo8_mask k0 k1, h]
/-- arrays coded by one coder are equal just where the texts are -/
theorem Cod.eqv {cd : Int32} {n k : Nat} {f g : Nat → Int32} {V V' : Cell} (h : Cod cd n f V) (h' : Cod cd k g V') (hf : ∀ j, j < n → ¬ f j < 0 ∧ ¬ 65535 < f j) (hg : ∀ j, j < k → ¬ g j < 0 ∧ ¬ 65535 < g j) : EqC V V' ↔ SameT n f k g := by
  have yvv : ∀ {W : Cell} {i : Nat} {x : Int32}, W.slots[i]? = some (.int x) → yv W i = x := fun q => by unfold yv; rw [q]
  rcases h with ⟨rfl, k1, k2⟩ | ⟨rfl, k1, k2, -⟩
  · rcases h' with ⟨-, m1, m2⟩ | ⟨e, -⟩
    · constructor
      · rintro ⟨e1, e2⟩
        refine ⟨by omega, fun j hj => ?_⟩
        have q := e2 j (by omega)
        rw [yvv (k2 j hj).1, yvv (m2 j (by omega)).1] at q
        exact lo8_inj (hf j hj).1 (k2 j hj).2 (hg j (by omega)).1 (m2 j (by omega)).2 q
      · rintro ⟨rfl, e2⟩
        refine ⟨by omega, fun j hj => ?_⟩
        rw [yvv (k2 j (by omega)).1, yvv (m2 j (by omega)).1, e2 j (by omega)]
    · exact absurd e (by decide)
  · rcases h' with ⟨e, -⟩ | ⟨-, m1, m2, -⟩
    · exact absurd e (by decide)
    · constructor
      · rintro ⟨e1, e2⟩
        refine ⟨by omega, fun j hj => ?_⟩
        have q1 := e2 (2 * j) (by omega)
        have q2 := e2 (2 * j + 1) (by omega)
        rw [yvv (k2 j hj).1, yvv (m2 j (by omega)).1] at q1
        rw [yvv (k2 j hj).2, yvv (m2 j (by omega)).2] at q2
        rw [← pair_says (hf j hj).1 (hf j hj).2, ← pair_says (hg j (by omega)).1 (hg j (by omega)).2, q1, q2]
      · rintro ⟨rfl, e2⟩
        refine ⟨by omega, fun i hi => ?_⟩
        rcases Nat.mod_two_eq_zero_or_one i with e | e
        · obtain ⟨j, rfl⟩ : ∃ j, i = 2 * j := ⟨i / 2, by omega⟩
          rw [yvv (k2 j (by omega)).1, yvv (m2 j (by omega)).1, e2 j (by omega)]
        · obtain ⟨j, rfl⟩ : ∃ j, i = 2 * j + 1 := ⟨i / 2, by omega⟩
          rw [yvv (k2 j (by omega)).2, yvv (m2 j (by omega)).2, e2 j (by omega)]
/-- two codings differ: so do the texts -/
theorem Cod.dif {cd cd' : Int32} {n k : Nat} {f g : Nat → Int32} {V V' : Cell} (h : Cod cd n f V) (h' : Cod cd' k g V') (hne : ¬ cd = cd') : ¬ SameT n f k g := by
  rintro ⟨rfl, e⟩
  rcases h with ⟨rfl, -, k2⟩ | ⟨rfl, -, -, j, hj, hw⟩
  · rcases h' with ⟨rfl, -⟩ | ⟨-, -, -, j, hj, hw⟩
    · exact hne rfl
    · exact (k2 j hj).2 (by rw [e j hj]; exact hw)
  · rcases h' with ⟨-, -, m2⟩ | ⟨rfl, -⟩
    · exact (m2 j hj).2 (by rw [← e j hj]; exact hw)
    · exact hne rfl
/-- an object of exactly C is an instance of C -/
theorem cinst {p : Program} {l : Launch} {e : Env} {R : Room} {s : State} {m : MethodId} {args : Array Value} {below : List Frame} {meth : Method} {c : Code} {T : State} {locs : List Loc} {cells slots : Nat} (X : Stand p l e R s m args below meth c T locs cells slots) (hexec : p.tables.exec = Jvm.exec) {own C : String} {index : Nat} (hown : s.vm.findClass own = some m.cls) (hlink : (Cond.classLink own index C).before args s = true) {a : Addr} (hE : Exact C a T)
    {g : JFrame} (hg : g.method = m) {rest : List Value} (hstack : g.stack = .ref a :: rest) (hdg : decode c.code g.pc = .ok (.instanceof index, 3)) :
    ∃ T', Stand p l e R s m args below meth c T' locs cells slots ∧ T'.heap = T.heap ∧ ∀ target, Steps p.tables e below (T'.setTop { g with pc := g.pc + 3, stack := .int 1 :: rest }) target → Steps p.tables e below (T.setTop g) target := by
  obtain ⟨cB, h1, D, h2, h3, h4⟩ := hE
  have h1' : s.vm.findClass C = some cB := by rw [← X.warmed.alike.findClass]; exact h1
  obtain ⟨vm', X', st⟩ := X.instanceofYes hexec hown hlink h2 h4 h1' (by rw [h3]; exact Jvm.Free.SB.assignable_self _ _) hg hstack hdg
  exact ⟨_, X', rfl, st⟩
theorem cself {p : Program} {l : Launch} {e : Env} {R : Room} {s : State} {m : MethodId} {args : Array Value} {below : List Frame} {meth : Method} {c : Code} {T : State} {locs : List Loc} {cells slots : Nat} (X : Stand p l e R s m args below meth c T locs cells slots) (hexec : p.tables.exec = Jvm.exec) {own C : String} {index : Nat} (hown : s.vm.findClass own = some m.cls) (hlink : (Cond.classLink own index C).before args s = true) {a : Addr} (hE : Exact C a T)
    {g : JFrame} (hg : g.method = m) {rest : List Value} (hstack : g.stack = .ref a :: rest) (hdg : decode c.code g.pc = .ok (.checkcast index, 3)) :
    ∃ T', Stand p l e R s m args below meth c T' locs cells slots ∧ T'.heap = T.heap ∧ ∀ target, Steps p.tables e below (T'.setTop { g with pc := g.pc + 3, stack := .ref a :: rest }) target → Steps p.tables e below (T.setTop g) target := by
  obtain ⟨cB, h1, D, h2, h3, h4⟩ := hE
  have h1' : s.vm.findClass C = some cB := by rw [← X.warmed.alike.findClass]; exact h1
  obtain ⟨vm', X', st⟩ := X.checkcastYes hexec hown hlink h2 h4 h1' (by rw [h3]; exact Jvm.Free.SB.assignable_self _ _) hg hstack hdg
  exact ⟨_, X', rfl, fun t h => st t (by rw [← hstack] at h; exact h)⟩
namespace SEq
def yN : MethodName := ⟨"java/lang/String", "equals", "(Ljava/lang/Object;)Z"⟩
abbrev yB : ByteArray := jdk_42_method_66_code
theorem d0 : decode yB 0 = .ok (.aload_n 0, 1) := by decide +kernel
theorem d1 : decode yB 1 = .ok (.aload_n 1, 1) := by decide +kernel
theorem d2 : decode yB 2 = .ok (.if_acmp (.ne) 5, 3) := by decide +kernel
theorem d5 : decode yB 5 = .ok (.iconst 1, 1) := by decide +kernel
theorem d6 : decode yB 6 = .ok (.ireturn, 1) := by decide +kernel
theorem d7 : decode yB 7 = .ok (.aload_n 1, 1) := by decide +kernel
theorem d8 : decode yB 8 = .ok (.instanceof 10, 3) := by decide +kernel
theorem d11 : decode yB 11 = .ok (.ifCond (.eq) 43, 3) := by decide +kernel
theorem d14 : decode yB 14 = .ok (.aload_n 1, 1) := by decide +kernel
theorem d15 : decode yB 15 = .ok (.checkcast 10, 3) := by decide +kernel
theorem d18 : decode yB 18 = .ok (.astore_n 2, 1) := by decide +kernel
theorem d19 : decode yB 19 = .ok (.getstatic 38, 3) := by decide +kernel
theorem d22 : decode yB 22 = .ok (.ifCond (.eq) 14, 3) := by decide +kernel
theorem d25 : decode yB 25 = .ok (.aload_n 0, 1) := by decide +kernel
theorem d26 : decode yB 26 = .ok (.getfield 15, 3) := by decide +kernel
theorem d29 : decode yB 29 = .ok (.aload_n 2, 1) := by decide +kernel
theorem d30 : decode yB 30 = .ok (.getfield 15, 3) := by decide +kernel
theorem d33 : decode yB 33 = .ok (.if_icmp (.ne) 21, 3) := by decide +kernel
theorem d36 : decode yB 36 = .ok (.aload_n 0, 1) := by decide +kernel
theorem d37 : decode yB 37 = .ok (.getfield 9, 3) := by decide +kernel
theorem d40 : decode yB 40 = .ok (.aload_n 2, 1) := by decide +kernel
theorem d41 : decode yB 41 = .ok (.getfield 9, 3) := by decide +kernel
theorem d44 : decode yB 44 = .ok (.invokestatic 541, 3) := by decide +kernel
theorem d47 : decode yB 47 = .ok (.ifCond (.eq) 7, 3) := by decide +kernel
theorem d50 : decode yB 50 = .ok (.iconst 1, 1) := by decide +kernel
theorem d51 : decode yB 51 = .ok (.goto 4, 3) := by decide +kernel
theorem d54 : decode yB 54 = .ok (.iconst 0, 1) := by decide +kernel
theorem d55 : decode yB 55 = .ok (.ireturn, 1) := by decide +kernel
def site : List Cond := [.classLink "java/lang/String" 10 "java/lang/String", .fieldLink "java/lang/String" 38 "java/lang/String" "COMPACT_STRINGS" "Z", .fieldLink "java/lang/String" 15 "java/lang/String" "coder" "B", .fieldLink "java/lang/String" 9 "java/lang/String" "value" "[B", LEq.tab] ++ staticW "java/lang/String" 541 LEq.yN
def tab : Cond := tabOf yN yB 3 (some .boolean) site
def P (x t : Addr) (V : Cell) (cd : Int32) (n : Nat) (f : Nat → Int32) (y t' : Addr) (V' : Cell) (cd' : Int32) (k : Nat) (g : Nat → Int32) (z : Int32) (args : Array Value) (s : State) : Prop := args = #[.ref x, .ref y] ∧ Txt x t V cd n f s ∧ Txt y t' V' cd' k g s ∧ StaticIs s "java/lang/String" "COMPACT_STRINGS" "Z" (.int z) ∧ ¬ z = 0
/-- equals(Object) of two Strings: whether the texts are the same -/
theorem law (l : Launch) (x t : Addr) (V : Cell) (cd : Int32) (n : Nat) (f : Nat → Int32) (y t' : Addr) (V' : Cell) (cd' : Int32) (k : Nat) (g : Nat → Int32) (z : Int32) : Law l yN 2 1 1 14 yB 3 (some .boolean) site (P x t V cd n f y t' V' cd' k g z) (Says01 (SameT n f k g)) [] 0 0 := by
  refine Law.of_walk (plainFor_of_name (by decide +kernel)) (by decide +kernel) (by decide +kernel) (by decide) (fun _ _ h => by rw [h.1]; rfl) (fun _ U U' hal hh h => ⟨h.1, h.2.1.mv hal hh, h.2.2.1.mv hal hh, h.2.2.2.1.there hal hh, h.2.2.2.2⟩) (fun r U U' V V' h1 hal h2 h => Says01.mv r U U' V V' h1 hal h2 h) ?_
  intro p e s m args below meth c s₁ X0 hexec hbytes hml hret hlk hnm hown hh0 W hP
  obtain ⟨rfl, hx, hy, s1, hz⟩ := hP
  have c1 : Steps p.tables e below (s₁.setTop (entryFrame m #[.ref x, .ref y] 3)) (s₁.setTop (mkF m 2 #[.val (.ref x), .val (.ref y), .unset] [.ref y, .ref x])) := Steps.trans (entry rfl) (by
    show Steps p.tables e below (s₁.setTop (mkF m 0 #[.val (.ref x), .val (.ref y), .unset] [])) _
    refine XS.aloadN X0.here hexec rfl (hb hbytes d0) rfl rfl ?_
    refine XS.aloadN X0.here hexec rfl (hb hbytes d1) rfl rfl ?_
    exact Steps.refl _)
  by_cases hxy : x = y
  · have c2 : Steps p.tables e below (s₁.setTop (entryFrame m #[.ref x, .ref y] 3)) (s₁.setTop (mkF m 6 #[.val (.ref x), .val (.ref y), .unset] [.int 1])) := c1.trans (by
      refine acmpNo X0.here hexec rfl (hb hbytes d2) rfl rfl rfl (by simp [acmp, hxy]) ?_
      refine iconstV X0.here hexec rfl 1 (hb hbytes d5) (by decide) ?_
      exact Steps.refl _)
    subst hxy
    have ec : cd = cd' := by
      obtain ⟨D, fd, a1, a2, a3⟩ := hx.2.2.1
      obtain ⟨D', fd', b1, b2, b3⟩ := hy.2.2.1
      cases a1.symm.trans b1
      obtain ⟨q1, q2, q3, q4⟩ := a2.1
      obtain ⟨r1, r2, r3, r4⟩ := b2.1
      cases q4.symm.trans r4
      cases a3.symm.trans b3; rfl
    have et : t = t' := by
      obtain ⟨D, fd, a1, a2, a3⟩ := hx.2.1
      obtain ⟨D', fd', b1, b2, b3⟩ := hy.2.1
      cases a1.symm.trans b1
      obtain ⟨q1, q2, q3, q4⟩ := a2.1
      obtain ⟨r1, r2, r3, r4⟩ := b2.1
      cases q4.symm.trans r4
      cases a3.symm.trans b3; rfl
    subst ec et
    have ev : V = V' := by cases hx.2.2.2.1.1.symm.trans hy.2.2.2.1.1; rfl
    subst ev
    have hs : SameT n f k g := (Cod.eqv hx.2.2.2.2.1 hy.2.2.2.2.1 hx.2.2.2.2.2 hy.2.2.2.2.2).mp ⟨rfl, fun _ _ => rfl⟩
    exact ⟨s₁, some (.int 1), _, _, _, X0, rfl, rfl, rfl, (fun h => by cases h), ⟨1, rfl, hh0, Or.inl ⟨rfl, hs⟩⟩, fun fs hl => c2.trans (X0.ireturnOut hexec hret rfl (Or.inr (Or.inl rfl)) (hb hbytes d6) hl)⟩
  · have c2 : Steps p.tables e below (s₁.setTop (entryFrame m #[.ref x, .ref y] 3)) (s₁.setTop (mkF m 8 #[.val (.ref x), .val (.ref y), .unset] [.ref y])) := c1.trans (by
      refine acmpYes X0.here hexec rfl (pc0 := 2) rfl (hb hbytes d2) rfl rfl rfl (by simp [acmp, hxy]) (by decide) rfl ?_
      refine XS.aloadN X0.here hexec rfl (hb hbytes d7) rfl rfl ?_
      exact Steps.refl _)
    obtain ⟨T3, X3, q3, st3⟩ := cinst X0 hexec hown (wk W (.classLink "java/lang/String" 10 "java/lang/String")) (hy.mv X0.warmed.alike hh0).1 (g := (mkF m 8 #[.val (.ref x), .val (.ref y), .unset] [.ref y])) rfl (rest := []) rfl (hb hbytes d8)
    have hh3 := q3.trans hh0
    have c4 : Steps p.tables e below (s₁.setTop (entryFrame m #[.ref x, .ref y] 3)) (T3.setTop (mkF m 15 #[.val (.ref x), .val (.ref y), .unset] [.ref y])) := (c2.trans (st3 _ (Steps.refl _))).trans (by
      refine XS.ifNo X3.here hexec rfl (hb hbytes d11) rfl (i0_eq_f (by decide)) ?_
      refine XS.aloadN X3.here hexec rfl (hb hbytes d14) rfl rfl ?_
      exact Steps.refl _)
    obtain ⟨T5, X5, q5, st5⟩ := cself X3 hexec hown (wk W (.classLink "java/lang/String" 10 "java/lang/String")) (hy.mv X3.warmed.alike hh3).1 (g := (mkF m 15 #[.val (.ref x), .val (.ref y), .unset] [.ref y])) rfl (rest := []) rfl (hb hbytes d15)
    have hh5 := q5.trans hh3
    have c6 : Steps p.tables e below (s₁.setTop (entryFrame m #[.ref x, .ref y] 3)) (T5.setTop (mkF m 19 #[.val (.ref x), .val (.ref y), .val (.ref y)] [])) := (c4.trans (st5 _ (Steps.refl _))).trans (by
      refine XS.astoreN X5.here hexec rfl (hb hbytes d18) rfl rfl rfl ?_
      exact Steps.refl _)
    obtain ⟨T7, X7, q7, st7⟩ := X5.sget hexec hown (wk W (.fieldLink "java/lang/String" 38 "java/lang/String" "COMPACT_STRINGS" "Z")) s1 (fun _ _ h => by rw [hh5]; exact h) (g := (mkF m 19 #[.val (.ref x), .val (.ref y), .val (.ref y)] [])) rfl (hb hbytes d19)
    have hh7 := q7.trans hh5
    have c8 : Steps p.tables e below (s₁.setTop (entryFrame m #[.ref x, .ref y] 3)) (T7.setTop (mkF m 26 #[.val (.ref x), .val (.ref y), .val (.ref y)] [.ref x])) := (c6.trans (st7 _ (Steps.refl _))).trans (by
      refine XS.ifNo X7.here hexec rfl (hb hbytes d22) rfl (i0_eq_f hz) ?_
      refine XS.aloadN X7.here hexec rfl (hb hbytes d25) rfl rfl ?_
      exact Steps.refl _)
    obtain ⟨T9, X9, q9, st9⟩ := X7.hget hexec hown (wk W (.fieldLink "java/lang/String" 15 "java/lang/String" "coder" "B")) (hx.mv X7.warmed.alike hh7).2.2.1 (g := (mkF m 26 #[.val (.ref x), .val (.ref y), .val (.ref y)] [.ref x])) rfl (rest := []) rfl (hb hbytes d26)
    have hh9 := q9.trans hh7
    have c10 : Steps p.tables e below (s₁.setTop (entryFrame m #[.ref x, .ref y] 3)) (T9.setTop (mkF m 30 #[.val (.ref x), .val (.ref y), .val (.ref y)] [.ref y, .int cd])) := (c8.trans (st9 _ (Steps.refl _))).trans (by
      refine XS.aloadN X9.here hexec rfl (hb hbytes d29) rfl rfl ?_
      exact Steps.refl _)
    obtain ⟨T11, X11, q11, st11⟩ := X9.hget hexec hown (wk W (.fieldLink "java/lang/String" 15 "java/lang/String" "coder" "B")) (hy.mv X9.warmed.alike hh9).2.2.1 (g := (mkF m 30 #[.val (.ref x), .val (.ref y), .val (.ref y)] [.ref y, .int cd])) rfl (rest := [.int cd]) rfl (hb hbytes d30)
    have hh11 := q11.trans hh9
    have c12 : Steps p.tables e below (s₁.setTop (entryFrame m #[.ref x, .ref y] 3)) (T11.setTop (mkF m 33 #[.val (.ref x), .val (.ref y), .val (.ref y)] [.int cd', .int cd])) := c10.trans (st11 _ (Steps.refl _))
    by_cases hcd : cd = cd'
    · subst hcd
      have c13 : Steps p.tables e below (s₁.setTop (entryFrame m #[.ref x, .ref y] 3)) (T11.setTop (mkF m 37 #[.val (.ref x), .val (.ref y), .val (.ref y)] [.ref x])) := c12.trans (by
        refine XS.icmpNo X11.here hexec rfl (hb hbytes d33) rfl (ii_ne_f rfl) ?_
        refine XS.aloadN X11.here hexec rfl (hb hbytes d36) rfl rfl ?_
        exact Steps.refl _)
      obtain ⟨T14, X14, q14, st14⟩ := X11.hget hexec hown (wk W (.fieldLink "java/lang/String" 9 "java/lang/String" "value" "[B")) (hx.mv X11.warmed.alike hh11).2.1 (g := (mkF m 37 #[.val (.ref x), .val (.ref y), .val (.ref y)] [.ref x])) rfl (rest := []) rfl (hb hbytes d37)
      have hh14 := q14.trans hh11
      have c15 : Steps p.tables e below (s₁.setTop (entryFrame m #[.ref x, .ref y] 3)) (T14.setTop (mkF m 41 #[.val (.ref x), .val (.ref y), .val (.ref y)] [.ref y, .ref t])) := (c13.trans (st14 _ (Steps.refl _))).trans (by
        refine XS.aloadN X14.here hexec rfl (hb hbytes d40) rfl rfl ?_
        exact Steps.refl _)
      obtain ⟨T16, X16, q16, st16⟩ := X14.hget hexec hown (wk W (.fieldLink "java/lang/String" 9 "java/lang/String" "value" "[B")) (hy.mv X14.warmed.alike hh14).2.1 (g := (mkF m 41 #[.val (.ref x), .val (.ref y), .val (.ref y)] [.ref y, .ref t])) rfl (rest := [.ref t]) rfl (hb hbytes d41)
      have hh16 := q16.trans hh14
      have c17 : Steps p.tables e below (s₁.setTop (entryFrame m #[.ref x, .ref y] 3)) (T16.setTop (mkF m 44 #[.val (.ref x), .val (.ref y), .val (.ref y)] [.ref t', .ref t])) := c15.trans (st16 _ (Steps.refl _))
      obtain ⟨v18, T18, X18, E18, g18⟩ := X16.callS hexec (LEq.law l t V t' V') hown (wks W (staticW "java/lang/String" 541 LEq.yN)) (wk W LEq.tab) (W := 0) (Nat.le_of_ble_eq_true rfl) (Nat.le_of_ble_eq_true rfl) (Nat.le_refl _) (Nat.le_refl _) (g := (mkF m 44 #[.val (.ref x), .val (.ref y), .val (.ref y)] [.ref t', .ref t])) rfl (by rw [hml]; rfl) c17 (argsL := [.ref t, .ref t']) (rest := []) rfl rfl (by show 2 * 0 + 0 ≤ _; decide) (hb hbytes d44) (⟨rfl, hx.2.2.2.1.mv X16.warmed.alike hh16, hx.2.2.2.2.1.ty, hy.2.2.2.1.mv X16.warmed.alike hh16, hy.2.2.2.2.1.ty⟩)
      obtain ⟨v, rfl, q18, hv⟩ := E18
      have iff := Cod.eqv hx.2.2.2.2.1 hy.2.2.2.2.1 hx.2.2.2.2.2 hy.2.2.2.2.2
      rcases hv with ⟨rfl, he⟩ | ⟨rfl, he⟩
      · have c19 : Steps p.tables e below (s₁.setTop (entryFrame m #[.ref x, .ref y] 3)) (T18.setTop (mkF m 55 #[.val (.ref x), .val (.ref y), .val (.ref y)] [.int 1])) := Steps.trans g18 (by
          refine XS.ifNo X18.here hexec rfl (hb hbytes d47) rfl (i0_eq_f (by decide)) ?_
          refine iconstV X18.here hexec rfl 1 (hb hbytes d50) (by decide) ?_
          refine XS.goto X18.here hexec rfl (pc0 := 51) rfl (hb hbytes d51) (by decide) rfl ?_
          exact Steps.refl _)
        exact ⟨T18, some (.int 1), _, _, _, X18, rfl, rfl, rfl, (fun h => by cases h), ⟨1, rfl, q18.trans hh16, Or.inl ⟨rfl, iff.mp he⟩⟩, fun fs hl => c19.trans (X18.ireturnOut hexec hret rfl (Or.inr (Or.inl rfl)) (hb hbytes d55) hl)⟩
      · have c19 : Steps p.tables e below (s₁.setTop (entryFrame m #[.ref x, .ref y] 3)) (T18.setTop (mkF m 55 #[.val (.ref x), .val (.ref y), .val (.ref y)] [.int 0])) := Steps.trans g18 (by
          refine XS.ifYes X18.here hexec rfl (pc0 := 47) rfl (hb hbytes d47) rfl (i0_eq_t rfl) (by decide) rfl ?_
          refine iconstV X18.here hexec rfl 0 (hb hbytes d54) (by decide) ?_
          exact Steps.refl _)
        exact ⟨T18, some (.int 0), _, _, _, X18, rfl, rfl, rfl, (fun h => by cases h), ⟨0, rfl, q18.trans hh16, Or.inr ⟨rfl, fun q => he (iff.mpr q)⟩⟩, fun fs hl => c19.trans (X18.ireturnOut hexec hret rfl (Or.inr (Or.inl rfl)) (hb hbytes d55) hl)⟩
    · have c13 : Steps p.tables e below (s₁.setTop (entryFrame m #[.ref x, .ref y] 3)) (T11.setTop (mkF m 55 #[.val (.ref x), .val (.ref y), .val (.ref y)] [.int 0])) := c12.trans (by
        refine XS.icmpYes X11.here hexec rfl (pc0 := 33) rfl (hb hbytes d33) rfl (ii_ne_t hcd) (by decide) rfl ?_
        refine iconstV X11.here hexec rfl 0 (hb hbytes d54) (by decide) ?_
        exact Steps.refl _)
      exact ⟨T11, some (.int 0), _, _, _, X11, rfl, rfl, rfl, (fun h => by cases h), ⟨0, rfl, hh11, Or.inr ⟨rfl, Cod.dif hx.2.2.2.2.1 hy.2.2.2.2.1 hcd⟩⟩, fun fs hl => c13.trans (X11.ireturnOut hexec hret rfl (Or.inr (Or.inl rfl)) (hb hbytes d55) hl)⟩
theorem pays {l : Launch} {R : Room} {p : Program} {e : Env} {below : List Frame} {s : State} {sargs : Array Value} {len W : Nat} (x t : Addr) (V : Cell) (cd : Int32) (n : Nat) (f : Nat → Int32) (y t' : Addr) (V' : Cell) (cd' : Int32) (k : Nat) (g : Nat → Int32) (z : Int32) (htab : tab.before sargs s = true) (hfr : 2 ≤ R.frames) (hlo : W + 28 ≤ R.locals) :
    Back l R p e below s sargs yN len W (fun A₁ a₁ => A₁.cells + 0 ≤ R.cells ∧ A₁.slots + 0 ≤ R.slots ∧ P x t V cd n f y t' V' cd' k g z a₁ A₁.U) (fun A₁ _ v₁ B₁ => Says01 (SameT n f k g) v₁ A₁.U B₁.U ∧ B₁.locs = A₁.locs ++ [] ∧ B₁.cells = A₁.cells + 0 ∧ B₁.slots = A₁.slots + 0) :=
  (law l x t V cd n f y t' V' cd' k g z).pays htab hfr (by omega)
end SEq
end StrChars
namespace StrChars.Road
open Jvm Sem ClassFile Op Lib Jvm.Stand Jvm.Free Jvm.Free.XT
open Jvm.Lib.Cold (StaticIs)
/-- the words of String.equals(Object) -/
abbrev wordsEq : List Jvm.Cond := [.code SEq.yN SEq.yB 3 (some .boolean), .initialized ST, .classLink ST 10 ST, .fieldLink ST 38 ST "COMPACT_STRINGS" "Z", .fieldLink ST 15 ST "coder" "B", .fieldLink ST 9 ST "value" "[B", .methodLink ST 541 LEq.yN, .static LEq.yN, .code LEq.yN LEq.yB 3 (some .boolean), .initialized "java/lang/StringLatin1"]
theorem tabEq_of {a : Array Value} {s : State} (h : ∀ w ∈ wordsEq, w.before a s = true) : SEq.tab.before a s = true := by
  have hl : LEq.tab.before a s = true := unparts (wk h (.code LEq.yN LEq.yB 3 (some .boolean))) (wks h (.initialized LEq.yN.cls :: LEq.site))
  have q := consq hl h
  exact unparts (wk q (.code SEq.yN SEq.yB 3 (some .boolean))) (wks q (.initialized SEq.yN.cls :: SEq.site))
theorem movedEq {Z s : State} {a0 args : Array Value} (hZ : Z.Warmed39 s.vm) (hw : ∀ d ∈ wordsEq, d.before a0 Z = true) : ∀ d ∈ wordsEq, d.before args s = true := fun d hd => by
  have t : ∀ d ∈ wordsEq, (d.onTables && d.keepsFace) = true := by decide +kernel
  exact RoadKit.mv hZ (hw d hd) (t d hd)
/-- the road's facts of a String, as the laws ask it -/
theorem txt_of {Z U : State} {a0 : Array Value} {kI : Nat} (wi : (Jvm.Cond.instantiable ST kI).before a0 Z = true) (al : Z.vm.Alike U.vm) {x t : Addr} {kb : ClassId} {cs : List Int32} {cd N2 : Int32} {vs : List Value} (E : RoadKit.Exa Z U.heap x ST) (V : RoadKit.Fld Z U.heap x ST "value" "[B" (.ref t)) (C : RoadKit.Fld Z U.heap x ST "coder" "B" (.int cd)) (K : RoadKit.Arv Z U.heap t kb .byte N2 vs (.int 0)) (hc : CodA cs cd N2 vs) (hb : ∀ c ∈ cs, ¬ c < 0 ∧ ¬ (65535 : Int32) < c) (l2 : cs.length ≤ 4000) :
    ∃ A, Txt x t A cd cs.length (fun j => cs.getD j 0) U := by
  obtain ⟨A, K1, K2, K3, K4, K5, K6⟩ := K
  have hcod := hc.cod (by omega) K3 K5
  obtain ⟨D, fV, fC, hB, F1, F2, g1, g2, -, -⟩ := strObj wi al E V C
  exact ⟨A, ⟨_, hB.2.2.1, D, hB.1, rfl, by cases q : D.vm <;> first | rfl | exact absurd q (hB.2.1.2 _)⟩, Has.of hB F1 g1, Has.of hB F2 g2, ⟨K1.1, State.isArrayOf_alike al K1.2.1, K1.2.2, by rcases hcod with ⟨-, q, -⟩ | ⟨-, q, -⟩ <;> omega⟩, hcod, fun j hj => by
    have e : cs.getD j 0 = cs[j] := by simp [List.getD_eq_getElem?_getD, hj]
    show ¬ cs.getD j 0 < 0 ∧ ¬ 65535 < cs.getD j 0
    rw [e]; exact hb _ (List.getElem_mem _)⟩
theorem same_list (cs ds : List Int32) : SameT cs.length (fun j => cs.getD j 0) ds.length (fun j => ds.getD j 0) ↔ cs = ds := by
  constructor
  · rintro ⟨e, q⟩
    refine List.ext_getElem e fun j h1 h2 => ?_
    have := q j h1
    simpa [List.getD_eq_getElem?_getD, h1, h2] using this
  · rintro rfl
    exact ⟨rfl, fun _ _ => rfl⟩
/-- **equals(Object) OF TWO SUCH STRINGS**: 1 just where the chars are the same -/
theorem eqW {p : Program} {l : Launch} {e : Env} {R : Room} {s : State} {args : Array Value} {below : List Frame} {len W : Nat} {Z : State} {a0 : Array Value} {h : Heap} (hZ : Z.Warmed39 s.vm) (hw : ∀ d ∈ wordsEq, d.before a0 Z = true) {kI : Nat} (wi : (Jvm.Cond.instantiable ST kI).before a0 Z = true)
    {x t : Addr} {kb : ClassId} {cs : List Int32} {cd N2 : Int32} {vs : List Value} (E : RoadKit.Exa Z h x ST) (V : RoadKit.Fld Z h x ST "value" "[B" (.ref t)) (C : RoadKit.Fld Z h x ST "coder" "B" (.int cd)) (K : RoadKit.Arv Z h t kb .byte N2 vs (.int 0)) (hc : CodA cs cd N2 vs) (hb : ∀ c ∈ cs, ¬ c < 0 ∧ ¬ (65535 : Int32) < c) (l2 : cs.length ≤ 4000)
    {y t' : Addr} {kb' : ClassId} {ds : List Int32} {cd' N2' : Int32} {vs' : List Value} (E' : RoadKit.Exa Z h y ST) (V' : RoadKit.Fld Z h y ST "value" "[B" (.ref t')) (C' : RoadKit.Fld Z h y ST "coder" "B" (.int cd')) (K' : RoadKit.Arv Z h t' kb' .byte N2' vs' (.int 0)) (hc' : CodA ds cd' N2' vs') (hb' : ∀ c ∈ ds, ¬ c < 0 ∧ ¬ (65535 : Int32) < c) (l2' : ds.length ≤ 4000)
    {z : Int32} (S : RoadKit.Sta Z h ST "COMPACT_STRINGS" "Z" (.int z)) (hz : ¬ z = 0) (hfr : 2 ≤ R.frames) (hlo : W + 28 ≤ R.locals) :
    Back l R p e below s args (⟨"java/lang/String", "equals", "(Ljava/lang/Object;)Z"⟩ : MethodName) len W (fun P a => a = #[.ref x, .ref y] ∧ P.U.heap = h ∧ P.cells + 0 ≤ R.cells ∧ P.slots + 0 ≤ R.slots)
      (fun P _ v B => ∃ L, (((v = some (.int 1) ∧ cs = ds) ∨ (v = some (.int 0) ∧ ¬ cs = ds)) ∧ L = [] ∧ B.U.heap = h) ∧ B.locs = P.locs ++ L ∧ B.cells = P.cells + 0 ∧ B.slots = P.slots + 0) := by
  intro m meth c P g ig mk a X hg hsize hdg hW hn hp'
  obtain ⟨rfl, rfl, r1, r2⟩ := hp'
  have al : Z.vm.Alike P.U.vm := hZ.alike.trans X.warmed.alike
  obtain ⟨A, hx⟩ := txt_of wi al E V C K hc hb l2
  obtain ⟨A', hy⟩ := txt_of wi al E' V' C' K' hc' hb' l2'
  obtain ⟨v, B, X', ⟨⟨w, hv, hh, hq⟩, hl, hk, hs⟩, st⟩ := SEq.pays x t A cd cs.length (fun j => cs.getD j 0) y t' A' cd' ds.length (fun j => ds.getD j 0) z (tabEq_of (movedEq hZ hw)) hfr hlo m meth c P g ig mk _ X hg hsize hdg hW hn ⟨r1, r2, rfl, hx, hy, sta_is al S, hz⟩
  refine ⟨v, B, X', ⟨[], ⟨?_, rfl, hh⟩, hl, hk, hs⟩, st⟩
  rcases hq with ⟨rfl, q⟩ | ⟨rfl, q⟩
  · exact Or.inl ⟨hv, (same_list cs ds).mp q⟩
  · exact Or.inr ⟨hv, fun e => q ((same_list cs ds).mpr e)⟩
end StrChars.Road
end Jvm.Pilot.@@N@@
namespace Jvm.Pilot.@@N@@
open Jvm Jvm.ClassFile Sem Op Lib Jvm.Free Jvm.Stand Jvm.LawKit Jvm.RoadKit Bundle Jvm.Pilot.@@N@@.Jvm.D
namespace Own
theorem hws_of {Z : State} {a0 : Array Value} (hw : ∀ d ∈ tables_1, d.before a0 Z = true) : ∀ d ∈ StrChars.Road.words, d.before a0 Z = true := fun d hd => hw d ((by decide +kernel : ∀ d ∈ StrChars.Road.words, d ∈ tables_1) d hd)
/-- (char) (x & 255) is 0 to 255 -/
theorem and255 (x : Int32) : ¬ nar .char ((x &&& (255 : Int32)).toUInt32.toUInt16.toUInt32.toInt32) < 0 ∧ ¬ (255 : Int32) < nar .char ((x &&& (255 : Int32)).toUInt32.toUInt16.toUInt32.toInt32) := by
  have t : ∀ k : Fin 256, ¬ nar .char ((Int32.ofNat k.val).toUInt32.toUInt16.toUInt32.toInt32) < 0 ∧ ¬ (255 : Int32) < nar .char ((Int32.ofNat k.val).toUInt32.toUInt16.toUInt32.toInt32) := by decide +kernel
  have h : (x &&& 255).toBitVec.toNat < 256 := by
    simp only [Int32.toBitVec_and, BitVec.toNat_and]
    exact Nat.lt_succ_of_le Nat.and_le_right
  have e : (x &&& 255) = Int32.ofNat (x &&& 255).toBitVec.toNat := by
    apply Int32.toBitVec_inj.mp
    show _ = BitVec.ofNat 32 _
    rw [BitVec.ofNat_toNat]; simp
  rw [e]
  exact t ⟨_, h⟩
/-- a String that spells cs -/
def StrIs (Z : State) (h : Heap) (x : Addr) (cs : List Int32) : Prop :=
  (∀ c ∈ cs, ¬ c < 0 ∧ ¬ (255 : Int32) < c) ∧ Exa Z h x "java/lang/String" ∧ Fld Z h x "java/lang/String" "coder" "B" (.int 0) ∧ ∃ (t : Addr) (kb : ClassId), Fld Z h x "java/lang/String" "value" "[B" (.ref t) ∧ Arv Z h t kb .byte (Int32.ofNat cs.length) (cs.map fun c => Value.int (StrChars.lo8 c)) (.int 0)
theorem payStr {wd : Bool} {l : Launch} {R : Room} {p : Program} {e : Env} {below : List Frame} {args : Array Value} {len W : Nat} {Z : State} {a0 : Array Value} (hw : ∀ d ∈ tables_1, d.before a0 Z = true) {n0 : Nat} {h : Heap} {V : Vm → Prop} (hV : VCl V) (wi : (Jvm.Cond.instantiable "java/lang/String" 4).before a0 Z = true)
    {x b : Addr} {kC : ClassId} {cs : List Int32} {d v0 c0 : Value} {z N : Int32} {n : Nat} (hO : Old Z n0 h) (E : Exa Z h x "java/lang/String") (Vl : Fld Z h x "java/lang/String" "value" "[B" v0) (C : Fld Z h x "java/lang/String" "coder" "B" c0) (K : Arv Z h b kC .char N (cs.map Value.int) d) (S : Sta Z Z.heap "java/lang/String" "COMPACT_STRINGS" "Z" (.int z)) (hz : ¬ z = 0)
    (hn : cs.length = n) (hN : N = Int32.ofNat n) (hN' : N.toNatClampNeg = n) (l0 : 0 < n) (l2 : n ≤ 4000) (hp : ∀ c ∈ cs, ¬ c < 0 ∧ ¬ (255 : Int32) < c) (hfr : 4 ≤ R.frames) (hlo : W + 65 ≤ R.locals) :
    Pay wd l R p e below args (⟨"java/lang/String", "<init>", "([C)V"⟩ : MethodName) len W Z h V #[.ref x, .ref b] 1 n [x] (fun v h' vm' => v = none ∧ StrIs Z h' x cs ∧ V vm') := by
  subst hn
  refine Pay.ofBack (Q0 := StrChars.Road.QA Z x N cs h) (fun s' hZ => StrChars.Road.backArv (W := W) hZ (hws_of hw) (kI := 4) wi E Vl C K (S.ext hO.2) hz hN' l0 (by omega) (fun c hc => (hp c hc).2) hfr hlo) hV ?_
  rintro v h' vm' L ⟨q1, q2, q3, q4, q5, q6, q7, ⟨kb, -, q8⟩, -⟩ hv
  subst hN
  exact ⟨⟨q1, ⟨hp, q5, q7, h.size, kb, q6, q8⟩, hv⟩, q3, fun y hy => Or.inl (by rw [q2 y hy]; exact List.mem_singleton.mpr rfl)⟩
end Own
end Jvm.Pilot.@@N@@
namespace Jvm.Pilot.@@N@@
open Jvm Jvm.ClassFile Sem Op Lib Jvm.Free Jvm.Stand Jvm.LawKit Jvm.RoadKit Bundle Jvm.Pilot.@@N@@.Jvm.D
namespace Own
section Held
variable {p : Program} {l : Launch} {e : Env} {R : Room} {s : State} {m : MethodId} {args : Array Value} {below : List Frame} {meth : Method} {c : Code} {own : String} {Z : State} {a0 : Array Value} {n0 : Nat} {h0 : Heap} {ws : List Addr} {vm : Vm} {T : State} {h : Heap} {cells slots : Nat} {EL : List (String × Nat)}
/-- the entry is booked in these tables -/
def LitV (Z : State) (vm : Vm) (own : String) (index : Nat) (a : Addr) : Prop := Lit (Z.setVm vm) own index a
theorem Wk.warm {wd : Bool} (K : Wk wd p l e R s m args below meth c own Z n0 h0 ws vm T h cells slots) : Z.Warmed39 vm := K.2.2.2.2.2.2.2.1
theorem Wk.al {wd : Bool} (K : Wk wd p l e R s m args below meth c own Z n0 h0 ws vm T h cells slots) : Z.vm.Alike vm := K.warm.alike
/-- the constants of EL hold their texts, in these tables and this heap -/
def HV (Z : State) (EL : List (String × Nat)) (h : Heap) : Vm → Prop := fun vm => Z.Warmed39 vm ∧ CHv Z EL vm h
theorem HV.cl (w : EW Z a0 EL) : VCl (HV Z EL h) := fun s vm' q hW => ⟨State.Warmed39.trans q.1 hW.wide, (CHv.later (h' := h) q.1 (show (Wst Z s.vm h).Warmed39 vm' from hW.wide) w ⟨Nat.le_refl _, fun _ _ q => q⟩ (Or.inl hW.interned_eq) q.2).1⟩
/-- a String under construction is no constant's -/
theorem safeNull {x : Addr} (hal : Z.vm.Alike vm) (F : Fld Z h x "java/lang/String" "value" "[B" .null) (E : Exa Z h x "java/lang/String") : Safe Z EL vm h x := fun B => by
  obtain ⟨p, -, u, a, -, q, -, G, rfl | rfl⟩ := B
  · obtain ⟨cS, ⟨⟨s1, s2, s3, ⟨cv, kv, iv, s4, s4'⟩, -, s6, -, s8, -⟩, -⟩, -⟩ := G
    obtain ⟨kv', z4⟩ := ff_back (U := Wst Z vm h) hal s4
    have G' : Fld Z h q.sa "java/lang/String" "value" "[B" (.ref q.sd) := ⟨q.sC, cv, kv', iv, q.fSV, s1, z4, s6, s2, s3, by rw [← hal.assignable]; exact s4', s8⟩
    exact F.ne G' (by simp) rfl
  · obtain ⟨cell, k, e1, e2, -⟩ := E
    cases (show h[q.sd]? = some q.SA from G.hd).symm.trans e1
    obtain ⟨cS, -, -, f, -⟩ := G
    have f' : Z.vm.findClass "[B" = some q.SA.cls := by rw [← hal.findClass]; exact f
    obtain ⟨k1, q1, q2⟩ := Vm.findClass_spec f'
    obtain ⟨k2, q3, q4⟩ := Vm.findClass_spec e2
    cases q1.symm.trans q3
    have := q2.symm.trans q4
    revert this; decide
theorem safeArv {x : Addr} {k : ClassId} {ty : FieldType} {z : Int32} {vs : List Value} {d : Value} (hal : Z.vm.Alike vm) (V : Arv Z h x k ty z vs d) (ht : ty ≠ .byte) : Safe Z EL vm h x := by
  obtain ⟨cl, A, -⟩ := V
  exact Safe.arr hal A ht
/-- ldc of a String constant of EL -/
theorem Wk.ldcH (K : Wk true p l e R s m args below meth c own Z n0 h0 ws vm T h cells slots) {text : String} {index : Nat} (w : (Cond.stringLink own index text).before a0 Z = true) (wS : ∀ a ∈ Bundle.stringAtoms, a.before a0 Z = true) (hEL : EW Z a0 EL) (hmem : (own, index) ∈ EL) (H : CHv Z EL vm h)
    {vs : List Value} {z : Int32} (ht : (∀ c ∈ text.toList, c.toNat < 256) ∧ text.toList.map (fun c => Value.int (Jvm.Lit.byteI c.toNat.toUInt16)) = vs) (hz : ¬ z < 0) (hl : z.toNatClampNeg = vs.length)
    {pc : Nat} {Ls : Array Slot} {rest : List Value} (hd : decode c.code pc = .ok (.ldc index, 2)) {n : Nat} (hn : 4 * text.toList.length ≤ n) (hbig : n ≤ 536870912) (hc : cells + 2 ≤ R.cells) (hl' : slots + (n + 4) ≤ R.slots) :
    ∃ a b kb vm' T' h', Wk true p l e R s m args below meth c own Z n0 h0 ws vm' T' h' (cells + 2) (slots + (n + 4)) ∧ Ext h h' ∧ Exa Z h' a "java/lang/String" ∧ Fld Z h' a "java/lang/String" "coder" "B" (.int 0) ∧ Fld Z h' a "java/lang/String" "value" "[B" (.ref b) ∧ Arv Z h' b kb .byte z vs (.int 0) ∧ CHv Z EL vm' h' ∧ LitV Z vm' own index a ∧
      Go p e below (T.setTop (mkF m pc Ls rest)) (T'.setTop (mkF m (pc + 2) Ls (.ref a :: rest))) := by
  obtain ⟨e1, hx, O, hn0, hw, Kp, hs0, hZ, ho, hv, locs, k, F, X, S, hk⟩ := K
  obtain ⟨a, T', h', k1, b, kb, X', e', E, S', hk', hZ', ho', r1, r2, r3, r4, -, -, r5, r6, -, st⟩ := RoadKit.ldcCH X hx hZ ho w wS e1 S hk hEL hmem H ht hz hl (g := mkF m pc Ls rest) rfl hd hn hbig hc hl'
  exact ⟨a, b, kb, T'.vm, T', h', ⟨e', hx, O.ext E, hn0, hw, Kp.ext E, hs0, hZ', ho', (fun q => nomatch q), locs, k1, F, X', S', hk'⟩, E, r1, r2, r3, r4, r5.1, r6, st⟩
/-- ldc of an entry that is booked -/
theorem Wk.ldcA {wd : Bool} (K : Wk wd p l e R s m args below meth c own Z n0 h0 ws vm T h cells slots) {text : String} {index : Nat} (w : (Cond.stringLink own index text).before a0 Z = true) {a : Addr} (L : LitV Z vm own index a)
    {pc : Nat} {Ls : Array Slot} {rest : List Value} (hd : decode c.code pc = .ok (.ldc index, 2)) : Go p e below (T.setTop (mkF m pc Ls rest)) (T.setTop (mkF m (pc + 2) Ls (.ref a :: rest))) := by
  obtain ⟨e1, hx, O, hn0, hw, Kp, hs0, hZ, ho, hv, locs, k, F, X, S, hk⟩ := K
  exact fun t q => RoadKit.ldcAgain X hx hZ ho w (show Lit (s.setVm vm) own index a from L) (g := mkF m pc Ls rest) rfl hd t q
theorem atoms_in {a0 : Array Value} (hw : ∀ d ∈ tables_1, d.before a0 Z = true) : ∀ d ∈ Bundle.stringAtoms, d.before a0 Z = true := fun d hd => hw d ((by decide +kernel : ∀ d ∈ Bundle.stringAtoms, d ∈ tables_1) d hd)
/-- C is no K: K can be made, so it is no interface, and C's superclasses do not meet it -/
theorem notK {C K : String} {n : Nat} (w : (Cond.superclass C "java/lang/Object").before a0 Z = true) (w0 : (Cond.noSuperclass "java/lang/Object").before a0 Z = true) (wk : (Cond.instantiable K n).before a0 Z = true) (hn : C ≠ K) (h0 : "java/lang/Object" ≠ K) : ∃ c t, Z.vm.findClass C = some c ∧ Z.vm.findClass K = some t ∧ Z.vm.assignable c t = false := by
  obtain ⟨cO, kO, o1, o2, o3, -, -⟩ := Cond.noSuperclass_spec w0
  obtain ⟨t, kt, g1, g2, g3, g4, -, -⟩ := Cond.instantiable_spec wk
  obtain ⟨c, f0⟩ := found_sup w
  obtain ⟨p, k, kp, f1, f2, f3, f4, f5, -, f7⟩ := Cond.superclass_spec f0 w
  cases f1.symm.trans o1
  have ne := ids_ne f0 g1 hn
  have ne0 := ids_ne o1 g1 h0
  have hi : kt.isInterface = false := by cases q : kt.isInterface <;> simp [q] at g4 ⊢
  refine ⟨c, t, f0, g1, ?_⟩
  show Z.vm.assignableAux (255 + 1) c t = false
  have ns : ∀ fuel, Z.vm.isSubclassAux fuel c t = false := fun fuel => by
    cases fuel with
    | zero => rfl
    | succ f =>
      have r : Z.vm.isSubclassAux f cO t = false := by
        cases f with
        | zero => rfl
        | succ f => simp [Vm.isSubclassAux, ne0, o2, o3]
      simp [Vm.isSubclassAux, ne, f2, f4, r]
  simp [Vm.assignableAux, ne, f2, g2, f5, g3, hi, Vm.isSubclass, ns]
/-- what keeps a String's text -/
theorem StrIs.keep {h' : Heap} {x : Addr} {cs : List Int32} (F : StrIs Z h x cs) (K : Keep h h' []) : StrIs Z h' x cs := by
  obtain ⟨f1, f2, f3, t, kb, f4, f5⟩ := F
  exact ⟨f1, f2.keep K, f3.keep K nin0, t, kb, f4.keep K nin0, f5.keep K nin0⟩
theorem StrIs.ext {h' : Heap} {x : Addr} {cs : List Int32} (F : StrIs Z h x cs) (E : Ext h h') : StrIs Z h' x cs := by
  obtain ⟨f1, f2, f3, t, kb, f4, f5⟩ := F
  exact ⟨f1, f2.ext E, f3.ext E, t, kb, f4.ext E, f5.ext E⟩
theorem StrIs.keep1 {h' : Heap} {x o : Addr} {C : String} {n : Nat} {cs : List Int32} (F : StrIs Z h x cs) (K : Keep h h' [o]) (E : Exa Z h o C) (hC : "java/lang/String" ≠ C) (wi : (Cond.instantiable C n).before a0 Z = true) : StrIs Z h' x cs := by
  obtain ⟨f1, f2, f3, t, kb, f4, f5⟩ := F
  have e1 : x ≠ o := f2.ne E hC
  have e2 : t ≠ o := Ne.symm (Exa.neArv E f5 wi)
  exact ⟨f1, f2.keep K, f3.keep K (ninS e1 nin0), t, kb, f4.keep K (ninS e1 nin0), f5.keep K (ninS e2 nin0)⟩
theorem up65535 {x : Int32} (h : ¬ (255 : Int32) < x) : ¬ (65535 : Int32) < x := by
  rw [Int32.lt_iff_toInt_lt] at h ⊢
  have e1 : (255 : Int32).toInt = 255 := rfl
  have e2 : (65535 : Int32).toInt = 65535 := rfl
  omega
end Held
def own_seq (cs ds : List Int32) : Int32 := if cs = ds then 1 else 0
theorem own_seq1 {cs ds : List Int32} (q : cs = ds) : own_seq cs ds = 1 := by simp [own_seq, q]
theorem own_seq0 {cs ds : List Int32} (q : ¬ cs = ds) : own_seq cs ds = 0 := by simp [own_seq, q]
theorem hws_eq {Z : State} {a0 : Array Value} (hw : ∀ d ∈ tables_1, d.before a0 Z = true) : ∀ d ∈ StrChars.Road.wordsEq, d.before a0 Z = true := fun d hd => hw d ((by decide +kernel : ∀ d ∈ StrChars.Road.wordsEq, d ∈ tables_1) d hd)
theorem payEq {wd : Bool} {l : Launch} {R : Room} {p : Program} {e : Env} {below : List Frame} {args : Array Value} {len W : Nat} {Z : State} {a0 : Array Value} (hw : ∀ d ∈ tables_1, d.before a0 Z = true) {n0 : Nat} {h : Heap} {V : Vm → Prop} (hV : VCl V) (wi : (Jvm.Cond.instantiable "java/lang/String" 4).before a0 Z = true)
    {x y : Addr} {cs ds : List Int32} {z : Int32} (hO : Old Z n0 h) (A : StrIs Z h x cs) (la : cs.length ≤ 4000) (B : StrIs Z h y ds) (lb : ds.length ≤ 4000) (S : Sta Z Z.heap "java/lang/String" "COMPACT_STRINGS" "Z" (.int z)) (hz : ¬ z = 0) (hfr : 2 ≤ R.frames) (hlo : W + 28 ≤ R.locals) :
    Pay wd l R p e below args (⟨"java/lang/String", "equals", "(Ljava/lang/Object;)Z"⟩ : MethodName) len W Z h V #[.ref x, .ref y] 0 0 [] (fun v h' vm' => (v = some (.int (own_seq cs ds)) ∧ h' = h) ∧ V vm') := by
  obtain ⟨a1, a2, a3, t, kb, a4, a5⟩ := A
  obtain ⟨b1, b2, b3, t', kb', b4, b5⟩ := B
  refine Pay.ofBack (Q0 := fun v h' L => ((v = some (.int 1) ∧ cs = ds) ∨ (v = some (.int 0) ∧ ¬ cs = ds)) ∧ L = [] ∧ h' = h) (fun s' hZ => StrChars.Road.eqW (W := W) hZ (hws_eq hw) (kI := 4) wi a2 a4 a3 a5 (Or.inl ⟨rfl, rfl, rfl, fun c hc => (a1 c hc).2⟩) (fun c hc => ⟨(a1 c hc).1, up65535 (a1 c hc).2⟩) la b2 b4 b3 b5 (Or.inl ⟨rfl, rfl, rfl, fun c hc => (b1 c hc).2⟩) (fun c hc => ⟨(b1 c hc).1, up65535 (b1 c hc).2⟩) lb (S.ext hO.2) hz hfr hlo) hV ?_
  rintro v h' vm' L ⟨q, rfl, rfl⟩ hv
  refine ⟨⟨⟨?_, rfl⟩, hv⟩, Keep.refl _ _, FrW.nil _ _⟩
  rcases q with ⟨q1, q2⟩ | ⟨q1, q2⟩
  · rw [own_seq1 q2]; exact q1
  · rw [own_seq0 q2]; exact q1
end Own
end Jvm.Pilot.@@N@@
namespace Jvm.Pilot.@@N@@
open Jvm Jvm.ClassFile Sem Op Lib Jvm.Free Jvm.Stand Jvm.LawKit Jvm.RoadKit Bundle Own StrChars Jvm.Pilot.@@N@@.Jvm.D
theorem own_nc {x : Int32} (h : ¬ x < 0 ∧ ¬ (255 : Int32) < x) : nar .char x = x := by
  obtain ⟨h0, h1⟩ := h
  show x.toUInt32.toUInt16.toUInt32.toInt32 = x
  obtain ⟨q1, q2, q3⟩ := c_i2c x
  rw [Int32.lt_iff_toInt_lt] at h0 h1
  have e0 : (0 : Int32).toInt = 0 := rfl
  have e1 : (255 : Int32).toInt = 255 := rfl
  apply Int32.toInt_inj.mp
  omega
theorem own_c255 (x : Int32) : ¬ (x &&& (255 : Int32)).toUInt32.toUInt16.toUInt32.toInt32 < 0 ∧ ¬ (255 : Int32) < (x &&& (255 : Int32)).toUInt32.toUInt16.toUInt32.toInt32 := by
  obtain ⟨q1, q2, q3⟩ := c_i2c (x &&& 255)
  have m := c_mask x 255 8 (by decide) (by decide)
  rw [Int32.lt_iff_toInt_lt, Int32.lt_iff_toInt_lt]
  have e0 : (0 : Int32).toInt = 0 := rfl
  have e1 : (255 : Int32).toInt = 255 := rfl
  omega
theorem own_nb (c : Int32) : nar .byte (c.toInt8.toInt32) = lo8 c := by show (c.toInt8.toInt32).toInt8.toInt32 = c.toInt8.toInt32; rw [Int8.toInt8_toInt32]
theorem own_ew {Z : State} {a0 : Array Value} (hw : ∀ d ∈ tables_1, d.before a0 Z = true) : EW Z a0 consts_1 := (EW.cons (hw _ (List.mem_of_getElem? (i := 48) rfl)) (by decide +kernel) (EW.cons (hw _ (List.mem_of_getElem? (i := 56) rfl)) (by decide +kernel) (EW.cons (hw _ (List.mem_of_getElem? (i := 59) rfl)) (by decide +kernel) (EW.cons (hw _ (List.mem_of_getElem? (i := 22) rfl)) (by decide +kernel) EW.nil))))
def StAt (Z : State) (h : Heap) (a : Addr) (vl : Value) (cd : Int32) : Prop := Exa Z h a "java/lang/String" ∧ Fld Z h a "java/lang/String" "value" "[B" (vl) ∧ Fld Z h a "java/lang/String" "coder" "B" (.int cd)
theorem StAt.keep {Z : State} {h h' : Heap} {a : Addr} {ws : List Addr} {vl : Value} {cd : Int32} (F : StAt Z h a vl cd) (K : Keep h h' ws) (q : a ∉ ws) : StAt Z h' a vl cd := ⟨F.1.keep K, (F.2.1).keep K q, (F.2.2).keep K q⟩
theorem StAt.ext {Z : State} {h h' : Heap} {a : Addr} {vl : Value} {cd : Int32} (F : StAt Z h a vl cd) (E : Ext h h') : StAt Z h' a vl cd := ⟨F.1.ext E, (F.2.1).ext E, (F.2.2).ext E⟩
theorem StAt.wrO {Z : State} {h h' : Heap} {a b : Addr} {sl : Nat} {w : Value} {vl : Value} {cd : Int32} (F : StAt Z h a vl cd) (W : Wr h h' b sl w) (q : a ≠ b) : StAt Z h' a vl cd := ⟨F.1.wr W, (F.2.1).other W (Or.inl q), (F.2.2).other W (Or.inl q)⟩
theorem StAt.set_vl {Z : State} {a0 : Array Value} (hw : ∀ d ∈ tables_1, d.before a0 Z = true) {h h' : Heap} {a : Addr} {vl : Value} {cd : Int32} {x' : Value} (F : StAt Z h a vl cd) (W : Wr h h' a (RoadKit.slotOf Z "java/lang/String" "value" "[B") (x')) : StAt Z h' a x' cd := ⟨F.1.wr W, (F.2.1).same W, (F.2.2).other W (Or.inr (slot_ne (C := "java/lang/String") (Or.inr (hw _ (List.mem_of_getElem? (i := 25) rfl))) (Or.inr (hw _ (List.mem_of_getElem? (i := 24) rfl))) (by decide) (t := .byte) (t' := (.array .byte)) (by decide) (by decide)))⟩
theorem StAt.set_cd {Z : State} {a0 : Array Value} (hw : ∀ d ∈ tables_1, d.before a0 Z = true) {h h' : Heap} {a : Addr} {vl : Value} {cd : Int32} {x' : Int32} (F : StAt Z h a vl cd) (W : Wr h h' a (RoadKit.slotOf Z "java/lang/String" "coder" "B") (.int x')) : StAt Z h' a vl x' := ⟨F.1.wr W, (F.2.1).other W (Or.inr (slot_ne (C := "java/lang/String") (Or.inr (hw _ (List.mem_of_getElem? (i := 24) rfl))) (Or.inr (hw _ (List.mem_of_getElem? (i := 25) rfl))) (by decide) (t := (.array .byte)) (t' := .byte) (by decide) (by decide))), (F.2.2).same W⟩
theorem StAt.new {Z : State} {a0 : Array Value} (hw : ∀ d ∈ tables_1, d.before a0 Z = true) {h : Heap} {a : Addr} (X : Exa Z h a "java/lang/String") (D : ∀ {O nm d : String} {ty : FieldType}, Laid Z a0 "java/lang/String" O nm d → parseFieldDescriptor d = some ty → Fld Z h a O nm d (defaultValue ty)) : Exa Z h a "java/lang/String" ∧ Fld Z h a "java/lang/String" "value" "[B" (.null) ∧ Fld Z h a "java/lang/String" "coder" "B" (.int 0) := ⟨X, D (Or.inr (hw _ (List.mem_of_getElem? (i := 24) rfl))) (ty := (.array .byte)) (by decide), D (Or.inr (hw _ (List.mem_of_getElem? (i := 25) rfl))) (ty := .byte) (by decide)⟩
theorem d_jdk_42_method_151_code_0 : decode jdk_42_method_151_code 0 = .ok (.aload_n 0, 1) := by decide +kernel
theorem d_jdk_42_method_151_code_1 : decode jdk_42_method_151_code 1 = .ok (.invokespecial 1, 3) := by decide +kernel
theorem d_jdk_42_method_151_code_4 : decode jdk_42_method_151_code 4 = .ok (.aload_n 0, 1) := by decide +kernel
theorem d_jdk_42_method_151_code_5 : decode jdk_42_method_151_code 5 = .ok (.aload_n 1, 1) := by decide +kernel
theorem d_jdk_42_method_151_code_6 : decode jdk_42_method_151_code 6 = .ok (.putfield 9, 3) := by decide +kernel
theorem d_jdk_42_method_151_code_9 : decode jdk_42_method_151_code 9 = .ok (.aload_n 0, 1) := by decide +kernel
theorem d_jdk_42_method_151_code_10 : decode jdk_42_method_151_code 10 = .ok (.iload_n 2, 1) := by decide +kernel
theorem d_jdk_42_method_151_code_11 : decode jdk_42_method_151_code 11 = .ok (.putfield 15, 3) := by decide +kernel
theorem d_jdk_42_method_151_code_14 : decode jdk_42_method_151_code 14 = .ok (.return_, 1) := by decide +kernel
theorem pn_0 : plainName "java/lang/String" = true := by first | (simp [plainName, overriddenIn]; done) | decide +kernel
set_option maxRecDepth 65536 in
set_option maxHeartbeats 40000000 in
theorem c_nbb (l : Launch) (Z : State) (a0 : Array Value) (hw : ∀ d ∈ tables_1, d.before a0 Z = true) (n0 : Nat) (h0 : Heap) (O0 : Old Z n0 h0) (a1 a2 : Addr) (B : StAt Z h0 a1 .null 0) (g1 : n0 ≤ a1) :
    Own.Ctr false l (⟨"java/lang/String", "<init>", "([BB)V"⟩ : MethodName) jdk_42_method_151_code 3 none ({ frames := 1, cells := 0, slots := 0, locals := 12 } : Room) #[(.ref a1), (.ref a2), (.int (0 : Int32))] Z h0 Own.VT [a1] (fun v h vm => v = none ∧ StAt Z h a1 (.ref a2) 0) := by
  refine Own.body (plainFor_of_name pn_0) O0 (fun v h vm q _ => q.1) (fun _ _ _ _ q _ => q) ?_
  intro p e s m below meth c T0 hby hml0 hret hnm hV0 K0
  change Own.Wk false p l e ({ frames := 1, cells := 0, slots := 0, locals := 12 } : Room) s m #[(.ref a1), (.ref a2), (.int (0 : Int32))] below meth c "java/lang/String" Z n0 h0 [] s.vm T0 h0 0 0 at K0
  replace K0 := K0.weaken [a1] (allS g1 all0)
  have hml : c.maxLocals = 3 := hml0
  have S0 : Go p e below (T0.setTop (entryFrame m #[(.ref a1), (.ref a2), (.int (0 : Int32))] 3)) (T0.setTop (mkF m 0 #[.val (.ref a1), .val (.ref a2), .val (.int (0 : Int32))] [])) := fun t k => castTop (by first | rfl | (simp [entryFrame, mkF, argsToLocals, Value.category]; done)) k
  generalize T0.setTop (entryFrame m #[(.ref a1), (.ref a2), (.int (0 : Int32))] 3) = A0 at S0 ⊢
  have S1 : Go p e below A0 (T0.setTop (mkF m 1 #[.val (.ref a1), .val (.ref a2), .val (.int (0 : Int32))] [(.ref a1)])) := by
    refine S0.trans ?_
    refine (Own.P.aloadN K0.here K0.exec (hb hby d_jdk_42_method_151_code_0) rfl rfl).trans ?_
    exact Go.refl _
  obtain ⟨T2, K2, G2⟩ := K0.initO (hw _ (List.mem_of_getElem? (i := 19) rfl)) (hw _ (List.mem_of_getElem? (i := 20) rfl)) (hw _ (List.mem_of_getElem? (i := 21) rfl)) (pc := 1) (Ls := #[.val (.ref a1), .val (.ref a2), .val (.int (0 : Int32))]) (rest := []) (by rw [hml]; rfl) (hb hby d_jdk_42_method_151_code_1) (by decide) (W := 0) (Nat.le_of_eq rfl) (by decide)
  have S2 : Go p e below A0 (T2.setTop (mkF m 4 #[.val (.ref a1), .val (.ref a2), .val (.int (0 : Int32))] [])) := S1.trans G2
  have S3 : Go p e below A0 (T2.setTop (mkF m 6 #[.val (.ref a1), .val (.ref a2), .val (.int (0 : Int32))] [(.ref a2), (.ref a1)])) := by
    refine S2.trans ?_
    refine (Own.P.aloadN K2.here K2.exec (hb hby d_jdk_42_method_151_code_4) rfl rfl).trans ?_
    refine (Own.P.aloadN K2.here K2.exec (hb hby d_jdk_42_method_151_code_5) rfl rfl).trans ?_
    exact Go.refl _
  obtain ⟨T4, h4, K4, W4, G4⟩ := K2.putF "" (Or.inl (hw _ (List.mem_of_getElem? (i := 28) rfl))) Via.refl B.2.1 B.1 (Or.inr ⟨(hw _ (List.mem_of_getElem? (i := 24) rfl)), rfl, hnm⟩) (hw _ (List.mem_of_getElem? (i := 9) rfl)) (ty := (.array .byte)) (by decide) (v := (.ref a2)) rfl rfl (Or.inl (List.mem_of_getElem? (i := 0) rfl)) (pc := 6) (Ls := #[.val (.ref a1), .val (.ref a2), .val (.int (0 : Int32))]) (rest := []) (hb hby d_jdk_42_method_151_code_6)
  have S4 : Go p e below A0 (T4.setTop (mkF m 9 #[.val (.ref a1), .val (.ref a2), .val (.int (0 : Int32))] [])) := S3.trans G4
  have B1 := B.set_vl hw W4
  have S5 : Go p e below A0 (T4.setTop (mkF m 11 #[.val (.ref a1), .val (.ref a2), .val (.int (0 : Int32))] [(.int (0 : Int32)), (.ref a1)])) := by
    refine S4.trans ?_
    refine (Own.P.aloadN K4.here K4.exec (hb hby d_jdk_42_method_151_code_9) rfl rfl).trans ?_
    refine (Own.P.iloadN K4.here K4.exec (hb hby d_jdk_42_method_151_code_10) rfl).trans ?_
    exact Go.refl _
  obtain ⟨T6, h6, K6, W6, G6⟩ := K4.putF "" (Or.inl (hw _ (List.mem_of_getElem? (i := 29) rfl))) Via.refl B1.2.2 B1.1 (Or.inr ⟨(hw _ (List.mem_of_getElem? (i := 25) rfl)), rfl, hnm⟩) (hw _ (List.mem_of_getElem? (i := 9) rfl)) (ty := .byte) (by decide) (v := (.int (0 : Int32))) rfl rfl (Or.inl (List.mem_of_getElem? (i := 0) rfl)) (pc := 11) (Ls := #[.val (.ref a1), .val (.ref a2), .val (.int (0 : Int32))]) (rest := []) (hb hby d_jdk_42_method_151_code_11)
  have S6 : Go p e below A0 (T6.setTop (mkF m 14 #[.val (.ref a1), .val (.ref a2), .val (.int (0 : Int32))] [])) := S5.trans G6
  have B2 := B1.set_cd hw W6
  exact ⟨s.vm, T6, h6, none, _, _, K6, by decide, by decide, ⟨rfl, B2⟩, K6.retV S6 hret (hb hby d_jdk_42_method_151_code_14)⟩
theorem d_jdk_43_method_3_code_0 : decode jdk_43_method_3_code 0 = .ok (.iload_n 0, 1) := by decide +kernel
theorem d_jdk_43_method_3_code_1 : decode jdk_43_method_3_code 1 = .ok (.sipush 255, 3) := by decide +kernel
theorem d_jdk_43_method_3_code_4 : decode jdk_43_method_3_code 4 = .ok (.if_icmp .gt 7, 3) := by decide +kernel
theorem d_jdk_43_method_3_code_7 : decode jdk_43_method_3_code 7 = .ok (.iconst 1, 1) := by decide +kernel
theorem d_jdk_43_method_3_code_8 : decode jdk_43_method_3_code 8 = .ok (.goto 4, 3) := by decide +kernel
theorem d_jdk_43_method_3_code_12 : decode jdk_43_method_3_code 12 = .ok (.ireturn, 1) := by decide +kernel
theorem pn_1 : plainName "java/lang/StringLatin1" = true := by first | (simp [plainName, overriddenIn]; done) | decide +kernel
set_option maxRecDepth 65536 in
set_option maxHeartbeats 40000000 in
theorem c_canEnc (l : Launch) (Z : State) (a0 : Array Value) (hw : ∀ d ∈ tables_1, d.before a0 Z = true) (n0 : Nat) (h0 : Heap) (O0 : Old Z n0 h0) (ch : Int32) (rc : ¬ ch < 0 ∧ ¬ 255 < ch) :
    Own.Ctr false l (⟨"java/lang/StringLatin1", "canEncode", "(C)Z"⟩ : MethodName) jdk_43_method_3_code 1 (some .boolean) ({ frames := 0, cells := 0, slots := 0, locals := 0 } : Room) #[(.int ch)] Z h0 Own.VT [] (fun v h vm => v = some (.int 1) ∧ h = h0) := by
  refine Own.body (plainFor_of_name pn_1) O0 (fun _ _ _ _ q => by cases q) (fun _ _ _ _ q _ => q) ?_
  intro p e s m below meth c T0 hby hml0 hret hnm hV0 K0
  change Own.Wk false p l e ({ frames := 0, cells := 0, slots := 0, locals := 0 } : Room) s m #[(.int ch)] below meth c "java/lang/StringLatin1" Z n0 h0 [] s.vm T0 h0 0 0 at K0
  have hml : c.maxLocals = 1 := hml0
  have S0 : Go p e below (T0.setTop (entryFrame m #[(.int ch)] 1)) (T0.setTop (mkF m 0 #[.val (.int ch)] [])) := fun t k => castTop (by first | rfl | (simp [entryFrame, mkF, argsToLocals, Value.category]; done)) k
  generalize T0.setTop (entryFrame m #[(.int ch)] 1) = A0 at S0 ⊢
  have S1 : Go p e below A0 (T0.setTop (mkF m 12 #[.val (.int ch)] [(.int (1 : Int32))])) := by
    refine S0.trans ?_
    refine (Own.P.iloadN K0.here K0.exec (hb hby d_jdk_43_method_3_code_0) rfl).trans ?_
    refine (Own.P.sipush K0.here K0.exec (255 : Int32) (hb hby d_jdk_43_method_3_code_1) rfl).trans ?_
    refine (Own.P.icmpNo K0.here K0.exec (hb hby d_jdk_43_method_3_code_4) (XT.ii_gt_f rc.2)).trans ?_
    refine (Own.P.iconst K0.here K0.exec (1 : Int32) (hb hby d_jdk_43_method_3_code_7) rfl).trans ?_
    refine (Own.P.goto K0.here K0.exec 12 (hb hby d_jdk_43_method_3_code_8) (by decide) (by decide)).trans ?_
    exact Go.refl _
  exact ⟨s.vm, T0, h0, (some (.int (1 : Int32))), _, _, K0, by decide, by decide, ⟨rfl, rfl⟩, K0.retW S1 hret rfl (Or.inl ⟨rfl, by decide, _, rfl⟩) (hb hby d_jdk_43_method_3_code_12)⟩
theorem d_jdk_43_method_46_code_0 : decode jdk_43_method_46_code 0 = .ok (.iconst 1, 1) := by decide +kernel
theorem d_jdk_43_method_46_code_1 : decode jdk_43_method_46_code 1 = .ok (.newarray .byte, 2) := by decide +kernel
theorem d_jdk_43_method_46_code_3 : decode jdk_43_method_46_code 3 = .ok (.dup, 1) := by decide +kernel
theorem d_jdk_43_method_46_code_4 : decode jdk_43_method_46_code 4 = .ok (.iconst 0, 1) := by decide +kernel
theorem d_jdk_43_method_46_code_5 : decode jdk_43_method_46_code 5 = .ok (.iload_n 0, 1) := by decide +kernel
theorem d_jdk_43_method_46_code_6 : decode jdk_43_method_46_code 6 = .ok (.i2b, 1) := by decide +kernel
theorem d_jdk_43_method_46_code_7 : decode jdk_43_method_46_code 7 = .ok (.bastore, 1) := by decide +kernel
theorem d_jdk_43_method_46_code_8 : decode jdk_43_method_46_code 8 = .ok (.areturn, 1) := by decide +kernel
set_option maxRecDepth 65536 in
set_option maxHeartbeats 40000000 in
theorem c_toB (l : Launch) (Z : State) (a0 : Array Value) (hw : ∀ d ∈ tables_1, d.before a0 Z = true) (n0 : Nat) (h0 : Heap) (O0 : Old Z n0 h0) (ch : Int32) :
    Own.Ctr false l (⟨"java/lang/StringLatin1", "toBytes", "(C)[B"⟩ : MethodName) jdk_43_method_46_code 1 (some (.array .byte)) ({ frames := 0, cells := 1, slots := 1, locals := 0 } : Room) #[(.int ch)] Z h0 Own.VT [] (fun v h vm => ∃ t kb, v = some (.ref t) ∧ Arv Z h t kb .byte 1 [.int (lo8 ch)] (.int 0) ∧ h0.size ≤ t) := by
  refine Own.body (plainFor_of_name pn_1) O0 (fun _ _ _ _ q => by cases q) (fun _ _ _ _ q _ => q) ?_
  intro p e s m below meth c T0 hby hml0 hret hnm hV0 K0
  change Own.Wk false p l e ({ frames := 0, cells := 1, slots := 1, locals := 0 } : Room) s m #[(.int ch)] below meth c "java/lang/StringLatin1" Z n0 h0 [] s.vm T0 h0 0 0 at K0
  have hml : c.maxLocals = 1 := hml0
  have S0 : Go p e below (T0.setTop (entryFrame m #[(.int ch)] 1)) (T0.setTop (mkF m 0 #[.val (.int ch)] [])) := fun t k => castTop (by first | rfl | (simp [entryFrame, mkF, argsToLocals, Value.category]; done)) k
  generalize T0.setTop (entryFrame m #[(.int ch)] 1) = A0 at S0 ⊢
  have S1 : Go p e below A0 (T0.setTop (mkF m 1 #[.val (.int ch)] [(.int (1 : Int32))])) := by
    refine S0.trans ?_
    refine (Own.P.iconst K0.here K0.exec (1 : Int32) (hb hby d_jdk_43_method_46_code_0) rfl).trans ?_
    exact Go.refl _
  obtain ⟨T2, h2, t, cA_t, K2, E2, g_t, l_t, ne_t, V_t, G2⟩ := K0.newP (aty := .byte) (hw _ (List.mem_of_getElem? (i := 23) rfl)) (n := (1 : Int32)) (pc := 1) (Ls := #[.val (.int ch)]) (rest := []) (hb hby d_jdk_43_method_46_code_1) 1 (by decide) (by decide) (by decide) (by decide) (by decide)
  have S2 : Go p e below A0 (T2.setTop (mkF m 3 #[.val (.int ch)] [(.ref t)])) := S1.trans G2
  have Y0 : Arv Z h2 t cA_t .byte 1 [.int 0] (.int 0) := V_t.pad (pad_rep [] (.int 0) 1)
  have S3 : Go p e below A0 (T2.setTop (mkF m 7 #[.val (.int ch)] [(.int (ch.toInt8.toInt32)), (.int (0 : Int32)), (.ref t), (.ref t)])) := by
    refine S2.trans ?_
    refine (Own.P.dup K2.here K2.exec (hb hby d_jdk_43_method_46_code_3) rfl).trans ?_
    refine (Own.P.iconst K2.here K2.exec (0 : Int32) (hb hby d_jdk_43_method_46_code_4) rfl).trans ?_
    refine (Own.P.iloadN K2.here K2.exec (hb hby d_jdk_43_method_46_code_5) rfl).trans ?_
    refine (Own.P.i2b K2.here K2.exec (hb hby d_jdk_43_method_46_code_6) ).trans ?_
    exact Go.refl _
  obtain ⟨T4, h4, K4, W4, V4, G4⟩ := K2.stB Y0  (j := (0 : Int32)) ⟨by decide, by decide⟩ 0 rfl (Nat.le_of_ble_eq_true rfl) (Or.inr g_t) (pc := 7) (Ls := #[.val (.int ch)]) (rest := [(.ref t)]) (hb hby d_jdk_43_method_46_code_7)
  have S4 : Go p e below A0 (T4.setTop (mkF m 8 #[.val (.int ch)] [(.ref t)])) := S3.trans G4
  rw [own_nb] at V4
  exact ⟨s.vm, T4, h4, (some (.ref t)), _, _, K4, by decide, by decide, ⟨t, cA_t, rfl, V4, g_t⟩, K4.retW S4 hret rfl (Or.inr (Or.inr (Or.inr (Or.inr ⟨rfl, rfl, rfl⟩)))) (hb hby d_jdk_43_method_46_code_8)⟩
theorem d_jdk_42_method_139_code_0 : decode jdk_42_method_139_code 0 = .ok (.getstatic 38, 3) := by decide +kernel
theorem d_jdk_42_method_139_code_3 : decode jdk_42_method_139_code 3 = .ok (.ifCond .eq 23, 3) := by decide +kernel
theorem d_jdk_42_method_139_code_6 : decode jdk_42_method_139_code 6 = .ok (.iload_n 0, 1) := by decide +kernel
theorem pd_0 : parseMethodDescriptor "(C)Z" = some ⟨[.char], some .boolean⟩ := by decide +kernel
theorem d_jdk_42_method_139_code_7 : decode jdk_42_method_139_code 7 = .ok (.invokestatic 1015, 3) := by decide +kernel
theorem d_jdk_42_method_139_code_10 : decode jdk_42_method_139_code 10 = .ok (.ifCond .eq 16, 3) := by decide +kernel
theorem d_jdk_42_method_139_code_13 : decode jdk_42_method_139_code 13 = .ok (.new 10, 3) := by decide +kernel
theorem d_jdk_42_method_139_code_16 : decode jdk_42_method_139_code 16 = .ok (.dup, 1) := by decide +kernel
theorem d_jdk_42_method_139_code_17 : decode jdk_42_method_139_code 17 = .ok (.iload_n 0, 1) := by decide +kernel
theorem pd_1 : parseMethodDescriptor "(C)[B" = some ⟨[.char], some (.array .byte)⟩ := by decide +kernel
theorem d_jdk_42_method_139_code_18 : decode jdk_42_method_139_code 18 = .ok (.invokestatic 1018, 3) := by decide +kernel
theorem d_jdk_42_method_139_code_21 : decode jdk_42_method_139_code 21 = .ok (.iconst 0, 1) := by decide +kernel
theorem pd_2 : parseMethodDescriptor "([BB)V" = some ⟨[(.array .byte), .byte], none⟩ := by decide +kernel
theorem d_jdk_42_method_139_code_22 : decode jdk_42_method_139_code 22 = .ok (.invokespecial 209, 3) := by decide +kernel
theorem d_jdk_42_method_139_code_25 : decode jdk_42_method_139_code 25 = .ok (.areturn, 1) := by decide +kernel
set_option maxRecDepth 65536 in
set_option maxHeartbeats 40000000 in
theorem c_valueOf (l : Launch) (Z : State) (a0 : Array Value) (hw : ∀ d ∈ tables_1, d.before a0 Z = true) (n0 : Nat) (h0 : Heap) (O0 : Old Z n0 h0) (ch : Int32) (rc : ¬ ch < 0 ∧ ¬ 255 < ch) (zc : Int32) (hzc : ¬ zc = 0) (SC : Sta Z Z.heap "java/lang/String" "COMPACT_STRINGS" "Z" (.int zc)) :
    Own.Ctr false l (⟨"java/lang/String", "valueOf", "(C)Ljava/lang/String;"⟩ : MethodName) jdk_42_method_139_code 1 (some (.object "java/lang/String")) ({ frames := 2, cells := 2, slots := 5, locals := 27 } : Room) #[(.int ch)] Z h0 Own.VT [] (fun v h vm => ∃ a, v = some (.ref a) ∧ StrIs Z h a [ch] ∧ h0.size ≤ a) := by
  refine Own.body (plainFor_of_name pn_0) O0 (fun _ _ _ _ q => by cases q) (fun _ _ _ _ q _ => q) ?_
  intro p e s m below meth c T0 hby hml0 hret hnm hV0 K0
  change Own.Wk false p l e ({ frames := 2, cells := 2, slots := 5, locals := 27 } : Room) s m #[(.int ch)] below meth c "java/lang/String" Z n0 h0 [] s.vm T0 h0 0 0 at K0
  have hml : c.maxLocals = 1 := hml0
  have S0 : Go p e below (T0.setTop (entryFrame m #[(.int ch)] 1)) (T0.setTop (mkF m 0 #[.val (.int ch)] [])) := fun t k => castTop (by first | rfl | (simp [entryFrame, mkF, argsToLocals, Value.category]; done)) k
  generalize T0.setTop (entryFrame m #[(.int ch)] 1) = A0 at S0 ⊢
  obtain ⟨T1, K1, G1⟩ := K0.getS "" (Or.inl (hw _ (List.mem_of_getElem? (i := 30) rfl))) Via.refl (SC.ext K0.ext) (pc := 0) (Ls := #[.val (.int ch)]) (rest := []) (hb hby d_jdk_42_method_139_code_0)
  have S1 : Go p e below A0 (T1.setTop (mkF m 3 #[.val (.int ch)] [(.int zc)])) := S0.trans G1
  have S2 : Go p e below A0 (T1.setTop (mkF m 7 #[.val (.int ch)] [(.int ch)])) := by
    refine S1.trans ?_
    refine (Own.P.ifNo K1.here K1.exec (hb hby d_jdk_42_method_139_code_3) (XT.i0_eq_f hzc)).trans ?_
    refine (Own.P.iloadN K1.here K1.exec (hb hby d_jdk_42_method_139_code_6) rfl).trans ?_
    exact Go.refl _
  obtain ⟨v3, vm3, vq3, T3, h3, K3, KK3, ev3, Q3, G3⟩ := K1.callS (y := (⟨"java/lang/StringLatin1", "canEncode", "(C)Z"⟩ : MethodName)) (hw _ (List.mem_of_getElem? (i := 83) rfl)) (hw _ (List.mem_of_getElem? (i := 84) rfl)) (hw _ (List.mem_of_getElem? (i := 70) rfl)) (hw _ (List.mem_of_getElem? (i := 85) rfl)) (by decide) (W := 0) (argsL := [(.int ch)]) (rest := []) ((c_canEnc l Z a0 hw n0 h0 (K1.old) ch rc).pay Own.VT.cl (hw _ (List.mem_of_getElem? (i := 85) rfl)) (hw _ (List.mem_of_getElem? (i := 70) rfl)) (by decide) (by decide)) trivial (pc := 7) (Ls := #[.val (.int ch)]) (st := [(.int ch)]) (by rw [hml]; rfl) (lenOf pd_0 rfl) rfl (Nat.le_of_eq rfl) (hb hby d_jdk_42_method_139_code_7) (by decide) (by decide) all0
  obtain ⟨rfl, e3⟩ := Q3
  have S3 : Go p e below A0 (T3.setTop (mkF m 10 #[.val (.int ch)] [(.int (1 : Int32))])) := S2.trans G3
  subst e3
  have S4 : Go p e below A0 (T3.setTop (mkF m 13 #[.val (.int ch)] [])) := by
    refine S3.trans ?_
    refine (Own.P.ifNo K3.here K3.exec (hb hby d_jdk_42_method_139_code_10) (by decide)).trans ?_
    exact Go.refl _
  obtain ⟨T5, h5, sq, K5, E5, g_sq, l_sq, ne_sq, X_sq, D_sq, G5⟩ := K3.newO (hw _ (List.mem_of_getElem? (i := 67) rfl)) (hw _ (List.mem_of_getElem? (i := 9) rfl)) (hw _ (List.mem_of_getElem? (i := 10) rfl)) (pc := 13) (Ls := #[.val (.int ch)]) (rest := []) (hb hby d_jdk_42_method_139_code_13) (by decide) (by decide)
  have S5 : Go p e below A0 (T5.setTop (mkF m 16 #[.val (.int ch)] [(.ref sq)])) := S4.trans G5
  have B0 := StAt.new hw X_sq D_sq
  have S6 : Go p e below A0 (T5.setTop (mkF m 18 #[.val (.int ch)] [(.int ch), (.ref sq), (.ref sq)])) := by
    refine S5.trans ?_
    refine (Own.P.dup K5.here K5.exec (hb hby d_jdk_42_method_139_code_16) rfl).trans ?_
    refine (Own.P.iloadN K5.here K5.exec (hb hby d_jdk_42_method_139_code_17) rfl).trans ?_
    exact Go.refl _
  obtain ⟨v7, vm7, vq7, T7, h7, K7, KK7, ev7, Q7, G7⟩ := K5.callS (y := (⟨"java/lang/StringLatin1", "toBytes", "(C)[B"⟩ : MethodName)) (hw _ (List.mem_of_getElem? (i := 86) rfl)) (hw _ (List.mem_of_getElem? (i := 87) rfl)) (hw _ (List.mem_of_getElem? (i := 70) rfl)) (hw _ (List.mem_of_getElem? (i := 88) rfl)) (by decide) (W := 2) (argsL := [(.int ch)]) (rest := [(.ref sq), (.ref sq)]) ((c_toB l Z a0 hw n0 h5 (K5.old) ch).pay Own.VT.cl (hw _ (List.mem_of_getElem? (i := 88) rfl)) (hw _ (List.mem_of_getElem? (i := 70) rfl)) (by decide) (by decide)) trivial (pc := 18) (Ls := #[.val (.int ch)]) (st := [(.int ch), (.ref sq), (.ref sq)]) (by rw [hml]; rfl) (lenOf pd_1 rfl) rfl (Nat.le_of_eq rfl) (hb hby d_jdk_42_method_139_code_18) (by decide) (by decide) all0
  obtain ⟨t, kb, rfl, Y, gt⟩ := Q7
  have S7 : Go p e below A0 (T7.setTop (mkF m 21 #[.val (.int ch)] [(.ref t), (.ref sq), (.ref sq)])) := S6.trans G7
  have B1 : StAt Z h7 sq .null 0 := StAt.keep (vl := .null) (cd := 0) B0 KK7 nin0
  have S8 : Go p e below A0 (T7.setTop (mkF m 22 #[.val (.int ch)] [(.int (0 : Int32)), (.ref t), (.ref sq), (.ref sq)])) := by
    refine S7.trans ?_
    refine (Own.P.iconst K7.here K7.exec (0 : Int32) (hb hby d_jdk_42_method_139_code_21) rfl).trans ?_
    exact Go.refl _
  obtain ⟨v9, vm9, vq9, T9, h9, K9, KK9, ev9, Q9, G9⟩ := K7.callI (y := (⟨"java/lang/String", "<init>", "([BB)V"⟩ : MethodName)) rfl (hw _ (List.mem_of_getElem? (i := 89) rfl)) (hw _ (List.mem_of_getElem? (i := 90) rfl)) (hw _ (List.mem_of_getElem? (i := 91) rfl)) (by decide) (W := 1) (a := sq) (argsL := [(.ref t), (.int (0 : Int32))]) (rest := [(.ref sq)]) ((c_nbb l Z a0 hw n0 h7 (K7.old) sq t B1 (K7.fresh (Or.inr g_sq))).pay Own.VT.cl (hw _ (List.mem_of_getElem? (i := 91) rfl)) (hw _ (List.mem_of_getElem? (i := 10) rfl)) (by decide) (by decide)) trivial (pc := 22) (Ls := #[.val (.int ch)]) (st := [(.int (0 : Int32)), (.ref t), (.ref sq), (.ref sq)]) (by rw [hml]; rfl) (lenOf pd_2 rfl) rfl (Nat.le_of_eq rfl) (hb hby d_jdk_42_method_139_code_22) (by decide) (by decide) (allS (Or.inr g_sq) all0)
  obtain ⟨rfl, B2⟩ := Q9
  have S9 : Go p e below A0 (T9.setTop (mkF m 25 #[.val (.int ch)] [(.ref sq)])) := S8.trans G9
  have nt : t ≠ sq := Ne.symm (Exa.neArv B1.1 Y (hw _ (List.mem_of_getElem? (i := 9) rfl)))
  have Y1 := Y.keep KK9 (ninS nt nin0)
  exact ⟨vm9, T9, h9, (some (.ref sq)), _, _, K9, by decide, by decide, ⟨sq, rfl, ⟨by intro c hc; rw [List.mem_singleton.mp hc]; exact rc, B2.1, B2.2.2, t, kb, B2.2.1, Y1⟩, g_sq⟩, K9.retW S9 hret rfl (Or.inr (Or.inr (Or.inr (Or.inr ⟨rfl, rfl, rfl⟩)))) (hb hby d_jdk_42_method_139_code_25)⟩
theorem d_jdk_42_method_149_code_0 : decode jdk_42_method_149_code 0 = .ok (.aload_n 0, 1) := by decide +kernel
theorem d_jdk_42_method_149_code_1 : decode jdk_42_method_149_code 1 = .ok (.invokespecial 1, 3) := by decide +kernel
theorem d_jdk_42_method_149_code_4 : decode jdk_42_method_149_code 4 = .ok (.iload_n 3, 1) := by decide +kernel
theorem d_jdk_42_method_149_code_5 : decode jdk_42_method_149_code 5 = .ok (.ifCond .ne 22, 3) := by decide +kernel
theorem d_jdk_42_method_149_code_8 : decode jdk_42_method_149_code 8 = .ok (.aload_n 0, 1) := by decide +kernel
theorem d_jdk_42_method_149_code_9 : decode jdk_42_method_149_code 9 = .ok (.ldc 7, 2) := by decide +kernel
theorem d_jdk_42_method_149_code_11 : decode jdk_42_method_149_code 11 = .ok (.getfield 9, 3) := by decide +kernel
theorem d_jdk_42_method_149_code_14 : decode jdk_42_method_149_code 14 = .ok (.putfield 9, 3) := by decide +kernel
theorem d_jdk_42_method_149_code_17 : decode jdk_42_method_149_code 17 = .ok (.aload_n 0, 1) := by decide +kernel
theorem d_jdk_42_method_149_code_18 : decode jdk_42_method_149_code 18 = .ok (.ldc 7, 2) := by decide +kernel
theorem d_jdk_42_method_149_code_20 : decode jdk_42_method_149_code 20 = .ok (.getfield 15, 3) := by decide +kernel
theorem d_jdk_42_method_149_code_23 : decode jdk_42_method_149_code 23 = .ok (.putfield 15, 3) := by decide +kernel
theorem d_jdk_42_method_149_code_26 : decode jdk_42_method_149_code 26 = .ok (.return_, 1) := by decide +kernel
set_option maxRecDepth 65536 in
set_option maxHeartbeats 40000000 in
theorem c_new40 (l : Launch) (Z : State) (a0 : Array Value) (hw : ∀ d ∈ tables_1, d.before a0 Z = true) (n0 : Nat) (h0 : Heap) (O0 : Old Z n0 h0) (a1 a2 : Addr) (B : StAt Z h0 a1 .null 0) (g1 : n0 ≤ a1) :
    Own.Ctr true l (⟨"java/lang/String", "<init>", "([CIILjava/lang/Void;)V"⟩ : MethodName) jdk_42_method_149_code 6 none ({ frames := 1, cells := 2, slots := 4, locals := 12 } : Room) #[(.ref a1), (.ref a2), (.int (0 : Int32)), (.int (0 : Int32)), Value.null] Z h0 (Own.HV Z consts_1 h0) [a1] (fun v h vm => v = none ∧ StrIs Z h a1 [] ∧ Own.HV Z consts_1 h vm) := by
  refine Own.body (plainFor_of_name pn_0) O0 (fun v h vm q _ => q.1) (fun v h s vm' q hW => ⟨q.1, q.2.1, Own.HV.cl (own_ew hw) s vm' q.2.2 hW⟩) ?_
  intro p e s m below meth c T0 hby hml0 hret hnm hV0 K0
  change Own.Wk true p l e ({ frames := 1, cells := 2, slots := 4, locals := 12 } : Room) s m #[(.ref a1), (.ref a2), (.int (0 : Int32)), (.int (0 : Int32)), Value.null] below meth c "java/lang/String" Z n0 h0 [] s.vm T0 h0 0 0 at K0
  replace K0 := K0.weaken [a1] (allS g1 all0)
  have hml : c.maxLocals = 6 := hml0
  have S0 : Go p e below (T0.setTop (entryFrame m #[(.ref a1), (.ref a2), (.int (0 : Int32)), (.int (0 : Int32)), Value.null] 6)) (T0.setTop (mkF m 0 #[.val (.ref a1), .val (.ref a2), .val (.int (0 : Int32)), .val (.int (0 : Int32)), .val Value.null, .unset] [])) := fun t k => castTop (by first | rfl | (simp [entryFrame, mkF, argsToLocals, Value.category]; done)) k
  generalize T0.setTop (entryFrame m #[(.ref a1), (.ref a2), (.int (0 : Int32)), (.int (0 : Int32)), Value.null] 6) = A0 at S0 ⊢
  have S1 : Go p e below A0 (T0.setTop (mkF m 1 #[.val (.ref a1), .val (.ref a2), .val (.int (0 : Int32)), .val (.int (0 : Int32)), .val Value.null, .unset] [(.ref a1)])) := by
    refine S0.trans ?_
    refine (Own.P.aloadN K0.here K0.exec (hb hby d_jdk_42_method_149_code_0) rfl rfl).trans ?_
    exact Go.refl _
  obtain ⟨T2, K2, G2⟩ := K0.initO (hw _ (List.mem_of_getElem? (i := 19) rfl)) (hw _ (List.mem_of_getElem? (i := 20) rfl)) (hw _ (List.mem_of_getElem? (i := 21) rfl)) (pc := 1) (Ls := #[.val (.ref a1), .val (.ref a2), .val (.int (0 : Int32)), .val (.int (0 : Int32)), .val Value.null, .unset]) (rest := []) (by rw [hml]; rfl) (hb hby d_jdk_42_method_149_code_1) (by decide) (W := 0) (Nat.le_of_eq rfl) (by decide)
  have S2 : Go p e below A0 (T2.setTop (mkF m 4 #[.val (.ref a1), .val (.ref a2), .val (.int (0 : Int32)), .val (.int (0 : Int32)), .val Value.null, .unset] [])) := S1.trans G2
  have S3 : Go p e below A0 (T2.setTop (mkF m 9 #[.val (.ref a1), .val (.ref a2), .val (.int (0 : Int32)), .val (.int (0 : Int32)), .val Value.null, .unset] [(.ref a1)])) := by
    refine S2.trans ?_
    refine (Own.P.iloadN K2.here K2.exec (hb hby d_jdk_42_method_149_code_4) rfl).trans ?_
    refine (Own.P.ifNo K2.here K2.exec (hb hby d_jdk_42_method_149_code_5) (by decide)).trans ?_
    refine (Own.P.aloadN K2.here K2.exec (hb hby d_jdk_42_method_149_code_8) rfl rfl).trans ?_
    exact Go.refl _
  obtain ⟨la, b_la, k_la, vm4, T4, h4, K4, E4, X_la, C_la, F_la, V_la, H_la, L_la, G4⟩ := K2.ldcH (hw _ (List.mem_of_getElem? (i := 22) rfl)) (Own.atoms_in hw) (own_ew hw) (by simp [consts_1]) hV0.2 (z := 0) ⟨by decide +kernel, rfl⟩ (by decide) (by decide +kernel) (pc := 9) (Ls := #[.val (.ref a1), .val (.ref a2), .val (.int (0 : Int32)), .val (.int (0 : Int32)), .val Value.null, .unset]) (rest := [(.ref a1)]) (hb hby d_jdk_42_method_149_code_9) (n := 0) (by decide +kernel) (by decide) (by decide) (by decide)
  have S4 : Go p e below A0 (T4.setTop (mkF m 11 #[.val (.ref a1), .val (.ref a2), .val (.int (0 : Int32)), .val (.int (0 : Int32)), .val Value.null, .unset] [(.ref la), (.ref a1)])) := S3.trans G4
  have B0 : StAt Z h4 a1 .null 0 := StAt.ext (vl := .null) (cd := 0) B E4
  have nal : la ≠ a1 := F_la.ne B0.2.1 (by simp)
  have nbl : b_la ≠ a1 := Ne.symm (Exa.neArv B0.1 V_la (hw _ (List.mem_of_getElem? (i := 9) rfl)))
  have S0' : Safe Z consts_1 vm4 h4 a1 := Own.safeNull K4.al B0.2.1 B0.1
  obtain ⟨T5, K5, G5⟩ := K4.getF "" (Or.inl (hw _ (List.mem_of_getElem? (i := 28) rfl))) Via.refl F_la (pc := 11) (Ls := #[.val (.ref a1), .val (.ref a2), .val (.int (0 : Int32)), .val (.int (0 : Int32)), .val Value.null, .unset]) (rest := [(.ref a1)]) (hb hby d_jdk_42_method_149_code_11)
  have S5 : Go p e below A0 (T5.setTop (mkF m 14 #[.val (.ref a1), .val (.ref a2), .val (.int (0 : Int32)), .val (.int (0 : Int32)), .val Value.null, .unset] [(.ref b_la), (.ref a1)])) := S4.trans G5
  obtain ⟨T6, h6, K6, W6, G6⟩ := K5.putF "" (Or.inl (hw _ (List.mem_of_getElem? (i := 28) rfl))) Via.refl B0.2.1 B0.1 (Or.inr ⟨(hw _ (List.mem_of_getElem? (i := 24) rfl)), rfl, hnm⟩) (hw _ (List.mem_of_getElem? (i := 9) rfl)) (ty := (.array .byte)) (by decide) (v := (.ref b_la)) rfl rfl (Or.inl (List.mem_of_getElem? (i := 0) rfl)) (pc := 14) (Ls := #[.val (.ref a1), .val (.ref a2), .val (.int (0 : Int32)), .val (.int (0 : Int32)), .val Value.null, .unset]) (rest := []) (hb hby d_jdk_42_method_149_code_14)
  have S6 : Go p e below A0 (T6.setTop (mkF m 17 #[.val (.ref a1), .val (.ref a2), .val (.int (0 : Int32)), .val (.int (0 : Int32)), .val Value.null, .unset] [])) := S5.trans G6
  have B1 := B0.set_vl hw W6
  have A1 : StAt Z h6 la (.ref b_la) 0 := StAt.wrO (vl := .ref b_la) (cd := 0) ⟨X_la, F_la, C_la⟩ W6 nal
  have Y1 := V_la.other W6 nbl
  have H1 := H_la.wr W6 S0'
  have S1' := Safe.wr W6 S0' H_la S0'
  have S7 : Go p e below A0 (T6.setTop (mkF m 18 #[.val (.ref a1), .val (.ref a2), .val (.int (0 : Int32)), .val (.int (0 : Int32)), .val Value.null, .unset] [(.ref a1)])) := by
    refine S6.trans ?_
    refine (Own.P.aloadN K6.here K6.exec (hb hby d_jdk_42_method_149_code_17) rfl rfl).trans ?_
    exact Go.refl _
  have G8 := K6.ldcA (hw _ (List.mem_of_getElem? (i := 22) rfl)) L_la (pc := 18) (Ls := #[.val (.ref a1), .val (.ref a2), .val (.int (0 : Int32)), .val (.int (0 : Int32)), .val Value.null, .unset]) (rest := [(.ref a1)]) (hb hby d_jdk_42_method_149_code_18)
  have S8 : Go p e below A0 (T6.setTop (mkF m 20 #[.val (.ref a1), .val (.ref a2), .val (.int (0 : Int32)), .val (.int (0 : Int32)), .val Value.null, .unset] [(.ref la), (.ref a1)])) := S7.trans G8
  obtain ⟨T9, K9, G9⟩ := K6.getF "" (Or.inl (hw _ (List.mem_of_getElem? (i := 29) rfl))) Via.refl A1.2.2 (pc := 20) (Ls := #[.val (.ref a1), .val (.ref a2), .val (.int (0 : Int32)), .val (.int (0 : Int32)), .val Value.null, .unset]) (rest := [(.ref a1)]) (hb hby d_jdk_42_method_149_code_20)
  have S9 : Go p e below A0 (T9.setTop (mkF m 23 #[.val (.ref a1), .val (.ref a2), .val (.int (0 : Int32)), .val (.int (0 : Int32)), .val Value.null, .unset] [(.int (0 : Int32)), (.ref a1)])) := S8.trans G9
  obtain ⟨T10, h10, K10, W10, G10⟩ := K9.putF "" (Or.inl (hw _ (List.mem_of_getElem? (i := 29) rfl))) Via.refl B1.2.2 B1.1 (Or.inr ⟨(hw _ (List.mem_of_getElem? (i := 25) rfl)), rfl, hnm⟩) (hw _ (List.mem_of_getElem? (i := 9) rfl)) (ty := .byte) (by decide) (v := (.int (0 : Int32))) rfl rfl (Or.inl (List.mem_of_getElem? (i := 0) rfl)) (pc := 23) (Ls := #[.val (.ref a1), .val (.ref a2), .val (.int (0 : Int32)), .val (.int (0 : Int32)), .val Value.null, .unset]) (rest := []) (hb hby d_jdk_42_method_149_code_23)
  have S10 : Go p e below A0 (T10.setTop (mkF m 26 #[.val (.ref a1), .val (.ref a2), .val (.int (0 : Int32)), .val (.int (0 : Int32)), .val Value.null, .unset] [])) := S9.trans G10
  have B2 := B1.set_cd hw W10
  have Y2 := Y1.other W10 nbl
  have H2 := H1.wr W10 S1'
  exact ⟨vm4, T10, h10, none, _, _, K10, by decide, by decide, ⟨rfl, ⟨(fun c hc => nomatch hc), B2.1, B2.2.2, b_la, k_la, B2.2.1, Y2⟩, K10.warm, H2⟩, K10.retV S10 hret (hb hby d_jdk_42_method_149_code_26)⟩
theorem d_jdk_42_method_3_code_0 : decode jdk_42_method_3_code 0 = .ok (.aload_n 0, 1) := by decide +kernel
theorem d_jdk_42_method_3_code_1 : decode jdk_42_method_3_code 1 = .ok (.aload_n 1, 1) := by decide +kernel
theorem d_jdk_42_method_3_code_2 : decode jdk_42_method_3_code 2 = .ok (.iconst 0, 1) := by decide +kernel
theorem d_jdk_42_method_3_code_3 : decode jdk_42_method_3_code 3 = .ok (.aload_n 1, 1) := by decide +kernel
theorem d_jdk_42_method_3_code_4 : decode jdk_42_method_3_code 4 = .ok (.arraylength, 1) := by decide +kernel
theorem d_jdk_42_method_3_code_5 : decode jdk_42_method_3_code 5 = .ok (.aconst_null, 1) := by decide +kernel
theorem pd_3 : parseMethodDescriptor "([CIILjava/lang/Void;)V" = some ⟨[(.array .char), .int, .int, (.object "java/lang/Void")], none⟩ := by decide +kernel
theorem d_jdk_42_method_3_code_6 : decode jdk_42_method_3_code 6 = .ok (.invokespecial 27, 3) := by decide +kernel
theorem d_jdk_42_method_3_code_9 : decode jdk_42_method_3_code 9 = .ok (.return_, 1) := by decide +kernel
set_option maxRecDepth 65536 in
set_option maxHeartbeats 40000000 in
theorem c_new10 (l : Launch) (Z : State) (a0 : Array Value) (hw : ∀ d ∈ tables_1, d.before a0 Z = true) (n0 : Nat) (h0 : Heap) (O0 : Old Z n0 h0) (a1 a2 : Addr) (kc : ClassId) (vs : List Value) (dv : Value) (V : Arv Z h0 a2 kc .char 0 vs dv) (B : StAt Z h0 a1 .null 0) (g1 : n0 ≤ a1) :
    Own.Ctr true l (⟨"java/lang/String", "<init>", "([C)V"⟩ : MethodName) jdk_42_method_3_code 2 none ({ frames := 2, cells := 2, slots := 4, locals := 29 } : Room) #[(.ref a1), (.ref a2)] Z h0 (Own.HV Z consts_1 h0) [a1] (fun v h vm => v = none ∧ StrIs Z h a1 [] ∧ Own.HV Z consts_1 h vm) := by
  refine Own.body (plainFor_of_name pn_0) O0 (fun v h vm q _ => q.1) (fun v h s vm' q hW => ⟨q.1, q.2.1, Own.HV.cl (own_ew hw) s vm' q.2.2 hW⟩) ?_
  intro p e s m below meth c T0 hby hml0 hret hnm hV0 K0
  change Own.Wk true p l e ({ frames := 2, cells := 2, slots := 4, locals := 29 } : Room) s m #[(.ref a1), (.ref a2)] below meth c "java/lang/String" Z n0 h0 [] s.vm T0 h0 0 0 at K0
  replace K0 := K0.weaken [a1] (allS g1 all0)
  have hml : c.maxLocals = 2 := hml0
  have S0 : Go p e below (T0.setTop (entryFrame m #[(.ref a1), (.ref a2)] 2)) (T0.setTop (mkF m 0 #[.val (.ref a1), .val (.ref a2)] [])) := fun t k => castTop (by first | rfl | (simp [entryFrame, mkF, argsToLocals, Value.category]; done)) k
  generalize T0.setTop (entryFrame m #[(.ref a1), (.ref a2)] 2) = A0 at S0 ⊢
  have S1 : Go p e below A0 (T0.setTop (mkF m 4 #[.val (.ref a1), .val (.ref a2)] [(.ref a2), (.int (0 : Int32)), (.ref a2), (.ref a1)])) := by
    refine S0.trans ?_
    refine (Own.P.aloadN K0.here K0.exec (hb hby d_jdk_42_method_3_code_0) rfl rfl).trans ?_
    refine (Own.P.aloadN K0.here K0.exec (hb hby d_jdk_42_method_3_code_1) rfl rfl).trans ?_
    refine (Own.P.iconst K0.here K0.exec (0 : Int32) (hb hby d_jdk_42_method_3_code_2) rfl).trans ?_
    refine (Own.P.aloadN K0.here K0.exec (hb hby d_jdk_42_method_3_code_3) rfl rfl).trans ?_
    exact Go.refl _
  have G2 := K0.len V (pc := 4) (Ls := #[.val (.ref a1), .val (.ref a2)]) (rest := [(.int (0 : Int32)), (.ref a2), (.ref a1)]) (hb hby d_jdk_42_method_3_code_4)
  have S2 : Go p e below A0 (T0.setTop (mkF m 5 #[.val (.ref a1), .val (.ref a2)] [(.int (0 : Int32)), (.int (0 : Int32)), (.ref a2), (.ref a1)])) := S1.trans G2
  have S3 : Go p e below A0 (T0.setTop (mkF m 6 #[.val (.ref a1), .val (.ref a2)] [Value.null, (.int (0 : Int32)), (.int (0 : Int32)), (.ref a2), (.ref a1)])) := by
    refine S2.trans ?_
    refine (Own.P.null K0.here K0.exec (hb hby d_jdk_42_method_3_code_5) ).trans ?_
    exact Go.refl _
  obtain ⟨v4, vm4, vq4, T4, h4, K4, KK4, ev4, Q4, G4⟩ := K0.callI (y := (⟨"java/lang/String", "<init>", "([CIILjava/lang/Void;)V"⟩ : MethodName)) rfl (hw _ (List.mem_of_getElem? (i := 15) rfl)) (hw _ (List.mem_of_getElem? (i := 16) rfl)) (hw _ (List.mem_of_getElem? (i := 18) rfl)) (by decide) (W := 0) (a := a1) (argsL := [(.ref a2), (.int (0 : Int32)), (.int (0 : Int32)), Value.null]) (rest := []) ((c_new40 l Z a0 hw n0 h0 (K0.old) a1 a2 B g1).pay (Own.HV.cl (own_ew hw)) (hw _ (List.mem_of_getElem? (i := 18) rfl)) (hw _ (List.mem_of_getElem? (i := 10) rfl)) (by decide) (by decide)) hV0 (pc := 6) (Ls := #[.val (.ref a1), .val (.ref a2)]) (st := [Value.null, (.int (0 : Int32)), (.int (0 : Int32)), (.ref a2), (.ref a1)]) (by rw [hml]; rfl) (lenOf pd_3 rfl) rfl (Nat.le_of_eq rfl) (hb hby d_jdk_42_method_3_code_6) (by decide) (by decide) (allS (Or.inl (List.mem_of_getElem? (i := 0) rfl)) all0)
  obtain ⟨rfl, hW4⟩ := ev4 rfl
  obtain ⟨rfl, SI⟩ := Q4
  have S4 : Go p e below A0 (T4.setTop (mkF m 9 #[.val (.ref a1), .val (.ref a2)] [])) := S3.trans G4
  exact ⟨vq4, T4, h4, none, _, _, K4, by decide, by decide, ⟨rfl, SI⟩, K4.retV S4 hret (hb hby d_jdk_42_method_3_code_9)⟩
def own_min (n : Int32) : Int32 := if 2 < n then 2 else n
theorem own_min1 {n : Int32} (q : 2 < n) : own_min n = 2 := by simp [own_min, q]
theorem own_min0 {n : Int32} (q : ¬ 2 < n) : own_min n = n := by simp [own_min, q]
theorem own_n012 (x : Int32) : own_min (x &&& 3) = 0 ∨ own_min (x &&& 3) = 1 ∨ own_min (x &&& 3) = 2 := by
  have m := c_mask x 3 2 (by decide) (by decide)
  by_cases q : 2 < x &&& 3
  · rw [own_min1 q]; simp
  · rw [own_min0 q]
    rw [Int32.lt_iff_toInt_lt] at q
    have e2 : (2 : Int32).toInt = 2 := rfl
    have h : (x &&& 3).toInt = 0 ∨ (x &&& 3).toInt = 1 ∨ (x &&& 3).toInt = 2 := by omega
    rcases h with h | h | h
    · exact Or.inl (Int32.toInt_inj.mp h)
    · exact Or.inr (Or.inl (Int32.toInt_inj.mp h))
    · exact Or.inr (Or.inr (Int32.toInt_inj.mp h))
theorem d_jdk_29_method_69_code_0 : decode jdk_29_method_69_code 0 = .ok (.iload_n 0, 1) := by decide +kernel
theorem d_jdk_29_method_69_code_1 : decode jdk_29_method_69_code 1 = .ok (.iload_n 1, 1) := by decide +kernel
theorem d_jdk_29_method_69_code_2 : decode jdk_29_method_69_code 2 = .ok (.if_icmp .gt 7, 3) := by decide +kernel
theorem d_jdk_29_method_69_code_9 : decode jdk_29_method_69_code 9 = .ok (.iload_n 1, 1) := by decide +kernel
theorem d_jdk_29_method_69_code_10 : decode jdk_29_method_69_code 10 = .ok (.ireturn, 1) := by decide +kernel
theorem d_jdk_29_method_69_code_5 : decode jdk_29_method_69_code 5 = .ok (.iload_n 0, 1) := by decide +kernel
theorem d_jdk_29_method_69_code_6 : decode jdk_29_method_69_code 6 = .ok (.goto 4, 3) := by decide +kernel
set_option maxRecDepth 65536 in
set_option maxHeartbeats 40000000 in
theorem c_min (l : Launch) (Z : State) (a0 : Array Value) (hw : ∀ d ∈ tables_1, d.before a0 Z = true) (n0 : Nat) (h0 : Heap) (O0 : Old Z n0 h0) (n : Int32) :
    Own.Ctr false l (⟨"java/lang/Math", "min", "(II)I"⟩ : MethodName) jdk_29_method_69_code 2 (some .int) ({ frames := 0, cells := 0, slots := 0, locals := 0 } : Room) #[(.int n), (.int (2 : Int32))] Z h0 Own.VT [] (fun v h vm => v = some (.int (own_min n)) ∧ h = h0) := by
  refine Own.body ((by decide +kernel)) O0 (fun _ _ _ _ q => by cases q) (fun _ _ _ _ q _ => q) ?_
  intro p e s m below meth c T0 hby hml0 hret hnm hV0 K0
  change Own.Wk false p l e ({ frames := 0, cells := 0, slots := 0, locals := 0 } : Room) s m #[(.int n), (.int (2 : Int32))] below meth c "java/lang/Math" Z n0 h0 [] s.vm T0 h0 0 0 at K0
  have hml : c.maxLocals = 2 := hml0
  have S0 : Go p e below (T0.setTop (entryFrame m #[(.int n), (.int (2 : Int32))] 2)) (T0.setTop (mkF m 0 #[.val (.int n), .val (.int (2 : Int32))] [])) := fun t k => castTop (by first | rfl | (simp [entryFrame, mkF, argsToLocals, Value.category]; done)) k
  generalize T0.setTop (entryFrame m #[(.int n), (.int (2 : Int32))] 2) = A0 at S0 ⊢
  have S1 : Go p e below A0 (T0.setTop (mkF m 2 #[.val (.int n), .val (.int (2 : Int32))] [(.int (2 : Int32)), (.int n)])) := by
    refine S0.trans ?_
    refine (Own.P.iloadN K0.here K0.exec (hb hby d_jdk_29_method_69_code_0) rfl).trans ?_
    refine (Own.P.iloadN K0.here K0.exec (hb hby d_jdk_29_method_69_code_1) rfl).trans ?_
    exact Go.refl _
  by_cases q : 2 < n
  case pos =>
    have S2 : Go p e below A0 (T0.setTop (mkF m 10 #[.val (.int n), .val (.int (2 : Int32))] [(.int (2 : Int32))])) := by
      refine S1.trans ?_
      refine (Own.P.icmpYes K0.here K0.exec 9 (hb hby d_jdk_29_method_69_code_2) (XT.ii_gt_t q) (by decide) (by decide)).trans ?_
      refine (Own.P.iloadN K0.here K0.exec (hb hby d_jdk_29_method_69_code_9) rfl).trans ?_
      exact Go.refl _
    rw [own_min1 q]
    exact ⟨s.vm, T0, h0, (some (.int (2 : Int32))), _, _, K0, by decide, by decide, ⟨rfl, rfl⟩, K0.retW S2 hret rfl (Or.inl ⟨rfl, by decide, _, rfl⟩) (hb hby d_jdk_29_method_69_code_10)⟩
  case neg =>
    have S3 : Go p e below A0 (T0.setTop (mkF m 10 #[.val (.int n), .val (.int (2 : Int32))] [(.int n)])) := by
      refine S1.trans ?_
      refine (Own.P.icmpNo K0.here K0.exec (hb hby d_jdk_29_method_69_code_2) (XT.ii_gt_f q)).trans ?_
      refine (Own.P.iloadN K0.here K0.exec (hb hby d_jdk_29_method_69_code_5) rfl).trans ?_
      refine (Own.P.goto K0.here K0.exec 10 (hb hby d_jdk_29_method_69_code_6) (by decide) (by decide)).trans ?_
      exact Go.refl _
    rw [own_min0 q]
    exact ⟨s.vm, T0, h0, (some (.int n)), _, _, K0, by decide, by decide, ⟨rfl, rfl⟩, K0.retW S3 hret rfl (Or.inl ⟨rfl, by decide, _, rfl⟩) (hb hby d_jdk_29_method_69_code_10)⟩
theorem d_method_2_code_0 : decode method_2_code 0 = .ok (.iload_n 0, 1) := by decide +kernel
theorem d_method_2_code_1 : decode method_2_code 1 = .ok (.iconst 3, 1) := by decide +kernel
theorem d_method_2_code_2 : decode method_2_code 2 = .ok (.iand, 1) := by decide +kernel
theorem d_method_2_code_3 : decode method_2_code 3 = .ok (.iconst 2, 1) := by decide +kernel
theorem pd_4 : parseMethodDescriptor "(II)I" = some ⟨[.int, .int], some .int⟩ := by decide +kernel
theorem d_method_2_code_4 : decode method_2_code 4 = .ok (.invokestatic 7, 3) := by decide +kernel
theorem d_method_2_code_7 : decode method_2_code 7 = .ok (.istore_n 1, 1) := by decide +kernel
theorem d_method_2_code_8 : decode method_2_code 8 = .ok (.iload_n 0, 1) := by decide +kernel
theorem d_method_2_code_9 : decode method_2_code 9 = .ok (.iconst 2, 1) := by decide +kernel
theorem d_method_2_code_10 : decode method_2_code 10 = .ok (.iushr, 1) := by decide +kernel
theorem d_method_2_code_11 : decode method_2_code 11 = .ok (.sipush 255, 3) := by decide +kernel
theorem d_method_2_code_14 : decode method_2_code 14 = .ok (.iand, 1) := by decide +kernel
theorem d_method_2_code_15 : decode method_2_code 15 = .ok (.i2c, 1) := by decide +kernel
theorem d_method_2_code_16 : decode method_2_code 16 = .ok (.istore_n 2, 1) := by decide +kernel
theorem d_method_2_code_17 : decode method_2_code 17 = .ok (.iload_n 0, 1) := by decide +kernel
theorem d_method_2_code_18 : decode method_2_code 18 = .ok (.bipush 10, 2) := by decide +kernel
theorem d_method_2_code_20 : decode method_2_code 20 = .ok (.iushr, 1) := by decide +kernel
theorem d_method_2_code_21 : decode method_2_code 21 = .ok (.sipush 255, 3) := by decide +kernel
theorem d_method_2_code_24 : decode method_2_code 24 = .ok (.iand, 1) := by decide +kernel
theorem d_method_2_code_25 : decode method_2_code 25 = .ok (.i2c, 1) := by decide +kernel
theorem d_method_2_code_26 : decode method_2_code 26 = .ok (.istore_n 3, 1) := by decide +kernel
theorem d_method_2_code_27 : decode method_2_code 27 = .ok (.iload_n 1, 1) := by decide +kernel
theorem d_method_2_code_28 : decode method_2_code 28 = .ok (.ifCond .ne 14, 3) := by decide +kernel
theorem d_method_2_code_31 : decode method_2_code 31 = .ok (.new 13, 3) := by decide +kernel
theorem d_method_2_code_34 : decode method_2_code 34 = .ok (.dup, 1) := by decide +kernel
theorem d_method_2_code_35 : decode method_2_code 35 = .ok (.iconst 0, 1) := by decide +kernel
theorem d_method_2_code_36 : decode method_2_code 36 = .ok (.newarray .char, 2) := by decide +kernel
theorem pd_5 : parseMethodDescriptor "([C)V" = some ⟨[(.array .char)], none⟩ := by decide +kernel
theorem d_method_2_code_38 : decode method_2_code 38 = .ok (.invokespecial 15, 3) := by decide +kernel
theorem d_method_2_code_41 : decode method_2_code 41 = .ok (.areturn, 1) := by decide +kernel
theorem d_method_2_code_42 : decode method_2_code 42 = .ok (.iload_n 1, 1) := by decide +kernel
theorem d_method_2_code_43 : decode method_2_code 43 = .ok (.iconst 1, 1) := by decide +kernel
theorem d_method_2_code_44 : decode method_2_code 44 = .ok (.if_icmp .ne 8, 3) := by decide +kernel
theorem d_method_2_code_47 : decode method_2_code 47 = .ok (.iload_n 2, 1) := by decide +kernel
theorem pd_6 : parseMethodDescriptor "(C)Ljava/lang/String;" = some ⟨[.char], some (.object "java/lang/String")⟩ := by decide +kernel
theorem d_method_2_code_48 : decode method_2_code 48 = .ok (.invokestatic 18, 3) := by decide +kernel
theorem d_method_2_code_51 : decode method_2_code 51 = .ok (.areturn, 1) := by decide +kernel
theorem d_method_2_code_52 : decode method_2_code 52 = .ok (.iconst 2, 1) := by decide +kernel
theorem d_method_2_code_53 : decode method_2_code 53 = .ok (.newarray .char, 2) := by decide +kernel
theorem d_method_2_code_55 : decode method_2_code 55 = .ok (.astore 4, 2) := by decide +kernel
theorem d_method_2_code_57 : decode method_2_code 57 = .ok (.aload 4, 2) := by decide +kernel
theorem d_method_2_code_59 : decode method_2_code 59 = .ok (.iconst 0, 1) := by decide +kernel
theorem d_method_2_code_60 : decode method_2_code 60 = .ok (.iload_n 2, 1) := by decide +kernel
theorem d_method_2_code_61 : decode method_2_code 61 = .ok (.castore, 1) := by decide +kernel
theorem d_method_2_code_62 : decode method_2_code 62 = .ok (.aload 4, 2) := by decide +kernel
theorem d_method_2_code_64 : decode method_2_code 64 = .ok (.iconst 1, 1) := by decide +kernel
theorem d_method_2_code_65 : decode method_2_code 65 = .ok (.iload_n 3, 1) := by decide +kernel
theorem d_method_2_code_66 : decode method_2_code 66 = .ok (.castore, 1) := by decide +kernel
theorem d_method_2_code_67 : decode method_2_code 67 = .ok (.new 13, 3) := by decide +kernel
theorem d_method_2_code_70 : decode method_2_code 70 = .ok (.dup, 1) := by decide +kernel
theorem d_method_2_code_71 : decode method_2_code 71 = .ok (.aload 4, 2) := by decide +kernel
theorem d_method_2_code_73 : decode method_2_code 73 = .ok (.invokespecial 15, 3) := by decide +kernel
theorem d_method_2_code_76 : decode method_2_code 76 = .ok (.areturn, 1) := by decide +kernel
theorem pn_2 : plainName "com/example/orrery/orrery/llm/ToolCallEqualsPinLaw" = true := by first | (simp [plainName, overriddenIn]; done) | decide +kernel
set_option maxRecDepth 65536 in
set_option maxHeartbeats 40000000 in
theorem c_str (l : Launch) (Z : State) (a0 : Array Value) (hw : ∀ d ∈ tables_1, d.before a0 Z = true) (n0 : Nat) (h0 : Heap) (O0 : Old Z n0 h0) (x' : Int32) (zc : Int32) (hzc : ¬ zc = 0) (SC : Sta Z Z.heap "java/lang/String" "COMPACT_STRINGS" "Z" (.int zc)) :
    Own.Ctr true l (⟨"com/example/orrery/orrery/llm/ToolCallEqualsPinLaw", "str", "(I)Ljava/lang/String;"⟩ : MethodName) method_2_code 5 (some (.object "java/lang/String")) ({ frames := 4, cells := 4, slots := 8, locals := 66 } : Room) #[(.int x')] Z h0 (Own.HV Z consts_1 h0) [] (fun v h vm => ∃ a cs, v = some (.ref a) ∧ StrIs Z h a cs ∧ cs.length ≤ 4000 ∧ Own.HV Z consts_1 h vm) := by
  refine Own.body (plainFor_of_name pn_2) O0 (fun _ _ _ _ q => by cases q) (fun v h s vm' q hW => by obtain ⟨a, cs, q1, q2, q3, q4⟩ := q; exact ⟨a, cs, q1, q2, q3, Own.HV.cl (own_ew hw) s vm' q4 hW⟩) ?_
  intro p e s m below meth c T0 hby hml0 hret hnm hV0 K0
  change Own.Wk true p l e ({ frames := 4, cells := 4, slots := 8, locals := 66 } : Room) s m #[(.int x')] below meth c "com/example/orrery/orrery/llm/ToolCallEqualsPinLaw" Z n0 h0 [] s.vm T0 h0 0 0 at K0
  have hml : c.maxLocals = 5 := hml0
  have S0 : Go p e below (T0.setTop (entryFrame m #[(.int x')] 5)) (T0.setTop (mkF m 0 #[.val (.int x'), .unset, .unset, .unset, .unset] [])) := fun t k => castTop (by first | rfl | (simp [entryFrame, mkF, argsToLocals, Value.category]; done)) k
  generalize T0.setTop (entryFrame m #[(.int x')] 5) = A0 at S0 ⊢
  have S1 : Go p e below A0 (T0.setTop (mkF m 4 #[.val (.int x'), .unset, .unset, .unset, .unset] [(.int (2 : Int32)), (.int (x' &&& (3 : Int32)))])) := by
    refine S0.trans ?_
    refine (Own.P.iloadN K0.here K0.exec (hb hby d_method_2_code_0) rfl).trans ?_
    refine (Own.P.iconst K0.here K0.exec (3 : Int32) (hb hby d_method_2_code_1) rfl).trans ?_
    refine (Own.P.iand K0.here K0.exec (hb hby d_method_2_code_2) ).trans ?_
    refine (Own.P.iconst K0.here K0.exec (2 : Int32) (hb hby d_method_2_code_3) rfl).trans ?_
    exact Go.refl _
  obtain ⟨v2, vm2, vq2, T2, h2, K2, KK2, ev2, Q2, G2⟩ := K0.callS (y := (⟨"java/lang/Math", "min", "(II)I"⟩ : MethodName)) (hw _ (List.mem_of_getElem? (i := 4) rfl)) (hw _ (List.mem_of_getElem? (i := 5) rfl)) (hw _ (List.mem_of_getElem? (i := 6) rfl)) (hw _ (List.mem_of_getElem? (i := 7) rfl)) (by decide) (W := 0) (argsL := [(.int (x' &&& (3 : Int32))), (.int (2 : Int32))]) (rest := []) ((c_min l Z a0 hw n0 h0 (K0.old) _).payW (Own.HV.cl (own_ew hw)) (hw _ (List.mem_of_getElem? (i := 7) rfl)) (hw _ (List.mem_of_getElem? (i := 6) rfl)) (by decide) (by decide)) hV0 (pc := 4) (Ls := #[.val (.int x'), .unset, .unset, .unset, .unset]) (st := [(.int (2 : Int32)), (.int (x' &&& (3 : Int32)))]) (by rw [hml]; rfl) (lenOf pd_4 rfl) rfl (Nat.le_of_eq rfl) (hb hby d_method_2_code_4) (by decide) (by decide) all0
  obtain ⟨rfl, hW2⟩ := ev2 rfl
  obtain ⟨⟨rfl, e2⟩, hv2⟩ := Q2
  have S2 : Go p e below A0 (T2.setTop (mkF m 7 #[.val (.int x'), .unset, .unset, .unset, .unset] [(.int (own_min (x' &&& (3 : Int32))))])) := S1.trans G2
  subst e2
  have HB := hv2.2
  have S3 : Go p e below A0 (T2.setTop (mkF m 28 #[.val (.int x'), .val (.int (own_min (x' &&& (3 : Int32)))), .val (.int (((XT.ushr x' (2 : Int32)) &&& (255 : Int32)).toUInt32.toUInt16.toUInt32.toInt32)), .val (.int (((XT.ushr x' (10 : Int32)) &&& (255 : Int32)).toUInt32.toUInt16.toUInt32.toInt32)), .unset] [(.int (own_min (x' &&& (3 : Int32))))])) := by
    refine S2.trans ?_
    refine (Own.P.istoreN K2.here K2.exec (l' := #[.val (.int x'), .val (.int (own_min (x' &&& (3 : Int32)))), .unset, .unset, .unset]) (hb hby d_method_2_code_7) rfl).trans ?_
    refine (Own.P.iloadN K2.here K2.exec (hb hby d_method_2_code_8) rfl).trans ?_
    refine (Own.P.iconst K2.here K2.exec (2 : Int32) (hb hby d_method_2_code_9) rfl).trans ?_
    refine (Own.P.iushr K2.here K2.exec (hb hby d_method_2_code_10) ).trans ?_
    refine (Own.P.sipush K2.here K2.exec (255 : Int32) (hb hby d_method_2_code_11) rfl).trans ?_
    refine (Own.P.iand K2.here K2.exec (hb hby d_method_2_code_14) ).trans ?_
    refine (Own.P.i2c K2.here K2.exec (hb hby d_method_2_code_15) ).trans ?_
    refine (Own.P.istoreN K2.here K2.exec (l' := #[.val (.int x'), .val (.int (own_min (x' &&& (3 : Int32)))), .val (.int (((XT.ushr x' (2 : Int32)) &&& (255 : Int32)).toUInt32.toUInt16.toUInt32.toInt32)), .unset, .unset]) (hb hby d_method_2_code_16) rfl).trans ?_
    refine (Own.P.iloadN K2.here K2.exec (hb hby d_method_2_code_17) rfl).trans ?_
    refine (Own.P.bipush K2.here K2.exec (10 : Int32) (hb hby d_method_2_code_18) rfl).trans ?_
    refine (Own.P.iushr K2.here K2.exec (hb hby d_method_2_code_20) ).trans ?_
    refine (Own.P.sipush K2.here K2.exec (255 : Int32) (hb hby d_method_2_code_21) rfl).trans ?_
    refine (Own.P.iand K2.here K2.exec (hb hby d_method_2_code_24) ).trans ?_
    refine (Own.P.i2c K2.here K2.exec (hb hby d_method_2_code_25) ).trans ?_
    refine (Own.P.istoreN K2.here K2.exec (l' := #[.val (.int x'), .val (.int (own_min (x' &&& (3 : Int32)))), .val (.int (((XT.ushr x' (2 : Int32)) &&& (255 : Int32)).toUInt32.toUInt16.toUInt32.toInt32)), .val (.int (((XT.ushr x' (10 : Int32)) &&& (255 : Int32)).toUInt32.toUInt16.toUInt32.toInt32)), .unset]) (hb hby d_method_2_code_26) rfl).trans ?_
    refine (Own.P.iloadN K2.here K2.exec (hb hby d_method_2_code_27) rfl).trans ?_
    exact Go.refl _
  have hn := own_n012 x'
  have r1 := own_c255 (XT.ushr x' 2)
  have r2 := own_c255 (XT.ushr x' 10)
  generalize own_min (x' &&& 3) = nn at *
  generalize (XT.ushr x' 2 &&& 255).toUInt32.toUInt16.toUInt32.toInt32 = c1 at *
  generalize (XT.ushr x' 10 &&& 255).toUInt32.toUInt16.toUInt32.toInt32 = c2 at *
  rcases hn with rfl | rfl | rfl
  case inl =>
    have S4 : Go p e below A0 (T2.setTop (mkF m 31 #[.val (.int x'), .val (.int (0 : Int32)), .val (.int c1), .val (.int c2), .unset] [])) := by
      refine S3.trans ?_
      refine (Own.P.ifNo K2.here K2.exec (hb hby d_method_2_code_28) (by decide)).trans ?_
      exact Go.refl _
    obtain ⟨T5, h5, sq, K5, E5, g_sq, l_sq, ne_sq, X_sq, D_sq, G5⟩ := K2.newO (hw _ (List.mem_of_getElem? (i := 8) rfl)) (hw _ (List.mem_of_getElem? (i := 9) rfl)) (hw _ (List.mem_of_getElem? (i := 10) rfl)) (pc := 31) (Ls := #[.val (.int x'), .val (.int (0 : Int32)), .val (.int c1), .val (.int c2), .unset]) (rest := []) (hb hby d_method_2_code_31) (by decide) (by decide)
    have S5 : Go p e below A0 (T5.setTop (mkF m 34 #[.val (.int x'), .val (.int (0 : Int32)), .val (.int c1), .val (.int c2), .unset] [(.ref sq)])) := S4.trans G5
    have B0 := StAt.new hw X_sq D_sq
    have S6 : Go p e below A0 (T5.setTop (mkF m 36 #[.val (.int x'), .val (.int (0 : Int32)), .val (.int c1), .val (.int c2), .unset] [(.int (0 : Int32)), (.ref sq), (.ref sq)])) := by
      refine S5.trans ?_
      refine (Own.P.dup K5.here K5.exec (hb hby d_method_2_code_34) rfl).trans ?_
      refine (Own.P.iconst K5.here K5.exec (0 : Int32) (hb hby d_method_2_code_35) rfl).trans ?_
      exact Go.refl _
    obtain ⟨T7, h7, ca, cA_ca, K7, E7, g_ca, l_ca, ne_ca, V_ca, G7⟩ := K5.newP (aty := .char) (hw _ (List.mem_of_getElem? (i := 11) rfl)) (n := (0 : Int32)) (pc := 36) (Ls := #[.val (.int x'), .val (.int (0 : Int32)), .val (.int c1), .val (.int c2), .unset]) (rest := [(.ref sq), (.ref sq)]) (hb hby d_method_2_code_36) 0 (by decide) (by decide) (by decide) (by decide) (by decide)
    have S7 : Go p e below A0 (T7.setTop (mkF m 38 #[.val (.int x'), .val (.int (0 : Int32)), .val (.int c1), .val (.int c2), .unset] [(.ref ca), (.ref sq), (.ref sq)])) := S6.trans G7
    have B1 : StAt Z h7 sq .null 0 := StAt.ext (vl := .null) (cd := 0) B0 E7
    obtain ⟨v8, vm8, vq8, T8, h8, K8, KK8, ev8, Q8, G8⟩ := K7.callI (y := (⟨"java/lang/String", "<init>", "([C)V"⟩ : MethodName)) rfl (hw _ (List.mem_of_getElem? (i := 12) rfl)) (hw _ (List.mem_of_getElem? (i := 13) rfl)) (hw _ (List.mem_of_getElem? (i := 14) rfl)) (by decide) (W := 1) (a := sq) (argsL := [(.ref ca)]) (rest := [(.ref sq)]) ((c_new10 l Z a0 hw n0 h7 (K7.old) sq ca cA_ca _ _ V_ca B1 (K7.fresh (Or.inr g_sq))).pay (Own.HV.cl (own_ew hw)) (hw _ (List.mem_of_getElem? (i := 14) rfl)) (hw _ (List.mem_of_getElem? (i := 10) rfl)) (by decide) (by decide)) ⟨K7.warm, CHv.keep K7.keep (fun _ q => nomatch q) HB⟩ (pc := 38) (Ls := #[.val (.int x'), .val (.int (0 : Int32)), .val (.int c1), .val (.int c2), .unset]) (st := [(.ref ca), (.ref sq), (.ref sq)]) (by rw [hml]; rfl) (lenOf pd_5 rfl) rfl (Nat.le_of_eq rfl) (hb hby d_method_2_code_38) (by decide) (by decide) (allS (Or.inr g_sq) all0)
    obtain ⟨rfl, hW8⟩ := ev8 rfl
    obtain ⟨rfl, SI, HH⟩ := Q8
    have S8 : Go p e below A0 (T8.setTop (mkF m 41 #[.val (.int x'), .val (.int (0 : Int32)), .val (.int c1), .val (.int c2), .unset] [(.ref sq)])) := S7.trans G8
    exact ⟨vq8, T8, h8, (some (.ref sq)), _, _, K8, by decide, by decide, ⟨sq, [], rfl, SI, by decide, HH⟩, K8.retW S8 hret rfl (Or.inr (Or.inr (Or.inr (Or.inr ⟨rfl, rfl, rfl⟩)))) (hb hby d_method_2_code_41)⟩
  case inr.inl =>
    have S9 : Go p e below A0 (T2.setTop (mkF m 48 #[.val (.int x'), .val (.int (1 : Int32)), .val (.int c1), .val (.int c2), .unset] [(.int c1)])) := by
      refine S3.trans ?_
      refine (Own.P.ifYes K2.here K2.exec 42 (hb hby d_method_2_code_28) (by decide) (by decide) (by decide)).trans ?_
      refine (Own.P.iloadN K2.here K2.exec (hb hby d_method_2_code_42) rfl).trans ?_
      refine (Own.P.iconst K2.here K2.exec (1 : Int32) (hb hby d_method_2_code_43) rfl).trans ?_
      refine (Own.P.icmpNo K2.here K2.exec (hb hby d_method_2_code_44) (by decide)).trans ?_
      refine (Own.P.iloadN K2.here K2.exec (hb hby d_method_2_code_47) rfl).trans ?_
      exact Go.refl _
    obtain ⟨v10, vm10, vq10, T10, h10, K10, KK10, ev10, Q10, G10⟩ := K2.callS (y := (⟨"java/lang/String", "valueOf", "(C)Ljava/lang/String;"⟩ : MethodName)) (hw _ (List.mem_of_getElem? (i := 80) rfl)) (hw _ (List.mem_of_getElem? (i := 81) rfl)) (hw _ (List.mem_of_getElem? (i := 10) rfl)) (hw _ (List.mem_of_getElem? (i := 82) rfl)) (by decide) (W := 0) (argsL := [(.int c1)]) (rest := []) ((c_valueOf l Z a0 hw n0 h2 (K2.old) c1 r1 zc hzc SC).payW (Own.HV.cl (own_ew hw)) (hw _ (List.mem_of_getElem? (i := 82) rfl)) (hw _ (List.mem_of_getElem? (i := 10) rfl)) (by decide) (by decide)) ⟨K2.warm, CHv.keep K2.keep (fun _ q => nomatch q) HB⟩ (pc := 48) (Ls := #[.val (.int x'), .val (.int (1 : Int32)), .val (.int c1), .val (.int c2), .unset]) (st := [(.int c1)]) (by rw [hml]; rfl) (lenOf pd_6 rfl) rfl (Nat.le_of_eq rfl) (hb hby d_method_2_code_48) (by decide) (by decide) all0
    obtain ⟨rfl, hW10⟩ := ev10 rfl
    obtain ⟨⟨sq, rfl, SI, -⟩, hv10⟩ := Q10
    have S10 : Go p e below A0 (T10.setTop (mkF m 51 #[.val (.int x'), .val (.int (1 : Int32)), .val (.int c1), .val (.int c2), .unset] [(.ref sq)])) := S9.trans G10
    exact ⟨vq10, T10, h10, (some (.ref sq)), _, _, K10, by decide, by decide, ⟨sq, [c1], rfl, SI, Nat.le_of_ble_eq_true rfl, K10.warm, CHv.keep KK10 (fun _ q => nomatch q) hv10.2⟩, K10.retW S10 hret rfl (Or.inr (Or.inr (Or.inr (Or.inr ⟨rfl, rfl, rfl⟩)))) (hb hby d_method_2_code_51)⟩
  case inr.inr =>
    have S11 : Go p e below A0 (T2.setTop (mkF m 53 #[.val (.int x'), .val (.int (2 : Int32)), .val (.int c1), .val (.int c2), .unset] [(.int (2 : Int32))])) := by
      refine S3.trans ?_
      refine (Own.P.ifYes K2.here K2.exec 42 (hb hby d_method_2_code_28) (by decide) (by decide) (by decide)).trans ?_
      refine (Own.P.iloadN K2.here K2.exec (hb hby d_method_2_code_42) rfl).trans ?_
      refine (Own.P.iconst K2.here K2.exec (1 : Int32) (hb hby d_method_2_code_43) rfl).trans ?_
      refine (Own.P.icmpYes K2.here K2.exec 52 (hb hby d_method_2_code_44) (by decide) (by decide) (by decide)).trans ?_
      refine (Own.P.iconst K2.here K2.exec (2 : Int32) (hb hby d_method_2_code_52) rfl).trans ?_
      exact Go.refl _
    obtain ⟨T12, h12, ca, cA_ca, K12, E12, g_ca, l_ca, ne_ca, V_ca, G12⟩ := K2.newP (aty := .char) (hw _ (List.mem_of_getElem? (i := 11) rfl)) (n := (2 : Int32)) (pc := 53) (Ls := #[.val (.int x'), .val (.int (2 : Int32)), .val (.int c1), .val (.int c2), .unset]) (rest := []) (hb hby d_method_2_code_53) 2 (by decide) (by decide) (by decide) (by decide) (by decide)
    have S12 : Go p e below A0 (T12.setTop (mkF m 55 #[.val (.int x'), .val (.int (2 : Int32)), .val (.int c1), .val (.int c2), .unset] [(.ref ca)])) := S11.trans G12
    have V0 : Arv Z h12 ca cA_ca .char 2 [.int 0, .int 0] (.int 0) := V_ca.pad (pad_rep [] (.int 0) 2)
    have S13 : Go p e below A0 (T12.setTop (mkF m 61 #[.val (.int x'), .val (.int (2 : Int32)), .val (.int c1), .val (.int c2), .val (.ref ca)] [(.int c1), (.int (0 : Int32)), (.ref ca)])) := by
      refine S12.trans ?_
      refine (Own.P.astore K12.here K12.exec (l' := #[.val (.int x'), .val (.int (2 : Int32)), .val (.int c1), .val (.int c2), .val (.ref ca)]) (hb hby d_method_2_code_55) rfl rfl).trans ?_
      refine (Own.P.aload K12.here K12.exec (hb hby d_method_2_code_57) rfl rfl).trans ?_
      refine (Own.P.iconst K12.here K12.exec (0 : Int32) (hb hby d_method_2_code_59) rfl).trans ?_
      refine (Own.P.iloadN K12.here K12.exec (hb hby d_method_2_code_60) rfl).trans ?_
      exact Go.refl _
    obtain ⟨T14, h14, K14, W14, V14, G14⟩ := K12.stC V0  (j := (0 : Int32)) ⟨by decide, by decide⟩ 0 rfl (Nat.le_of_ble_eq_true rfl) (Or.inr g_ca) (pc := 61) (Ls := #[.val (.int x'), .val (.int (2 : Int32)), .val (.int c1), .val (.int c2), .val (.ref ca)]) (rest := []) (hb hby d_method_2_code_61)
    have S14 : Go p e below A0 (T14.setTop (mkF m 62 #[.val (.int x'), .val (.int (2 : Int32)), .val (.int c1), .val (.int c2), .val (.ref ca)] [])) := S13.trans G14
    rw [own_nc r1] at V14
    have S15 : Go p e below A0 (T14.setTop (mkF m 66 #[.val (.int x'), .val (.int (2 : Int32)), .val (.int c1), .val (.int c2), .val (.ref ca)] [(.int c2), (.int (1 : Int32)), (.ref ca)])) := by
      refine S14.trans ?_
      refine (Own.P.aload K14.here K14.exec (hb hby d_method_2_code_62) rfl rfl).trans ?_
      refine (Own.P.iconst K14.here K14.exec (1 : Int32) (hb hby d_method_2_code_64) rfl).trans ?_
      refine (Own.P.iloadN K14.here K14.exec (hb hby d_method_2_code_65) rfl).trans ?_
      exact Go.refl _
    obtain ⟨T16, h16, K16, W16, V16, G16⟩ := K14.stC V14  (j := (1 : Int32)) ⟨by decide, by decide⟩ 1 rfl (Nat.le_of_ble_eq_true rfl) (Or.inr g_ca) (pc := 66) (Ls := #[.val (.int x'), .val (.int (2 : Int32)), .val (.int c1), .val (.int c2), .val (.ref ca)]) (rest := []) (hb hby d_method_2_code_66)
    have S16 : Go p e below A0 (T16.setTop (mkF m 67 #[.val (.int x'), .val (.int (2 : Int32)), .val (.int c1), .val (.int c2), .val (.ref ca)] [])) := S15.trans G16
    rw [own_nc r2] at V16
    obtain ⟨T17, h17, sq, K17, E17, g_sq, l_sq, ne_sq, X_sq, D_sq, G17⟩ := K16.newO (hw _ (List.mem_of_getElem? (i := 8) rfl)) (hw _ (List.mem_of_getElem? (i := 9) rfl)) (hw _ (List.mem_of_getElem? (i := 10) rfl)) (pc := 67) (Ls := #[.val (.int x'), .val (.int (2 : Int32)), .val (.int c1), .val (.int c2), .val (.ref ca)]) (rest := []) (hb hby d_method_2_code_67) (by decide) (by decide)
    have S17 : Go p e below A0 (T17.setTop (mkF m 70 #[.val (.int x'), .val (.int (2 : Int32)), .val (.int c1), .val (.int c2), .val (.ref ca)] [(.ref sq)])) := S16.trans G17
    have V3 := V16.ext E17
    have hp : ∀ c ∈ [c1, c2], ¬ c < 0 ∧ ¬ (255 : Int32) < c := by intro c hc; simp only [List.mem_cons, List.not_mem_nil, or_false] at hc; rcases hc with rfl | rfl <;> assumption
    have B0 := StAt.new hw X_sq D_sq
    have HC := CHv.keep K17.keep (fun _ q => nomatch q) HB
    have al := K17.al
    have S18 : Go p e below A0 (T17.setTop (mkF m 73 #[.val (.int x'), .val (.int (2 : Int32)), .val (.int c1), .val (.int c2), .val (.ref ca)] [(.ref ca), (.ref sq), (.ref sq)])) := by
      refine S17.trans ?_
      refine (Own.P.dup K17.here K17.exec (hb hby d_method_2_code_70) rfl).trans ?_
      refine (Own.P.aload K17.here K17.exec (hb hby d_method_2_code_71) rfl rfl).trans ?_
      exact Go.refl _
    obtain ⟨v19, vm19, vq19, T19, h19, K19, KK19, ev19, Q19, G19⟩ := K17.callI (y := (⟨"java/lang/String", "<init>", "([C)V"⟩ : MethodName)) rfl (hw _ (List.mem_of_getElem? (i := 12) rfl)) (hw _ (List.mem_of_getElem? (i := 13) rfl)) (hw _ (List.mem_of_getElem? (i := 14) rfl)) (by decide) (W := 1) (a := sq) (argsL := [(.ref ca)]) (rest := [(.ref sq)]) (Own.payStr (W := 1) hw (Own.HV.cl (own_ew hw)) (hw _ (List.mem_of_getElem? (i := 9) rfl)) (cs := [c1, c2]) (n := 2) K17.old X_sq (D_sq (Or.inr (hw _ (List.mem_of_getElem? (i := 24) rfl))) (ty := .array .byte) (by decide)) (D_sq (Or.inr (hw _ (List.mem_of_getElem? (i := 25) rfl))) (ty := .byte) (by decide)) V3 SC hzc rfl rfl rfl (by decide) (by decide) hp (by decide) (by decide)) ⟨K17.warm, HC⟩ (pc := 73) (Ls := #[.val (.int x'), .val (.int (2 : Int32)), .val (.int c1), .val (.int c2), .val (.ref ca)]) (st := [(.ref ca), (.ref sq), (.ref sq)]) (by rw [hml]; rfl) (lenOf pd_5 rfl) rfl (Nat.le_of_eq rfl) (hb hby d_method_2_code_73) (by decide) (by decide) (allS (Or.inr g_sq) all0)
    obtain ⟨rfl, hW19⟩ := ev19 rfl
    obtain ⟨rfl, SI, HH⟩ := Q19
    have S19 : Go p e below A0 (T19.setTop (mkF m 76 #[.val (.int x'), .val (.int (2 : Int32)), .val (.int c1), .val (.int c2), .val (.ref ca)] [(.ref sq)])) := S18.trans G19
    exact ⟨vq19, T19, h19, (some (.ref sq)), _, _, K19, by decide, by decide, ⟨sq, [c1, c2], rfl, SI, Nat.le_of_ble_eq_true rfl, K19.warm, CHv.keep KK19 (allS (Own.safeNull HH.1.alike B0.2.1 B0.1) (fun _ q => nomatch q)) HH.2⟩, K19.retW S19 hret rfl (Or.inr (Or.inr (Or.inr (Or.inr ⟨rfl, rfl, rfl⟩)))) (hb hby d_method_2_code_76)⟩
def TcAt (Z : State) (h : Heap) (a : Addr) (f1 : Value) (f2 : Value) (f3 : Value) : Prop := Exa Z h a "com/example/orrery/orrery/llm/ToolCall" ∧ Fld Z h a "com/example/orrery/orrery/llm/ToolCall" "id" "Ljava/lang/String;" (f1) ∧ Fld Z h a "com/example/orrery/orrery/llm/ToolCall" "name" "Ljava/lang/String;" (f2) ∧ Fld Z h a "com/example/orrery/orrery/llm/ToolCall" "arguments" "Ljava/lang/String;" (f3)
theorem TcAt.keep {Z : State} {h h' : Heap} {a : Addr} {ws : List Addr} {f1 : Value} {f2 : Value} {f3 : Value} (F : TcAt Z h a f1 f2 f3) (K : Keep h h' ws) (q : a ∉ ws) : TcAt Z h' a f1 f2 f3 := ⟨F.1.keep K, (F.2.1).keep K q, (F.2.2.1).keep K q, (F.2.2.2).keep K q⟩
theorem TcAt.ext {Z : State} {h h' : Heap} {a : Addr} {f1 : Value} {f2 : Value} {f3 : Value} (F : TcAt Z h a f1 f2 f3) (E : Ext h h') : TcAt Z h' a f1 f2 f3 := ⟨F.1.ext E, (F.2.1).ext E, (F.2.2.1).ext E, (F.2.2.2).ext E⟩
theorem TcAt.wrO {Z : State} {h h' : Heap} {a b : Addr} {sl : Nat} {w : Value} {f1 : Value} {f2 : Value} {f3 : Value} (F : TcAt Z h a f1 f2 f3) (W : Wr h h' b sl w) (q : a ≠ b) : TcAt Z h' a f1 f2 f3 := ⟨F.1.wr W, (F.2.1).other W (Or.inl q), (F.2.2.1).other W (Or.inl q), (F.2.2.2).other W (Or.inl q)⟩
theorem TcAt.set_f1 {Z : State} {a0 : Array Value} (hw : ∀ d ∈ tables_1, d.before a0 Z = true) {h h' : Heap} {a : Addr} {f1 : Value} {f2 : Value} {f3 : Value} {x' : Value} (F : TcAt Z h a f1 f2 f3) (W : Wr h h' a (RoadKit.slotOf Z "com/example/orrery/orrery/llm/ToolCall" "id" "Ljava/lang/String;") (x')) : TcAt Z h' a x' f2 f3 := ⟨F.1.wr W, (F.2.1).same W, (F.2.2.1).other W (Or.inr (slot_ne (C := "com/example/orrery/orrery/llm/ToolCall") (Or.inr (hw _ (List.mem_of_getElem? (i := 58) rfl))) (Or.inr (hw _ (List.mem_of_getElem? (i := 55) rfl))) (by decide) (t := (.object "java/lang/String")) (t' := (.object "java/lang/String")) (by decide) (by decide))), (F.2.2.2).other W (Or.inr (slot_ne (C := "com/example/orrery/orrery/llm/ToolCall") (Or.inr (hw _ (List.mem_of_getElem? (i := 61) rfl))) (Or.inr (hw _ (List.mem_of_getElem? (i := 55) rfl))) (by decide) (t := (.object "java/lang/String")) (t' := (.object "java/lang/String")) (by decide) (by decide)))⟩
theorem TcAt.set_f2 {Z : State} {a0 : Array Value} (hw : ∀ d ∈ tables_1, d.before a0 Z = true) {h h' : Heap} {a : Addr} {f1 : Value} {f2 : Value} {f3 : Value} {x' : Value} (F : TcAt Z h a f1 f2 f3) (W : Wr h h' a (RoadKit.slotOf Z "com/example/orrery/orrery/llm/ToolCall" "name" "Ljava/lang/String;") (x')) : TcAt Z h' a f1 x' f3 := ⟨F.1.wr W, (F.2.1).other W (Or.inr (slot_ne (C := "com/example/orrery/orrery/llm/ToolCall") (Or.inr (hw _ (List.mem_of_getElem? (i := 55) rfl))) (Or.inr (hw _ (List.mem_of_getElem? (i := 58) rfl))) (by decide) (t := (.object "java/lang/String")) (t' := (.object "java/lang/String")) (by decide) (by decide))), (F.2.2.1).same W, (F.2.2.2).other W (Or.inr (slot_ne (C := "com/example/orrery/orrery/llm/ToolCall") (Or.inr (hw _ (List.mem_of_getElem? (i := 61) rfl))) (Or.inr (hw _ (List.mem_of_getElem? (i := 58) rfl))) (by decide) (t := (.object "java/lang/String")) (t' := (.object "java/lang/String")) (by decide) (by decide)))⟩
theorem TcAt.set_f3 {Z : State} {a0 : Array Value} (hw : ∀ d ∈ tables_1, d.before a0 Z = true) {h h' : Heap} {a : Addr} {f1 : Value} {f2 : Value} {f3 : Value} {x' : Value} (F : TcAt Z h a f1 f2 f3) (W : Wr h h' a (RoadKit.slotOf Z "com/example/orrery/orrery/llm/ToolCall" "arguments" "Ljava/lang/String;") (x')) : TcAt Z h' a f1 f2 x' := ⟨F.1.wr W, (F.2.1).other W (Or.inr (slot_ne (C := "com/example/orrery/orrery/llm/ToolCall") (Or.inr (hw _ (List.mem_of_getElem? (i := 55) rfl))) (Or.inr (hw _ (List.mem_of_getElem? (i := 61) rfl))) (by decide) (t := (.object "java/lang/String")) (t' := (.object "java/lang/String")) (by decide) (by decide))), (F.2.2.1).other W (Or.inr (slot_ne (C := "com/example/orrery/orrery/llm/ToolCall") (Or.inr (hw _ (List.mem_of_getElem? (i := 58) rfl))) (Or.inr (hw _ (List.mem_of_getElem? (i := 61) rfl))) (by decide) (t := (.object "java/lang/String")) (t' := (.object "java/lang/String")) (by decide) (by decide))), (F.2.2.2).same W⟩
theorem TcAt.new {Z : State} {a0 : Array Value} (hw : ∀ d ∈ tables_1, d.before a0 Z = true) {h : Heap} {a : Addr} (X : Exa Z h a "com/example/orrery/orrery/llm/ToolCall") (D : ∀ {O nm d : String} {ty : FieldType}, Laid Z a0 "com/example/orrery/orrery/llm/ToolCall" O nm d → parseFieldDescriptor d = some ty → Fld Z h a O nm d (defaultValue ty)) : Exa Z h a "com/example/orrery/orrery/llm/ToolCall" ∧ Fld Z h a "com/example/orrery/orrery/llm/ToolCall" "id" "Ljava/lang/String;" (.null) ∧ Fld Z h a "com/example/orrery/orrery/llm/ToolCall" "name" "Ljava/lang/String;" (.null) ∧ Fld Z h a "com/example/orrery/orrery/llm/ToolCall" "arguments" "Ljava/lang/String;" (.null) := ⟨X, D (Or.inr (hw _ (List.mem_of_getElem? (i := 55) rfl))) (ty := (.object "java/lang/String")) (by decide), D (Or.inr (hw _ (List.mem_of_getElem? (i := 58) rfl))) (ty := (.object "java/lang/String")) (by decide), D (Or.inr (hw _ (List.mem_of_getElem? (i := 61) rfl))) (ty := (.object "java/lang/String")) (by decide)⟩
theorem d_jdk_31_method_11_code_0 : decode jdk_31_method_11_code 0 = .ok (.aload_n 0, 1) := by decide +kernel
theorem d_jdk_31_method_11_code_1 : decode jdk_31_method_11_code 1 = .ok (.ifnonnull 12, 3) := by decide +kernel
theorem d_jdk_31_method_11_code_13 : decode jdk_31_method_11_code 13 = .ok (.aload_n 0, 1) := by decide +kernel
theorem d_jdk_31_method_11_code_14 : decode jdk_31_method_11_code 14 = .ok (.areturn, 1) := by decide +kernel
theorem pn_3 : plainName "java/util/Objects" = true := by first | (simp [plainName, overriddenIn]; done) | decide +kernel
set_option maxRecDepth 65536 in
set_option maxHeartbeats 40000000 in
theorem c_rnn (l : Launch) (Z : State) (a0 : Array Value) (hw : ∀ d ∈ tables_1, d.before a0 Z = true) (n0 : Nat) (h0 : Heap) (O0 : Old Z n0 h0) (k1 k2 : Addr) :
    Own.Ctr false l (⟨"java/util/Objects", "requireNonNull", "(Ljava/lang/Object;Ljava/lang/String;)Ljava/lang/Object;"⟩ : MethodName) jdk_31_method_11_code 2 (some (.object "java/lang/Object")) ({ frames := 0, cells := 0, slots := 0, locals := 0 } : Room) #[(.ref k1), (.ref k2)] Z h0 Own.VT [] (fun v h vm => v = some (.ref k1) ∧ h = h0) := by
  refine Own.body (plainFor_of_name pn_3) O0 (fun _ _ _ _ q => by cases q) (fun _ _ _ _ q _ => q) ?_
  intro p e s m below meth c T0 hby hml0 hret hnm hV0 K0
  change Own.Wk false p l e ({ frames := 0, cells := 0, slots := 0, locals := 0 } : Room) s m #[(.ref k1), (.ref k2)] below meth c "java/util/Objects" Z n0 h0 [] s.vm T0 h0 0 0 at K0
  have hml : c.maxLocals = 2 := hml0
  have S0 : Go p e below (T0.setTop (entryFrame m #[(.ref k1), (.ref k2)] 2)) (T0.setTop (mkF m 0 #[.val (.ref k1), .val (.ref k2)] [])) := fun t k => castTop (by first | rfl | (simp [entryFrame, mkF, argsToLocals, Value.category]; done)) k
  generalize T0.setTop (entryFrame m #[(.ref k1), (.ref k2)] 2) = A0 at S0 ⊢
  have S1 : Go p e below A0 (T0.setTop (mkF m 14 #[.val (.ref k1), .val (.ref k2)] [(.ref k1)])) := by
    refine S0.trans ?_
    refine (Own.P.aloadN K0.here K0.exec (hb hby d_jdk_31_method_11_code_0) rfl rfl).trans ?_
    refine (Own.P.ifnonnullYes K0.here K0.exec 13 (hb hby d_jdk_31_method_11_code_1)  (by decide) (by decide)).trans ?_
    refine (Own.P.aloadN K0.here K0.exec (hb hby d_jdk_31_method_11_code_13) rfl rfl).trans ?_
    exact Go.refl _
  exact ⟨s.vm, T0, h0, (some (.ref k1)), _, _, K0, by decide, by decide, ⟨rfl, rfl⟩, K0.retW S1 hret rfl (Or.inr (Or.inr (Or.inr (Or.inr ⟨rfl, rfl, rfl⟩)))) (hb hby d_jdk_31_method_11_code_14)⟩
theorem d_prog_17_method_1_code_0 : decode prog_17_method_1_code 0 = .ok (.aload_n 0, 1) := by decide +kernel
theorem d_prog_17_method_1_code_1 : decode prog_17_method_1_code 1 = .ok (.invokespecial 1, 3) := by decide +kernel
theorem d_prog_17_method_1_code_4 : decode prog_17_method_1_code 4 = .ok (.aload_n 0, 1) := by decide +kernel
theorem d_prog_17_method_1_code_5 : decode prog_17_method_1_code 5 = .ok (.aload_n 1, 1) := by decide +kernel
theorem d_prog_17_method_1_code_6 : decode prog_17_method_1_code 6 = .ok (.ldc 7, 2) := by decide +kernel
theorem pd_7 : parseMethodDescriptor "(Ljava/lang/Object;Ljava/lang/String;)Ljava/lang/Object;" = some ⟨[(.object "java/lang/Object"), (.object "java/lang/String")], some (.object "java/lang/Object")⟩ := by decide +kernel
theorem d_prog_17_method_1_code_8 : decode prog_17_method_1_code 8 = .ok (.invokestatic 9, 3) := by decide +kernel
theorem d_prog_17_method_1_code_11 : decode prog_17_method_1_code 11 = .ok (.checkcast 15, 3) := by decide +kernel
theorem d_prog_17_method_1_code_14 : decode prog_17_method_1_code 14 = .ok (.putfield 17, 3) := by decide +kernel
theorem d_prog_17_method_1_code_17 : decode prog_17_method_1_code 17 = .ok (.aload_n 0, 1) := by decide +kernel
theorem d_prog_17_method_1_code_18 : decode prog_17_method_1_code 18 = .ok (.aload_n 2, 1) := by decide +kernel
theorem d_prog_17_method_1_code_19 : decode prog_17_method_1_code 19 = .ok (.ldc 22, 2) := by decide +kernel
theorem d_prog_17_method_1_code_21 : decode prog_17_method_1_code 21 = .ok (.invokestatic 9, 3) := by decide +kernel
theorem d_prog_17_method_1_code_24 : decode prog_17_method_1_code 24 = .ok (.checkcast 15, 3) := by decide +kernel
theorem d_prog_17_method_1_code_27 : decode prog_17_method_1_code 27 = .ok (.putfield 24, 3) := by decide +kernel
theorem d_prog_17_method_1_code_30 : decode prog_17_method_1_code 30 = .ok (.aload_n 0, 1) := by decide +kernel
theorem d_prog_17_method_1_code_31 : decode prog_17_method_1_code 31 = .ok (.aload_n 3, 1) := by decide +kernel
theorem d_prog_17_method_1_code_32 : decode prog_17_method_1_code 32 = .ok (.ldc 26, 2) := by decide +kernel
theorem d_prog_17_method_1_code_34 : decode prog_17_method_1_code 34 = .ok (.invokestatic 9, 3) := by decide +kernel
theorem d_prog_17_method_1_code_37 : decode prog_17_method_1_code 37 = .ok (.checkcast 15, 3) := by decide +kernel
theorem d_prog_17_method_1_code_40 : decode prog_17_method_1_code 40 = .ok (.putfield 28, 3) := by decide +kernel
theorem d_prog_17_method_1_code_43 : decode prog_17_method_1_code 43 = .ok (.return_, 1) := by decide +kernel
theorem pn_4 : plainName "com/example/orrery/orrery/llm/ToolCall" = true := by first | (simp [plainName, overriddenIn]; done) | decide +kernel
set_option maxRecDepth 65536 in
set_option maxHeartbeats 40000000 in
theorem c_tinit (l : Launch) (Z : State) (a0 : Array Value) (hw : ∀ d ∈ tables_1, d.before a0 Z = true) (n0 : Nat) (h0 : Heap) (O0 : Old Z n0 h0) (a1 k1 k2 k3 : Addr) (B : TcAt Z h0 a1 .null .null .null) (X1 : Exa Z h0 k1 "java/lang/String") (X2 : Exa Z h0 k2 "java/lang/String") (X3 : Exa Z h0 k3 "java/lang/String") (g1 : n0 ≤ a1) :
    Own.Ctr true l (⟨"com/example/orrery/orrery/llm/ToolCall", "<init>", "(Ljava/lang/String;Ljava/lang/String;Ljava/lang/String;)V"⟩ : MethodName) prog_17_method_1_code 4 none ({ frames := 1, cells := 6, slots := 72, locals := 14 } : Room) #[(.ref a1), (.ref k1), (.ref k2), (.ref k3)] Z h0 (Own.HV Z consts_1 h0) [a1] (fun v h vm => v = none ∧ TcAt Z h a1 (.ref k1) (.ref k2) (.ref k3) ∧ Own.HV Z consts_1 h vm) := by
  refine Own.body (plainFor_of_name pn_4) O0 (fun v h vm q _ => q.1) (fun v h s vm' q hW => ⟨q.1, q.2.1, Own.HV.cl (own_ew hw) s vm' q.2.2 hW⟩) ?_
  intro p e s m below meth c T0 hby hml0 hret hnm hV0 K0
  change Own.Wk true p l e ({ frames := 1, cells := 6, slots := 72, locals := 14 } : Room) s m #[(.ref a1), (.ref k1), (.ref k2), (.ref k3)] below meth c "com/example/orrery/orrery/llm/ToolCall" Z n0 h0 [] s.vm T0 h0 0 0 at K0
  replace K0 := K0.weaken [a1] (allS g1 all0)
  have hml : c.maxLocals = 4 := hml0
  have S0 : Go p e below (T0.setTop (entryFrame m #[(.ref a1), (.ref k1), (.ref k2), (.ref k3)] 4)) (T0.setTop (mkF m 0 #[.val (.ref a1), .val (.ref k1), .val (.ref k2), .val (.ref k3)] [])) := fun t k => castTop (by first | rfl | (simp [entryFrame, mkF, argsToLocals, Value.category]; done)) k
  generalize T0.setTop (entryFrame m #[(.ref a1), (.ref k1), (.ref k2), (.ref k3)] 4) = A0 at S0 ⊢
  have S1 : Go p e below A0 (T0.setTop (mkF m 1 #[.val (.ref a1), .val (.ref k1), .val (.ref k2), .val (.ref k3)] [(.ref a1)])) := by
    refine S0.trans ?_
    refine (Own.P.aloadN K0.here K0.exec (hb hby d_prog_17_method_1_code_0) rfl rfl).trans ?_
    exact Go.refl _
  obtain ⟨T2, K2, G2⟩ := K0.initO (hw _ (List.mem_of_getElem? (i := 47) rfl)) (hw _ (List.mem_of_getElem? (i := 20) rfl)) (hw _ (List.mem_of_getElem? (i := 21) rfl)) (pc := 1) (Ls := #[.val (.ref a1), .val (.ref k1), .val (.ref k2), .val (.ref k3)]) (rest := []) (by rw [hml]; rfl) (hb hby d_prog_17_method_1_code_1) (by decide) (W := 0) (Nat.le_of_eq rfl) (by decide)
  have S2 : Go p e below A0 (T2.setTop (mkF m 4 #[.val (.ref a1), .val (.ref k1), .val (.ref k2), .val (.ref k3)] [])) := S1.trans G2
  have S3 : Go p e below A0 (T2.setTop (mkF m 6 #[.val (.ref a1), .val (.ref k1), .val (.ref k2), .val (.ref k3)] [(.ref k1), (.ref a1)])) := by
    refine S2.trans ?_
    refine (Own.P.aloadN K2.here K2.exec (hb hby d_prog_17_method_1_code_4) rfl rfl).trans ?_
    refine (Own.P.aloadN K2.here K2.exec (hb hby d_prog_17_method_1_code_5) rfl rfl).trans ?_
    exact Go.refl _
  obtain ⟨l0, b_l0, k_l0, vm4, T4, h4, K4, E4, X_l0, C_l0, F_l0, V_l0, H_l0, L_l0, G4⟩ := K2.ldcH (hw _ (List.mem_of_getElem? (i := 48) rfl)) (Own.atoms_in hw) (own_ew hw) (by simp [consts_1]) hV0.2 (z := 2) ⟨by decide +kernel, rfl⟩ (by decide) (by decide +kernel) (pc := 6) (Ls := #[.val (.ref a1), .val (.ref k1), .val (.ref k2), .val (.ref k3)]) (rest := [(.ref k1), (.ref a1)]) (hb hby d_prog_17_method_1_code_6) (n := 8) (by decide +kernel) (by decide) (by decide) (by decide)
  have S4 : Go p e below A0 (T4.setTop (mkF m 8 #[.val (.ref a1), .val (.ref k1), .val (.ref k2), .val (.ref k3)] [(.ref l0), (.ref k1), (.ref a1)])) := S3.trans G4
  have B0a : TcAt Z h4 a1 .null .null .null := TcAt.ext (f1 := .null) (f2 := .null) (f3 := .null) B E4
  have X1a0 := X1.ext E4
  have X2a0 := X2.ext E4
  have X3a0 := X3.ext E4
  obtain ⟨v5, vm5, vq5, T5, h5, K5, KK5, ev5, Q5, G5⟩ := K4.callS (y := (⟨"java/util/Objects", "requireNonNull", "(Ljava/lang/Object;Ljava/lang/String;)Ljava/lang/Object;"⟩ : MethodName)) (hw _ (List.mem_of_getElem? (i := 49) rfl)) (hw _ (List.mem_of_getElem? (i := 50) rfl)) (hw _ (List.mem_of_getElem? (i := 51) rfl)) (hw _ (List.mem_of_getElem? (i := 52) rfl)) (by decide) (W := 1) (argsL := [(.ref k1), (.ref l0)]) (rest := [(.ref a1)]) ((c_rnn l Z a0 hw n0 h4 (K4.old) k1 l0).payW (Own.HV.cl (own_ew hw)) (hw _ (List.mem_of_getElem? (i := 52) rfl)) (hw _ (List.mem_of_getElem? (i := 51) rfl)) (by decide) (by decide)) ⟨K4.warm, H_l0⟩ (pc := 8) (Ls := #[.val (.ref a1), .val (.ref k1), .val (.ref k2), .val (.ref k3)]) (st := [(.ref l0), (.ref k1), (.ref a1)]) (by rw [hml]; rfl) (lenOf pd_7 rfl) rfl (Nat.le_of_eq rfl) (hb hby d_prog_17_method_1_code_8) (by decide) (by decide) all0
  obtain ⟨rfl, hW5⟩ := ev5 rfl
  obtain ⟨⟨rfl, e5⟩, hv5⟩ := Q5
  have S5 : Go p e below A0 (T5.setTop (mkF m 11 #[.val (.ref a1), .val (.ref k1), .val (.ref k2), .val (.ref k3)] [(.ref k1), (.ref a1)])) := S4.trans G5
  subst e5
  obtain ⟨T6, K6, G6⟩ := K5.castY (hw _ (List.mem_of_getElem? (i := 53) rfl)) (Ins.self X1a0) (pc := 11) (Ls := #[.val (.ref a1), .val (.ref k1), .val (.ref k2), .val (.ref k3)]) (rest := [(.ref a1)]) (hb hby d_prog_17_method_1_code_11)
  have S6 : Go p e below A0 (T6.setTop (mkF m 14 #[.val (.ref a1), .val (.ref k1), .val (.ref k2), .val (.ref k3)] [(.ref k1), (.ref a1)])) := S5.trans G6
  have S0' : Safe Z consts_1 vq5 h5 a1 := Safe.exa K6.al B0a.1 (by decide) (by decide)
  obtain ⟨T7, h7, K7, W7, G7⟩ := K6.putF "" (Or.inl (hw _ (List.mem_of_getElem? (i := 54) rfl))) Via.refl B0a.2.1 B0a.1 (Or.inr ⟨(hw _ (List.mem_of_getElem? (i := 55) rfl)), rfl, hnm⟩) (hw _ (List.mem_of_getElem? (i := 42) rfl)) (ty := (.object "java/lang/String")) (by decide) (v := (.ref k1)) rfl rfl (Or.inl (List.mem_of_getElem? (i := 0) rfl)) (pc := 14) (Ls := #[.val (.ref a1), .val (.ref k1), .val (.ref k2), .val (.ref k3)]) (rest := []) (hb hby d_prog_17_method_1_code_14)
  have S7 : Go p e below A0 (T7.setTop (mkF m 17 #[.val (.ref a1), .val (.ref k1), .val (.ref k2), .val (.ref k3)] [])) := S6.trans G7
  have B0b := B0a.set_f1 hw W7
  have H0b := CHv.wr W7 S0' hv5.2
  have X1a0b := X1a0.wr W7
  have X2a0b := X2a0.wr W7
  have X3a0b := X3a0.wr W7
  have S8 : Go p e below A0 (T7.setTop (mkF m 19 #[.val (.ref a1), .val (.ref k1), .val (.ref k2), .val (.ref k3)] [(.ref k2), (.ref a1)])) := by
    refine S7.trans ?_
    refine (Own.P.aloadN K7.here K7.exec (hb hby d_prog_17_method_1_code_17) rfl rfl).trans ?_
    refine (Own.P.aloadN K7.here K7.exec (hb hby d_prog_17_method_1_code_18) rfl rfl).trans ?_
    exact Go.refl _
  obtain ⟨l1, b_l1, k_l1, vm9, T9, h9, K9, E9, X_l1, C_l1, F_l1, V_l1, H_l1, L_l1, G9⟩ := K7.ldcH (hw _ (List.mem_of_getElem? (i := 56) rfl)) (Own.atoms_in hw) (own_ew hw) (by simp [consts_1]) H0b (z := 4) ⟨by decide +kernel, rfl⟩ (by decide) (by decide +kernel) (pc := 19) (Ls := #[.val (.ref a1), .val (.ref k1), .val (.ref k2), .val (.ref k3)]) (rest := [(.ref k2), (.ref a1)]) (hb hby d_prog_17_method_1_code_19) (n := 16) (by decide +kernel) (by decide) (by decide) (by decide)
  have S9 : Go p e below A0 (T9.setTop (mkF m 21 #[.val (.ref a1), .val (.ref k1), .val (.ref k2), .val (.ref k3)] [(.ref l1), (.ref k2), (.ref a1)])) := S8.trans G9
  have B1a := B0b.ext E9
  have X1a0ba1 := X1a0b.ext E9
  have X2a0ba1 := X2a0b.ext E9
  have X3a0ba1 := X3a0b.ext E9
  obtain ⟨v10, vm10, vq10, T10, h10, K10, KK10, ev10, Q10, G10⟩ := K9.callS (y := (⟨"java/util/Objects", "requireNonNull", "(Ljava/lang/Object;Ljava/lang/String;)Ljava/lang/Object;"⟩ : MethodName)) (hw _ (List.mem_of_getElem? (i := 49) rfl)) (hw _ (List.mem_of_getElem? (i := 50) rfl)) (hw _ (List.mem_of_getElem? (i := 51) rfl)) (hw _ (List.mem_of_getElem? (i := 52) rfl)) (by decide) (W := 1) (argsL := [(.ref k2), (.ref l1)]) (rest := [(.ref a1)]) ((c_rnn l Z a0 hw n0 h9 (K9.old) k2 l1).payW (Own.HV.cl (own_ew hw)) (hw _ (List.mem_of_getElem? (i := 52) rfl)) (hw _ (List.mem_of_getElem? (i := 51) rfl)) (by decide) (by decide)) ⟨K9.warm, H_l1⟩ (pc := 21) (Ls := #[.val (.ref a1), .val (.ref k1), .val (.ref k2), .val (.ref k3)]) (st := [(.ref l1), (.ref k2), (.ref a1)]) (by rw [hml]; rfl) (lenOf pd_7 rfl) rfl (Nat.le_of_eq rfl) (hb hby d_prog_17_method_1_code_21) (by decide) (by decide) all0
  obtain ⟨rfl, hW10⟩ := ev10 rfl
  obtain ⟨⟨rfl, e10⟩, hv10⟩ := Q10
  have S10 : Go p e below A0 (T10.setTop (mkF m 24 #[.val (.ref a1), .val (.ref k1), .val (.ref k2), .val (.ref k3)] [(.ref k2), (.ref a1)])) := S9.trans G10
  subst e10
  obtain ⟨T11, K11, G11⟩ := K10.castY (hw _ (List.mem_of_getElem? (i := 53) rfl)) (Ins.self X2a0ba1) (pc := 24) (Ls := #[.val (.ref a1), .val (.ref k1), .val (.ref k2), .val (.ref k3)]) (rest := [(.ref a1)]) (hb hby d_prog_17_method_1_code_24)
  have S11 : Go p e below A0 (T11.setTop (mkF m 27 #[.val (.ref a1), .val (.ref k1), .val (.ref k2), .val (.ref k3)] [(.ref k2), (.ref a1)])) := S10.trans G11
  have S1' : Safe Z consts_1 vq10 h10 a1 := Safe.exa K11.al B1a.1 (by decide) (by decide)
  obtain ⟨T12, h12, K12, W12, G12⟩ := K11.putF "" (Or.inl (hw _ (List.mem_of_getElem? (i := 57) rfl))) Via.refl B1a.2.2.1 B1a.1 (Or.inr ⟨(hw _ (List.mem_of_getElem? (i := 58) rfl)), rfl, hnm⟩) (hw _ (List.mem_of_getElem? (i := 42) rfl)) (ty := (.object "java/lang/String")) (by decide) (v := (.ref k2)) rfl rfl (Or.inl (List.mem_of_getElem? (i := 0) rfl)) (pc := 27) (Ls := #[.val (.ref a1), .val (.ref k1), .val (.ref k2), .val (.ref k3)]) (rest := []) (hb hby d_prog_17_method_1_code_27)
  have S12 : Go p e below A0 (T12.setTop (mkF m 30 #[.val (.ref a1), .val (.ref k1), .val (.ref k2), .val (.ref k3)] [])) := S11.trans G12
  have B1b := B1a.set_f2 hw W12
  have H1b := CHv.wr W12 S1' hv10.2
  have X1a0ba1b := X1a0ba1.wr W12
  have X2a0ba1b := X2a0ba1.wr W12
  have X3a0ba1b := X3a0ba1.wr W12
  have S13 : Go p e below A0 (T12.setTop (mkF m 32 #[.val (.ref a1), .val (.ref k1), .val (.ref k2), .val (.ref k3)] [(.ref k3), (.ref a1)])) := by
    refine S12.trans ?_
    refine (Own.P.aloadN K12.here K12.exec (hb hby d_prog_17_method_1_code_30) rfl rfl).trans ?_
    refine (Own.P.aloadN K12.here K12.exec (hb hby d_prog_17_method_1_code_31) rfl rfl).trans ?_
    exact Go.refl _
  obtain ⟨l2, b_l2, k_l2, vm14, T14, h14, K14, E14, X_l2, C_l2, F_l2, V_l2, H_l2, L_l2, G14⟩ := K12.ldcH (hw _ (List.mem_of_getElem? (i := 59) rfl)) (Own.atoms_in hw) (own_ew hw) (by simp [consts_1]) H1b (z := 9) ⟨by decide +kernel, rfl⟩ (by decide) (by decide +kernel) (pc := 32) (Ls := #[.val (.ref a1), .val (.ref k1), .val (.ref k2), .val (.ref k3)]) (rest := [(.ref k3), (.ref a1)]) (hb hby d_prog_17_method_1_code_32) (n := 36) (by decide +kernel) (by decide) (by decide) (by decide)
  have S14 : Go p e below A0 (T14.setTop (mkF m 34 #[.val (.ref a1), .val (.ref k1), .val (.ref k2), .val (.ref k3)] [(.ref l2), (.ref k3), (.ref a1)])) := S13.trans G14
  have B2a := B1b.ext E14
  have X1a0ba1ba2 := X1a0ba1b.ext E14
  have X2a0ba1ba2 := X2a0ba1b.ext E14
  have X3a0ba1ba2 := X3a0ba1b.ext E14
  obtain ⟨v15, vm15, vq15, T15, h15, K15, KK15, ev15, Q15, G15⟩ := K14.callS (y := (⟨"java/util/Objects", "requireNonNull", "(Ljava/lang/Object;Ljava/lang/String;)Ljava/lang/Object;"⟩ : MethodName)) (hw _ (List.mem_of_getElem? (i := 49) rfl)) (hw _ (List.mem_of_getElem? (i := 50) rfl)) (hw _ (List.mem_of_getElem? (i := 51) rfl)) (hw _ (List.mem_of_getElem? (i := 52) rfl)) (by decide) (W := 1) (argsL := [(.ref k3), (.ref l2)]) (rest := [(.ref a1)]) ((c_rnn l Z a0 hw n0 h14 (K14.old) k3 l2).payW (Own.HV.cl (own_ew hw)) (hw _ (List.mem_of_getElem? (i := 52) rfl)) (hw _ (List.mem_of_getElem? (i := 51) rfl)) (by decide) (by decide)) ⟨K14.warm, H_l2⟩ (pc := 34) (Ls := #[.val (.ref a1), .val (.ref k1), .val (.ref k2), .val (.ref k3)]) (st := [(.ref l2), (.ref k3), (.ref a1)]) (by rw [hml]; rfl) (lenOf pd_7 rfl) rfl (Nat.le_of_eq rfl) (hb hby d_prog_17_method_1_code_34) (by decide) (by decide) all0
  obtain ⟨rfl, hW15⟩ := ev15 rfl
  obtain ⟨⟨rfl, e15⟩, hv15⟩ := Q15
  have S15 : Go p e below A0 (T15.setTop (mkF m 37 #[.val (.ref a1), .val (.ref k1), .val (.ref k2), .val (.ref k3)] [(.ref k3), (.ref a1)])) := S14.trans G15
  subst e15
  obtain ⟨T16, K16, G16⟩ := K15.castY (hw _ (List.mem_of_getElem? (i := 53) rfl)) (Ins.self X3a0ba1ba2) (pc := 37) (Ls := #[.val (.ref a1), .val (.ref k1), .val (.ref k2), .val (.ref k3)]) (rest := [(.ref a1)]) (hb hby d_prog_17_method_1_code_37)
  have S16 : Go p e below A0 (T16.setTop (mkF m 40 #[.val (.ref a1), .val (.ref k1), .val (.ref k2), .val (.ref k3)] [(.ref k3), (.ref a1)])) := S15.trans G16
  have S2' : Safe Z consts_1 vq15 h15 a1 := Safe.exa K16.al B2a.1 (by decide) (by decide)
  obtain ⟨T17, h17, K17, W17, G17⟩ := K16.putF "" (Or.inl (hw _ (List.mem_of_getElem? (i := 60) rfl))) Via.refl B2a.2.2.2 B2a.1 (Or.inr ⟨(hw _ (List.mem_of_getElem? (i := 61) rfl)), rfl, hnm⟩) (hw _ (List.mem_of_getElem? (i := 42) rfl)) (ty := (.object "java/lang/String")) (by decide) (v := (.ref k3)) rfl rfl (Or.inl (List.mem_of_getElem? (i := 0) rfl)) (pc := 40) (Ls := #[.val (.ref a1), .val (.ref k1), .val (.ref k2), .val (.ref k3)]) (rest := []) (hb hby d_prog_17_method_1_code_40)
  have S17 : Go p e below A0 (T17.setTop (mkF m 43 #[.val (.ref a1), .val (.ref k1), .val (.ref k2), .val (.ref k3)] [])) := S16.trans G17
  have B2b := B2a.set_f3 hw W17
  have H2b := CHv.wr W17 S2' hv15.2
  have X1a0ba1ba2b := X1a0ba1ba2.wr W17
  have X2a0ba1ba2b := X2a0ba1ba2.wr W17
  have X3a0ba1ba2b := X3a0ba1ba2.wr W17
  exact ⟨vq15, T17, h17, none, _, _, K17, by decide, by decide, ⟨rfl, B2b, K17.warm, H2b⟩, K17.retV S17 hret (hb hby d_prog_17_method_1_code_43)⟩
theorem d_prog_17_method_5_code_0 : decode prog_17_method_5_code 0 = .ok (.aload_n 1, 1) := by decide +kernel
theorem d_prog_17_method_5_code_1 : decode prog_17_method_5_code 1 = .ok (.instanceof 18, 3) := by decide +kernel
theorem d_prog_17_method_5_code_4 : decode prog_17_method_5_code 4 = .ok (.ifCond .ne 5, 3) := by decide +kernel
theorem d_prog_17_method_5_code_7 : decode prog_17_method_5_code 7 = .ok (.iconst 0, 1) := by decide +kernel
theorem d_prog_17_method_5_code_8 : decode prog_17_method_5_code 8 = .ok (.ireturn, 1) := by decide +kernel
set_option maxRecDepth 65536 in
set_option maxHeartbeats 40000000 in
theorem c_teqN (l : Launch) (Z : State) (a0 : Array Value) (hw : ∀ d ∈ tables_1, d.before a0 Z = true) (n0 : Nat) (h0 : Heap) (O0 : Old Z n0 h0) (a1 : Addr) :
    Own.Ctr false l (⟨"com/example/orrery/orrery/llm/ToolCall", "equals", "(Ljava/lang/Object;)Z"⟩ : MethodName) prog_17_method_5_code 3 (some .boolean) ({ frames := 0, cells := 0, slots := 0, locals := 0 } : Room) #[(.ref a1), Value.null] Z h0 Own.VT [] (fun v h vm => v = some (.int 0) ∧ h = h0) := by
  refine Own.body (plainFor_of_name pn_4) O0 (fun _ _ _ _ q => by cases q) (fun _ _ _ _ q _ => q) ?_
  intro p e s m below meth c T0 hby hml0 hret hnm hV0 K0
  change Own.Wk false p l e ({ frames := 0, cells := 0, slots := 0, locals := 0 } : Room) s m #[(.ref a1), Value.null] below meth c "com/example/orrery/orrery/llm/ToolCall" Z n0 h0 [] s.vm T0 h0 0 0 at K0
  have hml : c.maxLocals = 3 := hml0
  have S0 : Go p e below (T0.setTop (entryFrame m #[(.ref a1), Value.null] 3)) (T0.setTop (mkF m 0 #[.val (.ref a1), .val Value.null, .unset] [])) := fun t k => castTop (by first | rfl | (simp [entryFrame, mkF, argsToLocals, Value.category]; done)) k
  generalize T0.setTop (entryFrame m #[(.ref a1), Value.null] 3) = A0 at S0 ⊢
  have S1 : Go p e below A0 (T0.setTop (mkF m 1 #[.val (.ref a1), .val Value.null, .unset] [Value.null])) := by
    refine S0.trans ?_
    refine (Own.P.aloadN K0.here K0.exec (hb hby d_prog_17_method_5_code_0) rfl rfl).trans ?_
    exact Go.refl _
  have G2 := K0.instNull (pc := 1) (Ls := #[.val (.ref a1), .val Value.null, .unset]) (rest := []) (hb hby d_prog_17_method_5_code_1)
  have S2 : Go p e below A0 (T0.setTop (mkF m 4 #[.val (.ref a1), .val Value.null, .unset] [(.int (0 : Int32))])) := S1.trans G2
  have S3 : Go p e below A0 (T0.setTop (mkF m 8 #[.val (.ref a1), .val Value.null, .unset] [(.int (0 : Int32))])) := by
    refine S2.trans ?_
    refine (Own.P.ifNo K0.here K0.exec (hb hby d_prog_17_method_5_code_4) (by decide)).trans ?_
    refine (Own.P.iconst K0.here K0.exec (0 : Int32) (hb hby d_prog_17_method_5_code_7) rfl).trans ?_
    exact Go.refl _
  exact ⟨s.vm, T0, h0, (some (.int (0 : Int32))), _, _, K0, by decide, by decide, ⟨rfl, rfl⟩, K0.retW S3 hret rfl (Or.inl ⟨rfl, by decide, _, rfl⟩) (hb hby d_prog_17_method_5_code_8)⟩
set_option maxRecDepth 65536 in
set_option maxHeartbeats 40000000 in
theorem c_teqS (l : Launch) (Z : State) (a0 : Array Value) (hw : ∀ d ∈ tables_1, d.before a0 Z = true) (n0 : Nat) (h0 : Heap) (O0 : Old Z n0 h0) (a1 a2 : Addr) (X : Exa Z h0 a2 "java/lang/String") :
    Own.Ctr false l (⟨"com/example/orrery/orrery/llm/ToolCall", "equals", "(Ljava/lang/Object;)Z"⟩ : MethodName) prog_17_method_5_code 3 (some .boolean) ({ frames := 0, cells := 0, slots := 0, locals := 0 } : Room) #[(.ref a1), (.ref a2)] Z h0 Own.VT [] (fun v h vm => v = some (.int 0) ∧ h = h0) := by
  refine Own.body (plainFor_of_name pn_4) O0 (fun _ _ _ _ q => by cases q) (fun _ _ _ _ q _ => q) ?_
  intro p e s m below meth c T0 hby hml0 hret hnm hV0 K0
  change Own.Wk false p l e ({ frames := 0, cells := 0, slots := 0, locals := 0 } : Room) s m #[(.ref a1), (.ref a2)] below meth c "com/example/orrery/orrery/llm/ToolCall" Z n0 h0 [] s.vm T0 h0 0 0 at K0
  have hml : c.maxLocals = 3 := hml0
  have S0 : Go p e below (T0.setTop (entryFrame m #[(.ref a1), (.ref a2)] 3)) (T0.setTop (mkF m 0 #[.val (.ref a1), .val (.ref a2), .unset] [])) := fun t k => castTop (by first | rfl | (simp [entryFrame, mkF, argsToLocals, Value.category]; done)) k
  generalize T0.setTop (entryFrame m #[(.ref a1), (.ref a2)] 3) = A0 at S0 ⊢
  have S1 : Go p e below A0 (T0.setTop (mkF m 1 #[.val (.ref a1), .val (.ref a2), .unset] [(.ref a2)])) := by
    refine S0.trans ?_
    refine (Own.P.aloadN K0.here K0.exec (hb hby d_prog_17_method_5_code_0) rfl rfl).trans ?_
    exact Go.refl _
  obtain ⟨T2, K2, G2⟩ := K0.instNo (hw _ (List.mem_of_getElem? (i := 77) rfl)) X (Own.notK (hw _ (List.mem_of_getElem? (i := 92) rfl)) (hw _ (List.mem_of_getElem? (i := 93) rfl)) (hw _ (List.mem_of_getElem? (i := 42) rfl)) (by decide) (by decide)) (pc := 1) (Ls := #[.val (.ref a1), .val (.ref a2), .unset]) (rest := []) (hb hby d_prog_17_method_5_code_1)
  have S2 : Go p e below A0 (T2.setTop (mkF m 4 #[.val (.ref a1), .val (.ref a2), .unset] [(.int (0 : Int32))])) := S1.trans G2
  have S3 : Go p e below A0 (T2.setTop (mkF m 8 #[.val (.ref a1), .val (.ref a2), .unset] [(.int (0 : Int32))])) := by
    refine S2.trans ?_
    refine (Own.P.ifNo K2.here K2.exec (hb hby d_prog_17_method_5_code_4) (by decide)).trans ?_
    refine (Own.P.iconst K2.here K2.exec (0 : Int32) (hb hby d_prog_17_method_5_code_7) rfl).trans ?_
    exact Go.refl _
  exact ⟨s.vm, T2, h0, (some (.int (0 : Int32))), _, _, K2, by decide, by decide, ⟨rfl, rfl⟩, K2.retW S3 hret rfl (Or.inl ⟨rfl, by decide, _, rfl⟩) (hb hby d_prog_17_method_5_code_8)⟩
def own_tc (a b c a' b' c' : List Int32) : Int32 := if a = a' ∧ b = b' ∧ c = c' then 1 else 0
theorem own_tc1 {a b c a' b' c' : List Int32} (q : a = a') (q' : b = b') (q'' : c = c') : own_tc a b c a' b' c' = 1 := by simp [own_tc, q, q', q'']
theorem own_tcA {a b c a' b' c' : List Int32} (q : ¬ a = a') : own_tc a b c a' b' c' = 0 := by simp [own_tc, q]
theorem own_tcB {a b c a' b' c' : List Int32} (q : ¬ b = b') : own_tc a b c a' b' c' = 0 := by simp [own_tc, q]
theorem own_tcC {a b c a' b' c' : List Int32} (q : ¬ c = c') : own_tc a b c a' b' c' = 0 := by simp [own_tc, q]
theorem own_tcs (a b c a' b' c' : List Int32) : own_tc a b c a' b' c' = own_tc a' b' c' a b c := by simp only [own_tc, eq_comm]
theorem d_prog_17_method_5_code_9 : decode prog_17_method_5_code 9 = .ok (.aload_n 1, 1) := by decide +kernel
theorem d_prog_17_method_5_code_10 : decode prog_17_method_5_code 10 = .ok (.checkcast 18, 3) := by decide +kernel
theorem d_prog_17_method_5_code_13 : decode prog_17_method_5_code 13 = .ok (.astore_n 2, 1) := by decide +kernel
theorem d_prog_17_method_5_code_14 : decode prog_17_method_5_code 14 = .ok (.aload_n 0, 1) := by decide +kernel
theorem d_prog_17_method_5_code_15 : decode prog_17_method_5_code 15 = .ok (.getfield 17, 3) := by decide +kernel
theorem d_prog_17_method_5_code_18 : decode prog_17_method_5_code 18 = .ok (.aload_n 2, 1) := by decide +kernel
theorem d_prog_17_method_5_code_19 : decode prog_17_method_5_code 19 = .ok (.getfield 17, 3) := by decide +kernel
theorem pd_8 : parseMethodDescriptor "(Ljava/lang/Object;)Z" = some ⟨[(.object "java/lang/Object")], some .boolean⟩ := by decide +kernel
theorem d_prog_17_method_5_code_22 : decode prog_17_method_5_code 22 = .ok (.invokevirtual 30, 3) := by decide +kernel
theorem d_prog_17_method_5_code_25 : decode prog_17_method_5_code 25 = .ok (.ifCond .eq 35, 3) := by decide +kernel
theorem d_prog_17_method_5_code_60 : decode prog_17_method_5_code 60 = .ok (.iconst 0, 1) := by decide +kernel
theorem d_prog_17_method_5_code_61 : decode prog_17_method_5_code 61 = .ok (.ireturn, 1) := by decide +kernel
theorem d_prog_17_method_5_code_28 : decode prog_17_method_5_code 28 = .ok (.aload_n 0, 1) := by decide +kernel
theorem d_prog_17_method_5_code_29 : decode prog_17_method_5_code 29 = .ok (.getfield 24, 3) := by decide +kernel
theorem d_prog_17_method_5_code_32 : decode prog_17_method_5_code 32 = .ok (.aload_n 2, 1) := by decide +kernel
theorem d_prog_17_method_5_code_33 : decode prog_17_method_5_code 33 = .ok (.getfield 24, 3) := by decide +kernel
theorem d_prog_17_method_5_code_36 : decode prog_17_method_5_code 36 = .ok (.invokevirtual 30, 3) := by decide +kernel
theorem d_prog_17_method_5_code_39 : decode prog_17_method_5_code 39 = .ok (.ifCond .eq 21, 3) := by decide +kernel
theorem d_prog_17_method_5_code_42 : decode prog_17_method_5_code 42 = .ok (.aload_n 0, 1) := by decide +kernel
theorem d_prog_17_method_5_code_43 : decode prog_17_method_5_code 43 = .ok (.getfield 28, 3) := by decide +kernel
theorem d_prog_17_method_5_code_46 : decode prog_17_method_5_code 46 = .ok (.aload_n 2, 1) := by decide +kernel
theorem d_prog_17_method_5_code_47 : decode prog_17_method_5_code 47 = .ok (.getfield 28, 3) := by decide +kernel
theorem d_prog_17_method_5_code_50 : decode prog_17_method_5_code 50 = .ok (.invokevirtual 30, 3) := by decide +kernel
theorem d_prog_17_method_5_code_53 : decode prog_17_method_5_code 53 = .ok (.ifCond .eq 7, 3) := by decide +kernel
theorem d_prog_17_method_5_code_56 : decode prog_17_method_5_code 56 = .ok (.iconst 1, 1) := by decide +kernel
theorem d_prog_17_method_5_code_57 : decode prog_17_method_5_code 57 = .ok (.goto 4, 3) := by decide +kernel
set_option maxRecDepth 65536 in
set_option maxHeartbeats 40000000 in
theorem c_teq (l : Launch) (Z : State) (a0 : Array Value) (hw : ∀ d ∈ tables_1, d.before a0 Z = true) (n0 : Nat) (h0 : Heap) (O0 : Old Z n0 h0) (a1 a2 i1 i2 i3 i4 i5 i6 : Addr) (x1 x2 x3 x4 x5 x6 : List Int32) (B : TcAt Z h0 a1 (.ref i1) (.ref i2) (.ref i3)) (D : TcAt Z h0 a2 (.ref i4) (.ref i5) (.ref i6)) (A1 : StrIs Z h0 i1 x1) (L1 : x1.length ≤ 4000) (A2 : StrIs Z h0 i2 x2) (L2 : x2.length ≤ 4000) (A3 : StrIs Z h0 i3 x3) (L3 : x3.length ≤ 4000) (A4 : StrIs Z h0 i4 x4) (L4 : x4.length ≤ 4000) (A5 : StrIs Z h0 i5 x5) (L5 : x5.length ≤ 4000) (A6 : StrIs Z h0 i6 x6) (L6 : x6.length ≤ 4000) (zc : Int32) (hzc : ¬ zc = 0) (SC : Sta Z Z.heap "java/lang/String" "COMPACT_STRINGS" "Z" (.int zc)) :
    Own.Ctr false l (⟨"com/example/orrery/orrery/llm/ToolCall", "equals", "(Ljava/lang/Object;)Z"⟩ : MethodName) prog_17_method_5_code 3 (some .boolean) ({ frames := 2, cells := 0, slots := 0, locals := 28 } : Room) #[(.ref a1), (.ref a2)] Z h0 Own.VT [] (fun v h vm => v = some (.int (own_tc x1 x2 x3 x4 x5 x6)) ∧ h = h0) := by
  refine Own.body (plainFor_of_name pn_4) O0 (fun _ _ _ _ q => by cases q) (fun _ _ _ _ q _ => q) ?_
  intro p e s m below meth c T0 hby hml0 hret hnm hV0 K0
  change Own.Wk false p l e ({ frames := 2, cells := 0, slots := 0, locals := 28 } : Room) s m #[(.ref a1), (.ref a2)] below meth c "com/example/orrery/orrery/llm/ToolCall" Z n0 h0 [] s.vm T0 h0 0 0 at K0
  have hml : c.maxLocals = 3 := hml0
  have S0 : Go p e below (T0.setTop (entryFrame m #[(.ref a1), (.ref a2)] 3)) (T0.setTop (mkF m 0 #[.val (.ref a1), .val (.ref a2), .unset] [])) := fun t k => castTop (by first | rfl | (simp [entryFrame, mkF, argsToLocals, Value.category]; done)) k
  generalize T0.setTop (entryFrame m #[(.ref a1), (.ref a2)] 3) = A0 at S0 ⊢
  have S1 : Go p e below A0 (T0.setTop (mkF m 1 #[.val (.ref a1), .val (.ref a2), .unset] [(.ref a2)])) := by
    refine S0.trans ?_
    refine (Own.P.aloadN K0.here K0.exec (hb hby d_prog_17_method_5_code_0) rfl rfl).trans ?_
    exact Go.refl _
  obtain ⟨T2, K2, G2⟩ := K0.instY (hw _ (List.mem_of_getElem? (i := 77) rfl)) (Ins.self D.1) (pc := 1) (Ls := #[.val (.ref a1), .val (.ref a2), .unset]) (rest := []) (hb hby d_prog_17_method_5_code_1)
  have S2 : Go p e below A0 (T2.setTop (mkF m 4 #[.val (.ref a1), .val (.ref a2), .unset] [(.int (1 : Int32))])) := S1.trans G2
  have S3 : Go p e below A0 (T2.setTop (mkF m 10 #[.val (.ref a1), .val (.ref a2), .unset] [(.ref a2)])) := by
    refine S2.trans ?_
    refine (Own.P.ifYes K2.here K2.exec 9 (hb hby d_prog_17_method_5_code_4) (by decide) (by decide) (by decide)).trans ?_
    refine (Own.P.aloadN K2.here K2.exec (hb hby d_prog_17_method_5_code_9) rfl rfl).trans ?_
    exact Go.refl _
  obtain ⟨T4, K4, G4⟩ := K2.castY (hw _ (List.mem_of_getElem? (i := 77) rfl)) (Ins.self D.1) (pc := 10) (Ls := #[.val (.ref a1), .val (.ref a2), .unset]) (rest := []) (hb hby d_prog_17_method_5_code_10)
  have S4 : Go p e below A0 (T4.setTop (mkF m 13 #[.val (.ref a1), .val (.ref a2), .unset] [(.ref a2)])) := S3.trans G4
  have S5 : Go p e below A0 (T4.setTop (mkF m 15 #[.val (.ref a1), .val (.ref a2), .val (.ref a2)] [(.ref a1)])) := by
    refine S4.trans ?_
    refine (Own.P.astoreN K4.here K4.exec (l' := #[.val (.ref a1), .val (.ref a2), .val (.ref a2)]) (hb hby d_prog_17_method_5_code_13) rfl rfl).trans ?_
    refine (Own.P.aloadN K4.here K4.exec (hb hby d_prog_17_method_5_code_14) rfl rfl).trans ?_
    exact Go.refl _
  obtain ⟨T6, K6, G6⟩ := K4.getF "" (Or.inl (hw _ (List.mem_of_getElem? (i := 54) rfl))) Via.refl B.2.1 (pc := 15) (Ls := #[.val (.ref a1), .val (.ref a2), .val (.ref a2)]) (rest := []) (hb hby d_prog_17_method_5_code_15)
  have S6 : Go p e below A0 (T6.setTop (mkF m 18 #[.val (.ref a1), .val (.ref a2), .val (.ref a2)] [(.ref i1)])) := S5.trans G6
  have S7 : Go p e below A0 (T6.setTop (mkF m 19 #[.val (.ref a1), .val (.ref a2), .val (.ref a2)] [(.ref a2), (.ref i1)])) := by
    refine S6.trans ?_
    refine (Own.P.aloadN K6.here K6.exec (hb hby d_prog_17_method_5_code_18) rfl rfl).trans ?_
    exact Go.refl _
  obtain ⟨T8, K8, G8⟩ := K6.getF "" (Or.inl (hw _ (List.mem_of_getElem? (i := 54) rfl))) Via.refl D.2.1 (pc := 19) (Ls := #[.val (.ref a1), .val (.ref a2), .val (.ref a2)]) (rest := [(.ref i1)]) (hb hby d_prog_17_method_5_code_19)
  have S8 : Go p e below A0 (T8.setTop (mkF m 22 #[.val (.ref a1), .val (.ref a2), .val (.ref a2)] [(.ref i4), (.ref i1)])) := S7.trans G8
  obtain ⟨v9, vm9, vq9, T9, h9, K9, KK9, ev9, Q9, G9⟩ := K8.callV (C := "java/lang/String") (y := (⟨"java/lang/String", "equals", "(Ljava/lang/Object;)Z"⟩ : MethodName)) (z := (⟨"java/lang/String", "equals", "(Ljava/lang/Object;)Z"⟩ : MethodName)) (hw _ (List.mem_of_getElem? (i := 79) rfl)) (hw _ (List.mem_of_getElem? (i := 63) rfl)) (hw _ (List.mem_of_getElem? (i := 65) rfl)) (Or.inr (Or.inr rfl)) (hw _ (List.mem_of_getElem? (i := 64) rfl)) (by decide) (W := 0) A1.2.1 (argsL := [(.ref i4)]) (rest := []) (Own.payEq (W := 0) hw Own.VT.cl (hw _ (List.mem_of_getElem? (i := 9) rfl)) K8.old A1 L1 A4 L4 SC hzc (by decide) (by decide)) trivial (pc := 22) (Ls := #[.val (.ref a1), .val (.ref a2), .val (.ref a2)]) (st := [(.ref i4), (.ref i1)]) (by rw [hml]; rfl) (lenOf pd_8 rfl) rfl (Nat.le_of_eq rfl) (hb hby d_prog_17_method_5_code_22) (by decide) (by decide) all0
  obtain ⟨⟨rfl, e9⟩, -⟩ := Q9
  have S9 : Go p e below A0 (T9.setTop (mkF m 25 #[.val (.ref a1), .val (.ref a2), .val (.ref a2)] [(.int (own_seq x1 x4))])) := S8.trans G9
  subst e9
  by_cases q0 : x1 = x4
  case neg =>
      rw [own_seq0 q0] at S9
      have S10 : Go p e below A0 (T9.setTop (mkF m 61 #[.val (.ref a1), .val (.ref a2), .val (.ref a2)] [(.int (0 : Int32))])) := by
        refine S9.trans ?_
        refine (Own.P.ifYes K9.here K9.exec 60 (hb hby d_prog_17_method_5_code_25) (by decide) (by decide) (by decide)).trans ?_
        refine (Own.P.iconst K9.here K9.exec (0 : Int32) (hb hby d_prog_17_method_5_code_60) rfl).trans ?_
        exact Go.refl _
      rw [own_tcA q0]
      exact ⟨vm9, T9, h9, (some (.int (0 : Int32))), _, _, K9, by decide, by decide, ⟨rfl, rfl⟩, K9.retW S10 hret rfl (Or.inl ⟨rfl, by decide, _, rfl⟩) (hb hby d_prog_17_method_5_code_61)⟩
  case pos =>
      rw [own_seq1 q0] at S9
      have S11 : Go p e below A0 (T9.setTop (mkF m 29 #[.val (.ref a1), .val (.ref a2), .val (.ref a2)] [(.ref a1)])) := by
        refine S9.trans ?_
        refine (Own.P.ifNo K9.here K9.exec (hb hby d_prog_17_method_5_code_25) (by decide)).trans ?_
        refine (Own.P.aloadN K9.here K9.exec (hb hby d_prog_17_method_5_code_28) rfl rfl).trans ?_
        exact Go.refl _
      obtain ⟨T12, K12, G12⟩ := K9.getF "" (Or.inl (hw _ (List.mem_of_getElem? (i := 57) rfl))) Via.refl B.2.2.1 (pc := 29) (Ls := #[.val (.ref a1), .val (.ref a2), .val (.ref a2)]) (rest := []) (hb hby d_prog_17_method_5_code_29)
      have S12 : Go p e below A0 (T12.setTop (mkF m 32 #[.val (.ref a1), .val (.ref a2), .val (.ref a2)] [(.ref i2)])) := S11.trans G12
      have S13 : Go p e below A0 (T12.setTop (mkF m 33 #[.val (.ref a1), .val (.ref a2), .val (.ref a2)] [(.ref a2), (.ref i2)])) := by
        refine S12.trans ?_
        refine (Own.P.aloadN K12.here K12.exec (hb hby d_prog_17_method_5_code_32) rfl rfl).trans ?_
        exact Go.refl _
      obtain ⟨T14, K14, G14⟩ := K12.getF "" (Or.inl (hw _ (List.mem_of_getElem? (i := 57) rfl))) Via.refl D.2.2.1 (pc := 33) (Ls := #[.val (.ref a1), .val (.ref a2), .val (.ref a2)]) (rest := [(.ref i2)]) (hb hby d_prog_17_method_5_code_33)
      have S14 : Go p e below A0 (T14.setTop (mkF m 36 #[.val (.ref a1), .val (.ref a2), .val (.ref a2)] [(.ref i5), (.ref i2)])) := S13.trans G14
      obtain ⟨v15, vm15, vq15, T15, h15, K15, KK15, ev15, Q15, G15⟩ := K14.callV (C := "java/lang/String") (y := (⟨"java/lang/String", "equals", "(Ljava/lang/Object;)Z"⟩ : MethodName)) (z := (⟨"java/lang/String", "equals", "(Ljava/lang/Object;)Z"⟩ : MethodName)) (hw _ (List.mem_of_getElem? (i := 79) rfl)) (hw _ (List.mem_of_getElem? (i := 63) rfl)) (hw _ (List.mem_of_getElem? (i := 65) rfl)) (Or.inr (Or.inr rfl)) (hw _ (List.mem_of_getElem? (i := 64) rfl)) (by decide) (W := 0) A2.2.1 (argsL := [(.ref i5)]) (rest := []) (Own.payEq (W := 0) hw Own.VT.cl (hw _ (List.mem_of_getElem? (i := 9) rfl)) K14.old A2 L2 A5 L5 SC hzc (by decide) (by decide)) trivial (pc := 36) (Ls := #[.val (.ref a1), .val (.ref a2), .val (.ref a2)]) (st := [(.ref i5), (.ref i2)]) (by rw [hml]; rfl) (lenOf pd_8 rfl) rfl (Nat.le_of_eq rfl) (hb hby d_prog_17_method_5_code_36) (by decide) (by decide) all0
      obtain ⟨⟨rfl, e15⟩, -⟩ := Q15
      have S15 : Go p e below A0 (T15.setTop (mkF m 39 #[.val (.ref a1), .val (.ref a2), .val (.ref a2)] [(.int (own_seq x2 x5))])) := S14.trans G15
      subst e15
      by_cases q1 : x2 = x5
      case neg =>
          rw [own_seq0 q1] at S15
          have S16 : Go p e below A0 (T15.setTop (mkF m 61 #[.val (.ref a1), .val (.ref a2), .val (.ref a2)] [(.int (0 : Int32))])) := by
            refine S15.trans ?_
            refine (Own.P.ifYes K15.here K15.exec 60 (hb hby d_prog_17_method_5_code_39) (by decide) (by decide) (by decide)).trans ?_
            refine (Own.P.iconst K15.here K15.exec (0 : Int32) (hb hby d_prog_17_method_5_code_60) rfl).trans ?_
            exact Go.refl _
          rw [own_tcB q1]
          exact ⟨vm15, T15, h15, (some (.int (0 : Int32))), _, _, K15, by decide, by decide, ⟨rfl, rfl⟩, K15.retW S16 hret rfl (Or.inl ⟨rfl, by decide, _, rfl⟩) (hb hby d_prog_17_method_5_code_61)⟩
      case pos =>
          rw [own_seq1 q1] at S15
          have S17 : Go p e below A0 (T15.setTop (mkF m 43 #[.val (.ref a1), .val (.ref a2), .val (.ref a2)] [(.ref a1)])) := by
            refine S15.trans ?_
            refine (Own.P.ifNo K15.here K15.exec (hb hby d_prog_17_method_5_code_39) (by decide)).trans ?_
            refine (Own.P.aloadN K15.here K15.exec (hb hby d_prog_17_method_5_code_42) rfl rfl).trans ?_
            exact Go.refl _
          obtain ⟨T18, K18, G18⟩ := K15.getF "" (Or.inl (hw _ (List.mem_of_getElem? (i := 60) rfl))) Via.refl B.2.2.2 (pc := 43) (Ls := #[.val (.ref a1), .val (.ref a2), .val (.ref a2)]) (rest := []) (hb hby d_prog_17_method_5_code_43)
          have S18 : Go p e below A0 (T18.setTop (mkF m 46 #[.val (.ref a1), .val (.ref a2), .val (.ref a2)] [(.ref i3)])) := S17.trans G18
          have S19 : Go p e below A0 (T18.setTop (mkF m 47 #[.val (.ref a1), .val (.ref a2), .val (.ref a2)] [(.ref a2), (.ref i3)])) := by
            refine S18.trans ?_
            refine (Own.P.aloadN K18.here K18.exec (hb hby d_prog_17_method_5_code_46) rfl rfl).trans ?_
            exact Go.refl _
          obtain ⟨T20, K20, G20⟩ := K18.getF "" (Or.inl (hw _ (List.mem_of_getElem? (i := 60) rfl))) Via.refl D.2.2.2 (pc := 47) (Ls := #[.val (.ref a1), .val (.ref a2), .val (.ref a2)]) (rest := [(.ref i3)]) (hb hby d_prog_17_method_5_code_47)
          have S20 : Go p e below A0 (T20.setTop (mkF m 50 #[.val (.ref a1), .val (.ref a2), .val (.ref a2)] [(.ref i6), (.ref i3)])) := S19.trans G20
          obtain ⟨v21, vm21, vq21, T21, h21, K21, KK21, ev21, Q21, G21⟩ := K20.callV (C := "java/lang/String") (y := (⟨"java/lang/String", "equals", "(Ljava/lang/Object;)Z"⟩ : MethodName)) (z := (⟨"java/lang/String", "equals", "(Ljava/lang/Object;)Z"⟩ : MethodName)) (hw _ (List.mem_of_getElem? (i := 79) rfl)) (hw _ (List.mem_of_getElem? (i := 63) rfl)) (hw _ (List.mem_of_getElem? (i := 65) rfl)) (Or.inr (Or.inr rfl)) (hw _ (List.mem_of_getElem? (i := 64) rfl)) (by decide) (W := 0) A3.2.1 (argsL := [(.ref i6)]) (rest := []) (Own.payEq (W := 0) hw Own.VT.cl (hw _ (List.mem_of_getElem? (i := 9) rfl)) K20.old A3 L3 A6 L6 SC hzc (by decide) (by decide)) trivial (pc := 50) (Ls := #[.val (.ref a1), .val (.ref a2), .val (.ref a2)]) (st := [(.ref i6), (.ref i3)]) (by rw [hml]; rfl) (lenOf pd_8 rfl) rfl (Nat.le_of_eq rfl) (hb hby d_prog_17_method_5_code_50) (by decide) (by decide) all0
          obtain ⟨⟨rfl, e21⟩, -⟩ := Q21
          have S21 : Go p e below A0 (T21.setTop (mkF m 53 #[.val (.ref a1), .val (.ref a2), .val (.ref a2)] [(.int (own_seq x3 x6))])) := S20.trans G21
          subst e21
          by_cases q2 : x3 = x6
          case neg =>
              rw [own_seq0 q2] at S21
              have S22 : Go p e below A0 (T21.setTop (mkF m 61 #[.val (.ref a1), .val (.ref a2), .val (.ref a2)] [(.int (0 : Int32))])) := by
                refine S21.trans ?_
                refine (Own.P.ifYes K21.here K21.exec 60 (hb hby d_prog_17_method_5_code_53) (by decide) (by decide) (by decide)).trans ?_
                refine (Own.P.iconst K21.here K21.exec (0 : Int32) (hb hby d_prog_17_method_5_code_60) rfl).trans ?_
                exact Go.refl _
              rw [own_tcC q2]
              exact ⟨vm21, T21, h21, (some (.int (0 : Int32))), _, _, K21, by decide, by decide, ⟨rfl, rfl⟩, K21.retW S22 hret rfl (Or.inl ⟨rfl, by decide, _, rfl⟩) (hb hby d_prog_17_method_5_code_61)⟩
          case pos =>
              rw [own_seq1 q2] at S21
              have S23 : Go p e below A0 (T21.setTop (mkF m 61 #[.val (.ref a1), .val (.ref a2), .val (.ref a2)] [(.int (1 : Int32))])) := by
                refine S21.trans ?_
                refine (Own.P.ifNo K21.here K21.exec (hb hby d_prog_17_method_5_code_53) (by decide)).trans ?_
                refine (Own.P.iconst K21.here K21.exec (1 : Int32) (hb hby d_prog_17_method_5_code_56) rfl).trans ?_
                refine (Own.P.goto K21.here K21.exec 61 (hb hby d_prog_17_method_5_code_57) (by decide) (by decide)).trans ?_
                exact Go.refl _
              rw [own_tc1 q0 q1 q2]
              exact ⟨vm21, T21, h21, (some (.int (1 : Int32))), _, _, K21, by decide, by decide, ⟨rfl, rfl⟩, K21.retW S23 hret rfl (Or.inl ⟨rfl, by decide, _, rfl⟩) (hb hby d_prog_17_method_5_code_61)⟩
theorem pd_9 : parseMethodDescriptor "(I)Ljava/lang/String;" = some ⟨[.int], some (.object "java/lang/String")⟩ := by decide +kernel
theorem pd_10 : parseMethodDescriptor "(Ljava/lang/String;Ljava/lang/String;Ljava/lang/String;)V" = some ⟨[(.object "java/lang/String"), (.object "java/lang/String"), (.object "java/lang/String")], none⟩ := by decide +kernel
set_option maxRecDepth 65536 in
set_option maxHeartbeats 40000000 in
theorem c_law (l : Launch) (Z : State) (a0 : Array Value) (hw : ∀ d ∈ tables_1, d.before a0 Z = true) (n0 : Nat) (h0 : Heap) (O0 : Old Z n0 h0) (p1 p2 p3 fl p5 p6 : Int32) (zc : Int32) (hzc : ¬ zc = 0) (SC : Sta Z Z.heap "java/lang/String" "COMPACT_STRINGS" "Z" (.int zc)) :
    Own.Ctr true l x code maxLocals ret room_1 #[(.int p1), (.int p2), (.int p3), (.int fl), (.int p5), (.int p6)] Z h0 (Own.HV Z consts_1 h0) [] (fun v h vm => v = some (.int 1) ∧ True) := by
  refine Own.body (plainFor_of_name pn_2) O0 (fun _ _ _ _ q => by cases q) (fun _ _ _ _ q _ => q) ?_
  intro p e s m below meth c T0 hby hml0 hret hnm hV0 K0
  change Own.Wk true p l e room_1 s m #[(.int p1), (.int p2), (.int p3), (.int fl), (.int p5), (.int p6)] below meth c "com/example/orrery/orrery/llm/ToolCallEqualsPinLaw" Z n0 h0 [] s.vm T0 h0 0 0 at K0
  have hml : c.maxLocals = 16 := hml0
  have S0 : Go p e below (T0.setTop (entryFrame m #[(.int p1), (.int p2), (.int p3), (.int fl), (.int p5), (.int p6)] maxLocals)) (T0.setTop (mkF m 0 #[.val (.int p1), .val (.int p2), .val (.int p3), .val (.int fl), .val (.int p5), .val (.int p6), .unset, .unset, .unset, .unset, .unset, .unset, .unset, .unset, .unset, .unset] [])) := fun t k => castTop (by first | rfl | (simp [entryFrame, mkF, argsToLocals, Value.category, maxLocals]; done)) k
  generalize T0.setTop (entryFrame m #[(.int p1), (.int p2), (.int p3), (.int fl), (.int p5), (.int p6)] maxLocals) = A0 at S0 ⊢
  have S1 : Go p e below A0 (T0.setTop (mkF m 1 #[.val (.int p1), .val (.int p2), .val (.int p3), .val (.int fl), .val (.int p5), .val (.int p6), .unset, .unset, .unset, .unset, .unset, .unset, .unset, .unset, .unset, .unset] [(.int p1)])) := by
    refine S0.trans ?_
    refine (Own.P.iloadN K0.here K0.exec (hb hby at_0) rfl).trans ?_
    exact Go.refl _
  obtain ⟨v2, vm2, vq2, T2, h2, K2, KK2, ev2, Q2, G2⟩ := K0.callS (y := (⟨"com/example/orrery/orrery/llm/ToolCallEqualsPinLaw", "str", "(I)Ljava/lang/String;"⟩ : MethodName)) (hw _ (List.mem_of_getElem? (i := 0) rfl)) (hw _ (List.mem_of_getElem? (i := 1) rfl)) (hw _ (List.mem_of_getElem? (i := 2) rfl)) (hw _ (List.mem_of_getElem? (i := 3) rfl)) (by decide) (W := 0) (argsL := [(.int p1)]) (rest := []) ((c_str l Z a0 hw n0 h0 (K0.old) _ zc hzc SC).pay (Own.HV.cl (own_ew hw)) (hw _ (List.mem_of_getElem? (i := 3) rfl)) (hw _ (List.mem_of_getElem? (i := 2) rfl)) (by decide) (by decide)) hV0 (pc := 1) (Ls := #[.val (.int p1), .val (.int p2), .val (.int p3), .val (.int fl), .val (.int p5), .val (.int p6), .unset, .unset, .unset, .unset, .unset, .unset, .unset, .unset, .unset, .unset]) (st := [(.int p1)]) (by rw [hml]; rfl) (lenOf pd_9 rfl) rfl (Nat.le_of_eq rfl) (hb hby at_1) (by decide) (by decide) all0
  obtain ⟨rfl, hW2⟩ := ev2 rfl
  obtain ⟨i1, x1, rfl, A1, L1, HS0⟩ := Q2
  have S2 : Go p e below A0 (T2.setTop (mkF m 4 #[.val (.int p1), .val (.int p2), .val (.int p3), .val (.int fl), .val (.int p5), .val (.int p6), .unset, .unset, .unset, .unset, .unset, .unset, .unset, .unset, .unset, .unset] [(.ref i1)])) := S1.trans G2
  have S3 : Go p e below A0 (T2.setTop (mkF m 7 #[.val (.int p1), .val (.int p2), .val (.int p3), .val (.int fl), .val (.int p5), .val (.int p6), .val (.ref i1), .unset, .unset, .unset, .unset, .unset, .unset, .unset, .unset, .unset] [(.int p2)])) := by
    refine S2.trans ?_
    refine (Own.P.astore K2.here K2.exec (l' := #[.val (.int p1), .val (.int p2), .val (.int p3), .val (.int fl), .val (.int p5), .val (.int p6), .val (.ref i1), .unset, .unset, .unset, .unset, .unset, .unset, .unset, .unset, .unset]) (hb hby at_4) rfl rfl).trans ?_
    refine (Own.P.iloadN K2.here K2.exec (hb hby at_6) rfl).trans ?_
    exact Go.refl _
  obtain ⟨v4, vm4, vq4, T4, h4, K4, KK4, ev4, Q4, G4⟩ := K2.callS (y := (⟨"com/example/orrery/orrery/llm/ToolCallEqualsPinLaw", "str", "(I)Ljava/lang/String;"⟩ : MethodName)) (hw _ (List.mem_of_getElem? (i := 0) rfl)) (hw _ (List.mem_of_getElem? (i := 1) rfl)) (hw _ (List.mem_of_getElem? (i := 2) rfl)) (hw _ (List.mem_of_getElem? (i := 3) rfl)) (by decide) (W := 0) (argsL := [(.int p2)]) (rest := []) ((c_str l Z a0 hw n0 h2 (K2.old) _ zc hzc SC).pay (Own.HV.cl (own_ew hw)) (hw _ (List.mem_of_getElem? (i := 3) rfl)) (hw _ (List.mem_of_getElem? (i := 2) rfl)) (by decide) (by decide)) ⟨K2.warm, HS0.2⟩ (pc := 7) (Ls := #[.val (.int p1), .val (.int p2), .val (.int p3), .val (.int fl), .val (.int p5), .val (.int p6), .val (.ref i1), .unset, .unset, .unset, .unset, .unset, .unset, .unset, .unset, .unset]) (st := [(.int p2)]) (by rw [hml]; rfl) (lenOf pd_9 rfl) rfl (Nat.le_of_eq rfl) (hb hby at_7) (by decide) (by decide) all0
  obtain ⟨rfl, hW4⟩ := ev4 rfl
  obtain ⟨i2, x2, rfl, A2, L2, HS1⟩ := Q4
  have S4 : Go p e below A0 (T4.setTop (mkF m 10 #[.val (.int p1), .val (.int p2), .val (.int p3), .val (.int fl), .val (.int p5), .val (.int p6), .val (.ref i1), .unset, .unset, .unset, .unset, .unset, .unset, .unset, .unset, .unset] [(.ref i2)])) := S3.trans G4
  have A1_4 := A1.keep KK4
  have S5 : Go p e below A0 (T4.setTop (mkF m 13 #[.val (.int p1), .val (.int p2), .val (.int p3), .val (.int fl), .val (.int p5), .val (.int p6), .val (.ref i1), .val (.ref i2), .unset, .unset, .unset, .unset, .unset, .unset, .unset, .unset] [(.int p3)])) := by
    refine S4.trans ?_
    refine (Own.P.astore K4.here K4.exec (l' := #[.val (.int p1), .val (.int p2), .val (.int p3), .val (.int fl), .val (.int p5), .val (.int p6), .val (.ref i1), .val (.ref i2), .unset, .unset, .unset, .unset, .unset, .unset, .unset, .unset]) (hb hby at_10) rfl rfl).trans ?_
    refine (Own.P.iloadN K4.here K4.exec (hb hby at_12) rfl).trans ?_
    exact Go.refl _
  obtain ⟨v6, vm6, vq6, T6, h6, K6, KK6, ev6, Q6, G6⟩ := K4.callS (y := (⟨"com/example/orrery/orrery/llm/ToolCallEqualsPinLaw", "str", "(I)Ljava/lang/String;"⟩ : MethodName)) (hw _ (List.mem_of_getElem? (i := 0) rfl)) (hw _ (List.mem_of_getElem? (i := 1) rfl)) (hw _ (List.mem_of_getElem? (i := 2) rfl)) (hw _ (List.mem_of_getElem? (i := 3) rfl)) (by decide) (W := 0) (argsL := [(.int p3)]) (rest := []) ((c_str l Z a0 hw n0 h4 (K4.old) _ zc hzc SC).pay (Own.HV.cl (own_ew hw)) (hw _ (List.mem_of_getElem? (i := 3) rfl)) (hw _ (List.mem_of_getElem? (i := 2) rfl)) (by decide) (by decide)) ⟨K4.warm, HS1.2⟩ (pc := 13) (Ls := #[.val (.int p1), .val (.int p2), .val (.int p3), .val (.int fl), .val (.int p5), .val (.int p6), .val (.ref i1), .val (.ref i2), .unset, .unset, .unset, .unset, .unset, .unset, .unset, .unset]) (st := [(.int p3)]) (by rw [hml]; rfl) (lenOf pd_9 rfl) rfl (Nat.le_of_eq rfl) (hb hby at_13) (by decide) (by decide) all0
  obtain ⟨rfl, hW6⟩ := ev6 rfl
  obtain ⟨i3, x3, rfl, A3, L3, HS2⟩ := Q6
  have S6 : Go p e below A0 (T6.setTop (mkF m 16 #[.val (.int p1), .val (.int p2), .val (.int p3), .val (.int fl), .val (.int p5), .val (.int p6), .val (.ref i1), .val (.ref i2), .unset, .unset, .unset, .unset, .unset, .unset, .unset, .unset] [(.ref i3)])) := S5.trans G6
  have A1_6 := A1_4.keep KK6
  have A2_6 := A2.keep KK6
  have S7 : Go p e below A0 (T6.setTop (mkF m 18 #[.val (.int p1), .val (.int p2), .val (.int p3), .val (.int fl), .val (.int p5), .val (.int p6), .val (.ref i1), .val (.ref i2), .val (.ref i3), .unset, .unset, .unset, .unset, .unset, .unset, .unset] [])) := by
    refine S6.trans ?_
    refine (Own.P.astore K6.here K6.exec (l' := #[.val (.int p1), .val (.int p2), .val (.int p3), .val (.int fl), .val (.int p5), .val (.int p6), .val (.ref i1), .val (.ref i2), .val (.ref i3), .unset, .unset, .unset, .unset, .unset, .unset, .unset]) (hb hby at_16) rfl rfl).trans ?_
    exact Go.refl _
  obtain ⟨T8, h8, ta, K8, E8, g_ta, l_ta, ne_ta, X_ta, D_ta, G8⟩ := K6.newO (hw _ (List.mem_of_getElem? (i := 41) rfl)) (hw _ (List.mem_of_getElem? (i := 42) rfl)) (hw _ (List.mem_of_getElem? (i := 43) rfl)) (pc := 18) (Ls := #[.val (.int p1), .val (.int p2), .val (.int p3), .val (.int fl), .val (.int p5), .val (.int p6), .val (.ref i1), .val (.ref i2), .val (.ref i3), .unset, .unset, .unset, .unset, .unset, .unset, .unset]) (rest := []) (hb hby at_18) (by decide) (by decide)
  have S8 : Go p e below A0 (T8.setTop (mkF m 21 #[.val (.int p1), .val (.int p2), .val (.int p3), .val (.int fl), .val (.int p5), .val (.int p6), .val (.ref i1), .val (.ref i2), .val (.ref i3), .unset, .unset, .unset, .unset, .unset, .unset, .unset] [(.ref ta)])) := S7.trans G8
  have T0_ta := TcAt.new hw X_ta D_ta
  have H_ta := CHv.ext E8 HS2.2
  have A1_8 := A1_6.ext E8
  have A2_8 := A2_6.ext E8
  have A3_8 := A3.ext E8
  have S9 : Go p e below A0 (T8.setTop (mkF m 28 #[.val (.int p1), .val (.int p2), .val (.int p3), .val (.int fl), .val (.int p5), .val (.int p6), .val (.ref i1), .val (.ref i2), .val (.ref i3), .unset, .unset, .unset, .unset, .unset, .unset, .unset] [(.ref i3), (.ref i2), (.ref i1), (.ref ta), (.ref ta)])) := by
    refine S8.trans ?_
    refine (Own.P.dup K8.here K8.exec (hb hby at_21) rfl).trans ?_
    refine (Own.P.aload K8.here K8.exec (hb hby at_22) rfl rfl).trans ?_
    refine (Own.P.aload K8.here K8.exec (hb hby at_24) rfl rfl).trans ?_
    refine (Own.P.aload K8.here K8.exec (hb hby at_26) rfl rfl).trans ?_
    exact Go.refl _
  obtain ⟨v10, vm10, vq10, T10, h10, K10, KK10, ev10, Q10, G10⟩ := K8.callI (y := (⟨"com/example/orrery/orrery/llm/ToolCall", "<init>", "(Ljava/lang/String;Ljava/lang/String;Ljava/lang/String;)V"⟩ : MethodName)) rfl (hw _ (List.mem_of_getElem? (i := 44) rfl)) (hw _ (List.mem_of_getElem? (i := 45) rfl)) (hw _ (List.mem_of_getElem? (i := 46) rfl)) (by decide) (W := 1) (a := ta) (argsL := [(.ref i1), (.ref i2), (.ref i3)]) (rest := [(.ref ta)]) ((c_tinit l Z a0 hw n0 h8 (K8.old) ta i1 i2 i3 T0_ta A1_8.2.1 A2_8.2.1 A3_8.2.1 (K8.fresh (Or.inr g_ta))).pay (Own.HV.cl (own_ew hw)) (hw _ (List.mem_of_getElem? (i := 46) rfl)) (hw _ (List.mem_of_getElem? (i := 43) rfl)) (by decide) (by decide)) ⟨K8.warm, H_ta⟩ (pc := 28) (Ls := #[.val (.int p1), .val (.int p2), .val (.int p3), .val (.int fl), .val (.int p5), .val (.int p6), .val (.ref i1), .val (.ref i2), .val (.ref i3), .unset, .unset, .unset, .unset, .unset, .unset, .unset]) (st := [(.ref i3), (.ref i2), (.ref i1), (.ref ta), (.ref ta)]) (by rw [hml]; rfl) (lenOf pd_10 rfl) rfl (Nat.le_of_eq rfl) (hb hby at_28) (by decide) (by decide) (allS (Or.inr g_ta) all0)
  obtain ⟨rfl, hW10⟩ := ev10 rfl
  obtain ⟨rfl, TC_ta, HT_ta⟩ := Q10
  have S10 : Go p e below A0 (T10.setTop (mkF m 31 #[.val (.int p1), .val (.int p2), .val (.int p3), .val (.int fl), .val (.int p5), .val (.int p6), .val (.ref i1), .val (.ref i2), .val (.ref i3), .unset, .unset, .unset, .unset, .unset, .unset, .unset] [(.ref ta)])) := S9.trans G10
  have A1_10 := A1_8.keep1 KK10 T0_ta.1 (by decide) (hw _ (List.mem_of_getElem? (i := 42) rfl))
  have A2_10 := A2_8.keep1 KK10 T0_ta.1 (by decide) (hw _ (List.mem_of_getElem? (i := 42) rfl))
  have A3_10 := A3_8.keep1 KK10 T0_ta.1 (by decide) (hw _ (List.mem_of_getElem? (i := 42) rfl))
  have S11 : Go p e below A0 (T10.setTop (mkF m 43 #[.val (.int p1), .val (.int p2), .val (.int p3), .val (.int fl), .val (.int p5), .val (.int p6), .val (.ref i1), .val (.ref i2), .val (.ref i3), .val (.ref ta), .val (.int ((XT.ushr fl (3 : Int32)) &&& (3 : Int32))), .unset, .unset, .unset, .unset, .unset] [(.int (1 : Int32)), (.int ((XT.ushr fl (3 : Int32)) &&& (3 : Int32)))])) := by
    refine S10.trans ?_
    refine (Own.P.astore K10.here K10.exec (l' := #[.val (.int p1), .val (.int p2), .val (.int p3), .val (.int fl), .val (.int p5), .val (.int p6), .val (.ref i1), .val (.ref i2), .val (.ref i3), .val (.ref ta), .unset, .unset, .unset, .unset, .unset, .unset]) (hb hby at_31) rfl rfl).trans ?_
    refine (Own.P.iloadN K10.here K10.exec (hb hby at_33) rfl).trans ?_
    refine (Own.P.iconst K10.here K10.exec (3 : Int32) (hb hby at_34) rfl).trans ?_
    refine (Own.P.iushr K10.here K10.exec (hb hby at_35) ).trans ?_
    refine (Own.P.iconst K10.here K10.exec (3 : Int32) (hb hby at_36) rfl).trans ?_
    refine (Own.P.iand K10.here K10.exec (hb hby at_37) ).trans ?_
    refine (Own.P.istore K10.here K10.exec (l' := #[.val (.int p1), .val (.int p2), .val (.int p3), .val (.int fl), .val (.int p5), .val (.int p6), .val (.ref i1), .val (.ref i2), .val (.ref i3), .val (.ref ta), .val (.int ((XT.ushr fl (3 : Int32)) &&& (3 : Int32))), .unset, .unset, .unset, .unset, .unset]) (hb hby at_38) rfl).trans ?_
    refine (Own.P.iload K10.here K10.exec (hb hby at_40) rfl).trans ?_
    refine (Own.P.iconst K10.here K10.exec (1 : Int32) (hb hby at_42) rfl).trans ?_
    exact Go.refl _
  generalize XT.ushr fl 3 &&& 3 = kd at *
  by_cases k1 : kd = 1
  case pos =>
      have S12 : Go p e below A0 (T10.setTop (mkF m 49 #[.val (.int p1), .val (.int p2), .val (.int p3), .val (.int fl), .val (.int p5), .val (.int p6), .val (.ref i1), .val (.ref i2), .val (.ref i3), .val (.ref ta), .val (.int kd), .unset, .unset, .unset, .unset, .unset] [Value.null, (.ref ta)])) := by
        refine S11.trans ?_
        refine (Own.P.icmpNo K10.here K10.exec (hb hby at_43) (XT.ii_ne_f k1)).trans ?_
        refine (Own.P.aload K10.here K10.exec (hb hby at_46) rfl rfl).trans ?_
        refine (Own.P.null K10.here K10.exec (hb hby at_48) ).trans ?_
        exact Go.refl _
      obtain ⟨v13, vm13, vq13, T13, h13, K13, KK13, ev13, Q13, G13⟩ := K10.callV (C := "com/example/orrery/orrery/llm/ToolCall") (y := (⟨"com/example/orrery/orrery/llm/ToolCall", "equals", "(Ljava/lang/Object;)Z"⟩ : MethodName)) (z := (⟨"com/example/orrery/orrery/llm/ToolCall", "equals", "(Ljava/lang/Object;)Z"⟩ : MethodName)) (hw _ (List.mem_of_getElem? (i := 72) rfl)) (hw _ (List.mem_of_getElem? (i := 73) rfl)) (hw _ (List.mem_of_getElem? (i := 75) rfl)) (Or.inr (Or.inr rfl)) (hw _ (List.mem_of_getElem? (i := 74) rfl)) (by decide) (W := 0) TC_ta.1 (argsL := [Value.null]) (rest := []) ((c_teqN l Z a0 hw n0 h10 (K10.old) ta).payW Own.VT.cl (hw _ (List.mem_of_getElem? (i := 76) rfl)) (hw _ (List.mem_of_getElem? (i := 43) rfl)) (by decide) (by decide)) trivial (pc := 49) (Ls := #[.val (.int p1), .val (.int p2), .val (.int p3), .val (.int fl), .val (.int p5), .val (.int p6), .val (.ref i1), .val (.ref i2), .val (.ref i3), .val (.ref ta), .val (.int kd), .unset, .unset, .unset, .unset, .unset]) (st := [Value.null, (.ref ta)]) (by rw [hml]; rfl) (lenOf pd_8 rfl) rfl (Nat.le_of_eq rfl) (hb hby at_49) (by decide) (by decide) all0
      obtain ⟨rfl, hW13⟩ := ev13 rfl
      obtain ⟨⟨rfl, e13⟩, hv13⟩ := Q13
      have S13 : Go p e below A0 (T13.setTop (mkF m 52 #[.val (.int p1), .val (.int p2), .val (.int p3), .val (.int fl), .val (.int p5), .val (.int p6), .val (.ref i1), .val (.ref i2), .val (.ref i3), .val (.ref ta), .val (.int kd), .unset, .unset, .unset, .unset, .unset] [(.int (0 : Int32))])) := S12.trans G13
      subst e13
      have S14 : Go p e below A0 (T13.setTop (mkF m 60 #[.val (.int p1), .val (.int p2), .val (.int p3), .val (.int fl), .val (.int p5), .val (.int p6), .val (.ref i1), .val (.ref i2), .val (.ref i3), .val (.ref ta), .val (.int kd), .unset, .unset, .unset, .unset, .unset] [(.int (1 : Int32))])) := by
        refine S13.trans ?_
        refine (Own.P.ifNo K13.here K13.exec (hb hby at_52) (by decide)).trans ?_
        refine (Own.P.iconst K13.here K13.exec (1 : Int32) (hb hby at_55) rfl).trans ?_
        refine (Own.P.goto K13.here K13.exec 60 (hb hby at_56) (by decide) (by decide)).trans ?_
        exact Go.refl _
      exact ⟨vq13, T13, h13, (some (.int (1 : Int32))), _, _, K13, by decide, by decide, ⟨rfl, trivial⟩, K13.retW S14 hret rfl (Or.inl ⟨rfl, by decide, _, rfl⟩) (hb hby at_60)⟩
  case neg =>
      have S15 : Go p e below A0 (T10.setTop (mkF m 64 #[.val (.int p1), .val (.int p2), .val (.int p3), .val (.int fl), .val (.int p5), .val (.int p6), .val (.ref i1), .val (.ref i2), .val (.ref i3), .val (.ref ta), .val (.int kd), .unset, .unset, .unset, .unset, .unset] [(.int (2 : Int32)), (.int kd)])) := by
        refine S11.trans ?_
        refine (Own.P.icmpYes K10.here K10.exec 61 (hb hby at_43) (XT.ii_ne_t k1) (by decide) (by decide)).trans ?_
        refine (Own.P.iload K10.here K10.exec (hb hby at_61) rfl).trans ?_
        refine (Own.P.iconst K10.here K10.exec (2 : Int32) (hb hby at_63) rfl).trans ?_
        exact Go.refl _
      by_cases k2 : kd = 2
      case pos =>
          have S16 : Go p e below A0 (T10.setTop (mkF m 71 #[.val (.int p1), .val (.int p2), .val (.int p3), .val (.int fl), .val (.int p5), .val (.int p6), .val (.ref i1), .val (.ref i2), .val (.ref i3), .val (.ref ta), .val (.int kd), .unset, .unset, .unset, .unset, .unset] [(.ref i1), (.ref ta)])) := by
            refine S15.trans ?_
            refine (Own.P.icmpNo K10.here K10.exec (hb hby at_64) (XT.ii_ne_f k2)).trans ?_
            refine (Own.P.aload K10.here K10.exec (hb hby at_67) rfl rfl).trans ?_
            refine (Own.P.aload K10.here K10.exec (hb hby at_69) rfl rfl).trans ?_
            exact Go.refl _
          obtain ⟨v17, vm17, vq17, T17, h17, K17, KK17, ev17, Q17, G17⟩ := K10.callV (C := "com/example/orrery/orrery/llm/ToolCall") (y := (⟨"com/example/orrery/orrery/llm/ToolCall", "equals", "(Ljava/lang/Object;)Z"⟩ : MethodName)) (z := (⟨"com/example/orrery/orrery/llm/ToolCall", "equals", "(Ljava/lang/Object;)Z"⟩ : MethodName)) (hw _ (List.mem_of_getElem? (i := 72) rfl)) (hw _ (List.mem_of_getElem? (i := 73) rfl)) (hw _ (List.mem_of_getElem? (i := 75) rfl)) (Or.inr (Or.inr rfl)) (hw _ (List.mem_of_getElem? (i := 74) rfl)) (by decide) (W := 0) TC_ta.1 (argsL := [(.ref i1)]) (rest := []) ((c_teqS l Z a0 hw n0 h10 (K10.old) ta i1 A1_10.2.1).payW Own.VT.cl (hw _ (List.mem_of_getElem? (i := 76) rfl)) (hw _ (List.mem_of_getElem? (i := 43) rfl)) (by decide) (by decide)) trivial (pc := 71) (Ls := #[.val (.int p1), .val (.int p2), .val (.int p3), .val (.int fl), .val (.int p5), .val (.int p6), .val (.ref i1), .val (.ref i2), .val (.ref i3), .val (.ref ta), .val (.int kd), .unset, .unset, .unset, .unset, .unset]) (st := [(.ref i1), (.ref ta)]) (by rw [hml]; rfl) (lenOf pd_8 rfl) rfl (Nat.le_of_eq rfl) (hb hby at_71) (by decide) (by decide) all0
          obtain ⟨rfl, hW17⟩ := ev17 rfl
          obtain ⟨⟨rfl, e17⟩, hv17⟩ := Q17
          have S17 : Go p e below A0 (T17.setTop (mkF m 74 #[.val (.int p1), .val (.int p2), .val (.int p3), .val (.int fl), .val (.int p5), .val (.int p6), .val (.ref i1), .val (.ref i2), .val (.ref i3), .val (.ref ta), .val (.int kd), .unset, .unset, .unset, .unset, .unset] [(.int (0 : Int32))])) := S16.trans G17
          subst e17
          have S18 : Go p e below A0 (T17.setTop (mkF m 82 #[.val (.int p1), .val (.int p2), .val (.int p3), .val (.int fl), .val (.int p5), .val (.int p6), .val (.ref i1), .val (.ref i2), .val (.ref i3), .val (.ref ta), .val (.int kd), .unset, .unset, .unset, .unset, .unset] [(.int (1 : Int32))])) := by
            refine S17.trans ?_
            refine (Own.P.ifNo K17.here K17.exec (hb hby at_74) (by decide)).trans ?_
            refine (Own.P.iconst K17.here K17.exec (1 : Int32) (hb hby at_77) rfl).trans ?_
            refine (Own.P.goto K17.here K17.exec 82 (hb hby at_78) (by decide) (by decide)).trans ?_
            exact Go.refl _
          exact ⟨vq17, T17, h17, (some (.int (1 : Int32))), _, _, K17, by decide, by decide, ⟨rfl, trivial⟩, K17.retW S18 hret rfl (Or.inl ⟨rfl, by decide, _, rfl⟩) (hb hby at_82)⟩
      case neg =>
          have S19 : Go p e below A0 (T10.setTop (mkF m 86 #[.val (.int p1), .val (.int p2), .val (.int p3), .val (.int fl), .val (.int p5), .val (.int p6), .val (.ref i1), .val (.ref i2), .val (.ref i3), .val (.ref ta), .val (.int kd), .unset, .unset, .unset, .unset, .unset] [(.int (3 : Int32)), (.int kd)])) := by
            refine S15.trans ?_
            refine (Own.P.icmpYes K10.here K10.exec 83 (hb hby at_64) (XT.ii_ne_t k2) (by decide) (by decide)).trans ?_
            refine (Own.P.iload K10.here K10.exec (hb hby at_83) rfl).trans ?_
            refine (Own.P.iconst K10.here K10.exec (3 : Int32) (hb hby at_85) rfl).trans ?_
            exact Go.refl _
          by_cases k3 : kd = 3
          case pos =>
              have S20 : Go p e below A0 (T10.setTop (mkF m 93 #[.val (.int p1), .val (.int p2), .val (.int p3), .val (.int fl), .val (.int p5), .val (.int p6), .val (.ref i1), .val (.ref i2), .val (.ref i3), .val (.ref ta), .val (.int kd), .unset, .unset, .unset, .unset, .unset] [(.ref ta), (.ref ta)])) := by
                refine S19.trans ?_
                refine (Own.P.icmpNo K10.here K10.exec (hb hby at_86) (XT.ii_ne_f k3)).trans ?_
                refine (Own.P.aload K10.here K10.exec (hb hby at_89) rfl rfl).trans ?_
                refine (Own.P.aload K10.here K10.exec (hb hby at_91) rfl rfl).trans ?_
                exact Go.refl _
              obtain ⟨v21, vm21, vq21, T21, h21, K21, KK21, ev21, Q21, G21⟩ := K10.callV (C := "com/example/orrery/orrery/llm/ToolCall") (y := (⟨"com/example/orrery/orrery/llm/ToolCall", "equals", "(Ljava/lang/Object;)Z"⟩ : MethodName)) (z := (⟨"com/example/orrery/orrery/llm/ToolCall", "equals", "(Ljava/lang/Object;)Z"⟩ : MethodName)) (hw _ (List.mem_of_getElem? (i := 72) rfl)) (hw _ (List.mem_of_getElem? (i := 73) rfl)) (hw _ (List.mem_of_getElem? (i := 75) rfl)) (Or.inr (Or.inr rfl)) (hw _ (List.mem_of_getElem? (i := 74) rfl)) (by decide) (W := 0) TC_ta.1 (argsL := [(.ref ta)]) (rest := []) ((c_teq l Z a0 hw n0 h10 (K10.old) ta ta i1 i2 i3 i1 i2 i3 x1 x2 x3 x1 x2 x3 TC_ta TC_ta A1_10 L1 A2_10 L2 A3_10 L3 A1_10 L1 A2_10 L2 A3_10 L3 zc hzc SC).payW Own.VT.cl (hw _ (List.mem_of_getElem? (i := 76) rfl)) (hw _ (List.mem_of_getElem? (i := 43) rfl)) (by decide) (by decide)) trivial (pc := 93) (Ls := #[.val (.int p1), .val (.int p2), .val (.int p3), .val (.int fl), .val (.int p5), .val (.int p6), .val (.ref i1), .val (.ref i2), .val (.ref i3), .val (.ref ta), .val (.int kd), .unset, .unset, .unset, .unset, .unset]) (st := [(.ref ta), (.ref ta)]) (by rw [hml]; rfl) (lenOf pd_8 rfl) rfl (Nat.le_of_eq rfl) (hb hby at_93) (by decide) (by decide) all0
              obtain ⟨rfl, hW21⟩ := ev21 rfl
              obtain ⟨⟨rfl, e21⟩, hv21⟩ := Q21
              have S21 : Go p e below A0 (T21.setTop (mkF m 96 #[.val (.int p1), .val (.int p2), .val (.int p3), .val (.int fl), .val (.int p5), .val (.int p6), .val (.ref i1), .val (.ref i2), .val (.ref i3), .val (.ref ta), .val (.int kd), .unset, .unset, .unset, .unset, .unset] [(.int (own_tc x1 x2 x3 x1 x2 x3))])) := S20.trans G21
              subst e21
              rw [own_tc1 rfl rfl rfl] at S21
              exact ⟨vq21, T21, h21, (some (.int (1 : Int32))), _, _, K21, by decide, by decide, ⟨rfl, trivial⟩, K21.retW S21 hret rfl (Or.inl ⟨rfl, by decide, _, rfl⟩) (hb hby at_96)⟩
          case neg =>
              have S22 : Go p e below A0 (T10.setTop (mkF m 100 #[.val (.int p1), .val (.int p2), .val (.int p3), .val (.int fl), .val (.int p5), .val (.int p6), .val (.ref i1), .val (.ref i2), .val (.ref i3), .val (.ref ta), .val (.int kd), .unset, .unset, .unset, .unset, .unset] [(.int (fl &&& (1 : Int32)))])) := by
                refine S19.trans ?_
                refine (Own.P.icmpYes K10.here K10.exec 97 (hb hby at_86) (XT.ii_ne_t k3) (by decide) (by decide)).trans ?_
                refine (Own.P.iloadN K10.here K10.exec (hb hby at_97) rfl).trans ?_
                refine (Own.P.iconst K10.here K10.exec (1 : Int32) (hb hby at_98) rfl).trans ?_
                refine (Own.P.iand K10.here K10.exec (hb hby at_99) ).trans ?_
                exact Go.refl _
              obtain ⟨vmP0, TP0, hP0, i4, x4, KP0, A4, L4, HP0, KKP0, SP0⟩ : ∃ (vm' : Vm) (T' : State) (h' : Heap) (r : Nat) (cs : List Int32), Own.Wk true p l e room_1 s m #[(.int p1), (.int p2), (.int p3), (.int fl), (.int p5), (.int p6)] below meth c "com/example/orrery/orrery/llm/ToolCallEqualsPinLaw" Z n0 h0 [] vm' T' h' 23 107 ∧ StrIs Z h' r cs ∧ cs.length ≤ 4000 ∧ CHv Z consts_1 vm' h' ∧ Keep h10 h' [] ∧ Go p e below A0 (T'.setTop (mkF m 115 #[.val (.int p1), .val (.int p2), .val (.int p3), .val (.int fl), .val (.int p5), .val (.int p6), .val (.ref i1), .val (.ref i2), .val (.ref i3), .val (.ref ta), .val (.int kd), .unset, .unset, .unset, .unset, .unset] (.ref r :: []))) := by
                by_cases q : fl &&& 1 = 0
                case pos =>
                  have S23 : Go p e below A0 (T10.setTop (mkF m 112 #[.val (.int p1), .val (.int p2), .val (.int p3), .val (.int fl), .val (.int p5), .val (.int p6), .val (.ref i1), .val (.ref i2), .val (.ref i3), .val (.ref ta), .val (.int kd), .unset, .unset, .unset, .unset, .unset] [(.int p1)])) := by
                    refine S22.trans ?_
                    refine (Own.P.ifYes K10.here K10.exec 111 (hb hby at_100) (XT.i0_eq_t q) (by decide) (by decide)).trans ?_
                    refine (Own.P.iloadN K10.here K10.exec (hb hby at_111) rfl).trans ?_
                    exact Go.refl _
                  obtain ⟨v24, vm24, vq24, T24, h24, K24, KK24, ev24, Q24, G24⟩ := K10.callS (y := (⟨"com/example/orrery/orrery/llm/ToolCallEqualsPinLaw", "str", "(I)Ljava/lang/String;"⟩ : MethodName)) (hw _ (List.mem_of_getElem? (i := 0) rfl)) (hw _ (List.mem_of_getElem? (i := 1) rfl)) (hw _ (List.mem_of_getElem? (i := 2) rfl)) (hw _ (List.mem_of_getElem? (i := 3) rfl)) (by decide) (W := 0) (argsL := [(.int p1)]) (rest := []) ((c_str l Z a0 hw n0 h10 (K10.old) _ zc hzc SC).pay (Own.HV.cl (own_ew hw)) (hw _ (List.mem_of_getElem? (i := 3) rfl)) (hw _ (List.mem_of_getElem? (i := 2) rfl)) (by decide) (by decide)) ⟨K10.warm, HT_ta.2⟩ (pc := 112) (Ls := #[.val (.int p1), .val (.int p2), .val (.int p3), .val (.int fl), .val (.int p5), .val (.int p6), .val (.ref i1), .val (.ref i2), .val (.ref i3), .val (.ref ta), .val (.int kd), .unset, .unset, .unset, .unset, .unset]) (st := [(.int p1)]) (by rw [hml]; rfl) (lenOf pd_9 rfl) rfl (Nat.le_of_eq rfl) (hb hby at_112) (by decide) (by decide) all0
                  obtain ⟨rfl, hW24⟩ := ev24 rfl
                  obtain ⟨r, cs, rfl, A, L, HS⟩ := Q24
                  have S24 : Go p e below A0 (T24.setTop (mkF m 115 #[.val (.int p1), .val (.int p2), .val (.int p3), .val (.int fl), .val (.int p5), .val (.int p6), .val (.ref i1), .val (.ref i2), .val (.ref i3), .val (.ref ta), .val (.int kd), .unset, .unset, .unset, .unset, .unset] [(.ref r)])) := S23.trans G24
                  exact ⟨_, _, _, r, cs, K24, A, L, HS.2, KK24, S24⟩
                case neg =>
                  have S25 : Go p e below A0 (T10.setTop (mkF m 105 #[.val (.int p1), .val (.int p2), .val (.int p3), .val (.int fl), .val (.int p5), .val (.int p6), .val (.ref i1), .val (.ref i2), .val (.ref i3), .val (.ref ta), .val (.int kd), .unset, .unset, .unset, .unset, .unset] [(.int p5)])) := by
                    refine S22.trans ?_
                    refine (Own.P.ifNo K10.here K10.exec (hb hby at_100) (XT.i0_eq_f q)).trans ?_
                    refine (Own.P.iload K10.here K10.exec (hb hby at_103) rfl).trans ?_
                    exact Go.refl _
                  obtain ⟨v26, vm26, vq26, T26, h26, K26, KK26, ev26, Q26, G26⟩ := K10.callS (y := (⟨"com/example/orrery/orrery/llm/ToolCallEqualsPinLaw", "str", "(I)Ljava/lang/String;"⟩ : MethodName)) (hw _ (List.mem_of_getElem? (i := 0) rfl)) (hw _ (List.mem_of_getElem? (i := 1) rfl)) (hw _ (List.mem_of_getElem? (i := 2) rfl)) (hw _ (List.mem_of_getElem? (i := 3) rfl)) (by decide) (W := 0) (argsL := [(.int p5)]) (rest := []) ((c_str l Z a0 hw n0 h10 (K10.old) _ zc hzc SC).pay (Own.HV.cl (own_ew hw)) (hw _ (List.mem_of_getElem? (i := 3) rfl)) (hw _ (List.mem_of_getElem? (i := 2) rfl)) (by decide) (by decide)) ⟨K10.warm, HT_ta.2⟩ (pc := 105) (Ls := #[.val (.int p1), .val (.int p2), .val (.int p3), .val (.int fl), .val (.int p5), .val (.int p6), .val (.ref i1), .val (.ref i2), .val (.ref i3), .val (.ref ta), .val (.int kd), .unset, .unset, .unset, .unset, .unset]) (st := [(.int p5)]) (by rw [hml]; rfl) (lenOf pd_9 rfl) rfl (Nat.le_of_eq rfl) (hb hby at_105) (by decide) (by decide) all0
                  obtain ⟨rfl, hW26⟩ := ev26 rfl
                  obtain ⟨r, cs, rfl, A, L, HS⟩ := Q26
                  have S26 : Go p e below A0 (T26.setTop (mkF m 108 #[.val (.int p1), .val (.int p2), .val (.int p3), .val (.int fl), .val (.int p5), .val (.int p6), .val (.ref i1), .val (.ref i2), .val (.ref i3), .val (.ref ta), .val (.int kd), .unset, .unset, .unset, .unset, .unset] [(.ref r)])) := S25.trans G26
                  have S27 : Go p e below A0 (T26.setTop (mkF m 115 #[.val (.int p1), .val (.int p2), .val (.int p3), .val (.int fl), .val (.int p5), .val (.int p6), .val (.ref i1), .val (.ref i2), .val (.ref i3), .val (.ref ta), .val (.int kd), .unset, .unset, .unset, .unset, .unset] [(.ref r)])) := by
                    refine S26.trans ?_
                    refine (Own.P.goto K26.here K26.exec 115 (hb hby at_108) (by decide) (by decide)).trans ?_
                    exact Go.refl _
                  exact ⟨_, _, _, r, cs, K26, A, L, HS.2, KK26, S27⟩
              have A1_P0 := A1_10.keep KKP0
              have A2_P0 := A2_10.keep KKP0
              have A3_P0 := A3_10.keep KKP0
              have TC_ta0 := TC_ta.keep KKP0 nin0
              have S28 : Go p e below A0 (TP0.setTop (mkF m 120 #[.val (.int p1), .val (.int p2), .val (.int p3), .val (.int fl), .val (.int p5), .val (.int p6), .val (.ref i1), .val (.ref i2), .val (.ref i3), .val (.ref ta), .val (.int kd), .val (.ref i4), .unset, .unset, .unset, .unset] [(.int (fl &&& (2 : Int32)))])) := by
                refine SP0.trans ?_
                refine (Own.P.astore KP0.here KP0.exec (l' := #[.val (.int p1), .val (.int p2), .val (.int p3), .val (.int fl), .val (.int p5), .val (.int p6), .val (.ref i1), .val (.ref i2), .val (.ref i3), .val (.ref ta), .val (.int kd), .val (.ref i4), .unset, .unset, .unset, .unset]) (hb hby at_115) rfl rfl).trans ?_
                refine (Own.P.iloadN KP0.here KP0.exec (hb hby at_117) rfl).trans ?_
                refine (Own.P.iconst KP0.here KP0.exec (2 : Int32) (hb hby at_118) rfl).trans ?_
                refine (Own.P.iand KP0.here KP0.exec (hb hby at_119) ).trans ?_
                exact Go.refl _
              obtain ⟨vmP1, TP1, hP1, i5, x5, KP1, A5, L5, HP1, KKP1, SP1⟩ : ∃ (vm' : Vm) (T' : State) (h' : Heap) (r : Nat) (cs : List Int32), Own.Wk true p l e room_1 s m #[(.int p1), (.int p2), (.int p3), (.int fl), (.int p5), (.int p6)] below meth c "com/example/orrery/orrery/llm/ToolCallEqualsPinLaw" Z n0 h0 [] vm' T' h' 27 115 ∧ StrIs Z h' r cs ∧ cs.length ≤ 4000 ∧ CHv Z consts_1 vm' h' ∧ Keep hP0 h' [] ∧ Go p e below A0 (T'.setTop (mkF m 135 #[.val (.int p1), .val (.int p2), .val (.int p3), .val (.int fl), .val (.int p5), .val (.int p6), .val (.ref i1), .val (.ref i2), .val (.ref i3), .val (.ref ta), .val (.int kd), .val (.ref i4), .unset, .unset, .unset, .unset] (.ref r :: []))) := by
                by_cases q : fl &&& 2 = 0
                case pos =>
                  have S29 : Go p e below A0 (TP0.setTop (mkF m 132 #[.val (.int p1), .val (.int p2), .val (.int p3), .val (.int fl), .val (.int p5), .val (.int p6), .val (.ref i1), .val (.ref i2), .val (.ref i3), .val (.ref ta), .val (.int kd), .val (.ref i4), .unset, .unset, .unset, .unset] [(.int p2)])) := by
                    refine S28.trans ?_
                    refine (Own.P.ifYes KP0.here KP0.exec 131 (hb hby at_120) (XT.i0_eq_t q) (by decide) (by decide)).trans ?_
                    refine (Own.P.iloadN KP0.here KP0.exec (hb hby at_131) rfl).trans ?_
                    exact Go.refl _
                  obtain ⟨v30, vm30, vq30, T30, h30, K30, KK30, ev30, Q30, G30⟩ := KP0.callS (y := (⟨"com/example/orrery/orrery/llm/ToolCallEqualsPinLaw", "str", "(I)Ljava/lang/String;"⟩ : MethodName)) (hw _ (List.mem_of_getElem? (i := 0) rfl)) (hw _ (List.mem_of_getElem? (i := 1) rfl)) (hw _ (List.mem_of_getElem? (i := 2) rfl)) (hw _ (List.mem_of_getElem? (i := 3) rfl)) (by decide) (W := 0) (argsL := [(.int p2)]) (rest := []) ((c_str l Z a0 hw n0 hP0 (KP0.old) _ zc hzc SC).pay (Own.HV.cl (own_ew hw)) (hw _ (List.mem_of_getElem? (i := 3) rfl)) (hw _ (List.mem_of_getElem? (i := 2) rfl)) (by decide) (by decide)) ⟨KP0.warm, HP0⟩ (pc := 132) (Ls := #[.val (.int p1), .val (.int p2), .val (.int p3), .val (.int fl), .val (.int p5), .val (.int p6), .val (.ref i1), .val (.ref i2), .val (.ref i3), .val (.ref ta), .val (.int kd), .val (.ref i4), .unset, .unset, .unset, .unset]) (st := [(.int p2)]) (by rw [hml]; rfl) (lenOf pd_9 rfl) rfl (Nat.le_of_eq rfl) (hb hby at_132) (by decide) (by decide) all0
                  obtain ⟨rfl, hW30⟩ := ev30 rfl
                  obtain ⟨r, cs, rfl, A, L, HS⟩ := Q30
                  have S30 : Go p e below A0 (T30.setTop (mkF m 135 #[.val (.int p1), .val (.int p2), .val (.int p3), .val (.int fl), .val (.int p5), .val (.int p6), .val (.ref i1), .val (.ref i2), .val (.ref i3), .val (.ref ta), .val (.int kd), .val (.ref i4), .unset, .unset, .unset, .unset] [(.ref r)])) := S29.trans G30
                  exact ⟨_, _, _, r, cs, K30, A, L, HS.2, KK30, S30⟩
                case neg =>
                  have S31 : Go p e below A0 (TP0.setTop (mkF m 125 #[.val (.int p1), .val (.int p2), .val (.int p3), .val (.int fl), .val (.int p5), .val (.int p6), .val (.ref i1), .val (.ref i2), .val (.ref i3), .val (.ref ta), .val (.int kd), .val (.ref i4), .unset, .unset, .unset, .unset] [(.int p6)])) := by
                    refine S28.trans ?_
                    refine (Own.P.ifNo KP0.here KP0.exec (hb hby at_120) (XT.i0_eq_f q)).trans ?_
                    refine (Own.P.iload KP0.here KP0.exec (hb hby at_123) rfl).trans ?_
                    exact Go.refl _
                  obtain ⟨v32, vm32, vq32, T32, h32, K32, KK32, ev32, Q32, G32⟩ := KP0.callS (y := (⟨"com/example/orrery/orrery/llm/ToolCallEqualsPinLaw", "str", "(I)Ljava/lang/String;"⟩ : MethodName)) (hw _ (List.mem_of_getElem? (i := 0) rfl)) (hw _ (List.mem_of_getElem? (i := 1) rfl)) (hw _ (List.mem_of_getElem? (i := 2) rfl)) (hw _ (List.mem_of_getElem? (i := 3) rfl)) (by decide) (W := 0) (argsL := [(.int p6)]) (rest := []) ((c_str l Z a0 hw n0 hP0 (KP0.old) _ zc hzc SC).pay (Own.HV.cl (own_ew hw)) (hw _ (List.mem_of_getElem? (i := 3) rfl)) (hw _ (List.mem_of_getElem? (i := 2) rfl)) (by decide) (by decide)) ⟨KP0.warm, HP0⟩ (pc := 125) (Ls := #[.val (.int p1), .val (.int p2), .val (.int p3), .val (.int fl), .val (.int p5), .val (.int p6), .val (.ref i1), .val (.ref i2), .val (.ref i3), .val (.ref ta), .val (.int kd), .val (.ref i4), .unset, .unset, .unset, .unset]) (st := [(.int p6)]) (by rw [hml]; rfl) (lenOf pd_9 rfl) rfl (Nat.le_of_eq rfl) (hb hby at_125) (by decide) (by decide) all0
                  obtain ⟨rfl, hW32⟩ := ev32 rfl
                  obtain ⟨r, cs, rfl, A, L, HS⟩ := Q32
                  have S32 : Go p e below A0 (T32.setTop (mkF m 128 #[.val (.int p1), .val (.int p2), .val (.int p3), .val (.int fl), .val (.int p5), .val (.int p6), .val (.ref i1), .val (.ref i2), .val (.ref i3), .val (.ref ta), .val (.int kd), .val (.ref i4), .unset, .unset, .unset, .unset] [(.ref r)])) := S31.trans G32
                  have S33 : Go p e below A0 (T32.setTop (mkF m 135 #[.val (.int p1), .val (.int p2), .val (.int p3), .val (.int fl), .val (.int p5), .val (.int p6), .val (.ref i1), .val (.ref i2), .val (.ref i3), .val (.ref ta), .val (.int kd), .val (.ref i4), .unset, .unset, .unset, .unset] [(.ref r)])) := by
                    refine S32.trans ?_
                    refine (Own.P.goto K32.here K32.exec 135 (hb hby at_128) (by decide) (by decide)).trans ?_
                    exact Go.refl _
                  exact ⟨_, _, _, r, cs, K32, A, L, HS.2, KK32, S33⟩
              have A1_P1 := A1_P0.keep KKP1
              have A2_P1 := A2_P0.keep KKP1
              have A3_P1 := A3_P0.keep KKP1
              have A4_P1 := A4.keep KKP1
              have TC_ta1 := TC_ta0.keep KKP1 nin0
              have S34 : Go p e below A0 (TP1.setTop (mkF m 140 #[.val (.int p1), .val (.int p2), .val (.int p3), .val (.int fl), .val (.int p5), .val (.int p6), .val (.ref i1), .val (.ref i2), .val (.ref i3), .val (.ref ta), .val (.int kd), .val (.ref i4), .val (.ref i5), .unset, .unset, .unset] [(.int (fl &&& (4 : Int32)))])) := by
                refine SP1.trans ?_
                refine (Own.P.astore KP1.here KP1.exec (l' := #[.val (.int p1), .val (.int p2), .val (.int p3), .val (.int fl), .val (.int p5), .val (.int p6), .val (.ref i1), .val (.ref i2), .val (.ref i3), .val (.ref ta), .val (.int kd), .val (.ref i4), .val (.ref i5), .unset, .unset, .unset]) (hb hby at_135) rfl rfl).trans ?_
                refine (Own.P.iloadN KP1.here KP1.exec (hb hby at_137) rfl).trans ?_
                refine (Own.P.iconst KP1.here KP1.exec (4 : Int32) (hb hby at_138) rfl).trans ?_
                refine (Own.P.iand KP1.here KP1.exec (hb hby at_139) ).trans ?_
                exact Go.refl _
              obtain ⟨vmP2, TP2, hP2, i6, x6, KP2, A6, L6, HP2, KKP2, SP2⟩ : ∃ (vm' : Vm) (T' : State) (h' : Heap) (r : Nat) (cs : List Int32), Own.Wk true p l e room_1 s m #[(.int p1), (.int p2), (.int p3), (.int fl), (.int p5), (.int p6)] below meth c "com/example/orrery/orrery/llm/ToolCallEqualsPinLaw" Z n0 h0 [] vm' T' h' 31 123 ∧ StrIs Z h' r cs ∧ cs.length ≤ 4000 ∧ CHv Z consts_1 vm' h' ∧ Keep hP1 h' [] ∧ Go p e below A0 (T'.setTop (mkF m 158 #[.val (.int p1), .val (.int p2), .val (.int p3), .val (.int fl), .val (.int p5), .val (.int p6), .val (.ref i1), .val (.ref i2), .val (.ref i3), .val (.ref ta), .val (.int kd), .val (.ref i4), .val (.ref i5), .unset, .unset, .unset] (.ref r :: []))) := by
                by_cases q : fl &&& 4 = 0
                case pos =>
                  have S35 : Go p e below A0 (TP1.setTop (mkF m 155 #[.val (.int p1), .val (.int p2), .val (.int p3), .val (.int fl), .val (.int p5), .val (.int p6), .val (.ref i1), .val (.ref i2), .val (.ref i3), .val (.ref ta), .val (.int kd), .val (.ref i4), .val (.ref i5), .unset, .unset, .unset] [(.int p3)])) := by
                    refine S34.trans ?_
                    refine (Own.P.ifYes KP1.here KP1.exec 154 (hb hby at_140) (XT.i0_eq_t q) (by decide) (by decide)).trans ?_
                    refine (Own.P.iloadN KP1.here KP1.exec (hb hby at_154) rfl).trans ?_
                    exact Go.refl _
                  obtain ⟨v36, vm36, vq36, T36, h36, K36, KK36, ev36, Q36, G36⟩ := KP1.callS (y := (⟨"com/example/orrery/orrery/llm/ToolCallEqualsPinLaw", "str", "(I)Ljava/lang/String;"⟩ : MethodName)) (hw _ (List.mem_of_getElem? (i := 0) rfl)) (hw _ (List.mem_of_getElem? (i := 1) rfl)) (hw _ (List.mem_of_getElem? (i := 2) rfl)) (hw _ (List.mem_of_getElem? (i := 3) rfl)) (by decide) (W := 0) (argsL := [(.int p3)]) (rest := []) ((c_str l Z a0 hw n0 hP1 (KP1.old) _ zc hzc SC).pay (Own.HV.cl (own_ew hw)) (hw _ (List.mem_of_getElem? (i := 3) rfl)) (hw _ (List.mem_of_getElem? (i := 2) rfl)) (by decide) (by decide)) ⟨KP1.warm, HP1⟩ (pc := 155) (Ls := #[.val (.int p1), .val (.int p2), .val (.int p3), .val (.int fl), .val (.int p5), .val (.int p6), .val (.ref i1), .val (.ref i2), .val (.ref i3), .val (.ref ta), .val (.int kd), .val (.ref i4), .val (.ref i5), .unset, .unset, .unset]) (st := [(.int p3)]) (by rw [hml]; rfl) (lenOf pd_9 rfl) rfl (Nat.le_of_eq rfl) (hb hby at_155) (by decide) (by decide) all0
                  obtain ⟨rfl, hW36⟩ := ev36 rfl
                  obtain ⟨r, cs, rfl, A, L, HS⟩ := Q36
                  have S36 : Go p e below A0 (T36.setTop (mkF m 158 #[.val (.int p1), .val (.int p2), .val (.int p3), .val (.int fl), .val (.int p5), .val (.int p6), .val (.ref i1), .val (.ref i2), .val (.ref i3), .val (.ref ta), .val (.int kd), .val (.ref i4), .val (.ref i5), .unset, .unset, .unset] [(.ref r)])) := S35.trans G36
                  exact ⟨_, _, _, r, cs, K36, A, L, HS.2, KK36, S36⟩
                case neg =>
                  have S37 : Go p e below A0 (TP1.setTop (mkF m 148 #[.val (.int p1), .val (.int p2), .val (.int p3), .val (.int fl), .val (.int p5), .val (.int p6), .val (.ref i1), .val (.ref i2), .val (.ref i3), .val (.ref ta), .val (.int kd), .val (.ref i4), .val (.ref i5), .unset, .unset, .unset] [(.int (p5 ^^^ p6))])) := by
                    refine S34.trans ?_
                    refine (Own.P.ifNo KP1.here KP1.exec (hb hby at_140) (XT.i0_eq_f q)).trans ?_
                    refine (Own.P.iload KP1.here KP1.exec (hb hby at_143) rfl).trans ?_
                    refine (Own.P.iload KP1.here KP1.exec (hb hby at_145) rfl).trans ?_
                    refine (Own.P.ixor KP1.here KP1.exec (hb hby at_147) ).trans ?_
                    exact Go.refl _
                  obtain ⟨v38, vm38, vq38, T38, h38, K38, KK38, ev38, Q38, G38⟩ := KP1.callS (y := (⟨"com/example/orrery/orrery/llm/ToolCallEqualsPinLaw", "str", "(I)Ljava/lang/String;"⟩ : MethodName)) (hw _ (List.mem_of_getElem? (i := 0) rfl)) (hw _ (List.mem_of_getElem? (i := 1) rfl)) (hw _ (List.mem_of_getElem? (i := 2) rfl)) (hw _ (List.mem_of_getElem? (i := 3) rfl)) (by decide) (W := 0) (argsL := [(.int (p5 ^^^ p6))]) (rest := []) ((c_str l Z a0 hw n0 hP1 (KP1.old) _ zc hzc SC).pay (Own.HV.cl (own_ew hw)) (hw _ (List.mem_of_getElem? (i := 3) rfl)) (hw _ (List.mem_of_getElem? (i := 2) rfl)) (by decide) (by decide)) ⟨KP1.warm, HP1⟩ (pc := 148) (Ls := #[.val (.int p1), .val (.int p2), .val (.int p3), .val (.int fl), .val (.int p5), .val (.int p6), .val (.ref i1), .val (.ref i2), .val (.ref i3), .val (.ref ta), .val (.int kd), .val (.ref i4), .val (.ref i5), .unset, .unset, .unset]) (st := [(.int (p5 ^^^ p6))]) (by rw [hml]; rfl) (lenOf pd_9 rfl) rfl (Nat.le_of_eq rfl) (hb hby at_148) (by decide) (by decide) all0
                  obtain ⟨rfl, hW38⟩ := ev38 rfl
                  obtain ⟨r, cs, rfl, A, L, HS⟩ := Q38
                  have S38 : Go p e below A0 (T38.setTop (mkF m 151 #[.val (.int p1), .val (.int p2), .val (.int p3), .val (.int fl), .val (.int p5), .val (.int p6), .val (.ref i1), .val (.ref i2), .val (.ref i3), .val (.ref ta), .val (.int kd), .val (.ref i4), .val (.ref i5), .unset, .unset, .unset] [(.ref r)])) := S37.trans G38
                  have S39 : Go p e below A0 (T38.setTop (mkF m 158 #[.val (.int p1), .val (.int p2), .val (.int p3), .val (.int fl), .val (.int p5), .val (.int p6), .val (.ref i1), .val (.ref i2), .val (.ref i3), .val (.ref ta), .val (.int kd), .val (.ref i4), .val (.ref i5), .unset, .unset, .unset] [(.ref r)])) := by
                    refine S38.trans ?_
                    refine (Own.P.goto K38.here K38.exec 158 (hb hby at_151) (by decide) (by decide)).trans ?_
                    exact Go.refl _
                  exact ⟨_, _, _, r, cs, K38, A, L, HS.2, KK38, S39⟩
              have A1_P2 := A1_P1.keep KKP2
              have A2_P2 := A2_P1.keep KKP2
              have A3_P2 := A3_P1.keep KKP2
              have A4_P2 := A4_P1.keep KKP2
              have A5_P2 := A5.keep KKP2
              have TC_ta2 := TC_ta1.keep KKP2 nin0
              have TCa := TC_ta2
              have S40 : Go p e below A0 (TP2.setTop (mkF m 160 #[.val (.int p1), .val (.int p2), .val (.int p3), .val (.int fl), .val (.int p5), .val (.int p6), .val (.ref i1), .val (.ref i2), .val (.ref i3), .val (.ref ta), .val (.int kd), .val (.ref i4), .val (.ref i5), .val (.ref i6), .unset, .unset] [])) := by
                refine SP2.trans ?_
                refine (Own.P.astore KP2.here KP2.exec (l' := #[.val (.int p1), .val (.int p2), .val (.int p3), .val (.int fl), .val (.int p5), .val (.int p6), .val (.ref i1), .val (.ref i2), .val (.ref i3), .val (.ref ta), .val (.int kd), .val (.ref i4), .val (.ref i5), .val (.ref i6), .unset, .unset]) (hb hby at_158) rfl rfl).trans ?_
                exact Go.refl _
              obtain ⟨T41, h41, tb, K41, E41, g_tb, l_tb, ne_tb, X_tb, D_tb, G41⟩ := KP2.newO (hw _ (List.mem_of_getElem? (i := 41) rfl)) (hw _ (List.mem_of_getElem? (i := 42) rfl)) (hw _ (List.mem_of_getElem? (i := 43) rfl)) (pc := 160) (Ls := #[.val (.int p1), .val (.int p2), .val (.int p3), .val (.int fl), .val (.int p5), .val (.int p6), .val (.ref i1), .val (.ref i2), .val (.ref i3), .val (.ref ta), .val (.int kd), .val (.ref i4), .val (.ref i5), .val (.ref i6), .unset, .unset]) (rest := []) (hb hby at_160) (by decide) (by decide)
              have S41 : Go p e below A0 (T41.setTop (mkF m 163 #[.val (.int p1), .val (.int p2), .val (.int p3), .val (.int fl), .val (.int p5), .val (.int p6), .val (.ref i1), .val (.ref i2), .val (.ref i3), .val (.ref ta), .val (.int kd), .val (.ref i4), .val (.ref i5), .val (.ref i6), .unset, .unset] [(.ref tb)])) := S40.trans G41
              have T0_tb := TcAt.new hw X_tb D_tb
              have H_tb := CHv.ext E41 HP2
              have A1_41 := A1_P2.ext E41
              have A2_41 := A2_P2.ext E41
              have A3_41 := A3_P2.ext E41
              have A4_41 := A4_P2.ext E41
              have A5_41 := A5_P2.ext E41
              have A6_41 := A6.ext E41
              have TCa_41 := TCa.ext E41
              have S42 : Go p e below A0 (T41.setTop (mkF m 170 #[.val (.int p1), .val (.int p2), .val (.int p3), .val (.int fl), .val (.int p5), .val (.int p6), .val (.ref i1), .val (.ref i2), .val (.ref i3), .val (.ref ta), .val (.int kd), .val (.ref i4), .val (.ref i5), .val (.ref i6), .unset, .unset] [(.ref i6), (.ref i5), (.ref i4), (.ref tb), (.ref tb)])) := by
                refine S41.trans ?_
                refine (Own.P.dup K41.here K41.exec (hb hby at_163) rfl).trans ?_
                refine (Own.P.aload K41.here K41.exec (hb hby at_164) rfl rfl).trans ?_
                refine (Own.P.aload K41.here K41.exec (hb hby at_166) rfl rfl).trans ?_
                refine (Own.P.aload K41.here K41.exec (hb hby at_168) rfl rfl).trans ?_
                exact Go.refl _
              obtain ⟨v43, vm43, vq43, T43, h43, K43, KK43, ev43, Q43, G43⟩ := K41.callI (y := (⟨"com/example/orrery/orrery/llm/ToolCall", "<init>", "(Ljava/lang/String;Ljava/lang/String;Ljava/lang/String;)V"⟩ : MethodName)) rfl (hw _ (List.mem_of_getElem? (i := 44) rfl)) (hw _ (List.mem_of_getElem? (i := 45) rfl)) (hw _ (List.mem_of_getElem? (i := 46) rfl)) (by decide) (W := 1) (a := tb) (argsL := [(.ref i4), (.ref i5), (.ref i6)]) (rest := [(.ref tb)]) ((c_tinit l Z a0 hw n0 h41 (K41.old) tb i4 i5 i6 T0_tb A4_41.2.1 A5_41.2.1 A6_41.2.1 (K41.fresh (Or.inr g_tb))).pay (Own.HV.cl (own_ew hw)) (hw _ (List.mem_of_getElem? (i := 46) rfl)) (hw _ (List.mem_of_getElem? (i := 43) rfl)) (by decide) (by decide)) ⟨K41.warm, H_tb⟩ (pc := 170) (Ls := #[.val (.int p1), .val (.int p2), .val (.int p3), .val (.int fl), .val (.int p5), .val (.int p6), .val (.ref i1), .val (.ref i2), .val (.ref i3), .val (.ref ta), .val (.int kd), .val (.ref i4), .val (.ref i5), .val (.ref i6), .unset, .unset]) (st := [(.ref i6), (.ref i5), (.ref i4), (.ref tb), (.ref tb)]) (by rw [hml]; rfl) (lenOf pd_10 rfl) rfl (Nat.le_of_eq rfl) (hb hby at_170) (by decide) (by decide) (allS (Or.inr g_tb) all0)
              obtain ⟨rfl, hW43⟩ := ev43 rfl
              obtain ⟨rfl, TC_tb, HT_tb⟩ := Q43
              have S43 : Go p e below A0 (T43.setTop (mkF m 173 #[.val (.int p1), .val (.int p2), .val (.int p3), .val (.int fl), .val (.int p5), .val (.int p6), .val (.ref i1), .val (.ref i2), .val (.ref i3), .val (.ref ta), .val (.int kd), .val (.ref i4), .val (.ref i5), .val (.ref i6), .unset, .unset] [(.ref tb)])) := S42.trans G43
              have A1_43 := A1_41.keep1 KK43 T0_tb.1 (by decide) (hw _ (List.mem_of_getElem? (i := 42) rfl))
              have A2_43 := A2_41.keep1 KK43 T0_tb.1 (by decide) (hw _ (List.mem_of_getElem? (i := 42) rfl))
              have A3_43 := A3_41.keep1 KK43 T0_tb.1 (by decide) (hw _ (List.mem_of_getElem? (i := 42) rfl))
              have A4_43 := A4_41.keep1 KK43 T0_tb.1 (by decide) (hw _ (List.mem_of_getElem? (i := 42) rfl))
              have A5_43 := A5_41.keep1 KK43 T0_tb.1 (by decide) (hw _ (List.mem_of_getElem? (i := 42) rfl))
              have A6_43 := A6_41.keep1 KK43 T0_tb.1 (by decide) (hw _ (List.mem_of_getElem? (i := 42) rfl))
              have TCf := TCa_41.keep KK43 (ninS (ne_tb _ TCa.1.lt) nin0)
              have S44 : Go p e below A0 (T43.setTop (mkF m 179 #[.val (.int p1), .val (.int p2), .val (.int p3), .val (.int fl), .val (.int p5), .val (.int p6), .val (.ref i1), .val (.ref i2), .val (.ref i3), .val (.ref ta), .val (.int kd), .val (.ref i4), .val (.ref i5), .val (.ref i6), .val (.ref tb), .unset] [(.ref i4), (.ref i1)])) := by
                refine S43.trans ?_
                refine (Own.P.astore K43.here K43.exec (l' := #[.val (.int p1), .val (.int p2), .val (.int p3), .val (.int fl), .val (.int p5), .val (.int p6), .val (.ref i1), .val (.ref i2), .val (.ref i3), .val (.ref ta), .val (.int kd), .val (.ref i4), .val (.ref i5), .val (.ref i6), .val (.ref tb), .unset]) (hb hby at_173) rfl rfl).trans ?_
                refine (Own.P.aload K43.here K43.exec (hb hby at_175) rfl rfl).trans ?_
                refine (Own.P.aload K43.here K43.exec (hb hby at_177) rfl rfl).trans ?_
                exact Go.refl _
              obtain ⟨vmE, TE, KE, SE⟩ : ∃ (vm' : Vm) (T' : State), Own.Wk true p l e room_1 s m #[(.int p1), (.int p2), (.int p3), (.int fl), (.int p5), (.int p6)] below meth c "com/example/orrery/orrery/llm/ToolCallEqualsPinLaw" Z n0 h0 [] vm' T' h43 38 198 ∧ Go p e below A0 (T'.setTop (mkF m 210 #[.val (.int p1), .val (.int p2), .val (.int p3), .val (.int fl), .val (.int p5), .val (.int p6), .val (.ref i1), .val (.ref i2), .val (.ref i3), .val (.ref ta), .val (.int kd), .val (.ref i4), .val (.ref i5), .val (.ref i6), .val (.ref tb), .unset] [(.int (own_tc x1 x2 x3 x4 x5 x6))])) := by
                obtain ⟨v45, vm45, vq45, T45, h45, K45, KK45, ev45, Q45, G45⟩ := K43.callV (C := "java/lang/String") (y := (⟨"java/lang/String", "equals", "(Ljava/lang/Object;)Z"⟩ : MethodName)) (z := (⟨"java/lang/String", "equals", "(Ljava/lang/Object;)Z"⟩ : MethodName)) (hw _ (List.mem_of_getElem? (i := 62) rfl)) (hw _ (List.mem_of_getElem? (i := 63) rfl)) (hw _ (List.mem_of_getElem? (i := 65) rfl)) (Or.inr (Or.inr rfl)) (hw _ (List.mem_of_getElem? (i := 64) rfl)) (by decide) (W := 0) A1_43.2.1 (argsL := [(.ref i4)]) (rest := []) (Own.payEq (W := 0) hw Own.VT.cl (hw _ (List.mem_of_getElem? (i := 9) rfl)) K43.old A1_43 L1 A4_43 L4 SC hzc (by decide) (by decide)) trivial (pc := 179) (Ls := #[.val (.int p1), .val (.int p2), .val (.int p3), .val (.int fl), .val (.int p5), .val (.int p6), .val (.ref i1), .val (.ref i2), .val (.ref i3), .val (.ref ta), .val (.int kd), .val (.ref i4), .val (.ref i5), .val (.ref i6), .val (.ref tb), .unset]) (st := [(.ref i4), (.ref i1)]) (by rw [hml]; rfl) (lenOf pd_8 rfl) rfl (Nat.le_of_eq rfl) (hb hby at_179) (by decide) (by decide) all0
                obtain ⟨rfl, hW45⟩ := ev45 rfl
                obtain ⟨⟨rfl, e45⟩, -⟩ := Q45
                have S45 : Go p e below A0 (T45.setTop (mkF m 182 #[.val (.int p1), .val (.int p2), .val (.int p3), .val (.int fl), .val (.int p5), .val (.int p6), .val (.ref i1), .val (.ref i2), .val (.ref i3), .val (.ref ta), .val (.int kd), .val (.ref i4), .val (.ref i5), .val (.ref i6), .val (.ref tb), .unset] [(.int (own_seq x1 x4))])) := S44.trans G45
                subst e45
                by_cases q0 : x1 = x4
                case neg =>
                    rw [own_seq0 q0] at S45
                    have S46 : Go p e below A0 (T45.setTop (mkF m 210 #[.val (.int p1), .val (.int p2), .val (.int p3), .val (.int fl), .val (.int p5), .val (.int p6), .val (.ref i1), .val (.ref i2), .val (.ref i3), .val (.ref ta), .val (.int kd), .val (.ref i4), .val (.ref i5), .val (.ref i6), .val (.ref tb), .unset] [(.int (0 : Int32))])) := by
                      refine S45.trans ?_
                      refine (Own.P.ifYes K45.here K45.exec 209 (hb hby at_182) (by decide) (by decide) (by decide)).trans ?_
                      refine (Own.P.iconst K45.here K45.exec (0 : Int32) (hb hby at_209) rfl).trans ?_
                      exact Go.refl _
                    rw [own_tcA q0]; exact ⟨_, _, K45, S46⟩
                case pos =>
                    rw [own_seq1 q0] at S45
                    have S47 : Go p e below A0 (T45.setTop (mkF m 189 #[.val (.int p1), .val (.int p2), .val (.int p3), .val (.int fl), .val (.int p5), .val (.int p6), .val (.ref i1), .val (.ref i2), .val (.ref i3), .val (.ref ta), .val (.int kd), .val (.ref i4), .val (.ref i5), .val (.ref i6), .val (.ref tb), .unset] [(.ref i5), (.ref i2)])) := by
                      refine S45.trans ?_
                      refine (Own.P.ifNo K45.here K45.exec (hb hby at_182) (by decide)).trans ?_
                      refine (Own.P.aload K45.here K45.exec (hb hby at_185) rfl rfl).trans ?_
                      refine (Own.P.aload K45.here K45.exec (hb hby at_187) rfl rfl).trans ?_
                      exact Go.refl _
                    obtain ⟨v48, vm48, vq48, T48, h48, K48, KK48, ev48, Q48, G48⟩ := K45.callV (C := "java/lang/String") (y := (⟨"java/lang/String", "equals", "(Ljava/lang/Object;)Z"⟩ : MethodName)) (z := (⟨"java/lang/String", "equals", "(Ljava/lang/Object;)Z"⟩ : MethodName)) (hw _ (List.mem_of_getElem? (i := 62) rfl)) (hw _ (List.mem_of_getElem? (i := 63) rfl)) (hw _ (List.mem_of_getElem? (i := 65) rfl)) (Or.inr (Or.inr rfl)) (hw _ (List.mem_of_getElem? (i := 64) rfl)) (by decide) (W := 0) A2_43.2.1 (argsL := [(.ref i5)]) (rest := []) (Own.payEq (W := 0) hw Own.VT.cl (hw _ (List.mem_of_getElem? (i := 9) rfl)) K45.old A2_43 L2 A5_43 L5 SC hzc (by decide) (by decide)) trivial (pc := 189) (Ls := #[.val (.int p1), .val (.int p2), .val (.int p3), .val (.int fl), .val (.int p5), .val (.int p6), .val (.ref i1), .val (.ref i2), .val (.ref i3), .val (.ref ta), .val (.int kd), .val (.ref i4), .val (.ref i5), .val (.ref i6), .val (.ref tb), .unset]) (st := [(.ref i5), (.ref i2)]) (by rw [hml]; rfl) (lenOf pd_8 rfl) rfl (Nat.le_of_eq rfl) (hb hby at_189) (by decide) (by decide) all0
                    obtain ⟨rfl, hW48⟩ := ev48 rfl
                    obtain ⟨⟨rfl, e48⟩, -⟩ := Q48
                    have S48 : Go p e below A0 (T48.setTop (mkF m 192 #[.val (.int p1), .val (.int p2), .val (.int p3), .val (.int fl), .val (.int p5), .val (.int p6), .val (.ref i1), .val (.ref i2), .val (.ref i3), .val (.ref ta), .val (.int kd), .val (.ref i4), .val (.ref i5), .val (.ref i6), .val (.ref tb), .unset] [(.int (own_seq x2 x5))])) := S47.trans G48
                    subst e48
                    by_cases q1 : x2 = x5
                    case neg =>
                        rw [own_seq0 q1] at S48
                        have S49 : Go p e below A0 (T48.setTop (mkF m 210 #[.val (.int p1), .val (.int p2), .val (.int p3), .val (.int fl), .val (.int p5), .val (.int p6), .val (.ref i1), .val (.ref i2), .val (.ref i3), .val (.ref ta), .val (.int kd), .val (.ref i4), .val (.ref i5), .val (.ref i6), .val (.ref tb), .unset] [(.int (0 : Int32))])) := by
                          refine S48.trans ?_
                          refine (Own.P.ifYes K48.here K48.exec 209 (hb hby at_192) (by decide) (by decide) (by decide)).trans ?_
                          refine (Own.P.iconst K48.here K48.exec (0 : Int32) (hb hby at_209) rfl).trans ?_
                          exact Go.refl _
                        rw [own_tcB q1]; exact ⟨_, _, K48, S49⟩
                    case pos =>
                        rw [own_seq1 q1] at S48
                        have S50 : Go p e below A0 (T48.setTop (mkF m 199 #[.val (.int p1), .val (.int p2), .val (.int p3), .val (.int fl), .val (.int p5), .val (.int p6), .val (.ref i1), .val (.ref i2), .val (.ref i3), .val (.ref ta), .val (.int kd), .val (.ref i4), .val (.ref i5), .val (.ref i6), .val (.ref tb), .unset] [(.ref i6), (.ref i3)])) := by
                          refine S48.trans ?_
                          refine (Own.P.ifNo K48.here K48.exec (hb hby at_192) (by decide)).trans ?_
                          refine (Own.P.aload K48.here K48.exec (hb hby at_195) rfl rfl).trans ?_
                          refine (Own.P.aload K48.here K48.exec (hb hby at_197) rfl rfl).trans ?_
                          exact Go.refl _
                        obtain ⟨v51, vm51, vq51, T51, h51, K51, KK51, ev51, Q51, G51⟩ := K48.callV (C := "java/lang/String") (y := (⟨"java/lang/String", "equals", "(Ljava/lang/Object;)Z"⟩ : MethodName)) (z := (⟨"java/lang/String", "equals", "(Ljava/lang/Object;)Z"⟩ : MethodName)) (hw _ (List.mem_of_getElem? (i := 62) rfl)) (hw _ (List.mem_of_getElem? (i := 63) rfl)) (hw _ (List.mem_of_getElem? (i := 65) rfl)) (Or.inr (Or.inr rfl)) (hw _ (List.mem_of_getElem? (i := 64) rfl)) (by decide) (W := 0) A3_43.2.1 (argsL := [(.ref i6)]) (rest := []) (Own.payEq (W := 0) hw Own.VT.cl (hw _ (List.mem_of_getElem? (i := 9) rfl)) K48.old A3_43 L3 A6_43 L6 SC hzc (by decide) (by decide)) trivial (pc := 199) (Ls := #[.val (.int p1), .val (.int p2), .val (.int p3), .val (.int fl), .val (.int p5), .val (.int p6), .val (.ref i1), .val (.ref i2), .val (.ref i3), .val (.ref ta), .val (.int kd), .val (.ref i4), .val (.ref i5), .val (.ref i6), .val (.ref tb), .unset]) (st := [(.ref i6), (.ref i3)]) (by rw [hml]; rfl) (lenOf pd_8 rfl) rfl (Nat.le_of_eq rfl) (hb hby at_199) (by decide) (by decide) all0
                        obtain ⟨rfl, hW51⟩ := ev51 rfl
                        obtain ⟨⟨rfl, e51⟩, -⟩ := Q51
                        have S51 : Go p e below A0 (T51.setTop (mkF m 202 #[.val (.int p1), .val (.int p2), .val (.int p3), .val (.int fl), .val (.int p5), .val (.int p6), .val (.ref i1), .val (.ref i2), .val (.ref i3), .val (.ref ta), .val (.int kd), .val (.ref i4), .val (.ref i5), .val (.ref i6), .val (.ref tb), .unset] [(.int (own_seq x3 x6))])) := S50.trans G51
                        subst e51
                        by_cases q2 : x3 = x6
                        case neg =>
                            rw [own_seq0 q2] at S51
                            have S52 : Go p e below A0 (T51.setTop (mkF m 210 #[.val (.int p1), .val (.int p2), .val (.int p3), .val (.int fl), .val (.int p5), .val (.int p6), .val (.ref i1), .val (.ref i2), .val (.ref i3), .val (.ref ta), .val (.int kd), .val (.ref i4), .val (.ref i5), .val (.ref i6), .val (.ref tb), .unset] [(.int (0 : Int32))])) := by
                              refine S51.trans ?_
                              refine (Own.P.ifYes K51.here K51.exec 209 (hb hby at_202) (by decide) (by decide) (by decide)).trans ?_
                              refine (Own.P.iconst K51.here K51.exec (0 : Int32) (hb hby at_209) rfl).trans ?_
                              exact Go.refl _
                            rw [own_tcC q2]; exact ⟨_, _, K51, S52⟩
                        case pos =>
                            rw [own_seq1 q2] at S51
                            have S53 : Go p e below A0 (T51.setTop (mkF m 210 #[.val (.int p1), .val (.int p2), .val (.int p3), .val (.int fl), .val (.int p5), .val (.int p6), .val (.ref i1), .val (.ref i2), .val (.ref i3), .val (.ref ta), .val (.int kd), .val (.ref i4), .val (.ref i5), .val (.ref i6), .val (.ref tb), .unset] [(.int (1 : Int32))])) := by
                              refine S51.trans ?_
                              refine (Own.P.ifNo K51.here K51.exec (hb hby at_202) (by decide)).trans ?_
                              refine (Own.P.iconst K51.here K51.exec (1 : Int32) (hb hby at_205) rfl).trans ?_
                              refine (Own.P.goto K51.here K51.exec 210 (hb hby at_206) (by decide) (by decide)).trans ?_
                              exact Go.refl _
                            rw [own_tc1 q0 q1 q2]; exact ⟨_, _, K51, S53⟩
              have S54 : Go p e below A0 (TE.setTop (mkF m 216 #[.val (.int p1), .val (.int p2), .val (.int p3), .val (.int fl), .val (.int p5), .val (.int p6), .val (.ref i1), .val (.ref i2), .val (.ref i3), .val (.ref ta), .val (.int kd), .val (.ref i4), .val (.ref i5), .val (.ref i6), .val (.ref tb), .val (.int (own_tc x1 x2 x3 x4 x5 x6))] [(.ref tb), (.ref ta)])) := by
                refine SE.trans ?_
                refine (Own.P.istore KE.here KE.exec (l' := #[.val (.int p1), .val (.int p2), .val (.int p3), .val (.int fl), .val (.int p5), .val (.int p6), .val (.ref i1), .val (.ref i2), .val (.ref i3), .val (.ref ta), .val (.int kd), .val (.ref i4), .val (.ref i5), .val (.ref i6), .val (.ref tb), .val (.int (own_tc x1 x2 x3 x4 x5 x6))]) (hb hby at_210) rfl).trans ?_
                refine (Own.P.aload KE.here KE.exec (hb hby at_212) rfl rfl).trans ?_
                refine (Own.P.aload KE.here KE.exec (hb hby at_214) rfl rfl).trans ?_
                exact Go.refl _
              obtain ⟨v55, vm55, vq55, T55, h55, K55, KK55, ev55, Q55, G55⟩ := KE.callV (C := "com/example/orrery/orrery/llm/ToolCall") (y := (⟨"com/example/orrery/orrery/llm/ToolCall", "equals", "(Ljava/lang/Object;)Z"⟩ : MethodName)) (z := (⟨"com/example/orrery/orrery/llm/ToolCall", "equals", "(Ljava/lang/Object;)Z"⟩ : MethodName)) (hw _ (List.mem_of_getElem? (i := 72) rfl)) (hw _ (List.mem_of_getElem? (i := 73) rfl)) (hw _ (List.mem_of_getElem? (i := 75) rfl)) (Or.inr (Or.inr rfl)) (hw _ (List.mem_of_getElem? (i := 74) rfl)) (by decide) (W := 0) TCf.1 (argsL := [(.ref tb)]) (rest := []) ((c_teq l Z a0 hw n0 h43 (KE.old) ta tb i1 i2 i3 i4 i5 i6 x1 x2 x3 x4 x5 x6 TCf TC_tb A1_43 L1 A2_43 L2 A3_43 L3 A4_43 L4 A5_43 L5 A6_43 L6 zc hzc SC).payW Own.VT.cl (hw _ (List.mem_of_getElem? (i := 76) rfl)) (hw _ (List.mem_of_getElem? (i := 43) rfl)) (by decide) (by decide)) trivial (pc := 216) (Ls := #[.val (.int p1), .val (.int p2), .val (.int p3), .val (.int fl), .val (.int p5), .val (.int p6), .val (.ref i1), .val (.ref i2), .val (.ref i3), .val (.ref ta), .val (.int kd), .val (.ref i4), .val (.ref i5), .val (.ref i6), .val (.ref tb), .val (.int (own_tc x1 x2 x3 x4 x5 x6))]) (st := [(.ref tb), (.ref ta)]) (by rw [hml]; rfl) (lenOf pd_8 rfl) rfl (Nat.le_of_eq rfl) (hb hby at_216) (by decide) (by decide) all0
              obtain ⟨rfl, hW55⟩ := ev55 rfl
              obtain ⟨⟨rfl, e55⟩, hv55⟩ := Q55
              have S55 : Go p e below A0 (T55.setTop (mkF m 219 #[.val (.int p1), .val (.int p2), .val (.int p3), .val (.int fl), .val (.int p5), .val (.int p6), .val (.ref i1), .val (.ref i2), .val (.ref i3), .val (.ref ta), .val (.int kd), .val (.ref i4), .val (.ref i5), .val (.ref i6), .val (.ref tb), .val (.int (own_tc x1 x2 x3 x4 x5 x6))] [(.int (own_tc x1 x2 x3 x4 x5 x6))])) := S54.trans G55
              subst e55
              have S56 : Go p e below A0 (T55.setTop (mkF m 228 #[.val (.int p1), .val (.int p2), .val (.int p3), .val (.int fl), .val (.int p5), .val (.int p6), .val (.ref i1), .val (.ref i2), .val (.ref i3), .val (.ref ta), .val (.int kd), .val (.ref i4), .val (.ref i5), .val (.ref i6), .val (.ref tb), .val (.int (own_tc x1 x2 x3 x4 x5 x6))] [(.ref ta), (.ref tb)])) := by
                refine S55.trans ?_
                refine (Own.P.iload K55.here K55.exec (hb hby at_219) rfl).trans ?_
                refine (Own.P.icmpNo K55.here K55.exec (hb hby at_221) (XT.ii_ne_f rfl)).trans ?_
                refine (Own.P.aload K55.here K55.exec (hb hby at_224) rfl rfl).trans ?_
                refine (Own.P.aload K55.here K55.exec (hb hby at_226) rfl rfl).trans ?_
                exact Go.refl _
              obtain ⟨v57, vm57, vq57, T57, h57, K57, KK57, ev57, Q57, G57⟩ := K55.callV (C := "com/example/orrery/orrery/llm/ToolCall") (y := (⟨"com/example/orrery/orrery/llm/ToolCall", "equals", "(Ljava/lang/Object;)Z"⟩ : MethodName)) (z := (⟨"com/example/orrery/orrery/llm/ToolCall", "equals", "(Ljava/lang/Object;)Z"⟩ : MethodName)) (hw _ (List.mem_of_getElem? (i := 72) rfl)) (hw _ (List.mem_of_getElem? (i := 73) rfl)) (hw _ (List.mem_of_getElem? (i := 75) rfl)) (Or.inr (Or.inr rfl)) (hw _ (List.mem_of_getElem? (i := 74) rfl)) (by decide) (W := 0) TC_tb.1 (argsL := [(.ref ta)]) (rest := []) ((c_teq l Z a0 hw n0 h55 (K55.old) tb ta i4 i5 i6 i1 i2 i3 x4 x5 x6 x1 x2 x3 TC_tb TCf A4_43 L4 A5_43 L5 A6_43 L6 A1_43 L1 A2_43 L2 A3_43 L3 zc hzc SC).payW Own.VT.cl (hw _ (List.mem_of_getElem? (i := 76) rfl)) (hw _ (List.mem_of_getElem? (i := 43) rfl)) (by decide) (by decide)) trivial (pc := 228) (Ls := #[.val (.int p1), .val (.int p2), .val (.int p3), .val (.int fl), .val (.int p5), .val (.int p6), .val (.ref i1), .val (.ref i2), .val (.ref i3), .val (.ref ta), .val (.int kd), .val (.ref i4), .val (.ref i5), .val (.ref i6), .val (.ref tb), .val (.int (own_tc x1 x2 x3 x4 x5 x6))]) (st := [(.ref ta), (.ref tb)]) (by rw [hml]; rfl) (lenOf pd_8 rfl) rfl (Nat.le_of_eq rfl) (hb hby at_228) (by decide) (by decide) all0
              obtain ⟨rfl, hW57⟩ := ev57 rfl
              obtain ⟨⟨rfl, e57⟩, hv57⟩ := Q57
              have S57 : Go p e below A0 (T57.setTop (mkF m 231 #[.val (.int p1), .val (.int p2), .val (.int p3), .val (.int fl), .val (.int p5), .val (.int p6), .val (.ref i1), .val (.ref i2), .val (.ref i3), .val (.ref ta), .val (.int kd), .val (.ref i4), .val (.ref i5), .val (.ref i6), .val (.ref tb), .val (.int (own_tc x1 x2 x3 x4 x5 x6))] [(.int (own_tc x4 x5 x6 x1 x2 x3))])) := S56.trans G57
              subst e57
              have S58 : Go p e below A0 (T57.setTop (mkF m 241 #[.val (.int p1), .val (.int p2), .val (.int p3), .val (.int fl), .val (.int p5), .val (.int p6), .val (.ref i1), .val (.ref i2), .val (.ref i3), .val (.ref ta), .val (.int kd), .val (.ref i4), .val (.ref i5), .val (.ref i6), .val (.ref tb), .val (.int (own_tc x1 x2 x3 x4 x5 x6))] [(.int (1 : Int32))])) := by
                refine S57.trans ?_
                refine (Own.P.iload K57.here K57.exec (hb hby at_231) rfl).trans ?_
                refine (Own.P.icmpNo K57.here K57.exec (hb hby at_233) (XT.ii_ne_f (own_tcs _ _ _ _ _ _))).trans ?_
                refine (Own.P.iconst K57.here K57.exec (1 : Int32) (hb hby at_236) rfl).trans ?_
                refine (Own.P.goto K57.here K57.exec 241 (hb hby at_237) (by decide) (by decide)).trans ?_
                exact Go.refl _
              exact ⟨vq57, T57, h57, (some (.int (1 : Int32))), _, _, K57, by decide, by decide, ⟨rfl, trivial⟩, K57.retW S58 hret rfl (Or.inl ⟨rfl, by decide, _, rfl⟩) (hb hby at_241)⟩
set_option maxRecDepth 65536 in
set_option maxHeartbeats 40000000 in
theorem comes_1 {Post : Tables → Env → Array Value → State → Outcome → State → Prop} (hpost : ∀ tb e args s v u, (limb_1_1.after args s (.returned v) u = true ∧ limb_1_2.after args s (.returned v) u = true ∧ True) → FramedW s (.returned v) u (Jvm.fieldLocs frame_1_writes args s ++ Jvm.arrayLocs frame_1_arrays args s ++ Jvm.staticLocs frame_1_statics s) 56 4288 → Post tb e args s (.returned v) u) :
    ArmFor flags0 classFile x code maxLocals ret World_1 tables_1 room_1 Calls_1 rest_1 Pre_1 Post := by
  intro l hfl _ _ p e ha hc hk s m args below hf hA hF happ hP
  obtain ⟨hcalls, hrest, hpre⟩ := hP
  obtain ⟨-, -, -, hnamed, -, -, -, hat⟩ := (Spec.applies_iff hf).mp happ
  obtain ⟨hg, hn⟩ := and_e (Cond.before_iff.mp (show (Jvm.Cond.and given_1 narrow_1).before args s = true from hpre))
  obtain ⟨h1, g1⟩ := and_e hg
  obtain ⟨u0, g2⟩ := and_e g1
  obtain ⟨u1, g3⟩ := and_e g2
  obtain ⟨u2, g4⟩ := and_e g3
  obtain ⟨u3, g5⟩ := and_e g4
  obtain ⟨u4, u5⟩ := and_e g5
  obtain ⟨w0, w1, w2, w3, w4, w5, rfl⟩ : ∃ w0 w1 w2 w3 w4 w5 : Value, args = #[w0, w1, w2, w3, w4, w5] := by
    have hs : args.size = 6 := by simpa [Cond.value, given_1] using h1
    obtain ⟨L⟩ := args
    match L, hs with
    | [w0, w1, w2, w3, w4, w5], _ => exact ⟨w0, w1, w2, w3, w4, w5, rfl⟩
  have hw := fun d (hd : d ∈ tables_1) => atoms_spec (ws := Jvm.Cond.code x code maxLocals ret :: tables_1) hat d (List.mem_cons_of_mem _ hd)
  obtain ⟨hsets, hown0⟩ := atoms_of _ (rest_1_c_eq ▸ (show rest_1_c.before _ s = true from hrest))
  have n5 := not_v (Cond.before_iff.mp (hsets _ (List.mem_of_getElem? (i := 2) rfl)))
  obtain ⟨i0, e0⟩ := is_v u0
  obtain rfl : w0 = (.int i0) := Option.some.inj e0
  obtain ⟨i1, e1⟩ := is_v u1
  obtain rfl : w1 = (.int i1) := Option.some.inj e1
  obtain ⟨i2, e2⟩ := is_v u2
  obtain rfl : w2 = (.int i2) := Option.some.inj e2
  obtain ⟨i3, e3⟩ := is_v u3
  obtain rfl : w3 = (.int i3) := Option.some.inj e3
  obtain ⟨i4, e4⟩ := is_v u4
  obtain rfl : w4 = (.int i4) := Option.some.inj e4
  obtain ⟨i5, e5⟩ := is_v u5
  obtain rfl : w5 = (.int i5) := Option.some.inj e5
  obtain ⟨i11, e10⟩ := is_v (Cond.before_iff.mp (hsets _ (List.mem_of_getElem? (i := 1) rfl)))
  have S12 : Sta s s.heap "java/lang/String" "COMPACT_STRINGS" "Z" (.int i11) := Sta.start e10 (Or.inl (hsets _ (List.mem_of_getElem? (i := 0) rfl)))
  have c17 : ¬ (i11 = (0 : Int32)) := gotF (Cond.eq_ints e10 (Term.int_eval (0))) n5
  have HC : CHv s consts_1 s.vm s.heap := CHv.start (own_ew hw) (fun q hq => hcalls.1 q hq) (hsets _ (List.mem_of_getElem? (i := 2) rfl)) (hw _ (List.mem_of_getElem? (i := 23) rfl)) (hw _ (List.mem_of_getElem? (i := 9) rfl))
  obtain ⟨n, o, h1, h2, h3, v, L, rfl, ⟨⟨rfl, -⟩, -, NW⟩, hq⟩ := c_law l s _ hw s.heap.size s.heap (Old.start s) i0 i1 i2 i3 i4 i5 i11 c17 S12 tables_1 p e ha hc hk s m _ below hf ((Spec.applies_iff_loose hf).mp happ).1 ⟨rfl, State.Warmed39.refl s, rfl, State.Warmed39.refl s, HC⟩ trivial
  have N := NW.fr all0 (Nat.le_refl _)
  refine ⟨n, _, h1, h2, h3, hpost _ _ _ _ _ _ ⟨Cond.after_iff.mpr rfl, Cond.after_iff.mpr (eq_i res_at (Term.int_eval (1)) rfl), trivial⟩ ⟨hq.1, hq.2.1, hq.2.2.1, (hq.2.2.2.sift fun y hy => Or.inr (N y hy)).mono (by decide) (by decide)⟩⟩
theorem main_1_1 : Claimed_1_1 := comes_1 fun _ _ _ _ _ _ h hF => ⟨h.1, hF⟩
theorem main_1_2 : Claimed_1_2 := comes_1 fun _ _ _ _ _ _ h hF => ⟨h.2.1, hF⟩
end Jvm.Pilot.@@N@@
namespace Jvm.Pilot.@@N@@
open Jvm Jvm.ClassFile Sem Op Lib Jvm.Free Jvm.Stand Jvm.Pilot.@@N@@.Jvm.D
/-! MADE BY PROGRAM (witnessworld.py) out of the Statement's table words and the real class files: 22 classes; the members and pool entries that the words name. The judged class is class 1, her method 2. -/
namespace start1
open Jvm.ClassFile
def u (s : String) : CpInfo := .utf8 (stringToUtf16 s)
/-- a pool by its gaps: so many unusable entries, then the entry; so many at the end -/
def gap : Nat → List CpInfo → List CpInfo
  | 0, r => r
  | n + 1, r => .unusable :: gap n r
def poolList (es : List (Nat × CpInfo)) (last : Nat) : List CpInfo := es.foldr (fun e r => gap e.1 (e.2 :: r)) (gap last [])
def pool (es : List (Nat × CpInfo)) (last : Nat) : Array CpInfo := ⟨poolList es last⟩
def fileOf (pool : Array CpInfo) (this : Nat) (attrs : Array Attribute := #[]) (ms : Array MethodInfo := #[]) (fl : Nat := 33) (sup : Nat := 0) (ifs : Array Nat := #[]) (fds : Array FieldInfo := #[]) : ClassFile where
  minorVersion := 0
  majorVersion := 65
  constantPool := pool
  accessFlags := fl
  thisClass := this
  superClass := sup
  interfaces := ifs
  fields := fds
  methods := ms
  attributes := attrs
def plain (name : String) (sup : Option ClassId) : Class where
  name := name
  kind := .ordinary
  loader := none
  accessFlags := 33
  super := sup
  interfaces := #[]
  cf := none
  fields := #[]
  methods := #[]
  instanceTypes := #[]
  staticTypes := #[]
  resolved := #[]
  callSites := []
  init := .initialized
  statics := none
  mirror := none

def pool0 : Array CpInfo := pool [(5, u "<init>"), (0, u "()V"), (1, .class_ 10), (1, u "java/lang/Object")] 113

def k0c0 : Code := { maxStack := 0, maxLocals := 1, code := object_method_1_code, exceptionTable := #[], attributes := #[] }
def k0m0 : Method := { name := "<init>", desc := "()V", sig := { parameters := [], returnType := none }, accessFlags := 1, code := some k0c0 }
/-- java/lang/Object -/
def k0 : Class := { plain "java/lang/Object" none with
  accessFlags := 33
  interfaces := #[]
  cf := some (fileOf pool0 8 #[] #[{ accessFlags := 1, nameIndex := 5, descriptorIndex := 6, attributes := #[] }] 33 0 #[] #[])
  fields := #[]
  methods := #[k0m0]
  instanceTypes := #[]
  staticTypes := #[]
  resolved := Array.replicate 124 none
  statics := none }

def pool1 : Array CpInfo := pool [(2, .class_ 4), (1, u "java/lang/Object"), (0, u "<init>"), (0, u "()V"), (0, .methodref 8 9), (0, .class_ 10), (0, .nameAndType 11 12), (0, u "java/lang/Math"), (0, u "min"), (0, u "(II)I"), (0, .class_ 14), (0, u "java/lang/String"), (0, .methodref 13 16), (0, .nameAndType 5 17), (0, u "([C)V"), (0, .methodref 13 19), (0, .nameAndType 20 21), (0, u "valueOf"), (0, u "(C)Ljava/lang/String;"), (0, .methodref 23 24), (0, .class_ 25), (0, .nameAndType 26 27), (0, u "com/example/orrery/orrery/llm/ToolCallEqualsPinLaw"), (0, u "str"), (0, u "(I)Ljava/lang/String;"), (0, .class_ 29), (0, u "com/example/orrery/orrery/llm/ToolCall"), (0, .methodref 28 31), (0, .nameAndType 5 32), (0, u "(Ljava/lang/String;Ljava/lang/String;Ljava/lang/String;)V"), (0, .methodref 28 34), (0, .nameAndType 35 36), (0, u "equals"), (0, u "(Ljava/lang/Object;)Z"), (0, .methodref 13 34), (3, u "law"), (0, u "(IIIIII)Z")] 2

def k1m0 : Method := { name := "<init>", desc := "()V", sig := { parameters := [], returnType := none }, accessFlags := 1, code := none }
def k1c1 : Code := { maxStack := 3, maxLocals := 5, code := method_2_code, exceptionTable := #[], attributes := #[] }
def k1m1 : Method := { name := "str", desc := "(I)Ljava/lang/String;", sig := { parameters := [.int], returnType := some (.object "java/lang/String") }, accessFlags := 10, code := some k1c1 }
def k1c2 : Code := { maxStack := 5, maxLocals := 16, code := code, exceptionTable := #[], attributes := #[] }
def k1m2 : Method := { name := "law", desc := "(IIIIII)Z", sig := { parameters := [.int, .int, .int, .int, .int, .int], returnType := some .boolean }, accessFlags := 9, code := some k1c2 }
/-- com/example/orrery/orrery/llm/ToolCallEqualsPinLaw -/
def k1 : Class := { plain "com/example/orrery/orrery/llm/ToolCallEqualsPinLaw" (some 0) with
  accessFlags := 49
  interfaces := #[]
  cf := some (fileOf pool1 23 #[] #[{ accessFlags := 1, nameIndex := 5, descriptorIndex := 6, attributes := #[] }, { accessFlags := 10, nameIndex := 26, descriptorIndex := 27, attributes := #[] }, { accessFlags := 9, nameIndex := 41, descriptorIndex := 42, attributes := #[] }] 49 2 #[] #[])
  fields := #[]
  methods := #[k1m0, k1m1, k1m2]
  instanceTypes := #[]
  staticTypes := #[]
  resolved := Array.replicate 45 none
  statics := none }

def pool2 : Array CpInfo := pool [(1, .class_ 2), (0, u "java/lang/Math"), (1, .class_ 6), (1, u "java/lang/Object"), (0, u "<init>"), (0, u "()V"), (89, .class_ 100), (1, u "java/lang/Math$RandomNumberGeneratorHolder"), (71, u "negativeZeroFloatBits"), (0, u "J"), (2, u "negativeZeroDoubleBits"), (24, u "min"), (43, u "$assertionsDisabled"), (0, u "Z"), (88, u "(II)I"), (2, u "twoToTheDoubleScaleDown"), (0, u "D"), (4, u "twoToTheDoubleScaleUp"), (9, u "E"), (3, u "PI"), (2, u "TAU"), (2, u "DEGREES_TO_RADIANS"), (0, u "RADIANS_TO_DEGREES")] 94

def k2m0 : Method := { name := "<init>", desc := "()V", sig := { parameters := [], returnType := none }, accessFlags := 2, code := none }
def k2c1 : Code := { maxStack := 2, maxLocals := 2, code := jdk_29_method_69_code, exceptionTable := #[], attributes := #[] }
def k2m1 : Method := { name := "min", desc := "(II)I", sig := { parameters := [.int, .int], returnType := some .int }, accessFlags := 9, code := some k2c1 }
/-- java/lang/Math -/
def k2 : Class := { plain "java/lang/Math" (some 0) with
  accessFlags := 49
  interfaces := #[]
  cf := some (fileOf pool2 1 #[.nestMembers #[98]] #[{ accessFlags := 2, nameIndex := 7, descriptorIndex := 8, attributes := #[] }, { accessFlags := 9, nameIndex := 201, descriptorIndex := 335, attributes := #[] }] 49 4 #[] #[{ accessFlags := 25, nameIndex := 354, descriptorIndex := 339, attributes := #[] }, { accessFlags := 25, nameIndex := 358, descriptorIndex := 339, attributes := #[] }, { accessFlags := 25, nameIndex := 361, descriptorIndex := 339, attributes := #[] }, { accessFlags := 26, nameIndex := 364, descriptorIndex := 339, attributes := #[] }, { accessFlags := 26, nameIndex := 365, descriptorIndex := 339, attributes := #[] }, { accessFlags := 26, nameIndex := 172, descriptorIndex := 173, attributes := #[] }, { accessFlags := 26, nameIndex := 176, descriptorIndex := 173, attributes := #[] }, { accessFlags := 8, nameIndex := 344, descriptorIndex := 339, attributes := #[] }, { accessFlags := 8, nameIndex := 338, descriptorIndex := 339, attributes := #[] }, { accessFlags := 4120, nameIndex := 245, descriptorIndex := 246, attributes := #[] }])
  fields := #[{ name := "E", type := .double, accessFlags := 25, slot := 0, constantValue := 0 }, { name := "PI", type := .double, accessFlags := 25, slot := 1, constantValue := 0 }, { name := "TAU", type := .double, accessFlags := 25, slot := 2, constantValue := 0 }, { name := "DEGREES_TO_RADIANS", type := .double, accessFlags := 26, slot := 3, constantValue := 0 }, { name := "RADIANS_TO_DEGREES", type := .double, accessFlags := 26, slot := 4, constantValue := 0 }, { name := "negativeZeroFloatBits", type := .long, accessFlags := 26, slot := 5, constantValue := 0 }, { name := "negativeZeroDoubleBits", type := .long, accessFlags := 26, slot := 6, constantValue := 0 }, { name := "twoToTheDoubleScaleUp", type := .double, accessFlags := 8, slot := 7, constantValue := 0 }, { name := "twoToTheDoubleScaleDown", type := .double, accessFlags := 8, slot := 8, constantValue := 0 }, { name := "$assertionsDisabled", type := .boolean, accessFlags := 4120, slot := 9, constantValue := 0 }]
  methods := #[k2m0, k2m1]
  instanceTypes := #[]
  staticTypes := #[.double, .double, .double, .double, .double, .long, .long, .double, .double, .boolean]
  resolved := Array.replicate 460 none
  statics := none }

def pool3 : Array CpInfo := pool [(1, .class_ 2), (0, u "java/io/Serializable"), (0, .class_ 4), (0, u "java/lang/Object")] 2

/-- java/io/Serializable -/
def k3 : Class := { plain "java/io/Serializable" (some 0) with
  accessFlags := 1537
  interfaces := #[]
  cf := some (fileOf pool3 1 #[] #[] 1537 3 #[] #[])
  fields := #[]
  methods := #[]
  instanceTypes := #[]
  staticTypes := #[]
  resolved := Array.replicate 7 none
  statics := none }

def pool4 : Array CpInfo := pool [(1, .class_ 2), (0, u "java/lang/Comparable"), (0, .class_ 4), (0, u "java/lang/Object")] 7

/-- java/lang/Comparable -/
def k4 : Class := { plain "java/lang/Comparable" (some 0) with
  accessFlags := 1537
  interfaces := #[]
  cf := some (fileOf pool4 1 #[] #[] 1537 3 #[] #[])
  fields := #[]
  methods := #[]
  instanceTypes := #[]
  staticTypes := #[]
  resolved := Array.replicate 12 none
  statics := none }

def pool5 : Array CpInfo := pool [(2, .class_ 4), (1, u "java/lang/CharSequence"), (42, .class_ 48), (0, u "java/lang/CharSequence$1CodePointIterator"), (10, .class_ 60), (0, u "java/lang/CharSequence$1CharIterator"), (5, .class_ 67), (0, u "java/lang/Object")] 63

/-- java/lang/CharSequence -/
def k5 : Class := { plain "java/lang/CharSequence" (some 0) with
  accessFlags := 1537
  interfaces := #[]
  cf := some (fileOf pool5 2 #[.nestMembers #[47, 59]] #[] 1537 66 #[] #[])
  fields := #[]
  methods := #[]
  instanceTypes := #[]
  staticTypes := #[]
  resolved := Array.replicate 131 none
  statics := none }

def pool6 : Array CpInfo := pool [(1, .class_ 2), (0, u "java/lang/constant/Constable"), (0, .class_ 4), (0, u "java/lang/Object")] 6

/-- java/lang/constant/Constable -/
def k6 : Class := { plain "java/lang/constant/Constable" (some 0) with
  accessFlags := 1537
  interfaces := #[]
  cf := some (fileOf pool6 1 #[] #[] 1537 3 #[] #[])
  fields := #[]
  methods := #[]
  instanceTypes := #[]
  staticTypes := #[]
  resolved := Array.replicate 11 none
  statics := none }

def pool7 : Array CpInfo := pool [(1, .class_ 2), (0, u "java/lang/constant/ConstantDesc"), (0, .class_ 4), (0, u "java/lang/Object")] 32

/-- java/lang/constant/ConstantDesc -/
def k7 : Class := { plain "java/lang/constant/ConstantDesc" (some 0) with
  accessFlags := 1537
  interfaces := #[]
  cf := some (fileOf pool7 1 #[] #[] 1537 3 #[] #[])
  fields := #[]
  methods := #[]
  instanceTypes := #[]
  staticTypes := #[]
  resolved := Array.replicate 37 none
  statics := none }

def pool8 : Array CpInfo := pool [(1, .methodref 2 3), (0, .class_ 4), (0, .nameAndType 5 6), (0, u "java/lang/Object"), (0, u "<init>"), (0, u "()V"), (0, .string 8), (0, u ""), (0, .fieldref 10 11), (0, .class_ 12), (0, .nameAndType 13 14), (0, u "java/lang/String"), (0, u "value"), (0, u "[B"), (0, .fieldref 10 16), (0, .nameAndType 17 18), (0, u "coder"), (0, u "B"), (2, u "hash"), (0, u "I"), (2, u "hashIsZero"), (0, u "Z"), (0, .methodref 10 28), (0, .nameAndType 5 29), (0, u "([CIILjava/lang/Void;)V"), (8, .fieldref 10 39), (0, .nameAndType 40 26), (0, u "COMPACT_STRINGS"), (1, .class_ 44), (1, u "java/lang/StringUTF16"), (0, u "compress"), (1, .methodref 42 48), (0, .nameAndType 49 50), (0, u "coderFromArrayLen"), (0, u "([BI)B"), (2, u "toBytes"), (53, .class_ 109), (1, u "java/lang/StringLatin1"), (67, .methodref 42 178), (0, .nameAndType 45 179), (0, u "([CII)[B"), (29, .methodref 10 210), (0, .nameAndType 5 211), (0, u "([BB)V"), (157, u "(C)Z"), (171, .methodref 107 542), (0, .nameAndType 543 544), (0, u "equals"), (0, u "([B[B)Z"), (28, u "(Ljava/lang/Object;)Z"), (1, .class_ 576), (0, u "java/lang/CharSequence"), (22, u "CASE_INSENSITIVE_ORDER"), (0, u "Ljava/util/Comparator;"), (181, u "valueOf"), (0, u "(C)Ljava/lang/String;"), (226, u "([C)V"), (4, .methodref 107 1016), (0, .nameAndType 1017 369), (0, u "canEncode"), (0, .methodref 107 1019), (0, .nameAndType 53 1020), (0, u "(C)[B"), (80, u "serialPersistentFields"), (0, u "[Ljava/io/ObjectStreamField;"), (0, .class_ 1104), (0, u "java/lang/String$CaseInsensitiveComparator"), (1, .class_ 1107), (0, u "java/io/Serializable"), (0, .class_ 1109), (0, u "java/lang/Comparable"), (0, .class_ 1111), (0, u "java/lang/constant/Constable"), (0, .class_ 1113), (0, u "java/lang/constant/ConstantDesc"), (2, u "serialVersionUID"), (0, u "J"), (3, u "REPL"), (0, u "C"), (2, u "LATIN1"), (1, u "UTF16")] 323

def k8m0 : Method := { name := "<init>", desc := "()V", sig := { parameters := [], returnType := none }, accessFlags := 1, code := none }
def k8c1 : Code := { maxStack := 5, maxLocals := 2, code := jdk_42_method_3_code, exceptionTable := #[], attributes := #[] }
def k8m1 : Method := { name := "<init>", desc := "([C)V", sig := { parameters := [(.array .char)], returnType := none }, accessFlags := 1, code := some k8c1 }
def k8c2 : Code := { maxStack := 2, maxLocals := 3, code := jdk_42_method_66_code, exceptionTable := #[], attributes := #[] }
def k8m2 : Method := { name := "equals", desc := "(Ljava/lang/Object;)Z", sig := { parameters := [(.object "java/lang/Object")], returnType := some .boolean }, accessFlags := 1, code := some k8c2 }
def k8c3 : Code := { maxStack := 4, maxLocals := 1, code := jdk_42_method_139_code, exceptionTable := #[], attributes := #[] }
def k8m3 : Method := { name := "valueOf", desc := "(C)Ljava/lang/String;", sig := { parameters := [.char], returnType := some (.object "java/lang/String") }, accessFlags := 9, code := some k8c3 }
def k8c4 : Code := { maxStack := 4, maxLocals := 6, code := jdk_42_method_149_code, exceptionTable := #[], attributes := #[] }
def k8m4 : Method := { name := "<init>", desc := "([CIILjava/lang/Void;)V", sig := { parameters := [(.array .char), .int, .int, (.object "java/lang/Void")], returnType := none }, accessFlags := 2, code := some k8c4 }
def k8c5 : Code := { maxStack := 2, maxLocals := 3, code := jdk_42_method_151_code, exceptionTable := #[], attributes := #[] }
def k8m5 : Method := { name := "<init>", desc := "([BB)V", sig := { parameters := [(.array .byte), .byte], returnType := none }, accessFlags := 0, code := some k8c5 }
/-- java/lang/String -/
def k8 : Class := { plain "java/lang/String" (some 0) with
  accessFlags := 49
  interfaces := #[3, 4, 5, 6, 7]
  cf := some (fileOf pool8 10 #[.nestMembers #[1103]] #[{ accessFlags := 1, nameIndex := 5, descriptorIndex := 6, attributes := #[] }, { accessFlags := 1, nameIndex := 5, descriptorIndex := 1010, attributes := #[] }, { accessFlags := 1, nameIndex := 543, descriptorIndex := 573, attributes := #[] }, { accessFlags := 9, nameIndex := 782, descriptorIndex := 783, attributes := #[] }, { accessFlags := 2, nameIndex := 5, descriptorIndex := 29, attributes := #[] }, { accessFlags := 0, nameIndex := 5, descriptorIndex := 211, attributes := #[] }] 49 2 #[1106, 1108, 575, 1110, 1112] #[{ accessFlags := 18, nameIndex := 13, descriptorIndex := 14, attributes := #[] }, { accessFlags := 18, nameIndex := 17, descriptorIndex := 18, attributes := #[] }, { accessFlags := 2, nameIndex := 21, descriptorIndex := 22, attributes := #[] }, { accessFlags := 2, nameIndex := 25, descriptorIndex := 26, attributes := #[] }, { accessFlags := 26, nameIndex := 1116, descriptorIndex := 1117, attributes := #[] }, { accessFlags := 24, nameIndex := 40, descriptorIndex := 26, attributes := #[] }, { accessFlags := 26, nameIndex := 1101, descriptorIndex := 1102, attributes := #[] }, { accessFlags := 26, nameIndex := 1121, descriptorIndex := 1122, attributes := #[] }, { accessFlags := 25, nameIndex := 599, descriptorIndex := 600, attributes := #[] }, { accessFlags := 24, nameIndex := 1125, descriptorIndex := 18, attributes := #[] }, { accessFlags := 24, nameIndex := 1127, descriptorIndex := 18, attributes := #[] }])
  fields := #[{ name := "value", type := (.array .byte), accessFlags := 18, slot := 0, constantValue := 0 }, { name := "coder", type := .byte, accessFlags := 18, slot := 1, constantValue := 0 }, { name := "hash", type := .int, accessFlags := 2, slot := 2, constantValue := 0 }, { name := "hashIsZero", type := .boolean, accessFlags := 2, slot := 3, constantValue := 0 }, { name := "serialVersionUID", type := .long, accessFlags := 26, slot := 0, constantValue := 0 }, { name := "COMPACT_STRINGS", type := .boolean, accessFlags := 24, slot := 1, constantValue := 0 }, { name := "serialPersistentFields", type := (.array (.object "java/io/ObjectStreamField")), accessFlags := 26, slot := 2, constantValue := 0 }, { name := "REPL", type := .char, accessFlags := 26, slot := 3, constantValue := 0 }, { name := "CASE_INSENSITIVE_ORDER", type := (.object "java/util/Comparator"), accessFlags := 25, slot := 4, constantValue := 0 }, { name := "LATIN1", type := .byte, accessFlags := 24, slot := 5, constantValue := 0 }, { name := "UTF16", type := .byte, accessFlags := 24, slot := 6, constantValue := 0 }]
  methods := #[k8m0, k8m1, k8m2, k8m3, k8m4, k8m5]
  instanceTypes := #[(.array .byte), .byte, .int, .boolean]
  staticTypes := #[.long, .boolean, (.array (.object "java/io/ObjectStreamField")), .char, (.object "java/util/Comparator"), .byte, .byte]
  resolved := Array.replicate 1451 none
  statics := some 0 }

def pool9 : Array CpInfo := pool [(6, .class_ 8), (1, u "java/lang/Object"), (0, u "<init>"), (0, u "()V"), (1, .class_ 14), (1, u "java/lang/StringUTF16"), (31, u "$assertionsDisabled"), (0, u "Z"), (13, u "HI_BYTE_SHIFT"), (0, u "I"), (2, u "LO_BYTE_SHIFT"), (49, .methodref 12 116), (0, .nameAndType 117 118), (0, u "compress"), (0, u "([CI[BII)I"), (3, u "([CII)[B"), (138, u "coderFromArrayLen"), (0, u "([BI)B"), (106, .class_ 371), (1, u "java/lang/StringUTF16$LinesSpliterator"), (58, u "MAX_LENGTH"), (196, .class_ 628), (0, u "java/lang/StringUTF16$CodePointsSpliterator"), (0, .class_ 630), (0, u "java/lang/StringUTF16$CharsSpliterator")] 4

def k9m0 : Method := { name := "<init>", desc := "()V", sig := { parameters := [], returnType := none }, accessFlags := 0, code := none }
def k9c1 : Code := { maxStack := 2, maxLocals := 2, code := jdk_52_method_15_code, exceptionTable := #[], attributes := #[] }
def k9m1 : Method := { name := "coderFromArrayLen", desc := "([BI)B", sig := { parameters := [(.array .byte), .int], returnType := some .byte }, accessFlags := 8, code := some k9c1 }
def k9c2 : Code := { maxStack := 5, maxLocals := 6, code := jdk_52_method_16_code, exceptionTable := #[], attributes := #[] }
def k9m2 : Method := { name := "compress", desc := "([CII)[B", sig := { parameters := [(.array .char), .int, .int], returnType := some (.array .byte) }, accessFlags := 9, code := some k9c2 }
def k9c3 : Code := { maxStack := 3, maxLocals := 7, code := jdk_52_method_21_code, exceptionTable := #[], attributes := #[] }
def k9m3 : Method := { name := "compress", desc := "([CI[BII)I", sig := { parameters := [(.array .char), .int, (.array .byte), .int, .int], returnType := some .int }, accessFlags := 9, code := some k9c3 }
/-- java/lang/StringUTF16 -/
def k9 : Class := { plain "java/lang/StringUTF16" (some 0) with
  accessFlags := 48
  interfaces := #[]
  cf := some (fileOf pool9 12 #[.nestMembers #[627, 629, 369]] #[{ accessFlags := 0, nameIndex := 9, descriptorIndex := 10, attributes := #[] }, { accessFlags := 8, nameIndex := 261, descriptorIndex := 262, attributes := #[] }, { accessFlags := 9, nameIndex := 117, descriptorIndex := 122, attributes := #[] }, { accessFlags := 9, nameIndex := 117, descriptorIndex := 118, attributes := #[] }] 48 6 #[] #[{ accessFlags := 26, nameIndex := 61, descriptorIndex := 62, attributes := #[] }, { accessFlags := 26, nameIndex := 65, descriptorIndex := 62, attributes := #[] }, { accessFlags := 24, nameIndex := 430, descriptorIndex := 62, attributes := #[] }, { accessFlags := 4120, nameIndex := 46, descriptorIndex := 47, attributes := #[] }])
  fields := #[{ name := "HI_BYTE_SHIFT", type := .int, accessFlags := 26, slot := 0, constantValue := 0 }, { name := "LO_BYTE_SHIFT", type := .int, accessFlags := 26, slot := 1, constantValue := 0 }, { name := "MAX_LENGTH", type := .int, accessFlags := 24, slot := 2, constantValue := 0 }, { name := "$assertionsDisabled", type := .boolean, accessFlags := 4120, slot := 3, constantValue := 0 }]
  methods := #[k9m0, k9m1, k9m2, k9m3]
  instanceTypes := #[]
  staticTypes := #[.int, .int, .int, .boolean]
  resolved := Array.replicate 635 none
  statics := none }

def pool10 : Array CpInfo := pool [(1, .methodref 2 3), (0, .class_ 4), (0, .nameAndType 5 6), (0, u "java/lang/Object"), (0, u "<init>"), (0, u "()V"), (0, .string 8), (0, u "id"), (0, .methodref 10 11), (0, .class_ 12), (0, .nameAndType 13 14), (0, u "java/util/Objects"), (0, u "requireNonNull"), (0, u "(Ljava/lang/Object;Ljava/lang/String;)Ljava/lang/Object;"), (0, .class_ 16), (0, u "java/lang/String"), (0, .fieldref 18 19), (0, .class_ 20), (0, .nameAndType 8 21), (0, u "com/example/orrery/orrery/llm/ToolCall"), (0, u "Ljava/lang/String;"), (0, .string 23), (0, u "name"), (0, .fieldref 18 25), (0, .nameAndType 23 21), (0, .string 27), (0, u "arguments"), (0, .fieldref 18 29), (0, .nameAndType 27 21), (0, .methodref 15 31), (0, .nameAndType 32 33), (0, u "equals"), (0, u "(Ljava/lang/Object;)Z"), (8, u "(Ljava/lang/String;Ljava/lang/String;Ljava/lang/String;)V")] 24

def k10c0 : Code := { maxStack := 3, maxLocals := 4, code := prog_17_method_1_code, exceptionTable := #[], attributes := #[] }
def k10m0 : Method := { name := "<init>", desc := "(Ljava/lang/String;Ljava/lang/String;Ljava/lang/String;)V", sig := { parameters := [(.object "java/lang/String"), (.object "java/lang/String"), (.object "java/lang/String")], returnType := none }, accessFlags := 1, code := some k10c0 }
def k10c1 : Code := { maxStack := 2, maxLocals := 3, code := prog_17_method_5_code, exceptionTable := #[], attributes := #[] }
def k10m1 : Method := { name := "equals", desc := "(Ljava/lang/Object;)Z", sig := { parameters := [(.object "java/lang/Object")], returnType := some .boolean }, accessFlags := 1, code := some k10c1 }
/-- com/example/orrery/orrery/llm/ToolCall -/
def k10 : Class := { plain "com/example/orrery/orrery/llm/ToolCall" (some 0) with
  accessFlags := 33
  interfaces := #[]
  cf := some (fileOf pool10 18 #[] #[{ accessFlags := 1, nameIndex := 5, descriptorIndex := 42, attributes := #[] }, { accessFlags := 1, nameIndex := 32, descriptorIndex := 33, attributes := #[] }] 33 2 #[] #[{ accessFlags := 18, nameIndex := 8, descriptorIndex := 21, attributes := #[] }, { accessFlags := 18, nameIndex := 23, descriptorIndex := 21, attributes := #[] }, { accessFlags := 18, nameIndex := 27, descriptorIndex := 21, attributes := #[] }])
  fields := #[{ name := "id", type := (.object "java/lang/String"), accessFlags := 18, slot := 0, constantValue := 0 }, { name := "name", type := (.object "java/lang/String"), accessFlags := 18, slot := 1, constantValue := 0 }, { name := "arguments", type := (.object "java/lang/String"), accessFlags := 18, slot := 2, constantValue := 0 }]
  methods := #[k10m0, k10m1]
  instanceTypes := #[(.object "java/lang/String"), (.object "java/lang/String"), (.object "java/lang/String")]
  staticTypes := #[]
  resolved := Array.replicate 67 none
  statics := none }

def pool11 : Array CpInfo := pool [(2, .class_ 4), (1, u "java/lang/Object"), (0, u "<init>"), (0, u "()V"), (35, .class_ 44), (1, u "java/util/Objects"), (0, u "requireNonNull"), (48, u "(Ljava/lang/Object;Ljava/lang/String;)Ljava/lang/Object;")] 89

def k11m0 : Method := { name := "<init>", desc := "()V", sig := { parameters := [], returnType := none }, accessFlags := 2, code := none }
def k11c1 : Code := { maxStack := 3, maxLocals := 2, code := jdk_31_method_11_code, exceptionTable := #[], attributes := #[] }
def k11m1 : Method := { name := "requireNonNull", desc := "(Ljava/lang/Object;Ljava/lang/String;)Ljava/lang/Object;", sig := { parameters := [(.object "java/lang/Object"), (.object "java/lang/String")], returnType := some (.object "java/lang/Object") }, accessFlags := 9, code := some k11c1 }
/-- java/util/Objects -/
def k11 : Class := { plain "java/util/Objects" (some 0) with
  accessFlags := 49
  interfaces := #[]
  cf := some (fileOf pool11 42 #[] #[{ accessFlags := 2, nameIndex := 5, descriptorIndex := 6, attributes := #[] }, { accessFlags := 9, nameIndex := 45, descriptorIndex := 94, attributes := #[] }] 49 2 #[] #[])
  fields := #[]
  methods := #[k11m0, k11m1]
  instanceTypes := #[]
  staticTypes := #[]
  resolved := Array.replicate 184 none
  statics := none }

def pool12 : Array CpInfo := pool [(4, .class_ 6), (1, u "java/lang/Object"), (0, u "<init>"), (0, u "()V"), (5, .class_ 16), (1, u "java/lang/StringLatin1"), (73, u "canEncode"), (14, u "(C)Z"), (15, u "$assertionsDisabled"), (0, u "Z"), (98, .class_ 223), (1, u "java/lang/StringLatin1$LinesSpliterator"), (57, u "equals"), (0, u "([B[B)Z"), (97, u "toBytes"), (1, u "(C)[B"), (7, .class_ 391), (0, u "java/lang/StringLatin1$CharsSpliterator")] 3

def k12m0 : Method := { name := "<init>", desc := "()V", sig := { parameters := [], returnType := none }, accessFlags := 0, code := none }
def k12c1 : Code := { maxStack := 2, maxLocals := 1, code := jdk_43_method_3_code, exceptionTable := #[], attributes := #[] }
def k12m1 : Method := { name := "canEncode", desc := "(C)Z", sig := { parameters := [.char], returnType := some .boolean }, accessFlags := 9, code := some k12c1 }
def k12c2 : Code := { maxStack := 3, maxLocals := 3, code := jdk_43_method_13_code, exceptionTable := #[], attributes := #[] }
def k12m2 : Method := { name := "equals", desc := "([B[B)Z", sig := { parameters := [(.array .byte), (.array .byte)], returnType := some .boolean }, accessFlags := 9, code := some k12c2 }
def k12c3 : Code := { maxStack := 4, maxLocals := 1, code := jdk_43_method_46_code, exceptionTable := #[], attributes := #[] }
def k12m3 : Method := { name := "toBytes", desc := "(C)[B", sig := { parameters := [.char], returnType := some (.array .byte) }, accessFlags := 9, code := some k12c3 }
/-- java/lang/StringLatin1 -/
def k12 : Class := { plain "java/lang/StringLatin1" (some 0) with
  accessFlags := 48
  interfaces := #[]
  cf := some (fileOf pool12 14 #[.nestMembers #[390, 221]] #[{ accessFlags := 0, nameIndex := 7, descriptorIndex := 8, attributes := #[] }, { accessFlags := 9, nameIndex := 90, descriptorIndex := 105, attributes := #[] }, { accessFlags := 9, nameIndex := 281, descriptorIndex := 282, attributes := #[] }, { accessFlags := 9, nameIndex := 380, descriptorIndex := 382, attributes := #[] }] 48 4 #[] #[{ accessFlags := 4120, nameIndex := 121, descriptorIndex := 122, attributes := #[] }])
  fields := #[{ name := "$assertionsDisabled", type := .boolean, accessFlags := 4120, slot := 0, constantValue := 0 }]
  methods := #[k12m0, k12m1, k12m2, k12m3]
  instanceTypes := #[]
  staticTypes := #[.boolean]
  resolved := Array.replicate 395 none
  statics := none }

def pool13 : Array CpInfo := pool [(2, .class_ 4), (1, u "java/lang/Object"), (0, u "<init>"), (0, u "()V"), (17, .class_ 26), (1, u "jdk/internal/util/Preconditions"), (28, .class_ 56), (0, u "jdk/internal/util/Preconditions$4"), (57, .class_ 115), (0, u "jdk/internal/util/Preconditions$1"), (7, u "SIOOBE_FORMATTER"), (0, u "Ljava/util/function/BiFunction;"), (0, .class_ 126), (0, u "jdk/internal/util/Preconditions$2"), (3, u "AIOOBE_FORMATTER"), (0, .class_ 132), (0, u "jdk/internal/util/Preconditions$3"), (3, u "IOOBE_FORMATTER")] 57

def k13m0 : Method := { name := "<init>", desc := "()V", sig := { parameters := [], returnType := none }, accessFlags := 1, code := none }
/-- jdk/internal/util/Preconditions -/
def k13 : Class := { plain "jdk/internal/util/Preconditions" (some 0) with
  accessFlags := 33
  interfaces := #[]
  cf := some (fileOf pool13 24 #[.nestMembers #[55, 131, 125, 114]] #[{ accessFlags := 1, nameIndex := 5, descriptorIndex := 6, attributes := #[] }] 33 2 #[] #[{ accessFlags := 25, nameIndex := 123, descriptorIndex := 124, attributes := #[] }, { accessFlags := 25, nameIndex := 130, descriptorIndex := 124, attributes := #[] }, { accessFlags := 25, nameIndex := 136, descriptorIndex := 124, attributes := #[] }])
  fields := #[{ name := "SIOOBE_FORMATTER", type := (.object "java/util/function/BiFunction"), accessFlags := 25, slot := 0, constantValue := 0 }, { name := "AIOOBE_FORMATTER", type := (.object "java/util/function/BiFunction"), accessFlags := 25, slot := 1, constantValue := 0 }, { name := "IOOBE_FORMATTER", type := (.object "java/util/function/BiFunction"), accessFlags := 25, slot := 2, constantValue := 0 }]
  methods := #[k13m0]
  instanceTypes := #[]
  staticTypes := #[(.object "java/util/function/BiFunction"), (.object "java/util/function/BiFunction"), (.object "java/util/function/BiFunction")]
  resolved := Array.replicate 194 none
  statics := some 1 }

def pool14 : Array CpInfo := pool [(9, u "<init>"), (6, .class_ 18), (1, u "java/lang/Object"), (0, u "()V"), (1, .class_ 23), (1, u "jdk/internal/util/ArraysSupport"), (0, u "LOG2_ARRAY_LONG_INDEX_SCALE"), (0, u "I"), (2, u "U"), (0, u "Ljdk/internal/misc/Unsafe;"), (8, u "BIG_ENDIAN"), (0, u "Z"), (8, u "LOG2_BYTE_BIT_SIZE"), (4, u "LOG2_ARRAY_INT_INDEX_SCALE"), (54, u "JLA"), (0, u "Ljdk/internal/access/JavaLangAccess;"), (11, u "LOG2_ARRAY_BOOLEAN_INDEX_SCALE"), (9, u "LOG2_ARRAY_BYTE_INDEX_SCALE"), (5, u "LOG2_ARRAY_CHAR_INDEX_SCALE"), (5, u "LOG2_ARRAY_SHORT_INDEX_SCALE"), (18, u "LOG2_ARRAY_FLOAT_INDEX_SCALE"), (24, u "LOG2_ARRAY_DOUBLE_INDEX_SCALE"), (89, u "T_BOOLEAN"), (2, u "T_CHAR"), (1, u "T_FLOAT"), (1, u "T_DOUBLE"), (1, u "T_BYTE"), (1, u "T_SHORT"), (1, u "T_INT"), (1, u "T_LONG"), (1, u "SOFT_MAX_ARRAY_LENGTH")] 83

def k14m0 : Method := { name := "<init>", desc := "()V", sig := { parameters := [], returnType := none }, accessFlags := 2, code := none }
/-- jdk/internal/util/ArraysSupport -/
def k14 : Class := { plain "jdk/internal/util/ArraysSupport" (some 0) with
  accessFlags := 33
  interfaces := #[]
  cf := some (fileOf pool14 21 #[] #[{ accessFlags := 2, nameIndex := 9, descriptorIndex := 19, attributes := #[] }] 33 16 #[] #[{ accessFlags := 24, nameIndex := 28, descriptorIndex := 29, attributes := #[] }, { accessFlags := 26, nameIndex := 38, descriptorIndex := 39, attributes := #[] }, { accessFlags := 25, nameIndex := 121, descriptorIndex := 25, attributes := #[] }, { accessFlags := 25, nameIndex := 131, descriptorIndex := 25, attributes := #[] }, { accessFlags := 25, nameIndex := 137, descriptorIndex := 25, attributes := #[] }, { accessFlags := 25, nameIndex := 143, descriptorIndex := 25, attributes := #[] }, { accessFlags := 25, nameIndex := 53, descriptorIndex := 25, attributes := #[] }, { accessFlags := 25, nameIndex := 24, descriptorIndex := 25, attributes := #[] }, { accessFlags := 25, nameIndex := 162, descriptorIndex := 25, attributes := #[] }, { accessFlags := 25, nameIndex := 187, descriptorIndex := 25, attributes := #[] }, { accessFlags := 26, nameIndex := 48, descriptorIndex := 25, attributes := #[] }, { accessFlags := 25, nameIndex := 277, descriptorIndex := 25, attributes := #[] }, { accessFlags := 25, nameIndex := 280, descriptorIndex := 25, attributes := #[] }, { accessFlags := 25, nameIndex := 282, descriptorIndex := 25, attributes := #[] }, { accessFlags := 25, nameIndex := 284, descriptorIndex := 25, attributes := #[] }, { accessFlags := 25, nameIndex := 286, descriptorIndex := 25, attributes := #[] }, { accessFlags := 25, nameIndex := 288, descriptorIndex := 25, attributes := #[] }, { accessFlags := 25, nameIndex := 290, descriptorIndex := 25, attributes := #[] }, { accessFlags := 25, nameIndex := 292, descriptorIndex := 25, attributes := #[] }, { accessFlags := 26, nameIndex := 108, descriptorIndex := 109, attributes := #[] }, { accessFlags := 25, nameIndex := 294, descriptorIndex := 25, attributes := #[] }])
  fields := #[{ name := "U", type := (.object "jdk/internal/misc/Unsafe"), accessFlags := 24, slot := 0, constantValue := 0 }, { name := "BIG_ENDIAN", type := .boolean, accessFlags := 26, slot := 1, constantValue := 0 }, { name := "LOG2_ARRAY_BOOLEAN_INDEX_SCALE", type := .int, accessFlags := 25, slot := 2, constantValue := 0 }, { name := "LOG2_ARRAY_BYTE_INDEX_SCALE", type := .int, accessFlags := 25, slot := 3, constantValue := 0 }, { name := "LOG2_ARRAY_CHAR_INDEX_SCALE", type := .int, accessFlags := 25, slot := 4, constantValue := 0 }, { name := "LOG2_ARRAY_SHORT_INDEX_SCALE", type := .int, accessFlags := 25, slot := 5, constantValue := 0 }, { name := "LOG2_ARRAY_INT_INDEX_SCALE", type := .int, accessFlags := 25, slot := 6, constantValue := 0 }, { name := "LOG2_ARRAY_LONG_INDEX_SCALE", type := .int, accessFlags := 25, slot := 7, constantValue := 0 }, { name := "LOG2_ARRAY_FLOAT_INDEX_SCALE", type := .int, accessFlags := 25, slot := 8, constantValue := 0 }, { name := "LOG2_ARRAY_DOUBLE_INDEX_SCALE", type := .int, accessFlags := 25, slot := 9, constantValue := 0 }, { name := "LOG2_BYTE_BIT_SIZE", type := .int, accessFlags := 26, slot := 10, constantValue := 0 }, { name := "T_BOOLEAN", type := .int, accessFlags := 25, slot := 11, constantValue := 0 }, { name := "T_CHAR", type := .int, accessFlags := 25, slot := 12, constantValue := 0 }, { name := "T_FLOAT", type := .int, accessFlags := 25, slot := 13, constantValue := 0 }, { name := "T_DOUBLE", type := .int, accessFlags := 25, slot := 14, constantValue := 0 }, { name := "T_BYTE", type := .int, accessFlags := 25, slot := 15, constantValue := 0 }, { name := "T_SHORT", type := .int, accessFlags := 25, slot := 16, constantValue := 0 }, { name := "T_INT", type := .int, accessFlags := 25, slot := 17, constantValue := 0 }, { name := "T_LONG", type := .int, accessFlags := 25, slot := 18, constantValue := 0 }, { name := "JLA", type := (.object "jdk/internal/access/JavaLangAccess"), accessFlags := 26, slot := 19, constantValue := 0 }, { name := "SOFT_MAX_ARRAY_LENGTH", type := .int, accessFlags := 25, slot := 20, constantValue := 0 }]
  methods := #[k14m0]
  instanceTypes := #[]
  staticTypes := #[(.object "jdk/internal/misc/Unsafe"), .boolean, .int, .int, .int, .int, .int, .int, .int, .int, .int, .int, .int, .int, .int, .int, .int, .int, .int, (.object "jdk/internal/access/JavaLangAccess"), .int]
  resolved := Array.replicate 378 none
  statics := none }

def pool15 : Array CpInfo := pool [(1, u "java/lang/Cloneable"), (0, .class_ 1), (0, u "java/lang/Object"), (0, .class_ 3)] 3

/-- java/lang/Cloneable -/
def k15 : Class := { plain "java/lang/Cloneable" (some 0) with
  accessFlags := 1537
  interfaces := #[]
  cf := some (fileOf pool15 2 #[] #[] 1537 4 #[] #[])
  fields := #[]
  methods := #[]
  instanceTypes := #[]
  staticTypes := #[]
  resolved := Array.replicate 8 none
  statics := none }

/-- the primitive byte -/
def k16 : Class := { plain "byte" none with kind := .primitive 'B', accessFlags := 0x411 }
/-- [B -/
def k17 : Class := { plain "[B" (some 0) with kind := .array 16 .byte, interfaces := #[15, 3], accessFlags := 1041 }

/-- the primitive char -/
def k18 : Class := { plain "char" none with kind := .primitive 'C', accessFlags := 0x411 }
/-- [C -/
def k19 : Class := { plain "[C" (some 0) with kind := .array 18 .char, interfaces := #[15, 3], accessFlags := 1041 }

/-- the primitive int -/
def k20 : Class := { plain "int" none with kind := .primitive 'I', accessFlags := 0x411 }
/-- [I -/
def k21 : Class := { plain "[I" (some 0) with kind := .array 20 .int, interfaces := #[15, 3], accessFlags := 1041 }

def heap : Heap := #[{ cls := 8, slots := #[.long 0, .int 1, .null, .int 0, .null, .int 0, .int 0], vm := .statics 8 },
  { cls := 13, slots := #[.null, .null, .null], vm := .statics 13 }]
def classes : Array Class := #[k0, k1, k2, k3, k4, k5, k6, k7, k8, k9, k10, k11, k12, k13, k14, k15, k16, k17, k18, k19, k20, k21]
def interned : List (Array UInt16 × Addr) := []
def slotsUsed : Nat := 10
def theMethod : MethodId := ⟨1, 2⟩
def args0 : Array Value := #[.int 270, .int 67, .int 5, .int 1, .int 271, .int 4]
def aboutOver (below : List Frame) : State where
  vm := { classes := classes, interned := interned.toArray }
  heap := heap
  slotsUsed := slotsUsed
  threads := #[{ frames := .invoking theMethod args0 :: below }]
def below0 : List Frame := [.native { method := ⟨0, 0⟩, args := #[] }]
def about1 : State := aboutOver below0
def p0 : Program := .bare "" "" ""
def e0 : Env := launch0.env 0 0 0
theorem w_frames : about1.frames = Frame.invoking theMethod args0 :: below0 := rfl
set_option maxRecDepth 65536 in
theorem w_args : argsFit about1.vm theMethod args0 = true := by decide +kernel
set_option maxRecDepth 65536 in
theorem w_heap : heapFits about1 = true := by decide +kernel
set_option maxRecDepth 65536 in
theorem w_runnable : about1.curStatus? = some .runnable := by decide +kernel
set_option maxRecDepth 65536 in
theorem w_alone : about1.alone = true := by decide +kernel
set_option maxRecDepth 65536 in
theorem w_named : about1.methodNamed? x = some theMethod := by decide +kernel
set_option maxRecDepth 65536 in
theorem w_hears : about1.hears theMethod below0 = true := by decide +kernel
set_option maxRecDepth 65536 in
theorem w_ripe : about1.ripe theMethod args0 below0 = true := by decide +kernel
theorem w_running : about1.status = .running := rfl
set_option maxRecDepth 65536 in
theorem w_room : about1.hasRoom e0.platform room_1 = true :=
  launch0.hasRoom_least _ room_1 (by decide +kernel) (by decide +kernel) (by decide +kernel) (by decide +kernel) (by decide +kernel) (by decide +kernel)
theorem allAtoms_all (ts : List Jvm.Cond) (a : Array Jvm.Value) (st : Jvm.State) : (allAtoms ts).before a st = ts.all (fun c => c.before a st) := by
  induction ts with
  | nil => rfl
  | cons c t ih =>
    show (Jvm.Cond.and c (allAtoms t)).before a st = _
    rw [Jvm.Cond.before_and, ih, List.all_cons]
def words1 : List Jvm.Cond := Jvm.Cond.code x code maxLocals ret :: tables_1
/-- a 'code' word, met by the world's own term for the bytes: nothing is compared byte by byte -/
theorem code_word {y : MethodName} {bytes : ByteArray} {mx : Nat} {rt : Option FieldType} {a : Array Value} {s : State} {m : MethodId} {meth : Method} {c : Code} (h1 : s.methodNamed? y = some m) (h2 : s.vm.method? m = some meth) (h3 : meth.code = some c) (h4 : c.code = bytes)
    (h5 : (c.maxLocals == mx && c.exceptionTable.isEmpty && decide (c.maxStack ≤ mostOperands) && decide (meth.sig.returnType = rt) && !meth.locks && decide (parseMethodDescriptor y.desc = some meth.sig)) = true) : (Jvm.Cond.code y bytes mx rt).before a s = true := by
  simp only [Bool.and_eq_true, beq_iff_eq, Bool.not_eq_true', decide_eq_true_eq] at h5
  obtain ⟨⟨⟨⟨⟨g1, g2⟩, g3⟩, g4⟩, g5⟩, g6⟩ := h5
  simp [Cond.before, Cond.holds, Cond.value, h1, h2, h3, h4, g1, g2, g3, g4, g5, g6]
def isCode : Jvm.Cond → Bool
  | .code _ _ _ _ => true
  | _ => false
theorem all_split {L : List Jvm.Cond} {P : Jvm.Cond → Bool} (h1 : L.all (fun c => isCode c || P c) = true) (h2 : ∀ c ∈ L.filter isCode, P c = true) : L.all P = true := by
  refine List.all_eq_true.mpr fun c hc => ?_
  have h := List.all_eq_true.mp h1 c hc
  rcases Bool.eq_false_or_eq_true (isCode c) with hi | hi
  · exact h2 c (List.mem_filter.mpr ⟨hc, hi⟩)
  · simpa [hi] using h
set_option maxRecDepth 65536 in
theorem w_c0 : (Jvm.Cond.code x code maxLocals ret).before args0 about1 = true := code_word (m := ⟨1, 2⟩) (meth := k1m2) (c := k1c2) (by decide +kernel) rfl rfl rfl (by decide +kernel)
set_option maxRecDepth 65536 in
theorem w_c1 : (Jvm.Cond.code ({ cls := "com/example/orrery/orrery/llm/ToolCallEqualsPinLaw", name := "str", desc := "(I)Ljava/lang/String;" } : Jvm.MethodName) method_2_code (5 : Nat) (Option.some (Jvm.ClassFile.FieldType.object "java/lang/String"))).before args0 about1 = true := code_word (m := ⟨1, 1⟩) (meth := k1m1) (c := k1c1) (by decide +kernel) rfl rfl rfl (by decide +kernel)
set_option maxRecDepth 65536 in
theorem w_c2 : (Jvm.Cond.code ({ cls := "java/lang/Math", name := "min", desc := "(II)I" } : Jvm.MethodName) jdk_29_method_69_code (2 : Nat) (Option.some Jvm.ClassFile.FieldType.int)).before args0 about1 = true := code_word (m := ⟨2, 1⟩) (meth := k2m1) (c := k2c1) (by decide +kernel) rfl rfl rfl (by decide +kernel)
set_option maxRecDepth 65536 in
theorem w_c3 : (Jvm.Cond.code ({ cls := "java/lang/String", name := "<init>", desc := "([C)V" } : Jvm.MethodName) jdk_42_method_3_code (2 : Nat) (Option.none : Option Jvm.ClassFile.FieldType)).before args0 about1 = true := code_word (m := ⟨8, 1⟩) (meth := k8m1) (c := k8c1) (by decide +kernel) rfl rfl rfl (by decide +kernel)
set_option maxRecDepth 65536 in
theorem w_c4 : (Jvm.Cond.code ({ cls := "java/lang/String", name := "<init>", desc := "([CIILjava/lang/Void;)V" } : Jvm.MethodName) jdk_42_method_149_code (6 : Nat) (Option.none : Option Jvm.ClassFile.FieldType)).before args0 about1 = true := code_word (m := ⟨8, 4⟩) (meth := k8m4) (c := k8c4) (by decide +kernel) rfl rfl rfl (by decide +kernel)
set_option maxRecDepth 65536 in
theorem w_c5 : (Jvm.Cond.code ({ cls := "java/lang/Object", name := "<init>", desc := "()V" } : Jvm.MethodName) object_method_1_code (1 : Nat) (Option.none : Option Jvm.ClassFile.FieldType)).before args0 about1 = true := code_word (m := ⟨0, 0⟩) (meth := k0m0) (c := k0c0) (by decide +kernel) rfl rfl rfl (by decide +kernel)
set_option maxRecDepth 65536 in
theorem w_c6 : (Jvm.Cond.code ({ cls := "java/lang/StringUTF16", name := "compress", desc := "([CII)[B" } : Jvm.MethodName) jdk_52_method_16_code (6 : Nat) (Option.some (Jvm.ClassFile.FieldType.array Jvm.ClassFile.FieldType.byte))).before args0 about1 = true := code_word (m := ⟨9, 2⟩) (meth := k9m2) (c := k9c2) (by decide +kernel) rfl rfl rfl (by decide +kernel)
set_option maxRecDepth 65536 in
theorem w_c7 : (Jvm.Cond.code ({ cls := "java/lang/StringUTF16", name := "compress", desc := "([CI[BII)I" } : Jvm.MethodName) jdk_52_method_21_code (7 : Nat) (Option.some Jvm.ClassFile.FieldType.int)).before args0 about1 = true := code_word (m := ⟨9, 3⟩) (meth := k9m3) (c := k9c3) (by decide +kernel) rfl rfl rfl (by decide +kernel)
set_option maxRecDepth 65536 in
theorem w_c8 : (Jvm.Cond.code ({ cls := "java/lang/StringUTF16", name := "coderFromArrayLen", desc := "([BI)B" } : Jvm.MethodName) jdk_52_method_15_code (2 : Nat) (Option.some Jvm.ClassFile.FieldType.byte)).before args0 about1 = true := code_word (m := ⟨9, 1⟩) (meth := k9m1) (c := k9c1) (by decide +kernel) rfl rfl rfl (by decide +kernel)
set_option maxRecDepth 65536 in
theorem w_c9 : (Jvm.Cond.code ({ cls := "com/example/orrery/orrery/llm/ToolCall", name := "<init>", desc := "(Ljava/lang/String;Ljava/lang/String;Ljava/lang/String;)V" } : Jvm.MethodName) prog_17_method_1_code (4 : Nat) (Option.none : Option Jvm.ClassFile.FieldType)).before args0 about1 = true := code_word (m := ⟨10, 0⟩) (meth := k10m0) (c := k10c0) (by decide +kernel) rfl rfl rfl (by decide +kernel)
set_option maxRecDepth 65536 in
theorem w_c10 : (Jvm.Cond.code ({ cls := "java/util/Objects", name := "requireNonNull", desc := "(Ljava/lang/Object;Ljava/lang/String;)Ljava/lang/Object;" } : Jvm.MethodName) jdk_31_method_11_code (2 : Nat) (Option.some (Jvm.ClassFile.FieldType.object "java/lang/Object"))).before args0 about1 = true := code_word (m := ⟨11, 1⟩) (meth := k11m1) (c := k11c1) (by decide +kernel) rfl rfl rfl (by decide +kernel)
set_option maxRecDepth 65536 in
theorem w_c11 : (Jvm.Cond.code ({ cls := "java/lang/String", name := "equals", desc := "(Ljava/lang/Object;)Z" } : Jvm.MethodName) jdk_42_method_66_code (3 : Nat) (Option.some Jvm.ClassFile.FieldType.boolean)).before args0 about1 = true := code_word (m := ⟨8, 2⟩) (meth := k8m2) (c := k8c2) (by decide +kernel) rfl rfl rfl (by decide +kernel)
set_option maxRecDepth 65536 in
theorem w_c12 : (Jvm.Cond.code ({ cls := "java/lang/StringLatin1", name := "equals", desc := "([B[B)Z" } : Jvm.MethodName) jdk_43_method_13_code (3 : Nat) (Option.some Jvm.ClassFile.FieldType.boolean)).before args0 about1 = true := code_word (m := ⟨12, 2⟩) (meth := k12m2) (c := k12c2) (by decide +kernel) rfl rfl rfl (by decide +kernel)
set_option maxRecDepth 65536 in
theorem w_c13 : (Jvm.Cond.code ({ cls := "com/example/orrery/orrery/llm/ToolCall", name := "equals", desc := "(Ljava/lang/Object;)Z" } : Jvm.MethodName) prog_17_method_5_code (3 : Nat) (Option.some Jvm.ClassFile.FieldType.boolean)).before args0 about1 = true := code_word (m := ⟨10, 1⟩) (meth := k10m1) (c := k10c1) (by decide +kernel) rfl rfl rfl (by decide +kernel)
set_option maxRecDepth 65536 in
theorem w_c14 : (Jvm.Cond.code ({ cls := "java/lang/String", name := "valueOf", desc := "(C)Ljava/lang/String;" } : Jvm.MethodName) jdk_42_method_139_code (1 : Nat) (Option.some (Jvm.ClassFile.FieldType.object "java/lang/String"))).before args0 about1 = true := code_word (m := ⟨8, 3⟩) (meth := k8m3) (c := k8c3) (by decide +kernel) rfl rfl rfl (by decide +kernel)
set_option maxRecDepth 65536 in
theorem w_c15 : (Jvm.Cond.code ({ cls := "java/lang/StringLatin1", name := "canEncode", desc := "(C)Z" } : Jvm.MethodName) jdk_43_method_3_code (1 : Nat) (Option.some Jvm.ClassFile.FieldType.boolean)).before args0 about1 = true := code_word (m := ⟨12, 1⟩) (meth := k12m1) (c := k12c1) (by decide +kernel) rfl rfl rfl (by decide +kernel)
set_option maxRecDepth 65536 in
theorem w_c16 : (Jvm.Cond.code ({ cls := "java/lang/StringLatin1", name := "toBytes", desc := "(C)[B" } : Jvm.MethodName) jdk_43_method_46_code (1 : Nat) (Option.some (Jvm.ClassFile.FieldType.array Jvm.ClassFile.FieldType.byte))).before args0 about1 = true := code_word (m := ⟨12, 3⟩) (meth := k12m3) (c := k12c3) (by decide +kernel) rfl rfl rfl (by decide +kernel)
set_option maxRecDepth 65536 in
theorem w_c17 : (Jvm.Cond.code ({ cls := "java/lang/String", name := "<init>", desc := "([BB)V" } : Jvm.MethodName) jdk_42_method_151_code (3 : Nat) (Option.none : Option Jvm.ClassFile.FieldType)).before args0 about1 = true := code_word (m := ⟨8, 5⟩) (meth := k8m5) (c := k8c5) (by decide +kernel) rfl rfl rfl (by decide +kernel)
def codes1 : List Jvm.Cond := [Jvm.Cond.code x code maxLocals ret, Jvm.Cond.code ({ cls := "com/example/orrery/orrery/llm/ToolCallEqualsPinLaw", name := "str", desc := "(I)Ljava/lang/String;" } : Jvm.MethodName) method_2_code (5 : Nat) (Option.some (Jvm.ClassFile.FieldType.object "java/lang/String")), Jvm.Cond.code ({ cls := "java/lang/Math", name := "min", desc := "(II)I" } : Jvm.MethodName) jdk_29_method_69_code (2 : Nat) (Option.some Jvm.ClassFile.FieldType.int), Jvm.Cond.code ({ cls := "java/lang/String", name := "<init>", desc := "([C)V" } : Jvm.MethodName) jdk_42_method_3_code (2 : Nat) (Option.none : Option Jvm.ClassFile.FieldType), Jvm.Cond.code ({ cls := "java/lang/String", name := "<init>", desc := "([CIILjava/lang/Void;)V" } : Jvm.MethodName) jdk_42_method_149_code (6 : Nat) (Option.none : Option Jvm.ClassFile.FieldType), Jvm.Cond.code ({ cls := "java/lang/Object", name := "<init>", desc := "()V" } : Jvm.MethodName) object_method_1_code (1 : Nat) (Option.none : Option Jvm.ClassFile.FieldType), Jvm.Cond.code ({ cls := "java/lang/StringUTF16", name := "compress", desc := "([CII)[B" } : Jvm.MethodName) jdk_52_method_16_code (6 : Nat) (Option.some (Jvm.ClassFile.FieldType.array Jvm.ClassFile.FieldType.byte)), Jvm.Cond.code ({ cls := "java/lang/StringUTF16", name := "compress", desc := "([CI[BII)I" } : Jvm.MethodName) jdk_52_method_21_code (7 : Nat) (Option.some Jvm.ClassFile.FieldType.int), Jvm.Cond.code ({ cls := "java/lang/StringUTF16", name := "coderFromArrayLen", desc := "([BI)B" } : Jvm.MethodName) jdk_52_method_15_code (2 : Nat) (Option.some Jvm.ClassFile.FieldType.byte), Jvm.Cond.code ({ cls := "com/example/orrery/orrery/llm/ToolCall", name := "<init>", desc := "(Ljava/lang/String;Ljava/lang/String;Ljava/lang/String;)V" } : Jvm.MethodName) prog_17_method_1_code (4 : Nat) (Option.none : Option Jvm.ClassFile.FieldType), Jvm.Cond.code ({ cls := "java/util/Objects", name := "requireNonNull", desc := "(Ljava/lang/Object;Ljava/lang/String;)Ljava/lang/Object;" } : Jvm.MethodName) jdk_31_method_11_code (2 : Nat) (Option.some (Jvm.ClassFile.FieldType.object "java/lang/Object")), Jvm.Cond.code ({ cls := "java/lang/String", name := "equals", desc := "(Ljava/lang/Object;)Z" } : Jvm.MethodName) jdk_42_method_66_code (3 : Nat) (Option.some Jvm.ClassFile.FieldType.boolean), Jvm.Cond.code ({ cls := "java/lang/StringLatin1", name := "equals", desc := "([B[B)Z" } : Jvm.MethodName) jdk_43_method_13_code (3 : Nat) (Option.some Jvm.ClassFile.FieldType.boolean), Jvm.Cond.code ({ cls := "com/example/orrery/orrery/llm/ToolCall", name := "equals", desc := "(Ljava/lang/Object;)Z" } : Jvm.MethodName) prog_17_method_5_code (3 : Nat) (Option.some Jvm.ClassFile.FieldType.boolean), Jvm.Cond.code ({ cls := "java/lang/String", name := "valueOf", desc := "(C)Ljava/lang/String;" } : Jvm.MethodName) jdk_42_method_139_code (1 : Nat) (Option.some (Jvm.ClassFile.FieldType.object "java/lang/String")), Jvm.Cond.code ({ cls := "java/lang/StringLatin1", name := "canEncode", desc := "(C)Z" } : Jvm.MethodName) jdk_43_method_3_code (1 : Nat) (Option.some Jvm.ClassFile.FieldType.boolean), Jvm.Cond.code ({ cls := "java/lang/StringLatin1", name := "toBytes", desc := "(C)[B" } : Jvm.MethodName) jdk_43_method_46_code (1 : Nat) (Option.some (Jvm.ClassFile.FieldType.array Jvm.ClassFile.FieldType.byte)), Jvm.Cond.code ({ cls := "java/lang/String", name := "<init>", desc := "([BB)V" } : Jvm.MethodName) jdk_42_method_151_code (3 : Nat) (Option.none : Option Jvm.ClassFile.FieldType)]
set_option maxRecDepth 65536 in
theorem codes_eq : words1.filter isCode = codes1 := rfl
theorem w_codes : ∀ c ∈ words1.filter isCode, c.before args0 about1 = true := by
  rw [codes_eq]
  intro c hc
  simp only [codes1, List.mem_cons, List.not_mem_nil, or_false] at hc
  rcases hc with rfl | rfl | rfl | rfl | rfl | rfl | rfl | rfl | rfl | rfl | rfl | rfl | rfl | rfl | rfl | rfl | rfl | rfl
  · exact w_c0
  · exact w_c1
  · exact w_c2
  · exact w_c3
  · exact w_c4
  · exact w_c5
  · exact w_c6
  · exact w_c7
  · exact w_c8
  · exact w_c9
  · exact w_c10
  · exact w_c11
  · exact w_c12
  · exact w_c13
  · exact w_c14
  · exact w_c15
  · exact w_c16
  · exact w_c17
set_option maxRecDepth 65536 in
theorem w_t1 : (words1.take 24).all (fun c => isCode c || c.before args0 about1) = true := by decide +kernel
set_option maxRecDepth 65536 in
theorem w_t2 : ((words1.drop 24).take 24).all (fun c => isCode c || c.before args0 about1) = true := by decide +kernel
set_option maxRecDepth 65536 in
theorem w_t3 : (((words1.drop 24).drop 24).take 24).all (fun c => isCode c || c.before args0 about1) = true := by decide +kernel
set_option maxRecDepth 65536 in
theorem w_t4 : (((words1.drop 24).drop 24).drop 24).all (fun c => isCode c || c.before args0 about1) = true := by decide +kernel
theorem w_tables : (allAtoms (Jvm.Cond.code x code maxLocals ret :: tables_1)).before args0 about1 = true := by
  rw [allAtoms_all]
  show words1.all (fun c => c.before args0 about1) = true
  refine all_split ?_ w_codes
  rw [← List.take_append_drop 24 words1, List.all_append, w_t1, ← List.take_append_drop 24 (words1.drop 24), List.all_append, w_t2, ← List.take_append_drop 24 ((words1.drop 24).drop 24), List.all_append, w_t3, w_t4]
  rfl
set_option maxRecDepth 65536 in
theorem w_rest : rest_1_c.before args0 about1 = true := by decide +kernel
set_option maxRecDepth 65536 in
theorem w_case : (Jvm.Cond.and given_1 narrow_1).before args0 about1 = true := by decide +kernel
set_option maxRecDepth 65536 in
theorem w_consts : constsHeld consts_1 about1 := Jvm.Lit.constsHeldB_iff.mp (by decide +kernel)
theorem w_applies : (headSpec (Jvm.Cond.code x code maxLocals ret :: tables_1) room_1).applies x e0.platform about1 = true :=
  (Spec.applies_iff w_frames).mpr ⟨w_running, w_runnable, w_alone, w_named, w_hears, w_ripe, w_room, w_tables⟩
theorem atStart : AtStart classFile x code maxLocals ret World_1 tables_1 room_1 Calls_1 rest_1 Pre_1 launch0 p0 e0 about1 theMethod args0 below0 :=
  ⟨lists_1, trivial, launch0.admits_env _ _ _, launch0.least_env, fairChoices_fair.cas, fairChoices_fair.clock, w_frames, w_args, w_heap, w_applies, ⟨w_consts, trivial⟩, w_rest, w_case⟩
end start1
theorem witness_1 : WitnessClaimed_1 := ⟨start1.p0, start1.e0, start1.about1, start1.theMethod, start1.args0, start1.below0, start1.atStart⟩
end Jvm.Pilot.@@N@@
